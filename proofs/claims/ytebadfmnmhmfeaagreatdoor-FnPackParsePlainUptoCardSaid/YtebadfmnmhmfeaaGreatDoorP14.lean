/- What the functions of the program do, one contract each (P62, P67, P68, P69, P63, P64, P65, P66); each states its own conditions. -/
import Derived.Test.YtebadfmnmhmfeaaGreatDoorP13
namespace Go.Proofs.YtebadfmnmhmfeaaGreatDoor.T
open Go.Proofs.YtebadfmnmhmfeaaGreatDoor.Sx Go.RowKit
set_option maxRecDepth 20000
set_option linter.unusedSimpArgs false
set_option linter.unusedVariables false
set_option linter.unnecessarySimpa false
set_option linter.unusedSectionVars false
theorem get1 (x : SV) : ∀ j,j < 1 * 1 → lget [x] j = x
 | 0,_=>rfl
 | j + 1,h=>absurd h (by omega)
theorem f19 (μ) (k : Int) (hk : 1 ≤ k ∧ k ≤ 4) : Fun Tryz.prog μ 19 [.v (.int .i64 k)] [] 0 (fun t : ByteArray=>t.size ≤ 8) (fun t=>⟨.v (.string t),[],0⟩):=by
 rcases (by omega : k = 1 ∨ k = 2 ∨ k = 3 ∨ k = 4) with rfl | rfl | rfl | rfl
 ·skip
  refine fE 7 Tryz.func19 fun zw zβ=>?_
  refine cF [0] ?_
  refine rS [0] ?_
  refine rS [2] ?_
  refine GC.ret ?_
  refine fR (.inl rfl) rfl (by trivial) _ [] rfl rfl rfl rfl (by decide)
 ·skip
  refine fE 7 Tryz.func19 fun zw zβ=>?_
  refine cF [0] ?_
  refine rS [0] ?_
  refine rS [2] ?_
  refine GC.ret ?_
  refine fR (.inl rfl) rfl (by trivial) _ [] rfl rfl rfl rfl (by decide)
 ·skip
  refine fE 7 Tryz.func19 fun zw zβ=>?_
  refine cF [0] ?_
  refine rS [0] ?_
  refine rS [2] ?_
  refine GC.ret ?_
  refine fR (.inl rfl) rfl (by trivial) _ [] rfl rfl rfl rfl (by decide)
 ·skip
  refine fE 7 Tryz.func19 fun zw zβ=>?_
  refine cF [0] ?_
  refine rS [0] ?_
  refine rS [2] ?_
  refine GC.ret ?_
  refine fR (.inl rfl) rfl (by trivial) _ [] rfl rfl rfl rfl (by decide)
theorem f18n (μ) (z : Option Addr) (F : Nat → Option Obj) (t : ByteArray) (ht : t.size ≤ 8) : Fun Tryz.prog μ 18 [.v (.string t),.v (.slice z 0 0)] [(0,.fz F)] 1 (fun x : Nat × (Nat → Int)=>20 ≤ x.1 ∧ ∀ j,j < 20 → 0 ≤ x.2 j ∧ x.2 j < 256) (fun x=>⟨.slc 1 0 20 x.1,[(0,.fz F),(1,.row ⟨.ints .u8 x.2,x.1,5⟩)],2⟩):=by
 have e32 : (ByteArray.mk #[32]).size = 1:=rfl
 refine fE 19 Tryz.func18 fun zw zβ=>?_
 refine cF [0,1] ?_
 refine rS [0,1] ?_ (hc:=(by (repeat' first | exact trivial | refine And.intro ?_ ?_) <;> (try simp only [ByteArray.size_append,Int.reduceToNat,IntKind.bits,Nat.reduceLeDiff,Nat.min_eq_left,Int.reducePow,InI64,InI32]) <;> omega))
 refine GL.seqR ?_
 refine lK 4 [1,7,9] ?_ (hc:=(by (repeat' first | exact trivial | refine And.intro ?_ ?_) <;> (try simp only [ByteArray.size_append,Int.reduceToNat,IntKind.bits,Nat.reduceLeDiff,Nat.min_eq_left,Int.reducePow,InI64,InI32]) <;> omega))
 refine GL.op rfl (cR rfl (f36 _ 17 ((0 : Nat) : Int) (by decide) (by decide) (by decide) (by decide)) [] rfl rfl rfl rfl fun td htd=>?_)
 refine gF [1,7,10] rfl ?_
 refine lK 1 [1,11] ?_ (hc:=(by (repeat' first | exact trivial | refine And.intro ?_ ?_) <;> (try simp only [ByteArray.size_append,Int.reduceToNat,IntKind.bits,Nat.reduceLeDiff,Nat.min_eq_left,Int.reducePow,InI64,InI32]) <;> omega))
 have hsz : (t ++ ByteArray.mk #[32] ++ td).size = t.size + 1 + td.size:=by rw [ByteArray.size_append,ByteArray.size_append]; rfl
 refine GL.op rfl (OpW.bytes rfl rfl rfl rfl rfl (by show (t ++ ByteArray.mk #[32] ++ td).size < _; omega) (fun cap1 F1 h1 h2 h3 ρ' hp=>?_) rfl)
 obtain rfl:=Option.some.inj hp; clear hp
 refine gF [1,12] rfl ?_
 have h1 : (t ++ ByteArray.mk #[32] ++ td).size ≤ cap1:=h1
 refine lK 1 [1,12,13] ?_ (hc:=(by (repeat' first | exact trivial | refine And.intro ?_ ?_) <;> (try simp only [ByteArray.size_append,Int.reduceToNat,IntKind.bits,Nat.reduceLeDiff,Nat.min_eq_left,Int.reducePow,InI64,InI32]) <;> omega))
 refine GL.op rfl (OpW.appendI (m:=1) (N:=fun _=>0) rfl rfl rfl rfl rfl rfl rfl rfl rfl rfl (Nat.le_of_ble_eq_true rfl) (h1) (src_slc rfl rfl (Nat.le_of_ble_eq_true rfl) (fun j hj=>by rw [Nat.zero_add]; exact get1 _ j hj)) (by omega) (by show (_ + _) * 1 ≤ 140737488355328; omega) rfl ?_ rfl rfl)
 intro c4 F4 r1 r2 r3 r4 ρ' hp
 obtain rfl:=Option.some.inj hp; clear hp
 refine gF [1,14] rfl ?_
 refine lF [1,5] (GK.code ?_) (hc:=(by (repeat' first | exact trivial | refine And.intro ?_ ?_) <;> (try simp only [ByteArray.size_append,Int.reduceToNat,IntKind.bits,Nat.reduceLeDiff,Nat.min_eq_left,Int.reducePow,InI64,InI32]) <;> omega))
 refine GL.seqR ?_
 refine lK 2 [15,16] ?_ (hc:=(by (repeat' first | exact trivial | refine And.intro ?_ ?_) <;> (try simp only [ByteArray.size_append,Int.reduceToNat,IntKind.bits,Nat.reduceLeDiff,Nat.min_eq_left,Int.reducePow,InI64,InI32]) <;> omega))
 refine GL.op rfl (OpW.appendI (m:=0) (N:=fun _=>0) rfl rfl rfl rfl rfl rfl rfl rfl rfl rfl (Nat.le_of_ble_eq_true rfl) (r1) (src_nil rfl) (by omega) (by show (_ + _) * 1 ≤ 140737488355328; omega) rfl ?_ rfl rfl)
 intro c5 F5 s1 s2 s3 s4 ρ' hp
 obtain rfl:=Option.some.inj hp; clear hp
 refine gF [17] rfl ?_
 refine GL.op rfl (cR rfl (f22 _ F5 0 ((t ++ ByteArray.mk #[32] ++ td).size + 1 + 0) c5 c5 (by omega) (by omega)) [1] rfl rfl rfl rfl ?_)
 intro ⟨dc,D⟩ hD
 refine gF [18] rfl ?_
 refine lF [4] (GK.code ?_) (hc:=(by (repeat' first | exact trivial | refine And.intro ?_ ?_) <;> (try simp only [ByteArray.size_append,Int.reduceToNat,IntKind.bits,Nat.reduceLeDiff,Nat.min_eq_left,Int.reducePow,InI64,InI32]) <;> omega))
 refine GC.ret ?_
 refine fR (.inl rfl) rfl (by (repeat' first | exact trivial | refine And.intro ?_ ?_) <;> (try simp only [ByteArray.size_append,Int.reduceToNat,IntKind.bits,Nat.reduceLeDiff,Nat.min_eq_left,Int.reducePow,InI64,InI32]) <;> omega) ((dc,D)) [0,3] rfl rfl rfl rfl (⟨hD.1,fun j hj=>by have e : D j = _:=hD.2 j hj; show 0 ≤ D j ∧ D j < 256; rw [e]; exact w8_lt _⟩)
theorem f18m (μ) (F : Nat → Option Obj) (t : ByteArray) (ht : t.size ≤ 8) (b o n c : Nat) (T : Nat → Int) (hn : n ≤ 1048576) (hk : ∀ j,j < n → muAt μ b (o + j) = some (.int .u8 (T j)) ∨ fzAt F b (o + j) = some (.int .u8 (T j))) : Fun Tryz.prog μ 18 [.v (.string t),.v (.slice (some ⟨b,o,none⟩) n c)] [(0,.fz F)] 1 (fun x : Nat × (Nat → Int)=>20 ≤ x.1 ∧ ∀ j,j < 20 → 0 ≤ x.2 j ∧ x.2 j < 256) (fun x=>⟨.slc 1 0 20 x.1,[(0,.fz F),(1,.row ⟨.ints .u8 x.2,x.1,5⟩)],2⟩):=by
 have e32 : (ByteArray.mk #[32]).size = 1:=rfl
 refine fE 19 Tryz.func18 fun zw zβ=>?_
 refine cF [0,1] ?_
 refine rS [0,1] ?_ (hc:=(by (repeat' first | exact trivial | refine And.intro ?_ ?_) <;> (try simp only [ByteArray.size_append,Int.reduceToNat,IntKind.bits,Nat.reduceLeDiff,Nat.min_eq_left,Int.reducePow,InI64,InI32]) <;> omega))
 refine GL.seqR ?_
 refine lK 4 [1,7,9] ?_ (hc:=(by (repeat' first | exact trivial | refine And.intro ?_ ?_) <;> (try simp only [ByteArray.size_append,Int.reduceToNat,IntKind.bits,Nat.reduceLeDiff,Nat.min_eq_left,Int.reducePow,InI64,InI32]) <;> omega))
 refine GL.op rfl (cR rfl (f36 _ 17 (n : Int) (by decide) (by omega) (by omega) (by omega)) [] rfl rfl rfl rfl fun td htd=>?_)
 refine gF [1,7,10] rfl ?_
 refine lK 1 [1,11] ?_ (hc:=(by (repeat' first | exact trivial | refine And.intro ?_ ?_) <;> (try simp only [ByteArray.size_append,Int.reduceToNat,IntKind.bits,Nat.reduceLeDiff,Nat.min_eq_left,Int.reducePow,InI64,InI32]) <;> omega))
 have hsz : (t ++ ByteArray.mk #[32] ++ td).size = t.size + 1 + td.size:=by rw [ByteArray.size_append,ByteArray.size_append]; rfl
 refine GL.op rfl (OpW.bytes rfl rfl rfl rfl rfl (by show (t ++ ByteArray.mk #[32] ++ td).size < _; omega) (fun cap1 F1 h1 h2 h3 ρ' hp=>?_) rfl)
 obtain rfl:=Option.some.inj hp; clear hp
 refine gF [1,12] rfl ?_
 have h1 : (t ++ ByteArray.mk #[32] ++ td).size ≤ cap1:=h1
 refine lK 1 [1,12,13] ?_ (hc:=(by (repeat' first | exact trivial | refine And.intro ?_ ?_) <;> (try simp only [ByteArray.size_append,Int.reduceToNat,IntKind.bits,Nat.reduceLeDiff,Nat.min_eq_left,Int.reducePow,InI64,InI32]) <;> omega))
 refine GL.op rfl (OpW.appendI (m:=1) (N:=fun _=>0) rfl rfl rfl rfl rfl rfl rfl rfl rfl rfl (Nat.le_of_ble_eq_true rfl) (h1) (src_slc rfl rfl (Nat.le_of_ble_eq_true rfl) (fun j hj=>by rw [Nat.zero_add]; exact get1 _ j hj)) (by omega) (by show (_ + _) * 1 ≤ 140737488355328; omega) rfl ?_ rfl rfl)
 intro c4 F4 r1 r2 r3 r4 ρ' hp
 obtain rfl:=Option.some.inj hp; clear hp
 refine gF [1,14] rfl ?_
 refine lF [1,5] (GK.code ?_) (hc:=(by (repeat' first | exact trivial | refine And.intro ?_ ?_) <;> (try simp only [ByteArray.size_append,Int.reduceToNat,IntKind.bits,Nat.reduceLeDiff,Nat.min_eq_left,Int.reducePow,InI64,InI32]) <;> omega))
 refine GL.seqR ?_
 refine lK 2 [15,16] ?_ (hc:=(by (repeat' first | exact trivial | refine And.intro ?_ ?_) <;> (try simp only [ByteArray.size_append,Int.reduceToNat,IntKind.bits,Nat.reduceLeDiff,Nat.min_eq_left,Int.reducePow,InI64,InI32]) <;> omega))
 refine GL.op rfl (OpW.appendI (m:=n) (N:=T) rfl rfl rfl rfl rfl rfl rfl rfl rfl rfl (Nat.le_of_ble_eq_true rfl) (r1) (src_kn rfl (z:=0) rfl hk) (by omega) (by show (_ + _) * 1 ≤ 140737488355328; omega) rfl ?_ rfl rfl)
 intro c5 F5 s1 s2 s3 s4 ρ' hp
 obtain rfl:=Option.some.inj hp; clear hp
 refine gF [17] rfl ?_
 refine GL.op rfl (cR rfl (f22 _ F5 0 ((t ++ ByteArray.mk #[32] ++ td).size + 1 + n) c5 c5 (by omega) (by omega)) [1] rfl rfl rfl rfl ?_)
 intro ⟨dc,D⟩ hD
 refine gF [18] rfl ?_
 refine lF [4] (GK.code ?_) (hc:=(by (repeat' first | exact trivial | refine And.intro ?_ ?_) <;> (try simp only [ByteArray.size_append,Int.reduceToNat,IntKind.bits,Nat.reduceLeDiff,Nat.min_eq_left,Int.reducePow,InI64,InI32]) <;> omega))
 refine GC.ret ?_
 refine fR (.inl rfl) rfl (by (repeat' first | exact trivial | refine And.intro ?_ ?_) <;> (try simp only [ByteArray.size_append,Int.reduceToNat,IntKind.bits,Nat.reduceLeDiff,Nat.min_eq_left,Int.reducePow,InI64,InI32]) <;> omega) ((dc,D)) [0,3] rfl rfl rfl rfl (⟨hD.1,fun j hj=>by have e : D j = _:=hD.2 j hj; show 0 ≤ D j ∧ D j < 256; rw [e]; exact w8_lt _⟩)
theorem or_add {a b i : Nat} (h : b < 2 ^ i) : a * 2 ^ i ||| b = a * 2 ^ i + b:=by
 have:=Nat.shiftLeft_add_eq_or_of_lt h a
 rw [Nat.shiftLeft_eq] at this
 exact this.symm
def RestH (F : Nat → Int) (l c r q : Nat) : Prop:=(r = 0 ∧ F l = (c : Int) ∧ q = l + 1) ∨ (0 < r ∧ F l = ((c + 128 : Nat) : Int) ∧ Tl F (l + 1) r q)
theorem RestH.step {F : Nat → Int} {l c r q : Nat} (hr : 0 < r) (hF : F l = ((c + 128 : Nat) : Int)) (h : RestH F (l + 1) (r % 128) (r / 128) q) : RestH F l c r q:=by
 refine .inr ⟨hr,hF,?_⟩
 rcases h with ⟨h1,h2,h3⟩ | ⟨h1,h2,h3⟩
 ·rw [h3]; exact .last (by omega) (by rw [h2,Nat.mod_eq_of_lt (by omega)])
 ·exact .more (by omega) h2 h3
theorem RestH.hd {F : Nat → Int} {k n q : Nat} (hk : k < 8) (h : RestH F 0 (k * 16 + n % 16) (n / 16) q) : Hd F 0 k n q:=by
 refine ⟨hk,?_⟩
 rcases h with ⟨h1,h2,h3⟩ | ⟨h1,h2,h3⟩
 ·exact .inl ⟨by omega,by rw [h2,Nat.mod_eq_of_lt (by omega)],h3⟩
 ·exact .inr ⟨by omega,h2,h3⟩
def L16 (c r l cap : Nat) (F : Nat → Int) : S:=⟨[(1,.v (.int .i64 r)),(5,.v (.int .u8 c)),(6,.slc 0 0 l cap)],[(0,.row ⟨.ints .u8 F,cap,5⟩)],1,[]⟩
theorem f16 (μ) (k n : Nat) (hk : 1 ≤ k ∧ k ≤ 4) (hn : n ≤ 1048576) : Fun Tryz.prog μ 16 [.v (.int .i64 k),.v (.int .i64 n)] [] 0 (fun x : Nat × Nat × (Nat → Int)=>Hd x.2.2 0 k n x.1 ∧ x.1 ≤ x.2.1 ∧ x.1 ≤ 65540 ∧ ∀ j,j < x.1 → 0 ≤ x.2.2 j ∧ x.2.2 j < 256) (fun x=>⟨.slc 0 0 x.1 x.2.1,[(0,.row ⟨.ints .u8 x.2.2,x.2.1,5⟩)],1⟩):=by
 have hor : bitZ .or 64 ((k : Int) * 16) ((n : Int) % 16) = ((k * 16 + n % 16 : Nat) : Int):=by
  rw [bitZ_or (by omega) (by omega) (by omega) (by omega),show ((k : Int) * 16).toNat = k * 2 ^ 4 from by omega,show ((n : Int) % 16).toNat = n % 16 from by omega,or_add (by omega)]
 refine fE 31 Tryz.func16 fun zw zβ=>?_
 refine cF [0,1] ?_
 refine rS [0,1] ?_ (hc:=(by (repeat' first | exact trivial | refine And.intro ?_ ?_) <;> (try simp only [Int.reduceToNat,IntKind.bits,Nat.reduceLeDiff,Nat.min_eq_left,Int.reducePow,InI64,InI32,hor]) <;> omega))
 refine rS [1,5] ?_ (hc:=(by (repeat' first | exact trivial | refine And.intro ?_ ?_) <;> (try simp only [Int.reduceToNat,IntKind.bits,Nat.reduceLeDiff,Nat.min_eq_left,Int.reducePow,InI64,InI32,hor]) <;> omega))
 refine rS [1,5] ?_ (hc:=(by (repeat' first | exact trivial | refine And.intro ?_ ?_) <;> (try simp only [Int.reduceToNat,IntKind.bits,Nat.reduceLeDiff,Nat.min_eq_left,Int.reducePow,InI64,InI32,hor]) <;> omega))
 refine GC.abs 1 rfl (fun _=>rfl) fun x1 hx1=>?_
 obtain rfl : x1 = ((n / 16 : Nat) : Int):=by rw [hx1]; omega
 refine GC.abs 5 rfl (fun _=>rfl) fun x5 hx5=>?_
 have e16 : (2 : Int) ^ min (Int.toNat 4) IntKind.i64.bits = 16:=by decide
 rw [e16] at hx5
 have hx5 : x5 = w8 (bitZ .or 64 ((k : Int) * 16) ((n : Int) % 16)):=hx5
 obtain rfl : x5 = ((k * 16 + n % 16 : Nat) : Int):=by rw [hx5,hor]; unfold w8; omega
 refine rS [1,5,6] ?_ (hc:=(by (repeat' first | exact trivial | refine And.intro ?_ ?_) <;> (try simp only [Int.reduceToNat,IntKind.bits,Nat.reduceLeDiff,Nat.min_eq_left,Int.reducePow,InI64,InI32,hor]) <;> omega))
 refine GC.nilg 6 (.ints .u8 fun _=>0) 5 rfl ?_
 refine GC.seq (GC.block ?_)
 refine GC.loopE (ι:=(Nat) × (Nat) × (Nat) × (Nat) × (Nat → Int)) (fun zi=>(fun (c r l cap : Nat) (F : Nat → Int)=>c < 128 ∧ l ≤ cap ∧ l + r ≤ 65536 ∧ (∀ j,j < l → 0 ≤ F j ∧ F j < 256) ∧ ∀ F' q,(∀ j,j < l → F' j = F j) → RestH F' l c r q → Hd F' 0 k n q) zi.1 zi.2.1 zi.2.2.1 zi.2.2.2.1 zi.2.2.2.2) (fun zi=>(fun c r l cap F=>(r : Nat)) zi.1 zi.2.1 zi.2.2.1 zi.2.2.2.1 zi.2.2.2.2) (fun zi=>(L16) zi.1 zi.2.1 zi.2.2.1 zi.2.2.2.1 zi.2.2.2.2) ((k * 16 + n % 16,n / 16,0,0,fun _=>0)) [0] (show (fun (c r l cap : Nat) (F : Nat → Int)=>c < 128 ∧ l ≤ cap ∧ l + r ≤ 65536 ∧ (∀ j,j < l → 0 ≤ F j ∧ F j < 256) ∧ ∀ F' q,(∀ j,j < l → F' j = F j) → RestH F' l c r q → Hd F' 0 k n q) (k * 16 + n % 16) (n / 16) (0) (0) (fun _=>0) from ?_) (Ent.R rfl rfl rfl rfl) ?_
 ·exact ⟨by omega,Nat.zero_le _,by omega,fun j hj=>absurd hj (Nat.not_lt_zero _),fun F' q _ h=>h.hd (by omega)⟩
 rintro ⟨c,r,l,cap,F⟩ hI
 change (fun (c r l cap : Nat) (F : Nat → Int)=>c < 128 ∧ l ≤ cap ∧ l + r ≤ 65536 ∧ (∀ j,j < l → 0 ≤ F j ∧ F j < 256) ∧ ∀ F' q,(∀ j,j < l → F' j = F j) → RestH F' l c r q → Hd F' 0 k n q) c r l cap F at hI
 try dsimp only at hI
 change GC _ _ _ ((L16) c r l cap F)
 obtain ⟨hc,hl,hlr,hB,hK⟩:=hI
 have hor8 : bitZ .or 8 (c : Int) 128 = ((c + 128 : Nat) : Int):=by rw [bitZ_or (by omega) (by omega) (by omega) (by omega),show ((c : Int)).toNat = c from by omega,show ((128 : Int)).toNat = 1 * 2 ^ 7 from rfl,Nat.or_comm,or_add (by omega)]; congr 1; omega
 unfold L16
 refine cF [1,5,6] ?_
 refine GC.seq ?_
 refine rS [1,5,6,16] ?_ (hc:=(by (repeat' first | exact trivial | refine And.intro ?_ ?_) <;> (try simp only [Int.reduceToNat,IntKind.bits,Nat.reduceLeDiff,Nat.min_eq_left,Int.reducePow,InI64,InI32,hor]) <;> omega))
 refine GC.cond rfl (fun hr=>?_) (fun hr=>?_)
 ·have hr : (r : Int) > 0:=by simpa using hr
  refine GC.skip (GK.code (GC.block (GL.seqR ?_)))
  refine lK 4 [1,17,20] ?_ (hc:=(by (repeat' first | exact trivial | refine And.intro ?_ ?_) <;> (try simp only [Int.reduceToNat,IntKind.bits,Nat.reduceLeDiff,Nat.min_eq_left,Int.reducePow,InI64,InI32,hor]) <;> omega))
  refine GL.op rfl (OpW.appendI (m:=1) (N:=fun _=>((c + 128 : Nat) : Int)) rfl rfl rfl rfl rfl rfl rfl rfl rfl rfl (Nat.le_of_ble_eq_true rfl) (hl) (src_slc rfl rfl (Nat.le_of_ble_eq_true rfl) (fun j hj=>by rw [Nat.zero_add]; exact (get1 _ j hj).trans (congrArg (fun z=>SV.v (.int .u8 z)) (show w8 (bitZ .or 8 (c : Int) 128) = ((c + 128 : Nat) : Int) by rw [hor8]; unfold w8; omega)))) (by omega) (by show (_ + _) * 1 ≤ 140737488355328; omega) rfl ?_ rfl rfl)
  intro c4 F4 r1 r2 r3 r4 ρ' hp
  obtain rfl:=Option.some.inj hp; clear hp
  refine gF [1,21] rfl ?_
  refine lF [1,6] (GK.code ?_) (hc:=(by (repeat' first | exact trivial | refine And.intro ?_ ?_) <;> (try simp only [Int.reduceToNat,IntKind.bits,Nat.reduceLeDiff,Nat.min_eq_left,Int.reducePow,InI64,InI32,hor]) <;> omega))
  refine rS [1,5,6] ?_ (hc:=(by (repeat' first | exact trivial | refine And.intro ?_ ?_) <;> (try simp only [Int.reduceToNat,IntKind.bits,Nat.reduceLeDiff,Nat.min_eq_left,Int.reducePow,InI64,InI32,hor]) <;> omega))
  refine rG [1,5,6] ?_ (hc:=(by (repeat' first | exact trivial | refine And.intro ?_ ?_) <;> (try simp only [Int.reduceToNat,IntKind.bits,Nat.reduceLeDiff,Nat.min_eq_left,Int.reducePow,InI64,InI32,hor]) <;> omega))
  refine GK.abs 5 rfl (fun _=>rfl) fun x5 hx5=>?_
  obtain rfl : x5 = ((r % 128 : Nat) : Int):=by rw [hx5]; unfold w8; omega
  refine GK.abs 1 rfl (fun _=>rfl) fun x1 hx1=>?_
  obtain rfl : x1 = ((r / 128 : Nat) : Int):=by rw [hx1]; omega
  refine GK.back (r % 128,r / 128,l + 1,c4,F4) [0] (show (fun (c r l cap : Nat) (F : Nat → Int)=>c < 128 ∧ l ≤ cap ∧ l + r ≤ 65536 ∧ (∀ j,j < l → 0 ≤ F j ∧ F j < 256) ∧ ∀ F' q,(∀ j,j < l → F' j = F j) → RestH F' l c r q → Hd F' 0 k n q) (r % 128) (r / 128) (l + 1) (c4) (F4) from ?_) ?_ (Ent.R rfl rfl rfl rfl)
  ·refine ⟨by omega,r1,by omega,fun j hj=>?_,fun F' q hF h=>?_⟩
   ·by_cases e : j < l
    ·rw [r3 j e]; exact hB j e
    ·rw [show j = l + 0 from by omega,r4 0 (by omega)]; omega
   ·refine hK F' q (fun j hj=>by rw [hF j (by omega),r3 j hj]) (h.step (by omega) ?_)
    rw [hF l (by omega)]; exact r4 0 (by omega)
  ·show r / 128 < r; omega
 ·have hr : ¬ ((r : Int) > 0):=by simpa using hr
  obtain rfl : r = 0:=by omega
  refine GC.exit ?_
  refine GK.code (GL.seqR ?_)
  refine lK 3 [27,29] ?_ (hc:=(by (repeat' first | exact trivial | refine And.intro ?_ ?_) <;> (try simp only [Int.reduceToNat,IntKind.bits,Nat.reduceLeDiff,Nat.min_eq_left,Int.reducePow,InI64,InI32,hor]) <;> omega))
  refine GL.op rfl (OpW.appendI (m:=1) (N:=fun _=>(c : Int)) rfl rfl rfl rfl rfl rfl rfl rfl rfl rfl (Nat.le_of_ble_eq_true rfl) (hl) (src_slc rfl rfl (Nat.le_of_ble_eq_true rfl) (fun j hj=>by rw [Nat.zero_add]; exact get1 _ j hj)) (by omega) (by show (_ + _) * 1 ≤ 140737488355328; omega) rfl ?_ rfl rfl)
  intro c4 F4 r1 r2 r3 r4 ρ' hp
  obtain rfl:=Option.some.inj hp; clear hp
  refine gF [30] rfl ?_
  refine lF [4] (GK.code ?_) (hc:=(by (repeat' first | exact trivial | refine And.intro ?_ ?_) <;> (try simp only [Int.reduceToNat,IntKind.bits,Nat.reduceLeDiff,Nat.min_eq_left,Int.reducePow,InI64,InI32,hor]) <;> omega))
  refine GC.ret ?_
  refine fR (.inl rfl) rfl (by (repeat' first | exact trivial | refine And.intro ?_ ?_) <;> (try simp only [Int.reduceToNat,IntKind.bits,Nat.reduceLeDiff,Nat.min_eq_left,Int.reducePow,InI64,InI32,hor]) <;> omega) ((l + 1,c4,F4)) [0] rfl rfl rfl rfl (⟨hK F4 _ (fun j hj=>r3 j hj) (.inl ⟨rfl,r4 0 (by omega),rfl⟩),r1,by dsimp only; omega,fun j hj=>by (by_cases e : j < l); (· show 0 ≤ F4 j ∧ F4 j < 256; rw [r3 j e]; exact hB j e); (· have e4 : F4 j = (c : Int):=(show j = l + 0 from by have : j < l + 1:=hj; omega) ▸ r4 0 (by omega); show 0 ≤ F4 j ∧ F4 j < 256; rw [e4]; omega)⟩)
def L21 (F : Nat → Int) (off n cap rn : Nat) (i : Nat) (x : Int) : S:=⟨[(3,.v (.int .u32 x)),(7,.slc 0 off n cap),(8,.v (.int .i64 n)),(9,.v (.int .i64 i))],[(0,.row ⟨.ints .u8 F,rn,5⟩)],1,[]⟩
def L21b (F : Nat → Int) (off n cap rn i : Nat) (j : Nat) (x : Int) : S:=⟨[(3,.v (.int .u32 x)),(7,.slc 0 off n cap),(8,.v (.int .i64 n)),(9,.v (.int .i64 i)),(17,.v (.int .i64 j))],[(0,.row ⟨.ints .u8 F,rn,5⟩)],1,[]⟩
theorem f21 (μ) (F : Nat → Int) (off n cap rn : Nat) (hr : off + n ≤ rn) (hn : n < 1099511627776) : Fun Tryz.prog μ 21 [.slc 0 off n cap] [(0,.row ⟨.ints .u8 F,rn,5⟩)] 1 (fun _ : Int=>True) (fun x=>⟨.v (.int .u32 x),[(0,.row ⟨.ints .u8 F,rn,5⟩)],1⟩):=by
 refine fE 31 Tryz.func21 fun zw zβ=>?_
 refine cF [0] ?_
 refine rS [0] ?_
 refine rS [0,3] ?_
 refine GC.seq ?_
 refine rS [3,7,8,9] ?_
 refine GC.block ?_
 refine GC.loopE (ι:=(Nat) × (Int)) (fun zi=>(fun (i : Nat) (_ : Int)=>i ≤ n) zi.1 zi.2) (fun zi=>(fun i x=>(n - i : Nat)) zi.1 zi.2) (fun zi=>(L21 F off n cap rn) zi.1 zi.2) ((0,4294967295)) [0] (show (fun (i : Nat) (_ : Int)=>i ≤ n) (0) (4294967295) from ?_) (Ent.R rfl rfl rfl rfl) ?_
 ·exact Nat.zero_le _
 rintro ⟨i,x⟩ hI
 change (fun (i : Nat) (_ : Int)=>i ≤ n) i x at hI
 try dsimp only at hI
 change GC _ _ _ ((L21 F off n cap rn) i x)
 have hI : i ≤ n:=hI
 unfold L21
 refine cF [3,7,8,9] ?_
 refine rS [3,7,8,9,10] ?_
 refine GC.seq ?_
 refine GC.cond rfl (fun hlt=>?_) (fun hlt=>?_)
 ·have hlt : (i : Int) < n:=by simpa using hlt
  refine GC.skip (GK.code (GC.seq (GC.block ?_)))
  refine rS [3,5,7,8,9] ?_
  refine rS [3,7,8,9] ?_
  refine rS [3,7,8,9,17] ?_
  refine GC.block ?_
  refine GC.loopE (ι:=(Nat) × (Int)) (fun zi=>(fun (j : Nat) (_ : Int)=>j ≤ 8) zi.1 zi.2) (fun zi=>(fun j y=>(8 - j : Nat)) zi.1 zi.2) (fun zi=>(L21b F off n cap rn i) zi.1 zi.2) ((0,_)) [0] ?_ (Ent.R rfl rfl rfl rfl) ?_
  ·exact Nat.zero_le _
  rintro ⟨j,y⟩ hI
  change (fun (j : Nat) (_ : Int)=>j ≤ 8) j y at hI
  try dsimp only at hI
  change GC _ _ _ ((L21b F off n cap rn i) j y)
  have hI2 : j ≤ 8:=hI
  unfold L21b
  refine cF [3,7,8,9,17] ?_
  refine rS [3,7,8,9,17,18] ?_
  refine GC.seq ?_
  refine GC.cond rfl (fun hj=>?_) (fun hj=>?_)
  ·have hj : (j : Int) < 8:=by simpa using hj
   refine GC.skip (GK.code (GC.seq (GC.block ?_)))
   refine rS [3,6,7,8,9,17] ?_
   refine rS [3,6,7,8,9,17] ?_
   refine rS [3,7,8,9,17,24] ?_
   refine GC.cond rfl (fun hb=>?_) (fun hb=>?_)
   ·refine rG [3,7,8,9,17] ?_
    refine GK.code ?_
    refine rG [3,7,8,9,17] ?_
    refine GK.back (j + 1,_) [0] ?_ ?_ (Ent.R rfl rfl rfl rfl)
    ·show j + 1 ≤ 8; omega
    ·show 8 - (j + 1) < 8 - j; omega
   ·refine GC.skip (GK.code ?_)
    refine rG [3,7,8,9,17] ?_
    refine GK.back (j + 1,_) [0] ?_ ?_ (Ent.R rfl rfl rfl rfl)
    ·show j + 1 ≤ 8; omega
    ·show 8 - (j + 1) < 8 - j; omega
  ·have hj : ¬ ((j : Int) < 8):=by simpa using hj
   refine GC.exit ?_
   refine GK.code ?_
   refine rG [3,7,8,9] ?_
   refine GK.back (i + 1,_) [0] ?_ ?_ (Ent.R rfl rfl rfl rfl)
   ·show i + 1 ≤ n; omega
   ·show n - (i + 1) < n - i; omega
 ·have hlt : ¬ ((i : Int) < n):=by simpa using hlt
  refine GC.exit ?_
  refine GK.code ?_
  refine rS [2] ?_
  refine GC.ret ?_
  refine fR (.inl rfl) rfl (by trivial) _ [0] rfl rfl rfl rfl (trivial)
theorem Tl.shift {F B : Nat → Int} {s p r q : Nat} (h : Tl F p r q) (e : ∀ j,p ≤ j → j < q → B (s + j) = F j) : Tl B (s + p) r (s + q):=by
 induction h with
 | last h1 h2=>exact .last h1 (by rw [e _ (Nat.le_refl _) (by omega)]; exact h2)
 | more h1 h2 h3 ih =>
  have:=h3.lt
  exact .more h1 (by rw [e _ (Nat.le_refl _) (by omega)]; exact h2) (ih fun j hj hq=>e j (by omega) hq)
theorem Hd.shift {F B : Nat → Int} {s p k n q : Nat} (h : Hd F p k n q) (e : ∀ j,p ≤ j → j < q → B (s + j) = F j) : Hd B (s + p) k n (s + q):=by
 have hlt:=h.lt
 refine ⟨h.hk,?_⟩
 rw [e p (Nat.le_refl _) hlt]
 rcases h.hb with ⟨h1,h2,h3⟩ | ⟨h1,h2,h3⟩
 ·exact .inl ⟨h1,h2,by omega⟩
 ·exact .inr ⟨h1,h2,by rw [Nat.add_assoc]; exact h3.shift fun j hj hq=>e j (by omega) hq⟩
theorem Blk.shift {F B T : Nat → Int} {s p c pe L : Nat} (h : Blk F T p c pe L) (e : ∀ j,p ≤ j → j < pe → B (s + j) = F j) : Blk B T (s + p) c (s + pe) L:=by
 induction h with
 | @last p c n hn hb h0 h1 h2 h3 hd =>
  have e' : ∀ j,j < 5 + n → B (s + p + j) = F (p + j):=fun j hj=>by rw [Nat.add_assoc]; exact e _ (by omega) (by omega)
  have:=Blk.last (B:=B) (T:=T) (p:=s + p) (c:=c) n hn (by have:=e' 0 (by omega); rw [Nat.add_zero,Nat.add_zero] at this; rw [this]; exact hb) (by rw [e' 1 (by omega)]; exact h0) (by rw [e' 2 (by omega)]; exact h1) (by rw [e' 3 (by omega)]; exact h2) (by rw [e' 4 (by omega)]; exact h3)
   (fun j hj=>by rw [Nat.add_assoc (s + p),e' _ (by omega),← Nat.add_assoc]; exact hd j hj)
  rw [show s + (p + 5 + n) = s + p + 5 + n from by omega]
  exact this
 | @more p c pe L n hn hn0 hb h0 h1 h2 h3 hd h ih =>
  have hle:=h.le
  have e' : ∀ j,j < 5 + n → B (s + p + j) = F (p + j):=fun j hj=>by rw [Nat.add_assoc]; exact e _ (by omega) (by omega)
  refine Blk.more (B:=B) (T:=T) (p:=s + p) (c:=c) n hn hn0 (by have:=e' 0 (by omega); rw [Nat.add_zero,Nat.add_zero] at this; rw [this]; exact hb) (by rw [e' 1 (by omega)]; exact h0) (by rw [e' 2 (by omega)]; exact h1) (by rw [e' 3 (by omega)]; exact h2) (by rw [e' 4 (by omega)]; exact h3)
   (fun j hj=>by rw [Nat.add_assoc (s + p),e' _ (by omega),← Nat.add_assoc]; exact hd j hj) ?_
  have:=ih fun j hj hq=>e j (by omega) hq
  rw [show s + (p + 5 + n) = s + p + 5 + n from by omega] at this
  exact this
theorem Zs.shift {F B T : Nat → Int} {N N' s p L pe : Nat} (z : Zs F T N p L pe) (hN : s + (pe + 4) ≤ N') (e : ∀ j,p ≤ j → j < pe + 4 → B (s + j) = F j) : Zs B T N' (s + p) L (s + pe):=by
 have hle:=z.hb.le
 obtain ⟨X,x1,x2,x3,x4,x5,x6⟩:=z.hX
 refine ⟨by rw [e p (by omega) (by omega)]; exact z.h0,by rw [Nat.add_assoc,e _ (by omega) (by omega)]; exact z.h1,by rw [Nat.add_assoc]; exact z.hb.shift fun j hj hq=>e j (by omega) (by omega),by omega,z.hT,z.hL,X,x1,x2,?_,?_,?_,?_⟩
 ·rw [e _ (by omega) (by omega)]; exact x3
 ·rw [Nat.add_assoc,e _ (by omega) (by omega)]; exact x4
 ·rw [Nat.add_assoc,e _ (by omega) (by omega)]; exact x5
 ·rw [Nat.add_assoc,e _ (by omega) (by omega)]; exact x6
theorem ad_nat (T : Nat → Int) (n : Nat) : ∃ X : Nat,ad T n = (X : Int) ∧ X < 4294967296:=by
 have h : 0 ≤ adA T n % 65521 ∧ adA T n % 65521 < 65521:=⟨Int.emod_nonneg _ (by decide),Int.emod_lt_of_pos _ (by decide)⟩
 have h' : 0 ≤ adB T n % 65521 ∧ adB T n % 65521 < 65521:=⟨Int.emod_nonneg _ (by decide),Int.emod_lt_of_pos _ (by decide)⟩
 have e : ad T n = (adB T n % 65521) * 65536 + adA T n % 65521:=adl_eq h h'
 refine ⟨(ad T n).toNat,?_,?_⟩ <;> omega
theorem zs_of {F T : Nat → Int} {L pe : Nat} (hL : L < 1099511627776) (hT : ∀ j,j < L → 0 ≤ T j ∧ T j < 256) (h0 : F 0 = 120) (h1 : F 1 = 1) (hb : Blk F T 2 0 pe L) (hx : ∀ q,q < 4 → F (pe + q) = w8 (ad T L / 2 ^ (24 - 8 * q))) : Zs F T (pe + 4) 0 L pe:=by
 obtain ⟨X,e1,e2⟩:=ad_nat T L
 refine ⟨h0,h1,hb,Nat.le_refl _,hT,hL,X,e1,e2,?_,?_,?_,?_⟩
 ·have:=hx 0 (by decide); rw [Nat.add_zero,e1] at this; rw [this]; show w8 ((X : Int) / 16777216) = _; unfold w8; omega
 ·have:=hx 1 (by decide); rw [e1] at this; rw [this]; show w8 ((X : Int) / 65536) = _; unfold w8; omega
 ·have:=hx 2 (by decide); rw [e1] at this; rw [this]; show w8 ((X : Int) / 256) = _; unfold w8; omega
 ·have:=hx 3 (by decide); rw [e1] at this; rw [this]; show w8 ((X : Int) / 1) = _; rw [Int.ediv_one]; unfold w8; omega
def nth2 (x1 x2 : Int) : Nat → Int
 | 0=>x1
 | _=>x2
theorem src_two {X : Ctx} {s : S} {y : Operand} {g cap e : Nat} {x1 x2 : Int} (hy : ev s.ρ y = .slc g 0 2 cap) (hg : gk s.σ g = some (.row ⟨.lst [.v (.int .u8 x1),.v (.int .u8 x2)],2,e⟩)) : ∀ β w a,Inv X s β w a → Src X 1 2 (fun j=>.v (.int .u8 (nth2 x1 x2 j))) β w (a.eval y) :=
 src_slc (m:=2) hy hg (Nat.le_of_ble_eq_true rfl) (fun j hj=>by
  have : j < 2:=by omega
  match j,this with
  | 0,_=>rfl
  | 1,_=>rfl
  | j + 2,h=>exact absurd h (by omega))
def L53 (F : Nat → Int) (c0 i l cap : Nat) (G : Nat → Int) : S:=⟨[(3,.slc 1 0 l cap),(6,.slc 0 0 20 c0),(7,.v (.int .i64 20)),(8,.v (.int .i64 i))],[(0,.row ⟨.ints .u8 F,c0,5⟩),(1,.row ⟨.ints .u8 G,cap,5⟩)],2,[]⟩
theorem f53 (μ) (F : Nat → Int) (c0 : Nat) (hc0 : 20 ≤ c0) (hF : ∀ j,j < 20 → 0 ≤ F j ∧ F j < 256) : Fun Tryz.prog μ 53 [.slc 0 0 20 c0] [(0,.row ⟨.ints .u8 F,c0,5⟩)] 1 (fun _ : ByteArray=>True) (fun t=>⟨.v (.string t),[(0,.row ⟨.ints .u8 F,c0,5⟩)],1⟩):=by
 refine fE 24 Tryz.func53 fun zw zβ=>?_
 refine cF [0] ?_
 refine rS [0] ?_
 refine rS [0,3] ?_
 refine GC.nilg 3 (.ints .u8 fun _=>0) 5 rfl ?_
 refine GC.seq ?_
 refine rS [3,6,7,8] ?_
 refine GC.block ?_
 refine GC.loopE (ι:=(Nat) × (Nat) × (Nat) × (Nat → Int)) (fun zi=>(fun (i l cap : Nat) (_ : Nat → Int)=>i ≤ 20 ∧ l ≤ cap ∧ l = 2 * i) zi.1 zi.2.1 zi.2.2.1 zi.2.2.2) (fun zi=>(fun i l cap G=>(20 - i : Nat)) zi.1 zi.2.1 zi.2.2.1 zi.2.2.2) (fun zi=>(L53 F c0) zi.1 zi.2.1 zi.2.2.1 zi.2.2.2) ((0,0,0,fun _=>0)) [0,1] (show (fun (i l cap : Nat) (_ : Nat → Int)=>i ≤ 20 ∧ l ≤ cap ∧ l = 2 * i) (0) (0) (0) (fun _=>0) from ?_) (Ent.R rfl rfl rfl rfl) ?_
 ·exact ⟨Nat.zero_le _,Nat.zero_le _,rfl⟩
 rintro ⟨i,l,cap,G⟩ hI
 change (fun (i l cap : Nat) (_ : Nat → Int)=>i ≤ 20 ∧ l ≤ cap ∧ l = 2 * i) i l cap G at hI
 try dsimp only at hI
 change GC _ _ _ ((L53 F c0) i l cap G)
 obtain ⟨hi,hl,he⟩:=hI
 unfold L53
 refine cF [3,6,7,8] ?_
 refine rS [3,6,7,8,9] ?_
 refine GC.seq ?_
 refine GC.cond rfl (fun hlt=>?_) (fun hlt=>?_)
 ·have hlt : (i : Int) < 20:=by simpa using hlt
  have hb:=hF i (by omega)
  refine GC.skip (GK.code (GC.seq (GC.block (GL.seqR ?_))))
  refine lK 1 [3,6,7,8,10] ?_ (hc:=(by (repeat' first | exact trivial | refine And.intro ?_ ?_) <;> (try simp only [ByteArray.size,List.size_toArray,List.length_cons,List.length_nil,Int.reduceToNat,IntKind.bits,Nat.reduceLeDiff,Nat.min_eq_left,Int.reducePow,Nat.reduceAdd,InI64,InI32,b15 hb,w8]) <;> omega))
  refine GL.op rfl (OpW.lstep (LStep.at rfl rfl rfl rfl rfl (by show 0 + (i : Int).toNat * 1 < c0; omega) (by show SV.v (.int .u8 (F (0 + (i : Int).toNat * 1))) = .v (.int .u8 (F i)); rw [Int.toNat_natCast,Nat.mul_one,Nat.zero_add])) rfl (gF [3,6,7,8,11] rfl ?_))
  refine lF [3,5,6,7,8] (GK.code ?_) (hc:=(by (repeat' first | exact trivial | refine And.intro ?_ ?_) <;> (try simp only [ByteArray.size,List.size_toArray,List.length_cons,List.length_nil,Int.reduceToNat,IntKind.bits,Nat.reduceLeDiff,Nat.min_eq_left,Int.reducePow,Nat.reduceAdd,InI64,InI32,b15 hb,w8]) <;> omega))
  refine GC.draw [(0,0),(1,0),(2,0),(3,0),(4,0),(5,0),(6,0),(7,2),(8,2),(9,0)] mixed (by kernel_rfl) (by rintro _ _ _ _ ⟨_,_,_,_,h,_⟩ _; cases h) ?_
  refine wK 8 [6,7,8,12,19] ?_ (hc:=(by (repeat' first | exact trivial | refine And.intro ?_ ?_) <;> (try simp only [ByteArray.size,List.size_toArray,List.length_cons,List.length_nil,Int.reduceToNat,IntKind.bits,Nat.reduceLeDiff,Nat.min_eq_left,Int.reducePow,Nat.reduceAdd,InI64,InI32,b15 hb,w8]) <;> omega))
  refine GW.op rfl rfl (OpW.appendI (m:=2) (N:=_) rfl rfl rfl rfl rfl rfl rfl rfl rfl rfl (Nat.le_of_ble_eq_true rfl) (hl) (src_two rfl rfl) (by omega) (by show (_ + _) * 1 ≤ 140737488355328; omega) rfl ?_ rfl rfl)
  intro c' G' q1 q2 q3 q4 ρ' hp
  obtain rfl:=Option.some.inj hp; clear hp
  refine wL [6,7,8,20] rfl ?_
  refine wF [3,6,7,8] ?_ (hc:=(by (repeat' first | exact trivial | refine And.intro ?_ ?_) <;> (try simp only [ByteArray.size,List.size_toArray,List.length_cons,List.length_nil,Int.reduceToNat,IntKind.bits,Nat.reduceLeDiff,Nat.min_eq_left,Int.reducePow,Nat.reduceAdd,InI64,InI32,b15 hb,w8]) <;> omega))
  refine GK.code ?_
  refine rG [3,6,7,8] ?_ (hc:=(by (repeat' first | exact trivial | refine And.intro ?_ ?_) <;> (try simp only [ByteArray.size,List.size_toArray,List.length_cons,List.length_nil,Int.reduceToNat,IntKind.bits,Nat.reduceLeDiff,Nat.min_eq_left,Int.reducePow,Nat.reduceAdd,InI64,InI32,b15 hb,w8]) <;> omega))
  refine GK.back (i + 1,l + 2,c',G') [0,1] (show (fun (i l cap : Nat) (_ : Nat → Int)=>i ≤ 20 ∧ l ≤ cap ∧ l = 2 * i) (i + 1) (l + 2) (c') (G') from ?_) ?_ (Ent.R rfl rfl rfl rfl)
  ·exact ⟨by omega,q1,by omega⟩
  ·show 20 - (i + 1) < 20 - i; omega
 ·have hlt : ¬ ((i : Int) < 20):=by simpa using hlt
  obtain rfl : i = 20:=by omega
  refine GC.exit ?_
  refine GK.code (GL.seqR ?_)
  refine lK 1 [22] ?_ (hc:=(by (repeat' first | exact trivial | refine And.intro ?_ ?_) <;> (try simp only [ByteArray.size,List.size_toArray,List.length_cons,List.length_nil,Int.reduceToNat,IntKind.bits,Nat.reduceLeDiff,Nat.min_eq_left,Int.reducePow,Nat.reduceAdd,InI64,InI32,b15 hb,w8]) <;> omega))
  refine GL.op rfl (OpW.lstep (LStep.str (n:=l) (N:=G) rfl rfl rfl rfl (slc_slice rfl) (src_slc (sz:=1) rfl rfl (by show 0 + l * 1 ≤ cap; omega) (fun j hj=>by rw [Nat.zero_add]; rfl))) rfl (gF [23] rfl ?_))
  refine lF [2] (GK.code ?_) (hc:=(by (repeat' first | exact trivial | refine And.intro ?_ ?_) <;> (try simp only [ByteArray.size,List.size_toArray,List.length_cons,List.length_nil,Int.reduceToNat,IntKind.bits,Nat.reduceLeDiff,Nat.min_eq_left,Int.reducePow,Nat.reduceAdd,InI64,InI32,b15 hb,w8]) <;> omega))
  refine GC.ret ?_
  refine fR (.inl rfl) rfl (by (repeat' first | exact trivial | refine And.intro ?_ ?_) <;> (try simp only [ByteArray.size,List.size_toArray,List.length_cons,List.length_nil,Int.reduceToNat,IntKind.bits,Nat.reduceLeDiff,Nat.min_eq_left,Int.reducePow,Nat.reduceAdd,InI64,InI32,b15 hb,w8]) <;> omega) _ [0] rfl rfl rfl rfl (trivial)
theorem slc_v {X : Ctx} {s : S} {x : Operand} {b : Option Addr} {n c : Nat} (hx : ev s.ρ x = .v (.slice b n c)) : ∀ β w a,Inv X s β w a → ∃ b l c,a.eval x = .slice b l c:=by
 intro β w a hi
 have h:=hi.env.ev x
 rw [hx] at h
 generalize a.eval x = v at h
 cases h
 exact ⟨_,_,_,rfl⟩
theorem f31 (μ) (F : Nat → Option Obj) (k : Int) (a : Option Addr) (n c : Nat) (T : Nat → Int) (hK : Kn μ F a n c T) (hk4 : 1 ≤ k ∧ k ≤ 4) : Fun Tryz.prog μ 31 [.agg [.v (.int .i64 k),.v (.slice a n c)]] [(0,.fz F)] 1 (fun _ : ByteArray=>True) (fun t=>⟨.v (.string t),[(0,.fz F)],1⟩):=by
 rcases hK.h with ⟨_,rfl,rfl⟩ | ⟨b,o,rfl,hcc,hk⟩
 ·skip
  refine fE 10 Tryz.func31 fun zw zβ=>?_
  refine cF [0] ?_
  refine rS [1] ?_
  refine GC.seq (GC.drawH [(0,0),(3,0),(4,3),(1,1),(2,4),(5,2),(6,2),(7,0)] [1] [(1,1,.v (.slice a 0 0))] mixed (by kernel_rfl) (by rintro _ _ _ _ ⟨_,_,_,_,h,_⟩ _; cases h) rfl fun β=>?_)
  refine wK 2 [3,6] ?_
  refine GW.held rfl rfl rfl rfl rfl rfl (.head _) ⟨⟨_,rfl,Nat.le_of_ble_eq_true rfl,rfl⟩,rfl,trivial⟩ rfl rfl (GW.force [3,7] rfl ?_)
  refine wK 1 [4,7] ?_
  refine GW.opS rfl rfl (cR rfl (f19 _ k hk4) [] rfl rfl rfl rfl fun t ht=>?_)
  refine GK.heldAnd rfl ⟨⟨_,rfl,Nat.le_of_ble_eq_true rfl,rfl⟩,rfl,trivial⟩ (wL [5,7] rfl ?_)
  refine GW.op rfl rfl (cR rfl (f18n _ _ F t ht) [0] rfl rfl rfl rfl ?_)
  intro ⟨dc,D⟩ hD
  refine wL [8] rfl ?_
  refine GW.op rfl rfl (cR rfl (f53 _ D dc hD.1 hD.2) [2] rfl rfl rfl rfl fun r _=>?_)
  refine wL [9] rfl ?_
  refine wF [2] (GK.delA rfl (GK.code ?_))
  refine GC.ret ?_
  refine fR (.inl rfl) rfl (by trivial) r [0] rfl rfl rfl rfl (trivial)
 ·skip
  refine fE 10 Tryz.func31 fun zw zβ=>?_
  refine cF [0] ?_
  refine rS [1] ?_
  refine GC.seq (GC.drawH [(0,0),(3,0),(4,3),(1,1),(2,4),(5,2),(6,2),(7,0)] [1] [(1,1,.v (.slice (some ⟨b,o,none⟩) n c))] mixed (by kernel_rfl) (by rintro _ _ _ _ ⟨_,_,_,_,h,_⟩ _; cases h) rfl fun β=>?_)
  refine wK 2 [3,6] ?_
  refine GW.held rfl rfl rfl rfl rfl rfl (.head _) ⟨⟨_,rfl,Nat.le_of_ble_eq_true rfl,rfl⟩,rfl,trivial⟩ rfl rfl (GW.force [3,7] rfl ?_)
  refine wK 1 [4,7] ?_
  refine GW.opS rfl rfl (cR rfl (f19 _ k hk4) [] rfl rfl rfl rfl fun t ht=>?_)
  refine GK.heldAnd rfl ⟨⟨_,rfl,Nat.le_of_ble_eq_true rfl,rfl⟩,rfl,trivial⟩ (wL [5,7] rfl ?_)
  refine GW.op rfl rfl (cR rfl (f18m _ F t ht b o n c T hK.l hk) [0] rfl rfl rfl rfl ?_)
  intro ⟨dc,D⟩ hD
  refine wL [8] rfl ?_
  refine GW.op rfl rfl (cR rfl (f53 _ D dc hD.1 hD.2) [2] rfl rfl rfl rfl fun r _=>?_)
  refine wL [9] rfl ?_
  refine wF [2] (GK.delA rfl (GK.code ?_))
  refine GC.ret ?_
  refine fR (.inl rfl) rfl (by trivial) r [0] rfl rfl rfl rfl (trivial)
theorem f32 (μ) (F : Nat → Option Obj) (a : Option Addr) (n c : Nat) (T : Nat → Int) (hK : Kn μ F a n c T) (a' : Option Addr) (n' c' : Nat) (T' : Nat → Int) (hK' : Kn μ F a' n' c' T') : Fun Tryz.prog μ 32 [.v (.slice a n c),.v (.slice a' n' c')] [(0,.fz F)] 1 (fun _ : Bool=>True) (fun r=>⟨.v (.bool r),[(0,.fz F)],1⟩):=by
 rcases hK.h with ⟨_,rfl,rfl⟩ | ⟨b,o,rfl,hcc,hk⟩ <;> rcases hK'.h with ⟨_,rfl,rfl⟩ | ⟨b',o',rfl,hcc',hk'⟩
 ·skip
  refine fE 10 Tryz.func32 fun zw zβ=>?_
  refine cF [0,1] ?_
  refine rS [0,1] ?_
  refine GL.seqR ?_
  refine lK 1 [1,5] ?_
  refine GL.op rfl (OpW.lstep (LStep.str (n:=0) (N:=T) rfl rfl rfl rfl (slc_v rfl) (src_nil rfl)) rfl (gF [1,6] rfl ?_))
  refine lK 1 [6,7] ?_
  refine GL.op rfl (OpW.lstep (LStep.str (n:=0) (N:=T') rfl rfl rfl rfl (slc_v rfl) (src_nil rfl)) rfl (gF [6,8] rfl ?_))
  refine lF [4] (GK.code ?_)
  refine GC.ret ?_
  refine fR (.inl rfl) rfl (by trivial) _ [0] rfl rfl rfl rfl (trivial)
 ·skip
  refine fE 10 Tryz.func32 fun zw zβ=>?_
  refine cF [0,1] ?_
  refine rS [0,1] ?_
  refine GL.seqR ?_
  refine lK 1 [1,5] ?_
  refine GL.op rfl (OpW.lstep (LStep.str (n:=0) (N:=T) rfl rfl rfl rfl (slc_v rfl) (src_nil rfl)) rfl (gF [1,6] rfl ?_))
  refine lK 1 [6,7] ?_
  refine GL.op rfl (OpW.lstep (LStep.str (n:=n') (N:=T') rfl rfl rfl rfl (slc_v rfl) (src_kn rfl (z:=0) rfl hk')) rfl (gF [6,8] rfl ?_))
  refine lF [4] (GK.code ?_)
  refine GC.ret ?_
  refine fR (.inl rfl) rfl (by trivial) _ [0] rfl rfl rfl rfl (trivial)
 ·skip
  refine fE 10 Tryz.func32 fun zw zβ=>?_
  refine cF [0,1] ?_
  refine rS [0,1] ?_
  refine GL.seqR ?_
  refine lK 1 [1,5] ?_
  refine GL.op rfl (OpW.lstep (LStep.str (n:=n) (N:=T) rfl rfl rfl rfl (slc_v rfl) (src_kn rfl (z:=0) rfl hk)) rfl (gF [1,6] rfl ?_))
  refine lK 1 [6,7] ?_
  refine GL.op rfl (OpW.lstep (LStep.str (n:=0) (N:=T') rfl rfl rfl rfl (slc_v rfl) (src_nil rfl)) rfl (gF [6,8] rfl ?_))
  refine lF [4] (GK.code ?_)
  refine GC.ret ?_
  refine fR (.inl rfl) rfl (by trivial) _ [0] rfl rfl rfl rfl (trivial)
 ·skip
  refine fE 10 Tryz.func32 fun zw zβ=>?_
  refine cF [0,1] ?_
  refine rS [0,1] ?_
  refine GL.seqR ?_
  refine lK 1 [1,5] ?_
  refine GL.op rfl (OpW.lstep (LStep.str (n:=n) (N:=T) rfl rfl rfl rfl (slc_v rfl) (src_kn rfl (z:=0) rfl hk)) rfl (gF [1,6] rfl ?_))
  refine lK 1 [6,7] ?_
  refine GL.op rfl (OpW.lstep (LStep.str (n:=n') (N:=T') rfl rfl rfl rfl (slc_v rfl) (src_kn rfl (z:=0) rfl hk')) rfl (gF [6,8] rfl ?_))
  refine lF [4] (GK.code ?_)
  refine GC.ret ?_
  refine fR (.inl rfl) rfl (by trivial) _ [0] rfl rfl rfl rfl (trivial)
theorem koS : KeyOK Tryz.prog 9 strKey:=keyOK_str (by kernel_rfl)
theorem f12n (μ) (F : Nat → Option Obj) : Fun Tryz.prog μ 12 [.v (.slice none 0 0)] [(0,.fz F)] 1 (fun _ : Unit=>True) (fun _=>⟨.v (.bool true),[(0,.fz F)],1⟩):=by
 refine fE 44 Tryz.func12 fun zw zβ=>?_
 refine cF [0,26,27,28,29,30,31,32,33,34,35,36,37,38] ?_
 refine rS [0,26,27,28,29,30,31,32,33,34,35,36,37,38] ?_
 refine GL.seqR ?_
 refine GL.op rfl (OpW.makeMap strKey rfl rfl ?_)
 refine gF [0,9,26,27,28,29,30,31,32,33,34,35,36,37,38] rfl ?_
 refine lF [0,3,26,27,28,29,30,31,32,33,34,35,36,37,38] (GK.code ?_)
 refine GC.seq ?_
 refine rS [3,10,11,12,26,27,28,29,30,31,32,33,34,35,36,37,38] ?_
 refine GC.block ?_
 refine GC.loop0 ?_
 refine rS [3,10,11,12,13,26,27,28,29,30,31,32,33,34,35,36,37,38] ?_
 refine GC.seq (GC.condF rfl ?_)
 refine GC.exit ?_
 refine GK.code ?_
 refine rS [2] ?_
 refine GC.ret ?_
 refine fR (.inl rfl) rfl (by trivial) () [0] rfl rfl rfl rfl (trivial)
def L12 (F : Nat → Option Obj) (V : Nat → Value) (m cap i : Nat) (f : Value → Option Value) : S:=⟨[(3,.mpp 2),(10,.slc 1 0 m cap),(11,.v (.int .i64 m)),(12,.v (.int .i64 i))],[(0,.fz F),(1,.row ⟨.vals V,cap * 2,52⟩),(2,.pr (isMap strKey f))],3,[]⟩
def Seen (μ F : Nat → Option Obj) (f : Value → Option Value) : Prop:=∀ key x,f key = some x → ∃ (k : Int) (a : Option Addr) (n c : Nat) (T : Nat → Int),x = .agg #[.int .i64 k,.slice a n c] ∧ Kn μ F a n c T
theorem ob_at {V : Nat → Value} {k : Int} {a : Option Addr} {n c i cap : Nat} (h1 : V (i * 2) = .int .i64 k) (h2 : V (i * 2 + 1) = .slice a n c) (hc : i < cap) : ∀ q v,[Value.int .i64 k,.slice a n c][q]? = some v → 0 + (i : Int).toNat * 2 + q < cap * 2 ∧ SV.v (V (0 + (i : Int).toNat * 2 + q)) = .v v:=by
 intro q v hq
 rw [Int.toNat_natCast,Nat.zero_add]
 match q,hq with
 | 0,hq=>cases hq; exact ⟨by omega,congrArg SV.v h1⟩
 | 1,hq=>cases hq; exact ⟨by omega,congrArg SV.v h2⟩
 | q + 2,hq=>simp at hq
theorem f12m (μ) (F : Nat → Option Obj) (V : Nat → Value) (m cap : Nat) (hm : m ≤ 1048576) (hc : m ≤ cap) (hO : Obs μ F V m) : Fun Tryz.prog μ 12 [.slc 1 0 m cap] [(0,.fz F),(1,.row ⟨.vals V,cap * 2,52⟩)] 2 (fun _ : Bool=>True) (fun r=>⟨.v (.bool r),[(0,.fz F),(1,.row ⟨.vals V,cap * 2,52⟩)],2⟩):=by
 refine fE 44 Tryz.func12 fun zw zβ=>?_
 refine cF [0,26,27,28,29,30,31,32,33,34,35,36,37,38] ?_
 refine rS [0,26,27,28,29,30,31,32,33,34,35,36,37,38] ?_
 refine GL.seqR ?_
 refine GL.op rfl (OpW.makeMap strKey rfl rfl ?_)
 refine gF [0,9,26,27,28,29,30,31,32,33,34,35,36,37,38] rfl ?_
 refine lF [0,3,26,27,28,29,30,31,32,33,34,35,36,37,38] (GK.code ?_)
 refine GC.seq ?_
 refine rS [3,10,11,12,26,27,28,29,30,31,32,33,34,35,36,37,38] ?_
 refine GC.block ?_
 refine GC.loopE (ι:=(Nat) × (Value → Option Value)) (fun zi=>(fun (i : Nat) (f : Value → Option Value)=>i ≤ m ∧ Seen μ F f) zi.1 zi.2) (fun zi=>(fun i f=>(m - i : Nat)) zi.1 zi.2) (fun zi=>(L12 F V m cap) zi.1 zi.2) ((0,(fun _=>none))) [0,1,2] (show (fun (i : Nat) (f : Value → Option Value)=>i ≤ m ∧ Seen μ F f) (0) ((fun _=>none)) from ?_) (Ent.R rfl rfl rfl rfl) ?_
 ·exact ⟨Nat.zero_le _,fun key x hx=>by cases hx⟩
 rintro ⟨i,f⟩ hI
 change (fun (i : Nat) (f : Value → Option Value)=>i ≤ m ∧ Seen μ F f) i f at hI
 try dsimp only at hI
 change GC _ _ _ ((L12 F V m cap) i f)
 obtain ⟨hi,hf⟩:=hI
 unfold L12
 refine cF [3,10,11,12,26,27,28,29,30,31,32,33,34,35,36,37,38] ?_
 refine rS [3,10,11,12,13,26,27,28,29,30,31,32,33,34,35,36,37,38] ?_
 refine GC.seq ?_
 refine GC.cond rfl (fun hlt=>?_) (fun hlt=>?_)
 ·have hlt : (i : Int) < m:=by simpa using hlt
  obtain ⟨k,a,n,c,T,hv1,hv2,hK,hk4⟩:=hO i (by omega)
  refine GC.skip (GK.code (GC.seq (GC.block (GL.seqR ?_))))
  refine lK 1 [3,10,11,12,14,26,27,28,29,30,31,32,33,34,35,36,37,38] ?_
  refine GL.op rfl (OpW.lstep (LStep.atA (vs:=[.int .i64 k,.slice a n c]) rfl rfl rfl rfl rfl rfl (ob_at hv1 hv2 (by omega))) rfl (gF [3,10,11,12,15,26,27,28,29,30,31,32,33,34,35,36,37,38] rfl ?_))
  refine lF [3,5,10,11,12,26,27,28,29,30,31,32,33,34,35,36,37,38] (GK.code ?_)
  refine GL.seqR ?_
  refine lK 1 [3,5,10,11,12,16,26,27,28,29,30,31,32,33,34,35,36,37,38] ?_
  refine GL.op rfl (cR rfl (f31 _ F k a n c T hK hk4) [0] rfl rfl rfl rfl fun tx _=>?_)
  refine gF [3,5,10,11,12,17,26,27,28,29,30,31,32,33,34,35,36,37,38] rfl ?_
  refine lF [3,5,6,10,11,12,26,27,28,29,30,31,32,33,34,35,36,37,38] (GK.code ?_)
  rcases hfx : f (.string tx) with _ | xv
  ·refine GC.seq (GL.seqR ?_)
   refine lK 2 [3,5,6,10,11,12,19,20,26,27,28,29,30,31,32,33,34,35,36,37,38] ?_
   refine GL.op rfl (OpW.lstep (LStep.lookupF (kv:=.string tx) (.agg #[.int .i64 0,.slice none 0 0]) rfl rfl koS rfl rfl rfl ⟨_,rfl⟩ (fun _=>by kernel_rfl) hfx) rfl (gF [3,5,6,10,11,12,21,26,27,28,29,30,31,32,33,34,35,36,37,38] rfl ?_))
   refine lK 4 [3,5,6,7,10,11,12,22,23,26,27,28,29,30,31,32,33,34,35,36,37,38] ?_
   refine GL.fromV 22 [.int .i64 0,.slice none 0 0] rfl rfl ?_
   refine lK 1 [3,5,6,7,10,11,12,23,26,27,28,29,30,31,32,33,34,35,36,37,38] ?_
   refine lF [3,5,6,7,8,10,11,12,26,27,28,29,30,31,32,33,34,35,36,37,38] (GK.code ?_)
   refine GL.seqR ?_
   refine lK 8 [3,5,6,7,10,11,12,25,26,27,28,29,30,31,32,33,34,35,36,37,38] ?_
   refine lK 4 [3,5,6,10,11,12,25,26,27,28,29,30,31,32,33,34,35,36,37,38] ?_
   refine lK 1 [3,5,6,10,11,12,25,26,27,28,29,30,31,32,33,34,35,36,37,38] ?_
   refine lF [3,5,6,10,11,12,26,27,28,29,30,31,32,33,34,35,36,37,38,39] (GK.code ?_)
   refine GC.condF rfl (GC.skip (GK.code (GC.region ?_)))
   refine lK 3 [3,10,11,12,26,27,28,29,30,31,32,33,34,35,36,37,38,40,41,42] ?_
   refine GL.toV 42 [.int .i64 k,.slice a n c] rfl rfl ?_
   refine GL.op rfl (OpW.mapUpdate (kv:=.string tx) (.inl rfl) rfl koS rfl rfl rfl rfl ⟨_,rfl⟩ rfl ?_)
   refine gF [3,10,11,12,26,27,28,29,30,31,32,33,34,35,36,37,38] rfl ?_
   refine lF [3,10,11,12,26,27,28,29,30,31,32,33,34,35,36,37,38] ?_
   refine GK.code ?_
   refine rG [3,10,11,12,26,27,28,29,30,31,32,33,34,35,36,37,38] ?_
   refine GK.back (i + 1,updF f (.string tx) (.agg #[.int .i64 k,.slice a n c])) [0,1,2] (show (fun (i : Nat) (f : Value → Option Value)=>i ≤ m ∧ Seen μ F f) (i + 1) (updF f (.string tx) (.agg #[.int .i64 k,.slice a n c])) from ?_) ?_ (Ent.R rfl rfl rfl rfl)
   ·refine ⟨by omega,fun key x hx=>?_⟩
    unfold updF at hx
    split at hx
    ·cases hx; exact ⟨k,a,n,c,T,rfl,hK⟩
    ·exact hf key x hx
   ·show m - (i + 1) < m - i; omega
  ·obtain ⟨k2,a2,n2,c2,T2,rfl,hK2⟩:=hf _ _ hfx
   refine GC.seq (GL.seqR ?_)
   refine lK 2 [3,5,6,10,11,12,19,20,26,27,28,29,30,31,32,33,34,35,36,37,38] ?_
   refine GL.op rfl (OpW.lstep (LStep.lookupT (kv:=.string tx) (zv:=.agg #[.int .i64 0,.slice none 0 0]) (.agg #[.int .i64 k2,.slice a2 n2 c2]) rfl rfl koS rfl rfl rfl ⟨_,rfl⟩ (fun _=>by kernel_rfl) hfx) rfl (gF [3,5,6,10,11,12,21,26,27,28,29,30,31,32,33,34,35,36,37,38] rfl ?_))
   refine lK 4 [3,5,6,7,10,11,12,22,23,26,27,28,29,30,31,32,33,34,35,36,37,38] ?_
   refine GL.fromV 22 [.int .i64 k2,.slice a2 n2 c2] rfl rfl ?_
   refine lK 1 [3,5,6,7,10,11,12,23,26,27,28,29,30,31,32,33,34,35,36,37,38] ?_
   refine lF [3,5,6,7,8,10,11,12,26,27,28,29,30,31,32,33,34,35,36,37,38] (GK.code ?_)
   refine GL.seqR ?_
   refine lK 8 [3,5,6,7,10,11,12,25,26,27,28,29,30,31,32,33,34,35,36,37,38] ?_
   refine GL.spl 31 rfl rfl rfl (fun h1=>?_) (fun h1=>?_)
   ·have h1 : k2 ≠ k:=by simpa using h1
    refine lK 4 [3,5,6,10,11,12,25,26,27,28,29,30,31,32,33,34,35,36,37,38] ?_
    refine lK 1 [3,5,6,10,11,12,25,26,27,28,29,30,31,32,33,34,35,36,37,38] ?_
    refine lF [3,5,6,10,11,12,26,27,28,29,30,31,32,33,34,35,36,37,38,39] (GK.code ?_)
    refine GC.condT rfl ?_
    refine rS [2] ?_
    refine GC.ret ?_
    refine fR (.inl rfl) rfl (by trivial) false [0,1] rfl rfl rfl rfl (trivial)
   ·have h1 : ¬ (k2 ≠ k):=by simpa using h1
    refine lK 4 [3,5,6,10,11,12,25,26,27,28,29,30,31,32,33,34,35,36,37,38] ?_
    refine GL.opG rfl rfl (cR rfl (f32 _ F a2 n2 c2 T2 hK2 a n c T hK) [0] rfl rfl rfl rfl fun r _=>?_)
    rcases r with _ | _
    ·refine gF [3,5,6,10,11,12,25,26,27,28,29,30,31,32,33,34,35,36,37,38] rfl ?_
     refine lF [3,5,6,10,11,12,26,27,28,29,30,31,32,33,34,35,36,37,38,39] (GK.code ?_)
     refine GC.condT rfl ?_
     refine rS [2] ?_
     refine GC.ret ?_
     refine fR (.inl rfl) rfl (by trivial) false [0,1] rfl rfl rfl rfl (trivial)
    ·refine gF [3,5,6,10,11,12,25,26,27,28,29,30,31,32,33,34,35,36,37,38] rfl ?_
     refine lF [3,5,6,10,11,12,26,27,28,29,30,31,32,33,34,35,36,37,38,39] (GK.code ?_)
     refine GC.condF rfl (GC.skip (GK.code (GC.region ?_)))
     refine lK 3 [3,10,11,12,26,27,28,29,30,31,32,33,34,35,36,37,38,40,41,42] ?_
     refine GL.toV 42 [.int .i64 k,.slice a n c] rfl rfl ?_
     refine GL.op rfl (OpW.mapUpdate (kv:=.string tx) (.inl rfl) rfl koS rfl rfl rfl rfl ⟨_,rfl⟩ rfl ?_)
     refine gF [3,10,11,12,26,27,28,29,30,31,32,33,34,35,36,37,38] rfl ?_
     refine lF [3,10,11,12,26,27,28,29,30,31,32,33,34,35,36,37,38] ?_
     refine GK.code ?_
     refine rG [3,10,11,12,26,27,28,29,30,31,32,33,34,35,36,37,38] ?_
     refine GK.back (i + 1,updF f (.string tx) (.agg #[.int .i64 k,.slice a n c])) [0,1,2] (show (fun (i : Nat) (f : Value → Option Value)=>i ≤ m ∧ Seen μ F f) (i + 1) (updF f (.string tx) (.agg #[.int .i64 k,.slice a n c])) from ?_) ?_ (Ent.R rfl rfl rfl rfl)
     ·refine ⟨by omega,fun key x hx=>?_⟩
      unfold updF at hx
      split at hx
      ·cases hx; exact ⟨k,a,n,c,T,rfl,hK⟩
      ·exact hf key x hx
     ·show m - (i + 1) < m - i; omega
 ·have hlt : ¬ ((i : Int) < m):=by simpa using hlt
  refine GC.exit ?_
  refine GK.code ?_
  refine rS [2] ?_
  refine GC.ret ?_
  refine fR (.inl rfl) rfl (by trivial) true [0,1] rfl rfl rfl rfl (trivial)
theorem f5n (μ) : Fun Tryz.prog μ 5 [.v (.slice none 0 0)] [] 0 (fun _ : Unit=>True) (fun _=>⟨.v (.bool true),[],0⟩):=by
 refine fE 20 Tryz.func5 fun zw zβ=>?_
 refine cF [0,12,13,14,17,18] ?_
 refine rS [0,12,13,14,17,18] ?_
 refine GC.fz0 ?_
 refine GC.force [0] rfl ?_
 refine GL.seqR ?_
 refine lK 1 [0,6,12,13,14,17,18] ?_
 refine GL.op rfl (cR rfl (f11n _ (fun _=>none)) [0] rfl rfl rfl rfl fun _ _=>?_)
 refine gF [0,7,12,13,14,17,18] rfl ?_
 refine lF [0,3,4,12,13,14,17,18] (GK.code ?_)
 refine GL.seqR ?_
 refine lK 8 [16,17,18] ?_
 refine GL.opG rfl rfl (cR rfl (f12n _ (fun _=>none)) [0] rfl rfl rfl rfl fun _ _=>?_)
 refine gF [16,18] rfl ?_
 refine lF [2] (GK.code ?_)
 refine GC.ret ?_
 refine fR (.inl rfl) rfl (by trivial) () [] rfl rfl rfl rfl (trivial)
theorem f5m (μ) (b o m cp : Nat) (kd : Nat → Int) (a : Nat → Option Addr) (n c : Nat → Nat) (bs : Nat → Int) (sa : Nat → Option Addr) (sn sc : Nat → Nat) (hE : Ents μ b o m kd a n c bs sa sn sc) :
  Fun Tryz.prog μ 5 [.v (.slice (some ⟨b,o,none⟩) m cp)] [] 0 (fun r : Bool=>r = true → m ≤ 40 ∧ ∀ j,j < m → okE (kd j) (n j)) (fun r=>⟨.v (.bool r),[],0⟩):=by
 refine fE 20 Tryz.func5 fun zw zβ=>?_
 refine cF [0,12,13,14,17,18] ?_
 refine rS [0,12,13,14,17,18] ?_
 refine GC.fz0 ?_
 refine GC.force [0] rfl ?_
 refine GL.seqR ?_
 refine lK 1 [0,6,12,13,14,17,18] ?_
 refine GL.op rfl (OpW.callR rfl (f11m _ (fun _=>none) b o m cp kd a n c bs sa sn sc hE) [0] rfl rfl rfl rfl ?_)
 intro ⟨F',ok,cap,V⟩ hx
 rcases ok with _ | _
 ·intro ρ' hp
  obtain rfl:=Option.some.inj hp; clear hp
  refine gF [0,7,12,13,14,17,18] rfl ?_
  refine lF [0,3,4,12,13,14,17,18] (GK.code ?_)
  refine GL.seqR ?_
  refine lK 7 [3,16,17,18] ?_
  refine lK 1 [16,17,18] ?_
  refine lK 1 [16,18] ?_
  refine lF [2] (GK.code ?_)
  refine GC.ret ?_
  refine fR (.inl rfl) rfl (by trivial) false [] rfl rfl rfl rfl (fun h=>(by cases h))
 ·obtain ⟨hc,hO,hK⟩:=hx rfl
  intro ρ' hp
  obtain rfl:=Option.some.inj hp; clear hp
  refine gF [0,7,12,13,14,17,18] rfl ?_
  refine lF [0,3,4,12,13,14,17,18] (GK.code ?_)
  refine GL.seqR ?_
  refine lK 7 [3,16,17,18] ?_
  refine GL.spl 16 rfl rfl rfl (fun h40=>?_) (fun h40=>?_)
  ·have h40 : (m : Int) ≤ 40:=by simpa using h40
   refine lK 1 [16,17,18] ?_
   refine GL.opG rfl rfl (cR rfl (f12m _ F' V m cap (by omega) hc hO) [0,1] rfl rfl rfl rfl fun r _=>?_)
   refine gF [16,18] rfl ?_
   refine lF [2] (GK.code ?_)
   refine GC.ret ?_
   refine fR (.inl rfl) rfl (by trivial) r [] rfl rfl rfl rfl (fun _=>⟨by omega,hK⟩)
  ·have h40 : ¬ ((m : Int) ≤ 40):=by simpa using h40
   refine lK 1 [16,17,18] ?_
   refine lK 1 [16,18] ?_
   refine lF [2] (GK.code ?_)
   refine GC.ret ?_
   refine fR (.inl rfl) rfl (by trivial) false [] rfl rfl rfl rfl (fun h=>(by cases h))
end Go.Proofs.YtebadfmnmhmfeaaGreatDoor.T
