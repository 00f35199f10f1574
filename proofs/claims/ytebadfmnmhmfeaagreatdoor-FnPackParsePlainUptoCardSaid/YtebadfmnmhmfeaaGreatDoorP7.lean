/- What the functions of the program do, one contract each (P39, A2, A3, P20, P21, P22); each states its own conditions. -/
import Derived.Test.YtebadfmnmhmfeaaGreatDoorP6
namespace Go.Proofs.YtebadfmnmhmfeaaGreatDoor.T
open Go.Proofs.YtebadfmnmhmfeaaGreatDoor.Sx Go.RowKit
set_option maxRecDepth 20000
set_option linter.unusedSimpArgs false
set_option linter.unusedVariables false
set_option linter.unnecessarySimpa false
set_option linter.unusedSectionVars false
theorem f160 (μ) (i : Nat) (hi : i < 100) : Fun Tryz.prog μ 160 [.v (.int .i64 i)] [] 0 (fun t : ByteArray=>1 ≤ t.size ∧ t.size ≤ 2) (fun t=>⟨.v (.string t),[],0⟩):=by
 refine fE 15 Tryz.func160 fun zw zβ=>?_
 refine cF [0] ?_
 refine rS [0] ?_ (hc:=(by (repeat' first | exact trivial | refine And.intro ?_ ?_) <;> (try simp only [ByteArray.size,List.size_toArray,List.append_eq,List.length_append,List.length_cons,List.length_nil,Int.reduceToNat,IntKind.bits,Nat.reduceLeDiff,Nat.min_eq_left,Int.reducePow,Nat.reduceAdd,InI64,InI32]) <;> omega))
 refine GC.seq ?_
 refine rS [0,4] ?_ (hc:=(by (repeat' first | exact trivial | refine And.intro ?_ ?_) <;> (try simp only [ByteArray.size,List.size_toArray,List.append_eq,List.length_append,List.length_cons,List.length_nil,Int.reduceToNat,IntKind.bits,Nat.reduceLeDiff,Nat.min_eq_left,Int.reducePow,Nat.reduceAdd,InI64,InI32]) <;> omega))
 refine GC.cond rfl (fun hz=>?_) (fun hz=>?_)
 ·have hz : (i : Int) < 10:=by simpa using hz
  refine rS [2] ?_ (hc:=(by (repeat' first | exact trivial | refine And.intro ?_ ?_) <;> (try simp only [ByteArray.size,List.size_toArray,List.append_eq,List.length_append,List.length_cons,List.length_nil,Int.reduceToNat,IntKind.bits,Nat.reduceLeDiff,Nat.min_eq_left,Int.reducePow,Nat.reduceAdd,InI64,InI32]) <;> omega))
  refine GC.ret ?_
  refine fR (.inl rfl) rfl (by (repeat' first | exact trivial | refine And.intro ?_ ?_) <;> (try simp only [ByteArray.size,List.size_toArray,List.append_eq,List.length_append,List.length_cons,List.length_nil,Int.reduceToNat,IntKind.bits,Nat.reduceLeDiff,Nat.min_eq_left,Int.reducePow,Nat.reduceAdd,InI64,InI32]) <;> omega) _ [] rfl rfl rfl rfl (by rw [ByteArray.size_extract]; show 1 ≤ min ((i : Int) + 1).toNat 36 - ((i : Int)).toNat ∧ min ((i : Int) + 1).toNat 36 - ((i : Int)).toNat ≤ 2; omega)
 ·have hz : ¬ ((i : Int) < 10):=by simpa using hz
  refine GC.skip (GK.code ?_)
  refine rS [2] ?_ (hc:=(by (repeat' first | exact trivial | refine And.intro ?_ ?_) <;> (try simp only [ByteArray.size,List.size_toArray,List.append_eq,List.length_append,List.length_cons,List.length_nil,Int.reduceToNat,IntKind.bits,Nat.reduceLeDiff,Nat.min_eq_left,Int.reducePow,Nat.reduceAdd,InI64,InI32]) <;> omega))
  refine GC.ret ?_
  refine fR (.inl rfl) rfl (by (repeat' first | exact trivial | refine And.intro ?_ ?_) <;> (try simp only [ByteArray.size,List.size_toArray,List.append_eq,List.length_append,List.length_cons,List.length_nil,Int.reduceToNat,IntKind.bits,Nat.reduceLeDiff,Nat.min_eq_left,Int.reducePow,Nat.reduceAdd,InI64,InI32]) <;> omega) _ [] rfl rfl rfl rfl (by rw [ByteArray.size_extract]; show 1 ≤ min ((i : Int) * 2 + 2).toNat 200 - ((i : Int) * 2).toNat ∧ min ((i : Int) * 2 + 2).toNat 200 - ((i : Int) * 2).toNat ≤ 2; omega)
theorem f183 (μ) (b : Bool) : Fun Tryz.prog μ 183 [.v (.bool b)] [] 0 (fun n : Int=>0 ≤ n ∧ n ≤ 1) (fun n=>⟨.v (.int .i64 n),[],0⟩):=by
 cases b
 ·refine ?_
  refine fE 4 Tryz.func183 fun zw zβ=>?_
  refine cF [0] ?_
  refine rS [0] ?_
  refine GC.seq ?_
  refine rS [3] ?_
  refine GC.condF rfl (GC.skip (GK.code ?_))
  refine rS [2] ?_
  refine GC.ret ?_
  refine fR (.inl rfl) rfl (by trivial) 0 [] rfl rfl rfl rfl (⟨by decide,by decide⟩)
 ·refine ?_
  refine fE 4 Tryz.func183 fun zw zβ=>?_
  refine cF [0] ?_
  refine rS [0] ?_
  refine GC.seq ?_
  refine rS [3] ?_
  refine GC.condT rfl ?_
  refine rS [2] ?_
  refine GC.ret ?_
  refine fR (.inl rfl) rfl (by trivial) 1 [] rfl rfl rfl rfl (⟨by decide,by decide⟩)
theorem f181 (μ) (x : Nat) (hx : 7 ≤ x ∧ x ≤ 21) : Fun Tryz.prog μ 181 [.v (.int .i64 x)] [] 0 (fun n : Nat=>2 ≤ n ∧ n ≤ 6) (fun n=>⟨.v (.int .i64 n),[],0⟩):=by
 refine fE 6 Tryz.func181 fun zw zβ=>?_
 refine cF [0] ?_
 refine rS [0] ?_
 refine rS [2] ?_
 refine GC.ret ?_
 refine fR (.inl rfl) rfl (by trivial) ((x * 78913 / 262144)) [] rfl rfl rfl rfl (by constructor <;> omega)
def T8 (k : Nat) (z : Int) : Prop:=0 ≤ z ∧ z ≤ 8 ∧ (100 ≤ k → 7 ≤ z) ∧ (k < 32 → z ≤ 5) ∧ (1 ≤ k → 1 ≤ z)
def t8c (t : ByteArray) (k : Nat) : Bool:=decide (0 ≤ bt t k) && decide (bt t k ≤ 8) && (decide (k < 100) || decide (7 ≤ bt t k)) && (decide (32 ≤ k) || decide (bt t k ≤ 5)) && (decide (k < 1) || decide (1 ≤ bt t k))
theorem t8_of (t : ByteArray) (h : ((List.range 256).all (t8c t)) = true) (i : Int) (k : Nat) (hk : i = (k : Int) ∧ k < 256) : T8 k (bt t i.toNat):=by
 obtain ⟨rfl,hk⟩:=hk
 have:=List.all_eq_true.1 h k (List.mem_range.2 hk)
 simp only [t8c,Bool.and_eq_true,Bool.or_eq_true,decide_eq_true_eq] at this
 rw [Int.toNat_natCast]
 refine ⟨by omega,by omega,fun h=>by omega,fun h=>by omega,fun h=>by omega⟩
theorem f182 (μ) (x : Nat) (hx : 100 ≤ x ∧ x < 2097152) : Fun Tryz.prog μ 182 [.v (.int .u64 x)] [] 0 (fun n : Int=>7 ≤ n ∧ n ≤ 21) (fun n=>⟨.v (.int .i64 n),[],0⟩):=by
 refine fE 25 Tryz.func182 fun zw zβ=>?_
 refine cF [0] ?_
 refine rS [0,2] ?_
 refine GC.seq ?_
 refine rS [0,2,4] ?_
 refine GC.cond rfl (fun hz=>?_) (fun hz=>?_)
 ·have hz : (4294967296 : Int) ≤ x:=by simpa using hz
  omega
 ·have hz : ¬ ((4294967296 : Int) ≤ x):=by simpa using hz
  refine GC.skip (GK.code (GC.seq ?_))
  refine rS [0,2,8] ?_
  refine GC.cond rfl (fun hz2=>?_) (fun hz2=>?_)
  ·have hz2 : (65536 : Int) ≤ x:=by simpa using hz2
   refine rS [0,2] ?_
   refine rG [0,2] ?_
   refine GK.code (GC.seq ?_)
   refine rS [0,2,14] ?_
   refine GC.cond rfl (fun hz3=>?_) (fun hz3=>?_)
   ·have hz3 : (256 : Int) ≤ (x : Int) / 2 ^ min (Int.toNat 16) IntKind.u64.bits:=by simpa using hz3
    exact absurd hz3 (by show ¬ (256 : Int) ≤ (x : Int) / 65536; omega)
   ·have hz3 : ¬ ((256 : Int) ≤ (x : Int) / 2 ^ min (Int.toNat 16) IntKind.u64.bits):=by simpa using hz3
    refine GC.skip (GK.code (GL.seqR ?_))
    refine lK 3 [19,21] ?_
    refine GL.runK 1 [19,22] rfl rfl ⟨trivial,by unfold w8; omega,by show _ < ((256 : Nat) : Int); unfold w8; omega⟩ ?_
    refine GL.abs 22 rfl (fun _=>rfl) fun z hz=>?_
    have hQ : T8 (x / 65536) z:=by rw [hz]; exact t8_of _ (by kernel_rfl) _ _ ⟨by show w8 ((x : Int) / 65536) = _; unfold w8; omega,by omega⟩
    unfold T8 at hQ
    refine lF [2] (GK.code ?_)
    refine GC.ret ?_
    refine fR (.inl rfl) rfl (by trivial) _ [] rfl rfl rfl rfl (by omega)
  ·have hz2 : ¬ ((65536 : Int) ≤ x):=by simpa using hz2
   refine GC.skip (GK.code (GC.seq ?_))
   refine rS [0,2,14] ?_
   refine GC.cond rfl (fun hz3=>?_) (fun hz3=>?_)
   ·have hz3 : (256 : Int) ≤ x:=by simpa using hz3
    refine rS [0,2] ?_
    refine rG [0,2] ?_
    refine GK.code (GL.seqR ?_)
    refine lK 3 [19,21] ?_
    refine GL.runK 1 [19,22] rfl rfl ⟨trivial,by unfold w8; omega,by show _ < ((256 : Nat) : Int); unfold w8; omega⟩ ?_
    refine GL.abs 22 rfl (fun _=>rfl) fun z hz=>?_
    have hQ : T8 (x / 256) z:=by rw [hz]; exact t8_of _ (by kernel_rfl) _ _ ⟨by show w8 ((x : Int) / 256) = _; unfold w8; omega,by omega⟩
    unfold T8 at hQ
    refine lF [2] (GK.code ?_)
    refine GC.ret ?_
    refine fR (.inl rfl) rfl (by trivial) _ [] rfl rfl rfl rfl (by omega)
   ·have hz3 : ¬ ((256 : Int) ≤ x):=by simpa using hz3
    refine GC.skip (GK.code (GL.seqR ?_))
    refine lK 3 [19,21] ?_
    refine GL.runK 1 [19,22] rfl rfl ⟨trivial,by unfold w8; omega,by show _ < ((256 : Nat) : Int); unfold w8; omega⟩ ?_
    refine GL.abs 22 rfl (fun _=>rfl) fun z hz=>?_
    have hQ : T8 (x) z:=by rw [hz]; exact t8_of _ (by kernel_rfl) _ _ ⟨by show w8 (x : Int) = _; unfold w8; omega,by omega⟩
    unfold T8 at hQ
    refine lF [2] (GK.code ?_)
    refine GC.ret ?_
    refine fR (.inl rfl) rfl (by trivial) _ [] rfl rfl rfl rfl (by omega)
def P10 (μ : Nat → Option Obj) : Prop:=∀ i,i < 20 → ∃ z,muAt μ 21 i = some (.int .u64 z)
theorem f161 (μ) (x : Nat) (hx : 100 ≤ x ∧ x < 2097152) (hP : P10 μ) : Fun Tryz.prog μ 161 [.v (.int .u64 x)] [] 0 (fun n : Int=>2 ≤ n ∧ n ≤ 7) (fun n=>⟨.v (.int .i64 n),[],0⟩):=by
 refine fE 15 Tryz.func161 fun zw zβ=>?_
 refine cF [0] ?_
 refine rS [0] ?_
 refine GL.seqR ?_
 refine lK 1 [0,4] ?_
 refine GL.op rfl (cR rfl (f182 _ x hx) [] rfl rfl rfl rfl fun n hn=>?_)
 obtain ⟨n,rfl⟩:=Int.eq_ofNat_of_zero_le (show 0 ≤ n by omega)
 have hn2 : 7 ≤ n ∧ n ≤ 21:=by omega
 refine gF [0,5] rfl ?_
 refine GL.op rfl (cR rfl (f181 _ n hn2) [] rfl rfl rfl rfl fun m hm=>?_)
 obtain ⟨z,hz⟩:=hP m (by omega)
 refine gF [0,6] rfl ?_
 refine lF [0,3] (GK.code ?_)
 refine GL.seqR ?_
 refine lK 3 [7,8,9] ?_
 refine GL.vstep rfl (VStep.ixG rfl rfl rfl rfl rfl (by omega) (by omega)) rfl (GL.force [7,8,10] rfl ?_)
 refine GL.op rfl (OpW.lstep (LStep.mu (b:=21) (off:=0 + (m : Int).toNat * 1) (v:=.int .u64 z) rfl rfl rfl rfl (by show muAt μ 21 (0 + m * 1) = _; rw [Nat.zero_add,Nat.mul_one]; exact hz)) rfl (gF [7,8,11] rfl ?_))
 refine lK 1 [7,12] ?_
 refine GL.op rfl (cR rfl (f183 _ _) [] rfl rfl rfl rfl fun b hb=>?_)
 refine gF [7,13] rfl ?_
 refine lF [2] (GK.code ?_)
 refine GC.ret ?_
 refine fR (.inl rfl) rfl (by trivial) _ [] rfl rfl rfl rfl (by omega)
theorem f162 (μ) (F : Nat → Int) (x off n cap rn re : Nat) (hx : x < 2097152) (hn : 2 ≤ n ∧ n ≤ 7) (hr : off + n ≤ rn) : Fun Tryz.prog μ 162 [.slc 0 off n cap,.v (.int .u64 x)] [(0,.row ⟨.ints .u8 F,rn,re⟩)] 1 (fun _ : Nat → Int=>True) (fun G=>⟨.tup [],[(0,.row ⟨.ints .u8 G,rn,re⟩)],1⟩):=by
 have hw : w32 (x : Int) = x:=by unfold w32; omega
 refine fE 167 Tryz.func162 fun zw zβ=>?_
 refine cF [0,1] ?_
 refine rS [0,1,4] ?_
 refine GC.seq (GC.block ?_)
 refine GC.loop0 ?_
 refine GC.seq ?_
 refine rS [0,1,4,20] ?_
 refine GC.cond rfl (fun h8=>?_) (fun h8=>?_)
 ·have h8 : (8 : Int) ≤ (n : Int):=by simpa using h8
  omega
 ·have h8 : ¬ ((8 : Int) ≤ (n : Int)):=by simpa using h8
  refine GC.exit ?_
  refine GK.code ?_
  refine rS [0,4,12] ?_
  refine GC.seq ?_
  refine rS [0,4,12,99] ?_
  refine GC.cond rfl (fun h4=>?_) (fun h4=>?_)
  ·have h4 : (4 : Int) ≤ (n : Int):=by simpa using h4
   refine rS [0,4,12,13] ?_
   refine rS [0,4,12,13] ?_
   refine rS [0,4,12,14,15] ?_
   refine GC.seq (GC.draw [(0,0),(1,0),(2,0),(3,0),(4,0),(5,0),(6,0),(7,0),(8,0),(9,0),(10,0),(11,0),(12,2),(13,0),(14,2)] mixed (by kernel_rfl) (by rintro _ _ _ _ ⟨_,_,_,_,h,_⟩ _; cases h) ?_)
   refine wF [0,4,12,14] (GK.code ?_)
   refine GC.seq (GC.draw [(0,0),(1,0),(2,0),(3,0),(4,0),(5,0),(6,0),(7,0),(8,0),(9,0),(10,0),(11,0),(12,2),(13,0),(14,2)] mixed (by kernel_rfl) (by rintro _ _ _ _ ⟨_,_,_,_,h,_⟩ _; cases h) ?_)
   refine wF [0,4,12] (GK.code ?_)
   refine rG [0,4,12] ?_
   refine GK.code (GC.seq ?_)
   refine rS [0,4,12,139] ?_
   refine GC.cond rfl (fun h2=>?_) (fun h2=>?_)
   ·have h2 : (2 : Int) ≤ (n : Int) - 4:=by simpa using h2
    refine rS [0,4,12,16] ?_
    refine rS [0,4,12,16] ?_
    refine GC.seq (GC.draw [(0,0),(1,0),(2,0),(3,0),(4,0),(5,0),(6,0),(7,0),(8,0),(9,0),(10,0),(11,0),(12,2),(13,0),(14,2)] mixed (by kernel_rfl) (by rintro _ _ _ _ ⟨_,_,_,_,h,_⟩ _; cases h) ?_)
    refine wF [0,4,12] (GK.code ?_)
    refine rG [0,4,12] ?_
    refine GK.code ?_
    refine rS [0,12,161] ?_
    refine GC.cond rfl (fun h0=>?_) (fun h0=>?_)
    ·have h0 : (0 : Int) < (n : Int) - 4 - 2:=by simpa using h0
     refine rG [] ?_
     refine fR (.inr rfl) rfl (by trivial) _ [0] rfl rfl rfl rfl (trivial)
    ·have h0 : ¬ ((0 : Int) < (n : Int) - 4 - 2):=by simpa using h0
     refine GC.skip ?_
     refine fR (.inr rfl) rfl (by trivial) _ [0] rfl rfl rfl rfl (trivial)
   ·have h2 : ¬ ((2 : Int) ≤ (n : Int) - 4):=by simpa using h2
    refine GC.skip (GK.code ?_)
    refine rS [0,12,161] ?_
    refine GC.cond rfl (fun h0=>?_) (fun h0=>?_)
    ·have h0 : (0 : Int) < (n : Int) - 4:=by simpa using h0
     refine rG [] ?_
     refine fR (.inr rfl) rfl (by trivial) _ [0] rfl rfl rfl rfl (trivial)
    ·have h0 : ¬ ((0 : Int) < (n : Int) - 4):=by simpa using h0
     refine GC.skip ?_
     refine fR (.inr rfl) rfl (by trivial) _ [0] rfl rfl rfl rfl (trivial)
  ·have h4 : ¬ ((4 : Int) ≤ (n : Int)):=by simpa using h4
   refine GC.skip (GK.code (GC.seq ?_))
   refine rS [0,4,12,139] ?_
   refine GC.cond rfl (fun h2=>?_) (fun h2=>?_)
   ·have h2 : (2 : Int) ≤ (n : Int):=by simpa using h2
    refine rS [0,4,12,16] ?_
    refine rS [0,4,12,16] ?_
    refine GC.seq (GC.draw [(0,0),(1,0),(2,0),(3,0),(4,0),(5,0),(6,0),(7,0),(8,0),(9,0),(10,0),(11,0),(12,2),(13,0),(14,2)] mixed (by kernel_rfl) (by rintro _ _ _ _ ⟨_,_,_,_,h,_⟩ _; cases h) ?_)
    refine wF [0,4,12] (GK.code ?_)
    refine rG [0,4,12] ?_
    refine GK.code ?_
    refine rS [0,12,161] ?_
    refine GC.cond rfl (fun h0=>?_) (fun h0=>?_)
    ·have h0 : (0 : Int) < (n : Int) - 2:=by simpa using h0
     refine rG [] ?_
     refine fR (.inr rfl) rfl (by trivial) _ [0] rfl rfl rfl rfl (trivial)
    ·have h0 : ¬ ((0 : Int) < (n : Int) - 2):=by simpa using h0
     refine GC.skip ?_
     refine fR (.inr rfl) rfl (by trivial) _ [0] rfl rfl rfl rfl (trivial)
   ·have h2 : ¬ ((2 : Int) ≤ (n : Int)):=by simpa using h2
    omega
theorem rowN_length (N : Nat → Int) : ∀ (m j : Nat),(rowN N j m).length = m
 | 0,j=>rfl
 | m + 1,j=>by simp [rowN,rowN_length N m (j + 1)]
theorem baL_aux : ∀ (l : List Int) (r : ByteArray),(l.foldl (fun r n=>r.push (UInt8.ofNat n.toNat)) r).size = r.size + l.length
 | [],r=>rfl
 | a :: l,r=>by rw [List.foldl_cons,baL_aux l,ByteArray.size_push,List.length_cons]; omega
theorem baL_size (l : List Int) : (baL l).size = l.length:=by unfold baL; rw [baL_aux]; show 0 + _ = _; omega
theorem f141 (μ) (x : Nat) (hx : x < 2097152) (hP : P10 μ) : Fun Tryz.prog μ 141 [.v (.int .i64 x),.v (.int .i64 10)] [] 0 (fun t : ByteArray=>1 ≤ t.size ∧ t.size ≤ 24) (fun t=>⟨.v (.string t),[],0⟩):=by
 have hw : w64 (x : Int) = x:=by unfold w64; omega
 refine fE 54 Tryz.func141 fun zw zβ=>?_
 refine cF [0,1,15,16] ?_
 refine rS [0,1,15,16] ?_
 refine GC.seq ?_
 refine rS [0,1,11,15,16] ?_
 refine GC.condT rfl (GC.seq (GL.seqR ?_))
 refine lK 3 [0,14,15,16] ?_
 refine GL.spl 14 rfl rfl rfl (fun hp=>?_) (fun hp=>?_)
 ·have hp : (0 : Int) ≤ (x : Int):=by simpa using hp
  refine lF [0,17] (GK.code ?_)
  refine GC.cond rfl (fun hp2=>?_) (fun hp2=>?_)
  ·have hp2 : (x : Int) < 100:=by simpa using hp2
   refine GL.seqR ?_
   refine lK 1 [18] ?_
   refine GL.op rfl (cR rfl (f160 _ x (by omega)) [] rfl rfl rfl rfl fun t ht=>?_)
   refine gF [19] rfl ?_
   refine lF [4] (GK.code ?_)
   refine GC.ret ?_
   refine fR (.inl rfl) rfl (by trivial) t [] rfl rfl rfl rfl (⟨ht.1,by omega⟩)
  ·have hp2 : ¬ ((x : Int) < 100):=by simpa using hp2
   refine GC.skip (GK.code ?_)
   refine rS [0,5] ?_
   refine rS [0,5,6] ?_
   rw [hw]
   refine GC.seq ?_
   refine rS [0,5,6,23] ?_
   refine GC.cond rfl (fun hneg=>?_) (fun hneg=>?_)
   ·have hneg : (x : Int) < 0:=by simpa using hneg
    omega
   ·have hneg : ¬ ((x : Int) < 0):=by simpa using hneg
    refine GC.skip (GK.code (GL.seqR ?_))
    refine lK 1 [0,5,6,26] ?_
    refine GL.op rfl (cR rfl (f161 _ x (by omega) hP) [] rfl rfl rfl rfl fun n hn=>?_)
    obtain ⟨n,rfl⟩:=Int.eq_ofNat_of_zero_le (show 0 ≤ n by omega)
    refine gF [0,5,6,27] rfl ?_
    refine lF [0,5,6,7] (GK.code ?_)
    refine GC.cvR 0 ⟨.ints .u8 fun _=>0,24,329⟩ rfl rfl rfl (fun i hi=>by have : i < 24:=hi; match i,this with | 0,_=>rfl | 1,_=>rfl | 2,_=>rfl | 3,_=>rfl | 4,_=>rfl | 5,_=>rfl | 6,_=>rfl | 7,_=>rfl | 8,_=>rfl | 9,_=>rfl | 10,_=>rfl | 11,_=>rfl | 12,_=>rfl | 13,_=>rfl | 14,_=>rfl | 15,_=>rfl | 16,_=>rfl | 17,_=>rfl | 18,_=>rfl | 19,_=>rfl | 20,_=>rfl | 21,_=>rfl | 22,_=>rfl | 23,_=>rfl | n + 24,h=>exact absurd h (by omega)) rfl ?_
    refine GL.seqR ?_
    refine lK 4 [0,5,7,30,31] ?_
    refine GL.op rfl (cR rfl (f162 _ (fun _=>0) x (offS 24 (Int.toNat 1) 0 1) ((1 + (n : Int)).toNat - Int.toNat 1) (24 - Int.toNat 1) 24 329 hx (by show 2 ≤ (1 + (n : Int)).toNat - 1 ∧ (1 + (n : Int)).toNat - 1 ≤ 7; omega) (by show 0 + 1 * 1 + ((1 + (n : Int)).toNat - 1) ≤ 24; omega)) [0] rfl rfl rfl rfl fun G _=>?_)
    refine gF [0,5,7] rfl ?_
    refine lF [0,5,7] (GK.code ?_)
    refine GC.seq ?_
    refine rS [5,7,34] ?_
    refine GC.condF rfl (GC.skip (GK.code (GL.seqR ?_)))
    refine lK 3 [42] ?_
    refine GL.op rfl (OpW.lstep (LStep.str (n:=(1 + (n : Int)).toNat - Int.toNat 1) (N:=fun j=>G (1 + j)) rfl rfl rfl rfl (slc_slice rfl) (src_slc (sz:=1) rfl rfl (by show 0 + 1 * 1 + ((1 + (n : Int)).toNat - 1) * 1 ≤ 24; omega) (fun j hj=>rfl))) rfl (gF [43] rfl ?_))
    refine lF [4] (GK.code ?_)
    refine GC.ret ?_
    refine fR (.inl rfl) rfl (by trivial) _ [] rfl rfl rfl rfl (by rw [baL_size,rowN_length]; show 1 ≤ (1 + (n : Int)).toNat - 1 ∧ (1 + (n : Int)).toNat - 1 ≤ 24; omega)
 ·have hp : ¬ ((0 : Int) ≤ (x : Int)):=by simpa using hp
  omega
theorem f113 (μ) (x : Nat) (hx : x < 2097152) (hP : P10 μ) : Fun Tryz.prog μ 113 [.v (.int .i64 x),.v (.int .i64 10)] [] 0 (fun t : ByteArray=>1 ≤ t.size ∧ t.size ≤ 24) (fun t=>⟨.v (.string t),[],0⟩):=by
 refine fE 8 Tryz.func113 fun zw zβ=>?_
 refine cF [0,1] ?_
 refine rS [0,1] ?_
 refine GL.seqR ?_
 refine lK 2 [5,6] ?_
 refine GL.op rfl (cR rfl (f141 _ x hx hP) [] rfl rfl rfl rfl fun t ht=>?_)
 refine gF [7] rfl ?_
 refine lF [4] (GK.code ?_)
 refine GC.ret ?_
 refine fR (.inl rfl) rfl (by trivial) t [] rfl rfl rfl rfl (ht)
theorem f140 (μ) (k : Nat) (hk : 1 ≤ k ∧ k ≤ 4) : Fun Tryz.prog μ 140 [.v (.int .i8 k)] [] 0 (fun t : ByteArray=>1 ≤ t.size ∧ t.size ≤ 24) (fun t=>⟨.v (.string t),[],0⟩):=by
 refine fE 18 Tryz.func140 fun zw zβ=>?_
 refine cF [0] ?_
 refine rS [0] ?_
 refine rS [3] ?_
 refine GC.block ?_
 refine rS [3,4] ?_
 refine GC.cond rfl (fun h1=>?_) (fun h1=>?_)
 ·have h1 : (k : Int) = 1:=by simpa using h1
  refine rS [2] ?_
  refine GC.ret ?_
  refine fR (.inl rfl) rfl (by trivial) _ [] rfl rfl rfl rfl (⟨by decide,by decide⟩)
 ·have h1 : ¬ ((k : Int) = 1):=by simpa using h1
  refine rS [3,6] ?_
  refine GC.cond rfl (fun h2=>?_) (fun h2=>?_)
  ·have h2 : (k : Int) = 2:=by simpa using h2
   refine rS [2] ?_
   refine GC.ret ?_
   refine fR (.inl rfl) rfl (by trivial) _ [] rfl rfl rfl rfl (⟨by decide,by decide⟩)
  ·have h2 : ¬ ((k : Int) = 2):=by simpa using h2
   refine rS [3,8] ?_
   refine GC.cond rfl (fun h3=>?_) (fun h3=>?_)
   ·have h3 : (k : Int) = 3:=by simpa using h3
    refine rS [2] ?_
    refine GC.ret ?_
    refine fR (.inl rfl) rfl (by trivial) _ [] rfl rfl rfl rfl (⟨by decide,by decide⟩)
   ·have h3 : ¬ ((k : Int) = 3):=by simpa using h3
    refine rS [3,10] ?_
    refine GC.cond rfl (fun h4=>?_) (fun h4=>?_)
    ·have h4 : (k : Int) = 4:=by simpa using h4
     refine rS [2] ?_
     refine GC.ret ?_
     refine fR (.inl rfl) rfl (by trivial) _ [] rfl rfl rfl rfl (⟨by decide,by decide⟩)
    ·have h4 : ¬ ((k : Int) = 4):=by simpa using h4
     omega
theorem f112 (μ) (k : Nat) (hk : 1 ≤ k ∧ k ≤ 4) : Fun Tryz.prog μ 112 [.v (.int .i8 k)] [] 0 (fun x : Nat × Nat × (Nat → Int)=>1 ≤ x.1 ∧ x.1 ≤ 24 ∧ x.1 ≤ x.2.1) (fun x=>⟨.slc 0 0 x.1 x.2.1,[(0,.row ⟨.ints .u8 x.2.2,x.2.1,5⟩)],1⟩):=by
 refine fE 6 Tryz.func112 fun zw zβ=>?_
 refine cF [0] ?_
 refine rS [0] ?_
 refine GL.seqR ?_
 refine lK 1 [3] ?_
 refine GL.op rfl (cR rfl (f140 _ k hk) [] rfl rfl rfl rfl fun t ht=>?_)
 refine gF [4] rfl ?_
 refine GL.op rfl (OpW.bytes rfl rfl rfl rfl rfl (by omega) (fun cap F h1 h2 h3 ρ' hp=>?_) rfl)
 obtain rfl:=Option.some.inj hp; clear hp
 refine gF [5] rfl ?_
 refine lF [2] (GK.code ?_)
 refine GC.ret ?_
 refine fR (.inl rfl) rfl (by trivial) ((t.size,cap,F)) [0] rfl rfl rfl rfl (⟨ht.1,ht.2,h1⟩)
theorem offS_lt4 (c o l : Nat) (h : l ≤ c) (h4 : 4 ≤ l) : offS c 4 o 1 = o + 4 ∨ (c = 4 ∧ offS c 4 o 1 = o):=by
 by_cases e : c = 4
 ·right; subst e; exact ⟨rfl,rfl⟩
 ·left; rw [offS_lt (by omega)]
def WO (F : Nat → Int) (rn fe : Nat) (o l c : Nat) (a b : Int) : S:=⟨[(1,.slc 0 o l c),(5,.v (.int .u32 a)),(6,.v (.int .u32 b))],[(0,.row ⟨.ints .u8 F,rn,fe⟩)],1,[]⟩
structure IOt (B F : Nat → Int) (rn n0 m : Nat) (o l c : Nat) (a b : Int) : Prop where
 hl : l ≤ m
 hc : l ≤ c
 hr : o + l ≤ rn
 hF : ∀ j,j < l → F (o + j) = B (n0 + (m - l) + j)
 ha : a = adA B (n0 + (m - l)) % 65521
 hb : b = adB B (n0 + (m - l)) % 65521
def WIA (F : Nat → Int) (rn fe qo ql qc : Nat) (o l c : Nat) (a b : Int) : S:=⟨[(1,.slc 0 o l c),(5,.v (.int .u32 a)),(6,.v (.int .u32 b)),(7,.slc 0 qo ql qc)],[(0,.row ⟨.ints .u8 F,rn,fe⟩)],1,[]⟩
def WIN (F : Nat → Int) (rn fe : Nat) (o l c : Nat) (a b : Int) : S:=⟨[(1,.slc 0 o l c),(5,.v (.int .u32 a)),(6,.v (.int .u32 b)),(7,.v (.slice none 0 0))],[(0,.row ⟨.ints .u8 F,rn,fe⟩)],1,[]⟩
structure II (B F : Nat → Int) (rn m0 L : Nat) (o l c : Nat) (a b : Int) : Prop where
 hl : l ≤ L
 hc : l ≤ c
 hr : o + l ≤ rn
 hF : ∀ j,j < l → F (o + j) = B (m0 + (L - l + j))
 hi : CI B m0 (L - l) a b
def WJA (F : Nat → Int) (rn fe qo ql qc o l c : Nat) (a b i : Int) : S:=⟨[(5,.v (.int .u32 a)),(6,.v (.int .u32 b)),(7,.slc 0 qo ql qc),(65,.slc 0 o l c),(66,.v (.int .i64 l)),(67,.v (.int .i64 i))],[(0,.row ⟨.ints .u8 F,rn,fe⟩)],1,[]⟩
def WJN (F : Nat → Int) (rn fe o l c : Nat) (a b i : Int) : S:=⟨[(5,.v (.int .u32 a)),(6,.v (.int .u32 b)),(7,.v (.slice none 0 0)),(65,.slc 0 o l c),(66,.v (.int .i64 l)),(67,.v (.int .i64 i))],[(0,.row ⟨.ints .u8 F,rn,fe⟩)],1,[]⟩
structure IJ (B : Nat → Int) (m0 L l : Nat) (a b i : Int) : Prop where
 h0 : 0 ≤ i
 h1 : i ≤ l
 hi : CI B m0 (L - l + i.toNat) a b
theorem f201 (μ) {fe : Nat} (B F : Nat → Int) (n0 off m cap rn : Nat) (hr : off + m ≤ rn) (hc : m ≤ cap) (hF : ∀ j,j < m → F (off + j) = B (n0 + j)) (hB : ∀ j,j < n0 + m → 0 ≤ B j ∧ B j < 256) (hm : m < 1099511627776) : Fun Tryz.prog μ 201 [.v (.int .u32 (ad B n0)),.slc 0 off m cap] [(0,.row ⟨.ints .u8 F,rn,fe⟩)] 1
  (fun _ : Unit=>True) (fun _=>⟨.v (.int .u32 (ad B (n0 + m))),[(0,.row ⟨.ints .u8 F,rn,fe⟩)],1⟩):=by
 refine fE 88 Tryz.func201 fun zw zβ=>?_
 refine cF [0,1] ?_
 refine rS [0,1] ?_
 refine rS [1,5,6] ?_
 refine GC.abs 5 rfl (fun _=>rfl) fun x5 h5=>?_
 obtain rfl : x5 = adA B n0 % 65521:=by rw [h5]; exact adl_and (by omega) (by omega)
 refine GC.abs 6 rfl (fun _=>rfl) fun x6 h6=>?_
 obtain rfl : x6 = adB B n0 % 65521:=by
  rw [h6]
  show adl (adA B n0 % 65521) (adB B n0 % 65521) / 65536 = _
  rw [adl_eq (by omega) (by omega)]; omega
 refine GC.seq (GC.block ?_)
 refine GC.loopX (ι:=(Nat) × (Nat) × (Nat) × (Int) × (Int)) (fun zi=>(IOt B F rn n0 m) zi.1 zi.2.1 zi.2.2.1 zi.2.2.2.1 zi.2.2.2.2) (fun zi=>(fun o l c a b=>(l : Nat)) zi.1 zi.2.1 zi.2.2.1 zi.2.2.2.1 zi.2.2.2.2) (fun zi=>(WO F rn fe) zi.1 zi.2.1 zi.2.2.1 zi.2.2.2.1 zi.2.2.2.2) ((off,m,cap,adA B n0 % 65521,adB B n0 % 65521)) [0] (show (IOt B F rn n0 m) (off) (m) (cap) (adA B n0 % 65521) (adB B n0 % 65521) from ?_) (Ent.R rfl rfl rfl rfl) ?_
 ·exact ⟨Nat.le_refl _,hc,hr,fun j hj=>by rw [hF j hj]; congr 1; omega,by rw [Nat.sub_self,Nat.add_zero],by rw [Nat.sub_self,Nat.add_zero]⟩
 rintro ⟨o,l,c,a,b⟩ hI
 change (IOt B F rn n0 m) o l c a b at hI
 obtain ⟨g1,g2,g3,g4,ga,gb⟩:=hI
 change GC _ _ _ ((WO F rn fe) o l c a b)
 subst ga gb
 unfold WO
 refine cF [1,5,6] ?_
 refine GC.seq ?_
 refine rS [1,5,6,16] ?_
 refine GC.cond rfl (fun hl0=>?_) (fun hl0=>?_)
 ·have hl0 : 0 < (l : Int):=by simpa using hl0
  refine GC.skip (GK.code (GC.block ?_))
  refine rS [1,5,6,7] ?_
  refine GC.seq ?_
  refine rS [1,5,6,7,19] ?_
  refine GC.cond rfl (fun hl=>?_) (fun hl=>?_)
  ·have hl : (5552 : Int) < (l : Int):=by simpa using hl
   refine GC.draw [(0,0),(1,0),(2,0),(3,0),(4,0),(5,0)] mixed (by kernel_rfl) (by rintro _ _ _ _ ⟨_,_,_,_,h,_⟩ _; cases h) ?_
   refine wF [1,5,6,7] ?_
   refine GK.code (GC.seq (GC.block ?_))
   refine GC.loopE (ι:=(Nat) × (Nat) × (Nat) × (Int) × (Int)) (fun zi=>(II B F rn (n0 + (m - l)) 5552) zi.1 zi.2.1 zi.2.2.1 zi.2.2.2.1 zi.2.2.2.2) (fun zi=>(fun o' l' c' a b=>(l' : Nat)) zi.1 zi.2.1 zi.2.2.1 zi.2.2.2.1 zi.2.2.2.2) (fun zi=>(WIA F rn fe (offS c 5552 o 1) (l - 5552) (c - 5552)) zi.1 zi.2.1 zi.2.2.1 zi.2.2.2.1 zi.2.2.2.2) ((offS c 0 o 1,5552,c - 0,adA B (n0 + (m - l)) % 65521,adB B (n0 + (m - l)) % 65521)) [0] (show (II B F rn (n0 + (m - l)) 5552) (offS c 0 o 1) (5552) (c - 0) (adA B (n0 + (m - l)) % 65521) (adB B (n0 + (m - l)) % 65521) from ?_) (Ent.R rfl rfl rfl rfl) ?_
   ·have hz:=offS_zero c o 1
    refine ⟨Nat.le_refl _,by omega,by omega,fun j hj=>by rw [hz,g4 _ (by omega)]; congr 1; omega,?_⟩
    rw [Nat.sub_self]
    exact ⟨by rw [Nat.add_zero]; omega,by rw [Nat.add_zero]; omega,by omega,by have : tri 0 = 0:=rfl; omega,by omega⟩
   rintro ⟨o',l',c',a,b⟩ hI
   change (II B F rn (n0 + (m - l)) 5552) o' l' c' a b at hI
   obtain ⟨j1,j2,j3,j4,j5⟩:=hI
   change GC _ _ _ ((WIA F rn fe (offS c 5552 o 1) (l - 5552) (c - 5552)) o' l' c' a b)
   refine cF [1,5,6,7] ?_
   refine GC.seq ?_
   refine rS [1,5,6,7,26] ?_ (hc:=(by (repeat' first | exact trivial | refine And.intro ?_ ?_) <;> first | omega | (unfold w32; omega)))
   refine GC.cond rfl (fun hc4=>?_) (fun hc4=>?_)
   ·have hc4 : (4 : Int) ≤ (l' : Int):=by simpa using hc4
    have k0:=j5.step (by omega) (j4 0 (by omega)) (by rw [j4 0 (by omega)]; exact hB _ (by omega))
    have k1:=k0.step (by omega) ((j4 1 (by omega)).trans (congrArg B (by omega))) (by rw [j4 1 (by omega)]; exact hB _ (by omega))
    have k2:=k1.step (by omega) ((j4 2 (by omega)).trans (congrArg B (by omega))) (by rw [j4 2 (by omega)]; exact hB _ (by omega))
    have k3:=k2.step (by omega) ((j4 3 (by omega)).trans (congrArg B (by omega))) (by rw [j4 3 (by omega)]; exact hB _ (by omega))
    refine GC.skip (GK.code (GC.block ?_))
    refine rS [1,5,6,7] ?_ (hc:=(by (repeat' first | exact trivial | refine And.intro ?_ ?_) <;> first | omega | (unfold w32; omega)))
    refine rS [1,5,6,7] ?_ (hc:=(by (repeat' first | exact trivial | refine And.intro ?_ ?_) <;> first | omega | (unfold w32; omega)))
    refine rS [1,5,6,7] ?_ (hc:=(by (repeat' first | exact trivial | refine And.intro ?_ ?_) <;> first | omega | (unfold w32; omega)))
    refine rS [1,5,6,7] ?_ (hc:=(by (repeat' first | exact trivial | refine And.intro ?_ ?_) <;> first | omega | (unfold w32; omega)))
    refine rS [1,5,6,7] ?_ (hc:=(by (repeat' first | exact trivial | refine And.intro ?_ ?_) <;> first | omega | (unfold w32; omega)))
    refine rS [1,5,6,7] ?_ (hc:=(by (repeat' first | exact trivial | refine And.intro ?_ ?_) <;> first | omega | (unfold w32; omega)))
    refine rS [1,5,6,7] ?_ (hc:=(by (repeat' first | exact trivial | refine And.intro ?_ ?_) <;> first | omega | (unfold w32; omega)))
    refine rS [1,5,6,7] ?_ (hc:=(by (repeat' first | exact trivial | refine And.intro ?_ ?_) <;> first | omega | (unfold w32; omega)))
    refine rG [1,5,6,7] ?_ (hc:=(by (repeat' first | exact trivial | refine And.intro ?_ ?_) <;> first | omega | (unfold w32; omega)))
    refine GK.back (offS c' 4 o' 1,l' - 4,c' - 4,_,_) [0] (show (II B F rn (n0 + (m - l)) 5552) (offS c' 4 o' 1) (l' - 4) (c' - 4) (_) (_) from ?_) ?_ (Ent.R rfl rfl rfl rfl)
    ·have ho:=offS_lt4 c' o' l' j2 (by omega)
     refine ⟨by omega,by omega,by omega,fun j hj=>?_,?_⟩
     ·rw [show offS c' 4 o' 1 = o' + 4 from by omega,show o' + 4 + j = o' + (4 + j) from by omega,j4 _ (by omega)]; congr 1; omega
     ·rw [show 5552 - (l' - 4) = 5552 - l' + 1 + 1 + 1 + 1 from by omega]; exact k3
    ·dsimp only; omega
   ·have hc4 : ¬ ((4 : Int) ≤ (l' : Int)):=by simpa using hc4
    refine GC.exit ?_
    refine GK.code (GC.seq ?_)
    refine rS [5,6,7,65,66,67] ?_ (hc:=(by (repeat' first | exact trivial | refine And.intro ?_ ?_) <;> first | omega | (unfold w32; omega)))
    refine GC.block ?_
    refine GC.loopE (ι:=(Int) × (Int) × (Int)) (fun zi=>(IJ B (n0 + (m - l)) 5552 l') zi.1 zi.2.1 zi.2.2) (fun zi=>(fun a b i=>(((l' : Int) - i).toNat : Nat)) zi.1 zi.2.1 zi.2.2) (fun zi=>(WJA F rn fe (offS c 5552 o 1) (l - 5552) (c - 5552) o' l' c') zi.1 zi.2.1 zi.2.2) ((a,b,0)) [0] (show (IJ B (n0 + (m - l)) 5552 l') (a) (b) (0) from ?_) (Ent.R rfl rfl rfl rfl) ?_
    ·exact ⟨Int.le_refl _,by omega,j5⟩
    rintro ⟨a,b,i⟩ hI
    change (IJ B (n0 + (m - l)) 5552 l') a b i at hI
    obtain ⟨i0,i1,hci⟩:=hI
    change GC _ _ _ ((WJA F rn fe (offS c 5552 o 1) (l - 5552) (c - 5552) o' l' c') a b i)
    refine cF [5,6,7,65,66,67] ?_
    refine rS [5,6,7,65,66,67,68] ?_ (hc:=(by (repeat' first | exact trivial | refine And.intro ?_ ?_) <;> first | omega | (unfold w32; omega)))
    refine GC.seq ?_
    refine GC.cond rfl (fun hi=>?_) (fun hi=>?_)
    ·have hi : i < (l' : Int):=by simpa using hi
     have e9 : o' + i.toNat * 1 = o' + i.toNat:=by omega
     have hstep:=hci.step (by omega) ((congrArg F e9).trans ((j4 i.toNat (by omega)).trans (congrArg B (by omega)))) (by rw [e9,j4 i.toNat (by omega)]; exact hB _ (by omega))
     refine GC.skip (GK.code (GC.seq (GC.block ?_)))
     refine rS [5,6,7,9,65,66,67] ?_ (hc:=(by (repeat' first | exact trivial | refine And.intro ?_ ?_) <;> first | omega | (unfold w32; omega)))
     refine rS [5,6,7,65,66,67] ?_ (hc:=(by (repeat' first | exact trivial | refine And.intro ?_ ?_) <;> first | omega | (unfold w32; omega)))
     refine rG [5,6,7,65,66,67] ?_ (hc:=(by (repeat' first | exact trivial | refine And.intro ?_ ?_) <;> first | omega | (unfold w32; omega)))
     refine GK.code ?_
     refine rG [5,6,7,65,66,67] ?_ (hc:=(by (repeat' first | exact trivial | refine And.intro ?_ ?_) <;> first | omega | (unfold w32; omega)))
     refine GK.back (_,_,i + 1) [0] (show (IJ B (n0 + (m - l)) 5552 l') (_) (_) (i + 1) from ?_) ?_ (Ent.R rfl rfl rfl rfl)
     ·refine ⟨by omega,by omega,?_⟩
      rw [show 5552 - l' + (i + 1).toNat = 5552 - l' + i.toNat + 1 from by omega]; exact hstep
     ·dsimp only; omega
    ·have hi : ¬ (i < (l' : Int)):=by simpa using hi
     obtain rfl : i = l':=by omega
     have hcf : CI B (n0 + (m - l)) 5552 a b:=by rw [show 5552 - l' + ((l' : Int)).toNat = 5552 from by omega] at hci; exact hci
     have hb1:=hcf.b1
     have hb2:=hcf.b2
     refine GC.exit ?_
     refine GK.code ?_
     refine rS [5,6,7] ?_ (hc:=(by (repeat' first | exact trivial | refine And.intro ?_ ?_) <;> first | omega | (unfold w32; omega)))
     refine rS [5,6,7] ?_ (hc:=(by (repeat' first | exact trivial | refine And.intro ?_ ?_) <;> first | omega | (unfold w32; omega)))
     refine rG [1,5,6] ?_ (hc:=(by (repeat' first | exact trivial | refine And.intro ?_ ?_) <;> first | omega | (unfold w32; omega)))
     refine GK.inl ?_
     refine GK.back (offS c 5552 o 1,l - 5552,c - 5552,_,_) [0] (show (IOt B F rn n0 m) (offS c 5552 o 1) (l - 5552) (c - 5552) (_) (_) from ?_) ?_ (Ent.R rfl rfl rfl rfl)
     ·have ho : offS c 5552 o 1 = o + 5552:=offS_lt (by omega)
      refine ⟨by omega,by omega,by omega,fun j hj=>?_,?_,?_⟩
      ·rw [ho,show o + 5552 + j = o + (5552 + j) from by omega,g4 _ (by omega)]; exact congrArg B (by omega)
      ·rw [show n0 + (m - (l - 5552)) = n0 + (m - l) + 5552 from by omega]; exact hcf.c1
      ·rw [show n0 + (m - (l - 5552)) = n0 + (m - l) + 5552 from by omega]; exact hcf.c2
     ·dsimp only; omega
  ·have hl : ¬ ((5552 : Int) < (l : Int)):=by simpa using hl
   refine GC.skip (GK.code (GC.seq (GC.block ?_)))
   refine GC.loopE (ι:=(Nat) × (Nat) × (Nat) × (Int) × (Int)) (fun zi=>(II B F rn (n0 + (m - l)) l) zi.1 zi.2.1 zi.2.2.1 zi.2.2.2.1 zi.2.2.2.2) (fun zi=>(fun o' l' c' a b=>(l' : Nat)) zi.1 zi.2.1 zi.2.2.1 zi.2.2.2.1 zi.2.2.2.2) (fun zi=>(WIN F rn fe) zi.1 zi.2.1 zi.2.2.1 zi.2.2.2.1 zi.2.2.2.2) ((o,l,c,adA B (n0 + (m - l)) % 65521,adB B (n0 + (m - l)) % 65521)) [0] (show (II B F rn (n0 + (m - l)) l) (o) (l) (c) (adA B (n0 + (m - l)) % 65521) (adB B (n0 + (m - l)) % 65521) from ?_) (Ent.R rfl rfl rfl rfl) ?_
   ·refine ⟨Nat.le_refl _,g2,by omega,fun j hj=>by rw [g4 _ hj]; congr 1; omega,?_⟩
    rw [Nat.sub_self]
    exact ⟨by rw [Nat.add_zero]; omega,by rw [Nat.add_zero]; omega,by omega,by have : tri 0 = 0:=rfl; omega,by omega⟩
   rintro ⟨o',l',c',a,b⟩ hI
   change (II B F rn (n0 + (m - l)) l) o' l' c' a b at hI
   obtain ⟨j1,j2,j3,j4,j5⟩:=hI
   change GC _ _ _ ((WIN F rn fe) o' l' c' a b)
   refine cF [1,5,6,7] ?_
   refine GC.seq ?_
   refine rS [1,5,6,7,26] ?_ (hc:=(by (repeat' first | exact trivial | refine And.intro ?_ ?_) <;> first | omega | (unfold w32; omega)))
   refine GC.cond rfl (fun hc4=>?_) (fun hc4=>?_)
   ·have hc4 : (4 : Int) ≤ (l' : Int):=by simpa using hc4
    have k0:=j5.step (by omega) (j4 0 (by omega)) (by rw [j4 0 (by omega)]; exact hB _ (by omega))
    have k1:=k0.step (by omega) ((j4 1 (by omega)).trans (congrArg B (by omega))) (by rw [j4 1 (by omega)]; exact hB _ (by omega))
    have k2:=k1.step (by omega) ((j4 2 (by omega)).trans (congrArg B (by omega))) (by rw [j4 2 (by omega)]; exact hB _ (by omega))
    have k3:=k2.step (by omega) ((j4 3 (by omega)).trans (congrArg B (by omega))) (by rw [j4 3 (by omega)]; exact hB _ (by omega))
    refine GC.skip (GK.code (GC.block ?_))
    refine rS [1,5,6,7] ?_ (hc:=(by (repeat' first | exact trivial | refine And.intro ?_ ?_) <;> first | omega | (unfold w32; omega)))
    refine rS [1,5,6,7] ?_ (hc:=(by (repeat' first | exact trivial | refine And.intro ?_ ?_) <;> first | omega | (unfold w32; omega)))
    refine rS [1,5,6,7] ?_ (hc:=(by (repeat' first | exact trivial | refine And.intro ?_ ?_) <;> first | omega | (unfold w32; omega)))
    refine rS [1,5,6,7] ?_ (hc:=(by (repeat' first | exact trivial | refine And.intro ?_ ?_) <;> first | omega | (unfold w32; omega)))
    refine rS [1,5,6,7] ?_ (hc:=(by (repeat' first | exact trivial | refine And.intro ?_ ?_) <;> first | omega | (unfold w32; omega)))
    refine rS [1,5,6,7] ?_ (hc:=(by (repeat' first | exact trivial | refine And.intro ?_ ?_) <;> first | omega | (unfold w32; omega)))
    refine rS [1,5,6,7] ?_ (hc:=(by (repeat' first | exact trivial | refine And.intro ?_ ?_) <;> first | omega | (unfold w32; omega)))
    refine rS [1,5,6,7] ?_ (hc:=(by (repeat' first | exact trivial | refine And.intro ?_ ?_) <;> first | omega | (unfold w32; omega)))
    refine rG [1,5,6,7] ?_ (hc:=(by (repeat' first | exact trivial | refine And.intro ?_ ?_) <;> first | omega | (unfold w32; omega)))
    refine GK.back (offS c' 4 o' 1,l' - 4,c' - 4,_,_) [0] (show (II B F rn (n0 + (m - l)) l) (offS c' 4 o' 1) (l' - 4) (c' - 4) (_) (_) from ?_) ?_ (Ent.R rfl rfl rfl rfl)
    ·have ho:=offS_lt4 c' o' l' j2 (by omega)
     refine ⟨by omega,by omega,by omega,fun j hj=>?_,?_⟩
     ·rw [show offS c' 4 o' 1 = o' + 4 from by omega,show o' + 4 + j = o' + (4 + j) from by omega,j4 _ (by omega)]; congr 1; omega
     ·rw [show l - (l' - 4) = l - l' + 1 + 1 + 1 + 1 from by omega]; exact k3
    ·dsimp only; omega
   ·have hc4 : ¬ ((4 : Int) ≤ (l' : Int)):=by simpa using hc4
    refine GC.exit ?_
    refine GK.code (GC.seq ?_)
    refine rS [5,6,7,65,66,67] ?_ (hc:=(by (repeat' first | exact trivial | refine And.intro ?_ ?_) <;> first | omega | (unfold w32; omega)))
    refine GC.block ?_
    refine GC.loopE (ι:=(Int) × (Int) × (Int)) (fun zi=>(IJ B (n0 + (m - l)) l l') zi.1 zi.2.1 zi.2.2) (fun zi=>(fun a b i=>(((l' : Int) - i).toNat : Nat)) zi.1 zi.2.1 zi.2.2) (fun zi=>(WJN F rn fe o' l' c') zi.1 zi.2.1 zi.2.2) ((a,b,0)) [0] (show (IJ B (n0 + (m - l)) l l') (a) (b) (0) from ?_) (Ent.R rfl rfl rfl rfl) ?_
    ·exact ⟨Int.le_refl _,by omega,j5⟩
    rintro ⟨a,b,i⟩ hI
    change (IJ B (n0 + (m - l)) l l') a b i at hI
    obtain ⟨i0,i1,hci⟩:=hI
    change GC _ _ _ ((WJN F rn fe o' l' c') a b i)
    refine cF [5,6,7,65,66,67] ?_
    refine rS [5,6,7,65,66,67,68] ?_ (hc:=(by (repeat' first | exact trivial | refine And.intro ?_ ?_) <;> first | omega | (unfold w32; omega)))
    refine GC.seq ?_
    refine GC.cond rfl (fun hi=>?_) (fun hi=>?_)
    ·have hi : i < (l' : Int):=by simpa using hi
     have e9 : o' + i.toNat * 1 = o' + i.toNat:=by omega
     have hstep:=hci.step (by omega) ((congrArg F e9).trans ((j4 i.toNat (by omega)).trans (congrArg B (by omega)))) (by rw [e9,j4 i.toNat (by omega)]; exact hB _ (by omega))
     refine GC.skip (GK.code (GC.seq (GC.block ?_)))
     refine rS [5,6,7,9,65,66,67] ?_ (hc:=(by (repeat' first | exact trivial | refine And.intro ?_ ?_) <;> first | omega | (unfold w32; omega)))
     refine rS [5,6,7,65,66,67] ?_ (hc:=(by (repeat' first | exact trivial | refine And.intro ?_ ?_) <;> first | omega | (unfold w32; omega)))
     refine rG [5,6,7,65,66,67] ?_ (hc:=(by (repeat' first | exact trivial | refine And.intro ?_ ?_) <;> first | omega | (unfold w32; omega)))
     refine GK.code ?_
     refine rG [5,6,7,65,66,67] ?_ (hc:=(by (repeat' first | exact trivial | refine And.intro ?_ ?_) <;> first | omega | (unfold w32; omega)))
     refine GK.back (_,_,i + 1) [0] (show (IJ B (n0 + (m - l)) l l') (_) (_) (i + 1) from ?_) ?_ (Ent.R rfl rfl rfl rfl)
     ·refine ⟨by omega,by omega,?_⟩
      rw [show l - l' + (i + 1).toNat = l - l' + i.toNat + 1 from by omega]; exact hstep
     ·dsimp only; omega
    ·have hi : ¬ (i < (l' : Int)):=by simpa using hi
     obtain rfl : i = l':=by omega
     have hcf : CI B (n0 + (m - l)) l a b:=by rw [show l - l' + ((l' : Int)).toNat = l from by omega] at hci; exact hci
     have hb1:=hcf.b1
     have hb2:=hcf.b2
     refine GC.exit ?_
     refine GK.code ?_
     refine rS [5,6,7] ?_ (hc:=(by (repeat' first | exact trivial | refine And.intro ?_ ?_) <;> first | omega | (unfold w32; omega)))
     refine rS [5,6,7] ?_ (hc:=(by (repeat' first | exact trivial | refine And.intro ?_ ?_) <;> first | omega | (unfold w32; omega)))
     refine rG [1,5,6] ?_ (hc:=(by (repeat' first | exact trivial | refine And.intro ?_ ?_) <;> first | omega | (unfold w32; omega)))
     refine GK.inr (GK.itr ?_)
     refine GC.seq ?_
     refine rS [1,5,6,16] ?_ (hc:=(by (repeat' first | exact trivial | refine And.intro ?_ ?_) <;> first | omega | (unfold w32; omega)))
     refine GC.condF rfl ?_
     have hz1:=hcf.c1
     have hz2:=hcf.c2
     have e8 : n0 + (m - l) + l = n0 + m:=by omega
     rw [e8] at hz1 hz2
     rw [hz1,hz2]
     refine GC.exit ?_
     refine GK.code ?_
     refine rS [4] ?_ (hc:=(by (repeat' first | exact trivial | refine And.intro ?_ ?_) <;> first | omega | (unfold w32; omega)))
     refine GC.ret ?_
     refine fR (.inl rfl) rfl (by (repeat' first | exact trivial | refine And.intro ?_ ?_) <;> first | omega | (unfold w32; omega)) () [0] rfl rfl rfl rfl (trivial)
 ·have hl0 : ¬ (0 < (l : Int)):=by simpa using hl0
  obtain rfl : l = 0:=by omega
  refine GC.exit ?_
  refine GK.code ?_
  refine rS [4] ?_ (hc:=(by (repeat' first | exact trivial | refine And.intro ?_ ?_) <;> first | omega | (unfold w32; omega)))
  refine GC.ret ?_
  refine fR (.inl rfl) rfl (by (repeat' first | exact trivial | refine And.intro ?_ ?_) <;> first | omega | (unfold w32; omega)) () [0] rfl rfl rfl rfl (trivial)
def adR (x : Int) : Row:=⟨.lst [.v (.int .u32 x)],1,387⟩
theorem f205 (μ) (x : Int) : Fun Tryz.prog μ 205 [.ptr 0 0] [(0,.row (adR x))] 1 (fun _ : Unit=>True) (fun _=>⟨.tup [],[(0,.row (adR 1))],1⟩):=by
 refine fE 4 Tryz.func205 fun zw zβ=>?_
 refine cF [0] ?_
 refine rG [] ?_
 refine fR (.inr rfl) rfl (by trivial) () [0] rfl rfl rfl rfl (trivial)
theorem ad0 (B : Nat → Int) : ad B 0 = 1:=by
 show adl (1 % 65521) (0 % 65521) = 1
 rw [adl_eq (by omega) (by omega)]; rfl
theorem f200 (μ) : Fun Tryz.prog μ 200 [] [] 0 (fun _ : Unit=>True) (fun _=>⟨.ifc 405 (.ptr 0 0),[(0,.row (adR 1))],1⟩):=by
 refine fE 7 Tryz.func200 fun zw zβ=>?_
 refine cF [] ?_
 refine rS [] ?_
 refine rS [1] ?_
 refine GL.seqR ?_
 refine lK 1 [1,3] ?_
 refine GL.op rfl (cR rfl (f205 _ 0) [0] rfl rfl rfl rfl fun _ _=>?_)
 refine gF [1] rfl ?_
 refine lF [1] (GK.code ?_)
 refine rS [0] ?_
 refine GC.ret ?_
 refine fR (.inl rfl) rfl (by trivial) () [0] rfl rfl rfl rfl (trivial)
theorem f316 (μ) (x : Int) : Fun Tryz.prog μ 316 [.ptr 0 0] [(0,.row (adR x))] 1 (fun _ : Unit=>True) (fun _=>⟨.v (.int .u32 x),[(0,.row (adR x))],1⟩):=by
 refine fE 6 Tryz.func316 fun zw zβ=>?_
 refine cF [0] ?_
 refine rS [0] ?_
 refine rS [2] ?_
 refine GC.ret ?_
 refine fR (.inl rfl) rfl (by trivial) () [0] rfl rfl rfl rfl (trivial)
theorem f317 (μ) {fe : Nat} (B F : Nat → Int) (n0 off m cap rn : Nat) (hr : off + m ≤ rn) (hc : m ≤ cap) (hF : ∀ j,j < m → F (off + j) = B (n0 + j)) (hB : ∀ j,j < n0 + m → 0 ≤ B j ∧ B j < 256) (hm : m < 1099511627776) : Fun Tryz.prog μ 317 [.ptr 0 0,.slc 1 off m cap] [(0,.row (adR (ad B n0))),(1,.row ⟨.ints .u8 F,rn,fe⟩)] 2
  (fun _ : Unit=>True) (fun _=>⟨.tup [.v (.int .i64 m),.v .nilIface],[(0,.row (adR (ad B (n0 + m)))),(1,.row ⟨.ints .u8 F,rn,fe⟩)],2⟩):=by
 refine fE 15 Tryz.func317 fun zw zβ=>?_
 refine cF [0,1] ?_
 refine rS [0,1] ?_
 refine GL.seqR ?_
 refine lK 5 [1,6,9,10] ?_
 refine GL.op rfl (cR rfl (f201 _ B F n0 _ _ _ _ hr hc hF hB hm) [1] rfl rfl rfl rfl fun _ _=>?_)
 refine gF [1,6,11] rfl ?_
 refine lF [1] (GK.code ?_)
 refine rS [4,5] ?_
 refine GC.ret ?_
 refine fR (.inl rfl) rfl (by trivial) () [0,1] rfl rfl rfl rfl (trivial)
def dz (i : Nat) : Value:=rle (tab 400).zero i
def dcL (r b nb bits cb hist wr rd full b0 b1 b2 b3 step st fin err tr cl ro : SV) : List (Nat × SV) :=
 [(0,r),(1,.v (.pointer none)),(2,ro),(3,b),(4,nb),(1035,bits),(1036,cb),(1037,hist),(1038,wr),(1039,rd),(1040,full),(1041,b0),(1042,b1),(1043,b2),(1044,b3),(1045,step),(1046,st),(1047,fin),(1048,err),(1049,tr),(1052,cl)]
def dcR (r b nb bits cb hist wr rd full b0 b1 b2 b3 step st fin err tr cl ro : SV) : Row:=⟨.ov (dcL r b nb bits cb hist wr rd full b0 b1 b2 b3 step st fin err tr cl ro) dz,1054,400⟩
def ovOk (h : Nat → Value) : List (Nat × SV) → Prop
 | []=>True
 | (k,x) :: r=>x = .v (h k) ∧ ovOk h r
theorem ovk_self {h : Nat → Value} : ∀ {l : List (Nat × SV)} (i : Nat),ovOk h l → ovk l i (.v (h i)) = .v (h i)
 | [],_,_=>rfl
 | (k,x) :: r,i,⟨h1,h2⟩=>by
  simp only [ovk]
  by_cases e : i = k
  ·subst e; rw [Nat.beq_refl i]; exact h1
  ·rw [beqF e]; exact ovk_self i h2
theorem dz_ok : ovOk dz (dcL (.v .nilIface) (.v (.int .u32 0)) (.v (.int .u64 0)) (.v (.pointer none)) (.v (.pointer none)) (.v (.slice none 0 0)) (.v (.int .i64 0)) (.v (.int .i64 0)) (.v (.bool false)) (.v (.int .u8 0)) (.v (.int .u8 0)) (.v (.int .u8 0)) (.v (.int .u8 0)) (.v .nilFunc) (.v (.int .i64 0)) (.v (.bool false)) (.v .nilIface) (.v (.slice none 0 0)) (.v (.int .i64 0)) (.v (.int .i64 0))):=⟨rfl,rfl,rfl,rfl,rfl,rfl,rfl,rfl,rfl,rfl,rfl,rfl,rfl,rfl,rfl,rfl,rfl,rfl,rfl,rfl,rfl,trivial⟩
theorem f202 (μ) (B : Nat → Int) (rn N cap : Nat) (off : Int) (s : RdI) (t : WI) : Fun Tryz.prog μ 202 [.ptr 12 0,.ifc 107 (.ptr 0 0)] (srG B rn N cap 11 off s t ++ [(12,.row (dcR (.v .nilIface) (.v (.int .u32 0)) (.v (.int .u64 0)) (.v (.pointer none)) (.v (.pointer none)) (.v (.slice none 0 0)) (.v (.int .i64 0)) (.v (.int .i64 0)) (.v (.bool false)) (.v (.int .u8 0)) (.v (.int .u8 0)) (.v (.int .u8 0)) (.v (.int .u8 0)) (.v .nilFunc) (.v (.int .i64 0)) (.v (.bool false)) (.v .nilIface) (.v (.slice none 0 0)) (.v (.int .i64 0)) (.v (.int .i64 0))))]) 13
  (fun _ : Unit=>True) (fun _=>⟨.tup [],srG B rn N cap 11 off s t ++ [(12,.row (dcR (.ifc 107 (.ptr 0 0)) (.v (.int .u32 0)) (.v (.int .u64 0)) (.v (.pointer none)) (.v (.pointer none)) (.v (.slice none 0 0)) (.v (.int .i64 0)) (.v (.int .i64 0)) (.v (.bool false)) (.v (.int .u8 0)) (.v (.int .u8 0)) (.v (.int .u8 0)) (.v (.int .u8 0)) (.v .nilFunc) (.v (.int .i64 0)) (.v (.bool false)) (.v .nilIface) (.v (.slice none 0 0)) (.v (.int .i64 0)) (.v (.int .i64 0))))],13⟩):=by
 dsimp only [srG,List.cons_append,List.nil_append]
 refine fE 43 Tryz.func202 fun zw zβ=>?_
 refine cF [0,1] ?_
 refine GC.seq (GL.seqR ?_)
 refine lK 1 [0,1,7] ?_
 refine GL.vstep rfl (VStep.assertI rfl rfl (by kernel_rfl)) rfl (GL.force [0,1,8] rfl ?_)
 refine lF [0,1,4,5] (GK.code ?_)
 refine rS [0,1,4,11] ?_
 refine GC.condT rfl ?_
 refine rS [0,4] ?_
 refine rS [] ?_
 refine GC.ret ?_
 refine fR (.inl rfl) rfl (by trivial) () [0,1,2,3,4,5,6,7,8,9,10,11,12] rfl rfl rfl rfl (trivial)
theorem f204 (μ) (B : Nat → Int) (rn N cap : Nat) (off : Int) (s : RdI) (t : WI) : Fun Tryz.prog μ 204 [.ptr 12 1037,.v (.int .i64 32768),.v (.slice none 0 0)] (srG B rn N cap 11 off s t ++ [(12,.row (dcR (.ifc 107 (.ptr 0 0)) (.v (.int .u32 0)) (.v (.int .u64 0)) (.ptr 13 0) (.ptr 14 0) (.v (.slice none 0 0)) (.v (.int .i64 0)) (.v (.int .i64 0)) (.v (.bool false)) (.v (.int .u8 0)) (.v (.int .u8 0)) (.v (.int .u8 0)) (.v (.int .u8 0)) (.v (.func (.func 203) #[] #[])) (.v (.int .i64 0)) (.v (.bool false)) (.v .nilIface) (.v (.slice none 0 0)) (.v (.int .i64 0)) (.v (.int .i64 0)))),(13,.row ⟨.vals fun i=>rle (tab 401).zero i,316,401⟩),(14,.row ⟨.lst [(.v (.int .i64 0)),(.v (.int .i64 0)),(.v (.int .i64 0)),(.v (.int .i64 0)),(.v (.int .i64 0)),(.v (.int .i64 0)),(.v (.int .i64 0)),(.v (.int .i64 0)),(.v (.int .i64 0)),(.v (.int .i64 0)),(.v (.int .i64 0)),(.v (.int .i64 0)),(.v (.int .i64 0)),(.v (.int .i64 0)),(.v (.int .i64 0)),(.v (.int .i64 0)),(.v (.int .i64 0)),(.v (.int .i64 0)),(.v (.int .i64 0))],19,402⟩)]) 15
  (fun _ : Unit=>True) (fun _=>⟨.tup [],srG B rn N cap 11 off s t ++ [(12,.row (dcR (.ifc 107 (.ptr 0 0)) (.v (.int .u32 0)) (.v (.int .u64 0)) (.ptr 13 0) (.ptr 14 0) (.slc 15 0 32768 32768) (.v (.int .i64 0)) (.v (.int .i64 0)) (.v (.bool false)) (.v (.int .u8 0)) (.v (.int .u8 0)) (.v (.int .u8 0)) (.v (.int .u8 0)) (.v (.func (.func 203) #[] #[])) (.v (.int .i64 0)) (.v (.bool false)) (.v .nilIface) (.v (.slice none 0 0)) (.v (.int .i64 0)) (.v (.int .i64 0)))),(13,.row ⟨.vals fun i=>rle (tab 401).zero i,316,401⟩),(14,.row ⟨.lst [(.v (.int .i64 0)),(.v (.int .i64 0)),(.v (.int .i64 0)),(.v (.int .i64 0)),(.v (.int .i64 0)),(.v (.int .i64 0)),(.v (.int .i64 0)),(.v (.int .i64 0)),(.v (.int .i64 0)),(.v (.int .i64 0)),(.v (.int .i64 0)),(.v (.int .i64 0)),(.v (.int .i64 0)),(.v (.int .i64 0)),(.v (.int .i64 0)),(.v (.int .i64 0)),(.v (.int .i64 0)),(.v (.int .i64 0)),(.v (.int .i64 0))],19,402⟩),(15,.row ⟨.ints .u8 fun _=>0,32768,5⟩)],16⟩):=by
 dsimp only [srG,List.cons_append,List.nil_append]
 refine fE 84 Tryz.func204 fun zw zβ=>?_
 refine cF [0,1,2] ?_
 refine rS [0,1,2] ?_
 refine GC.seq ?_
 refine rS [0,1,2,19] ?_
 refine GC.condT rfl (GC.region ?_)
 refine lK 2 [0,1,2,20,21] ?_
 refine GL.op rfl (OpW.makeI (k:=.u8) rfl rfl rfl rfl rfl (by decide) (by decide) (by decide) (by show ((1 : Nat) : Int) * 32768 ≤ 281474976710656; decide) rfl rfl rfl ?_)
 refine gF [0,1,2,20,22] rfl ?_
 refine lF [0,1,2] ?_
 refine GK.code ?_
 refine rS [0,2] ?_
 refine GC.seq ?_
 refine rS [0,2,41] ?_
 refine GC.condF rfl (GC.skip (GK.code (GL.seqR ?_)))
 refine lK 6 [0,52,56,57] ?_
 refine GL.op rfl (OpW.copyI (m:=0) (N:=fun _=>0) rfl rfl rfl rfl rfl rfl (by decide) (src_nil rfl) rfl ?_)
 refine gF [0,52,58] rfl ?_
 refine lF [0] (GK.code ?_)
 refine GC.seq ?_
 refine GC.seq (GC.draw [(0,0),(1,0),(2,0),(4,0),(5,0),(6,0),(3,1),(7,1),(8,0),(9,0)] mixed (by kernel_rfl) (by rintro _ _ _ _ ⟨_,_,_,_,h,_⟩ _; cases h) ?_)
 refine wF [0,70] (GK.code ?_)
 refine GC.cond rfl (fun hq=>?_) (fun hq=>?_)
 ·have hq : (0 : Int) = 32768:=by simpa using hq
  omega
 ·have hq : ¬ ((0 : Int) = 32768):=by simpa using hq
  refine GC.skip (GK.code ?_)
  refine rG [] ?_
  refine fR (.inr rfl) rfl (by trivial) () [0,1,2,3,4,5,6,7,8,9,10,11,12,13,14,15] rfl rfl rfl rfl (trivial)
theorem f199 (μ) (B : Nat → Int) (rn N cap : Nat) (off : Int) (s : RdI) (t : WI) : Fun Tryz.prog μ 199 [.ifc 107 (.ptr 0 0)] (srG B rn N cap 11 off s t) 12
  (fun _ : Unit=>True) (fun _=>⟨.ifc 403 (.ptr 12 0),srG B rn N cap 11 off s t ++ [(12,.row (dcR (.ifc 107 (.ptr 0 0)) (.v (.int .u32 0)) (.v (.int .u64 0)) (.ptr 13 0) (.ptr 14 0) (.slc 15 0 32768 32768) (.v (.int .i64 0)) (.v (.int .i64 0)) (.v (.bool false)) (.v (.int .u8 0)) (.v (.int .u8 0)) (.v (.int .u8 0)) (.v (.int .u8 0)) (.v (.func (.func 203) #[] #[])) (.v (.int .i64 0)) (.v (.bool false)) (.v .nilIface) (.v (.slice none 0 0)) (.v (.int .i64 0)) (.v (.int .i64 0)))),(13,.row ⟨.vals fun i=>rle (tab 401).zero i,316,401⟩),(14,.row ⟨.lst [(.v (.int .i64 0)),(.v (.int .i64 0)),(.v (.int .i64 0)),(.v (.int .i64 0)),(.v (.int .i64 0)),(.v (.int .i64 0)),(.v (.int .i64 0)),(.v (.int .i64 0)),(.v (.int .i64 0)),(.v (.int .i64 0)),(.v (.int .i64 0)),(.v (.int .i64 0)),(.v (.int .i64 0)),(.v (.int .i64 0)),(.v (.int .i64 0)),(.v (.int .i64 0)),(.v (.int .i64 0)),(.v (.int .i64 0)),(.v (.int .i64 0))],19,402⟩),(15,.row ⟨.ints .u8 fun _=>0,32768,5⟩)],16⟩):=by
 dsimp only [srG,List.cons_append,List.nil_append]
 refine fE 14 Tryz.func199 fun zw zβ=>?_
 refine cF [0] ?_
 refine rS [0] ?_
 refine rS [0,3] ?_
 refine GC.cvR 12 (dcR (.v .nilIface) (.v (.int .u32 0)) (.v (.int .u64 0)) (.v (.pointer none)) (.v (.pointer none)) (.v (.slice none 0 0)) (.v (.int .i64 0)) (.v (.int .i64 0)) (.v (.bool false)) (.v (.int .u8 0)) (.v (.int .u8 0)) (.v (.int .u8 0)) (.v (.int .u8 0)) (.v .nilFunc) (.v (.int .i64 0)) (.v (.bool false)) (.v .nilIface) (.v (.slice none 0 0)) (.v (.int .i64 0)) (.v (.int .i64 0))) rfl rfl rfl (fun i _=>(ovk_self i dz_ok).symm) rfl ?_
 refine GL.seqR ?_
 refine lK 1 [3,4] ?_
 refine GL.op rfl (cR rfl (f202 _ B rn N cap off s t) [0,1,2,3,4,5,6,7,8,9,10,11,12] rfl rfl rfl rfl fun _ _=>?_)
 refine gF [3] rfl ?_
 refine lF [3] (GK.code ?_)
 refine rS [3] ?_
 refine rS [3] ?_
 refine rS [3] ?_
 refine GL.seqR ?_
 refine lK 1 [3,11] ?_
 refine GL.op rfl (cR rfl (f204 _ B rn N cap off s t) [0,1,2,3,4,5,6,7,8,9,10,11,12,13,14] rfl rfl rfl rfl fun _ _=>?_)
 refine gF [3] rfl ?_
 refine lF [3] (GK.code ?_)
 refine rS [2] ?_
 refine GC.ret ?_
 refine fR (.inl rfl) rfl (by trivial) () [0,1,2,3,4,5,6,7,8,9,10,11,12,13,14,15] rfl rfl rfl rfl (trivial)
theorem f195 (μ) (V : Nat → Value) (off n cap rn re : Nat) (h0 : V off = .int .u8 120) (h1 : V (off + 1) = .int .u8 1) (hn : 2 ≤ n) (hr : off + n ≤ rn) : Fun Tryz.prog μ 195 [.agg [],.slc 0 off n cap] [(0,.row ⟨.vals V,rn,re⟩)] 1
  (fun _ : Unit=>True) (fun _=>⟨.v (.int .u16 30721),[(0,.row ⟨.vals V,rn,re⟩)],1⟩):=by
 refine fE 18 Tryz.func195 fun zw zβ=>?_
 refine cF [0,1] ?_
 refine rS [1] ?_
 refine GL.seqR ?_
 refine lK 2 [1,6] ?_
 refine GL.op rfl (OpW.lstep (LStep.at rfl rfl rfl rfl rfl (by show off + 1 * 1 < rn; omega) (congrArg SV.v h1)) rfl (gF [1] rfl ?_))
 refine lF [1] (GK.code ?_)
 refine GC.seq (GC.draw [(0,0),(1,0),(4,0),(5,0),(2,1),(3,0),(6,1),(7,0),(8,0),(9,0),(10,0)] mixed (by kernel_rfl) (by rintro _ _ _ _ ⟨_,_,_,_,h,_⟩ _; cases h) ?_)
 refine wK 4 [9,13] ?_
 refine GW.lstep rfl rfl (LStep.at rfl rfl rfl rfl rfl (by show off + 1 * 1 < rn; omega) (congrArg SV.v h1)) rfl (GW.force [10,13] rfl ?_)
 refine wK 1 [11,13] ?_
 refine GW.lstep rfl rfl (LStep.at rfl rfl rfl rfl rfl (by show off + 0 * 1 < rn; omega) (congrArg SV.v h0)) rfl (GW.force [11,14] rfl ?_)
 refine wF [4] (GK.code ?_)
 refine GC.ret ?_
 refine GK.abs 4 rfl (fun _=>rfl) fun x' hx'=>?_
 obtain rfl : x' = 30721:=by rw [hx']; decide
 refine fR (.inl rfl) rfl (by trivial) () [0] rfl rfl rfl rfl (trivial)
def zlR (r dec dig err a b c d : SV) : Row:=⟨.lst [r,dec,dig,err,a,b,c,d],8,375⟩
def zdG (hist : Nat → Int) (x : Int) (dc : Row) : GH:=[(13,.row dc),(14,.row ⟨.vals fun i=>rle (tab 401).zero i,316,401⟩),(15,.row ⟨.lst [(.v (.int .i64 0)),(.v (.int .i64 0)),(.v (.int .i64 0)),(.v (.int .i64 0)),(.v (.int .i64 0)),(.v (.int .i64 0)),(.v (.int .i64 0)),(.v (.int .i64 0)),(.v (.int .i64 0)),(.v (.int .i64 0)),(.v (.int .i64 0)),(.v (.int .i64 0)),(.v (.int .i64 0)),(.v (.int .i64 0)),(.v (.int .i64 0)),(.v (.int .i64 0)),(.v (.int .i64 0)),(.v (.int .i64 0)),(.v (.int .i64 0))],19,402⟩),(16,.row ⟨.ints .u8 hist,32768,5⟩),(17,.row (adR x))]
def dc0 : Row:=dcR (.ifc 107 (.ptr 0 0)) (.v (.int .u32 0)) (.v (.int .u64 0)) (.ptr 14 0) (.ptr 15 0) (.slc 16 0 32768 32768) (.v (.int .i64 0)) (.v (.int .i64 0)) (.v (.bool false)) (.v (.int .u8 0)) (.v (.int .u8 0)) (.v (.int .u8 0)) (.v (.int .u8 0)) (.v (.func (.func 203) #[] #[])) (.v (.int .i64 0)) (.v (.bool false)) (.v .nilIface) (.v (.slice none 0 0)) (.v (.int .i64 0)) (.v (.int .i64 0))
theorem rep_v {β : Bl} {x v : Value} (h : Rep β (.v x) v) : v = x:=by cases h; rfl
theorem f193 (μ) (B S : Nat → Int) (rn N cap p ps : Nat) (s : RdI) (t : WI) (d : Dat B rn N cap) (h : Sr B S N p ps s t) (hp : p + 2 ≤ N) (h0 : B p = 120) (h1 : B (p + 1) = 1) : FunC Tryz.prog μ 193 [.ptr 11 0,.ifc 107 (.ptr 0 0),.v (.slice none 0 0)] (srG B rn N cap 12 p s t ++ [(11,.row (zlR (.v .nilIface) (.v .nilIface) (.v .nilIface) (.v .nilIface) (.v (.int .u8 0)) (.v (.int .u8 0)) (.v (.int .u8 0)) (.v (.int .u8 0))))]) 12 13
  (fun x : RdI × WI=>Sr B S N (p + 2) (ps + 2) x.1 x.2)
  (fun x=>⟨.v .nilIface,srG B rn N cap 12 ((p + 2 : Nat) : Int) x.1 x.2 ++ [(11,.row (zlR (.ifc 107 (.ptr 0 0)) (.ifc 403 (.ptr 13 0)) (.ifc 405 (.ptr 17 0)) (.v .nilIface) (.v (.int .u8 120)) (.v (.int .u8 1)) (.v (.int .u8 0)) (.v (.int .u8 0))))] ++ zdG (fun _=>0) 1 dc0,18⟩):=by
 dsimp only [srG,List.cons_append,List.nil_append]
 refine fE 204 Tryz.func193 fun zw zβ=>?_
 refine cF [0,1,2,83,84,85,86,87,88,89,92,93,94] ?_
 refine rS [0,1,2,83,84,85,86,87,88,89,92,93,94] ?_
 refine rS [0,1,2,83,84,85,86,87,88,89,92,93,94] ?_
 refine GC.seq (GL.seqR ?_)
 refine lK 1 [0,1,2,20,83,84,85,86,87,88,89,92,93,94] ?_
 refine GL.vstep rfl (VStep.assertI rfl rfl (by kernel_rfl)) rfl (GL.force [0,1,2,21,83,84,85,86,87,88,89,92,93,94] rfl ?_)
 refine lF [0,1,2,7,8,83,84,85,86,87,88,89,92,93,94] (GK.code ?_)
 refine rS [0,1,2,7,24,83,84,85,86,87,88,89,92,93,94] ?_
 refine GC.condT rfl ?_
 refine rG [0,2,83,84,85,86,87,88,89,92,93,94] ?_
 refine GK.code ?_
 refine GC.seq (GC.draw [(0,0),(1,0),(2,0),(3,0),(5,0),(6,0),(7,0),(8,0),(4,1),(9,2),(10,0),(11,0),(12,0),(13,0),(14,0),(15,2)] mixed (by kernel_rfl) (by rintro _ _ _ _ ⟨_,_,_,_,h,_⟩ _; cases h) ?_)
 refine wK 9 [0,2,36,40,44,83,84,85,86,87,88,89,92,93,94] ?_
 refine GW.openP 0 11 [0,11] rfl rfl rfl (fun _=>rfl) (fun _=>rfl) rfl fun β V hV=>?_
 refine GW.op rfl rfl (cR rfl (f134v _ B S V rn N cap p ps 4 2 4 8 375 s t d h hp (by decide) (by decide) (by decide)) [0,1,2,3,4,5,6,7,8,9,10,11,12] rfl rfl rfl rfl fun x hx=>?_)
 obtain ⟨D,s',t'⟩:=x
 obtain ⟨hD,hs'⟩:=hx
 dsimp only at hD hs' ⊢
 have hV2 : ∀ j,j < 8 → Rep (anB (anOf β [0,11])) (lget [.ifc 107 (.ptr 0 0),.v .nilIface,.v .nilIface,.v .nilIface,.v (.int .u8 120),.v (.int .u8 1),.v (.int .u8 0),.v (.int .u8 0)] j) (D j):=by
  intro j hj
  have hv:=hV j hj
  rw [hD]
  match j,hj,hv with
  | 0,_,hv=>exact hv
  | 1,_,hv=>exact hv
  | 2,_,hv=>exact hv
  | 3,_,hv=>exact hv
  | 4,_,hv=>rw [if_pos (by omega),show p + (4 - 4) = p from rfl,h0]; exact .v _
  | 5,_,hv=>rw [if_pos (by omega),show p + (5 - 4) = p + 1 from rfl,h1]; exact .v _
  | 6,_,hv=>exact hv
  | 7,_,hv=>exact hv
  | _ + 8,h,_=>exact absurd h (by omega)
 refine GK.closeV 11 _ hV2 rfl rfl rfl rfl rfl ?_
 refine wL [0,2,36,45,83,84,85,86,87,88,89,92,93,94] rfl ?_
 refine wF [0,2,83,84,85,86,87,88,89,92,93,94] (GK.code ?_)
 refine GC.seq ?_
 refine rS [0,2,54,83,84,85,86,87,88,89,92,93,94] ?_
 refine GC.condF rfl (GC.skip (GK.code ?_))
 refine GC.seq (GC.draw [(1,0),(2,0),(3,0),(4,0),(0,1),(5,2),(6,0)] mixed (by kernel_rfl) (by rintro _ _ _ _ ⟨_,_,_,_,h,_⟩ _; cases h) ?_)
 refine wK 4 [0,2,73,83,84,85,86,87,88,89,92,93,94] ?_
 refine GW.lstep rfl rfl (LStep.cellA (vs:=[]) rfl rfl rfl rfl rfl (fun _ _ _ _ j v h=>by simp at h)) rfl (GW.force [0,2,69,73,83,84,85,86,87,88,89,92,93,94] rfl ?_)
 refine GW.openP 0 11 [0,11] rfl rfl rfl (fun _=>rfl) (fun _=>rfl) rfl fun β V hV=>?_
 have hv4 : V 4 = .int .u8 120:=rep_v (hV 4 (by decide))
 have hv5 : V 5 = .int .u8 1:=rep_v (hV 5 (by decide))
 refine GW.op rfl rfl (cR rfl (f195 _ V 4 2 4 8 375 hv4 hv5 (by decide) (by decide)) [11] rfl rfl rfl rfl fun _ _=>?_)
 refine GK.closeV 11 _ hV rfl rfl rfl rfl rfl ?_
 refine wL [0,2,74,83,84,85,86,87,88,89,92,93,94] rfl ?_
 refine wF [0,2,9,83,84,85,86,87,88,89,92,93,94] (GK.code ?_)
 refine GC.seq ?_
 refine rS [0,2,95] ?_
 refine GC.condF rfl (GC.skip (GK.code ?_))
 refine rS [0,2,10] ?_
 refine GC.seq ?_
 refine rS [0,2,10,111] ?_
 refine GC.condF rfl (GC.skip (GK.code (GC.seq ?_)))
 refine rS [0,2,10,168] ?_
 refine GC.condT rfl ?_
 refine rS [0,2,169] ?_
 refine GC.condF rfl (GC.region ?_)
 refine lK 5 [0,179,183] ?_
 refine GL.op rfl (cR rfl (f199 _ B rn N cap _ s' t') [0,1,2,3,4,5,6,7,8,9,10,12] rfl rfl rfl rfl fun _ _=>?_)
 refine gF [0,179,184] rfl ?_
 refine lF [0] ?_
 refine GK.code (GL.seqR ?_)
 refine lK 1 [200] ?_
 refine GL.op rfl (cR rfl (f200 _) [] rfl rfl rfl rfl fun _ _=>?_)
 refine gF [200,201] rfl ?_
 refine lF [] (GK.code ?_)
 refine rS [6] ?_
 refine GC.ret ?_
 refine fR (.inl rfl) rfl (by trivial) ((s',t')) [0,1,2,3,4,5,6,7,8,9,10,11,12,13,14,15,16,17] rfl rfl rfl rfl (hs')
end Go.Proofs.YtebadfmnmhmfeaaGreatDoor.T
