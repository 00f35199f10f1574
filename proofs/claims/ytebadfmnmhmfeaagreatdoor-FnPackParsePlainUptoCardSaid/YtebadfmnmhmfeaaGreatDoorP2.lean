/- What the functions of the program do, one contract each (P2, P3, P4); each states its own conditions. -/
import Derived.Test.YtebadfmnmhmfeaaGreatDoorP1
namespace Go.Proofs.YtebadfmnmhmfeaaGreatDoor.T
open Go.Proofs.YtebadfmnmhmfeaaGreatDoor.Sx Go.RowKit
set_option maxRecDepth 20000
set_option linter.unusedSimpArgs false
set_option linter.unusedVariables false
set_option linter.unnecessarySimpa false
set_option linter.unusedSectionVars false
def Z0 (F : Nat → Int) (rn off n cap : Nat) (p c : Nat) (G : Nat → Int) : S:=⟨[(0,.slc 0 off n cap),(3,.slc 1 0 p c)],[(0,.row ⟨.ints .u8 F,rn,5⟩),(1,.row ⟨.ints .u8 G,c,5⟩)],2,[]⟩
structure I0 (P : Nat → Int) (n p c : Nat) (G : Nat → Int) : Prop where
 hc : p ≤ c
 hn : n + 1 ≤ p
 hl : p + (120 - p % 64) % 64 + 8 = padL n
 hg : ∀ i,i < p → G i = P i
def Z1 (F : Nat → Int) (rn : Nat) (B : Int) (q c : Nat) (i : Int) (G : Nat → Int) : S:=⟨[(3,.slc 1 0 q c),(4,.v (.int .u64 B)),(5,.v (.int .i64 i))],[(0,.row ⟨.ints .u8 F,rn,5⟩),(1,.row ⟨.ints .u8 G,c,5⟩)],2,[]⟩
structure I1 (P : Nat → Int) (n q c : Nat) (i : Int) (G : Nat → Int) : Prop where
 hc : q ≤ c
 hi : 0 ≤ i + 8 ∧ i ≤ 56 ∧ i % 8 = 0
 hl : 8 * (q : Int) + i + 8 = 8 * (padL n : Int)
 hg : ∀ j,j < q → G j = P j
def h5row (s : H5) : Row:=⟨.lst [.v (.int .u32 s.a),.v (.int .u32 s.b),.v (.int .u32 s.c),.v (.int .u32 s.d),.v (.int .u32 s.e)],5,91⟩
def Z2 (F G : Nat → Int) (rn q c : Nat) (at' : Int) (s : H5) : S:=⟨[(3,.slc 1 0 q c),(6,.ptr 2 0),(7,.v (.int .i64 at'))],[(0,.row ⟨.ints .u8 F,rn,5⟩),(1,.row ⟨.ints .u8 G,c,5⟩),(2,.row (h5row s))],3,[]⟩
structure I2 (P : Nat → Int) (q : Nat) (at' : Int) (s : H5) : Prop where
 ha : 0 ≤ at' ∧ at' % 64 = 0 ∧ at' ≤ q
 hs : s = hashN P (at' / 64).toNat
def Z3 (F G : Nat → Int) (rn q c : Nat) (at' : Int) (s : H5) (i : Int) (W : Nat → Int) : S:=⟨[(3,.slc 1 0 q c),(6,.ptr 2 0),(7,.v (.int .i64 at')),(8,.ptr 3 0),(58,.v (.int .i64 i))],[(0,.row ⟨.ints .u8 F,rn,5⟩),(1,.row ⟨.ints .u8 G,c,5⟩),(2,.row (h5row s)),(3,.row ⟨.ints .u32 W,80,92⟩)],4,[]⟩
def Z4 (F G : Nat → Int) (rn q c : Nat) (at' : Int) (s : H5) (i : Int) (W : Nat → Int) : S:=⟨[(3,.slc 1 0 q c),(6,.ptr 2 0),(7,.v (.int .i64 at')),(8,.ptr 3 0),(10,.v (.int .i64 i))],[(0,.row ⟨.ints .u8 F,rn,5⟩),(1,.row ⟨.ints .u8 G,c,5⟩),(2,.row (h5row s)),(3,.row ⟨.ints .u32 W,80,92⟩)],4,[]⟩
structure IW (B : Nat → Int) (lo hi : Int) (i : Int) (W : Nat → Int) : Prop where
 hi : lo ≤ i ∧ i ≤ hi
 hw : ∀ j : Nat,(j : Int) < i → W j = wS B j
def Z5 (F G : Nat → Int) (rn q c : Nat) (at' : Int) (s : H5) (W : Nat → Int) (i : Int) (r : H5) : S:=⟨[(3,.slc 1 0 q c),(6,.ptr 2 0),(7,.v (.int .i64 at')),(8,.ptr 3 0),(11,.v (.int .u32 r.a)),(12,.v (.int .u32 r.b)),(13,.v (.int .u32 r.c)),(14,.v (.int .u32 r.d)),(15,.v (.int .u32 r.e)),(107,.v (.int .i64 i))],[(0,.row ⟨.ints .u8 F,rn,5⟩),(1,.row ⟨.ints .u8 G,c,5⟩),(2,.row (h5row s)),(3,.row ⟨.ints .u32 W,80,92⟩)],4,[]⟩
structure I5 (W : Nat → Int) (s : H5) (i : Int) (r : H5) : Prop where
 hi : 0 ≤ i ∧ i ≤ 80
 hr : r = rounds W s i.toNat
def Z6 (F : Nat → Int) (rn : Nat) (zs : List Int) (i : Int) (p c : Nat) (D : Nat → Int) : S:=⟨[(19,.slc 1 0 p c),(191,.agg (zs.map fun z=>.v (.int .u32 z))),(192,.v (.int .i64 i))],[(0,.row ⟨.ints .u8 F,rn,5⟩),(1,.row ⟨.ints .u8 D,c,5⟩)],2,[]⟩
structure I6 (s : H5) (i : Int) (p c : Nat) (D : Nat → Int) : Prop where
 hc : p ≤ c
 hi : 0 ≤ i ∧ i ≤ 5
 hp : (p : Int) = 4 * i
 hd : ∀ j,j < p → D j = dig s j
def P22 (F : Nat → Int) (rn : Nat) (c : Nat) (D : Nat → Int) : Post:=⟨.slc 1 0 20 c,[(0,.row ⟨.ints .u8 F,rn,5⟩),(1,.row ⟨.ints .u8 D,c,5⟩)],2⟩
theorem rnd_step (W : Nat → Int) (s : H5) {i : Int} (h : 0 ≤ i) : rounds W s (i + 1).toNat = rnd (fZ i.toNat (rounds W s i.toNat).b (rounds W s i.toNat).c (rounds W s i.toNat).d) (kZ i.toNat) (W i.toNat) (rounds W s i.toNat):=by
 rw [show (i + 1).toNat = i.toNat + 1 from by omega]; rfl
theorem f22 (μ) (F : Nat → Int) (off n cap rn : Nat) (hr : off + n ≤ rn) (hn : n < 1099511627776) : Fun Tryz.prog μ 22 [.slc 0 off n cap] [(0,.row ⟨.ints .u8 F,rn,5⟩)] 1
  (fun i : Nat × (Nat → Int)=>20 ≤ i.1 ∧ ∀ j,j < 20 → i.2 j = dig (sha (fun j=>F (off + j)) n) j) (fun i=>P22 F rn i.1 i.2):=by
 have hpl : padL n % 64 = 0 ∧ n + 9 ≤ padL n ∧ padL n ≤ n + 72:=by unfold padL; omega
 refine fE 201 Tryz.func22 fun zw zβ=>?_
 refine cF [0] ?_
 refine rS [0] ?_
 refine GL.seqR ?_
 refine GL.op rfl (OpW.empty (.ints .u8 fun _=>0) rfl rfl rfl rfl ?_)
 refine gF [0,22] rfl ?_
 refine lK 1 [0,22,23] ?_
 refine GL.op rfl (OpW.appendI (m:=n) (N:=fun j=>F (off + j)) rfl rfl rfl rfl rfl rfl rfl rfl rfl rfl (Nat.le_of_ble_eq_true rfl) (Nat.zero_le _) (src_slc rfl rfl (by show off + n * 1 ≤ rn; omega) (fun j hj=>rfl)) (by omega) (by show (_ + _) * 1 ≤ 140737488355328; omega) rfl ?_ rfl rfl)
 intro c1 G1 hc1 _ ho1 hn1 ρ' hp
 obtain rfl:=Option.some.inj hp; clear hp
 refine gF [0,24] rfl ?_
 refine lF [0,3] (GK.code ?_)
 refine GL.seqR ?_
 refine lK 2 [0,25,26] ?_
 refine GL.op rfl (OpW.appendI (m:=1) (N:=fun j=>[128].getD j 0) rfl rfl rfl rfl rfl rfl rfl rfl rfl rfl (Nat.le_of_ble_eq_true rfl) (hc1) (src_lst (zs:=[128]) rfl rfl rfl (Nat.le_refl 1)) (by omega) (by show (_ + _) * 1 ≤ 140737488355328; omega) rfl ?_ rfl rfl)
 intro c2 G2 hc2 _ ho2 hn2 ρ' hp
 obtain rfl:=Option.some.inj hp; clear hp
 refine gF [0,27] rfl ?_
 refine lF [0,3] (GK.code ?_)
 refine GC.seq (GC.block ?_)
 refine GC.loopE (ι:=(Nat) × (Nat) × (Nat → Int)) (fun zi=>(I0 (padS (fun j=>F (off + j)) n) n) zi.1 zi.2.1 zi.2.2) (fun zi=>(fun p c G=>((120 - p % 64) % 64 : Nat)) zi.1 zi.2.1 zi.2.2) (fun zi=>(Z0 F rn off n cap) zi.1 zi.2.1 zi.2.2) ((0 + n + 1,c2,G2)) [0,1] (show (I0 (padS (fun j=>F (off + j)) n) n) (0 + n + 1) (c2) (G2) from ?_) (Ent.R rfl rfl rfl rfl) ?_
 ·refine ⟨hc2,by omega,?_,fun i hi=>?_⟩
  ·unfold padL; omega
  ·by_cases e : i < n
   ·have h1:=ho2 i (by omega)
    have h2:=hn1 i e
    rw [Nat.zero_add] at h2
    rw [padS_lt e]; exact h1.trans h2
   ·obtain rfl : i = n:=by omega
    have h1:=hn2 0 (by omega)
    rw [Nat.zero_add,Nat.add_zero] at h1
    rw [padS_at]; exact h1
 rintro ⟨p,c,G⟩ hI
 change (I0 (padS (fun j=>F (off + j)) n) n) p c G at hI
 obtain ⟨hp1,hp2,hp3,hp4⟩:=hI
 change GC _ _ _ ((Z0 F rn off n cap) p c G)
 refine cF [0,3] ?_
 refine GC.seq ?_
 refine rS [0,3,31] ?_
 refine GC.cond rfl (fun hc=>?_) (fun hc=>?_)
 ·have hc : ¬ ((p : Int) % 64 = 56):=by simpa using hc
  refine GC.skip (GK.code (GC.block (GC.region ?_)))
  refine lK 2 [0,32,33] ?_
  refine GL.op rfl (OpW.appendI (m:=1) (N:=fun j=>[0].getD j 0) rfl rfl rfl rfl rfl rfl rfl rfl rfl rfl (Nat.le_of_ble_eq_true rfl) (hp1) (src_lst (zs:=[0]) rfl rfl rfl (Nat.le_refl 1)) (by omega) (by show (_ + _) * 1 ≤ 140737488355328; omega) rfl ?_ rfl rfl)
  intro c4 G4 hc4 _ ho4 hn4 ρ' hp
  obtain rfl:=Option.some.inj hp; clear hp
  refine gF [0,34] rfl ?_
  refine lF [0,3] ?_
  refine GK.back (p + 1,c4,G4) [0,1] (show (I0 (padS (fun j=>F (off + j)) n) n) (p + 1) (c4) (G4) from ?_) ?_ (Ent.R rfl rfl rfl rfl)
  ·refine ⟨hc4,by omega,by omega,fun i hi=>?_⟩
   by_cases e : i < p
   ·rw [ho4 i e]; exact hp4 i e
   ·obtain rfl : i = p:=by omega
    rw [padS_mid (by omega) (by omega)]
    have h1:=hn4 0 (by omega)
    rw [Nat.add_zero] at h1; exact h1
  ·dsimp only; omega
 ·have hc : ¬ (¬ ((p : Int) % 64 = 56)):=by simpa using hc
  have hc : (p : Int) % 64 = 56:=Decidable.of_not_not hc
  have hp5 : p + 8 = padL n:=by omega
  refine GC.exit ?_
  refine GK.code ?_
  refine rS [3,4] ?_
  refine GC.seq ?_
  refine rS [3,4,5] ?_
  refine GC.block ?_
  refine GC.loopE (ι:=(Nat) × (Nat) × (Int) × (Nat → Int)) (fun zi=>(I1 (padS (fun j=>F (off + j)) n) n) zi.1 zi.2.1 zi.2.2.1 zi.2.2.2) (fun zi=>(fun q c5 i G5=>((i + 8).toNat : Nat)) zi.1 zi.2.1 zi.2.2.1 zi.2.2.2) (fun zi=>(Z1 F rn (w64 (w64 n * 8))) zi.1 zi.2.1 zi.2.2.1 zi.2.2.2) ((p,c,56,G)) [0,1] (show (I1 (padS (fun j=>F (off + j)) n) n) (p) (c) (56) (G) from ?_) (Ent.R rfl rfl rfl rfl) ?_
  ·exact ⟨hp1,by omega,by omega,hp4⟩
  rintro ⟨q,c5,i,G5⟩ hI
  change (I1 (padS (fun j=>F (off + j)) n) n) q c5 i G5 at hI
  obtain ⟨hq1,hq2,hq3,hq4⟩:=hI
  change GC _ _ _ ((Z1 F rn (w64 (w64 n * 8))) q c5 i G5)
  refine cF [3,4,5] ?_
  refine GC.seq ?_
  refine rS [3,4,5,40] ?_
  refine GC.cond rfl (fun hc2=>?_) (fun hc2=>?_)
  ·have hc2 : 0 ≤ i:=by simpa using hc2
   refine GC.skip (GK.code (GC.seq (GC.block (GC.region ?_))))
   refine lK 7 [4,5,43,49] ?_ (hc:=(by (repeat' first | exact trivial | refine And.intro ?_ ?_) <;> (try unfold w64) <;> (try simp only [InI64]) <;> omega))
   refine GL.op rfl (OpW.appendI (m:=1) (N:=fun j=>[w8 (w64 (w64 n * 8) / 2 ^ min (w64 i).toNat 64)].getD j 0) rfl rfl rfl rfl rfl rfl rfl rfl rfl rfl (Nat.le_of_ble_eq_true rfl) (hq1) (src_lst (zs:=[_]) rfl rfl rfl (Nat.le_refl 1)) (by omega) (by show (_ + _) * 1 ≤ 140737488355328; omega) rfl ?_ rfl rfl)
   intro c6 G6 hc6 _ ho6 hn6 ρ' hp
   obtain rfl:=Option.some.inj hp; clear hp
   refine gF [4,5,50] rfl ?_
   refine lF [3,4,5] ?_ (hc:=(by (repeat' first | exact trivial | refine And.intro ?_ ?_) <;> (try unfold w64) <;> (try simp only [InI64]) <;> omega))
   refine GK.code ?_
   refine rG [3,4,5] ?_ (hc:=(by (repeat' first | exact trivial | refine And.intro ?_ ?_) <;> (try unfold w64) <;> (try simp only [InI64]) <;> omega))
   refine GK.back (q + 1,c6,i - 8,G6) [0,1] (show (I1 (padS (fun j=>F (off + j)) n) n) (q + 1) (c6) (i - 8) (G6) from ?_) ?_ (Ent.R rfl rfl rfl rfl)
   ·refine ⟨hc6,by omega,by omega,fun j hj=>?_⟩
    by_cases e : j < q
    ·rw [ho6 j e]; exact hq4 j e
    ·obtain rfl : j = q:=by omega
     rw [padS_len (by omega) (by omega)]
     have h1:=hn6 0 (by omega)
     rw [Nat.add_zero] at h1
     rw [h1,show 8 * (padL n - 1 - j) = min (w64 i).toNat 64 from by unfold w64; omega]; rfl
   ·dsimp only; omega
  ·have hc2 : ¬ (0 ≤ i):=by simpa using hc2
   have hq5 : q = padL n:=by omega
   subst hq5
   clear hq3 hq2 hc2 hp2 hp3 hp4 hp5 hc
   refine GC.exit ?_
   refine GK.code ?_
   refine rS [3,6] ?_
   refine GC.seq ?_
   refine rS [3,6,7] ?_
   refine GC.block ?_
   refine GC.loopE (ι:=(Int) × (H5)) (fun zi=>(I2 (padS (fun j=>F (off + j)) n) (padL n)) zi.1 zi.2) (fun zi=>(fun at' s=>(((padL n : Int) - at').toNat : Nat)) zi.1 zi.2) (fun zi=>(Z2 F G5 rn (padL n) c5) zi.1 zi.2) ((0,ini)) [0,1,2] (show (I2 (padS (fun j=>F (off + j)) n) (padL n)) (0) (ini) from ?_) (Ent.R rfl rfl rfl rfl) ?_
   ·exact ⟨by omega,rfl⟩
   rintro ⟨at',s⟩ hI
   change (I2 (padS (fun j=>F (off + j)) n) (padL n)) at' s at hI
   obtain ⟨hat,hs⟩:=hI
   change GC _ _ _ ((Z2 F G5 rn (padL n) c5) at' s)
   refine cF [3,6,7] ?_
   refine GC.seq ?_
   refine rS [3,6,7,55] ?_
   refine GC.cond rfl (fun hc3=>?_) (fun hc3=>?_)
   ·have hc3 : at' < (padL n : Int):=by simpa using hc3
    have hat3 : at' + 64 ≤ (padL n : Int):=by omega
    refine GC.skip (GK.code (GC.seq (GC.block ?_)))
    refine rS [3,6,7,8] ?_
    refine GC.conv 3 ⟨.ints .u32 fun _=>0,80,92⟩ rfl rfl rfl (fun i hi=>.inr ?_) ?_
    ·have hb : Nat.blt i 80 = true:=by simpa using hi
     show SV.v (.int .u32 0) = SV.v (bif Nat.blt i 80 then .int .u32 0 else undef)
     rw [hb]; rfl
    refine GC.seq ?_
    refine rS [3,6,7,8,58] ?_
    refine GC.block ?_
    refine GC.loopE (ι:=(Int) × (Nat → Int)) (fun zi=>(IW (fun j=>G5 (at'.toNat + j)) 0 16) zi.1 zi.2) (fun zi=>(fun i1 W=>((16 - i1).toNat : Nat)) zi.1 zi.2) (fun zi=>(Z3 F G5 rn (padL n) c5 at' s) zi.1 zi.2) ((0,fun _=>0)) [0,1,2,3] (show (IW (fun j=>G5 (at'.toNat + j)) 0 16) (0) (fun _=>0) from ?_) (Ent.R rfl rfl rfl rfl) ?_
    ·exact ⟨by omega,fun j hj=>by omega⟩
    rintro ⟨i1,W⟩ hI
    change (IW (fun j=>G5 (at'.toNat + j)) 0 16) i1 W at hI
    obtain ⟨hi1,hW⟩:=hI
    change GC _ _ _ ((Z3 F G5 rn (padL n) c5 at' s) i1 W)
    refine cF [3,6,7,8,58] ?_
    refine rS [3,6,7,8,58,59] ?_
    refine GC.seq ?_
    refine GC.cond rfl (fun hc4=>?_) (fun hc4=>?_)
    ·have hc4 : i1 < 16:=by simpa using hc4
     refine GC.skip (GK.code (GC.seq (GC.block ?_)))
     refine rS [3,6,7,8,9,58] ?_
     refine GC.region ?_
     refine lK 7 [3,6,7,8,58,61,67] ?_
     refine GL.op rfl (cR rfl (f38 _ G5 _ _ _ _ _ (by omega) (Nat.le_trans (Nat.add_le_add_right (offS1_le _ _ _) _) (by omega))) [1] rfl rfl rfl rfl fun _ _=>?_)
     refine gF [3,6,7,8,58,61,68] rfl ?_
     refine lF [3,6,7,8,58] ?_
     refine GK.code ?_
     refine rG [3,6,7,8,58] ?_
     refine GK.back (i1 + 1,upd W (0 + i1.toNat * 1) _) [0,1,2,3] (show (IW (fun j=>G5 (at'.toNat + j)) 0 16) (i1 + 1) (upd W (0 + i1.toNat * 1) _) from ?_) ?_ (Ent.R rfl rfl rfl rfl)
     ·refine ⟨by omega,fun j hj=>?_⟩
      rw [upd_at]
      by_cases e : j = i1.toNat
      ·rw [if_pos (by omega),wS_lo _ (by omega),offS_lt (by omega)]
       have e1 : 0 + (at' + 4 * i1).toNat = at'.toNat + 4 * j:=by omega
       rw [e1]
       simp only [Nat.add_zero,Nat.add_assoc]
      ·rw [if_neg (by omega)]; exact hW j (by omega)
     ·dsimp only; omega
    ·have hc4 : ¬ (i1 < 16):=by simpa using hc4
     refine GC.exit ?_
     refine GK.code (GC.seq ?_)
     refine rS [3,6,7,8,10] ?_
     refine GC.block ?_
     refine GC.loopE (ι:=(Int) × (Nat → Int)) (fun zi=>(IW (fun j=>G5 (at'.toNat + j)) 16 80) zi.1 zi.2) (fun zi=>(fun i2 W2=>((80 - i2).toNat : Nat)) zi.1 zi.2) (fun zi=>(Z4 F G5 rn (padL n) c5 at' s) zi.1 zi.2) ((16,W)) [0,1,2,3] (show (IW (fun j=>G5 (at'.toNat + j)) 16 80) (16) (W) from ?_) (Ent.R rfl rfl rfl rfl) ?_
     ·exact ⟨by omega,fun j hj=>hW j (by omega)⟩
     rintro ⟨i2,W2⟩ hI
     change (IW (fun j=>G5 (at'.toNat + j)) 16 80) i2 W2 at hI
     obtain ⟨hi2,hW2⟩:=hI
     change GC _ _ _ ((Z4 F G5 rn (padL n) c5 at' s) i2 W2)
     refine cF [3,6,7,8,10] ?_
     refine GC.seq ?_
     refine rS [3,6,7,8,10,72] ?_
     refine GC.cond rfl (fun hc5=>?_) (fun hc5=>?_)
     ·have hc5 : i2 < 80:=by simpa using hc5
      refine GC.skip (GK.code (GC.seq (GC.block ?_)))
      refine GC.draw [(0,0),(1,0),(2,0),(3,0),(5,0),(6,0),(7,0),(10,0),(11,0),(12,0),(15,0),(16,0),(17,0),(4,1),(8,1),(9,0),(13,1),(14,0),(18,1),(19,0),(20,2),(21,0),(22,2)] mixed (by kernel_rfl) (by rintro _ _ _ _ ⟨_,_,_,_,h,_⟩ _; cases h) ?_
      refine wK 20 [3,6,7,8,10,75,94] ?_
      refine GW.op rfl rfl (cR rfl (f39_1 _ _) [] rfl rfl rfl rfl fun _ _=>?_)
      refine wL [3,6,7,8,10,75,95] rfl ?_
      refine wF [3,6,7,8,10] ?_
      refine GK.code ?_
      refine rG [3,6,7,8,10] ?_
      refine GK.back (i2 + 1,upd W2 (0 + i2.toNat * 1) _) [0,1,2,3] (show (IW (fun j=>G5 (at'.toNat + j)) 16 80) (i2 + 1) (upd W2 (0 + i2.toNat * 1) _) from ?_) ?_ (Ent.R rfl rfl rfl rfl)
      ·refine ⟨by omega,fun j hj=>?_⟩
       rw [upd_at]
       by_cases e : j = i2.toNat
       ·rw [if_pos (by omega),wS_hi _ (by omega),← hW2 (j - 3) (by omega),← hW2 (j - 8) (by omega),← hW2 (j - 14) (by omega),← hW2 (j - 16) (by omega)]
        rw [show j - 3 = 0 + (i2 - 3).toNat * 1 from by omega,show j - 8 = 0 + (i2 - 8).toNat * 1 from by omega,show j - 14 = 0 + (i2 - 14).toNat * 1 from by omega,show j - 16 = 0 + (i2 - 16).toNat * 1 from by omega]
        rfl
       ·rw [if_neg (by omega)]; exact hW2 j (by omega)
      ·dsimp only; omega
     ·have hc5 : ¬ (i2 < 80):=by simpa using hc5
      refine GC.exit ?_
      refine GK.code ?_
      refine GC.seq (GC.draw [(0,0),(2,0),(4,0),(6,0),(8,0),(1,1),(10,0),(3,1),(11,0),(5,1),(12,0),(7,1),(13,0),(9,1),(14,0)] mixed (by kernel_rfl) (by rintro _ _ _ _ ⟨_,_,_,_,h,_⟩ _; cases h) ?_)
      refine wF [3,6,7,8,11,12,13,14,15] (GK.code ?_)
      refine GC.seq ?_
      refine rS [3,6,7,8,11,12,13,14,15,107] ?_
      refine GC.block ?_
      refine GC.loopE (ι:=(Int) × (H5)) (fun zi=>(I5 W2 s) zi.1 zi.2) (fun zi=>(fun i3 r=>((80 - i3).toNat : Nat)) zi.1 zi.2) (fun zi=>(Z5 F G5 rn (padL n) c5 at' s W2) zi.1 zi.2) ((0,s)) [0,1,2,3] (show (I5 W2 s) (0) (s) from ?_) (Ent.R rfl rfl rfl rfl) ?_
      ·exact ⟨by omega,rfl⟩
      rintro ⟨i3,r⟩ hI
      change (I5 W2 s) i3 r at hI
      obtain ⟨hi3,hr3⟩:=hI
      change GC _ _ _ ((Z5 F G5 rn (padL n) c5 at' s W2) i3 r)
      refine cF [3,6,7,8,11,12,13,14,15,107] ?_
      refine rS [3,6,7,8,11,12,13,14,15,107,108] ?_
      refine GC.seq ?_
      refine GC.cond rfl (fun hc6=>?_) (fun hc6=>?_)
      ·have hc6 : i3 < 80:=by simpa using hc6
       refine GC.skip (GK.code (GC.seq (GC.block ?_)))
       refine rS [3,6,7,8,11,12,13,14,15,16,107] ?_
       refine rS [3,6,7,8,11,12,13,14,15,16,107] ?_
       refine GC.seq (GC.block ?_)
       refine rS [3,6,7,8,11,12,13,14,15,16,107,115] ?_
       refine GC.cond rfl (fun hc7=>?_) (fun hc7=>?_)
       ·have hc7 : i3 < 20:=by simpa using hc7
        have hlt : 0 + i3.toNat * 1 < 80:=by omega
        refine rG [3,6,7,8,11,12,13,14,15,16,17,18,107] ?_
        refine GK.code ?_
        refine GC.drawH [(0,0),(2,0),(4,0),(6,0),(8,0),(9,0),(10,3),(12,0),(13,0),(15,0),(16,0),(1,4),(3,0),(5,0),(7,0),(11,0),(14,4),(17,0),(18,0),(19,0),(20,0),(21,0)] [3] [(3,0 + i3.toNat * 1,.v (.int .u32 (W2 (0 + i3.toNat * 1))))] mixed (by kernel_rfl) (by rintro _ _ _ _ ⟨_,_,_,_,h,_⟩ _; cases h) rfl fun β=>?_
        refine wK 6 [3,6,7,8,11,12,13,14,107,148,150,152,154,157] ?_
        refine GW.held rfl rfl rfl rfl rfl rfl (.head _) ⟨⟨_,rfl,hlt,rfl⟩,rfl,trivial⟩ rfl rfl (GW.force [3,6,7,8,11,12,13,14,107,148,150,152,154,158] rfl ?_)
        refine wK 4 [3,6,7,8,107,148,150,152,154,158,160,161,163,164] ?_
        refine GW.opS rfl rfl (cR rfl (f39_5 _ _) [] rfl rfl rfl rfl fun _ _=>?_)
        refine GK.heldAnd rfl ⟨⟨_,rfl,hlt,rfl⟩,rfl,trivial⟩ (wL [3,6,7,8,107,149,150,152,154,158,160,161,163,164] rfl ?_)
        refine wK 4 [3,6,7,8,107,159,160,161,163,164] ?_
        refine GW.opS rfl rfl (cR rfl (f39_30 _ _) [] rfl rfl rfl rfl fun _ _=>?_)
        refine GK.heldAnd rfl ⟨⟨_,rfl,hlt,rfl⟩,rfl,trivial⟩ (wL [3,6,7,8,107,159,160,162,163,164] rfl ?_)
        refine wF [3,6,7,8,11,12,13,14,15,107] (GK.delA rfl ?_)
        refine GK.code ?_
        refine rG [3,6,7,8,11,12,13,14,15,107] ?_
        refine GK.back (i3 + 1,⟨_,_,_,_,_⟩) [0,1,2,3] (show (I5 W2 s) (i3 + 1) (⟨_,_,_,_,_⟩) from ?_) ?_ (Ent.R rfl rfl rfl rfl)
        ·refine ⟨by omega,?_⟩
         rw [rnd_step W2 s hi3.1,← hr3]
         simp only [fZ,kZ,if_pos (show i3.toNat < 20 by omega),Nat.zero_add,Nat.mul_one]
         rfl
        ·dsimp only; omega
       ·have hc7 : ¬ (i3 < 20):=by simpa using hc7
        refine rS [3,6,7,8,11,12,13,14,15,16,107,126] ?_
        refine GC.cond rfl (fun hc8=>?_) (fun hc8=>?_)
        ·have hc8 : i3 < 40:=by simpa using hc8
         have hlt : 0 + i3.toNat * 1 < 80:=by omega
         refine rG [3,6,7,8,11,12,13,14,15,16,17,18,107] ?_
         refine GK.code ?_
         refine GC.drawH [(0,0),(2,0),(4,0),(6,0),(8,0),(9,0),(10,3),(12,0),(13,0),(15,0),(16,0),(1,4),(3,0),(5,0),(7,0),(11,0),(14,4),(17,0),(18,0),(19,0),(20,0),(21,0)] [3] [(3,0 + i3.toNat * 1,.v (.int .u32 (W2 (0 + i3.toNat * 1))))] mixed (by kernel_rfl) (by rintro _ _ _ _ ⟨_,_,_,_,h,_⟩ _; cases h) rfl fun β=>?_
         refine wK 6 [3,6,7,8,11,12,13,14,107,148,150,152,154,157] ?_
         refine GW.held rfl rfl rfl rfl rfl rfl (.head _) ⟨⟨_,rfl,hlt,rfl⟩,rfl,trivial⟩ rfl rfl (GW.force [3,6,7,8,11,12,13,14,107,148,150,152,154,158] rfl ?_)
         refine wK 4 [3,6,7,8,107,148,150,152,154,158,160,161,163,164] ?_
         refine GW.opS rfl rfl (cR rfl (f39_5 _ _) [] rfl rfl rfl rfl fun _ _=>?_)
         refine GK.heldAnd rfl ⟨⟨_,rfl,hlt,rfl⟩,rfl,trivial⟩ (wL [3,6,7,8,107,149,150,152,154,158,160,161,163,164] rfl ?_)
         refine wK 4 [3,6,7,8,107,159,160,161,163,164] ?_
         refine GW.opS rfl rfl (cR rfl (f39_30 _ _) [] rfl rfl rfl rfl fun _ _=>?_)
         refine GK.heldAnd rfl ⟨⟨_,rfl,hlt,rfl⟩,rfl,trivial⟩ (wL [3,6,7,8,107,159,160,162,163,164] rfl ?_)
         refine wF [3,6,7,8,11,12,13,14,15,107] (GK.delA rfl ?_)
         refine GK.code ?_
         refine rG [3,6,7,8,11,12,13,14,15,107] ?_
         refine GK.back (i3 + 1,⟨_,_,_,_,_⟩) [0,1,2,3] (show (I5 W2 s) (i3 + 1) (⟨_,_,_,_,_⟩) from ?_) ?_ (Ent.R rfl rfl rfl rfl)
         ·refine ⟨by omega,?_⟩
          rw [rnd_step W2 s hi3.1,← hr3]
          simp only [fZ,kZ,if_neg (show ¬ i3.toNat < 20 by omega),if_pos (show i3.toNat < 40 by omega),Nat.zero_add,Nat.mul_one]
          rfl
         ·dsimp only; omega
        ·have hc8 : ¬ (i3 < 40):=by simpa using hc8
         refine rS [3,6,7,8,11,12,13,14,15,16,107,134] ?_
         refine GC.cond rfl (fun hc9=>?_) (fun hc9=>?_)
         ·have hc9 : i3 < 60:=by simpa using hc9
          have hlt : 0 + i3.toNat * 1 < 80:=by omega
          refine rG [3,6,7,8,11,12,13,14,15,16,17,18,107] ?_
          refine GK.code ?_
          refine GC.drawH [(0,0),(2,0),(4,0),(6,0),(8,0),(9,0),(10,3),(12,0),(13,0),(15,0),(16,0),(1,4),(3,0),(5,0),(7,0),(11,0),(14,4),(17,0),(18,0),(19,0),(20,0),(21,0)] [3] [(3,0 + i3.toNat * 1,.v (.int .u32 (W2 (0 + i3.toNat * 1))))] mixed (by kernel_rfl) (by rintro _ _ _ _ ⟨_,_,_,_,h,_⟩ _; cases h) rfl fun β=>?_
          refine wK 6 [3,6,7,8,11,12,13,14,107,148,150,152,154,157] ?_
          refine GW.held rfl rfl rfl rfl rfl rfl (.head _) ⟨⟨_,rfl,hlt,rfl⟩,rfl,trivial⟩ rfl rfl (GW.force [3,6,7,8,11,12,13,14,107,148,150,152,154,158] rfl ?_)
          refine wK 4 [3,6,7,8,107,148,150,152,154,158,160,161,163,164] ?_
          refine GW.opS rfl rfl (cR rfl (f39_5 _ _) [] rfl rfl rfl rfl fun _ _=>?_)
          refine GK.heldAnd rfl ⟨⟨_,rfl,hlt,rfl⟩,rfl,trivial⟩ (wL [3,6,7,8,107,149,150,152,154,158,160,161,163,164] rfl ?_)
          refine wK 4 [3,6,7,8,107,159,160,161,163,164] ?_
          refine GW.opS rfl rfl (cR rfl (f39_30 _ _) [] rfl rfl rfl rfl fun _ _=>?_)
          refine GK.heldAnd rfl ⟨⟨_,rfl,hlt,rfl⟩,rfl,trivial⟩ (wL [3,6,7,8,107,159,160,162,163,164] rfl ?_)
          refine wF [3,6,7,8,11,12,13,14,15,107] (GK.delA rfl ?_)
          refine GK.code ?_
          refine rG [3,6,7,8,11,12,13,14,15,107] ?_
          refine GK.back (i3 + 1,⟨_,_,_,_,_⟩) [0,1,2,3] (show (I5 W2 s) (i3 + 1) (⟨_,_,_,_,_⟩) from ?_) ?_ (Ent.R rfl rfl rfl rfl)
          ·refine ⟨by omega,?_⟩
           rw [rnd_step W2 s hi3.1,← hr3]
           simp only [fZ,kZ,if_neg (show ¬ i3.toNat < 20 by omega),if_neg (show ¬ i3.toNat < 40 by omega),if_pos (show i3.toNat < 60 by omega),Nat.zero_add,Nat.mul_one]
           rfl
          ·dsimp only; omega
         ·have hc9 : ¬ (i3 < 60):=by simpa using hc9
          have hlt : 0 + i3.toNat * 1 < 80:=by omega
          refine rG [3,6,7,8,11,12,13,14,15,16,17,18,107] ?_
          refine GK.code ?_
          refine GC.drawH [(0,0),(2,0),(4,0),(6,0),(8,0),(9,0),(10,3),(12,0),(13,0),(15,0),(16,0),(1,4),(3,0),(5,0),(7,0),(11,0),(14,4),(17,0),(18,0),(19,0),(20,0),(21,0)] [3] [(3,0 + i3.toNat * 1,.v (.int .u32 (W2 (0 + i3.toNat * 1))))] mixed (by kernel_rfl) (by rintro _ _ _ _ ⟨_,_,_,_,h,_⟩ _; cases h) rfl fun β=>?_
          refine wK 6 [3,6,7,8,11,12,13,14,107,148,150,152,154,157] ?_
          refine GW.held rfl rfl rfl rfl rfl rfl (.head _) ⟨⟨_,rfl,hlt,rfl⟩,rfl,trivial⟩ rfl rfl (GW.force [3,6,7,8,11,12,13,14,107,148,150,152,154,158] rfl ?_)
          refine wK 4 [3,6,7,8,107,148,150,152,154,158,160,161,163,164] ?_
          refine GW.opS rfl rfl (cR rfl (f39_5 _ _) [] rfl rfl rfl rfl fun _ _=>?_)
          refine GK.heldAnd rfl ⟨⟨_,rfl,hlt,rfl⟩,rfl,trivial⟩ (wL [3,6,7,8,107,149,150,152,154,158,160,161,163,164] rfl ?_)
          refine wK 4 [3,6,7,8,107,159,160,161,163,164] ?_
          refine GW.opS rfl rfl (cR rfl (f39_30 _ _) [] rfl rfl rfl rfl fun _ _=>?_)
          refine GK.heldAnd rfl ⟨⟨_,rfl,hlt,rfl⟩,rfl,trivial⟩ (wL [3,6,7,8,107,159,160,162,163,164] rfl ?_)
          refine wF [3,6,7,8,11,12,13,14,15,107] (GK.delA rfl ?_)
          refine GK.code ?_
          refine rG [3,6,7,8,11,12,13,14,15,107] ?_
          refine GK.back (i3 + 1,⟨_,_,_,_,_⟩) [0,1,2,3] (show (I5 W2 s) (i3 + 1) (⟨_,_,_,_,_⟩) from ?_) ?_ (Ent.R rfl rfl rfl rfl)
          ·refine ⟨by omega,?_⟩
           rw [rnd_step W2 s hi3.1,← hr3]
           simp only [fZ,kZ,if_neg (show ¬ i3.toNat < 20 by omega),if_neg (show ¬ i3.toNat < 40 by omega),if_neg (show ¬ i3.toNat < 60 by omega),Nat.zero_add,Nat.mul_one]
           rfl
          ·dsimp only; omega
      ·have hc6 : ¬ (i3 < 80):=by simpa using hc6
       obtain rfl : i3 = 80:=by omega
       refine GC.exit ?_
       refine GK.code ?_
       refine rS [3,6,7,12,13,14,15] ?_
       refine rS [3,6,7,13,14,15] ?_
       refine rS [3,6,7,14,15] ?_
       refine rS [3,6,7,15] ?_
       refine rG [3,6,7] ?_
       refine GK.code ?_
       refine rG [3,6,7] ?_
       refine GK.back (at' + 64,addH s r) [0,1,2] (show (I2 (padS (fun j=>F (off + j)) n) (padL n)) (at' + 64) (addH s r) from ?_) ?_ (Ent.R rfl rfl rfl rfl)
       ·refine ⟨by omega,?_⟩
        rw [show ((at' + 64) / 64).toNat = (at' / 64).toNat + 1 from by omega]
        show addH s r = compr (fun j=>padS (fun j=>F (off + j)) n (64 * (at' / 64).toNat + j)) (hashN (padS (fun j=>F (off + j)) n) (at' / 64).toNat)
        have hw : ∀ j,j < 80 → W2 j = wS (fun j=>padS (fun j=>F (off + j)) n (64 * (at' / 64).toNat + j)) j:=fun j hj=>by
         rw [hW2 j (by omega)]
         refine wS_congr (fun t ht=>?_) j
         rw [show 64 * (at' / 64).toNat + t = at'.toNat + t from by omega]
         exact hq4 _ (by omega)
        rw [← hs,hr3,show (80 : Int).toNat = 80 from rfl,rounds_congr s 80 hw]
        rfl
       ·dsimp only; omega
   ·have hc3 : ¬ (at' < (padL n : Int)):=by simpa using hc3
    obtain rfl : at' = (padL n : Int):=by omega
    refine GC.exit ?_
    refine GK.code ?_
    refine rS [6,19] ?_
    refine GC.nilg 19 (.ints .u8 fun _=>0) 5 rfl ?_
    refine GC.seq ?_
    refine rS [19,191,192] ?_
    refine GC.block ?_
    refine GC.loopE (ι:=(Int) × (Nat) × (Nat) × (Nat → Int)) (fun zi=>(I6 s) zi.1 zi.2.1 zi.2.2.1 zi.2.2.2) (fun zi=>(fun i4 p4 c7 D=>((5 - i4).toNat : Nat)) zi.1 zi.2.1 zi.2.2.1 zi.2.2.2) (fun zi=>(Z6 F rn [s.a,s.b,s.c,s.d,s.e]) zi.1 zi.2.1 zi.2.2.1 zi.2.2.2) ((0,0,0,fun _=>0)) [0,3] (show (I6 s) (0) (0) (0) (fun _=>0) from ?_) (Ent.R rfl rfl rfl rfl) ?_
    ·exact ⟨Nat.le_refl _,by omega,by omega,fun j hj=>by omega⟩
    rintro ⟨i4,p4,c7,D⟩ hI
    change (I6 s) i4 p4 c7 D at hI
    obtain ⟨hd1,hd2,hd3,hd4⟩:=hI
    change GC _ _ _ ((Z6 F rn [s.a,s.b,s.c,s.d,s.e]) i4 p4 c7 D)
    refine cF [19,191,192] ?_
    refine rS [19,191,192,193] ?_
    refine GC.seq ?_
    refine GC.cond rfl (fun hc10=>?_) (fun hc10=>?_)
    ·have hc10 : i4 < 5:=by simpa using hc10
     refine GC.skip (GK.code (GC.seq (GC.block (GL.seqR ?_))))
     refine GL.vstep rfl (VStep.ixI (zs:=[s.a,s.b,s.c,s.d,s.e]) rfl rfl rfl rfl rfl (by omega) (by omega) rfl) rfl (GL.force [19,191,192,194] rfl ?_)
     refine lF [19,21,191,192] (GK.code ?_)
     refine GC.region ?_
     refine lK 2 [191,192,195,196] ?_
     refine GL.op rfl (cR rfl (f14 _ _) [] rfl rfl rfl rfl fun _ _=>?_)
     refine gF [191,192,195,197] rfl ?_
     refine GL.op rfl (OpW.appendI (m:=4) (N:=fun j=>([_,_,_,_] : List Int).getD j 0) rfl rfl rfl rfl rfl rfl rfl rfl rfl rfl (Nat.le_of_ble_eq_true rfl) (hd1) (src_lst (zs:=[_,_,_,_]) rfl rfl rfl (Nat.le_refl 4)) (by omega) (by show (_ + _) * 1 ≤ 140737488355328; omega) rfl ?_ rfl rfl)
     intro c8 D8 hc11 _ ho8 hn8 ρ' hp
     obtain rfl:=Option.some.inj hp; clear hp
     refine gF [191,192,198] rfl ?_
     refine lF [19,191,192] ?_
     refine GK.code ?_
     refine rG [19,191,192] ?_
     refine GK.back (i4 + 1,p4 + 4,c8,D8) [0,1] (show (I6 s) (i4 + 1) (p4 + 4) (c8) (D8) from ?_) ?_ (Ent.R rfl rfl rfl rfl)
     ·refine ⟨hc11,by omega,by omega,fun j hj=>?_⟩
      by_cases e : j < p4
      ·rw [ho8 j e]; exact hd4 j e
      ·have h1:=hn8 (j - p4) (by omega)
       rw [show p4 + (j - p4) = j from by omega] at h1
       rw [h1]
       have hw : ([s.a,s.b,s.c,s.d,s.e] : List Int).getD i4.toNat 0 = s.w i4.toNat:=by
        have h5 : i4.toNat < 5:=by omega
        generalize i4.toNat = k at h5
        match k,h5 with
        | 0,_=>rfl
        | 1,_=>rfl
        | 2,_=>rfl
        | 3,_=>rfl
        | 4,_=>rfl
       rw [hw]
       unfold dig
       rw [show j / 4 = i4.toNat from by omega]
       have h4 : j - p4 < 4:=by omega
       have hm : j % 4 = j - p4:=by omega
       rw [hm]
       generalize j - p4 = t at h4
       match t,h4 with
       | 0,_=>rfl
       | 1,_=>rfl
       | 2,_=>rfl
       | 3,_=>show w8 (s.w i4.toNat) = w8 (s.w i4.toNat / 1); rw [Int.ediv_one]
     ·dsimp only; omega
    ·have hc10 : ¬ (i4 < 5):=by simpa using hc10
     obtain rfl : p4 = 20:=by omega
     refine GC.exit ?_
     refine GK.code ?_
     refine rS [2] ?_
     refine GC.ret ?_
     refine fR (.inl rfl) rfl (by trivial) ((c7,D)) [0,1] rfl rfl rfl rfl (⟨hd1,fun j hj=>?_⟩)
     show D j = dig (hashN (padS (fun j=>F (off + j)) n) (padL n / 64)) j
     rw [hd4 j hj,hs,show ((padL n : Int) / 64).toNat = padL n / 64 from by omega]
def shaR (s : H5) (blk : SV) (long : Int) : Row:=⟨.lst [.v (.int .u32 s.a),.v (.int .u32 s.b),.v (.int .u32 s.c),.v (.int .u32 s.d),.v (.int .u32 s.e),blk,.v (.int .u64 long)],7,144⟩
def Y3 (F : Nat → Int) (prn off n cap bo bl bc : Nat) (s : H5) (long : Int) (i : Int) (W : Nat → Int) : S:=⟨[(0,.ptr 0 0),(1,.slc 1 off n cap),(4,.ptr 2 0),(5,.v (.int .i64 i))],[(0,.row (shaR s (.slc 1 bo bl bc) long)),(1,.row ⟨.ints .u8 F,prn,5⟩),(2,.row ⟨.ints .u32 W,80,92⟩)],3,[]⟩
def Y4 (F : Nat → Int) (prn bo bl bc : Nat) (s : H5) (long : Int) (i : Int) (W : Nat → Int) : S:=⟨[(0,.ptr 0 0),(4,.ptr 2 0),(6,.v (.int .i64 i))],[(0,.row (shaR s (.slc 1 bo bl bc) long)),(1,.row ⟨.ints .u8 F,prn,5⟩),(2,.row ⟨.ints .u32 W,80,92⟩)],3,[]⟩
def Y5 (F : Nat → Int) (prn bo bl bc : Nat) (s : H5) (long : Int) (W : Nat → Int) (i : Int) (r : H5) : S:=⟨[(0,.ptr 0 0),(4,.ptr 2 0),(8,.v (.int .u32 r.a)),(9,.v (.int .u32 r.b)),(10,.v (.int .u32 r.c)),(11,.v (.int .u32 r.d)),(12,.v (.int .u32 r.e)),(13,.v (.int .i64 i))],[(0,.row (shaR s (.slc 1 bo bl bc) long)),(1,.row ⟨.ints .u8 F,prn,5⟩),(2,.row ⟨.ints .u32 W,80,92⟩)],3,[]⟩
theorem f282 (μ) (F : Nat → Int) (off n cap prn bo bl bc : Nat) (s : H5) (long : Int) (hn : 64 ≤ n) (hr : off + n ≤ prn) : Fun Tryz.prog μ 282 [.ptr 0 0,.slc 1 off n cap] [(0,.row (shaR s (.slc 1 bo bl bc) long)),(1,.row ⟨.ints .u8 F,prn,5⟩)] 2
  (fun _ : Unit=>True) (fun _=>⟨.tup [],[(0,.row (shaR (compr (fun j=>F (off + j)) s) (.slc 1 bo bl bc) long)),(1,.row ⟨.ints .u8 F,prn,5⟩)],2⟩):=by
 refine fE 227 Tryz.func282 fun zw zβ=>?_
 refine cF [0,1] ?_
 refine rS [0,1,4] ?_
 refine GC.conv 2 ⟨.ints .u32 fun _=>0,80,92⟩ rfl rfl rfl (fun i hi=>.inr ?_) ?_
 ·have hb : Nat.blt i 80 = true:=by simpa using hi
  show SV.v (.int .u32 0) = SV.v (bif Nat.blt i 80 then .int .u32 0 else undef)
  rw [hb]; rfl
 refine GC.seq ?_
 refine rS [0,1,4,5] ?_
 refine GC.block ?_
 refine GC.loopE (ι:=(Int) × (Nat → Int)) (fun zi=>(IW (fun j=>F (off + j)) 0 16) zi.1 zi.2) (fun zi=>(fun i1 W=>((16 - i1).toNat : Nat)) zi.1 zi.2) (fun zi=>(Y3 F prn off n cap bo bl bc s long) zi.1 zi.2) ((0,fun _=>0)) [0,1,2] (show (IW (fun j=>F (off + j)) 0 16) (0) (fun _=>0) from ?_) (Ent.R rfl rfl rfl rfl) ?_
 ·exact ⟨by omega,fun j hj=>by omega⟩
 rintro ⟨i1,W⟩ hI
 change (IW (fun j=>F (off + j)) 0 16) i1 W at hI
 obtain ⟨hi1,hW⟩:=hI
 change GC _ _ _ ((Y3 F prn off n cap bo bl bc s long) i1 W)
 refine cF [0,1,4,5] ?_
 refine GC.seq ?_
 refine rS [0,1,4,5,18] ?_
 refine GC.cond rfl (fun hc4=>?_) (fun hc4=>?_)
 ·have hc4 : i1 < 16:=by simpa using hc4
  refine GC.skip (GK.code (GC.seq (GC.block ?_)))
  refine GC.draw [(0,0),(1,0),(2,0),(3,0),(4,0),(8,0),(9,0),(10,0),(11,0),(12,0),(17,0),(18,0),(19,0),(20,0),(21,0),(26,0),(27,0),(28,0),(29,0),(30,0),(5,1),(6,0),(7,0),(13,1),(14,0),(15,0),(16,0),(22,1),(23,0),(24,0),(25,0),(31,1),(32,0),(33,0),(34,0),(35,2)] mixed (by kernel_rfl) (by rintro _ _ _ _ ⟨_,_,_,_,h,_⟩ _; cases h) ?_
  refine wF [0,1,4,5] ?_
  refine GK.code ?_
  refine rG [0,1,4,5] ?_
  refine GK.back (i1 + 1,upd W (0 + i1.toNat * 1) _) [0,1,2] (show (IW (fun j=>F (off + j)) 0 16) (i1 + 1) (upd W (0 + i1.toNat * 1) _) from ?_) ?_ (Ent.R rfl rfl rfl rfl)
  ·refine ⟨by omega,fun j hj=>?_⟩
   rw [upd_at]
   by_cases e : j = i1.toNat
   ·rw [if_pos (by omega),wS_lo _ (by omega)]
    rw [show (4 * i1).toNat * 1 = 4 * j from by omega,show (4 * i1 + 1).toNat * 1 = 4 * j + 1 from by omega,show (4 * i1 + 2).toNat * 1 = 4 * j + 2 from by omega,show (4 * i1 + 3).toNat * 1 = 4 * j + 3 from by omega]
    rfl
   ·rw [if_neg (by omega)]; exact hW j (by omega)
  ·dsimp only; omega
 ·have hc4 : ¬ (i1 < 16):=by simpa using hc4
  refine GC.exit ?_
  refine GK.code (GC.seq ?_)
  refine rS [0,4,6] ?_
  refine GC.block ?_
  refine GC.loopE (ι:=(Int) × (Nat → Int)) (fun zi=>(IW (fun j=>F (off + j)) 16 80) zi.1 zi.2) (fun zi=>(fun i2 W2=>((80 - i2).toNat : Nat)) zi.1 zi.2) (fun zi=>(Y4 F prn bo bl bc s long) zi.1 zi.2) ((16,W)) [0,1,2] (show (IW (fun j=>F (off + j)) 16 80) (16) (W) from ?_) (Ent.R rfl rfl rfl rfl) ?_
  ·exact ⟨by omega,fun j hj=>hW j (by omega)⟩
  rintro ⟨i2,W2⟩ hI
  change (IW (fun j=>F (off + j)) 16 80) i2 W2 at hI
  obtain ⟨hi2,hW2⟩:=hI
  change GC _ _ _ ((Y4 F prn bo bl bc s long) i2 W2)
  refine cF [0,4,6] ?_
  refine GC.seq ?_
  refine rS [0,4,6,57] ?_
  refine GC.cond rfl (fun hc5=>?_) (fun hc5=>?_)
  ·have hc5 : i2 < 80:=by simpa using hc5
   refine GC.skip (GK.code (GC.seq (GC.block ?_)))
   refine GC.seq (GC.draw [(0,0),(1,0),(2,0),(4,0),(5,0),(6,0),(9,0),(10,0),(11,0),(14,0),(15,0),(16,0),(3,1),(7,1),(8,0),(12,1),(13,0),(17,1),(18,0),(19,0)] mixed (by kernel_rfl) (by rintro _ _ _ _ ⟨_,_,_,_,h,_⟩ _; cases h) ?_)
   refine wF [0,4,6,7] (GK.code ?_)
   refine rG [0,4,6] ?_
   refine GK.code ?_
   refine rG [0,4,6] ?_
   refine GK.back (i2 + 1,upd W2 (0 + i2.toNat * 1) _) [0,1,2] (show (IW (fun j=>F (off + j)) 16 80) (i2 + 1) (upd W2 (0 + i2.toNat * 1) _) from ?_) ?_ (Ent.R rfl rfl rfl rfl)
   ·refine ⟨by omega,fun j hj=>?_⟩
    rw [upd_at]
    by_cases e : j = i2.toNat
    ·rw [if_pos (by omega),wS_hi _ (by omega),← hW2 (j - 3) (by omega),← hW2 (j - 8) (by omega),← hW2 (j - 14) (by omega),← hW2 (j - 16) (by omega)]
     rw [show j - 3 = 0 + (i2 - 3).toNat * 1 from by omega,show j - 8 = 0 + (i2 - 8).toNat * 1 from by omega,show j - 14 = 0 + (i2 - 14).toNat * 1 from by omega,show j - 16 = 0 + (i2 - 16).toNat * 1 from by omega]
     rfl
    ·rw [if_neg (by omega)]; exact hW2 j (by omega)
   ·dsimp only; omega
  ·have hc5 : ¬ (i2 < 80):=by simpa using hc5
   refine GC.exit ?_
   refine GK.code ?_
   refine GC.seq (GC.draw [(0,0),(1,0),(2,0),(3,0),(5,0),(6,0),(7,0),(8,0),(10,0),(11,0),(12,0),(13,0),(15,0),(16,0),(17,0),(18,0),(20,0),(21,0),(22,0),(23,0),(4,1),(25,0),(9,1),(26,0),(14,1),(27,0),(19,1),(28,0),(24,1),(29,0)] mixed (by kernel_rfl) (by rintro _ _ _ _ ⟨_,_,_,_,h,_⟩ _; cases h) ?_)
   refine wF [0,4,8,9,10,11,12] (GK.code ?_)
   refine GC.seq ?_
   refine rS [0,4,8,9,10,11,12,13] ?_
   refine GC.block ?_
   refine GC.loopE (ι:=(Int) × (H5)) (fun zi=>(I5 W2 s) zi.1 zi.2) (fun zi=>(fun i3 r=>((80 - i3).toNat : Nat)) zi.1 zi.2) (fun zi=>(Y5 F prn bo bl bc s long W2) zi.1 zi.2) ((0,s)) [0,1,2] (show (I5 W2 s) (0) (s) from ?_) (Ent.R rfl rfl rfl rfl) ?_
   ·exact ⟨by omega,rfl⟩
   rintro ⟨i3,r⟩ hI
   change (I5 W2 s) i3 r at hI
   obtain ⟨hi3,hr3⟩:=hI
   change GC _ _ _ ((Y5 F prn bo bl bc s long W2) i3 r)
   refine cF [0,4,8,9,10,11,12,13] ?_
   refine GC.seq ?_
   refine rS [0,4,8,9,10,11,12,13,112] ?_
   refine GC.cond rfl (fun hc6=>?_) (fun hc6=>?_)
   ·have hc6 : i3 < 80:=by simpa using hc6
    refine GC.skip (GK.code (GC.seq (GC.block ?_)))
    refine rS [0,4,8,9,10,11,12,13] ?_
    refine GC.seq (GC.block ?_)
    refine rS [0,4,8,9,10,11,12,13,120] ?_
    refine GC.cond rfl (fun hc7=>?_) (fun hc7=>?_)
    ·have hc7 : i3 < 20:=by simpa using hc7
     refine rG [0,4,8,9,10,11,12,13,14,15] ?_
     refine GK.code ?_
     refine rS [0,4,8,9,10,11,13,16] ?_
     refine rG [0,4,8,9,10,11,12,13] ?_
     refine GK.code ?_
     refine rG [0,4,8,9,10,11,12,13] ?_
     refine GK.back (i3 + 1,⟨_,_,_,_,_⟩) [0,1,2] (show (I5 W2 s) (i3 + 1) (⟨_,_,_,_,_⟩) from ?_) ?_ (Ent.R rfl rfl rfl rfl)
     ·refine ⟨by omega,?_⟩
      rw [rnd_step W2 s hi3.1,← hr3]
      simp only [fZ,kZ,if_pos (show i3.toNat < 20 by omega),Nat.zero_add,Nat.mul_one]
      rfl
     ·dsimp only; omega
    ·have hc7 : ¬ (i3 < 20):=by simpa using hc7
     refine rS [0,4,8,9,10,11,12,13,131] ?_
     refine GC.cond rfl (fun hc8=>?_) (fun hc8=>?_)
     ·have hc8 : i3 < 40:=by simpa using hc8
      refine rG [0,4,8,9,10,11,12,13,14,15] ?_
      refine GK.code ?_
      refine rS [0,4,8,9,10,11,13,16] ?_
      refine rG [0,4,8,9,10,11,12,13] ?_
      refine GK.code ?_
      refine rG [0,4,8,9,10,11,12,13] ?_
      refine GK.back (i3 + 1,⟨_,_,_,_,_⟩) [0,1,2] (show (I5 W2 s) (i3 + 1) (⟨_,_,_,_,_⟩) from ?_) ?_ (Ent.R rfl rfl rfl rfl)
      ·refine ⟨by omega,?_⟩
       rw [rnd_step W2 s hi3.1,← hr3]
       simp only [fZ,kZ,if_neg (show ¬ i3.toNat < 20 by omega),if_pos (show i3.toNat < 40 by omega),Nat.zero_add,Nat.mul_one]
       rfl
      ·dsimp only; omega
     ·have hc8 : ¬ (i3 < 40):=by simpa using hc8
      refine rS [0,4,8,9,10,11,12,13,139] ?_
      refine GC.cond rfl (fun hc9=>?_) (fun hc9=>?_)
      ·have hc9 : i3 < 60:=by simpa using hc9
       refine rG [0,4,8,9,10,11,12,13,14,15] ?_
       refine GK.code ?_
       refine rS [0,4,8,9,10,11,13,16] ?_
       refine rG [0,4,8,9,10,11,12,13] ?_
       refine GK.code ?_
       refine rG [0,4,8,9,10,11,12,13] ?_
       refine GK.back (i3 + 1,⟨_,_,_,_,_⟩) [0,1,2] (show (I5 W2 s) (i3 + 1) (⟨_,_,_,_,_⟩) from ?_) ?_ (Ent.R rfl rfl rfl rfl)
       ·refine ⟨by omega,?_⟩
        rw [rnd_step W2 s hi3.1,← hr3]
        simp only [fZ,kZ,if_neg (show ¬ i3.toNat < 20 by omega),if_neg (show ¬ i3.toNat < 40 by omega),if_pos (show i3.toNat < 60 by omega),Nat.zero_add,Nat.mul_one]
        rfl
       ·dsimp only; omega
      ·have hc9 : ¬ (i3 < 60):=by simpa using hc9
       refine rG [0,4,8,9,10,11,12,13,14,15] ?_
       refine GK.code ?_
       refine rS [0,4,8,9,10,11,13,16] ?_
       refine rG [0,4,8,9,10,11,12,13] ?_
       refine GK.code ?_
       refine rG [0,4,8,9,10,11,12,13] ?_
       refine GK.back (i3 + 1,⟨_,_,_,_,_⟩) [0,1,2] (show (I5 W2 s) (i3 + 1) (⟨_,_,_,_,_⟩) from ?_) ?_ (Ent.R rfl rfl rfl rfl)
       ·refine ⟨by omega,?_⟩
        rw [rnd_step W2 s hi3.1,← hr3]
        simp only [fZ,kZ,if_neg (show ¬ i3.toNat < 20 by omega),if_neg (show ¬ i3.toNat < 40 by omega),if_neg (show ¬ i3.toNat < 60 by omega),Nat.zero_add,Nat.mul_one]
        rfl
       ·dsimp only; omega
   ·have hc6 : ¬ (i3 < 80):=by simpa using hc6
    obtain rfl : i3 = 80:=by omega
    have hw : r = rounds (wS fun j=>F (off + j)) s 80:=by
     rw [hr3,show (80 : Int).toNat = 80 from rfl]
     exact rounds_congr s 80 fun j hj=>hW2 j (by omega)
    clear hr3
    subst hw
    refine GC.exit ?_
    refine GK.code ?_
    refine GC.seq (GC.draw [(0,0),(1,0),(2,0),(3,0),(5,0),(7,0),(8,0),(4,1),(6,0),(9,0),(10,2)] mixed (by kernel_rfl) (by rintro _ _ _ _ ⟨_,_,_,_,h,_⟩ _; cases h) ?_)
    refine wF [0,9,10,11,12] (GK.code ?_)
    refine GC.seq (GC.draw [(0,0),(1,0),(2,0),(3,0),(5,0),(7,0),(8,0),(4,1),(6,0),(9,0),(10,2)] mixed (by kernel_rfl) (by rintro _ _ _ _ ⟨_,_,_,_,h,_⟩ _; cases h) ?_)
    refine wF [0,10,11,12] (GK.code ?_)
    refine GC.seq (GC.draw [(0,0),(1,0),(2,0),(3,0),(5,0),(7,0),(8,0),(4,1),(6,0),(9,0),(10,2)] mixed (by kernel_rfl) (by rintro _ _ _ _ ⟨_,_,_,_,h,_⟩ _; cases h) ?_)
    refine wF [0,11,12] (GK.code ?_)
    refine GC.seq (GC.draw [(0,0),(1,0),(2,0),(3,0),(5,0),(7,0),(8,0),(4,1),(6,0),(9,0),(10,2)] mixed (by kernel_rfl) (by rintro _ _ _ _ ⟨_,_,_,_,h,_⟩ _; cases h) ?_)
    refine wF [0,12] (GK.code ?_)
    refine GC.draw [(0,0),(1,0),(2,0),(3,0),(5,0),(7,0),(8,0),(4,1),(6,0),(9,0),(10,2)] mixed (by kernel_rfl) (by rintro _ _ _ _ ⟨_,_,_,_,h,_⟩ _; cases h) ?_
    refine wF [] ?_
    refine fR (.inr rfl) rfl (by trivial) () [0,1] rfl rfl rfl rfl (trivial)
theorem f57 (μ) (s : H5) (long : Int) : Fun Tryz.prog μ 57 [.ptr 0 0] [(0,.row (shaR s (.v (.slice none 0 0)) long))] 1
  (fun _ : Unit=>True) (fun _=>⟨.tup [],[(0,.row (shaR ini (.v (.slice none 0 0)) 0))],1⟩):=by
 refine fE 12 Tryz.func57 fun zw zβ=>?_
 refine cF [0] ?_
 refine rS [0] ?_
 refine rG [] ?_
 refine fR (.inr rfl) rfl (by trivial) () [0] rfl rfl rfl rfl (trivial)
structure ShI where
 s : H5
 bo : Nat
 bl : Nat
 bc : Nat
 brn : Nat
 G : Nat → Int
 long : Int
structure Abs (S : Nat → Int) (n : Nat) (i : ShI) : Prop where
 hs : i.s = hashN S (n / 64)
 hl : i.bl = n % 64
 hc : i.bl ≤ i.bc
 hr : i.bo + i.bc ≤ i.brn
 hg : ∀ j,j < i.bl → i.G (i.bo + j) = S (64 * (n / 64) + j)
 hn : i.long = n
def shaG (a b : Nat) (i : ShI) : GH:=[(a,.row (shaR i.s (.slc b i.bo i.bl i.bc) i.long)),(b,.row ⟨.ints .u8 i.G,i.brn,5⟩)]
theorem f41 (μ) : Fun Tryz.prog μ 41 [.v (.int .i64 1)] [] 0 (fun i : ShI=>∀ S,Abs S 0 i) (fun i=>⟨.ifc 142 (.ptr 0 0),shaG 0 1 i,2⟩):=by
 refine fE 10 Tryz.func41 fun zw zβ=>?_
 refine cF [0] ?_
 refine rS [] ?_
 refine rS [3] ?_
 refine GL.seqR ?_
 refine lK 1 [3,6] ?_
 refine GL.op rfl (cR rfl (f57 _ ⟨0,0,0,0,0⟩ 0) [0] rfl rfl rfl rfl fun _ _=>?_)
 refine gF [3] rfl ?_
 refine lF [3] (GK.code ?_)
 refine GC.nilgR 0 5 (.ints .u8 fun _=>0) 5 rfl rfl rfl ?_
 refine rS [2] ?_
 refine GC.ret ?_
 refine fR (.inl rfl) rfl (by trivial) ⟨ini,_,_,_,_,_,_⟩ [0,1] rfl rfl rfl rfl (fun S=>⟨rfl,rfl,Nat.le_refl _,Nat.le_refl _,fun j hj=>absurd hj (Nat.not_lt_zero _),rfl⟩)
def YW (fe : Nat) (F : Nat → Int) (prn off m cap rn : Nat) (G : Nat → Int) (long : Int) (s : H5) (o l c q : Nat) : S:=⟨[(0,.ptr 0 0),(1,.slc 1 off m cap)],[(0,.row (shaR s (.slc 2 o l c) long)),(1,.row ⟨.ints .u8 F,prn,fe⟩),(2,.row ⟨.ints .u8 G,rn,5⟩)],3,[]⟩
structure IY (S : Nat → Int) (N b rn : Nat) (G : Nat → Int) (s : H5) (o l c q : Nat) : Prop where
 hs : s = hashN S (b + q)
 hl : 64 * (b + q) + l = N
 hc : l ≤ c
 hr : o + c ≤ rn
 hg : ∀ j,j < l → G (o + j) = S (64 * (b + q) + j)
theorem f281 (μ) {fe : Nat} (S F : Nat → Int) (n off m cap prn : Nat) (i : ShI) (hA : Abs S n i) (hr : off + m ≤ prn) (hF : ∀ j,j < m → F (off + j) = S (n + j)) (hn : n + m < 1152921504606846976) (hm : m < 1099511627776) :
  FunC Tryz.prog μ 281 [.ptr 0 0,.slc 1 off m cap] [(0,.row (shaR i.s (.slc 2 i.bo i.bl i.bc) i.long)),(1,.row ⟨.ints .u8 F,prn,fe⟩),(2,.row ⟨.ints .u8 i.G,i.brn,5⟩)] 2 3
  (fun i=>Abs S (n + m) i) (fun i=>⟨.tup [.v (.int .i64 m),.v .nilIface],[(0,.row (shaR i.s (.slc 2 i.bo i.bl i.bc) i.long)),(1,.row ⟨.ints .u8 F,prn,fe⟩),(2,.row ⟨.ints .u8 i.G,i.brn,5⟩)],3⟩):=by
 obtain ⟨s0,bo,bl,bc,brn,G,long⟩:=i
 obtain ⟨hs,hl,hc,hbr,hg,hlong⟩:=hA
 dsimp only at hs hl hc hbr hg hlong
 dsimp only
 refine fE 48 Tryz.func281 fun zw zβ=>?_
 refine cF [0,1] ?_
 refine rS [0,1] ?_
 refine rS [0,1] ?_
 refine GL.seqR ?_
 refine lK 6 [0,1,16,20,21] ?_
 refine GL.op rfl (OpW.appendIO (m:=m) (N:=fun j=>F (off + j)) rfl rfl rfl rfl rfl rfl rfl rfl rfl (by omega) (Nat.le_of_ble_eq_true rfl) (hc) (src_slc rfl rfl (by show off + m * 1 ≤ prn; omega) (fun j hj=>rfl)) (by omega) (by show (_ + _) * 1 ≤ 140737488355328; omega) rfl ?_ rfl rfl)
 intro o1 c1 rn1 G1 h1 _ h3 h4 h5 ρ' hp
 obtain rfl:=Option.some.inj hp; clear hp
 refine gF [0,1,16,22] rfl ?_
 refine lF [0,1] (GK.code ?_)
 refine GC.seq (GC.block ?_)
 refine GC.loopE (ι:=(H5) × (Nat) × (Nat) × (Nat) × (Nat)) (fun zi=>(IY S (n + m) (n / 64) rn1 G1) zi.1 zi.2.1 zi.2.2.1 zi.2.2.2.1 zi.2.2.2.2) (fun zi=>(fun s o l c q=>(l : Nat)) zi.1 zi.2.1 zi.2.2.1 zi.2.2.2.1 zi.2.2.2.2) (fun zi=>(YW fe F prn off m cap rn1 G1 (w64 (long + w64 m))) zi.1 zi.2.1 zi.2.2.1 zi.2.2.2.1 zi.2.2.2.2) ((s0,o1,bl + m,c1,0)) [0,1,2] (show (IY S (n + m) (n / 64) rn1 G1) (s0) (o1) (bl + m) (c1) (0) from ?_) (Ent.R rfl rfl rfl rfl) ?_
 ·refine ⟨hs,by omega,h1,by omega,fun j hj=>?_⟩
  by_cases e : j < bl
  ·rw [h4 j e]; exact hg j e
  ·have h6:=h5 (j - bl) (by omega)
   rw [show o1 + bl + (j - bl) = o1 + j from by omega] at h6
   rw [h6,hF _ (by omega)]
   congr 1; omega
 rintro ⟨s,o,l,c,q⟩ hI
 change (IY S (n + m) (n / 64) rn1 G1) s o l c q at hI
 obtain ⟨hs2,hl2,hc2,hr2,hg2⟩:=hI
 change GC _ _ _ ((YW fe F prn off m cap rn1 G1 (w64 (long + w64 m))) s o l c q)
 refine cF [0,1] ?_
 refine GC.seq ?_
 refine rS [0,1,30] ?_
 refine GC.cond rfl (fun hcc=>?_) (fun hcc=>?_)
 ·have hcc : (64 : Int) ≤ (l : Int):=by simpa using hcc
  refine GC.skip (GK.code (GC.block (GL.seqR ?_)))
  refine lK 6 [0,1,31,36] ?_
  refine GL.op rfl (cR rfl (f282 _ G1 _ _ _ _ _ _ _ _ _ (by omega) (by have:=offS1_le c 0 o; omega)) [0,2] rfl rfl rfl rfl fun _ _=>?_)
  refine gF [0,1] rfl ?_
  refine lF [0,1] (GK.code ?_)
  refine rG [0,1] ?_
  refine GK.back (compr (fun j=>G1 (offS c 0 o 1 + j)) s,offS c 64 o 1,l - 64,c - 64,q + 1) [0,1,2] (show (IY S (n + m) (n / 64) rn1 G1) (compr (fun j=>G1 (offS c 0 o 1 + j)) s) (offS c 64 o 1) (l - 64) (c - 64) (q + 1) from ?_) ?_ (Ent.R rfl rfl rfl rfl)
  ·have ho : offS c 64 o 1 ≤ o + 64:=offS1_le c 64 o
   refine ⟨?_,by omega,by omega,?_,fun j hj=>?_⟩
   ·rw [show n / 64 + (q + 1) = n / 64 + q + 1 from by omega]
    show _ = compr (fun j=>S (64 * (n / 64 + q) + j)) (hashN S (n / 64 + q))
    rw [← hs2]
    refine compr_congr (fun j hj=>?_) s
    rw [offS_zero]; exact hg2 j (by omega)
   ·by_cases e : c = 64
    ·subst e
     have : offS 64 64 o 1 = o:=rfl
     omega
    ·omega
   ·rw [offS_lt (by omega)]
    have:=hg2 (64 + j) (by omega)
    rw [show o + 64 + j = o + (64 + j) from by omega,this]
    congr 1; omega
  ·dsimp only; omega
 ·have hcc : ¬ ((64 : Int) ≤ (l : Int)):=by simpa using hcc
  refine GC.exit ?_
  refine GK.code ?_
  refine rS [4,5] ?_
  refine GC.ret ?_
  refine fR (.inl rfl) rfl (by trivial) ⟨s,o,l,c,rn1,G1,_⟩ [0,1,2] rfl rfl rfl rfl (⟨?_,?_,hc2,hr2,?_,?_⟩)
  ·dsimp only; rw [hs2]; congr 1; omega
  ·dsimp only; omega
  ·dsimp only; intro j hj; rw [hg2 j hj]; congr 1; omega
  ·show w64 (long + w64 m) = _
   unfold w64; omega
end Go.Proofs.YtebadfmnmhmfeaaGreatDoor.T
