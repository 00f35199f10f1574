/- What the functions of the program do, one contract each (P5, P6, P7); each states its own conditions. -/
import Derived.Test.YtebadfmnmhmfeaaGreatDoorP2
namespace Go.Proofs.YtebadfmnmhmfeaaGreatDoor.T
open Go.Proofs.YtebadfmnmhmfeaaGreatDoor.Sx Go.RowKit
set_option maxRecDepth 20000
set_option linter.unusedSimpArgs false
set_option linter.unusedVariables false
set_option linter.unnecessarySimpa false
set_option linter.unusedSectionVars false
def V0 (R0 R1 : GO) (s : H5) (long B : Int) (p c : Nat) (G : Nat → Int) : S:=⟨[(1,.v (.slice none 0 0)),(5,.ptr 3 0),(6,.v (.int .u64 B))],[(0,R0),(1,R1),(2,.row ⟨.ints .u8 G,c,5⟩),(3,.row (shaR s (.slc 2 0 p c) long))],4,[]⟩
structure J0 (P : Nat → Int) (n p c : Nat) (G : Nat → Int) : Prop where
 hc : p ≤ c
 hn : n + 1 ≤ 64 * (n / 64) + p
 hl : 64 * (n / 64) + p + (120 - p % 64) % 64 + 8 = padL n
 hg : ∀ i,i < p → G i = P (64 * (n / 64) + i)
def V1 (R0 R1 : GO) (s : H5) (long B : Int) (q c : Nat) (i : Int) (G : Nat → Int) : S:=⟨[(1,.v (.slice none 0 0)),(5,.ptr 3 0),(6,.v (.int .u64 B)),(7,.v (.int .i64 i))],[(0,R0),(1,R1),(2,.row ⟨.ints .u8 G,c,5⟩),(3,.row (shaR s (.slc 2 0 q c) long))],4,[]⟩
structure J1 (P : Nat → Int) (n q c : Nat) (i : Int) (G : Nat → Int) : Prop where
 hc : q ≤ c
 hi : 0 ≤ i + 8 ∧ i ≤ 56 ∧ i % 8 = 0
 hl : 8 * ((64 * (n / 64) + q : Nat) : Int) + i + 8 = 8 * (padL n : Int)
 hg : ∀ j,j < q → G j = P (64 * (n / 64) + j)
def V2 (R0 R1 : GO) (rn : Nat) (G : Nat → Int) (long : Int) (s : H5) (o l c q : Nat) : S:=⟨[(1,.v (.slice none 0 0)),(5,.ptr 3 0)],[(0,R0),(1,R1),(2,.row ⟨.ints .u8 G,rn,5⟩),(3,.row (shaR s (.slc 2 o l c) long))],4,[]⟩
def V6 (R0 R1 : GO) (zs : List Int) (i : Int) (p c : Nat) (D : Nat → Int) : S:=⟨[(1,.slc 2 0 p c),(98,.agg (zs.map fun z=>.v (.int .u32 z))),(99,.v (.int .i64 i))],[(0,R0),(1,R1),(2,.row ⟨.ints .u8 D,c,5⟩)],3,[]⟩
theorem f280 (μ) (S : Nat → Int) (n : Nat) (i : ShI) (hA : Abs S n i) (hn : n < 1099511627776) :
  Fun Tryz.prog μ 280 [.ptr 0 0,.v (.slice none 0 0)] (shaG 0 1 i) 2
  (fun d : Nat × (Nat → Int)=>20 ≤ d.1 ∧ ∀ j,j < 20 → d.2 j = dig (sha S n) j) (fun d=>⟨.slc 2 0 20 d.1,[(0,.row (shaR i.s (.slc 1 i.bo i.bl i.bc) i.long)),(1,.row ⟨.ints .u8 i.G,i.brn,5⟩),(2,.row ⟨.ints .u8 d.2,d.1,5⟩)],3⟩):=by
 obtain ⟨s0,bo,bl,bc,brn,G,long⟩:=i
 obtain ⟨hs,hl,hc,hbr,hg,hlong⟩:=hA
 dsimp only at hs hl hc hbr hg hlong
 dsimp only [shaG]
 have hpl : padL n % 64 = 0 ∧ n + 9 ≤ padL n ∧ padL n ≤ n + 72:=by unfold padL; omega
 refine fE 118 Tryz.func280 fun zw zβ=>?_
 refine cF [0,1] ?_
 refine rS [0,1] ?_
 refine GC.seq (GC.drawH [(0,0),(1,0),(2,0),(3,3),(5,0),(6,0),(7,0),(8,3),(10,0),(11,0),(12,0),(13,3),(4,4),(9,4),(14,0),(15,2),(16,0)] [0,1] (pcs 0 0 [.v (.int .u32 s0.a),.v (.int .u32 s0.b),.v (.int .u32 s0.c),.v (.int .u32 s0.d),.v (.int .u32 s0.e)] ++ [(0,5,SV.slc 1 bo bl bc),(0,6,SV.v (.int .u64 long))]) mixed (by kernel_rfl) (by rintro _ _ _ _ ⟨_,_,_,_,h,_⟩ _; cases h) rfl fun β=>?_)
 refine wK 3 [0,1,12] ?_
 refine GW.heldA (ys:=[.v (.int .u32 s0.a),.v (.int .u32 s0.b),.v (.int .u32 s0.c),.v (.int .u32 s0.d),.v (.int .u32 s0.e)]) rfl rfl rfl rfl rfl rfl rfl (fun p h=>List.mem_append_left _ h) ⟨⟨_,rfl,(Nat.le_of_ble_eq_true rfl),rfl⟩,rfl,⟨_,rfl,(Nat.le_of_ble_eq_true rfl),rfl⟩,rfl,⟨_,rfl,(Nat.le_of_ble_eq_true rfl),rfl⟩,rfl,⟨_,rfl,(Nat.le_of_ble_eq_true rfl),rfl⟩,rfl,⟨_,rfl,(Nat.le_of_ble_eq_true rfl),rfl⟩,rfl,⟨_,rfl,(Nat.le_of_ble_eq_true rfl),rfl⟩,rfl,⟨_,rfl,(Nat.le_of_ble_eq_true rfl),rfl⟩,rfl,trivial⟩ rfl rfl (GW.force [0,1,13] rfl ?_)
 refine wK 3 [0,1,13,17] ?_
 refine GW.held rfl rfl rfl rfl rfl rfl (List.mem_append_right _ (.head _)) ⟨⟨_,rfl,(Nat.le_of_ble_eq_true rfl),rfl⟩,rfl,⟨_,rfl,(Nat.le_of_ble_eq_true rfl),rfl⟩,rfl,⟨_,rfl,(Nat.le_of_ble_eq_true rfl),rfl⟩,rfl,⟨_,rfl,(Nat.le_of_ble_eq_true rfl),rfl⟩,rfl,⟨_,rfl,(Nat.le_of_ble_eq_true rfl),rfl⟩,rfl,⟨_,rfl,(Nat.le_of_ble_eq_true rfl),rfl⟩,rfl,⟨_,rfl,(Nat.le_of_ble_eq_true rfl),rfl⟩,rfl,trivial⟩ rfl rfl (GW.force [0,1,13,18] rfl ?_)
 refine wK 3 [0,1,13,18,22] ?_
 refine GW.held rfl rfl rfl rfl rfl rfl (List.mem_append_right _ (.tail _ (.head _))) ⟨⟨_,rfl,(Nat.le_of_ble_eq_true rfl),rfl⟩,rfl,⟨_,rfl,(Nat.le_of_ble_eq_true rfl),rfl⟩,rfl,⟨_,rfl,(Nat.le_of_ble_eq_true rfl),rfl⟩,rfl,⟨_,rfl,(Nat.le_of_ble_eq_true rfl),rfl⟩,rfl,⟨_,rfl,(Nat.le_of_ble_eq_true rfl),rfl⟩,rfl,⟨_,rfl,(Nat.le_of_ble_eq_true rfl),rfl⟩,rfl,⟨_,rfl,(Nat.le_of_ble_eq_true rfl),rfl⟩,rfl,trivial⟩ rfl rfl (GW.force [0,1,13,18,23] rfl ?_)
 refine GW.opS rfl rfl (OpW.empty (.ints .u8 fun _=>0) rfl rfl rfl rfl ?_)
 refine GK.heldAnd rfl ⟨⟨_,rfl,(Nat.le_of_ble_eq_true rfl),rfl⟩,rfl,⟨_,rfl,(Nat.le_of_ble_eq_true rfl),rfl⟩,rfl,⟨_,rfl,(Nat.le_of_ble_eq_true rfl),rfl⟩,rfl,⟨_,rfl,(Nat.le_of_ble_eq_true rfl),rfl⟩,rfl,⟨_,rfl,(Nat.le_of_ble_eq_true rfl),rfl⟩,rfl,⟨_,rfl,(Nat.le_of_ble_eq_true rfl),rfl⟩,rfl,⟨_,rfl,(Nat.le_of_ble_eq_true rfl),rfl⟩,rfl,trivial⟩ (wL [0,1,13,14,18,23] rfl ?_)
 refine GW.opS rfl rfl (OpW.appendI (m:=bl) (N:=fun j=>G (bo + j)) rfl rfl rfl rfl rfl rfl rfl rfl rfl rfl (Nat.le_of_ble_eq_true rfl) (Nat.zero_le _) (src_slc rfl rfl (by show bo + bl * 1 ≤ brn; omega) (fun j hj=>rfl)) (by omega) (by show (_ + _) * 1 ≤ 140737488355328; omega) rfl ?_ rfl rfl)
 intro c1 G1 hc1 _ ho1 hn1 ρ' hp
 obtain rfl:=Option.some.inj hp; clear hp
 refine GK.heldAnd rfl ⟨⟨_,rfl,(Nat.le_of_ble_eq_true rfl),rfl⟩,rfl,⟨_,rfl,(Nat.le_of_ble_eq_true rfl),rfl⟩,rfl,⟨_,rfl,(Nat.le_of_ble_eq_true rfl),rfl⟩,rfl,⟨_,rfl,(Nat.le_of_ble_eq_true rfl),rfl⟩,rfl,⟨_,rfl,(Nat.le_of_ble_eq_true rfl),rfl⟩,rfl,⟨_,rfl,(Nat.le_of_ble_eq_true rfl),rfl⟩,rfl,⟨_,rfl,(Nat.le_of_ble_eq_true rfl),rfl⟩,rfl,trivial⟩ (wL [0,1,13,19,23] rfl ?_)
 refine wF [0,1,5] (GK.delA rfl (GK.code ?_))
 refine rS [1,5,6] ?_
 refine GL.seqR ?_
 refine lK 6 [1,5,6,31,35,36] ?_
 refine GL.op rfl (OpW.appendI (m:=1) (N:=fun j=>[128].getD j 0) rfl rfl rfl rfl rfl rfl rfl rfl rfl rfl (Nat.le_of_ble_eq_true rfl) (hc1) (src_lst (zs:=[128]) rfl rfl rfl (Nat.le_refl 1)) (by omega) (by show (_ + _) * 1 ≤ 140737488355328; omega) rfl ?_ rfl rfl)
 intro c2 G2 hc2 _ ho2 hn2 ρ' hp
 obtain rfl:=Option.some.inj hp; clear hp
 refine gF [1,5,6,31,37] rfl ?_
 refine lF [1,5,6] (GK.code ?_)
 refine GC.seq (GC.block ?_)
 refine GC.loopE (ι:=(Nat) × (Nat) × (Nat → Int)) (fun zi=>(J0 (padS S n) n) zi.1 zi.2.1 zi.2.2) (fun zi=>(fun p c G3=>((120 - p % 64) % 64 : Nat)) zi.1 zi.2.1 zi.2.2) (fun zi=>(V0 (.row (shaR s0 (.slc 1 bo bl bc) long)) (.row ⟨.ints .u8 G,brn,5⟩) s0 long (w64 (long * 8))) zi.1 zi.2.1 zi.2.2) ((0 + bl + 1,c2,G2)) [0,1,2,3] (show (J0 (padS S n) n) (0 + bl + 1) (c2) (G2) from ?_) (Ent.R rfl rfl rfl rfl) ?_
 ·refine ⟨hc2,by omega,?_,fun i hi=>?_⟩
  ·unfold padL; omega
  ·by_cases e : i < bl
   ·have h1:=ho2 i (by omega)
    have h2:=hn1 i e
    rw [Nat.zero_add] at h2
    rw [padS_lt (by omega),h1,h2,hg i e]
   ·obtain rfl : i = bl:=by omega
    have h1:=hn2 0 (by omega)
    rw [Nat.zero_add,Nat.add_zero] at h1
    rw [show 64 * (n / 64) + i = n from by omega,padS_at]; exact h1
 rintro ⟨p,c,G3⟩ hI
 change (J0 (padS S n) n) p c G3 at hI
 obtain ⟨hp1,hp2,hp3,hp4⟩:=hI
 change GC _ _ _ ((V0 (.row (shaR s0 (.slc 1 bo bl bc) long)) (.row ⟨.ints .u8 G,brn,5⟩) s0 long (w64 (long * 8))) p c G3)
 refine cF [1,5,6] ?_
 refine GC.seq ?_
 refine rS [1,5,6,46] ?_
 refine GC.cond rfl (fun hc=>?_) (fun hc=>?_)
 ·have hc : ¬ ((p : Int) % 64 = 56):=by simpa using hc
  refine GC.skip (GK.code (GC.block (GC.region ?_)))
  refine lK 6 [1,5,6,47,51,52] ?_
  refine GL.op rfl (OpW.appendI (m:=1) (N:=fun j=>[0].getD j 0) rfl rfl rfl rfl rfl rfl rfl rfl rfl rfl (Nat.le_of_ble_eq_true rfl) (hp1) (src_lst (zs:=[0]) rfl rfl rfl (Nat.le_refl 1)) (by omega) (by show (_ + _) * 1 ≤ 140737488355328; omega) rfl ?_ rfl rfl)
  intro c4 G4 hc4 _ ho4 hn4 ρ' hp
  obtain rfl:=Option.some.inj hp; clear hp
  refine gF [1,5,6,47,53] rfl ?_
  refine lF [1,5,6] ?_
  refine GK.back (p + 1,c4,G4) [0,1,2,3] (show (J0 (padS S n) n) (p + 1) (c4) (G4) from ?_) ?_ (Ent.R rfl rfl rfl rfl)
  ·refine ⟨hc4,by omega,by omega,fun i hi=>?_⟩
   by_cases e : i < p
   ·rw [ho4 i e]; exact hp4 i e
   ·obtain rfl : i = p:=by omega
    rw [padS_mid (by omega) (by omega)]
    have h1:=hn4 0 (by omega)
    rw [Nat.add_zero] at h1; exact h1
  ·dsimp only; omega
 ·have hc : ¬ (¬ ((p : Int) % 64 = 56)):=by simpa using hc
  have hc : (p : Int) % 64 = 56:=Decidable.of_not_not hc
  have hp5 : 64 * (n / 64) + p + 8 = padL n:=by omega
  refine GC.exit ?_
  refine GK.code (GC.seq ?_)
  refine rS [1,5,6,7] ?_
  refine GC.block ?_
  refine GC.loopE (ι:=(Nat) × (Nat) × (Int) × (Nat → Int)) (fun zi=>(J1 (padS S n) n) zi.1 zi.2.1 zi.2.2.1 zi.2.2.2) (fun zi=>(fun q c5 i G5=>((i + 8).toNat : Nat)) zi.1 zi.2.1 zi.2.2.1 zi.2.2.2) (fun zi=>(V1 (.row (shaR s0 (.slc 1 bo bl bc) long)) (.row ⟨.ints .u8 G,brn,5⟩) s0 long (w64 (long * 8))) zi.1 zi.2.1 zi.2.2.1 zi.2.2.2) ((p,c,56,G3)) [0,1,2,3] (show (J1 (padS S n) n) (p) (c) (56) (G3) from ?_) (Ent.R rfl rfl rfl rfl) ?_
  ·exact ⟨hp1,by omega,by omega,hp4⟩
  rintro ⟨q,c5,i,G5⟩ hI
  change (J1 (padS S n) n) q c5 i G5 at hI
  obtain ⟨hq1,hq2,hq3,hq4⟩:=hI
  change GC _ _ _ ((V1 (.row (shaR s0 (.slc 1 bo bl bc) long)) (.row ⟨.ints .u8 G,brn,5⟩) s0 long (w64 (long * 8))) q c5 i G5)
  refine cF [1,5,6,7] ?_
  refine GC.seq ?_
  refine rS [1,5,6,7,57] ?_
  refine GC.cond rfl (fun hc2=>?_) (fun hc2=>?_)
  ·have hc2 : 0 ≤ i:=by simpa using hc2
   refine GC.skip (GK.code (GC.seq (GC.block (GC.region ?_))))
   refine lK 11 [1,5,6,7,60,64,70] ?_ (hc:=(by (repeat' first | exact trivial | refine And.intro ?_ ?_) <;> (try unfold w64) <;> (try simp only [InI64]) <;> omega))
   refine GL.op rfl (OpW.appendI (m:=1) (N:=fun j=>[w8 (w64 (long * 8) / 2 ^ min (w64 i).toNat 64)].getD j 0) rfl rfl rfl rfl rfl rfl rfl rfl rfl rfl (Nat.le_of_ble_eq_true rfl) (hq1) (src_lst (zs:=[_]) rfl rfl rfl (Nat.le_refl 1)) (by omega) (by show (_ + _) * 1 ≤ 140737488355328; omega) rfl ?_ rfl rfl)
   intro c6 G6 hc6 _ ho6 hn6 ρ' hp
   obtain rfl:=Option.some.inj hp; clear hp
   refine gF [1,5,6,7,60,71] rfl ?_
   refine lF [1,5,6,7] ?_ (hc:=(by (repeat' first | exact trivial | refine And.intro ?_ ?_) <;> (try unfold w64) <;> (try simp only [InI64]) <;> omega))
   refine GK.code ?_
   refine rG [1,5,6,7] ?_ (hc:=(by (repeat' first | exact trivial | refine And.intro ?_ ?_) <;> (try unfold w64) <;> (try simp only [InI64]) <;> omega))
   refine GK.back (q + 1,c6,i - 8,G6) [0,1,2,3] (show (J1 (padS S n) n) (q + 1) (c6) (i - 8) (G6) from ?_) ?_ (Ent.R rfl rfl rfl rfl)
   ·refine ⟨hc6,by omega,by omega,fun j hj=>?_⟩
    by_cases e : j < q
    ·rw [ho6 j e]; exact hq4 j e
    ·obtain rfl : j = q:=by omega
     rw [padS_len (by omega) (by omega)]
     have h1:=hn6 0 (by omega)
     rw [Nat.add_zero] at h1
     rw [h1,show 8 * (padL n - 1 - (64 * (n / 64) + j)) = min (w64 i).toNat 64 from by unfold w64; omega,show w64 (w64 n * 8) = w64 (long * 8) from by rw [hlong]; unfold w64; omega]; rfl
   ·dsimp only; omega
  ·have hc2 : ¬ (0 ≤ i):=by simpa using hc2
   have hq5 : 64 * (n / 64) + q = padL n:=by omega
   clear hq3 hq2 hc2 hp2 hp3 hp4 hp5 hc
   refine GC.exit ?_
   refine GK.code (GC.seq (GC.block ?_))
   refine GC.loopE (ι:=(H5) × (Nat) × (Nat) × (Nat) × (Nat)) (fun zi=>(IY (padS S n) (padL n) (n / 64) c5 G5) zi.1 zi.2.1 zi.2.2.1 zi.2.2.2.1 zi.2.2.2.2) (fun zi=>(fun s o l c' qb=>(l : Nat)) zi.1 zi.2.1 zi.2.2.1 zi.2.2.2.1 zi.2.2.2.2) (fun zi=>(V2 (.row (shaR s0 (.slc 1 bo bl bc) long)) (.row ⟨.ints .u8 G,brn,5⟩) c5 G5 long) zi.1 zi.2.1 zi.2.2.1 zi.2.2.2.1 zi.2.2.2.2) ((s0,0,q,c5,0)) [0,1,2,3] (show (IY (padS S n) (padL n) (n / 64) c5 G5) (s0) (0) (q) (c5) (0) from ?_) (Ent.R rfl rfl rfl rfl) ?_
   ·refine ⟨?_,by omega,hq1,by omega,fun j hj=>?_⟩
    ·rw [hs]; exact hashN_congr _ fun j hj=>(padS_lt (by omega)).symm
    ·rw [Nat.zero_add]; exact hq4 j hj
   rintro ⟨s,o,l,c',qb⟩ hI
   change (IY (padS S n) (padL n) (n / 64) c5 G5) s o l c' qb at hI
   obtain ⟨hs2,hl2,hc2,hr2,hg2⟩:=hI
   change GC _ _ _ ((V2 (.row (shaR s0 (.slc 1 bo bl bc) long)) (.row ⟨.ints .u8 G,brn,5⟩) c5 G5 long) s o l c' qb)
   refine cF [1,5] ?_
   refine GC.seq ?_
   refine rS [1,5,79] ?_
   refine GC.cond rfl (fun hcc=>?_) (fun hcc=>?_)
   ·have hcc : (64 : Int) ≤ (l : Int):=by simpa using hcc
    refine GC.skip (GK.code (GC.block (GL.seqR ?_)))
    refine lK 6 [1,5,80,85] ?_
    refine GL.op rfl (cR rfl (f282 _ G5 _ _ _ _ _ _ _ _ _ (by omega) (by have:=offS1_le c' 0 o; omega)) [3,2] rfl rfl rfl rfl fun _ _=>?_)
    refine gF [1,5] rfl ?_
    refine lF [1,5] (GK.code ?_)
    refine rG [1,5] ?_
    refine GK.back (compr (fun j=>G5 (offS c' 0 o 1 + j)) s,offS c' 64 o 1,l - 64,c' - 64,qb + 1) [0,1,2,3] (show (IY (padS S n) (padL n) (n / 64) c5 G5) (compr (fun j=>G5 (offS c' 0 o 1 + j)) s) (offS c' 64 o 1) (l - 64) (c' - 64) (qb + 1) from ?_) ?_ (Ent.R rfl rfl rfl rfl)
    ·have ho : offS c' 64 o 1 ≤ o + 64:=offS1_le c' 64 o
     refine ⟨?_,by omega,by omega,?_,fun j hj=>?_⟩
     ·rw [show n / 64 + (qb + 1) = n / 64 + qb + 1 from by omega]
      show _ = compr (fun j=>padS S n (64 * (n / 64 + qb) + j)) (hashN (padS S n) (n / 64 + qb))
      rw [← hs2]
      refine compr_congr (fun j hj=>?_) s
      rw [offS_zero]; exact hg2 j (by omega)
     ·by_cases e : c' = 64
      ·subst e
       have : offS 64 64 o 1 = o:=rfl
       omega
      ·omega
     ·rw [offS_lt (by omega)]
      have:=hg2 (64 + j) (by omega)
      rw [show o + 64 + j = o + (64 + j) from by omega,this]
      congr 1; omega
    ·dsimp only; omega
   ·have hcc : ¬ ((64 : Int) ≤ (l : Int)):=by simpa using hcc
    have hfin : s = hashN (padS S n) (padL n / 64):=by rw [hs2]; congr 1; omega
    refine GC.exit ?_
    refine GK.code ?_
    refine GC.nilg 1 (.ints .u8 fun _=>0) 5 rfl ?_
    refine GC.seq ?_
    refine rS [1,98,99] ?_
    refine GC.block ?_
    refine GC.loopE (ι:=(Int) × (Nat) × (Nat) × (Nat → Int)) (fun zi=>(I6 s) zi.1 zi.2.1 zi.2.2.1 zi.2.2.2) (fun zi=>(fun i4 p4 c7 D=>((5 - i4).toNat : Nat)) zi.1 zi.2.1 zi.2.2.1 zi.2.2.2) (fun zi=>(V6 (.row (shaR s0 (.slc 1 bo bl bc) long)) (.row ⟨.ints .u8 G,brn,5⟩) [s.a,s.b,s.c,s.d,s.e]) zi.1 zi.2.1 zi.2.2.1 zi.2.2.2) ((0,0,0,fun _=>0)) [0,1,4] (show (I6 s) (0) (0) (0) (fun _=>0) from ?_) (Ent.R rfl rfl rfl rfl) ?_
    ·exact ⟨Nat.le_refl _,by omega,by omega,fun j hj=>by omega⟩
    rintro ⟨i4,p4,c7,D⟩ hI
    change (I6 s) i4 p4 c7 D at hI
    obtain ⟨hd1,hd2,hd3,hd4⟩:=hI
    change GC _ _ _ ((V6 (.row (shaR s0 (.slc 1 bo bl bc) long)) (.row ⟨.ints .u8 G,brn,5⟩) [s.a,s.b,s.c,s.d,s.e]) i4 p4 c7 D)
    refine cF [1,98,99] ?_
    refine rS [1,98,99,100] ?_
    refine GC.seq ?_
    refine GC.cond rfl (fun hc10=>?_) (fun hc10=>?_)
    ·have hc10 : i4 < 5:=by simpa using hc10
     refine GC.skip (GK.code (GC.seq (GC.block (GL.seqR ?_))))
     refine GL.vstep rfl (VStep.ixI (zs:=[s.a,s.b,s.c,s.d,s.e]) rfl rfl rfl rfl rfl (by omega) (by omega) rfl) rfl (GL.force [1,98,99,101] rfl ?_)
     refine lF [1,9,98,99] (GK.code ?_)
     refine GC.region ?_
     refine lK 13 [98,99,102,114] ?_
     refine GL.op rfl (OpW.appendI (m:=4) (N:=fun j=>([_,_,_,_] : List Int).getD j 0) rfl rfl rfl rfl rfl rfl rfl rfl rfl rfl (Nat.le_of_ble_eq_true rfl) (hd1) (src_lst (zs:=[_,_,_,_]) rfl rfl rfl (Nat.le_refl 4)) (by omega) (by show (_ + _) * 1 ≤ 140737488355328; omega) rfl ?_ rfl rfl)
     intro c8 D8 hc11 _ ho8 hn8 ρ' hp
     obtain rfl:=Option.some.inj hp; clear hp
     refine gF [98,99,115] rfl ?_
     refine lF [1,98,99] ?_
     refine GK.code ?_
     refine rG [1,98,99] ?_
     refine GK.back (i4 + 1,p4 + 4,c8,D8) [0,1,2] (show (I6 s) (i4 + 1) (p4 + 4) (c8) (D8) from ?_) ?_ (Ent.R rfl rfl rfl rfl)
     ·refine ⟨hc11,by omega,by omega,fun j hj=>?_⟩
      by_cases e : j < p4
      ·rw [ho8 j e]; exact hd4 j e
      ·have h1:=hn8 (j - p4) (by omega)
       rw [show p4 + (j - p4) = j from by omega] at h1
       rw [h1]
       have hw : ([s.a,s.b,s.c,s.d,s.e] : List Int).getD i4.toNat 0 = s.w i4.toNat:=by
        have h5 : i4.toNat < 5:=by omega
        generalize i4.toNat = k at h5
        match k,h5 with
        | 0,_=>rfl
        | 1,_=>rfl
        | 2,_=>rfl
        | 3,_=>rfl
        | 4,_=>rfl
       rw [hw]
       unfold dig
       rw [show j / 4 = i4.toNat from by omega]
       have h4 : j - p4 < 4:=by omega
       have hm : j % 4 = j - p4:=by omega
       rw [hm]
       generalize j - p4 = t at h4
       match t,h4 with
       | 0,_=>rfl
       | 1,_=>rfl
       | 2,_=>rfl
       | 3,_=>show w8 (s.w i4.toNat) = w8 (s.w i4.toNat / 1); rw [Int.ediv_one]
     ·dsimp only; omega
    ·have hc10 : ¬ (i4 < 5):=by simpa using hc10
     obtain rfl : p4 = 20:=by omega
     refine GC.exit ?_
     refine GK.code ?_
     refine rS [4] ?_
     refine GC.ret ?_
     refine fR (.inl rfl) rfl (by trivial) ((c7,D)) [0,1,2] rfl rfl rfl rfl (⟨hd1,fun j hj=>?_⟩)
     show D j = dig (hashN (padS S n) (padL n / 64)) j
     rw [hd4 j hj,hfin]
theorem and255 (x : Int) : 0 ≤ w32 (bitZ .and 32 x 255) ∧ w32 (bitZ .and 32 x 255) < 256:=by
 have h1 : bitZ .and 32 x 255 ≤ 255:=by
  show (((BitVec.ofInt 32 x &&& BitVec.ofInt 32 255).toNat : Nat) : Int) ≤ 255
  rw [BitVec.toNat_and]
  have : (BitVec.ofInt 32 x).toNat &&& (BitVec.ofInt 32 255).toNat ≤ (BitVec.ofInt 32 255).toNat:=Nat.and_le_right
  have h2 : (BitVec.ofInt 32 255).toNat = 255:=by decide
  omega
 have h0:=bitZ_nonneg .and 32 x 255
 unfold w32; omega
theorem offS1_ge (cap l o : Nat) : o ≤ offS cap l o 1:=by
 unfold offS
 cases Nat.beq cap l <;> simp
def U0 (poly : Int) (base rn re : Nat) (i : Int) (T : Nat → Int) : S:=⟨[(0,.v (.int .u32 poly)),(1,.ptr 0 base),(4,.v (.int .i64 i))],[(0,.row ⟨.ints .u32 T,rn,re⟩)],1,[]⟩
def U1 (poly : Int) (base rn re : Nat) (i : Int) (T : Nat → Int) (crc j : Int) : S:=⟨[(0,.v (.int .u32 poly)),(1,.ptr 0 base),(4,.v (.int .i64 i)),(5,.v (.int .u32 crc)),(6,.v (.int .i64 j))],[(0,.row ⟨.ints .u32 T,rn,re⟩)],1,[]⟩
theorem f266 (μ) (poly : Int) (base rn re : Nat) (T : Nat → Int) (hb : base + 256 ≤ rn) : Fun Tryz.prog μ 266 [.v (.int .u32 poly),.ptr 0 base] [(0,.row ⟨.ints .u32 T,rn,re⟩)] 1
  (fun _ : Nat → Int=>True) (fun T=>⟨.tup [],[(0,.row ⟨.ints .u32 T,rn,re⟩)],1⟩):=by
 refine fE 31 Tryz.func266 fun zw zβ=>?_
 refine cF [0,1] ?_
 refine rS [0,1,4] ?_
 refine GC.block ?_
 refine GC.loopE (ι:=(Int) × (Nat → Int)) (fun zi=>(fun i _=>0 ≤ i ∧ i ≤ 256) zi.1 zi.2) (fun zi=>(fun i T=>((256 - i).toNat : Nat)) zi.1 zi.2) (fun zi=>(U0 poly base rn re) zi.1 zi.2) ((0,T)) [0] (show (fun i _=>0 ≤ i ∧ i ≤ 256) (0) (T) from ?_) (Ent.R rfl rfl rfl rfl) ?_
 ·dsimp only; omega
 rintro ⟨i,T⟩ hI
 change (fun i _=>0 ≤ i ∧ i ≤ 256) i T at hI
 try dsimp only at hI
 have hi:=hI
 change GC _ _ _ ((U0 poly base rn re) i T)
 refine cF [0,1,4] ?_
 refine GC.seq ?_
 refine rS [0,1,4,8] ?_
 refine GC.cond rfl (fun hc=>?_) (fun hc=>?_)
 ·have hc : i < 256:=by simpa using hc
  refine GC.skip (GK.code (GC.seq (GC.block ?_)))
  refine rS [0,1,4,5] ?_
  refine GC.seq ?_
  refine rS [0,1,4,5,6] ?_
  refine GC.block ?_
  refine GC.loopE (ι:=(Int) × (Int)) (fun zi=>(fun _ j=>0 ≤ j ∧ j ≤ 8) zi.1 zi.2) (fun zi=>(fun crc j=>((8 - j).toNat : Nat)) zi.1 zi.2) (fun zi=>(U1 poly base rn re i T) zi.1 zi.2) ((w32 i,0)) [0] (show (fun _ j=>0 ≤ j ∧ j ≤ 8) (w32 i) (0) from ?_) (Ent.R rfl rfl rfl rfl) ?_
  ·dsimp only; omega
  rintro ⟨crc,j⟩ hI
  change (fun _ j=>0 ≤ j ∧ j ≤ 8) crc j at hI
  try dsimp only at hI
  have hj:=hI
  change GC _ _ _ ((U1 poly base rn re i T) crc j)
  refine cF [0,1,4,5,6] ?_
  refine GC.seq ?_
  refine rS [0,1,4,5,6,14] ?_
  refine GC.cond rfl (fun hc2=>?_) (fun hc2=>?_)
  ·have hc2 : j < 8:=by simpa using hc2
   refine GC.skip (GK.code (GC.seq (GC.block ?_)))
   refine rS [0,1,4,5,6,19] ?_
   refine GC.cond rfl (fun hc3=>?_) (fun hc3=>?_)
   ·refine rG [0,1,4,5,6] ?_
    refine GK.code ?_
    refine rG [0,1,4,5,6] ?_
    refine GK.back (_,j + 1) [0] ?_ ?_ (Ent.R rfl rfl rfl rfl)
    ·dsimp only; omega
    ·dsimp only; omega
   ·refine rG [0,1,4,5,6] ?_
    refine GK.code ?_
    refine rG [0,1,4,5,6] ?_
    refine GK.back (_,j + 1) [0] ?_ ?_ (Ent.R rfl rfl rfl rfl)
    ·dsimp only; omega
    ·dsimp only; omega
  ·have hc2 : ¬ (j < 8):=by simpa using hc2
   refine GC.exit ?_
   refine GK.code ?_
   refine rG [0,1,4] ?_
   refine GK.code ?_
   refine rG [0,1,4] ?_
   refine GK.back (i + 1,_) [0] ?_ ?_ (Ent.R rfl rfl rfl rfl)
   ·dsimp only; omega
   ·dsimp only; omega
 ·have hc : ¬ (i < 256):=by simpa using hc
  refine GC.exit ?_
  refine fR (.inr rfl) rfl (by trivial) T [0] rfl rfl rfl rfl (trivial)
theorem f264 (μ) (F : Nat → Int) (off n cap rn re : Nat) (h4 : 4 ≤ n) (hr : off + n ≤ rn) : Fun Tryz.prog μ 264 [.slc 0 off n cap] [(0,.row ⟨.ints .u8 F,rn,re⟩)] 1 (fun _ : Int=>True)
  (fun x=>⟨.v (.int .u32 x),[(0,.row ⟨.ints .u8 F,rn,re⟩)],1⟩):=by
 refine fE 28 Tryz.func264 fun zw zβ=>?_
 refine cF [0] ?_
 refine rS [0] ?_
 refine rS [0] ?_
 refine GC.seq (GC.draw [(0,0),(1,0),(4,0),(5,0),(10,0),(11,0),(16,0),(17,0),(2,1),(3,0),(6,1),(7,0),(8,0),(9,0),(12,1),(13,0),(14,0),(15,0),(18,1),(19,0),(20,0),(21,0),(22,0)] mixed (by kernel_rfl) (by rintro _ _ _ _ ⟨_,_,_,_,h,_⟩ _; cases h) ?_)
 refine wF [2] (GK.code ?_)
 refine GC.ret ?_
 refine fR (.inl rfl) rfl (by trivial) _ [0] rfl rfl rfl rfl (trivial)
def U2 (i : Int) (T : Nat → Int) : S:=⟨[(3,.ptr 0 0),(4,.v (.int .i64 i))],[(0,.row ⟨.ints .u32 T,2048,445⟩)],1,[]⟩
def U3 (i : Int) (crc j : Int) (T : Nat → Int) : S:=⟨[(3,.ptr 0 0),(4,.v (.int .i64 i)),(5,.v (.int .u32 crc)),(6,.v (.int .i64 j))],[(0,.row ⟨.ints .u32 T,2048,445⟩)],1,[]⟩
theorem f263 (μ) (poly : Int) : Fun Tryz.prog μ 263 [.v (.int .u32 poly)] [] 0 (fun _ : Nat → Int=>True) (fun T=>⟨.ptr 0 0,[(0,.row ⟨.ints .u32 T,2048,445⟩)],1⟩):=by
 refine fE 45 Tryz.func263 fun zw zβ=>?_
 refine cF [0] ?_
 refine rS [0] ?_
 refine rS [0,3] ?_
 refine GC.conv 0 ⟨.ints .u32 fun _=>0,2048,445⟩ rfl rfl rfl (fun i hi=>.inr ?_) ?_
 ·have hb : Nat.blt i 2048 = true:=by simpa using hi
  show SV.v (.int .u32 0) = SV.v (bif Nat.blt i 2048 then .int .u32 0 else undef)
  rw [hb]; rfl
 refine GL.seqR ?_
 refine lK 4 [3,8,11] ?_
 refine GL.op rfl (cR rfl (f266 _ _ _ _ _ _ (by omega)) [0] rfl rfl rfl rfl fun T0 _=>?_)
 refine gF [3] rfl ?_
 refine lF [3] (GK.code ?_)
 refine GC.seq ?_
 refine rS [3,4] ?_
 refine GC.block ?_
 refine GC.loopE (ι:=(Int) × (Nat → Int)) (fun zi=>(fun i _=>0 ≤ i ∧ i ≤ 256) zi.1 zi.2) (fun zi=>(fun i T=>((256 - i).toNat : Nat)) zi.1 zi.2) (fun zi=>(U2) zi.1 zi.2) ((0,T0)) [0] (show (fun i _=>0 ≤ i ∧ i ≤ 256) (0) (T0) from ?_) (Ent.R rfl rfl rfl rfl) ?_
 ·dsimp only; omega
 rintro ⟨i,T⟩ hI
 change (fun i _=>0 ≤ i ∧ i ≤ 256) i T at hI
 try dsimp only at hI
 have hi:=hI
 change GC _ _ _ ((U2) i T)
 refine cF [3,4] ?_
 refine GC.seq ?_
 refine rS [3,4,14] ?_
 refine GC.cond rfl (fun hc=>?_) (fun hc=>?_)
 ·have hc : i < 256:=by simpa using hc
  refine GC.skip (GK.code (GC.seq (GC.block ?_)))
  refine rS [3,4,5] ?_
  refine rS [3,4,5,6] ?_
  refine GC.block ?_
  refine GC.loopE (ι:=(Int) × (Int) × (Nat → Int)) (fun zi=>(fun _ j _=>1 ≤ j ∧ j ≤ 8) zi.1 zi.2.1 zi.2.2) (fun zi=>(fun crc j T=>((8 - j).toNat : Nat)) zi.1 zi.2.1 zi.2.2) (fun zi=>(U3 i) zi.1 zi.2.1 zi.2.2) ((_,1,T)) [0] ?_ (Ent.R rfl rfl rfl rfl) ?_
  ·dsimp only; omega
  rintro ⟨crc,j,T⟩ hI
  change (fun _ j _=>1 ≤ j ∧ j ≤ 8) crc j T at hI
  try dsimp only at hI
  have hj:=hI
  change GC _ _ _ ((U3 i) crc j T)
  have e1:=and255 crc
  refine cF [3,4,5,6] ?_
  refine GC.seq ?_
  refine rS [3,4,5,6,24] ?_
  refine GC.cond rfl (fun hc2=>?_) (fun hc2=>?_)
  ·have hc2 : j < 8:=by simpa using hc2
   refine GC.skip (GK.code (GC.seq (GC.block ?_)))
   refine rS [3,4,5,6] ?_
   refine rG [3,4,5,6] ?_
   refine GK.code ?_
   refine rG [3,4,5,6] ?_
   refine GK.back (_,j + 1,_) [0] ?_ ?_ (Ent.R rfl rfl rfl rfl)
   ·dsimp only; omega
   ·dsimp only; omega
  ·have hc2 : ¬ (j < 8):=by simpa using hc2
   refine GC.exit ?_
   refine GK.code ?_
   refine rG [3,4] ?_
   refine GK.back (i + 1,T) [0] (show (fun i _=>0 ≤ i ∧ i ≤ 256) (i + 1) (T) from ?_) ?_ (Ent.R rfl rfl rfl rfl)
   ·dsimp only; omega
   ·dsimp only; omega
 ·have hc : ¬ (i < 256):=by simpa using hc
  refine GC.exit ?_
  refine GK.code ?_
  refine rS [2] ?_
  refine GC.ret ?_
  refine fR (.inl rfl) rfl (by trivial) T [0] rfl rfl rfl rfl (trivial)
def U4 (fe : Nat) (T F : Nat → Int) (base trn tre off m cap rn : Nat) (crc i : Int) : S:=⟨[(0,.v (.int .u32 crc)),(1,.ptr 0 base),(11,.slc 1 off m cap),(12,.v (.int .i64 m)),(13,.v (.int .i64 i))],[(0,.row ⟨.ints .u32 T,trn,tre⟩),(1,.row ⟨.ints .u8 F,rn,fe⟩)],2,[]⟩
theorem f265 (μ) {fe : Nat} (crc : Int) (T F : Nat → Int) (base trn tre off m cap rn : Nat) (hb : base + 256 ≤ trn) (hr : off + m ≤ rn) (hm : m < 1099511627776) : Fun Tryz.prog μ 265 [.v (.int .u32 crc),.ptr 0 base,.slc 1 off m cap] [(0,.row ⟨.ints .u32 T,trn,tre⟩),(1,.row ⟨.ints .u8 F,rn,fe⟩)] 2
  (fun _ : Int=>True) (fun x=>⟨.v (.int .u32 x),[(0,.row ⟨.ints .u32 T,trn,tre⟩),(1,.row ⟨.ints .u8 F,rn,fe⟩)],2⟩):=by
 refine fE 31 Tryz.func265 fun zw zβ=>?_
 refine cF [0,1,2] ?_
 refine rS [0,1,2] ?_ (hc:=(by (repeat' first | exact trivial | refine And.intro ?_ ?_) <;> first | omega | exact (and255 _).1 | exact (and255 _).2 | (unfold w8; omega) | (unfold w32; omega) | (simp only [InI64]; omega)))
 refine rS [0,1,2] ?_ (hc:=(by (repeat' first | exact trivial | refine And.intro ?_ ?_) <;> first | omega | exact (and255 _).1 | exact (and255 _).2 | (unfold w8; omega) | (unfold w32; omega) | (simp only [InI64]; omega)))
 refine GC.seq ?_
 refine rS [0,1,11,12,13] ?_ (hc:=(by (repeat' first | exact trivial | refine And.intro ?_ ?_) <;> first | omega | exact (and255 _).1 | exact (and255 _).2 | (unfold w8; omega) | (unfold w32; omega) | (simp only [InI64]; omega)))
 refine GC.block ?_
 refine GC.loopE (ι:=(Int) × (Int)) (fun zi=>(fun (_ i : Int)=>0 ≤ i ∧ i ≤ (m : Int)) zi.1 zi.2) (fun zi=>(fun crc i=>(((m : Int) - i).toNat : Nat)) zi.1 zi.2) (fun zi=>(U4 fe T F base trn tre off m cap rn) zi.1 zi.2) ((_,0)) [0,1] ?_ (Ent.R rfl rfl rfl rfl) ?_
 ·dsimp only; omega
 rintro ⟨crc,i⟩ hI
 change (fun (_ i : Int)=>0 ≤ i ∧ i ≤ (m : Int)) crc i at hI
 try dsimp only at hI
 have hi:=hI
 change GC _ _ _ ((U4 fe T F base trn tre off m cap rn) crc i)
 have e1:=w8_lt (bitZ .xor 8 (w8 crc) (F (off + i.toNat * 1)))
 refine cF [0,1,11,12,13] ?_
 refine rS [0,1,11,12,13,14] ?_
 refine GC.seq ?_
 refine GC.cond rfl (fun hc=>?_) (fun hc=>?_)
 ·have hc : i < (m : Int):=by simpa using hc
  refine GC.skip (GK.code (GC.seq (GC.block ?_)))
  refine rS [0,1,8,11,12,13] ?_
  refine rG [0,1,11,12,13] ?_
  refine GK.code ?_
  refine rG [0,1,11,12,13] ?_
  refine GK.back (_,i + 1) [0,1] ?_ ?_ (Ent.R rfl rfl rfl rfl)
  ·dsimp only; omega
  ·dsimp only; omega
 ·have hc : ¬ (i < (m : Int)):=by simpa using hc
  refine GC.exit ?_
  refine GK.code ?_
  refine rS [6] ?_ (hc:=(by (repeat' first | exact trivial | refine And.intro ?_ ?_) <;> first | omega | exact (and255 _).1 | exact (and255 _).2 | (unfold w8; omega) | (unfold w32; omega) | (simp only [InI64]; omega)))
  refine GC.ret ?_
  refine fR (.inl rfl) rfl (by (repeat' first | exact trivial | refine And.intro ?_ ?_) <;> first | omega | exact (and255 _).1 | exact (and255 _).2 | (unfold w8; omega) | (unfold w32; omega) | (simp only [InI64]; omega)) _ [0,1] rfl rfl rfl rfl (trivial)
def U5 (fe : Nat) (T F : Nat → Int) (rn : Nat) (crc : Int) (o l c : Nat) : S:=⟨[(0,.v (.int .u32 crc)),(1,.ptr 0 0),(2,.slc 1 o l c)],[(0,.row ⟨.ints .u32 T,2048,445⟩),(1,.row ⟨.ints .u8 F,rn,fe⟩)],2,[]⟩
structure IU (off m : Nat) (crc : Int) (o l c : Nat) : Prop where
 hx : 0 ≤ crc ∧ crc < 4294967296
 hl : l ≤ m ∧ off ≤ o ∧ o + l ≤ off + m
 hc : l ≤ c
set_option maxHeartbeats 16000000 in
theorem f262 (μ) {fe : Nat} (crc : Int) (T F : Nat → Int) (off m cap rn : Nat) (hr : off + m ≤ rn) (hm : m < 1099511627776) (hc : m ≤ cap) (hF : ∀ j,off ≤ j → j < off + m → 0 ≤ F j ∧ F j < 256) : Fun Tryz.prog μ 262 [.v (.int .u32 crc),.ptr 0 0,.slc 1 off m cap] [(0,.row ⟨.ints .u32 T,2048,445⟩),(1,.row ⟨.ints .u8 F,rn,fe⟩)] 2
  (fun _ : Int=>True) (fun x=>⟨.v (.int .u32 x),[(0,.row ⟨.ints .u32 T,2048,445⟩),(1,.row ⟨.ints .u8 F,rn,fe⟩)],2⟩):=by
 refine fE 102 Tryz.func262 fun zw zβ=>?_
 refine cF [0,1,2] ?_
 refine rS [0,1,2] ?_
 refine GC.seq ?_
 refine rS [0,1,2,9] ?_
 refine GC.cond rfl (fun hc0=>?_) (fun hc0=>?_)
 ·refine rS [0,1,2] ?_
  refine GC.seq (GC.block ?_)
  refine GC.loopE (ι:=(Int) × (Nat) × (Nat) × (Nat)) (fun zi=>(IU off m) zi.1 zi.2.1 zi.2.2.1 zi.2.2.2) (fun zi=>(fun crc o l c=>(l : Nat)) zi.1 zi.2.1 zi.2.2.1 zi.2.2.2) (fun zi=>(U5 fe T F rn) zi.1 zi.2.1 zi.2.2.1 zi.2.2.2) ((_,off,m,cap)) [0,1] (show (IU off m) (_) (off) (m) (cap) from ?_) (Ent.R rfl rfl rfl rfl) ?_
  ·refine ⟨?_,by omega,hc⟩
   omega
  rintro ⟨crc,o,l,c⟩ hI
  change (IU off m) crc o l c at hI
  obtain ⟨hx,hl,hc1⟩:=hI
  change GC _ _ _ ((U5 fe T F rn) crc o l c)
  refine cF [0,1,2] ?_
  refine GC.seq ?_
  refine rS [0,1,2,14] ?_
  refine GC.cond rfl (fun hc2=>?_) (fun hc2=>?_)
  ·have hc2 : (8 : Int) < (l : Int):=by simpa using hc2
   have hb7:=hF (o + 7 * 1) (by omega) (by omega)
   have hb6:=hF (o + 6 * 1) (by omega) (by omega)
   have hb5:=hF (o + 5 * 1) (by omega) (by omega)
   have hb4:=hF (o + 4 * 1) (by omega) (by omega)
   refine GC.skip (GK.code (GC.block (GL.seqR ?_)))
   refine lK 2 [1,2,15,16] ?_
   refine GL.op rfl (cR rfl (f264 _ F _ _ _ _ _ (by omega) (by omega)) [1] rfl rfl rfl rfl fun x _=>?_)
   refine gF [1,2,15,17] rfl ?_
   refine lF [0,1,2] (GK.code ?_)
   refine GC.abs 0 rfl (fun _=>rfl) fun x' hx'=>?_
   have hx2 : 0 ≤ x' ∧ x' < 4294967296:=by rw [hx']; unfold w32; omega
   have e1:=and255 x'
   have e2:=and255 (x' / 256)
   have e3:=and255 (x' / 65536)
   refine GC.seq (GC.draw [(0,0),(1,0),(2,0),(4,0),(5,0),(8,0),(9,0),(10,0),(12,0),(13,0),(17,0),(18,0),(19,0),(21,0),(22,0),(26,0),(27,0),(28,0),(30,0),(31,0),(35,0),(36,0),(37,0),(38,0),(39,0),(40,0),(43,0),(44,0),(45,0),(46,0),(47,0),(48,0),(49,0),(52,0),(53,0),(54,0),(55,0),(56,0),(57,0),(58,0),(61,0),(62,0),(63,0),(64,0),(65,0),(66,0),(3,1),(6,0),(7,1),(11,1),(14,0),(15,1),(16,0),(20,1),(23,0),(24,1),(25,0),(29,1),(32,0),(33,1),(34,0),(41,1),(42,0),(50,1),(51,0),(59,1),(60,0),(67,1),(68,0),(69,0)] mixed (by kernel_rfl) (by rintro _ _ _ _ ⟨_,_,_,_,h,_⟩ _; cases h) ?_)
   refine wF [0,1,2] (GK.code ?_)
   refine rG [0,1,2] ?_
   refine GK.back (_,offS c 8 o 1,l - 8,c - 8) [0,1] (show (IU off m) (_) (offS c 8 o 1) (l - 8) (c - 8) from ?_) ?_ (Ent.R rfl rfl rfl rfl)
   ·have h1:=offS1_ge c 8 o
    have h2:=offS1_le c 8 o
    refine ⟨?_,by omega,by omega⟩
    omega
   ·dsimp only; omega
  ·have hc2 : ¬ ((8 : Int) < (l : Int)):=by simpa using hc2
   refine GC.exit ?_
   refine GK.code ?_
   refine rG [0,1,2] ?_
   refine GK.code (GC.seq ?_)
   refine rS [0,1,2,94] ?_
   refine GC.cond rfl (fun hc3=>?_) (fun hc3=>?_)
   ·refine rS [6] ?_
    refine GC.ret ?_
    refine fR (.inl rfl) rfl (by trivial) _ [0,1] rfl rfl rfl rfl (trivial)
   ·refine GC.skip (GK.code (GL.seqR ?_))
    refine lK 5 [96,99,100] ?_
    refine GL.op rfl (cR rfl (f265 _ _ T F _ _ _ _ _ _ _ (by omega) (by omega) (by omega)) [0,1] rfl rfl rfl rfl fun y _=>?_)
    refine gF [101] rfl ?_
    refine lF [6] (GK.code ?_)
    refine GC.ret ?_
    refine fR (.inl rfl) rfl (by trivial) _ [0,1] rfl rfl rfl rfl (trivial)
 ·refine GC.skip (GK.code (GC.seq ?_))
  refine rS [0,1,2,94] ?_
  refine GC.cond rfl (fun hc3=>?_) (fun hc3=>?_)
  ·refine rS [6] ?_
   refine GC.ret ?_
   refine fR (.inl rfl) rfl (by trivial) _ [0,1] rfl rfl rfl rfl (trivial)
  ·refine GC.skip (GK.code (GL.seqR ?_))
   refine lK 5 [96,99,100] ?_
   refine GL.op rfl (cR rfl (f265 _ _ T F _ _ _ _ _ _ _ (by omega) (by omega) (by omega)) [0,1] rfl rfl rfl rfl fun y _=>?_)
   refine gF [101] rfl ?_
   refine lF [6] (GK.code ?_)
   refine GC.ret ?_
   refine fR (.inl rfl) rfl (by trivial) _ [0,1] rfl rfl rfl rfl (trivial)
theorem f261 (μ) {fe : Nat} (crc : Int) (F : Nat → Int) (off m cap rn : Nat) (hr : off + m ≤ rn) (hm : m < 1099511627776) (hc : m ≤ cap) (hF : ∀ j,off ≤ j → j < off + m → 0 ≤ F j ∧ F j < 256) : Fun Tryz.prog μ 261 [.v (.int .u32 crc),.slc 0 off m cap] [(0,.row ⟨.ints .u8 F,rn,fe⟩)] 1
  (fun _ : Int × (Nat → Int)=>True) (fun x=>⟨.v (.int .u32 x.1),[(0,.row ⟨.ints .u8 F,rn,fe⟩)],1⟩):=by
 refine fE 9 Tryz.func261 fun zw zβ=>?_
 refine cF [0,1] ?_
 refine rS [0,1] ?_
 refine GL.seqR ?_
 refine lK 1 [1,5] ?_
 refine GL.op rfl (cR rfl (f263 _ _) [] rfl rfl rfl rfl fun T _=>?_)
 refine gF [1,5,6] rfl ?_
 refine lK 1 [5,6,7] ?_
 refine GL.op rfl (cR rfl (f262 _ _ T F _ _ _ _ hr hm hc hF) [1,0] rfl rfl rfl rfl fun x _=>?_)
 refine gF [8] rfl ?_
 refine lF [4] (GK.code ?_)
 refine GC.ret ?_
 refine fR (.inl rfl) rfl (by trivial) ((_,T)) [0] rfl rfl rfl rfl (trivial)
def crcR (x : Int) : Row:=⟨.lst [.v (.int .u32 x)],1,103⟩
theorem f256 (μ) (x : Int) : Fun Tryz.prog μ 256 [.ptr 0 0] [(0,.row (crcR x))] 1 (fun _ : Unit=>True) (fun _=>⟨.tup [],[(0,.row (crcR 0))],1⟩):=by
 refine fE 5 Tryz.func256 fun zw zβ=>?_
 refine cF [0] ?_
 refine rG [] ?_
 refine fR (.inr rfl) rfl (by trivial) () [0] rfl rfl rfl rfl (trivial)
theorem f259 (μ) (x : Int) : Fun Tryz.prog μ 259 [.ptr 0 0] [(0,.row (crcR x))] 1 (fun _ : Unit=>True) (fun _=>⟨.v (.int .u32 x),[(0,.row (crcR x))],1⟩):=by
 refine fE 7 Tryz.func259 fun zw zβ=>?_
 refine cF [0] ?_
 refine rS [0] ?_
 refine rS [2] ?_
 refine GC.ret ?_
 refine fR (.inl rfl) rfl (by trivial) () [0] rfl rfl rfl rfl (trivial)
theorem f260 (μ) {fe : Nat} (crc : Int) (F : Nat → Int) (off m cap rn : Nat) (hr : off + m ≤ rn) (hm : m < 1099511627776) (hc : m ≤ cap) (hF : ∀ j,off ≤ j → j < off + m → 0 ≤ F j ∧ F j < 256) : Fun Tryz.prog μ 260 [.ptr 0 0,.slc 1 off m cap] [(0,.row (crcR crc)),(1,.row ⟨.ints .u8 F,rn,fe⟩)] 2
  (fun _ : Int=>True) (fun x=>⟨.tup [.v (.int .i64 m),.v .nilIface],[(0,.row (crcR x)),(1,.row ⟨.ints .u8 F,rn,fe⟩)],2⟩):=by
 refine fE 17 Tryz.func260 fun zw zβ=>?_
 refine cF [0,1] ?_
 refine rS [0,1] ?_
 refine GL.seqR ?_
 refine lK 6 [1,6,10,11] ?_
 refine GL.op rfl (cR rfl (f261 _ _ F _ _ _ _ hr hm hc hF) [1] rfl rfl rfl rfl fun x _=>?_)
 refine gF [1,6,12] rfl ?_
 refine lF [1] (GK.code ?_)
 refine rS [4,5] ?_
 refine GC.ret ?_
 refine fR (.inl rfl) rfl (by trivial) _ [0,1] rfl rfl rfl rfl (trivial)
def rdR (b : Nat) (rd : SV) (r w lb lr : Int) : Row:=⟨.lst [.slc b 0 4096 4096,rd,.v (.int .i64 r),.v (.int .i64 w),.v .nilIface,.v (.int .i64 lb),.v (.int .i64 lr)],7,273⟩
def brR (d N cap : Nat) (i pr : Int) : Row:=⟨.lst [.slc d 0 N cap,.v (.int .i64 i),.v (.int .i64 pr)],3,118⟩
theorem f250 (μ) {fe : Nat} (B D : Nat → Int) (rn N cap doff m dcap drn : Nat) (i pr : Int) (h0 : 0 ≤ i) (hi : i < N) (hN : N ≤ rn) (hcap : N ≤ cap) (hN2 : N < 1099511627776) (hd : doff + m ≤ drn) :
  Fun Tryz.prog μ 250 [.ptr 0 0,.slc 2 doff m dcap] [(0,.row (brR 1 N cap i pr)),(1,.row ⟨.ints .u8 B,rn,5⟩),(2,.row ⟨.ints .u8 D,drn,fe⟩)] 3
  (fun x : Nat × (Nat → Int)=>x.1 = min (N - i.toNat) m ∧ ∀ j,x.2 j = if doff ≤ j ∧ j < doff + x.1 then B (i.toNat + (j - doff)) else D j)
  (fun x=>⟨.tup [.v (.int .i64 (x.1 : Nat)),.v .nilIface],[(0,.row (brR 1 N cap (i + (x.1 : Nat)) (-1))),(1,.row ⟨.ints .u8 B,rn,5⟩),(2,.row ⟨.ints .u8 x.2,drn,fe⟩)],3⟩):=by
 refine fE 39 Tryz.func250 fun zw zβ=>?_
 refine cF [0,1] ?_
 refine rS [0,1,5] ?_
 refine GC.seq ?_
 refine GC.seq (GC.draw [(0,0),(1,0),(2,0),(4,0),(5,0),(6,0),(3,1),(7,1),(8,0),(9,0)] mixed (by kernel_rfl) (by rintro _ _ _ _ ⟨_,_,_,_,h,_⟩ _; cases h) ?_)
 refine wF [0,1,5,15] (GK.code ?_)
 refine GC.cond rfl (fun hc=>?_) (fun hc=>?_)
 ·have hc : (N : Int) ≤ i:=by simpa using hc
  omega
 ·have hc : ¬ ((N : Int) ≤ i):=by simpa using hc
  refine GC.skip (GK.code ?_)
  refine rS [0,1,5] ?_
  refine GC.seq (GC.draw [(0,0),(1,0),(2,0),(3,0),(5,0),(6,0),(7,0),(4,1),(8,1),(9,0),(10,2),(11,0)] mixed (by kernel_rfl) (by rintro _ _ _ _ ⟨_,_,_,_,h,_⟩ _; cases h) ?_)
  refine wK 10 [0,5,20,29] ?_
  refine GW.op rfl rfl (OpW.copyI (m:=N - i.toNat) (N:=fun j=>B (offS cap i.toNat 0 1 + j)) rfl rfl rfl rfl rfl rfl (hd) (src_slc rfl rfl (by have:=offS1_le cap i.toNat 0; show offS cap i.toNat 0 1 + (N - i.toNat) * 1 ≤ rn; omega) (fun j hj=>rfl)) rfl ?_)
  refine wL [0,5,30] rfl ?_
  refine wF [0,4,5] (GK.code ?_)
  refine rS [4,5] ?_
  refine GC.ret ?_
  refine fR (.inl rfl) rfl (by trivial) ((min (N - i.toNat) m,cpI D (fun j=>B (offS cap i.toNat 0 1 + j)) doff (min (N - i.toNat) m))) [0,1,2] rfl rfl rfl rfl (⟨rfl,fun j=>?_⟩)
  dsimp only
  unfold cpI
  rw [offS_lt (by omega),Nat.zero_add]
theorem f253_0 (μ) (B : Nat → Int) (rn N cap : Nat) (i pr p : Int) (h : 0 ≤ p) : Fun Tryz.prog μ 253 [.ptr 0 0,.v (.int .i64 p),.v (.int .i64 0)] [(0,.row (brR 1 N cap i pr)),(1,.row ⟨.ints .u8 B,rn,5⟩)] 2
  (fun _ : Unit=>True) (fun _=>⟨.tup [.v (.int .i64 p),.v .nilIface],[(0,.row (brR 1 N cap p (-1))),(1,.row ⟨.ints .u8 B,rn,5⟩)],2⟩):=by
 refine fE 42 Tryz.func253 fun zw zβ=>?_
 refine cF [0,1,2] ?_
 refine rS [0,1,2] ?_
 refine rS [0,1,2] ?_
 refine rS [0,1,2] ?_
 refine GC.seq ?_
 refine rS [0,1,12] ?_
 refine GC.block ?_
 refine rS [0,1,12,14] ?_
 refine GC.condT rfl ?_
 refine rG [0,8] ?_
 refine GK.code (GC.seq ?_)
 refine rS [0,8,35] ?_
 refine GC.cond rfl (fun hc=>?_) (fun hc=>?_)
 ·have hc : p < 0:=by simpa using hc
  omega
 ·have hc : ¬ (p < 0):=by simpa using hc
  refine GC.skip (GK.code ?_)
  refine rS [8] ?_
  refine rS [6,7] ?_
  refine GC.ret ?_
  refine fR (.inl rfl) rfl (by trivial) () [0,1] rfl rfl rfl rfl (trivial)
theorem f253_1 (μ) (B : Nat → Int) (rn N cap : Nat) (i pr : Int) (h : 0 ≤ i) (h2 : i < 1099511627776) : Fun Tryz.prog μ 253 [.ptr 0 0,.v (.int .i64 0),.v (.int .i64 1)] [(0,.row (brR 1 N cap i pr)),(1,.row ⟨.ints .u8 B,rn,5⟩)] 2
  (fun j : Int=>j = i) (fun j=>⟨.tup [.v (.int .i64 j),.v .nilIface],[(0,.row (brR 1 N cap j (-1))),(1,.row ⟨.ints .u8 B,rn,5⟩)],2⟩):=by
 refine fE 42 Tryz.func253 fun zw zβ=>?_
 refine cF [0,1,2] ?_
 refine rS [0,1,2] ?_
 refine rS [0,1,2] ?_
 refine rS [0,1,2] ?_
 refine GC.seq ?_
 refine rS [0,1,12] ?_
 refine GC.block ?_
 refine rS [0,1,12,14] ?_
 refine GC.condF rfl ?_
 refine rS [0,1,12,17] ?_
 refine GC.condT rfl ?_
 refine rG [0,8] ?_
 refine GK.code (GC.seq ?_)
 refine rS [0,8,35] ?_
 refine GC.cond rfl (fun hc=>?_) (fun hc=>?_)
 ·have hc : i < 0:=by simpa using hc
  omega
 ·have hc : ¬ (i < 0):=by simpa using hc
  refine GC.skip (GK.code ?_)
  refine rS [8] ?_
  refine rS [6,7] ?_
  refine GC.ret ?_
  refine fR (.inl rfl) rfl (by trivial) (i + 0) [0,1] rfl rfl rfl rfl (Int.add_zero i)
theorem f133 (μ) (rd : SV) (hrd : rd = .v .nilIface ∨ rd = .ifc 71 (.ptr 2 0)) (r w lb lr i pr : Int) (Bf B : Nat → Int) (rn N cap : Nat) : Fun Tryz.prog μ 133 [.ptr 0 0,.slc 1 0 4096 4096,.ifc 71 (.ptr 2 0)] [(0,.row (rdR 1 rd r w lb lr)),(1,.row ⟨.ints .u8 Bf,4096,5⟩),(2,.row (brR 3 N cap i pr)),(3,.row ⟨.ints .u8 B,rn,5⟩)] 4
  (fun _ : Unit=>True) (fun _=>⟨.tup [],[(0,.row (rdR 1 (.ifc 71 (.ptr 2 0)) 0 0 (-1) (-1))),(1,.row ⟨.ints .u8 Bf,4096,5⟩),(2,.row (brR 3 N cap i pr)),(3,.row ⟨.ints .u8 B,rn,5⟩)],4⟩):=by
 rcases hrd with rfl | rfl
 all_goals
  refine fE 11 Tryz.func133 fun zw zβ=>?_
  refine cF [0,1,2] ?_
  refine rG [] ?_
  refine fR (.inr rfl) rfl (by trivial) () [0,1,2,3] rfl rfl rfl rfl (trivial)
theorem f133z (μ) (Bf : Nat → Int) : Fun Tryz.prog μ 133 [.ptr 0 0,.slc 1 0 4096 4096,.v .nilIface] [(0,.row ⟨.lst [.v (.slice none 0 0),.v .nilIface,.v (.int .i64 0),.v (.int .i64 0),.v .nilIface,.v (.int .i64 0),.v (.int .i64 0)],7,273⟩),(1,.row ⟨.ints .u8 Bf,4096,5⟩)] 2
  (fun _ : Unit=>True) (fun _=>⟨.tup [],[(0,.row (rdR 1 (.v .nilIface) 0 0 (-1) (-1))),(1,.row ⟨.ints .u8 Bf,4096,5⟩)],2⟩):=by
 refine fE 11 Tryz.func133 fun zw zβ=>?_
 refine cF [0,1,2] ?_
 refine rG [] ?_
 refine fR (.inr rfl) rfl (by trivial) () [0,1] rfl rfl rfl rfl (trivial)
theorem f100 (μ) : Fun Tryz.prog μ 100 [.v .nilIface,.v (.int .i64 4096)] [] 0 (fun _ : Unit=>True) (fun _=>⟨.ptr 0 0,[(0,.row (rdR 1 (.v .nilIface) 0 0 (-1) (-1))),(1,.row ⟨.ints .u8 fun _=>0,4096,5⟩)],2⟩):=by
 refine fE 32 Tryz.func100 fun zw zβ=>?_
 refine cF [0,1,15,16,17,18,19,20,21] ?_
 refine rS [0,1,15,16,17,18,19,20,21] ?_
 refine GL.seqR ?_
 refine lK 1 [0,1,9,15,16,17,18,19,20,21] ?_
 refine GL.vstep rfl (VStep.assertN (z:=.pointer none) rfl rfl rfl (fun _=>by kernel_rfl)) rfl (GL.force [0,1,10,15,16,17,18,19,20,21] rfl ?_)
 refine lF [0,1,5,6,15,16,17,18,19,20,21] (GK.code ?_)
 refine GC.seq ?_
 refine rS [0,1,5,22] ?_
 refine GC.condF rfl (GC.skip (GK.code ?_))
 refine rS [0,1,7] ?_
 refine GL.seqR ?_
 refine lK 2 [0,7,25,26] ?_
 refine GL.vstep rfl (VStep.minmax rfl rfl rfl (r:=.int .i64 4096) (fun w cs=>rfl)) rfl (GL.force [0,7,25,27] rfl ?_)
 refine GL.op rfl (OpW.makeI (k:=.u8) rfl rfl rfl rfl rfl (by decide) (by decide) (by decide) (by show ((1 : Nat) : Int) * 4096 ≤ 281474976710656; decide) rfl rfl rfl ?_)
 refine gF [0,7,25,28] rfl ?_
 refine lK 1 [7,25,28,29] ?_
 refine GL.op rfl (cR rfl (f133z _ _) [0,1] rfl rfl rfl rfl fun _ _=>?_)
 refine gF [7] rfl ?_
 refine lF [7] (GK.code ?_)
 refine rS [4] ?_
 refine GC.ret ?_
 refine fR (.inl rfl) rfl (by trivial) () [0,1] rfl rfl rfl rfl (trivial)
theorem f58 (μ) : Fun Tryz.prog μ 58 [.v .nilIface] [] 0 (fun _ : Unit=>True) (fun _=>⟨.ptr 0 0,[(0,.row (rdR 1 (.v .nilIface) 0 0 (-1) (-1))),(1,.row ⟨.ints .u8 fun _=>0,4096,5⟩)],2⟩):=by
 refine fE 5 Tryz.func58 fun zw zβ=>?_
 refine cF [0] ?_
 refine rS [0] ?_
 refine GL.seqR ?_
 refine lK 1 [3] ?_
 refine GL.op rfl (cR rfl (f100 _) [] rfl rfl rfl rfl fun _ _=>?_)
 refine gF [4] rfl ?_
 refine lF [2] (GK.code ?_)
 refine GC.ret ?_
 refine fR (.inl rfl) rfl (by trivial) () [0,1] rfl rfl rfl rfl (trivial)
theorem f101 (μ) (rd : SV) (hrd : rd = .v .nilIface ∨ rd = .ifc 71 (.ptr 2 0)) (r w lb lr i pr : Int) (Bf B : Nat → Int) (rn N cap : Nat) : Fun Tryz.prog μ 101 [.ptr 0 0,.ifc 71 (.ptr 2 0)] [(0,.row (rdR 1 rd r w lb lr)),(1,.row ⟨.ints .u8 Bf,4096,5⟩),(2,.row (brR 3 N cap i pr)),(3,.row ⟨.ints .u8 B,rn,5⟩)] 4
  (fun _ : Unit=>True) (fun _=>⟨.tup [],[(0,.row (rdR 1 (.ifc 71 (.ptr 2 0)) 0 0 (-1) (-1))),(1,.row ⟨.ints .u8 Bf,4096,5⟩),(2,.row (brR 3 N cap i pr)),(3,.row ⟨.ints .u8 B,rn,5⟩)],4⟩):=by
 have hrd0:=hrd
 rcases hrd with rfl | rfl
 all_goals
  refine fE 24 Tryz.func101 fun zw zβ=>?_
  refine cF [0,1] ?_
  refine GC.seq (GL.seqR ?_)
  refine lK 3 [0,1,5,6] ?_
  refine GL.vstep rfl (VStep.eqI (r:=false) rfl (.inl rfl) rfl (fun β u v h1 h2=>by cases h1; cases h2; exact .ty _ _ rfl)) rfl (GL.force [0,1,7] rfl ?_)
  refine lF [0,1,7] (GK.code ?_)
  refine GC.condF rfl (GC.skip (GK.code (GC.seq (GL.seqR ?_))))
  refine lK 4 [0,1,11] ?_
  refine GL.vstep rfl (VStep.eqNilS rfl (.inl rfl) rfl rfl (by decide)) rfl (GL.force [0,1,12] rfl ?_)
  refine lF [0,1,12] (GK.code ?_)
  refine GC.condF rfl (GC.skip (GK.code (GC.region ?_)))
  refine lK 6 [17,21,22] ?_
  refine GL.op rfl (cR rfl (f133 _ _ hrd0 _ _ _ _ _ _ Bf B _ _ _) [0,1,2,3] rfl rfl rfl rfl fun _ _=>?_)
  refine gF [] rfl ?_
  refine lF [] ?_
  refine fR (.inr rfl) rfl (by trivial) () [0,1,2,3] rfl rfl rfl rfl (trivial)
theorem f188 (μ) (r w lb lr i pr : Int) (Bf B : Nat → Int) (rn N cap : Nat) : Fun Tryz.prog μ 188 [.ptr 0 0] [(0,.row (rdR 1 (.ifc 71 (.ptr 2 0)) r w lb lr)),(1,.row ⟨.ints .u8 Bf,4096,5⟩),(2,.row (brR 3 N cap i pr)),(3,.row ⟨.ints .u8 B,rn,5⟩)] 4
  (fun _ : Unit=>True) (fun _=>⟨.v .nilIface,[(0,.row (rdR 1 (.ifc 71 (.ptr 2 0)) r w lb lr)),(1,.row ⟨.ints .u8 Bf,4096,5⟩),(2,.row (brR 3 N cap i pr)),(3,.row ⟨.ints .u8 B,rn,5⟩)],4⟩):=by
 refine fE 12 Tryz.func188 fun zw zβ=>?_
 refine cF [0] ?_
 refine rS [0] ?_
 refine rS [0,3] ?_
 refine rS [3] ?_
 refine rS [2] ?_
 refine GC.ret ?_
 refine fR (.inl rfl) rfl (by trivial) () [0,1,2,3] rfl rfl rfl rfl (trivial)
structure RdI where
 r : Int
 w : Int
 lb : Int
 lr : Int
 i : Int
 pr : Int
 Bf : Nat → Int
structure Rd (B : Nat → Int) (N p : Nat) (s : RdI) : Prop where
 hr : 0 ≤ s.r ∧ s.r ≤ s.w ∧ s.w ≤ 4096
 hi : s.i = p + (s.w - s.r) ∧ s.i ≤ N
 hb : ∀ j : Nat,s.r ≤ j → (j : Int) < s.w → s.Bf j = B (p + (j - s.r.toNat))
def rdG (B : Nat → Int) (rn N cap : Nat) (s : RdI) : GH:=[(0,.row (rdR 1 (.ifc 71 (.ptr 2 0)) s.r s.w s.lb s.lr)),(1,.row ⟨.ints .u8 s.Bf,4096,5⟩),(2,.row (brR 3 N cap s.i s.pr)),(3,.row ⟨.ints .u8 B,rn,5⟩)]
theorem m71 : IsMeth Tryz.prog 71 "Read" 250:=fun v w=>by kernel_rfl
theorem f189 (μ) (B : Nat → Int) (rn N cap p : Nat) (s : RdI) (hs : Rd B N p s) (he : s.r = s.w) (hp : p < N) (hN : N ≤ rn) (hcap : N ≤ cap) (hN2 : N < 1099511627776) : Fun Tryz.prog μ 189 [.ptr 0 0] (rdG B rn N cap s) 4
  (fun t : RdI=>Rd B N p t ∧ t.r < t.w) (fun t=>⟨.tup [],rdG B rn N cap t,4⟩):=by
 obtain ⟨r,w,lb,lr,i,pr,Bf⟩:=s
 obtain ⟨⟨h1,h2,h3⟩,⟨h4,h5⟩,h6⟩:=hs
 dsimp only at h1 h2 h3 h4 h5 h6 he
 subst he
 dsimp only [rdG]
 refine fE 99 Tryz.func189 fun zw zβ=>?_
 refine cF [0] ?_
 refine GC.seq ?_
 refine rS [0,9] ?_
 refine GC.cond rfl (fun hc=>?_) (fun hc=>?_)
 ·have hc : 0 < r:=by simpa using hc
  refine GC.seq (GC.draw [(0,0),(1,0),(2,0),(4,0),(5,0),(6,0),(8,0),(9,0),(10,0),(12,0),(13,0),(14,0),(3,1),(7,1),(11,1),(15,1),(16,0),(17,2)] mixed (by kernel_rfl) (by rintro _ _ _ _ ⟨_,_,_,_,h,_⟩ _; cases h) ?_)
  refine wK 17 [0,13,26] ?_
  refine GW.op rfl rfl (OpW.copyI (m:=r.toNat - r.toNat) (N:=fun j=>Bf (offS 4096 r.toNat 0 1 + j)) rfl rfl rfl rfl rfl rfl (by omega) (src_slc rfl rfl (by have:=offS1_le 4096 r.toNat 0; show offS 4096 r.toNat 0 1 + (r.toNat - r.toNat) * 1 ≤ 4096; omega) (fun j hj=>rfl)) rfl ?_)
  refine wL [0] rfl ?_
  refine wF [0] (GK.code ?_)
  refine GC.seq (GC.draw [(0,0),(1,0),(2,0),(4,0),(5,0),(6,0),(3,1),(7,1),(8,0),(9,0),(10,0),(11,2)] mixed (by kernel_rfl) (by rintro _ _ _ _ ⟨_,_,_,_,h,_⟩ _; cases h) ?_)
  refine wF [0] (GK.code ?_)
  refine rG [0] ?_
  refine GK.code (GC.seq ?_)
  refine GC.seq (GC.draw [(0,0),(1,0),(2,0),(4,0),(5,0),(6,0),(3,1),(7,1),(8,0),(9,0)] mixed (by kernel_rfl) (by rintro _ _ _ _ ⟨_,_,_,_,h,_⟩ _; cases h) ?_)
  refine wF [0,51] (GK.code ?_)
  refine GC.cond rfl (fun hc2=>?_) (fun hc2=>?_)
  ·have hc2 : 4096 ≤ r - r:=by simpa using hc2
   omega
  ·have hc2 : ¬ (4096 ≤ r - r):=by simpa using hc2
   refine GC.skip (GK.code (GC.seq ?_))
   refine rS [0,2] ?_
   refine GC.block ?_
   refine GC.loop0 ?_
   refine GC.seq ?_
   refine rS [0,2,54] ?_
   refine GC.condT rfl (GC.skip (GK.code (GC.seq (GC.block ?_))))
   refine GC.seq (GC.draw [(0,0),(1,0),(2,0),(4,0),(5,0),(6,0),(8,0),(9,0),(10,0),(3,1),(13,0),(14,0),(7,1),(11,1),(12,0),(15,2),(16,0),(17,0),(18,0),(19,0),(20,0)] mixed (by kernel_rfl) (by rintro _ _ _ _ ⟨_,_,_,_,h,_⟩ _; cases h) ?_)
   refine wK 15 [0,2,70,72] ?_
   refine GW.op rfl rfl (iR rfl rfl (m71) (f250 _ B _ _ _ _ _ _ _ _ _ _ (by omega) (by omega) hN hcap hN2 (by have:=offS1_le 4096 (r - r).toNat 0; omega)) [2,3,1] rfl rfl rfl rfl fun x hx=>?_)
   obtain ⟨n,D⟩:=x
   obtain ⟨hx1,hx2⟩:=hx
   dsimp only at hx1 hx2
   dsimp only
   refine wL [0,2,73] rfl ?_
   refine wF [0,2,3,4] (GK.code ?_)
   refine GC.seq ?_
   refine rS [0,2,3,4,77] ?_
   refine GC.cond rfl (fun hn=>?_) (fun hn=>?_)
   ·have hn : (n : Int) < 0:=by simpa using hn
    omega
   ·have hn : ¬ ((n : Int) < 0):=by simpa using hn
    refine GC.skip (GK.code ?_)
    refine rS [0,2,3,4] ?_
    refine GC.seq ?_
    refine rS [0,2,3,4,88] ?_
    refine GC.condF rfl (GC.skip (GK.code ?_))
    refine rS [0,2,94] ?_
    refine GC.cond rfl (fun hn2=>?_) (fun hn2=>?_)
    ·have hn2 : 0 < (n : Int):=by simpa using hn2
     refine GC.ret ?_
     refine fR (.inl rfl) rfl (by trivial) ⟨_,_,_,_,_,_,_⟩ [0,1,2,3] rfl rfl rfl rfl (⟨⟨?_,?_,?_⟩,?_⟩)
     ·dsimp only; omega
     ·dsimp only; omega
     ·dsimp only
      intro j hj hj2
      rw [hx2 j,if_pos]
      ·congr 1
       have:=offS1_le 4096 (r - r).toNat 0
       have h9 : offS 4096 (r - r).toNat 0 1 = 0:=by rw [show (r - r).toNat = 0 from by omega]; rfl
       rw [h9]; omega
      ·have h9 : offS 4096 (r - r).toNat 0 1 = 0:=by rw [show (r - r).toNat = 0 from by omega]; rfl
       rw [h9]; omega
     ·dsimp only; omega
    ·have hn2 : ¬ (0 < (n : Int)):=by simpa using hn2
     omega
 ·have hc : ¬ (0 < r):=by simpa using hc
  obtain rfl : r = 0:=by omega
  refine GC.skip (GK.code (GC.seq ?_))
  refine GC.seq (GC.draw [(0,0),(1,0),(2,0),(4,0),(5,0),(6,0),(3,1),(7,1),(8,0),(9,0)] mixed (by kernel_rfl) (by rintro _ _ _ _ ⟨_,_,_,_,h,_⟩ _; cases h) ?_)
  refine wF [0,51] (GK.code ?_)
  refine GC.condF rfl (GC.skip (GK.code (GC.seq ?_)))
  refine rS [0,2] ?_
  refine GC.block ?_
  refine GC.loop0 ?_
  refine GC.seq ?_
  refine rS [0,2,54] ?_
  refine GC.condT rfl (GC.skip (GK.code (GC.seq (GC.block ?_))))
  refine GC.seq (GC.draw [(0,0),(1,0),(2,0),(4,0),(5,0),(6,0),(8,0),(9,0),(10,0),(3,1),(13,0),(14,0),(7,1),(11,1),(12,0),(15,2),(16,0),(17,0),(18,0),(19,0),(20,0)] mixed (by kernel_rfl) (by rintro _ _ _ _ ⟨_,_,_,_,h,_⟩ _; cases h) ?_)
  refine wK 15 [0,2,70,72] ?_
  refine GW.op rfl rfl (iR rfl rfl (m71) (f250 _ B _ _ _ _ _ _ _ _ _ _ (by omega) (by omega) hN hcap hN2 (by have:=offS1_le 4096 (0 : Int).toNat 0; omega)) [2,3,1] rfl rfl rfl rfl fun x hx=>?_)
  obtain ⟨n,D⟩:=x
  obtain ⟨hx1,hx2⟩:=hx
  dsimp only at hx1 hx2
  dsimp only
  refine wL [0,2,73] rfl ?_
  refine wF [0,2,3,4] (GK.code ?_)
  refine GC.seq ?_
  refine rS [0,2,3,4,77] ?_
  refine GC.cond rfl (fun hn=>?_) (fun hn=>?_)
  ·have hn : (n : Int) < 0:=by simpa using hn
   omega
  ·have hn : ¬ ((n : Int) < 0):=by simpa using hn
   refine GC.skip (GK.code ?_)
   refine rS [0,2,3,4] ?_
   refine GC.seq ?_
   refine rS [0,2,3,4,88] ?_
   refine GC.condF rfl (GC.skip (GK.code ?_))
   refine rS [0,2,94] ?_
   refine GC.cond rfl (fun hn2=>?_) (fun hn2=>?_)
   ·have hn2 : 0 < (n : Int):=by simpa using hn2
    refine GC.ret ?_
    refine fR (.inl rfl) rfl (by trivial) ⟨_,_,_,_,_,_,_⟩ [0,1,2,3] rfl rfl rfl rfl (⟨⟨?_,?_,?_⟩,?_⟩)
    ·dsimp only; omega
    ·dsimp only; omega
    ·dsimp only
     intro j hj hj2
     rw [hx2 j,if_pos]
     ·congr 1
      have:=offS1_le 4096 (0 : Int).toNat 0
      have h9 : offS 4096 (0 : Int).toNat 0 1 = 0:=by rw [show (0 : Int).toNat = 0 from by omega]; rfl
      rw [h9]; omega
     ·have h9 : offS 4096 (0 : Int).toNat 0 1 = 0:=by rw [show (0 : Int).toNat = 0 from by omega]; rfl
      rw [h9]; omega
    ·dsimp only; omega
   ·have hn2 : ¬ (0 < (n : Int)):=by simpa using hn2
    omega
end Go.Proofs.YtebadfmnmhmfeaaGreatDoor.T
