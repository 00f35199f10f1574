/- What the functions of the program do, one contract each (P8, P9, P10, P11, P12); each states its own conditions. -/
import Derived.Test.YtebadfmnmhmfeaaGreatDoorP3
namespace Go.Proofs.YtebadfmnmhmfeaaGreatDoor.T
open Go.Proofs.YtebadfmnmhmfeaaGreatDoor.Sx Go.RowKit
set_option maxRecDepth 20000
set_option linter.unusedSimpArgs false
set_option linter.unusedVariables false
set_option linter.unnecessarySimpa false
set_option linter.unusedSectionVars false
def RB (B : Nat → Int) (rn N cap : Nat) (r w lb lr i pr : Int) (Bf : Nat → Int) : S:=⟨[(0,.ptr 0 0)],[(0,.row (rdR 1 (.ifc 71 (.ptr 2 0)) r w lb lr)),(1,.row ⟨.ints .u8 Bf,4096,5⟩),(2,.row (brR 3 N cap i pr)),(3,.row ⟨.ints .u8 B,rn,5⟩)],4,[]⟩
theorem f175 (μ) (B : Nat → Int) (rn N cap p : Nat) (s : RdI) (hs : Rd B N p s) (hp : p < N) (hN : N ≤ rn) (hcap : N ≤ cap) (hN2 : N < 1099511627776) (hB : ∀ j,j < N → 0 ≤ B j ∧ B j < 256) : Fun Tryz.prog μ 175 [.ptr 0 0] (rdG B rn N cap s) 4
  (fun x : Int × RdI=>x.1 = B p ∧ Rd B N (p + 1) x.2) (fun x=>⟨.tup [.v (.int .u8 x.1),.v .nilIface],rdG B rn N cap x.2,4⟩):=by
 obtain ⟨r,w,lb,lr,i,pr,Bf⟩:=s
 dsimp only [rdG]
 refine fE 49 Tryz.func175 fun zw zβ=>?_
 refine cF [0] ?_
 refine rS [0] ?_
 refine rS [0] ?_
 refine GC.seq (GC.block ?_)
 refine GC.loopE (ι:=(Int) × (Int) × (Int) × (Int) × (Int) × (Int) × (Nat → Int)) (fun zi=>(fun r w lb lr i pr Bf=>Rd B N p ⟨r,w,lb,lr,i,pr,Bf⟩) zi.1 zi.2.1 zi.2.2.1 zi.2.2.2.1 zi.2.2.2.2.1 zi.2.2.2.2.2.1 zi.2.2.2.2.2.2) (fun zi=>(fun r w lb lr i pr Bf=>(if r = w then 1 else 0 : Nat)) zi.1 zi.2.1 zi.2.2.1 zi.2.2.2.1 zi.2.2.2.2.1 zi.2.2.2.2.2.1 zi.2.2.2.2.2.2) (fun zi=>(RB B rn N cap) zi.1 zi.2.1 zi.2.2.1 zi.2.2.2.1 zi.2.2.2.2.1 zi.2.2.2.2.2.1 zi.2.2.2.2.2.2) ((r,w,lb,-1,i,pr,Bf)) [0,1,2,3] (show (fun r w lb lr i pr Bf=>Rd B N p ⟨r,w,lb,lr,i,pr,Bf⟩) (r) (w) (lb) (-1) (i) (pr) (Bf) from ?_) (Ent.R rfl rfl rfl rfl) ?_
 ·exact ⟨hs.hr,hs.hi,hs.hb⟩
 rintro ⟨r,w,lb,lr,i,pr,Bf⟩ hI
 change (fun r w lb lr i pr Bf=>Rd B N p ⟨r,w,lb,lr,i,pr,Bf⟩) r w lb lr i pr Bf at hI
 try dsimp only at hI
 have hs2:=hI
 change GC _ _ _ ((RB B rn N cap) r w lb lr i pr Bf)
 have hs3:=hs2
 obtain ⟨⟨h1,h2,h3⟩,⟨h4,h5⟩,h6⟩:=hs3
 dsimp only at h1 h2 h3 h4 h5 h6
 refine cF [0] ?_
 refine GC.seq ?_
 refine GC.seq (GC.draw [(0,0),(1,0),(2,0),(4,0),(5,0),(6,0),(3,1),(7,1),(8,0)] mixed (by kernel_rfl) (by rintro _ _ _ _ ⟨_,_,_,_,h,_⟩ _; cases h) ?_)
 refine wF [0,16] (GK.code ?_)
 refine GC.cond rfl (fun hc=>?_) (fun hc=>?_)
 ·have hc : r = w:=by simpa using hc
  refine GC.skip (GK.code (GC.block (GC.seq ?_)))
  refine rS [0,21] ?_
  refine GC.condF rfl (GC.skip (GK.code (GC.region ?_)))
  refine lK 1 [0,24] ?_
  refine GL.op rfl (cR rfl (f189 _ B _ _ _ p ⟨r,w,lb,lr,i,pr,Bf⟩ hs2 hc hp hN hcap hN2) [0,1,2,3] rfl rfl rfl rfl fun t' ht=>?_)
  refine gF [0] rfl ?_
  refine lF [0] ?_
  refine GK.back (t'.r,t'.w,t'.lb,t'.lr,t'.i,t'.pr,t'.Bf) [0,1,2,3] (show (fun r w lb lr i pr Bf=>Rd B N p ⟨r,w,lb,lr,i,pr,Bf⟩) (t'.r) (t'.w) (t'.lb) (t'.lr) (t'.i) (t'.pr) (t'.Bf) from ?_) ?_ (Ent.R rfl rfl rfl rfl)
  ·exact ht.1
  ·dsimp only; rw [if_pos hc,if_neg (by have:=ht.2; omega)]; decide
 ·have hc : ¬ (r = w):=by simpa using hc
  have e1:=h6 (0 + r.toNat * 1) (by omega) (by omega)
  have e2:=hB (p + (0 + r.toNat * 1 - r.toNat)) (by omega)
  rw [← e1] at e2
  refine GC.exit ?_
  refine GK.code ?_
  refine GC.seq (GC.draw [(0,0),(1,0),(2,0),(4,0),(5,0),(6,0),(3,1),(7,1),(8,0),(9,1),(10,0)] mixed (by kernel_rfl) (by rintro _ _ _ _ ⟨_,_,_,_,h,_⟩ _; cases h) ?_)
  refine wF [0,4] (GK.code ?_)
  refine rS [0,4] ?_
  refine rS [4] ?_
  refine rS [2,3] ?_
  refine GC.ret ?_
  refine fR (.inl rfl) rfl (by trivial) ((_,⟨_,_,_,_,_,_,_⟩)) [0,1,2,3] rfl rfl rfl rfl (⟨?_,⟨?_,?_,?_⟩⟩)
  ·dsimp only; rw [e1]; congr 1; omega
  ·dsimp only; omega
  ·dsimp only; omega
  ·dsimp only
   intro j hj hj2
   rw [h6 j (by omega) (by omega)]; congr 1; omega
theorem f268 (μ) {fe : Nat} (B D : Nat → Int) (rn N cap p doff m dcap drn : Nat) (s : RdI) (hs : Rd B N p s) (hp : p < N) (hN : N ≤ rn) (hcap : N ≤ cap) (hN2 : N < 1099511627776) (hB : ∀ j,j < N → 0 ≤ B j ∧ B j < 256) (hm : 0 < m) (hd : doff + m ≤ drn) (hm2 : m < 1099511627776) :
  Fun Tryz.prog μ 268 [.ptr 0 0,.slc 4 doff m dcap] (rdG B rn N cap s ++ [(4,.row ⟨.ints .u8 D,drn,fe⟩)]) 5
  (fun x : Nat × (Nat → Int) × RdI=>0 < x.1 ∧ x.1 ≤ m ∧ Rd B N (p + x.1) x.2.2 ∧ ∀ j,x.2.1 j = if doff ≤ j ∧ j < doff + x.1 then B (p + (j - doff)) else D j)
  (fun x=>⟨.tup [.v (.int .i64 (x.1 : Nat)),.v .nilIface],rdG B rn N cap x.2.2 ++ [(4,.row ⟨.ints .u8 x.2.1,drn,fe⟩)],5⟩):=by
 obtain ⟨r,w,lb,lr,i,pr,Bf⟩:=s
 obtain ⟨⟨h1,h2,h3⟩,⟨h4,h5⟩,h6⟩:=hs
 dsimp only at h1 h2 h3 h4 h5 h6
 dsimp only [rdG,List.cons_append,List.nil_append]
 refine fE 151 Tryz.func268 fun zw zβ=>?_
 refine cF [0,1] ?_
 refine rS [0,1] ?_
 refine rS [0,1,4] ?_
 refine GC.seq ?_
 refine rS [0,1,9] ?_
 refine GC.cond rfl (fun hc0=>?_) (fun hc0=>?_)
 ·have hc0 : (m : Int) = 0:=by simpa using hc0
  omega
 ·have hc0 : ¬ ((m : Int) = 0):=by simpa using hc0
  refine GC.skip (GK.code (GC.seq ?_))
  refine GC.seq (GC.draw [(0,0),(1,0),(2,0),(4,0),(5,0),(6,0),(3,1),(7,1),(8,0)] mixed (by kernel_rfl) (by rintro _ _ _ _ ⟨_,_,_,_,h,_⟩ _; cases h) ?_)
  refine wF [0,1,23] (GK.code ?_)
  refine GC.cond rfl (fun hc=>?_) (fun hc=>?_)
  ·have hc : r = w:=by simpa using hc
   refine GC.seq ?_
   refine rS [0,1,28] ?_
   refine GC.condF rfl (GC.skip (GK.code (GC.seq ?_)))
   refine rS [0,1,38] ?_
   refine GC.cond rfl (fun hc2=>?_) (fun hc2=>?_)
   ·have hc2 : (4096 : Int) ≤ (m : Int):=by simpa using hc2
    refine GL.seqR ?_
    refine lK 6 [0,1,40,44,45] ?_
    refine GL.op rfl (iR rfl rfl (m71) (f250 _ B D _ _ _ _ _ _ _ _ _ (by omega) (by omega) hN hcap hN2 hd) [2,3,4] rfl rfl rfl rfl fun x hx=>?_)
    obtain ⟨n,D2⟩:=x
    obtain ⟨hx1,hx2⟩:=hx
    dsimp only at hx1 hx2
    dsimp only
    refine gF [0,1,40,46] rfl ?_
    refine lF [0,1,4] (GK.code ?_)
    refine GC.seq ?_
    refine rS [0,1,4,52] ?_
    refine GC.cond rfl (fun hn=>?_) (fun hn=>?_)
    ·have hn : (n : Int) < 0:=by simpa using hn
     omega
    ·have hn : ¬ ((n : Int) < 0):=by simpa using hn
     refine GC.skip (GK.code (GC.seq ?_))
     refine rS [0,1,4,55] ?_
     refine GC.cond rfl (fun hn2=>?_) (fun hn2=>?_)
     ·have hn2 : 0 < (n : Int):=by simpa using hn2
      have e1:=hx2 (doff + ((n : Int) - 1).toNat * 1)
      rw [if_pos (by omega)] at e1
      have e2:=hB (i.toNat + (doff + ((n : Int) - 1).toNat * 1 - doff)) (by omega)
      rw [← e1] at e2
      refine rS [0,4] ?_
      refine rG [0,4] ?_
      refine GK.code (GL.seqR ?_)
      refine lK 2 [68,69] ?_
      refine GL.op rfl (cR rfl (f188 _ _ _ _ _ _ _ _ B _ _ _) [0,1,2,3] rfl rfl rfl rfl fun _ _=>?_)
      refine gF [68,70] rfl ?_
      refine lF [4,5] (GK.code ?_)
      refine GC.ret ?_
      refine fR (.inl rfl) rfl (by trivial) ((n,D2,⟨_,_,_,_,_,_,_⟩)) [0,1,2,3,4] rfl rfl rfl rfl (⟨?_,?_,⟨?_,?_,?_⟩,?_⟩)
      ·dsimp only; omega
      ·dsimp only; omega
      ·dsimp only; omega
      ·dsimp only; omega
      ·dsimp only; intro j hj hj2; omega
      ·dsimp only; intro j; rw [hx2 j,show i.toNat = p from by omega]
     ·have hn2 : ¬ (0 < (n : Int)):=by simpa using hn2
      omega
   ·have hc2 : ¬ ((4096 : Int) ≤ (m : Int)):=by simpa using hc2
    refine GC.skip (GK.code ?_)
    refine rS [0,1] ?_
    refine rS [0,1] ?_
    refine GC.seq (GC.draw [(0,0),(1,0),(2,0),(3,0),(5,0),(6,0),(7,0),(4,1),(9,0),(10,0),(8,1),(11,2),(12,0),(13,0),(14,0),(15,0),(16,0),(17,0),(18,2)] mixed (by kernel_rfl) (by rintro _ _ _ _ ⟨_,_,_,_,h,_⟩ _; cases h) ?_)
    refine wK 11 [0,1,78,86,88] ?_
    refine GW.op rfl rfl (iR rfl rfl (m71) (f250 _ B _ _ _ _ _ _ _ _ _ _ (by omega) (by omega) hN hcap hN2 (by omega)) [2,3,1] rfl rfl rfl rfl fun x hx=>?_)
    obtain ⟨n,D2⟩:=x
    obtain ⟨hx1,hx2⟩:=hx
    dsimp only at hx1 hx2
    dsimp only
    refine wL [0,1,78,89] rfl ?_
    refine wF [0,1,4] (GK.code ?_)
    refine GC.seq ?_
    refine rS [0,1,4,95] ?_
    refine GC.cond rfl (fun hn=>?_) (fun hn=>?_)
    ·have hn : (n : Int) < 0:=by simpa using hn
     omega
    ·have hn : ¬ ((n : Int) < 0):=by simpa using hn
     refine GC.skip (GK.code (GC.seq ?_))
     refine rS [0,1,4,98] ?_
     refine GC.cond rfl (fun hn2=>?_) (fun hn2=>?_)
     ·have hn2 : (n : Int) = 0:=by simpa using hn2
      omega
     ·have hn2 : ¬ ((n : Int) = 0):=by simpa using hn2
      have hb2 : ∀ j : Nat,(j : Int) < 0 + n → D2 j = B (p + j):=by
       intro j hj
       rw [hx2 j,if_pos (by omega)]; congr 1; omega
      refine GC.skip (GK.code ?_)
      refine rG [0,1] ?_
      refine GK.code ?_
      refine GC.seq (GC.draw [(0,0),(1,0),(2,0),(3,0),(5,0),(6,0),(7,0),(9,0),(10,0),(11,0),(4,1),(8,1),(12,1),(13,0),(14,2),(15,0)] mixed (by kernel_rfl) (by rintro _ _ _ _ ⟨_,_,_,_,h,_⟩ _; cases h) ?_)
      refine wK 14 [0,109,122] ?_
      refine GW.op rfl rfl (OpW.copyI (m:=(0 + (n : Int)).toNat - (0 : Int).toNat) (N:=fun j=>D2 (offS 4096 (0 : Int).toNat 0 1 + j)) rfl rfl rfl rfl rfl rfl (hd) (src_slc rfl rfl (by have:=offS1_le 4096 (0 : Int).toNat 0; show offS 4096 (0 : Int).toNat 0 1 + ((0 + (n : Int)).toNat - (0 : Int).toNat) * 1 ≤ 4096; omega) (fun j hj=>rfl)) rfl ?_)
      have hmn : min ((0 + (n : Int)).toNat - (0 : Int).toNat) m = min n m:=by congr 1; omega
      rw [hmn]
      have e1:=hb2 (0 + (0 + ((min n m : Nat) : Int) - 1).toNat * 1) (by omega)
      have e2:=hB (p + (0 + (0 + ((min n m : Nat) : Int) - 1).toNat * 1)) (by omega)
      rw [← e1] at e2
      refine wL [0,123] rfl ?_
      refine wF [0,4] (GK.code ?_)
      refine rS [0,4] ?_
      refine GC.seq (GC.draw [(0,0),(1,0),(2,0),(3,0),(5,0),(6,0),(7,0),(4,1),(8,1),(9,0),(10,0),(11,1),(12,0),(13,0),(14,0),(15,2)] mixed (by kernel_rfl) (by rintro _ _ _ _ ⟨_,_,_,_,h,_⟩ _; cases h) ?_)
      refine wF [0,4] (GK.code ?_)
      refine rS [4] ?_
      refine rS [4,5] ?_
      refine GC.ret ?_
      refine fR (.inl rfl) rfl (by trivial) ((min n m,cpI D (fun j=>D2 (offS 4096 (0 : Int).toNat 0 1 + j)) doff (min n m),⟨_,_,_,_,_,_,D2⟩)) [0,1,2,3,4] rfl rfl rfl rfl (⟨?_,?_,⟨?_,?_,?_⟩,?_⟩)
      ·dsimp only; omega
      ·dsimp only; omega
      ·dsimp only; omega
      ·dsimp only; omega
      ·dsimp only; intro j hj hj2; rw [hb2 j (by omega)]; congr 1; omega
      ·dsimp only
       intro j
       unfold cpI
       by_cases e : doff ≤ j ∧ j < doff + min n m
       ·rw [if_pos e,if_pos e]
        show D2 (offS 4096 0 0 1 + (j - doff)) = _
        rw [offS_zero,Nat.zero_add]; exact hb2 _ (by omega)
       ·rw [if_neg e,if_neg e]
  ·have hc : ¬ (r = w):=by simpa using hc
   refine GC.skip (GK.code ?_)
   refine GC.seq (GC.draw [(0,0),(1,0),(2,0),(3,0),(5,0),(6,0),(7,0),(9,0),(10,0),(11,0),(4,1),(8,1),(12,1),(13,0),(14,2),(15,0)] mixed (by kernel_rfl) (by rintro _ _ _ _ ⟨_,_,_,_,h,_⟩ _; cases h) ?_)
   refine wK 14 [0,109,122] ?_
   refine GW.op rfl rfl (OpW.copyI (m:=w.toNat - r.toNat) (N:=fun j=>Bf (offS 4096 r.toNat 0 1 + j)) rfl rfl rfl rfl rfl rfl (hd) (src_slc rfl rfl (by have:=offS1_le 4096 r.toNat 0; show offS 4096 r.toNat 0 1 + (w.toNat - r.toNat) * 1 ≤ 4096; omega) (fun j hj=>rfl)) rfl ?_)
   have hoff : offS 4096 r.toNat 0 1 = r.toNat:=by rw [offS_lt (by omega),Nat.zero_add]
   generalize hk : min (w.toNat - r.toNat) m = k
   have e1:=h6 (0 + (r + ((k : Nat) : Int) - 1).toNat * 1) (by omega) (by omega)
   have e2:=hB (p + (0 + (r + ((k : Nat) : Int) - 1).toNat * 1 - r.toNat)) (by omega)
   rw [← e1] at e2
   refine wL [0,123] rfl ?_
   refine wF [0,4] (GK.code ?_)
   refine rS [0,4] ?_
   refine GC.seq (GC.draw [(0,0),(1,0),(2,0),(3,0),(5,0),(6,0),(7,0),(4,1),(8,1),(9,0),(10,0),(11,1),(12,0),(13,0),(14,0),(15,2)] mixed (by kernel_rfl) (by rintro _ _ _ _ ⟨_,_,_,_,h,_⟩ _; cases h) ?_)
   refine wF [0,4] (GK.code ?_)
   refine rS [4] ?_
   refine rS [4,5] ?_
   refine GC.ret ?_
   refine fR (.inl rfl) rfl (by trivial) ((k,cpI D (fun j=>Bf (offS 4096 r.toNat 0 1 + j)) doff k,⟨_,_,_,_,_,_,Bf⟩)) [0,1,2,3,4] rfl rfl rfl rfl (⟨?_,?_,⟨?_,?_,?_⟩,?_⟩)
   ·dsimp only; omega
   ·dsimp only; omega
   ·dsimp only; omega
   ·dsimp only; omega
   ·dsimp only; intro j hj hj2; rw [h6 j (by omega) (by omega)]; congr 1; omega
   ·dsimp only
    intro j
    unfold cpI
    by_cases e : doff ≤ j ∧ j < doff + k
    ·rw [if_pos e,if_pos e,hoff]; dsimp only; rw [h6 _ (by omega) (by omega)]; congr 1; omega
    ·rw [if_neg e,if_neg e]
def bwR (b : Nat) (wr : SV) (n : Int) : Row:=⟨.lst [.v .nilIface,.slc b 0 64 64,.v (.int .i64 n),wr],4,229⟩
def mwR (b : Nat) : Row:=⟨.lst [.slc b 0 2 2],1,156⟩
def wsR (t1 a t2 b : Nat) : Row:=⟨.lst [.ifc t1 (.ptr a 0),.ifc t2 (.ptr b 0)],2,110⟩
theorem f59 (μ) : Fun Tryz.prog μ 59 [.v .nilIface,.v (.int .i64 64)] [] 0 (fun _ : Unit=>True) (fun _=>⟨.ptr 0 0,[(0,.row (bwR 1 (.v .nilIface) 0)),(1,.row ⟨.ints .u8 fun _=>0,64,5⟩)],2⟩):=by
 refine fE 30 Tryz.func59 fun zw zβ=>?_
 refine cF [0,1,14,15,16,17,18,19,20] ?_
 refine rS [0,1,14,15,16,17,18,19,20] ?_
 refine GL.seqR ?_
 refine lK 1 [0,1,8,14,15,16,17,18,19,20] ?_
 refine GL.vstep rfl (VStep.assertN (z:=.pointer none) rfl rfl rfl (fun _=>by kernel_rfl)) rfl (GL.force [0,1,9,14,15,16,17,18,19,20] rfl ?_)
 refine lF [0,1,5,6,14,15,16,17,18,19,20] (GK.code ?_)
 refine GC.seq ?_
 refine rS [0,1,5,21] ?_
 refine GC.condF rfl (GC.skip (GK.code (GC.seq ?_)))
 refine rS [0,1,24] ?_
 refine GC.condF rfl (GC.skip (GK.code (GL.seqR ?_)))
 refine lK 1 [0,25] ?_
 refine GL.op rfl (OpW.makeI (k:=.u8) rfl rfl rfl rfl rfl (by decide) (by decide) (by decide) (by show ((1 : Nat) : Int) * 64 ≤ 281474976710656; decide) rfl rfl rfl ?_)
 refine gF [0,26] rfl ?_
 refine lF [4] (GK.code ?_)
 refine GC.ret ?_
 refine fR (.inl rfl) rfl (by trivial) () [1,0] rfl rfl rfl rfl (trivial)
theorem m101 : IsMeth Tryz.prog 101 "Write" 260:=fun v w=>by kernel_rfl
theorem m142 : IsMeth Tryz.prog 142 "Write" 281:=fun v w=>by kernel_rfl
theorem m153 : IsMeth Tryz.prog 153 "Write" 288:=fun v w=>by kernel_rfl
theorem f288 (μ) {fe : Nat} (S F : Nat → Int) (n off m cap prn : Nat) (x : Int) (i : ShI) (hA : Abs S n i) (hr : off + m ≤ prn) (hc : m ≤ cap) (hF : ∀ j,j < m → F (off + j) = S (n + j)) (hS : ∀ j,j < n + m → 0 ≤ S j ∧ S j < 256) (hn : n + m < 1152921504606846976) (hm : m < 1099511627776) :
  FunC Tryz.prog μ 288 [.ptr 0 0,.slc 4 off m cap] [(0,.row (mwR 1)),(1,.row (wsR 101 2 142 3)),(2,.row (crcR x)),(3,.row (shaR i.s (.slc 5 i.bo i.bl i.bc) i.long)),(4,.row ⟨.ints .u8 F,prn,fe⟩),(5,.row ⟨.ints .u8 i.G,i.brn,5⟩)] 5 6
  (fun y : Int × ShI=>Abs S (n + m) y.2) (fun y=>⟨.tup [.v (.int .i64 m),.v .nilIface],[(0,.row (mwR 1)),(1,.row (wsR 101 2 142 3)),(2,.row (crcR y.1)),(3,.row (shaR y.2.s (.slc 5 y.2.bo y.2.bl y.2.bc) y.2.long)),(4,.row ⟨.ints .u8 F,prn,fe⟩),(5,.row ⟨.ints .u8 y.2.G,y.2.brn,5⟩)],6⟩):=by
 refine fE 33 Tryz.func288 fun zw zβ=>?_
 refine cF [0,1] ?_
 refine rS [0,1] ?_
 refine GC.seq ?_
 refine rS [1,11,12,13] ?_
 refine GC.block ?_
 refine GC.loopU 2 ?_
 refine rS [1,11,12,13,14] ?_
 refine GC.seq (GC.condT rfl (GC.skip (GK.code (GC.seq (GC.block ?_)))))
 refine rS [1,7,11,12,13] ?_
 refine GL.seqR ?_
 refine lK 2 [1,11,12,13,18,19] ?_
 refine GL.op rfl (iR rfl rfl (m101) (f260 _ _ F _ _ _ _ hr (by omega) hc (fun j h1 h2=>by have:=hF (j - off) (by omega); rw [show off + (j - off) = j from by omega] at this; rw [this]; exact hS _ (by omega))) [2,4] rfl rfl rfl rfl fun y _=>?_)
 refine gF [1,11,12,13,20] rfl ?_
 refine lF [1,4,5,11,12,13] (GK.code ?_)
 refine GC.seq ?_
 refine rS [1,4,5,11,12,13,24] ?_
 refine GC.condF rfl (GC.skip (GK.code ?_))
 refine rS [1,4,11,12,13,28] ?_
 refine GC.cond rfl (fun hz=>?_) (fun hz=>?_)
 ·have hz : (m : Int) ≠ m:=by simpa using hz
  exact absurd rfl hz
 ·have hz : ¬ ((m : Int) ≠ m):=by simpa using hz
  refine GC.skip (GK.code ?_)
  refine rG [1,11,12,13] ?_
  refine GK.itr ?_
  refine rS [1,11,12,13,14] ?_
  refine GC.seq (GC.condT rfl (GC.skip (GK.code (GC.seq (GC.block ?_)))))
  refine rS [1,7,11,12,13] ?_
  refine GL.seqR ?_
  refine lK 2 [1,11,12,13,18,19] ?_
  refine GL.op rfl (iR rfl rfl (m142) (f281 _ S F n _ _ _ _ i hA hr hF hn hm) [3,4,5] rfl rfl rfl rfl fun i2 hA2=>?_)
  refine gF [1,11,12,13,20] rfl ?_
  refine lF [1,4,5,11,12,13] (GK.code ?_)
  refine GC.seq ?_
  refine rS [1,4,5,11,12,13,24] ?_
  refine GC.condF rfl (GC.skip (GK.code ?_))
  refine rS [1,4,11,12,13,28] ?_
  refine GC.cond rfl (fun hz=>?_) (fun hz=>?_)
  ·have hz : (m : Int) ≠ m:=by simpa using hz
   exact absurd rfl hz
  ·have hz : ¬ ((m : Int) ≠ m):=by simpa using hz
   refine GC.skip (GK.code ?_)
   refine rG [1,11,12,13] ?_
   refine GK.itr ?_
   refine rS [1,11,12,13,14] ?_
   refine GC.seq (GC.condF rfl ?_)
   refine GC.exit ?_
   refine GK.code ?_
   refine rS [4,5] ?_
   refine GC.ret ?_
   refine fR (.inl rfl) rfl (by trivial) ((y,i2)) [0,1,2,3,4,5] rfl rfl rfl rfl (hA2)
structure WI where
 q : Nat
 n : Nat
 Wf : Nat → Int
 x : Int
 sh : ShI
structure Wr (B : Nat → Int) (p : Nat) (s : WI) : Prop where
 hq : s.q + s.n = p
 hn : s.n ≤ 64
 hw : ∀ j,j < s.n → s.Wf j = B (s.q + j)
 hA : Abs B s.q s.sh
def shR (b : Nat) (i : ShI) : Row:=shaR i.s (.slc b i.bo i.bl i.bc) i.long
def sbR (i : ShI) : Row:=⟨.ints .u8 i.G,i.brn,5⟩
def wrE (b n : Nat) (Wf : Nat → Int) (x : Int) (sh : ShI) : GH:=[(0,.row (bwR 1 (.ifc 153 (.ptr 2 0)) (n : Nat))),(1,.row ⟨.ints .u8 Wf,64,5⟩),(2,.row (mwR 3)),(3,.row (wsR 101 4 142 5)),(4,.row (crcR x)),(5,.row (shR b sh))]
def wrG (b : Nat) (s : WI) : GH:=wrE b s.n s.Wf s.x s.sh
theorem f102 (μ) (wr : SV) (hw : wr = .v .nilIface ∨ wr = .ifc 153 (.ptr 2 0)) (n : Int) (Wf : Nat → Int) (x : Int) (sh : ShI) : Fun Tryz.prog μ 102 [.ptr 0 0,.ifc 153 (.ptr 2 0)] [(0,.row (bwR 1 wr n)),(1,.row ⟨.ints .u8 Wf,64,5⟩),(2,.row (mwR 3)),(3,.row (wsR 101 4 142 5)),(4,.row (crcR x)),(5,.row (shR 6 sh)),(6,.row (sbR sh))] 7
  (fun _ : Unit=>True) (fun _=>⟨.tup [],[(0,.row (bwR 1 (.ifc 153 (.ptr 2 0)) 0)),(1,.row ⟨.ints .u8 Wf,64,5⟩),(2,.row (mwR 3)),(3,.row (wsR 101 4 142 5)),(4,.row (crcR x)),(5,.row (shR 6 sh)),(6,.row (sbR sh))],7⟩):=by
 rcases hw with rfl | rfl
 all_goals
  refine fE 27 Tryz.func102 fun zw zβ=>?_
  refine cF [0,1] ?_
  refine GC.seq (GL.seqR ?_)
  refine lK 3 [0,1,5,6] ?_
  refine GL.vstep rfl (VStep.eqI (r:=false) rfl (.inl rfl) rfl (fun β u v h1 h2=>by cases h1; cases h2; exact .ty _ _ rfl)) rfl (GL.force [0,1,7] rfl ?_)
  refine lF [0,1,7] (GK.code ?_)
  refine GC.condF rfl (GC.skip (GK.code (GC.seq (GL.seqR ?_))))
  refine lK 4 [0,1,11] ?_
  refine GL.vstep rfl (VStep.eqNilS rfl (.inl rfl) rfl rfl (by decide)) rfl (GL.force [0,1,12] rfl ?_)
  refine lF [0,1,12] (GK.code ?_)
  refine GC.condF rfl (GC.skip (GK.code ?_))
  refine rS [0,1] ?_
  refine rS [0,1] ?_
  refine rG [] ?_
  refine fR (.inr rfl) rfl (by trivial) () [0,1,2,3,4,5,6] rfl rfl rfl rfl (trivial)
theorem f194 (μ) (n : Nat) (Wf : Nat → Int) (x : Int) (sh : ShI) (hn : n ≤ 64) : Fun Tryz.prog μ 194 [.ptr 0 0] (wrE 6 n Wf x sh ++ [(6,.row (sbR sh))]) 7
  (fun _ : Unit=>True) (fun _=>⟨.v (.int .i64 (64 - (n : Nat))),wrE 6 n Wf x sh ++ [(6,.row (sbR sh))],7⟩):=by
 dsimp only [wrE,List.cons_append,List.nil_append]
 refine fE 13 Tryz.func194 fun zw zβ=>?_
 refine cF [0] ?_
 refine rS [0] ?_
 refine GC.seq (GC.draw [(0,0),(1,0),(2,0),(5,0),(6,0),(7,0),(3,1),(4,0),(8,1),(9,0),(10,0)] mixed (by kernel_rfl) (by rintro _ _ _ _ ⟨_,_,_,_,h,_⟩ _; cases h) ?_)
 refine wF [2] (GK.code ?_)
 refine GC.ret ?_
 refine fR (.inl rfl) rfl (by trivial) () [0,1,2,3,4,5,6] rfl rfl rfl rfl (trivial)
theorem f271 (μ) (n : Nat) (Wf : Nat → Int) (x : Int) (sh : ShI) : Fun Tryz.prog μ 271 [.ptr 0 0] (wrE 6 n Wf x sh ++ [(6,.row (sbR sh))]) 7
  (fun _ : Unit=>True) (fun _=>⟨.v (.int .i64 (n : Nat)),wrE 6 n Wf x sh ++ [(6,.row (sbR sh))],7⟩):=by
 dsimp only [wrE,List.cons_append,List.nil_append]
 refine fE 7 Tryz.func271 fun zw zβ=>?_
 refine cF [0] ?_
 refine rS [0] ?_
 refine rS [2] ?_
 refine GC.ret ?_
 refine fR (.inl rfl) rfl (by trivial) () [0,1,2,3,4,5,6] rfl rfl rfl rfl (trivial)
theorem f117 (μ) (B : Nat → Int) (p : Nat) (s : WI) (hs : Wr B p s) (hB : ∀ j,j < p → 0 ≤ B j ∧ B j < 256) (hp : p < 1152921504606846976) : FunC Tryz.prog μ 117 [.ptr 0 0] (wrG 6 s ++ [(6,.row (sbR s.sh))]) 6 7
  (fun t : WI=>Wr B p t ∧ t.n = 0) (fun t=>⟨.v .nilIface,wrG 6 t ++ [(6,.row (sbR t.sh))],7⟩):=by
 obtain ⟨q,n,Wf,x,sh⟩:=s
 obtain ⟨h1,h2,h3,h4⟩:=hs
 dsimp only at h1 h2 h3 h4
 dsimp only [wrG,wrE,List.cons_append,List.nil_append]
 refine fE 99 Tryz.func117 fun zw zβ=>?_
 refine cF [0,45,46,54,55,56,57,58,59] ?_
 refine rS [0,45,46,54,55,56,57,58,59] ?_
 refine GC.seq ?_
 refine rS [0,9,45,46,54,55,56,57,58,59] ?_
 refine GC.condF rfl (GC.skip (GK.code (GC.seq ?_)))
 refine rS [0,18,45,46,54,55,56,57,58,59] ?_
 refine GC.cond rfl (fun hn=>?_) (fun hn=>?_)
 ·have hn : (n : Int) = 0:=by simpa using hn
  refine rS [2] ?_
  refine GC.ret ?_
  refine fR (.inl rfl) rfl (by trivial) ⟨q,n,Wf,x,sh⟩ [0,1,2,3,4,5,6] rfl rfl rfl rfl (⟨⟨h1,h2,h3,h4⟩,by dsimp only; omega⟩)
 ·have hn : ¬ ((n : Int) = 0):=by simpa using hn
  have hcap:=offS1_le 64 (0 : Int).toNat 0
  refine GC.skip (GK.code ?_)
  refine GC.seq (GC.draw [(0,0),(1,0),(2,0),(4,0),(5,0),(6,0),(8,0),(9,0),(10,0),(3,1),(13,0),(14,0),(7,1),(11,1),(12,0),(15,2),(16,0),(17,0),(18,0),(19,0),(20,0)] mixed (by kernel_rfl) (by rintro _ _ _ _ ⟨_,_,_,_,h,_⟩ _; cases h) ?_)
  refine wK 15 [0,32,34,45,46,54,55,56,57,58,59] ?_
  refine GW.op rfl rfl (iR rfl rfl (m153) (f288 _ B Wf q _ (n - 0) _ _ _ sh h4 (by omega) (by omega) (fun j hj=>by rw [← h3 j (by omega)]; congr 1; omega) (fun j hj=>hB j (by omega)) (by omega) (by omega)) [2,3,4,5,1,6] rfl rfl rfl rfl fun y hy=>?_)
  refine wL [0,35,45,46,54,55,56,57,58,59] rfl ?_
  refine wF [0,3,4,45,46,54,55,56,57,58,59] (GK.code ?_)
  refine GC.seq (GL.seqR ?_)
  refine lK 7 [0,3,4,44,45,46,54,55,56,57,58,59] ?_
  refine GL.spl 44 rfl rfl rfl (fun hl=>?_) (fun hl=>?_)
  ·have hl : ((n - 0 : Nat) : Int) < (n : Int):=by simpa using hl
   omega
  ·have hl : ¬ (((n - 0 : Nat) : Int) < (n : Int)):=by simpa using hl
   refine lF [0,3,4,47,54,55,56,57,58,59] (GK.code ?_)
   refine GC.condF rfl (GC.skip (GK.code (GC.seq ?_)))
   refine rS [0,3,4,50,54,55,56,57,58,59] ?_
   refine GC.condF rfl (GC.skip (GK.code ?_))
   refine rS [] ?_
   refine rS [2] ?_
   refine GC.ret ?_
   refine fR (.inl rfl) rfl (by trivial) ⟨q + n,0,Wf,y.1,y.2⟩ [0,1,2,3,4,5,6] rfl rfl rfl rfl (⟨⟨?_,?_,?_,?_⟩,rfl⟩)
   ·exact h1
   ·exact Nat.zero_le _
   ·exact fun j hj=>absurd hj (Nat.not_lt_zero _)
   ·exact hy
theorem f190 (μ) (B : Nat → Int) (p : Nat) (s : WI) (hs : Wr B p s) (hB : ∀ j,j < p → 0 ≤ B j ∧ B j < 256) (hp : p < 1152921504606846976) (c : Int) (hc : c = B p) : FunC Tryz.prog μ 190 [.ptr 0 0,.v (.int .u8 c)] (wrG 6 s ++ [(6,.row (sbR s.sh))]) 6 7
  (fun t : WI=>Wr B (p + 1) t) (fun t=>⟨.v .nilIface,wrG 6 t ++ [(6,.row (sbR t.sh))],7⟩):=by
 obtain ⟨q,n,Wf,x,sh⟩:=s
 have hs':=hs
 obtain ⟨h1,h2,h3,h4⟩:=hs
 dsimp only at h1 h2 h3 h4
 dsimp only [wrG,wrE,List.cons_append,List.nil_append]
 refine fE 43 Tryz.func190 fun zw zβ=>?_
 refine cF [0,1,18,19,20] ?_
 refine rS [0,1,18,19,20] ?_
 refine GC.seq ?_
 refine rS [0,1,9,18,19,20] ?_
 refine GC.condF rfl (GC.skip (GK.code (GC.seq (GL.seqR ?_))))
 refine lK 1 [0,1,14,18,19,20] ?_
 refine GL.op rfl (cR rfl (f194 _ n Wf x sh h2) [0,1,2,3,4,5,6] rfl rfl rfl rfl fun _ _=>?_)
 refine gF [0,1,15,18,19,20] rfl ?_
 refine lK 2 [0,1,17,18,19,20] ?_
 refine GL.spl 17 rfl rfl rfl (fun hl=>?_) (fun hl=>?_)
 ·have hl : 64 - (n : Int) ≤ 0:=by simpa using hl
  refine lK 1 [0,1,17,18,19,20] ?_
  refine GL.opG rfl rfl (cR rfl (f117 _ B p ⟨q,n,Wf,x,sh⟩ hs' hB hp) [0,1,2,3,4,5,6] rfl rfl rfl rfl fun t ht=>?_)
  obtain ⟨q2,n2,Wf2,x2,sh2⟩:=t
  obtain ⟨⟨e1,e2,e3,e4⟩,e5⟩:=ht
  dsimp only at e1 e2 e3 e4 e5
  subst e5
  dsimp only
  refine gF [0,1,17,19,20] rfl ?_
  refine lF [0,1,21] (GK.code ?_)
  refine GC.condF rfl (GC.skip (GK.code ?_))
  refine GC.seq (GC.draw [(0,0),(1,0),(2,0),(4,0),(5,0),(6,0),(8,0),(3,1),(7,1),(9,0),(10,2)] mixed (by kernel_rfl) (by rintro _ _ _ _ ⟨_,_,_,_,h,_⟩ _; cases h) ?_)
  refine wF [0] (GK.code ?_)
  refine rS [] ?_
  refine rS [4] ?_
  refine GC.ret ?_
  refine fR (.inl rfl) rfl (by trivial) ⟨q2,1,_,x2,sh2⟩ [0,1,2,3,4,5,6] rfl rfl rfl rfl (⟨?_,?_,?_,?_⟩)
  ·dsimp only; omega
  ·dsimp only; omega
  ·intro j hj
   obtain rfl : j = 0:=by dsimp only at hj; omega
   show upd Wf2 0 c 0 = _
   rw [upd_at,if_pos rfl,hc]; congr 1; dsimp only; omega
  ·exact e4
 ·have hl : ¬ (64 - (n : Int) ≤ 0):=by simpa using hl
  refine lK 1 [0,1,17,18,19,20] ?_
  refine lK 1 [0,1,17,19,20] ?_
  refine lF [0,1,21] (GK.code ?_)
  refine GC.condF rfl (GC.skip (GK.code ?_))
  refine GC.seq (GC.draw [(0,0),(1,0),(2,0),(4,0),(5,0),(6,0),(8,0),(3,1),(7,1),(9,0),(10,2)] mixed (by kernel_rfl) (by rintro _ _ _ _ ⟨_,_,_,_,h,_⟩ _; cases h) ?_)
  refine wF [0] (GK.code ?_)
  refine rS [] ?_
  refine rS [4] ?_
  refine GC.ret ?_
  refine fR (.inl rfl) rfl (by trivial) ⟨q,n + 1,upd Wf (0 + n * 1) c,x,sh⟩ [0,1,2,3,4,5,6] rfl rfl rfl rfl (⟨?_,?_,?_,?_⟩)
  ·dsimp only; omega
  ·dsimp only; omega
  ·intro j hj
   show upd Wf (0 + n * 1) c j = _
   rw [upd_at]
   dsimp only at hj
   by_cases e : j = 0 + n * 1
   ·rw [if_pos e,hc]; congr 1; dsimp only; omega
   ·rw [if_neg e]; exact h3 j (by omega)
  ·exact h4
def WB (fe : Nat) (F : Nat → Int) (prn : Nat) (o l c nn q n : Nat) (Wf : Nat → Int) (x : Int) (sh : ShI) : S:=⟨[(0,.ptr 0 0),(1,.slc 6 o l c),(4,.v (.int .i64 nn))],wrE 7 n Wf x sh ++ [(6,.row ⟨.ints .u8 F,prn,fe⟩),(7,.row (sbR sh))],8,[]⟩
structure IWb (B F : Nat → Int) (p m prn : Nat) (o l c nn q n : Nat) (Wf : Nat → Int) (x : Int) (sh : ShI) : Prop where
 hl : l ≤ m ∧ nn = m - l
 hc : l ≤ c
 hr : o + l ≤ prn
 hF : ∀ j,j < l → F (o + j) = B (p + (m - l) + j)
 hw : Wr B (p + (m - l)) ⟨q,n,Wf,x,sh⟩
theorem f269 (μ) {fe : Nat} (B F : Nat → Int) (p off m cap prn : Nat) (s : WI) (hs : Wr B p s) (hr : off + m ≤ prn) (hc : m ≤ cap) (hF : ∀ j,j < m → F (off + j) = B (p + j)) (hB : ∀ j,j < p + m → 0 ≤ B j ∧ B j < 256) (hp : p + m < 1152921504606846976) (hm : m < 1099511627776) :
  FunC Tryz.prog μ 269 [.ptr 0 0,.slc 6 off m cap] (wrG 7 s ++ [(6,.row ⟨.ints .u8 F,prn,fe⟩),(7,.row (sbR s.sh))]) 7 8
  (fun t : WI=>Wr B (p + m) t) (fun t=>⟨.tup [.v (.int .i64 m),.v .nilIface],wrG 7 t ++ [(6,.row ⟨.ints .u8 F,prn,fe⟩),(7,.row (sbR t.sh))],8⟩):=by
 obtain ⟨q,n,Wf,x,sh⟩:=s
 dsimp only [wrG,wrE,List.cons_append,List.nil_append]
 refine fE 95 Tryz.func269 fun zw zβ=>?_
 refine cF [0,1,14,15,16,17,18] ?_
 refine rS [0,1,4,14,15,16,17,18] ?_
 refine GC.seq (GC.block ?_)
 refine GC.loopE (ι:=(Nat) × (Nat) × (Nat) × (Nat) × (Nat) × (Nat) × (Nat → Int) × (Int) × (ShI)) (fun zi=>(IWb B F p m prn) zi.1 zi.2.1 zi.2.2.1 zi.2.2.2.1 zi.2.2.2.2.1 zi.2.2.2.2.2.1 zi.2.2.2.2.2.2.1 zi.2.2.2.2.2.2.2.1 zi.2.2.2.2.2.2.2.2) (fun zi=>(fun o l c nn q n Wf x sh=>(l + n : Nat)) zi.1 zi.2.1 zi.2.2.1 zi.2.2.2.1 zi.2.2.2.2.1 zi.2.2.2.2.2.1 zi.2.2.2.2.2.2.1 zi.2.2.2.2.2.2.2.1 zi.2.2.2.2.2.2.2.2) (fun zi=>(WB fe F prn) zi.1 zi.2.1 zi.2.2.1 zi.2.2.2.1 zi.2.2.2.2.1 zi.2.2.2.2.2.1 zi.2.2.2.2.2.2.1 zi.2.2.2.2.2.2.2.1 zi.2.2.2.2.2.2.2.2) ((off,m,cap,0,q,n,Wf,x,sh)) [0,1,2,3,4,5,6,7] (show (IWb B F p m prn) (off) (m) (cap) (0) (q) (n) (Wf) (x) (sh) from ?_) (Ent.R rfl rfl rfl rfl) ?_
 ·exact ⟨⟨Nat.le_refl _,by omega⟩,hc,hr,fun j hj=>by rw [hF j hj]; congr 1; omega,by rw [show p + (m - m) = p from by omega]; exact hs⟩
 rintro ⟨o,l,c,nn,q,n,Wf,x,sh⟩ hI
 change (IWb B F p m prn) o l c nn q n Wf x sh at hI
 have hI2:=hI
 change GC _ _ _ ((WB fe F prn) o l c nn q n Wf x sh)
 obtain ⟨⟨g1,g2⟩,g3,g4,g5,g6⟩:=hI2
 have g7:=g6
 obtain ⟨h1,h2,h3,h4⟩:=g7
 dsimp only at h1 h2 h3 h4
 unfold WB
 dsimp only [wrG,wrE,List.cons_append,List.nil_append]
 refine cF [0,1,4,14,15,16,17,18] ?_
 refine GC.seq (GL.seqR ?_)
 refine lK 3 [0,1,4,9,10,14,15,16,17,18] ?_
 refine GL.op rfl (cR rfl (f194 _ n Wf x sh h2) [0,1,2,3,4,5,7] rfl rfl rfl rfl fun _ _=>?_)
 refine gF [0,1,4,9,11,14,15,16,17,18] rfl ?_
 refine lK 2 [0,1,4,13,14,15,16,17,18] ?_
 refine GL.spl 13 rfl rfl rfl (fun hl=>?_) (fun hl=>?_)
 ·have hl : 64 - (n : Int) < (l : Int):=by simpa using hl
  refine lF [0,1,4,14,15,16,17,18,19] (GK.code ?_)
  refine GC.condT rfl (GC.skip (GK.code (GC.block ?_)))
  refine rS [0,1,4,14,15,16,17,18] ?_
  refine GC.seq (GL.seqR ?_)
  refine lK 1 [0,1,4,14,15,16,17,18,20] ?_
  refine GL.op rfl (cR rfl (f271 _ n Wf x sh) [0,1,2,3,4,5,7] rfl rfl rfl rfl fun _ _=>?_)
  refine gF [0,1,4,14,15,16,17,18,21] rfl ?_
  refine lF [0,1,4,14,15,16,17,18,22] (GK.code ?_)
  refine GC.cond rfl (fun hn=>?_) (fun hn=>?_)
  ·have hn : (n : Int) = 0:=by simpa using hn
   refine GC.region ?_
   refine lK 6 [0,1,4,14,15,16,17,18,24,28,29] ?_
   refine GL.op rfl (iR rfl rfl (m153) (f288 _ B F q o l c prn _ sh h4 (by omega) g3 (fun j hj=>by rw [g5 j hj]; congr 1; omega) (fun j hj=>hB j (by omega)) (by omega) (by omega)) [2,3,4,5,6,7] rfl rfl rfl rfl fun y hy=>?_)
   refine gF [0,1,4,14,15,16,17,18,24,30] rfl ?_
   refine lF [0,1,4,6,14,15,16,17,18] ?_
   refine GK.code ?_
   refine rS [0,1,4,6,14,15,16,17,18] ?_
   refine rG [0,1,4,14,15,16,17,18] ?_
   refine GK.back (offS c l o 1,l - l,c - l,nn + l,q + l,n,Wf,y.1,y.2) [0,1,2,3,4,5,6,7] (show (IWb B F p m prn) (offS c l o 1) (l - l) (c - l) (nn + l) (q + l) (n) (Wf) (y.1) (y.2) from ?_) ?_ (Ent.R rfl rfl rfl rfl)
   ·refine ⟨by omega,by omega,?_,fun j hj=>by omega,?_,?_,?_,?_⟩
    ·have:=offS1_le c l o; omega
    ·dsimp only; omega
    ·dsimp only; omega
    ·dsimp only; intro j hj; omega
    ·exact hy
   ·dsimp only; omega
  ·have hn : ¬ ((n : Int) = 0):=by simpa using hn
   refine GC.seq (GC.draw [(0,0),(1,0),(2,0),(4,0),(5,0),(6,0),(9,0),(3,1),(7,1),(8,0),(10,2),(11,0)] mixed (by kernel_rfl) (by rintro _ _ _ _ ⟨_,_,_,_,h,_⟩ _; cases h) ?_)
   refine wK 10 [0,1,4,14,15,16,17,18,43,44] ?_
   refine GW.op rfl rfl (OpW.copyI (m:=l) (N:=fun j=>F (o + j)) rfl rfl rfl rfl rfl rfl (by have:=offS1_le 64 (n : Int).toNat 0; omega) (src_slc rfl rfl (by show o + l * 1 ≤ prn; omega) (fun j hj=>rfl)) rfl ?_)
   have hmin : min l (64 - n) = 64 - n:=by omega
   rw [Int.toNat_natCast,hmin]
   have hw : Wr B (p + (m - l) + (64 - n)) ⟨q,n + (64 - n),cpI Wf (fun j=>F (o + j)) (offS 64 n 0 1) (64 - n),x,sh⟩:=by
    have ho : offS 64 n 0 1 = n ∨ n = 64:=by
     by_cases e : n = 64
     ·exact .inr e
     ·left; rw [offS_lt (by omega)]; omega
    refine ⟨by dsimp only; omega,by dsimp only; omega,?_,h4⟩
    dsimp only
    intro j hj
    unfold cpI
    by_cases e : offS 64 n 0 1 ≤ j ∧ j < offS 64 n 0 1 + (64 - n)
    ·rw [if_pos e]; show F (o + (j - offS 64 n 0 1)) = _; rw [g5 _ (by omega)]; congr 1; omega
    ·rw [if_neg e]; exact h3 j (by omega)
   refine wL [0,1,4,14,15,16,17,18,45] rfl ?_
   refine wF [0,1,4,6,14,15,16,17,18] (GK.code ?_)
   refine rS [0,1,4,6,14,15,16,17,18] ?_
   refine GC.region ?_
   refine lK 1 [0,1,4,6,14,15,16,17,18,54] ?_
   refine GL.op rfl (cR rfl (f117 _ B (p + (m - l) + (64 - n)) _ hw (fun j hj=>hB j (by omega)) (by omega)) [0,1,2,3,4,5,7] rfl rfl rfl rfl fun t ht=>?_)
   obtain ⟨q2,n2,Wf2,x2,sh2⟩:=t
   obtain ⟨⟨e1,e2,e3,e4⟩,e5⟩:=ht
   dsimp only at e1 e2 e3 e4 e5
   subst e5
   dsimp only
   refine gF [0,1,4,6,14,15,16,17,18] rfl ?_
   refine lF [0,1,4,6,14,15,16,17,18] ?_
   refine GK.code ?_
   refine rS [0,1,4,6,14,15,16,17,18] ?_
   refine rG [0,1,4,14,15,16,17,18] ?_
   refine GK.back (offS c (64 - n) o 1,l - (64 - n),c - (64 - n),nn + (64 - n),q2,0,Wf2,x2,sh2) [0,1,2,3,4,5,6,7] (show (IWb B F p m prn) (offS c (64 - n) o 1) (l - (64 - n)) (c - (64 - n)) (nn + (64 - n)) (q2) (0) (Wf2) (x2) (sh2) from ?_) ?_ (Ent.R rfl rfl rfl rfl)
   ·have ho:=offS_lt (cap:=c) (l:=64 - n) (o:=o) (by omega)
    refine ⟨by omega,by omega,by omega,fun j hj=>?_,?_,?_,?_,?_⟩
    ·rw [ho,show o + (64 - n) + j = o + (64 - n + j) from by omega,g5 _ (by omega)]; congr 1; omega
    ·dsimp only; omega
    ·dsimp only; omega
    ·dsimp only; intro j hj; omega
    ·exact e4
   ·dsimp only; omega
 ·have hl : ¬ (64 - (n : Int) < (l : Int)):=by simpa using hl
  refine lF [0,1,4,14,15,16,17,18,19] (GK.code ?_)
  refine GC.condF rfl ?_
  refine GC.exit ?_
  refine GK.code (GC.seq ?_)
  refine rS [0,1,4,66] ?_
  refine GC.condF rfl (GC.skip (GK.code ?_))
  refine GC.seq (GC.draw [(0,0),(1,0),(2,0),(4,0),(5,0),(6,0),(9,0),(3,1),(7,1),(8,0),(10,2),(11,0)] mixed (by kernel_rfl) (by rintro _ _ _ _ ⟨_,_,_,_,h,_⟩ _; cases h) ?_)
  refine wK 10 [0,4,80,81] ?_
  refine GW.op rfl rfl (OpW.copyI (m:=l) (N:=fun j=>F (o + j)) rfl rfl rfl rfl rfl rfl (by have:=offS1_le 64 (n : Int).toNat 0; omega) (src_slc rfl rfl (by show o + l * 1 ≤ prn; omega) (fun j hj=>rfl)) rfl ?_)
  have hmin : min l (64 - n) = l:=by omega
  rw [Int.toNat_natCast,hmin]
  obtain rfl : m = nn + l:=by omega
  refine wL [0,4,82] rfl ?_
  refine wF [0,4,7] (GK.code ?_)
  refine rS [4,7] ?_
  refine rS [4] ?_
  refine rS [4,5] ?_
  refine GC.ret ?_
  refine fR (.inl rfl) rfl (by trivial) ⟨q,n + l,cpI Wf (fun j=>F (o + j)) (offS 64 n 0 1) l,x,sh⟩ [0,1,2,3,4,5,6,7] rfl rfl rfl rfl (⟨?_,?_,?_,?_⟩)
  ·dsimp only; omega
  ·dsimp only; omega
  ·have ho : offS 64 n 0 1 = n ∨ n = 64:=by
    by_cases e : n = 64
    ·exact .inr e
    ·left; rw [offS_lt (by omega)]; omega
   dsimp only
   intro j hj
   unfold cpI
   by_cases e : offS 64 n 0 1 ≤ j ∧ j < offS 64 n 0 1 + l
   ·rw [if_pos e]; show F (o + (j - offS 64 n 0 1)) = _; rw [g5 _ (by omega)]; congr 1; omega
   ·rw [if_neg e]; exact h3 j (by omega)
  ·exact h4
def srR (off : Int) : Row:=⟨.lst [.ifc 71 (.ptr 3 0),.ifc 153 (.ptr 7 0),.ptr 1 0,.ptr 5 0,.v (.int .i64 off)],5,150⟩
def srG (B : Nat → Int) (rn N cap b : Nat) (off : Int) (s : RdI) (t : WI) : GH :=
 [(0,.row (srR off)),(1,.row (rdR 2 (.ifc 71 (.ptr 3 0)) s.r s.w s.lb s.lr)),(2,.row ⟨.ints .u8 s.Bf,4096,5⟩),(3,.row (brR 4 N cap s.i s.pr)),(4,.row ⟨.ints .u8 B,rn,5⟩),
  (5,.row (bwR 6 (.ifc 153 (.ptr 7 0)) (t.n : Nat))),(6,.row ⟨.ints .u8 t.Wf,64,5⟩),(7,.row (mwR 8)),(8,.row (wsR 101 9 142 10)),(9,.row (crcR t.x)),(10,.row (shR b t.sh)),(b,.row (sbR t.sh))]
structure Dat (B : Nat → Int) (rn N cap : Nat) : Prop where
 hN : N ≤ rn
 hcap : N ≤ cap
 hN2 : N < 1099511627776
 hB : ∀ j,j < N → 0 ≤ B j ∧ B j < 256
structure Sr (B S : Nat → Int) (N p ps : Nat) (s : RdI) (t : WI) : Prop where
 hr : Rd B N p s
 hw : Wr S ps t
 hl : ∀ j,p + j < N → S (ps + j) = B (p + j)
 hS : ∀ j,j < ps → 0 ≤ S j ∧ S j < 256
 hb : ps + N < p + 1152921504606846976
 hp : p ≤ N
theorem Sr.le {B S : Nat → Int} {rn N cap p ps k : Nat} {s : RdI} {t : WI} (h : Sr B S N p ps s t) (d : Dat B rn N cap) (hk : p + k ≤ N) : ∀ j,j < ps + k → 0 ≤ S j ∧ S j < 256:=by
 intro j hj
 by_cases e : j < ps
 ·exact h.hS j e
 ·have:=h.hl (j - ps) (by omega)
  rw [show ps + (j - ps) = j from by omega] at this
  rw [this]; exact d.hB _ (by omega)
theorem Sr.step {B S : Nat → Int} {rn N cap p ps k : Nat} {s s' : RdI} {t t' : WI} (h : Sr B S N p ps s t) (d : Dat B rn N cap) (hk : p + k ≤ N) (hr : Rd B N (p + k) s') (hw : Wr S (ps + k) t') : Sr B S N (p + k) (ps + k) s' t' :=
 ⟨hr,hw,fun j hj=>by rw [Nat.add_assoc,Nat.add_assoc]; exact h.hl _ (by omega),h.le d hk,by have:=h.hb; omega,hk⟩
theorem f179 (μ) (B S : Nat → Int) (rn N cap p ps : Nat) (s : RdI) (t : WI) (d : Dat B rn N cap) (h : Sr B S N p ps s t) (hp : p < N) : FunC Tryz.prog μ 179 [.ptr 0 0] (srG B rn N cap 11 p s t) 11 12
  (fun x : RdI × WI=>Rd B N (p + 1) x.1 ∧ Wr S (ps + 1) x.2) (fun x=>⟨.tup [.v (.int .u8 (B p)),.v .nilIface],srG B rn N cap 11 ((p : Int) + 1) x.1 x.2,12⟩):=by
 have hN2:=d.hN2
 have hB:=d.hB p hp
 dsimp only [srG]
 refine fE 28 Tryz.func179 fun zw zβ=>?_
 refine cF [0] ?_
 refine rS [0] ?_
 refine GL.seqR ?_
 refine lK 4 [0,8] ?_
 refine GL.op rfl (cR rfl (f175 _ B rn N cap p s h.hr hp d.hN d.hcap d.hN2 d.hB) [1,2,3,4] rfl rfl rfl rfl ?_)
 intro y ⟨hy,hr⟩
 obtain ⟨y,s'⟩:=y
 obtain rfl : y = B p:=hy
 refine gF [0,9] rfl ?_
 refine lF [0,2,3] (GK.code ?_)
 refine GC.seq ?_
 refine rS [0,2,3,13] ?_
 refine GC.condT rfl ?_
 refine rS [0,2] ?_
 refine GL.seqR ?_
 refine lK 6 [21,25,26] ?_
 refine GL.op rfl (cR rfl (f190 _ S ps t h.hw h.hS (by have:=h.hb; omega) (B p) (by have:=h.hl 0 (by omega); simpa using this.symm)) [5,6,7,8,9,10,11] rfl rfl rfl rfl fun t' hw=>?_)
 refine gF [21,27] rfl ?_
 refine lF [2,3] (GK.code ?_)
 refine GC.ret ?_
 refine fR (.inl rfl) rfl (by trivial) ((s',t')) [0,1,2,3,4,5,6,7,8,9,10,11] rfl rfl rfl rfl (⟨hr,hw⟩)
theorem f267 (μ) {fe : Nat} (B S D : Nat → Int) (rn N cap p ps doff m dcap drn : Nat) (s : RdI) (t : WI) (d : Dat B rn N cap) (h : Sr B S N p ps s t) (hp : p < N) (hm : 0 < m) (hd : doff + m ≤ drn) (hmc : m ≤ dcap) (hm2 : m < 1099511627776) : FunC Tryz.prog μ 267 [.ptr 0 0,.slc 11 doff m dcap] (srG B rn N cap 12 p s t ++ [(11,.row ⟨.ints .u8 D,drn,fe⟩)]) 12 13
  (fun x : Nat × (Nat → Int) × RdI × WI=>0 < x.1 ∧ x.1 ≤ m ∧ p + x.1 ≤ N ∧ (∀ j,x.2.1 j = if doff ≤ j ∧ j < doff + x.1 then B (p + (j - doff)) else D j) ∧ Rd B N (p + x.1) x.2.2.1 ∧ Wr S (ps + x.1) x.2.2.2)
  (fun x=>⟨.tup [.v (.int .i64 (x.1 : Nat)),.v .nilIface],srG B rn N cap 12 ((p : Int) + (x.1 : Nat)) x.2.2.1 x.2.2.2 ++ [(11,.row ⟨.ints .u8 x.2.1,drn,fe⟩)],13⟩):=by
 have hN2:=d.hN2
 dsimp only [srG,List.cons_append,List.nil_append]
 refine fE 40 Tryz.func267 fun zw zβ=>?_
 refine cF [0,1] ?_
 refine rS [0,1] ?_
 refine GL.seqR ?_
 refine lK 5 [0,1,12,13] ?_
 refine GL.op rfl (cR rfl (f268 _ B D rn N cap p doff m dcap drn s h.hr hp d.hN d.hcap d.hN2 d.hB hm hd hm2) [1,2,3,4,11] rfl rfl rfl rfl fun y hy=>?_)
 obtain ⟨n,D',s'⟩:=y
 obtain ⟨e1,e2,e3,e4⟩:=hy
 dsimp only at e1 e2 e3 e4
 have e5 : p + n ≤ N:=by have:=e3.hr; have:=e3.hi; omega
 dsimp only
 have ho:=offS_zero dcap doff 1
 refine gF [0,1,14] rfl ?_
 refine lF [0,1,4,5] (GK.code ?_)
 refine rS [0,1,4,5] ?_
 refine GC.seq ?_
 refine GC.seq (GC.draw [(0,0),(1,0),(2,0),(4,0),(5,0),(6,0),(3,1),(7,2),(8,0),(9,0),(10,0),(11,0),(12,0)] mixed (by kernel_rfl) (by rintro _ _ _ _ ⟨_,_,_,_,h,_⟩ _; cases h) ?_)
 refine wK 7 [4,5,29,32] ?_
 refine GW.op rfl rfl (cR rfl (f269 _ S D' ps (offS dcap 0 doff 1) ((n : Int).toNat - 0) (dcap - 0) drn t h.hw (by omega) (by omega) (fun j hj=>by rw [e4,if_pos (by omega),h.hl j (by omega)]; congr 1; omega) (h.le d e5) (by have:=h.hb; omega) (by omega)) [5,6,7,8,9,10,11,12] rfl rfl rfl rfl fun t' hw=>?_)
 refine wL [4,5,33] rfl ?_
 refine wF [4,5,7] (GK.code ?_)
 refine rS [4,5,7,37] ?_
 refine GC.condF rfl (GC.skip (GK.code (GC.ret ?_)))
 refine fR (.inl rfl) rfl (by trivial) ((n,D',s',t')) [0,1,2,3,4,5,6,7,8,9,10,11,12] rfl rfl rfl rfl (⟨e1,e2,e5,e4,e3,hw⟩)
theorem f78 (μ) (S B : Nat → Int) (rn N cap ps : Nat) (off : Int) (s : RdI) (t : WI) (hw : Wr S ps t) (hS : ∀ j,j < ps → 0 ≤ S j ∧ S j < 256) (hb : ps < 1152921504606846976) : FunC Tryz.prog μ 78 [.ptr 0 0] (srG B rn N cap 11 off s t) 11 12
  (fun t : WI=>Wr S ps t ∧ t.n = 0) (fun t=>⟨.v .nilIface,srG B rn N cap 11 off s t,12⟩):=by
 dsimp only [srG]
 refine fE 8 Tryz.func78 fun zw zβ=>?_
 refine cF [0] ?_
 refine rS [0] ?_
 refine GL.seqR ?_
 refine lK 4 [6] ?_
 refine GL.op rfl (cR rfl (f117 _ S ps t hw hS hb) [5,6,7,8,9,10,11] rfl rfl rfl rfl fun t' hw'=>?_)
 refine gF [7] rfl ?_
 refine lF [2] (GK.code ?_)
 refine GC.ret ?_
 refine fR (.inl rfl) rfl (by trivial) (t') [0,1,2,3,4,5,6,7,8,9,10,11] rfl rfl rfl rfl (hw')
theorem m71s : IsMeth Tryz.prog 71 "Seek" 253:=fun v w=>by kernel_rfl
theorem f110_1 (μ) (B : Nat → Int) (rn N cap : Nat) (off : Int) (s : RdI) (t : WI) : Fun Tryz.prog μ 110 [.ptr 0 0,.v (.int .i64 0),.v (.int .i64 1)] (srG B rn N cap 11 off s t) 12
  (fun _ : Unit=>True) (fun _=>⟨.tup [.v (.int .i64 off),.v .nilIface],srG B rn N cap 11 off s t,12⟩):=by
 dsimp only [srG]
 refine fE 62 Tryz.func110 fun zw zβ=>?_
 refine cF [0,1,2,24,25,31,32] ?_
 refine rS [0,1,2,24,25,31,32] ?_
 refine rS [0,1,2,8,24,25,31,32] ?_
 refine GC.seq (GL.seqR ?_)
 refine lK 4 [0,1,2,8,15,24,25,31,32] ?_
 refine GL.vstep rfl (VStep.assertI rfl rfl (by kernel_rfl)) rfl (GL.force [0,1,2,8,16,24,25,31,32] rfl ?_)
 refine lF [0,1,2,8,9,10,24,25,31,32] (GK.code ?_)
 refine rS [0,1,2,8,9,20,24,25,31,32] ?_
 refine GC.condF rfl (GC.seq ?_)
 refine rS [0,1,2,9,33] ?_
 refine GC.condT rfl ?_
 refine rS [6,7] ?_
 refine GC.ret ?_
 refine fR (.inl rfl) rfl (by trivial) () [0,1,2,3,4,5,6,7,8,9,10,11] rfl rfl rfl rfl (trivial)
theorem f110_0 (μ) (B : Nat → Int) (rn N cap : Nat) (off : Int) (s : RdI) (t : WI) (p : Nat) (hp : p ≤ N) (hN2 : N < 1099511627776) : Fun Tryz.prog μ 110 [.ptr 0 0,.v (.int .i64 p),.v (.int .i64 0)] (srG B rn N cap 11 off s t) 12
  (fun s : RdI=>Rd B N p s) (fun s=>⟨.tup [.v (.int .i64 p),.v .nilIface],srG B rn N cap 11 p s t,12⟩):=by
 dsimp only [srG]
 refine fE 62 Tryz.func110 fun zw zβ=>?_
 refine cF [0,1,2,24,25,31,32] ?_
 refine rS [0,1,2,24,25,31,32] ?_
 refine rS [0,1,2,8,24,25,31,32] ?_
 refine GC.seq (GL.seqR ?_)
 refine lK 4 [0,1,2,8,15,24,25,31,32] ?_
 refine GL.vstep rfl (VStep.assertI rfl rfl (by kernel_rfl)) rfl (GL.force [0,1,2,8,16,24,25,31,32] rfl ?_)
 refine lF [0,1,2,8,9,10,24,25,31,32] (GK.code ?_)
 refine rS [0,1,2,8,9,20,24,25,31,32] ?_
 refine GC.condF rfl (GC.seq ?_)
 refine rS [0,1,2,9,33] ?_
 refine GC.condF rfl (GC.skip (GK.code (GL.seqR ?_)))
 refine lK 4 [0,39,40,41,42] ?_
 refine GL.op rfl (iR rfl rfl (m71s) (f253_0 _ B rn N cap s.i s.pr p (by omega)) [3,4] rfl rfl rfl rfl fun _ _=>?_)
 refine gF [0,39,43] rfl ?_
 refine lF [0,8] (GK.code ?_)
 refine GC.draw [(0,0),(1,0),(2,0),(4,0),(5,0),(6,0),(3,1),(7,1),(8,2)] mixed (by kernel_rfl) (by rintro _ _ _ _ ⟨_,_,_,_,h,_⟩ _; cases h) ?_
 refine wK 8 [0,8,51,55] ?_
 refine GW.op rfl rfl (cR rfl (f101 _ _ (.inr rfl) s.r s.w s.lb s.lr p (-1) s.Bf B rn N cap) [1,2,3,4] rfl rfl rfl rfl fun _ _=>?_)
 refine wL [0,8] rfl ?_
 refine wF [0,8] ?_
 refine GK.code ?_
 refine rS [6,7] ?_
 refine GC.ret ?_
 refine fR (.inl rfl) rfl (by trivial) ⟨0,0,-1,-1,p,-1,s.Bf⟩ [0,1,2,3,4,5,6,7,8,9,10,11] rfl rfl rfl rfl (⟨⟨by dsimp only; omega,by dsimp only; omega,by dsimp only; omega⟩,⟨by dsimp only; omega,by dsimp only; omega⟩,fun j h1 h2=>by dsimp only at h1 h2; omega⟩)
theorem f43 (μ) (x : Int) (sh : ShI) : Fun Tryz.prog μ 43 [.slc 0 0 2 2] [(0,.row (wsR 101 1 142 2)),(1,.row (crcR x)),(2,.row (shR 3 sh)),(3,.row (sbR sh))] 4
  (fun _ : Unit=>True) (fun _=>⟨.ifc 153 (.ptr 4 0),[(0,.row (wsR 101 1 142 2)),(1,.row (crcR x)),(2,.row (shR 3 sh)),(3,.row (sbR sh)),(4,.row (mwR 5)),(5,.row (wsR 101 1 142 2))],6⟩):=by
 refine fE 38 Tryz.func43 fun zw zβ=>?_
 refine cF [0] ?_
 refine rS [0] ?_
 refine GL.seqR ?_
 refine lK 2 [0,9] ?_
 refine GL.op rfl (OpW.makeL [(1,.nilIface)] 1 rfl rfl rfl rfl rfl (by decide) (by decide) (by decide) rfl rfl rfl rfl rfl rfl rfl ?_)
 refine gF [0,10] rfl ?_
 refine lF [0,3] (GK.code ?_)
 refine GC.seq ?_
 refine rS [3,11,12,13] ?_
 refine GC.block ?_
 refine GC.loopU 3 ?_
 refine rS [3,11,12,13,14] ?_
 refine GC.seq (GC.condT rfl (GC.skip (GK.code (GC.seq (GC.block ?_)))))
 refine rS [3,5,11,12,13] ?_
 refine GL.seqR ?_
 refine lK 1 [3,5,11,12,13,18] ?_
 refine GL.vstep rfl (VStep.assertF (z:=.pointer none) rfl rfl rfl rfl (fun _=>by kernel_rfl)) rfl (GL.force [3,5,11,12,13,19] rfl ?_)
 refine lF [3,5,6,7,11,12,13] (GK.code ?_)
 refine rS [3,5,6,11,12,13,22] ?_
 refine GC.condF rfl (GC.region ?_)
 refine lK 3 [11,12,13,29,31] ?_
 refine GL.op rfl (OpW.appendIn (m:=1) rfl rfl rfl rfl rfl rfl rfl rfl rfl (by decide) (src_slc rfl rfl (Nat.le_of_ble_eq_true rfl) (fun j hj=>rfl)) (by decide) rfl rfl rfl (by decide) ?_)
 refine gF [11,12,13,32] rfl ?_
 refine lF [3,11,12,13] ?_
 refine GK.code ?_
 refine rG [3,11,12,13] ?_
 refine GK.itr ?_
 refine rS [3,11,12,13,14] ?_
 refine GC.seq (GC.condT rfl (GC.skip (GK.code (GC.seq (GC.block ?_)))))
 refine rS [3,5,11,12,13] ?_
 refine GL.seqR ?_
 refine lK 1 [3,5,11,12,13,18] ?_
 refine GL.vstep rfl (VStep.assertF (z:=.pointer none) rfl rfl rfl rfl (fun _=>by kernel_rfl)) rfl (GL.force [3,5,11,12,13,19] rfl ?_)
 refine lF [3,5,6,7,11,12,13] (GK.code ?_)
 refine rS [3,5,6,11,12,13,22] ?_
 refine GC.condF rfl (GC.region ?_)
 refine lK 3 [11,12,13,29,31] ?_
 refine GL.op rfl (OpW.appendIn (m:=1) rfl rfl rfl rfl rfl rfl rfl rfl rfl (by decide) (src_slc rfl rfl (Nat.le_of_ble_eq_true rfl) (fun j hj=>rfl)) (by decide) rfl rfl rfl (by decide) ?_)
 refine gF [11,12,13,32] rfl ?_
 refine lF [3,11,12,13] ?_
 refine GK.code ?_
 refine rG [3,11,12,13] ?_
 refine GK.itr ?_
 refine rS [3,11,12,13,14] ?_
 refine GC.seq (GC.condF rfl ?_)
 refine GC.exit ?_
 refine GK.code ?_
 refine rS [2] ?_
 refine GC.ret ?_
 refine fR (.inl rfl) rfl (by trivial) () [0,1,2,3,7,4] rfl rfl rfl rfl (trivial)
theorem f60 (μ) (B Bf Wf : Nat → Int) (rn N cap : Nat) (pr x : Int) (sh : ShI) : Fun Tryz.prog μ 60 [.ptr 0 0,.ifc 71 (.ptr 3 0)]
  [(0,.row ⟨.lst [.v .nilIface,.ifc 153 (.ptr 7 0),.ptr 1 0,.ptr 5 0,.v (.int .i64 0)],5,150⟩),(1,.row (rdR 2 (.v .nilIface) 0 0 (-1) (-1))),(2,.row ⟨.ints .u8 Bf,4096,5⟩),(3,.row (brR 4 N cap 0 pr)),(4,.row ⟨.ints .u8 B,rn,5⟩),(5,.row (bwR 6 (.v .nilIface) 0)),(6,.row ⟨.ints .u8 Wf,64,5⟩),(7,.row (mwR 8)),(8,.row (wsR 101 9 142 10)),(9,.row (crcR x)),(10,.row (shR 11 sh)),(11,.row (sbR sh))] 12
  (fun _ : Unit=>True) (fun _=>⟨.tup [],srG B rn N cap 11 0 ⟨0,0,-1,-1,0,-1,Bf⟩ ⟨0,0,Wf,x,sh⟩,12⟩):=by
 refine fE 48 Tryz.func60 fun zw zβ=>?_
 refine cF [0,1] ?_
 refine rS [0] ?_
 refine GC.seq (GC.draw [(0,0),(1,0),(2,0),(4,0),(5,0),(6,0),(3,1),(7,1),(8,2)] mixed (by kernel_rfl) (by rintro _ _ _ _ ⟨_,_,_,_,h,_⟩ _; cases h) ?_)
 refine wK 8 [0,13,17] ?_
 refine GW.op rfl rfl (cR rfl (f101 _ _ (.inl rfl) 0 0 (-1) (-1) 0 pr Bf B rn N cap) [1,2,3,4] rfl rfl rfl rfl fun _ _=>?_)
 refine wL [0] rfl ?_
 refine wF [0] (GK.code ?_)
 refine GC.seq (GC.draw [(0,0),(1,0),(2,0),(4,0),(5,0),(6,0),(3,1),(7,1),(8,2)] mixed (by kernel_rfl) (by rintro _ _ _ _ ⟨_,_,_,_,h,_⟩ _; cases h) ?_)
 refine wK 8 [0,22,26] ?_
 refine GW.op rfl rfl (cR rfl (f102 _ _ (.inl rfl) 0 Wf x sh) [5,6,7,8,9,10,11] rfl rfl rfl rfl fun _ _=>?_)
 refine wL [0] rfl ?_
 refine wF [0] (GK.code ?_)
 refine rS [0] ?_
 refine GL.seqR ?_
 refine lK 4 [0,35] ?_
 refine GL.vstep rfl (VStep.assertI rfl rfl (by kernel_rfl)) rfl (GL.force [0,36] rfl ?_)
 refine lF [0,4,5] (GK.code ?_)
 refine rS [0,4,39] ?_
 refine GC.condT rfl (GC.region ?_)
 refine lK 2 [41,42] ?_
 refine GL.op rfl (iR rfl rfl (m71s) (f253_1 _ B rn N cap 0 pr (by decide) (by decide)) [3,4] rfl rfl rfl rfl fun j hj=>?_)
 subst hj
 refine gF [41,43] rfl ?_
 refine lF [] ?_
 refine fR (.inr rfl) rfl (by trivial) () [0,1,2,3,4,5,6,7,8,9,10,11] rfl rfl rfl rfl (trivial)
theorem f42 (μ) (B : Nat → Int) (rn N cap : Nat) (pr x : Int) (sh : ShI) : Fun Tryz.prog μ 42 [.ifc 71 (.ptr 0 0),.ifc 153 (.ptr 2 0)] [(0,.row (brR 1 N cap 0 pr)),(1,.row ⟨.ints .u8 B,rn,5⟩),(2,.row (mwR 3)),(3,.row (wsR 101 4 142 5)),(4,.row (crcR x)),(5,.row (shR 6 sh)),(6,.row (sbR sh))] 7
  (fun _ : Unit=>True) (fun _=>⟨.ptr 7 0,[(7,.row ⟨.lst [.ifc 71 (.ptr 0 0),.ifc 153 (.ptr 2 0),.ptr 8 0,.ptr 10 0,.v (.int .i64 0)],5,150⟩),(8,.row (rdR 9 (.ifc 71 (.ptr 0 0)) 0 0 (-1) (-1))),(9,.row ⟨.ints .u8 fun _=>0,4096,5⟩),(0,.row (brR 1 N cap 0 (-1))),(1,.row ⟨.ints .u8 B,rn,5⟩),(10,.row (bwR 11 (.ifc 153 (.ptr 2 0)) 0)),(11,.row ⟨.ints .u8 fun _=>0,64,5⟩),(2,.row (mwR 3)),(3,.row (wsR 101 4 142 5)),(4,.row (crcR x)),(5,.row (shR 6 sh)),(6,.row (sbR sh))],12⟩):=by
 refine fE 15 Tryz.func42 fun zw zβ=>?_
 refine cF [0,1] ?_
 refine rS [0,1] ?_
 refine GL.seqR ?_
 refine GL.op rfl (cR rfl (f58 _) [] rfl rfl rfl rfl fun _ _=>?_)
 refine gF [0,1,6] rfl ?_
 refine GL.op rfl (cR rfl (f59 _) [] rfl rfl rfl rfl fun _ _=>?_)
 refine gF [0,1,6,7] rfl ?_
 refine lF [0,5] (GK.code ?_)
 refine GL.seqR ?_
 refine lK 2 [5,11,12] ?_
 refine GL.op rfl (cR rfl (f60 _ B _ _ rn N cap pr x sh) [11,7,8,0,1,9,10,2,3,4,5,6] rfl rfl rfl rfl fun _ _=>?_)
 refine gF [5] rfl ?_
 refine lF [5] (GK.code ?_)
 refine rS [4] ?_
 refine GC.ret ?_
 refine fR (.inl rfl) rfl (by trivial) () [0,1,2,3,4,5,6,11,7,8,9,10] rfl rfl rfl rfl (trivial)
def scR (r c h : Nat) (po : SV) (v o : Int) : Row:=⟨.lst [.ptr r 0,.ifc 101 (.ptr c 0),.ifc 142 (.ptr h 0),po,.v (.int .u32 v),.v (.int .u32 o),.v (.bool true)],7,116⟩
theorem f24 (μ) (B : Nat → Int) (rn N cap : Nat) (pr : Int) : Fun Tryz.prog μ 24 [.ifc 71 (.ptr 0 0)] [(0,.row (brR 1 N cap 0 pr)),(1,.row ⟨.ints .u8 B,rn,5⟩)] 2
  (fun i : ShI=>∀ S,Abs S 0 i) (fun i=>⟨.ptr 12 0,[(2,.row ⟨.lst [.ifc 71 (.ptr 0 0),.ifc 153 (.ptr 7 0),.ptr 3 0,.ptr 5 0,.v (.int .i64 0)],5,150⟩),(3,.row (rdR 4 (.ifc 71 (.ptr 0 0)) 0 0 (-1) (-1))),(4,.row ⟨.ints .u8 fun _=>0,4096,5⟩),(0,.row (brR 1 N cap 0 (-1))),(1,.row ⟨.ints .u8 B,rn,5⟩),(5,.row (bwR 6 (.ifc 153 (.ptr 7 0)) 0)),(6,.row ⟨.ints .u8 fun _=>0,64,5⟩),
   (7,.row (mwR 8)),(8,.row (wsR 101 9 142 10)),(9,.row (crcR 0)),(10,.row (shR 11 i)),(11,.row (sbR i)),(12,.row (scR 2 9 10 (.v (.pointer none)) 0 0))],13⟩):=by
 refine fE 28 Tryz.func24 fun zw zβ=>?_
 refine cF [0] ?_
 refine rS [0] ?_
 refine GL.seqR ?_
 refine lK 1 [0,8] ?_
 refine GL.vstep rfl (VStep.assertI rfl rfl (by kernel_rfl)) rfl (GL.force [0,9] rfl ?_)
 refine lF [0,4] (GK.code ?_)
 refine rS [0,4,5] ?_
 refine GL.seqR ?_
 refine GL.op rfl (cR rfl (f41 _) [] rfl rfl rfl rfl fun i hi=>?_)
 refine gF [0,4,5,14] rfl ?_
 refine lF [0,4,5,6] (GK.code ?_)
 refine GL.seqR ?_
 refine lK 5 [4,5,6,15,19] ?_
 refine GL.op rfl (cR rfl (f43 _ 0 i) [5,2,3,4] rfl rfl rfl rfl fun _ _=>?_)
 refine gF [4,5,6,15,20] rfl ?_
 refine GL.op rfl (cR rfl (f42 _ B rn N cap pr 0 i) [0,1,6,7,2,3,4] rfl rfl rfl rfl fun _ _=>?_)
 refine gF [4,5,6,21] rfl ?_
 refine lF [2] (GK.code ?_)
 refine GC.ret ?_
 refine fR (.inl rfl) rfl (by trivial) i [0,1,8,9,10,11,12,6,7,2,3,4,13] rfl rfl rfl rfl (hi)
end Go.Proofs.YtebadfmnmhmfeaaGreatDoor.T
