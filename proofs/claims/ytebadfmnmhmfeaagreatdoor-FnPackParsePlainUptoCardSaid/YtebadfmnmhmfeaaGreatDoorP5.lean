/- What the functions of the program do, one contract each (P13, P14, P15, P16, P17); each states its own conditions. -/
import Derived.Test.YtebadfmnmhmfeaaGreatDoorP4
namespace Go.Proofs.YtebadfmnmhmfeaaGreatDoor.T
open Go.Proofs.YtebadfmnmhmfeaaGreatDoor.Sx Go.RowKit
set_option maxRecDepth 20000
set_option linter.unusedSimpArgs false
set_option linter.unusedVariables false
set_option linter.unnecessarySimpa false
set_option linter.unusedSectionVars false
theorem f268v (μ) (B : Nat → Int) (D : Nat → Value) (rn N cap p doff m dcap drn de : Nat) (s : RdI) (hs : Rd B N p s) (hp : p < N) (hN : N ≤ rn) (hcap : N ≤ cap) (hN2 : N < 1099511627776) (hB : ∀ j,j < N → 0 ≤ B j ∧ B j < 256) (hm : 0 < m) (hd : doff + m ≤ drn) (hm2 : m < 4096) :
  Fun Tryz.prog μ 268 [.ptr 0 0,.slc 4 doff m dcap] (rdG B rn N cap s ++ [(4,.row ⟨.vals D,drn,de⟩)]) 5
  (fun x : Nat × RdI=>0 < x.1 ∧ x.1 ≤ m ∧ Rd B N (p + x.1) x.2)
  (fun x=>⟨.tup [.v (.int .i64 (x.1 : Nat)),.v .nilIface],rdG B rn N cap x.2 ++ [(4,.row ⟨.vals (cpV .u8 D (fun j=>B (p + j)) doff x.1),drn,de⟩)],5⟩):=by
 obtain ⟨r,w,lb,lr,i,pr,Bf⟩:=s
 obtain ⟨⟨h1,h2,h3⟩,⟨h4,h5⟩,h6⟩:=hs
 dsimp only at h1 h2 h3 h4 h5 h6
 dsimp only [rdG,List.cons_append,List.nil_append]
 refine fE 151 Tryz.func268 fun zw zβ=>?_
 refine cF [0,1] ?_
 refine rS [0,1] ?_
 refine rS [0,1,4] ?_
 refine GC.seq ?_
 refine rS [0,1,9] ?_
 refine GC.cond rfl (fun hc0=>?_) (fun hc0=>?_)
 ·have hc0 : (m : Int) = 0:=by simpa using hc0
  omega
 ·have hc0 : ¬ ((m : Int) = 0):=by simpa using hc0
  refine GC.skip (GK.code (GC.seq ?_))
  refine GC.seq (GC.draw [(0,0),(1,0),(2,0),(4,0),(5,0),(6,0),(3,1),(7,1),(8,0)] mixed (by kernel_rfl) (by rintro _ _ _ _ ⟨_,_,_,_,h,_⟩ _; cases h) ?_)
  refine wF [0,1,23] (GK.code ?_)
  refine GC.cond rfl (fun hc=>?_) (fun hc=>?_)
  ·have hc : r = w:=by simpa using hc
   refine GC.seq ?_
   refine rS [0,1,28] ?_
   refine GC.condF rfl (GC.skip (GK.code (GC.seq ?_)))
   refine rS [0,1,38] ?_
   refine GC.cond rfl (fun hc2=>?_) (fun hc2=>?_)
   ·have hc2 : (4096 : Int) ≤ (m : Int):=by simpa using hc2
    omega
   ·have hc2 : ¬ ((4096 : Int) ≤ (m : Int)):=by simpa using hc2
    refine GC.skip (GK.code ?_)
    refine rS [0,1] ?_
    refine rS [0,1] ?_
    refine GC.seq (GC.draw [(0,0),(1,0),(2,0),(3,0),(5,0),(6,0),(7,0),(4,1),(9,0),(10,0),(8,1),(11,2),(12,0),(13,0),(14,0),(15,0),(16,0),(17,0),(18,2)] mixed (by kernel_rfl) (by rintro _ _ _ _ ⟨_,_,_,_,h,_⟩ _; cases h) ?_)
    refine wK 11 [0,1,78,86,88] ?_
    refine GW.op rfl rfl (iR rfl rfl (m71) (f250 _ B _ _ _ _ _ _ _ _ _ _ (by omega) (by omega) hN hcap hN2 (by omega)) [2,3,1] rfl rfl rfl rfl fun x hx=>?_)
    obtain ⟨n,D2⟩:=x
    obtain ⟨hx1,hx2⟩:=hx
    dsimp only at hx1 hx2
    dsimp only
    refine wL [0,1,78,89] rfl ?_
    refine wF [0,1,4] (GK.code ?_)
    refine GC.seq ?_
    refine rS [0,1,4,95] ?_
    refine GC.cond rfl (fun hn=>?_) (fun hn=>?_)
    ·have hn : (n : Int) < 0:=by simpa using hn
     omega
    ·have hn : ¬ ((n : Int) < 0):=by simpa using hn
     refine GC.skip (GK.code (GC.seq ?_))
     refine rS [0,1,4,98] ?_
     refine GC.cond rfl (fun hn2=>?_) (fun hn2=>?_)
     ·have hn2 : (n : Int) = 0:=by simpa using hn2
      omega
     ·have hn2 : ¬ ((n : Int) = 0):=by simpa using hn2
      have hb2 : ∀ j : Nat,(j : Int) < 0 + n → D2 j = B (p + j):=by
       intro j hj
       rw [hx2 j,if_pos (by omega)]; congr 1; omega
      refine GC.skip (GK.code ?_)
      refine rG [0,1] ?_
      refine GK.code ?_
      refine GC.seq (GC.draw [(0,0),(1,0),(2,0),(3,0),(5,0),(6,0),(7,0),(9,0),(10,0),(11,0),(4,1),(8,1),(12,1),(13,0),(14,2),(15,0)] mixed (by kernel_rfl) (by rintro _ _ _ _ ⟨_,_,_,_,h,_⟩ _; cases h) ?_)
      refine wK 14 [0,109,122] ?_
      refine GW.op rfl rfl (OpW.copyV (k:=.u8) (m:=(0 + (n : Int)).toNat - (0 : Int).toNat) (N:=fun j=>D2 (offS 4096 (0 : Int).toNat 0 1 + j)) rfl rfl rfl rfl rfl rfl (hd) (src_slc rfl rfl (by have:=offS1_le 4096 (0 : Int).toNat 0; show offS 4096 (0 : Int).toNat 0 1 + ((0 + (n : Int)).toNat - (0 : Int).toNat) * 1 ≤ 4096; omega) (fun j hj=>rfl)) rfl ?_)
      have hmn : min ((0 + (n : Int)).toNat - (0 : Int).toNat) m = min n m:=by congr 1; omega
      rw [hmn]
      have e1:=hb2 (0 + (0 + ((min n m : Nat) : Int) - 1).toNat * 1) (by omega)
      have e2:=hB (p + (0 + (0 + ((min n m : Nat) : Int) - 1).toNat * 1)) (by omega)
      rw [← e1] at e2
      have hg : cpV .u8 D (fun j=>D2 (offS 4096 (0 : Int).toNat 0 1 + j)) doff (min n m) = cpV .u8 D (fun j=>B (p + j)) doff (min n m):=by
       funext j
       unfold cpV
       by_cases e : doff ≤ j ∧ j < doff + min n m
       ·rw [if_pos e,if_pos e]; show Value.int .u8 (D2 (offS 4096 0 0 1 + (j - doff))) = _; rw [offS_zero,Nat.zero_add,hb2 _ (by omega)]
       ·rw [if_neg e,if_neg e]
      rw [hg]
      refine wL [0,123] rfl ?_
      refine wF [0,4] (GK.code ?_)
      refine rS [0,4] ?_
      refine GC.seq (GC.draw [(0,0),(1,0),(2,0),(3,0),(5,0),(6,0),(7,0),(4,1),(8,1),(9,0),(10,0),(11,1),(12,0),(13,0),(14,0),(15,2)] mixed (by kernel_rfl) (by rintro _ _ _ _ ⟨_,_,_,_,h,_⟩ _; cases h) ?_)
      refine wF [0,4] (GK.code ?_)
      refine rS [4] ?_
      refine rS [4,5] ?_
      refine GC.ret ?_
      refine fR (.inl rfl) rfl (by trivial) ((min n m,⟨_,_,_,_,_,_,D2⟩)) [0,1,2,3,4] rfl rfl rfl rfl (⟨?_,?_,⟨?_,?_,?_⟩⟩)
      ·dsimp only; omega
      ·dsimp only; omega
      ·dsimp only; omega
      ·dsimp only; omega
      ·dsimp only; intro j hj hj2; rw [hb2 j (by omega)]; congr 1; omega
  ·have hc : ¬ (r = w):=by simpa using hc
   refine GC.skip (GK.code ?_)
   refine GC.seq (GC.draw [(0,0),(1,0),(2,0),(3,0),(5,0),(6,0),(7,0),(9,0),(10,0),(11,0),(4,1),(8,1),(12,1),(13,0),(14,2),(15,0)] mixed (by kernel_rfl) (by rintro _ _ _ _ ⟨_,_,_,_,h,_⟩ _; cases h) ?_)
   refine wK 14 [0,109,122] ?_
   refine GW.op rfl rfl (OpW.copyV (k:=.u8) (m:=w.toNat - r.toNat) (N:=fun j=>Bf (offS 4096 r.toNat 0 1 + j)) rfl rfl rfl rfl rfl rfl (hd) (src_slc rfl rfl (by have:=offS1_le 4096 r.toNat 0; show offS 4096 r.toNat 0 1 + (w.toNat - r.toNat) * 1 ≤ 4096; omega) (fun j hj=>rfl)) rfl ?_)
   have hoff : offS 4096 r.toNat 0 1 = r.toNat:=by rw [offS_lt (by omega),Nat.zero_add]
   generalize hk : min (w.toNat - r.toNat) m = k
   have e1:=h6 (0 + (r + ((k : Nat) : Int) - 1).toNat * 1) (by omega) (by omega)
   have e2:=hB (p + (0 + (r + ((k : Nat) : Int) - 1).toNat * 1 - r.toNat)) (by omega)
   rw [← e1] at e2
   have hg : cpV .u8 D (fun j=>Bf (offS 4096 r.toNat 0 1 + j)) doff k = cpV .u8 D (fun j=>B (p + j)) doff k:=by
    funext j
    unfold cpV
    by_cases e : doff ≤ j ∧ j < doff + k
    ·rw [if_pos e,if_pos e,hoff]; dsimp only; rw [h6 _ (by omega) (by omega)]; congr 2; omega
    ·rw [if_neg e,if_neg e]
   rw [hg]
   refine wL [0,123] rfl ?_
   refine wF [0,4] (GK.code ?_)
   refine rS [0,4] ?_
   refine GC.seq (GC.draw [(0,0),(1,0),(2,0),(3,0),(5,0),(6,0),(7,0),(4,1),(8,1),(9,0),(10,0),(11,1),(12,0),(13,0),(14,0),(15,2)] mixed (by kernel_rfl) (by rintro _ _ _ _ ⟨_,_,_,_,h,_⟩ _; cases h) ?_)
   refine wF [0,4] (GK.code ?_)
   refine rS [4] ?_
   refine rS [4,5] ?_
   refine GC.ret ?_
   refine fR (.inl rfl) rfl (by trivial) ((k,⟨_,_,_,_,_,_,Bf⟩)) [0,1,2,3,4] rfl rfl rfl rfl (⟨?_,?_,⟨?_,?_,?_⟩⟩)
   ·dsimp only; omega
   ·dsimp only; omega
   ·dsimp only; omega
   ·dsimp only; omega
   ·dsimp only; intro j hj hj2; rw [h6 j (by omega) (by omega)]; congr 1; omega
def WC (F : Nat → Value) (prn pe : Nat) (o l c nn q n : Nat) (Wf : Nat → Int) (x : Int) (sh : ShI) : S:=⟨[(0,.ptr 0 0),(1,.slc 6 o l c),(4,.v (.int .i64 nn))],wrE 7 n Wf x sh ++ [(6,.row ⟨.vals F,prn,pe⟩),(7,.row (sbR sh))],8,[]⟩
structure IWc (B : Nat → Int) (F : Nat → Value) (p m prn : Nat) (o l c nn q n : Nat) (Wf : Nat → Int) (x : Int) (sh : ShI) : Prop where
 hl : l ≤ m ∧ nn = m - l
 hc : l ≤ c
 hr : o + l ≤ prn
 hF : ∀ j,j < l → F (o + j) = .int .u8 (B (p + (m - l) + j))
 hw : Wr B (p + (m - l)) ⟨q,n,Wf,x,sh⟩
theorem f269v (μ) (B : Nat → Int) (F : Nat → Value) (p off m cap prn pe : Nat) (s : WI) (hs : Wr B p s) (hr : off + m ≤ prn) (hc : m ≤ cap) (hF : ∀ j,j < m → F (off + j) = .int .u8 (B (p + j))) (hB : ∀ j,j < p + m → 0 ≤ B j ∧ B j < 256) (hp : p + m < 1152921504606846976) (hm : m ≤ 64) :
  FunC Tryz.prog μ 269 [.ptr 0 0,.slc 6 off m cap] (wrG 7 s ++ [(6,.row ⟨.vals F,prn,pe⟩),(7,.row (sbR s.sh))]) 7 8
  (fun t : WI=>Wr B (p + m) t) (fun t=>⟨.tup [.v (.int .i64 m),.v .nilIface],wrG 7 t ++ [(6,.row ⟨.vals F,prn,pe⟩),(7,.row (sbR t.sh))],8⟩):=by
 obtain ⟨q,n,Wf,x,sh⟩:=s
 dsimp only [wrG,wrE,List.cons_append,List.nil_append]
 refine fE 95 Tryz.func269 fun zw zβ=>?_
 refine cF [0,1,14,15,16,17,18] ?_
 refine rS [0,1,4,14,15,16,17,18] ?_
 refine GC.seq (GC.block ?_)
 refine GC.loopE (ι:=(Nat) × (Nat) × (Nat) × (Nat) × (Nat) × (Nat) × (Nat → Int) × (Int) × (ShI)) (fun zi=>(IWc B F p m prn) zi.1 zi.2.1 zi.2.2.1 zi.2.2.2.1 zi.2.2.2.2.1 zi.2.2.2.2.2.1 zi.2.2.2.2.2.2.1 zi.2.2.2.2.2.2.2.1 zi.2.2.2.2.2.2.2.2) (fun zi=>(fun o l c nn q n Wf x sh=>(l + n : Nat)) zi.1 zi.2.1 zi.2.2.1 zi.2.2.2.1 zi.2.2.2.2.1 zi.2.2.2.2.2.1 zi.2.2.2.2.2.2.1 zi.2.2.2.2.2.2.2.1 zi.2.2.2.2.2.2.2.2) (fun zi=>(WC F prn pe) zi.1 zi.2.1 zi.2.2.1 zi.2.2.2.1 zi.2.2.2.2.1 zi.2.2.2.2.2.1 zi.2.2.2.2.2.2.1 zi.2.2.2.2.2.2.2.1 zi.2.2.2.2.2.2.2.2) ((off,m,cap,0,q,n,Wf,x,sh)) [0,1,2,3,4,5,6,7] (show (IWc B F p m prn) (off) (m) (cap) (0) (q) (n) (Wf) (x) (sh) from ?_) (Ent.R rfl rfl rfl rfl) ?_
 ·exact ⟨⟨Nat.le_refl _,by omega⟩,hc,hr,fun j hj=>by rw [hF j hj]; congr 2; omega,by rw [show p + (m - m) = p from by omega]; exact hs⟩
 rintro ⟨o,l,c,nn,q,n,Wf,x,sh⟩ hI
 change (IWc B F p m prn) o l c nn q n Wf x sh at hI
 have hI2:=hI
 change GC _ _ _ ((WC F prn pe) o l c nn q n Wf x sh)
 obtain ⟨⟨g1,g2⟩,g3,g4,g5,g6⟩:=hI2
 have g7:=g6
 obtain ⟨h1,h2,h3,h4⟩:=g7
 dsimp only at h1 h2 h3 h4
 unfold WC
 dsimp only [wrG,wrE,List.cons_append,List.nil_append]
 refine cF [0,1,4,14,15,16,17,18] ?_
 refine GC.seq (GL.seqR ?_)
 refine lK 3 [0,1,4,9,10,14,15,16,17,18] ?_
 refine GL.op rfl (cR rfl (f194 _ n Wf x sh h2) [0,1,2,3,4,5,7] rfl rfl rfl rfl fun _ _=>?_)
 refine gF [0,1,4,9,11,14,15,16,17,18] rfl ?_
 refine lK 2 [0,1,4,13,14,15,16,17,18] ?_
 refine GL.spl 13 rfl rfl rfl (fun hl=>?_) (fun hl=>?_)
 ·have hl : 64 - (n : Int) < (l : Int):=by simpa using hl
  refine lF [0,1,4,14,15,16,17,18,19] (GK.code ?_)
  refine GC.condT rfl (GC.skip (GK.code (GC.block ?_)))
  refine rS [0,1,4,14,15,16,17,18] ?_
  refine GC.seq (GL.seqR ?_)
  refine lK 1 [0,1,4,14,15,16,17,18,20] ?_
  refine GL.op rfl (cR rfl (f271 _ n Wf x sh) [0,1,2,3,4,5,7] rfl rfl rfl rfl fun _ _=>?_)
  refine gF [0,1,4,14,15,16,17,18,21] rfl ?_
  refine lF [0,1,4,14,15,16,17,18,22] (GK.code ?_)
  refine GC.cond rfl (fun hn=>?_) (fun hn=>?_)
  ·have hn : (n : Int) = 0:=by simpa using hn
   omega
  ·have hn : ¬ ((n : Int) = 0):=by simpa using hn
   refine GC.seq (GC.draw [(0,0),(1,0),(2,0),(4,0),(5,0),(6,0),(9,0),(3,1),(7,1),(8,0),(10,2),(11,0)] mixed (by kernel_rfl) (by rintro _ _ _ _ ⟨_,_,_,_,h,_⟩ _; cases h) ?_)
   refine wK 10 [0,1,4,14,15,16,17,18,43,44] ?_
   refine GW.op rfl rfl (OpW.copyI (m:=l) (N:=fun j=>B (p + (m - l) + j)) rfl rfl rfl rfl rfl rfl (by have:=offS1_le 64 (n : Int).toNat 0; omega) (src_slc rfl rfl (by show o + l * 1 ≤ prn; omega) (fun j hj=>congrArg SV.v (g5 j (by omega)))) rfl ?_)
   have hmin : min l (64 - n) = 64 - n:=by omega
   rw [Int.toNat_natCast,hmin]
   have hw : Wr B (p + (m - l) + (64 - n)) ⟨q,n + (64 - n),cpI Wf (fun j=>B (p + (m - l) + j)) (offS 64 n 0 1) (64 - n),x,sh⟩:=by
    have ho : offS 64 n 0 1 = n ∨ n = 64:=by
     by_cases e : n = 64
     ·exact .inr e
     ·left; rw [offS_lt (by omega)]; omega
    refine ⟨by dsimp only; omega,by dsimp only; omega,?_,h4⟩
    dsimp only
    intro j hj
    unfold cpI
    by_cases e : offS 64 n 0 1 ≤ j ∧ j < offS 64 n 0 1 + (64 - n)
    ·rw [if_pos e]; show B (p + (m - l) + (j - offS 64 n 0 1)) = _; congr 1; omega
    ·rw [if_neg e]; exact h3 j (by omega)
   refine wL [0,1,4,14,15,16,17,18,45] rfl ?_
   refine wF [0,1,4,6,14,15,16,17,18] (GK.code ?_)
   refine rS [0,1,4,6,14,15,16,17,18] ?_
   refine GC.region ?_
   refine lK 1 [0,1,4,6,14,15,16,17,18,54] ?_
   refine GL.op rfl (cR rfl (f117 _ B (p + (m - l) + (64 - n)) _ hw (fun j hj=>hB j (by omega)) (by omega)) [0,1,2,3,4,5,7] rfl rfl rfl rfl fun t ht=>?_)
   obtain ⟨q2,n2,Wf2,x2,sh2⟩:=t
   obtain ⟨⟨e1,e2,e3,e4⟩,e5⟩:=ht
   dsimp only at e1 e2 e3 e4 e5
   subst e5
   dsimp only
   refine gF [0,1,4,6,14,15,16,17,18] rfl ?_
   refine lF [0,1,4,6,14,15,16,17,18] ?_
   refine GK.code ?_
   refine rS [0,1,4,6,14,15,16,17,18] ?_
   refine rG [0,1,4,14,15,16,17,18] ?_
   refine GK.back (offS c (64 - n) o 1,l - (64 - n),c - (64 - n),nn + (64 - n),q2,0,Wf2,x2,sh2) [0,1,2,3,4,5,6,7] (show (IWc B F p m prn) (offS c (64 - n) o 1) (l - (64 - n)) (c - (64 - n)) (nn + (64 - n)) (q2) (0) (Wf2) (x2) (sh2) from ?_) ?_ (Ent.R rfl rfl rfl rfl)
   ·have ho:=offS_lt (cap:=c) (l:=64 - n) (o:=o) (by omega)
    refine ⟨by omega,by omega,by omega,fun j hj=>?_,?_,?_,?_,?_⟩
    ·rw [ho,show o + (64 - n) + j = o + (64 - n + j) from by omega,g5 _ (by omega)]; congr 2; omega
    ·dsimp only; omega
    ·dsimp only; omega
    ·dsimp only; intro j hj; omega
    ·exact e4
   ·dsimp only; omega
 ·have hl : ¬ (64 - (n : Int) < (l : Int)):=by simpa using hl
  refine lF [0,1,4,14,15,16,17,18,19] (GK.code ?_)
  refine GC.condF rfl ?_
  refine GC.exit ?_
  refine GK.code (GC.seq ?_)
  refine rS [0,1,4,66] ?_
  refine GC.condF rfl (GC.skip (GK.code ?_))
  refine GC.seq (GC.draw [(0,0),(1,0),(2,0),(4,0),(5,0),(6,0),(9,0),(3,1),(7,1),(8,0),(10,2),(11,0)] mixed (by kernel_rfl) (by rintro _ _ _ _ ⟨_,_,_,_,h,_⟩ _; cases h) ?_)
  refine wK 10 [0,4,80,81] ?_
  refine GW.op rfl rfl (OpW.copyI (m:=l) (N:=fun j=>B (p + (m - l) + j)) rfl rfl rfl rfl rfl rfl (by have:=offS1_le 64 (n : Int).toNat 0; omega) (src_slc rfl rfl (by show o + l * 1 ≤ prn; omega) (fun j hj=>congrArg SV.v (g5 j (by omega)))) rfl ?_)
  have hmin : min l (64 - n) = l:=by omega
  rw [Int.toNat_natCast,hmin]
  have hml : m = nn + l:=by omega
  subst hml
  refine wL [0,4,82] rfl ?_
  refine wF [0,4,7] (GK.code ?_)
  refine rS [4,7] ?_
  refine rS [4] ?_
  refine rS [4,5] ?_
  refine GC.ret ?_
  refine fR (.inl rfl) rfl (by trivial) ⟨q,n + l,cpI Wf (fun j=>B (p + (nn + l - l) + j)) (offS 64 n 0 1) l,x,sh⟩ [0,1,2,3,4,5,6,7] rfl rfl rfl rfl (⟨?_,?_,?_,?_⟩)
  ·dsimp only; omega
  ·dsimp only; omega
  ·have ho : offS 64 n 0 1 = n ∨ n = 64:=by
    by_cases e : n = 64
    ·exact .inr e
    ·left; rw [offS_lt (by omega)]; omega
   dsimp only
   intro j hj
   unfold cpI
   by_cases e : offS 64 n 0 1 ≤ j ∧ j < offS 64 n 0 1 + l
   ·rw [if_pos e]; show B (p + (nn + l - l) + (j - offS 64 n 0 1)) = _; congr 1; omega
   ·rw [if_neg e]; exact h3 j (by omega)
  ·exact h4
theorem f267v (μ) (B S : Nat → Int) (D : Nat → Value) (rn N cap p ps doff m dcap drn de : Nat) (s : RdI) (t : WI) (d : Dat B rn N cap) (h : Sr B S N p ps s t) (hp : p < N) (hm : 0 < m) (hd : doff + m ≤ drn) (hmc : m ≤ dcap) (hm2 : m ≤ 64) : FunC Tryz.prog μ 267 [.ptr 0 0,.slc 11 doff m dcap] (srG B rn N cap 12 p s t ++ [(11,.row ⟨.vals D,drn,de⟩)]) 12 13
  (fun x : Nat × RdI × WI=>0 < x.1 ∧ x.1 ≤ m ∧ p + x.1 ≤ N ∧ Rd B N (p + x.1) x.2.1 ∧ Wr S (ps + x.1) x.2.2)
  (fun x=>⟨.tup [.v (.int .i64 (x.1 : Nat)),.v .nilIface],srG B rn N cap 12 ((p : Int) + (x.1 : Nat)) x.2.1 x.2.2 ++ [(11,.row ⟨.vals (cpV .u8 D (fun j=>B (p + j)) doff x.1),drn,de⟩)],13⟩):=by
 have hN2:=d.hN2
 dsimp only [srG,List.cons_append,List.nil_append]
 refine fE 40 Tryz.func267 fun zw zβ=>?_
 refine cF [0,1] ?_
 refine rS [0,1] ?_
 refine GL.seqR ?_
 refine lK 5 [0,1,12,13] ?_
 refine GL.op rfl (cR rfl (f268v _ B D rn N cap p doff m dcap drn de s h.hr hp d.hN d.hcap d.hN2 d.hB hm hd (by omega)) [1,2,3,4,11] rfl rfl rfl rfl fun y hy=>?_)
 obtain ⟨n,s'⟩:=y
 obtain ⟨e1,e2,e3⟩:=hy
 dsimp only at e1 e2 e3
 have e5 : p + n ≤ N:=by have:=e3.hr; have:=e3.hi; omega
 dsimp only
 have ho:=offS_zero dcap doff 1
 refine gF [0,1,14] rfl ?_
 refine lF [0,1,4,5] (GK.code ?_)
 refine rS [0,1,4,5] ?_
 refine GC.seq ?_
 refine GC.seq (GC.draw [(0,0),(1,0),(2,0),(4,0),(5,0),(6,0),(3,1),(7,2),(8,0),(9,0),(10,0),(11,0),(12,0)] mixed (by kernel_rfl) (by rintro _ _ _ _ ⟨_,_,_,_,h,_⟩ _; cases h) ?_)
 refine wK 7 [4,5,29,32] ?_
 refine GW.op rfl rfl (cR rfl (f269v _ S (cpV .u8 D (fun j=>B (p + j)) doff n) ps (offS dcap 0 doff 1) ((n : Int).toNat - 0) (dcap - 0) drn de t h.hw (by omega) (by omega) (fun j hj=>by unfold cpV; rw [if_pos (by omega),h.hl j (by omega)]; congr 2; omega) (h.le d e5) (by have:=h.hb; omega) (by omega)) [5,6,7,8,9,10,11,12] rfl rfl rfl rfl fun t' hw=>?_)
 refine wL [4,5,33] rfl ?_
 refine wF [4,5,7] (GK.code ?_)
 refine rS [4,5,7,37] ?_
 refine GC.condF rfl (GC.skip (GK.code (GC.ret ?_)))
 refine fR (.inl rfl) rfl (by trivial) ((n,s',t')) [0,1,2,3,4,5,6,7,8,9,10,11,12] rfl rfl rfl rfl (⟨e1,e2,e5,e3,hw⟩)
theorem m107 : IsMeth Tryz.prog 107 "Read" 267:=fun v w=>by kernel_rfl
def WD (fe : Nat) (B : Nat → Int) (rn N cap off m dcap drn : Nat) (k : Nat) (o : Int) (D : Nat → Int) (s : RdI) (t : WI) : S:=⟨[(0,.ifc 107 (.ptr 0 0)),(1,.slc 11 off m dcap),(2,.v (.int .i64 m)),(6,.v (.int .i64 k)),(7,.v .nilIface)],srG B rn N cap 12 o s t ++ [(11,.row ⟨.ints .u8 D,drn,fe⟩)],13,[]⟩
structure IWD (B S : Nat → Int) (D0 : Nat → Int) (N p ps off m : Nat) (k : Nat) (o : Int) (D : Nat → Int) (s : RdI) (t : WI) : Prop where
 hk : k ≤ m
 ho : o = ((p + k : Nat) : Int)
 hD : ∀ j,D j = if off ≤ j ∧ j < off + k then B (p + (j - off)) else D0 j
 hs : Sr B S N (p + k) (ps + k) s t
theorem f156 (μ) {fe : Nat} (B S : Nat → Int) (D : Nat → Int) (rn N cap p ps off m dcap drn : Nat) (s : RdI) (t : WI) (d : Dat B rn N cap) (h : Sr B S N p ps s t) (hp : p + m ≤ N) (hd : off + m ≤ drn) (hmc : m ≤ dcap) : FunC Tryz.prog μ 156 [.ifc 107 (.ptr 0 0),.slc 11 off m dcap,.v (.int .i64 m)] (srG B rn N cap 12 p s t ++ [(11,.row ⟨.ints .u8 D,drn,fe⟩)]) 12 13
  (fun x : (Nat → Int) × RdI × WI=>(∀ j,x.1 j = if off ≤ j ∧ j < off + m then B (p + (j - off)) else D j) ∧ Sr B S N (p + m) (ps + m) x.2.1 x.2.2)
  (fun x=>⟨.tup [.v (.int .i64 m),.v .nilIface],srG B rn N cap 12 ((p + m : Nat) : Int) x.2.1 x.2.2 ++ [(11,.row ⟨.ints .u8 x.1,drn,fe⟩)],13⟩):=by
 have hN2:=d.hN2
 dsimp only [srG,List.cons_append,List.nil_append]
 refine fE 46 Tryz.func156 fun zw zβ=>?_
 refine cF [0,1,2,18,19,41,42,43] ?_
 refine rS [0,1,2,6,7,18,19,41,42,43] ?_
 refine GC.seq ?_
 refine rS [0,1,2,6,7,12,18,19,41,42,43] ?_
 refine GC.cond rfl (fun hz=>?_) (fun hz=>?_)
 ·have hz : (m : Int) < (m : Int):=by simpa using hz
  omega
 ·have hz : ¬ ((m : Int) < (m : Int)):=by simpa using hz
  refine GC.skip (GK.code (GC.seq (GC.block ?_)))
  refine GC.loopE (ι:=(Nat) × (Int) × (Nat → Int) × (RdI) × (WI)) (fun zi=>(IWD B S D N p ps off m) zi.1 zi.2.1 zi.2.2.1 zi.2.2.2.1 zi.2.2.2.2) (fun zi=>(fun k o E s t=>(m - k : Nat)) zi.1 zi.2.1 zi.2.2.1 zi.2.2.2.1 zi.2.2.2.2) (fun zi=>(WD fe B rn N cap off m dcap drn) zi.1 zi.2.1 zi.2.2.1 zi.2.2.2.1 zi.2.2.2.2) ((0,(p : Int),D,s,t)) [0,1,2,3,4,5,6,7,8,9,10,11,12] (show (IWD B S D N p ps off m) (0) ((p : Int)) (D) (s) (t) from ?_) (Ent.R rfl rfl rfl rfl) ?_
  ·exact ⟨Nat.zero_le _,rfl,fun j=>by rw [if_neg (by omega)],h⟩
  rintro ⟨k,o,E,s,t⟩ hI
  change (IWD B S D N p ps off m) k o E s t at hI
  obtain ⟨hk,ho,hD,hs⟩:=hI
  change GC _ _ _ ((WD fe B rn N cap off m dcap drn) k o E s t)
  subst ho
  unfold WD
  dsimp only [srG,List.cons_append,List.nil_append]
  refine cF [0,1,2,6,7,18,19,41,42,43] ?_
  refine GC.seq (GL.seqR ?_)
  refine lK 4 [0,1,2,6,7,17,18,19,41,42,43] ?_
  refine GL.spl 17 rfl rfl rfl (fun hn=>?_) (fun hn=>?_)
  ·have hn : (k : Int) < (m : Int):=by simpa using hn
   refine lF [0,1,2,6,7,18,19,20,41,42,43] (GK.code ?_)
   refine GC.condT rfl (GC.skip (GK.code (GC.block ?_)))
   refine rS [0,1,2,6,18,19,41,42,43] ?_
   refine GC.seq (GC.draw [(0,0),(1,0),(2,0),(3,0),(4,0),(5,0),(6,0),(7,2),(8,0),(9,0),(10,0),(11,0),(12,0)] mixed (by kernel_rfl) (by rintro _ _ _ _ ⟨_,_,_,_,h,_⟩ _; cases h) ?_)
   refine wK 5 [0,1,2,6,18,19,22,25,26,41,42,43] ?_
   refine GW.vstep rfl rfl (VStep.nilM rfl rfl (fun b w=>by kernel_rfl)) rfl (GW.force [0,1,2,6,18,19,22,25,41,42,43] rfl ?_)
   have hof:=offS_lt (cap:=dcap) (l:=k) (o:=off) (by omega)
   refine wK 1 [0,1,2,6,18,19,25,28,41,42,43] ?_
   refine GW.op rfl rfl (iR rfl rfl (m107) (f267 _ B S E rn N cap (p + k) (ps + k) (offS dcap ((k : Int)).toNat off 1) (m - ((k : Int)).toNat) (dcap - ((k : Int)).toNat) drn s t d hs (by omega) (by omega) (by rw [Int.toNat_natCast]; omega) (by omega) (by omega)) [0,1,2,3,4,5,6,7,8,9,10,11,12] rfl rfl rfl rfl fun y hy=>?_)
   obtain ⟨n,D',s',t'⟩:=y
   obtain ⟨e1,e2,e3,e4,e5,e6⟩:=hy
   dsimp only at e1 e2 e3 e4 e5 e6
   dsimp only
   refine wL [0,1,2,6,18,19,29,41,42,43] rfl ?_
   refine wF [0,1,2,6,7,8,18,19,41,42,43] (GK.code ?_)
   refine rG [0,1,2,6,7,18,19,41,42,43] ?_
   refine GK.back (k + n,((p + k : Nat) : Int) + n,D',s',t') [0,1,2,3,4,5,6,7,8,9,10,11,12] (show (IWD B S D N p ps off m) (k + n) (((p + k : Nat) : Int) + n) (D') (s') (t') from ?_) ?_ (Ent.R rfl rfl rfl rfl)
   ·refine ⟨by omega,by omega,fun j=>?_,?_⟩
    ·rw [e4];  rw [Int.toNat_natCast,hof,hD]
     by_cases h1 : off ≤ j ∧ j < off + k
     ·rw [if_neg (by omega),if_pos h1,if_pos (by omega)]
     ·rw [if_neg h1]
      by_cases h2 : off + k ≤ j ∧ j < off + k + n
      ·rw [if_pos h2,if_pos (by omega)]; congr 1; omega
      ·rw [if_neg h2,if_neg (by omega)]
    ·rw [← Nat.add_assoc,← Nat.add_assoc]
     exact hs.step d e3 e5 e6
   ·dsimp only; omega
  ·have hn : ¬ ((k : Int) < (m : Int)):=by simpa using hn
   refine lF [0,1,2,6,7,18,19,20,41,42,43] (GK.code ?_)
   refine GC.condF rfl ?_
   obtain rfl : k = m:=by omega
   refine GC.exit ?_
   refine GK.code (GC.seq ?_)
   refine rS [6,7,37,41,42,43] ?_
   refine GC.cond rfl (fun hge=>?_) (fun hge=>?_)
   ·have hge : (k : Int) ≤ (k : Int):=by simpa using hge
    refine rG [6,7] ?_
    refine GK.code (GC.ret ?_)
    refine fR (.inl rfl) rfl (by trivial) ((E,s,t)) [0,1,2,3,4,5,6,7,8,9,10,11,12] rfl rfl rfl rfl (⟨hD,hs⟩)
   ·have hge : ¬ ((k : Int) ≤ (k : Int)):=by simpa using hge
    omega
def WDv (B : Nat → Int) (rn N cap off m dcap drn de : Nat) (k : Nat) (o : Int) (D : Nat → Value) (s : RdI) (t : WI) : S:=⟨[(0,.ifc 107 (.ptr 0 0)),(1,.slc 11 off m dcap),(2,.v (.int .i64 m)),(6,.v (.int .i64 k)),(7,.v .nilIface)],srG B rn N cap 12 o s t ++ [(11,.row ⟨.vals D,drn,de⟩)],13,[]⟩
structure IWDv (B S : Nat → Int) (D0 : Nat → Value) (N p ps off m : Nat) (k : Nat) (o : Int) (D : Nat → Value) (s : RdI) (t : WI) : Prop where
 hk : k ≤ m
 ho : o = ((p + k : Nat) : Int)
 hD : ∀ j,D j = if off ≤ j ∧ j < off + k then .int .u8 (B (p + (j - off))) else D0 j
 hs : Sr B S N (p + k) (ps + k) s t
theorem f156v (μ) (B S : Nat → Int) (D : Nat → Value) (rn N cap p ps off m dcap drn de : Nat) (s : RdI) (t : WI) (d : Dat B rn N cap) (h : Sr B S N p ps s t) (hp : p + m ≤ N) (hd : off + m ≤ drn) (hmc : m ≤ dcap) (hm4 : m ≤ 64) : FunC Tryz.prog μ 156 [.ifc 107 (.ptr 0 0),.slc 11 off m dcap,.v (.int .i64 m)] (srG B rn N cap 12 p s t ++ [(11,.row ⟨.vals D,drn,de⟩)]) 12 13
  (fun x : (Nat → Value) × RdI × WI=>(∀ j,x.1 j = if off ≤ j ∧ j < off + m then .int .u8 (B (p + (j - off))) else D j) ∧ Sr B S N (p + m) (ps + m) x.2.1 x.2.2)
  (fun x=>⟨.tup [.v (.int .i64 m),.v .nilIface],srG B rn N cap 12 ((p + m : Nat) : Int) x.2.1 x.2.2 ++ [(11,.row ⟨.vals x.1,drn,de⟩)],13⟩):=by
 have hN2:=d.hN2
 dsimp only [srG,List.cons_append,List.nil_append]
 refine fE 46 Tryz.func156 fun zw zβ=>?_
 refine cF [0,1,2,18,19,41,42,43] ?_
 refine rS [0,1,2,6,7,18,19,41,42,43] ?_
 refine GC.seq ?_
 refine rS [0,1,2,6,7,12,18,19,41,42,43] ?_
 refine GC.cond rfl (fun hz=>?_) (fun hz=>?_)
 ·have hz : (m : Int) < (m : Int):=by simpa using hz
  omega
 ·have hz : ¬ ((m : Int) < (m : Int)):=by simpa using hz
  refine GC.skip (GK.code (GC.seq (GC.block ?_)))
  refine GC.loopE (ι:=(Nat) × (Int) × (Nat → Value) × (RdI) × (WI)) (fun zi=>(IWDv B S D N p ps off m) zi.1 zi.2.1 zi.2.2.1 zi.2.2.2.1 zi.2.2.2.2) (fun zi=>(fun k o E s t=>(m - k : Nat)) zi.1 zi.2.1 zi.2.2.1 zi.2.2.2.1 zi.2.2.2.2) (fun zi=>(WDv B rn N cap off m dcap drn de) zi.1 zi.2.1 zi.2.2.1 zi.2.2.2.1 zi.2.2.2.2) ((0,(p : Int),D,s,t)) [0,1,2,3,4,5,6,7,8,9,10,11,12] (show (IWDv B S D N p ps off m) (0) ((p : Int)) (D) (s) (t) from ?_) (Ent.R rfl rfl rfl rfl) ?_
  ·exact ⟨Nat.zero_le _,rfl,fun j=>by rw [if_neg (by omega)],h⟩
  rintro ⟨k,o,E,s,t⟩ hI
  change (IWDv B S D N p ps off m) k o E s t at hI
  obtain ⟨hk,ho,hD,hs⟩:=hI
  change GC _ _ _ ((WDv B rn N cap off m dcap drn de) k o E s t)
  subst ho
  unfold WDv
  dsimp only [srG,List.cons_append,List.nil_append]
  refine cF [0,1,2,6,7,18,19,41,42,43] ?_
  refine GC.seq (GL.seqR ?_)
  refine lK 4 [0,1,2,6,7,17,18,19,41,42,43] ?_
  refine GL.spl 17 rfl rfl rfl (fun hn=>?_) (fun hn=>?_)
  ·have hn : (k : Int) < (m : Int):=by simpa using hn
   refine lF [0,1,2,6,7,18,19,20,41,42,43] (GK.code ?_)
   refine GC.condT rfl (GC.skip (GK.code (GC.block ?_)))
   refine rS [0,1,2,6,18,19,41,42,43] ?_
   refine GC.seq (GC.draw [(0,0),(1,0),(2,0),(3,0),(4,0),(5,0),(6,0),(7,2),(8,0),(9,0),(10,0),(11,0),(12,0)] mixed (by kernel_rfl) (by rintro _ _ _ _ ⟨_,_,_,_,h,_⟩ _; cases h) ?_)
   refine wK 5 [0,1,2,6,18,19,22,25,26,41,42,43] ?_
   refine GW.vstep rfl rfl (VStep.nilM rfl rfl (fun b w=>by kernel_rfl)) rfl (GW.force [0,1,2,6,18,19,22,25,41,42,43] rfl ?_)
   have hof:=offS_lt (cap:=dcap) (l:=k) (o:=off) (by omega)
   refine wK 1 [0,1,2,6,18,19,25,28,41,42,43] ?_
   refine GW.op rfl rfl (iR rfl rfl (m107) (f267v _ B S E rn N cap (p + k) (ps + k) (offS dcap ((k : Int)).toNat off 1) (m - ((k : Int)).toNat) (dcap - ((k : Int)).toNat) drn de s t d hs (by omega) (by omega) (by rw [Int.toNat_natCast]; omega) (by omega) (by omega)) [0,1,2,3,4,5,6,7,8,9,10,11,12] rfl rfl rfl rfl fun y hy=>?_)
   obtain ⟨n,s',t'⟩:=y
   obtain ⟨e1,e2,e3,e5,e6⟩:=hy
   dsimp only at e1 e2 e3 e5 e6
   dsimp only
   refine wL [0,1,2,6,18,19,29,41,42,43] rfl ?_
   refine wF [0,1,2,6,7,8,18,19,41,42,43] (GK.code ?_)
   refine rG [0,1,2,6,7,18,19,41,42,43] ?_
   refine GK.back (k + n,((p + k : Nat) : Int) + n,cpV .u8 E (fun j=>B (p + k + j)) (offS dcap ((k : Int)).toNat off 1) n,s',t') [0,1,2,3,4,5,6,7,8,9,10,11,12] (show (IWDv B S D N p ps off m) (k + n) (((p + k : Nat) : Int) + n) (cpV .u8 E (fun j=>B (p + k + j)) (offS dcap ((k : Int)).toNat off 1) n) (s') (t') from ?_) ?_ (Ent.R rfl rfl rfl rfl)
   ·refine ⟨by omega,by omega,fun j=>?_,?_⟩
    ·show cpV .u8 E _ _ _ j = _; unfold cpV; rw [Int.toNat_natCast,hof,hD]
     by_cases h1 : off ≤ j ∧ j < off + k
     ·rw [if_neg (by omega),if_pos h1,if_pos (by omega)]
     ·rw [if_neg h1]
      by_cases h2 : off + k ≤ j ∧ j < off + k + n
      ·rw [if_pos h2,if_pos (by omega)]; show Value.int .u8 (B (p + k + (j - (off + k)))) = _; congr 2; omega
      ·rw [if_neg h2,if_neg (by omega)]
    ·rw [← Nat.add_assoc,← Nat.add_assoc]
     exact hs.step d e3 e5 e6
   ·dsimp only; omega
  ·have hn : ¬ ((k : Int) < (m : Int)):=by simpa using hn
   refine lF [0,1,2,6,7,18,19,20,41,42,43] (GK.code ?_)
   refine GC.condF rfl ?_
   obtain rfl : k = m:=by omega
   refine GC.exit ?_
   refine GK.code (GC.seq ?_)
   refine rS [6,7,37,41,42,43] ?_
   refine GC.cond rfl (fun hge=>?_) (fun hge=>?_)
   ·have hge : (k : Int) ≤ (k : Int):=by simpa using hge
    refine rG [6,7] ?_
    refine GK.code (GC.ret ?_)
    refine fR (.inl rfl) rfl (by trivial) ((E,s,t)) [0,1,2,3,4,5,6,7,8,9,10,11,12] rfl rfl rfl rfl (⟨hD,hs⟩)
   ·have hge : ¬ ((k : Int) ≤ (k : Int)):=by simpa using hge
    omega
theorem f134 (μ) {fe : Nat} (B S : Nat → Int) (D : Nat → Int) (rn N cap p ps off m dcap drn : Nat) (s : RdI) (t : WI) (d : Dat B rn N cap) (h : Sr B S N p ps s t) (hp : p + m ≤ N) (hd : off + m ≤ drn) (hmc : m ≤ dcap) : FunC Tryz.prog μ 134 [.ifc 107 (.ptr 0 0),.slc 11 off m dcap] (srG B rn N cap 12 p s t ++ [(11,.row ⟨.ints .u8 D,drn,fe⟩)]) 12 13
  (fun x : (Nat → Int) × RdI × WI=>(∀ j,x.1 j = if off ≤ j ∧ j < off + m then B (p + (j - off)) else D j) ∧ Sr B S N (p + m) (ps + m) x.2.1 x.2.2)
  (fun x=>⟨.tup [.v (.int .i64 m),.v .nilIface],srG B rn N cap 12 ((p + m : Nat) : Int) x.2.1 x.2.2 ++ [(11,.row ⟨.ints .u8 x.1,drn,fe⟩)],13⟩):=by
 dsimp only [srG,List.cons_append,List.nil_append]
 refine fE 13 Tryz.func134 fun zw zβ=>?_
 refine cF [0,1] ?_
 refine rS [0,1] ?_
 refine GL.seqR ?_
 refine lK 4 [6,7,9] ?_
 refine GL.op rfl (cR rfl (f156 _ B S D rn N cap p ps off m dcap drn s t d h hp hd hmc) [0,1,2,3,4,5,6,7,8,9,10,11,12] rfl rfl rfl rfl fun x hx=>?_)
 refine gF [10] rfl ?_
 refine lF [4,5] (GK.code ?_)
 refine GC.ret ?_
 refine fR (.inl rfl) rfl (by trivial) x [0,1,2,3,4,5,6,7,8,9,10,11,12] rfl rfl rfl rfl (hx)
theorem f134v (μ) (B S : Nat → Int) (D : Nat → Value) (rn N cap p ps off m dcap drn de : Nat) (s : RdI) (t : WI) (d : Dat B rn N cap) (h : Sr B S N p ps s t) (hp : p + m ≤ N) (hd : off + m ≤ drn) (hmc : m ≤ dcap) (hm4 : m ≤ 64) : FunC Tryz.prog μ 134 [.ifc 107 (.ptr 0 0),.slc 11 off m dcap] (srG B rn N cap 12 p s t ++ [(11,.row ⟨.vals D,drn,de⟩)]) 12 13
  (fun x : (Nat → Value) × RdI × WI=>(∀ j,x.1 j = if off ≤ j ∧ j < off + m then .int .u8 (B (p + (j - off))) else D j) ∧ Sr B S N (p + m) (ps + m) x.2.1 x.2.2)
  (fun x=>⟨.tup [.v (.int .i64 m),.v .nilIface],srG B rn N cap 12 ((p + m : Nat) : Int) x.2.1 x.2.2 ++ [(11,.row ⟨.vals x.1,drn,de⟩)],13⟩):=by
 dsimp only [srG,List.cons_append,List.nil_append]
 refine fE 13 Tryz.func134 fun zw zβ=>?_
 refine cF [0,1] ?_
 refine rS [0,1] ?_
 refine GL.seqR ?_
 refine lK 4 [6,7,9] ?_
 refine GL.op rfl (cR rfl (f156v _ B S D rn N cap p ps off m dcap drn de s t d h hp hd hmc hm4) [0,1,2,3,4,5,6,7,8,9,10,11,12] rfl rfl rfl rfl fun x hx=>?_)
 refine gF [10] rfl ?_
 refine lF [4,5] (GK.code ?_)
 refine GC.ret ?_
 refine fR (.inl rfl) rfl (by trivial) x [0,1,2,3,4,5,6,7,8,9,10,11,12] rfl rfl rfl rfl (hx)
theorem lget_rep (x : SV) : ∀ (n i : Nat),i < n → lget (List.replicate n x) i = x
 | n + 1,0,_=>rfl
 | n + 1,i + 1,h=>lget_rep x n i (by omega)
theorem or8 {x b : Int} (hx : 0 ≤ x ∧ x < 1099511627776) (hb : 0 ≤ b ∧ b < 256) : bitZ .or 64 (w64 (x * 2 ^ 8)) b = x * 256 + b:=by
 obtain ⟨n,rfl⟩:=Int.eq_ofNat_of_zero_le hx.1
 obtain ⟨m,rfl⟩:=Int.eq_ofNat_of_zero_le hb.1
 have e : w64 ((n : Int) * 2 ^ 8) = ((n * 256 : Nat) : Int):=by unfold w64; omega
 rw [e]
 show (((BitVec.ofInt 64 ((n * 256 : Nat) : Int) ||| BitVec.ofInt 64 (m : Int)).toNat : Nat) : Int) = _
 rw [BitVec.toNat_or,BitVec.toNat_ofInt,BitVec.toNat_ofInt]
 have h1 : ((((n * 256 : Nat) : Int) % ((2 ^ 64 : Nat) : Int))).toNat = n * 256:=by omega
 have h2 : (((m : Int) % ((2 ^ 64 : Nat) : Int))).toNat = m:=by omega
 rw [h1,h2]
 have h3:=Nat.shiftLeft_add_eq_or_of_lt (a:=n) (b:=m) (i:=8) (by omega)
 rw [Nat.shiftLeft_eq] at h3
 rw [← h3]
 omega
def s8 (x b : Int) : Int:=w64 (bitZ .or 64 (w64 (x * 2 ^ 8)) (w64 b))
theorem s8_eq {x b : Int} (hx : 0 ≤ x ∧ x < 1099511627776) (hb : 0 ≤ b ∧ b < 256) : s8 x b = x * 256 + b:=by
 unfold s8
 rw [show w64 b = b from by unfold w64; omega,or8 hx hb]
 unfold w64; omega
def be4 (a b c d : Int) : Int:=((a * 256 + b) * 256 + c) * 256 + d
theorem f148 (μ) (B S : Nat → Int) (rn N cap p ps : Nat) (s : RdI) (t : WI) (d : Dat B rn N cap) (h : Sr B S N p ps s t) (hp : p + 4 ≤ N) : FunC Tryz.prog μ 148 [.ifc 107 (.ptr 0 0),.v (.int .i64 4)] (srG B rn N cap 11 p s t) 11 12
  (fun x : RdI × WI=>Sr B S N (p + 4) (ps + 4) x.1 x.2)
  (fun x=>⟨.tup [.v (.int .u64 (be4 (B p) (B (p + 1)) (B (p + 2)) (B (p + 3)))),.v .nilIface],srG B rn N cap 11 ((p + 4 : Nat) : Int) x.1 x.2,12⟩):=by
 dsimp only [srG,List.cons_append,List.nil_append]
 refine fE 36 Tryz.func148 fun zw zβ=>?_
 refine cF [0,1] ?_
 refine rS [0,1] ?_
 refine rS [0,1,6] ?_
 refine GC.cvR 12 ⟨.ints .u8 fun _=>0,8,335⟩ rfl rfl rfl (fun i hi=>lget_rep _ 8 i hi) rfl ?_
 have hB : ∀ j,j < 4 → 0 ≤ B (p + j) ∧ B (p + j) < 256:=fun j hj=>d.hB _ (by omega)
 refine GC.seq (GL.seqR ?_)
 refine lK 3 [1,6,13,15] ?_
 refine GL.op rfl (cR rfl (f134 _ B S (fun _=>0) rn N cap p ps 0 4 8 8 s t d h hp (by decide) (by decide)) [0,1,2,3,4,5,6,7,8,9,10,12,11] rfl rfl rfl rfl fun x hx=>?_)
 obtain ⟨D,s',t'⟩:=x
 obtain ⟨hD,hs'⟩:=hx
 dsimp only at hD hs'
 have ho:=offS_zero 8 0 1
 dsimp only
 refine gF [1,6,16] rfl ?_
 refine lF [1,6,8] (GK.code ?_)
 refine rS [1,6,8,20] ?_
 refine GC.condF rfl (GC.skip (GK.code ?_))
 refine rS [1,6,9] ?_
 refine GC.seq ?_
 refine rS [9,23,24,25] ?_
 refine GC.block ?_
 refine GC.loopU 5 ?_
 refine rS [9,23,24,25,26] ?_
 refine GC.seq (GC.condT rfl (GC.skip (GK.code (GC.seq (GC.block ?_)))))
 refine rS [9,11,23,24,25] ?_
 refine rG [9,23,24,25] ?_
 refine GK.code ?_
 refine rG [9,23,24,25] ?_
 refine GK.itr ?_
 refine rS [9,23,24,25,26] ?_
 refine GC.seq (GC.condT rfl (GC.skip (GK.code (GC.seq (GC.block ?_)))))
 refine rS [9,11,23,24,25] ?_
 refine rG [9,23,24,25] ?_
 refine GK.code ?_
 refine rG [9,23,24,25] ?_
 refine GK.itr ?_
 refine rS [9,23,24,25,26] ?_
 refine GC.seq (GC.condT rfl (GC.skip (GK.code (GC.seq (GC.block ?_)))))
 refine rS [9,11,23,24,25] ?_
 refine rG [9,23,24,25] ?_
 refine GK.code ?_
 refine rG [9,23,24,25] ?_
 refine GK.itr ?_
 refine rS [9,23,24,25,26] ?_
 refine GC.seq (GC.condT rfl (GC.skip (GK.code (GC.seq (GC.block ?_)))))
 refine rS [9,11,23,24,25] ?_
 refine rG [9,23,24,25] ?_
 refine GK.code ?_
 refine rG [9,23,24,25] ?_
 refine GK.itr ?_
 refine rS [9,23,24,25,26] ?_
 refine GC.seq (GC.condF rfl ?_)
 refine GC.exit ?_
 refine GK.code ?_
 refine GC.abs 9 rfl (fun _=>rfl) fun x' hx'=>?_
 have h0 : D 0 = B (p + 0):=by rw [hD,if_pos (by omega)]
 have h1 : D 1 = B (p + 1):=by rw [hD,if_pos (by omega)]
 have h2 : D 2 = B (p + 2):=by rw [hD,if_pos (by omega)]
 have h3 : D 3 = B (p + 3):=by rw [hD,if_pos (by omega)]
 obtain rfl : x' = be4 (B p) (B (p + 1)) (B (p + 2)) (B (p + 3)):=by
  have b0:=hB 0 (by omega)
  have b1:=hB 1 (by omega)
  have b2:=hB 2 (by omega)
  have b3:=hB 3 (by omega)
  rw [hx']
  show s8 (s8 (s8 (s8 0 (D 0)) (D 1)) (D 2)) (D 3) = _
  rw [h0,h1,h2,h3,s8_eq (by omega) b0,s8_eq (by omega) b1,s8_eq (by omega) b2,s8_eq (by omega) b3]
  unfold be4; rw [Nat.add_zero]; omega
 refine rS [4,5] ?_
 refine GC.ret ?_
 refine fR (.inl rfl) rfl (by trivial) ((s',t')) [0,1,2,3,4,5,6,7,8,9,10,11] rfl rfl rfl rfl (hs')
theorem f118 (μ) (B S : Nat → Int) (rn N cap p ps : Nat) (s : RdI) (t : WI) (z : Int) (d : Dat B rn N cap) (h : Sr B S N p ps s t) (hp : p + 4 ≤ N) : FunC Tryz.prog μ 118 [.ifc 107 (.ptr 0 0),.ifc 300 (.ptr 11 0)] (srG B rn N cap 12 p s t ++ [(11,.row ⟨.lst [.v (.int .u32 z)],1,35⟩)]) 12 13
  (fun x : RdI × WI=>Sr B S N (p + 4) (ps + 4) x.1 x.2)
  (fun x=>⟨.v .nilIface,srG B rn N cap 12 ((p + 4 : Nat) : Int) x.1 x.2 ++ [(11,.row ⟨.lst [.v (.int .u32 (w32 (be4 (B p) (B (p + 1)) (B (p + 2)) (B (p + 3)))))],1,35⟩)],13⟩):=by
 dsimp only [srG,List.cons_append,List.nil_append]
 refine fE 124 Tryz.func118 fun zw zβ=>?_
 refine cF [0,1] ?_
 refine rS [0,1] ?_
 refine GC.seq ?_
 refine rS [0,26] ?_
 refine GC.block (GL.seqR ?_)
 refine GL.vstep rfl (VStep.assertF (z:=.pointer none) rfl rfl rfl rfl (fun _=>by kernel_rfl)) rfl (GL.force [0,26,27] rfl ?_)
 refine lF [0,26,28,29] (GK.code ?_)
 refine GC.condF rfl (GL.seqR ?_)
 refine GL.vstep rfl (VStep.assertF (z:=.pointer none) rfl rfl rfl rfl (fun _=>by kernel_rfl)) rfl (GL.force [0,26,42] rfl ?_)
 refine lF [0,26,43,44] (GK.code ?_)
 refine GC.condF rfl (GL.seqR ?_)
 refine GL.vstep rfl (VStep.assertT rfl rfl rfl) rfl (GL.force [0,26,57] rfl ?_)
 refine lF [0,26,58,59] (GK.code ?_)
 refine GC.condT rfl ?_
 refine rS [0,11] ?_
 refine GL.seqR ?_
 refine lK 1 [11,61] ?_
 refine GL.op rfl (cR rfl (f148 _ B S rn N cap p ps s t d h hp) [0,1,2,3,4,5,6,7,8,9,10,12] rfl rfl rfl rfl fun x hx=>?_)
 refine gF [11,62] rfl ?_
 refine lF [11,12,13] (GK.code ?_)
 refine GC.seq ?_
 refine rS [11,12,13,66] ?_
 refine GC.condT rfl ?_
 refine rG [13] ?_
 refine GK.code ?_
 refine rS [4] ?_
 refine GC.ret ?_
 refine fR (.inl rfl) rfl (by trivial) x [0,1,2,3,4,5,6,7,8,9,10,11,12] rfl rfl rfl rfl (hx)
theorem f137 (μ) (B S : Nat → Int) (rn N cap p ps : Nat) (s : RdI) (t : WI) (d : Dat B rn N cap) (h : Sr B S N p ps s t) (hp : p + 4 ≤ N) : FunC Tryz.prog μ 137 [.ifc 107 (.ptr 0 0)] (srG B rn N cap 11 p s t) 11 12
  (fun x : RdI × WI=>Sr B S N (p + 4) (ps + 4) x.1 x.2)
  (fun x=>⟨.tup [.v (.int .u32 (w32 (be4 (B p) (B (p + 1)) (B (p + 2)) (B (p + 3))))),.v .nilIface],srG B rn N cap 11 ((p + 4 : Nat) : Int) x.1 x.2,12⟩):=by
 dsimp only [srG,List.cons_append,List.nil_append]
 refine fE 13 Tryz.func137 fun zw zβ=>?_
 refine cF [0] ?_
 refine rS [0] ?_
 refine rS [0,4] ?_
 refine GC.seq (GL.seqR ?_)
 refine lK 2 [4,6,7] ?_
 refine GL.op rfl (cR rfl (f118 _ B S rn N cap p ps s t 0 d h hp) [0,1,2,3,4,5,6,7,8,9,10,12,11] rfl rfl rfl rfl fun x hx=>?_)
 refine gF [4,8] rfl ?_
 refine lF [4,5] (GK.code ?_)
 refine rS [4,5,10] ?_
 refine GC.condF rfl (GC.skip (GK.code ?_))
 refine rS [2,3] ?_
 refine GC.ret ?_
 refine fR (.inl rfl) rfl (by trivial) x [0,1,2,3,4,5,6,7,8,9,10,11] rfl rfl rfl rfl (hx)
def scG (B : Nat → Int) (rn N cap : Nat) (off : Int) (s : RdI) (t : WI) (po : SV) (v o : Int) : GH:=srG B rn N cap 12 off s t ++ [(11,.row (scR 0 9 10 po v o))]
theorem f105 (μ) (B S : Nat → Int) (rn N cap p ps : Nat) (s : RdI) (t : WI) (v o : Int) (d : Dat B rn N cap) (h : Sr B S N p ps s t) (hp : p + 4 ≤ N) : FunC Tryz.prog μ 105 [.ptr 11 0] (scG B rn N cap p s t (.v (.pointer none)) v o) 12 13
  (fun x : RdI × WI=>Sr B S N (p + 4) (ps + 4) x.1 x.2)
  (fun x=>⟨.tup [.v (.int .u32 (w32 (be4 (B p) (B (p + 1)) (B (p + 2)) (B (p + 3))))),.v .nilIface],scG B rn N cap ((p + 4 : Nat) : Int) x.1 x.2 (.v (.pointer none)) v o,13⟩):=by
 dsimp only [scG,srG,List.cons_append,List.nil_append]
 refine fE 12 Tryz.func105 fun zw zβ=>?_
 refine cF [0] ?_
 refine rS [0] ?_
 refine GL.seqR ?_
 refine lK 5 [8] ?_
 refine GL.op rfl (cR rfl (f137 _ B S rn N cap p ps s t d h hp) [0,1,2,3,4,5,6,7,8,9,10,12] rfl rfl rfl rfl fun x hx=>?_)
 refine gF [9] rfl ?_
 refine lF [2,3] (GK.code ?_)
 refine GC.ret ?_
 refine fR (.inl rfl) rfl (by trivial) x [0,1,2,3,4,5,6,7,8,9,10,11,12] rfl rfl rfl rfl (hx)
theorem f107 (μ) (B S : Nat → Int) (rn N cap p ps : Nat) (s : RdI) (t : WI) (v o : Int) (d : Dat B rn N cap) (h : Sr B S N p ps s t) (hp : p + 4 ≤ N) : FunC Tryz.prog μ 107 [.ptr 11 0] (scG B rn N cap p s t (.v (.pointer none)) v o) 12 13
  (fun x : RdI × WI=>Sr B S N (p + 4) (ps + 4) x.1 x.2)
  (fun x=>⟨.tup [.v (.int .u32 (w32 (be4 (B p) (B (p + 1)) (B (p + 2)) (B (p + 3))))),.v .nilIface],scG B rn N cap ((p + 4 : Nat) : Int) x.1 x.2 (.v (.pointer none)) v o,13⟩):=by
 dsimp only [scG,srG,List.cons_append,List.nil_append]
 refine fE 12 Tryz.func107 fun zw zβ=>?_
 refine cF [0] ?_
 refine rS [0] ?_
 refine GL.seqR ?_
 refine lK 5 [8] ?_
 refine GL.op rfl (cR rfl (f137 _ B S rn N cap p ps s t d h hp) [0,1,2,3,4,5,6,7,8,9,10,12] rfl rfl rfl rfl fun x hx=>?_)
 refine gF [9] rfl ?_
 refine lF [2,3] (GK.code ?_)
 refine GC.ret ?_
 refine fR (.inl rfl) rfl (by trivial) x [0,1,2,3,4,5,6,7,8,9,10,11,12] rfl rfl rfl rfl (hx)
theorem f103 (μ) (B S : Nat → Int) (rn N cap p ps : Nat) (s : RdI) (t : WI) (v o : Int) (d : Dat B rn N cap) (h : Sr B S N p ps s t) (hp : p + 4 ≤ N) : FunC Tryz.prog μ 103 [.ptr 11 0] (scG B rn N cap p s t (.v (.pointer none)) v o) 12 13
  (fun x : (Nat → Int) × RdI × WI=>(∀ j,j < 4 → x.1 j = B (p + j)) ∧ Sr B S N (p + 4) (ps + 4) x.2.1 x.2.2)
  (fun x=>⟨.tup [.slc 13 0 4 4,.v .nilIface],scG B rn N cap ((p + 4 : Nat) : Int) x.2.1 x.2.2 (.v (.pointer none)) v o ++ [(13,.row ⟨.ints .u8 x.1,4,5⟩)],14⟩):=by
 dsimp only [scG,srG,List.cons_append,List.nil_append]
 refine fE 23 Tryz.func103 fun zw zβ=>?_
 refine cF [0] ?_
 refine rS [0] ?_
 refine GL.seqR ?_
 refine GL.op rfl (OpW.makeI (k:=.u8) rfl rfl rfl rfl rfl (by decide) (by decide) (by decide) (by show ((1 : Nat) : Int) * 4 ≤ 281474976710656; decide) rfl rfl rfl ?_)
 refine gF [0,7] rfl ?_
 refine lF [0,4] (GK.code ?_)
 refine GC.seq (GL.seqR ?_)
 refine lK 6 [4,13,14] ?_
 refine GL.op rfl (cR rfl (f134 _ B S (fun _=>0) rn N cap p ps 0 4 4 4 s t d h hp (by decide) (by decide)) [0,1,2,3,4,5,6,7,8,9,10,13,12] rfl rfl rfl rfl fun x hx=>?_)
 refine gF [4,15] rfl ?_
 refine lF [4,6] (GK.code ?_)
 refine rS [4,6,19] ?_
 refine GC.condF rfl (GC.skip (GK.code ?_))
 refine rS [2,3] ?_
 refine GC.ret ?_
 refine fR (.inl rfl) rfl (by trivial) x [0,1,2,3,4,5,6,7,8,9,10,11,12,13] rfl rfl rfl rfl (⟨fun j hj=>by rw [hx.1,if_pos (by omega)]; rfl,hx.2⟩)
theorem rowN_congr {F G : Nat → Int} : ∀ (m i : Nat),(∀ j,i ≤ j → j < i + m → F j = G j) → rowN F i m = rowN G i m
 | 0,_,_=>rfl
 | m + 1,i,h=>by rw [rowN,rowN,h i (Nat.le_refl _) (by omega),rowN_congr m (i + 1) fun j h1 h2=>h j (by omega) (by omega)]
theorem f135 (μ) (F G : Nat → Int) (n c1 r1 e1 c2 r2 e2 : Nat) (h1 : n ≤ r1) (h2 : n ≤ r2) (he : ∀ j,j < n → F j = G j) : Fun Tryz.prog μ 135 [.slc 0 0 n c1,.slc 1 0 n c2] [(0,.row ⟨.ints .u8 F,r1,e1⟩),(1,.row ⟨.ints .u8 G,r2,e2⟩)] 2
  (fun _ : Unit=>True) (fun _=>⟨.v (.bool true),[(0,.row ⟨.ints .u8 F,r1,e1⟩),(1,.row ⟨.ints .u8 G,r2,e2⟩)],2⟩):=by
 refine fE 10 Tryz.func135 fun zw zβ=>?_
 refine cF [0,1] ?_
 refine rS [0,1] ?_
 refine GL.seqR ?_
 refine lK 1 [1,5] ?_
 refine GL.op rfl (OpW.lstep (LStep.str (n:=n) (N:=F) rfl rfl rfl rfl (slc_slice rfl) (src_slc (sz:=1) rfl rfl (by show 0 + n * 1 ≤ r1; omega) (fun j hj=>by rw [Nat.zero_add]; rfl))) rfl (gF [1,6] rfl ?_))
 refine lK 1 [6,7] ?_
 refine GL.op rfl (OpW.lstep (LStep.str (n:=n) (N:=G) rfl rfl rfl rfl (slc_slice rfl) (src_slc (sz:=1) rfl rfl (by show 0 + n * 1 ≤ r2; omega) (fun j hj=>by rw [Nat.zero_add]; rfl))) rfl (gF [6,8] rfl ?_))
 refine lF [4] (GK.code ?_)
 refine GC.ret ?_
 refine GK.boolS 4 true rfl ?_ rfl ?_
 ·exact decide_eq_true (congrArg baL (rowN_congr n 0 fun j _ hj=>he j (by omega)))
 refine fR (.inl rfl) rfl (by trivial) () [0,1] rfl rfl rfl rfl (trivial)
theorem f136 (μ) : Fun Tryz.prog μ 136 [] [] 0 (fun _ : Unit=>True) (fun _=>⟨.slc 0 0 4 4,[(0,.row ⟨.lst [.v (.int .u8 80),.v (.int .u8 65),.v (.int .u8 67),.v (.int .u8 75)],4,5⟩)],1⟩):=by
 refine fE 2 Tryz.func136 fun zw zβ=>?_
 refine cF [] ?_
 refine rS [] ?_
 refine rS [0] ?_
 refine GC.ret ?_
 refine fR (.inl rfl) rfl (by trivial) () [0] rfl rfl rfl rfl (trivial)
def packS (j : Nat) : Int:=if j = 0 then 80 else if j = 1 then 65 else if j = 2 then 67 else 75
theorem packS_get : ∀ i,i < 4 → lget [.v (.int .u8 80),.v (.int .u8 65),.v (.int .u8 67),.v (.int .u8 75)] i = .v (.int .u8 (packS i))
 | 0,_=>rfl
 | 1,_=>rfl
 | 2,_=>rfl
 | 3,_=>rfl
 | _ + 4,h=>absurd h (by omega)
theorem f104 (μ) (B : Nat → Int) (rn N cap : Nat) (off : Int) (s : RdI) (t : WI) (v o : Int) (F : Nat → Int) (hF : ∀ j,j < 4 → F j = packS j) : Fun Tryz.prog μ 104 [.ptr 11 0,.slc 13 0 4 4] (scG B rn N cap off s t (.v (.pointer none)) v o ++ [(13,.row ⟨.ints .u8 F,4,5⟩)]) 14
  (fun _ : Unit=>True) (fun _=>⟨.v (.bool true),scG B rn N cap off s t (.v (.pointer none)) v o ++ [(13,.row ⟨.ints .u8 F,4,5⟩)],14⟩):=by
 dsimp only [scG,srG,List.cons_append,List.nil_append]
 refine fE 8 Tryz.func104 fun zw zβ=>?_
 refine cF [0,1] ?_
 refine rS [1] ?_
 refine GL.seqR ?_
 refine lK 1 [5] ?_
 refine GL.op rfl (cR rfl (f136 _) [] rfl rfl rfl rfl fun _ _=>?_)
 refine GL.cvR 14 ⟨.ints .u8 packS,4,5⟩ rfl rfl rfl (fun i hi=>packS_get i hi) rfl ?_
 refine gF [5,6] rfl ?_
 refine GL.op rfl (cR rfl (f135 _ F packS 4 _ _ _ _ _ _ (Nat.le_refl _) (Nat.le_refl _) hF) [13,14] rfl rfl rfl rfl fun _ _=>?_)
 refine gF [7] rfl ?_
 refine lF [4] (GK.code ?_)
 refine GC.ret ?_
 refine fR (.inl rfl) rfl (by trivial) () [0,1,2,3,4,5,6,7,8,9,10,11,12,13] rfl rfl rfl rfl (trivial)
theorem f106 (μ) (B : Nat → Int) (rn N cap : Nat) (off : Int) (s : RdI) (t : WI) (v o : Int) : Fun Tryz.prog μ 106 [.ptr 11 0,.v (.int .u32 2)] (scG B rn N cap off s t (.v (.pointer none)) v o) 13
  (fun _ : Unit=>True) (fun _=>⟨.v (.bool true),scG B rn N cap off s t (.v (.pointer none)) v o,13⟩):=by
 dsimp only [scG,srG,List.cons_append,List.nil_append]
 refine fE 7 Tryz.func106 fun zw zβ=>?_
 refine cF [0,1] ?_
 refine rS [1] ?_
 refine rS [4] ?_
 refine GC.ret ?_
 refine fR (.inl rfl) rfl (by trivial) () [0,1,2,3,4,5,6,7,8,9,10,11,12] rfl rfl rfl rfl (trivial)
theorem f61 (μ) (B S : Nat → Int) (rn N cap : Nat) (s : RdI) (t : WI) (d : Dat B rn N cap) (h : Sr B S N 0 0 s t) (hp : 12 ≤ N) (hP : ∀ j,j < 4 → B j = packS j) (hv : w32 (be4 (B 4) (B (4 + 1)) (B (4 + 2)) (B (4 + 3))) = 2) : FunC Tryz.prog μ 61 [.ptr 11 0] (scG B rn N cap 0 s t (.v (.pointer none)) 0 0) 12 13
  (fun x : RdI × WI=>Sr B S N 12 12 x.1 x.2)
  (fun x=>⟨.tup [.v (.int .u32 2),.v (.int .u32 (w32 (be4 (B 8) (B (8 + 1)) (B (8 + 2)) (B (8 + 3))))),.v .nilIface],scG B rn N cap 12 x.1 x.2 (.v (.pointer none)) 2 (w32 (be4 (B 8) (B (8 + 1)) (B (8 + 2)) (B (8 + 3)))),13⟩):=by
 dsimp only [scG,srG,List.cons_append,List.nil_append]
 refine fE 60 Tryz.func61 fun zw zβ=>?_
 refine cF [0] ?_
 refine rS [0,2,3] ?_
 refine GC.seq ?_
 refine rS [0,2,3,10] ?_
 refine GC.condF rfl (GC.skip (GK.code (GL.seqR ?_)))
 refine lK 1 [0,2,3,20] ?_
 refine GL.op rfl (cR rfl (f103 _ B S rn N cap 0 0 s t 0 0 d h (by omega)) [0,1,2,3,4,5,6,7,8,9,10,11,12] rfl rfl rfl rfl fun x hx=>?_)
 obtain ⟨F,s',t'⟩:=x
 obtain ⟨hF,h1⟩:=hx
 dsimp only at hF h1
 dsimp only
 refine gF [0,2,3,21] rfl ?_
 refine lF [0,2,3,4,5] (GK.code ?_)
 refine GC.seq ?_
 refine rS [0,2,3,4,5,25] ?_
 refine GC.condF rfl (GC.skip (GK.code (GC.seq (GL.seqR ?_))))
 refine lK 2 [0,2,3,30,31] ?_
 refine GL.op rfl (cR rfl (f104 _ B rn N cap 4 s' t' 0 0 F (fun j hj=>by rw [hF j hj,Nat.zero_add]; exact hP j hj)) [0,1,2,3,4,5,6,7,8,9,10,11,12,13] rfl rfl rfl rfl fun _ _=>?_)
 refine gF [0,2,3,32] rfl ?_
 refine lF [0,2,3,33] (GK.code ?_)
 refine GC.condF rfl (GC.skip (GK.code (GL.seqR ?_)))
 refine lK 1 [0,3,36] ?_
 refine GL.op rfl (cR rfl (f105 _ B S rn N cap 4 4 s' t' 0 0 d h1 (by omega)) [0,1,2,3,4,5,6,7,8,9,10,11,12] rfl rfl rfl rfl fun x hx=>?_)
 rw [hv]
 obtain ⟨s',t'⟩:=x
 dsimp only at hx ⊢
 refine gF [0,3,37] rfl ?_
 refine lF [0,2,3,4] (GK.code ?_)
 refine rS [0,2,3,4] ?_
 refine GC.seq ?_
 refine rS [0,2,3,4,45] ?_
 refine GC.condF rfl (GC.skip (GK.code (GC.seq (GL.seqR ?_))))
 refine lK 2 [0,2,3,46,47] ?_
 refine GL.op rfl (cR rfl (f106 _ B rn N cap 8 s' t' 2 0) [0,1,2,3,4,5,6,7,8,9,10,11,12] rfl rfl rfl rfl fun _ _=>?_)
 refine gF [0,2,3,48] rfl ?_
 refine lF [0,2,3,49] (GK.code ?_)
 refine GC.condF rfl (GC.skip (GK.code (GL.seqR ?_)))
 refine lK 1 [0,2,52] ?_
 refine GL.op rfl (cR rfl (f107 _ B S rn N cap 8 8 s' t' 2 0 d hx (by omega)) [0,1,2,3,4,5,6,7,8,9,10,11,12] rfl rfl rfl rfl fun x hx=>?_)
 refine gF [0,2,53] rfl ?_
 refine lF [0,2,3,4] (GK.code ?_)
 refine rS [2,3,4] ?_
 refine GC.ret ?_
 refine fR (.inl rfl) rfl (by trivial) x [0,1,2,3,4,5,6,7,8,9,10,11,12] rfl rfl rfl rfl (hx)
end Go.Proofs.YtebadfmnmhmfeaaGreatDoor.T
