/- What the functions of the program do, one contract each (P52, P43, P53, P54, P55); each states its own conditions. -/
import Derived.Test.YtebadfmnmhmfeaaGreatDoorP16
namespace Go.Proofs.YtebadfmnmhmfeaaGreatDoor.T
open Go.Proofs.YtebadfmnmhmfeaaGreatDoor.Sx Go.RowKit
set_option maxRecDepth 20000
set_option linter.unusedSimpArgs false
set_option linter.unusedVariables false
set_option linter.unnecessarySimpa false
set_option linter.unusedSectionVars false
theorem f73z (μ) (n : Nat) (hn : n = 0) (lr : Int) : Fun Tryz.prog μ 73 [.ptr 0 0,.v (.int .i64 n)] [(0,.row (bfR (.v (.slice none 0 0)) 0 lr))] 1
  (fun _ : Unit=>True) (fun _=>⟨.tup [],[(0,.row (bfR (.v (.slice none 0 0)) 0 lr))],1⟩):=by
 subst hn; exact f73n0 μ lr
inductive BSt where
 | n
 | s (o l c rn : Nat) (F : Nat → Int)
def BSt.ok : BSt → Prop
 | .n=>True
 | .s o l c rn _=>o + c ≤ rn ∧ 0 < c ∧ c < 9223372036854775808
def pdG (B : Nat → Int) (rn N cap : Nat) (o cnt : Int) (fh fo : Value → Option Value) (Z : Nat → Option Obj) (V : Nat → Value) (m mc : Nat) (off : Int) (s : RdI) (t : WI) (fk fs : Value → Option Value) (N0 : Nat → Value) (n c : Nat) : GH :=
 srG B rn N cap 23 off s t ++ [(11,.row (scR 0 9 10 (.v (.pointer none)) 2 o)),(12,.row (prR cnt (.slc 21 0 m mc) (.mpp 13) (.mpp 14) 16 17)),(13,.pr (isMap kH fh)),(14,.pr (isMap k64 fo)),(15,.fz Z),(16,.row buR),(17,.row (osR 18)),(18,.row (obP 19 20 (.slc 22 0 n c))),(19,.pr (isMapU k64 fk)),(20,.pr (isMapU k64 fs)),(21,.row ⟨.vals V,mc * 1,165⟩),(22,.row ⟨.vals N0,c * 6,39⟩)]
def L48 (B : Nat → Int) (rn N cap : Nat) (o cnt : Int) (fh fo : Value → Option Value) (Z : Nat → Option Obj) (V : Nat → Value) (m mc : Nat) (off : Int) (_p i _ps : Nat) (_S : Nat → Int) (s : RdI) (t : WI) (fk fs : Value → Option Value) (N0 : Nat → Value) (c : Nat) : BSt → S
 | .n=>⟨[(0,.ptr 12 0),(3,.ptr 24 0),(20,.slc 21 0 m mc),(21,.v (.int .i64 m)),(22,.v (.int .i64 i))],pdG B rn N cap o cnt fh fo Z V m mc off s t fk fs N0 i c ++ [(24,.row (bfR (.v (.slice none 0 0)) 0 0))],25,[⟨.func 65,[],[.ptr 24 0]⟩]⟩
 | .s bo bl bc brn F=>⟨[(0,.ptr 12 0),(3,.ptr 24 0),(20,.slc 21 0 m mc),(21,.v (.int .i64 m)),(22,.v (.int .i64 i))],pdG B rn N cap o cnt fh fo Z V m mc off s t fk fs N0 i c ++ [(24,.row (bfR (.slc 25 bo bl bc) 0 0)),(25,.row ⟨.ints .u8 F,brn,5⟩)],26,[⟨.func 65,[],[.ptr 24 0]⟩]⟩
def Fnd (N0 : Nat → Value) (pl kd sz : Nat → Nat) (i : Nat) : Prop:=∀ j,j < i → ∃ crc tx,∀ q,q < 6 → N0 (j * 6 + q) = fdV (kd j) (sz j) (pl j) crc tx q
theorem Fnd.push {N0 N1 : Nat → Value} {pl kd sz : Nat → Nat} {i : Nat} {crc : Int} {tx : ByteArray} (h : Fnd N0 pl kd sz i) (h1 : ∀ j,j < i * 6 → N1 j = N0 j) (h2 : ∀ j,j < 6 → N1 (i * 6 + j) = fdV (kd i) (sz i) (pl i) crc tx j) : Fnd N1 pl kd sz (i + 1):=by
 intro j hj
 by_cases e : j = i
 ·subst e; exact ⟨crc,tx,h2⟩
 ·obtain ⟨c,t,h3⟩:=h j (by omega)
  exact ⟨c,t,fun q hq=>by rw [h1 _ (by omega)]; exact h3 q hq⟩
structure I48 (B : Nat → Int) (N M : Nat) (pl kd sz : Nat → Nat) (ps0 : Nat) (off : Int) (p i ps : Nat) (S : Nat → Int) (s : RdI) (t : WI) (fk fs : Value → Option Value) (N0 : Nat → Value) (c : Nat) (bst : BSt) : Prop where
 ho : off = (p : Int)
 hi : i ≤ M
 hs : Sr B S N p ps s t
 hp : ps ≤ ps0 + i * N
 hc : i ≤ c
 hN : Fnd N0 pl kd sz i
 hb : bst.ok
set_option maxHeartbeats 16000000 in
theorem f48 (μ) (be : Nat × Nat) (hE : muAt μ 0 0 = some (EOFv be)) (B S0 : Nat → Int) (rn N cap p0 ps0 : Nat) (s0 : RdI) (t0 : WI) (d : Dat B rn N cap) (h0 : Sr B S0 N p0 ps0 s0 t0) (hps : ps0 + 42 * N < 1152921504606846976) (o cnt : Int) (M : Nat) (hM : M ≤ 40) (pl kd sz zp pe : Nat → Nat) (T : Nat → Nat → Int) (pk : Pk B N M pl kd sz zp pe T) (fh fo : Value → Option Value) (Z : Nat → Option Obj) (V : Nat → Value) (mc : Nat) (hmc : M ≤ mc) (hr : Ois Z fh V pl kd sz M) (fk0 fs0 : Value → Option Value) (N00 : Nat → Value) (c0 : Nat) :
  FunC Tryz.prog μ 48 [.ptr 12 0] (pdG B rn N cap o cnt fh fo Z V M mc p0 s0 t0 fk0 fs0 N00 0 c0) 22 24
  (fun y : Nat × RdI × WI × (Value → Option Value) × (Value → Option Value) × (Nat → Value) × Nat=>Fnd y.2.2.2.2.2.1 pl kd sz M ∧ M ≤ y.2.2.2.2.2.2)
  (fun y=>⟨.v .nilIface,pdG B rn N cap o cnt fh fo Z V M mc (y.1 : Nat) y.2.1 y.2.2.1 y.2.2.2.1 y.2.2.2.2.1 y.2.2.2.2.2.1 M y.2.2.2.2.2.2,24⟩):=by
 dsimp only [pdG,srG,List.cons_append,List.nil_append]
 refine Fun.enterDf (T:=tab) (ok:=tabOK) (n:=148) Tryz.func48 rfl rfl rfl rfl fun zw zβ=>?_
 refine cF [0,85,86,87,88,89,90,130,131,132,133,134,135,136,137] ?_
 refine rS [0,85,86,87,88,89,90,130,131,132,133,134,135,136,137] ?_
 refine GL.seqR ?_
 refine GL.op rfl (cR rfl (f64 _) [] rfl rfl rfl rfl fun _ _=>?_)
 refine gF [0,15,85,86,87,88,89,90,130,131,132,133,134,135,136,137] rfl ?_
 refine lF [0,3,85,86,87,88,89,90,130,131,132,133,134,135,136,137] (GK.code ?_)
 refine GL.seqR ?_
 refine lK 1 [0,3,16,85,86,87,88,89,90,130,131,132,133,134,135,136,137] ?_
 refine GL.op rfl (OpW.defer rfl rfl ?_)
 refine gF [0,3,85,86,87,88,89,90,130,131,132,133,134,135,136,137] rfl ?_
 refine lF [0,3,85,86,87,88,89,90,130,131,132,133,134,135,136,137] (GK.code ?_)
 refine GC.seq ?_
 refine rS [0,3,20,21,22,85,86,87,88,89,90,130,131,132,133,134,135,136,137] ?_
 refine GC.block ?_
 refine GC.loopE (ι:=(Int) × (Nat) × (Nat) × (Nat) × (Nat → Int) × (RdI) × (WI) × (Value → Option Value) × (Value → Option Value) × (Nat → Value) × (Nat) × (BSt)) (fun zi=>(I48 B N M pl kd sz ps0) zi.1 zi.2.1 zi.2.2.1 zi.2.2.2.1 zi.2.2.2.2.1 zi.2.2.2.2.2.1 zi.2.2.2.2.2.2.1 zi.2.2.2.2.2.2.2.1 zi.2.2.2.2.2.2.2.2.1 zi.2.2.2.2.2.2.2.2.2.1 zi.2.2.2.2.2.2.2.2.2.2.1 zi.2.2.2.2.2.2.2.2.2.2.2) (fun zi=>(fun off p i ps S s t fk fs N0 c bst=>(M - i : Nat)) zi.1 zi.2.1 zi.2.2.1 zi.2.2.2.1 zi.2.2.2.2.1 zi.2.2.2.2.2.1 zi.2.2.2.2.2.2.1 zi.2.2.2.2.2.2.2.1 zi.2.2.2.2.2.2.2.2.1 zi.2.2.2.2.2.2.2.2.2.1 zi.2.2.2.2.2.2.2.2.2.2.1 zi.2.2.2.2.2.2.2.2.2.2.2) (fun zi=>(L48 B rn N cap o cnt fh fo Z V M mc) zi.1 zi.2.1 zi.2.2.1 zi.2.2.2.1 zi.2.2.2.2.1 zi.2.2.2.2.2.1 zi.2.2.2.2.2.2.1 zi.2.2.2.2.2.2.2.1 zi.2.2.2.2.2.2.2.2.1 zi.2.2.2.2.2.2.2.2.2.1 zi.2.2.2.2.2.2.2.2.2.2.1 zi.2.2.2.2.2.2.2.2.2.2.2) (((p0 : Int),p0,0,ps0,S0,s0,t0,fk0,fs0,N00,c0,BSt.n)) [0,1,2,3,4,5,6,7,8,9,10,11,12,13,14,15,16,17,18,19,20,21,22,23,24] (show (I48 B N M pl kd sz ps0) ((p0 : Int)) (p0) (0) (ps0) (S0) (s0) (t0) (fk0) (fs0) (N00) (c0) (BSt.n) from ?_) (Ent.R rfl rfl rfl rfl) ?_
 ·exact ⟨rfl,Nat.zero_le _,h0,by omega,Nat.zero_le _,fun j hj=>absurd hj (Nat.not_lt_zero _),trivial⟩
 rintro ⟨off,p,i,ps,S,s,t,fk,fs,N0,c,bst⟩ hI
 change (I48 B N M pl kd sz ps0) off p i ps S s t fk fs N0 c bst at hI
 change GC _ _ _ ((L48 B rn N cap o cnt fh fo Z V M mc) off p i ps S s t fk fs N0 c bst)
 obtain ⟨rfl,hi,hs,hpp,hc,hN,hb⟩:=hI
 have hiN : i * N ≤ 40 * N:=Nat.mul_le_mul_right N (by omega)
 have hi1 : (i + 1) * N = i * N + N:=Nat.succ_mul i N
 rcases bst with _ | ⟨bo,bl,bc,brn,F⟩
 all_goals dsimp only [L48,pdG,srG,List.cons_append,List.nil_append]
 ·refine cF [0,3,20,21,22,85,86,87,88,89,90,130,131,132,133,134,135,136,137] ?_
  refine rS [0,3,20,21,22,23,85,86,87,88,89,90,130,131,132,133,134,135,136,137] ?_
  refine GC.seq ?_
  refine GC.cond rfl (fun hlt=>?_) (fun hlt=>?_)
  ·have hlt : (i : Int) < M:=by simpa using hlt
   have hlt : i < M:=by omega
   have hhd:=pk.hd i hlt
   have hzs:=pk.hz i hlt
   have hk6:=pk.hk i hlt
   have hsz:=pk.hs i hlt
   have hble:=hzs.hb.le
   have hhlt:=hhd.lt
   have hzp:=hzs.hp
   obtain ⟨b,crc,hv,hV,z,hvr⟩:=hr.hV i hlt
   refine GC.skip (GK.code (GC.seq (GC.block (GL.seqR ?_))))
   refine lK 1 [0,3,20,21,22,24,85,86,87,88,89,90,130,131,132,133,134,135,136,137] ?_
   refine GL.op rfl (OpW.lstep (LStep.at rfl rfl rfl rfl rfl (by show 0 + (i : Int).toNat * 1 < mc * 1; omega) (by show SV.v (V (0 + (i : Int).toNat * 1)) = .v (.pointer (some ⟨b,0,none⟩)); rw [Int.toNat_natCast,Nat.mul_one,Nat.zero_add,hV])) rfl (gF [0,3,20,21,22,25,85,86,87,88,89,90,130,131,132,133,134,135,136,137] rfl ?_))
   refine lF [0,3,5,20,21,22,85,86,87,88,89,90,130,131,132,133,134,135,136,137] (GK.code ?_)
   refine GC.seq (GL.seqR ?_)
   refine lK 1 [0,3,5,20,21,22,26,85,86,87,88,89,90,130,131,132,133,134,135,136,137] ?_
   refine GL.op rfl (cR rfl (f80 _ Z b (pl i) (sz i) crc (kd i) hv z hk6) [15] rfl rfl rfl rfl fun _ _=>?_)
   refine gF [0,3,5,20,21,22,27,85,86,87,88,89,90,130,131,132,133,134,135,136,137] rfl ?_
   refine lF [0,3,5,6,20,21,22,85,86,87,88,89,90,130,131,132,133,134,135,136,137] (GK.code ?_)
   refine rS [0,3,5,6,20,21,22,29,85,86,87,88,89,90,130,131,132,133,134,135,136,137] ?_
   refine GC.condF rfl (GC.skip (GK.code (GL.seqR ?_)))
   refine lK 1 [0,3,5,20,21,22,31,85,86,87,88,89,90,130,131,132,133,134,135,136,137] ?_
   refine GL.op rfl (cR rfl (f72n _ 0 0) [24] rfl rfl rfl rfl fun _ _=>?_)
   refine gF [0,3,5,20,21,22,85,86,87,88,89,90,130,131,132,133,134,135,136,137] rfl ?_
   refine lF [0,3,5,20,21,22,85,86,87,88,89,90,130,131,132,133,134,135,136,137] (GK.code ?_)
   by_cases hL0 : sz i = 0
   ·refine GL.seqR ?_
    refine lK 4 [0,3,5,20,21,22,33,36,85,86,87,88,89,90,130,131,132,133,134,135,136,137] ?_
    refine GL.op rfl (OpW.lstep (LStep.fz 15 rfl rfl rfl rfl rfl z.h1) rfl (gF [0,3,5,20,21,22,33,37,85,86,87,88,89,90,130,131,132,133,134,135,136,137] rfl ?_))
    refine GL.op rfl (cR rfl (f74 _ (sz i) hsz) [] rfl rfl rfl rfl fun _ _=>?_)
    refine gF [0,3,5,20,21,22,33,38,85,86,87,88,89,90,130,131,132,133,134,135,136,137] rfl ?_
    refine GL.op rfl (cR rfl (f73z _ (sz i) hL0 0) [24] rfl rfl rfl rfl fun _ _=>?_)
    refine gF [0,3,5,20,21,22,85,86,87,88,89,90,130,131,132,133,134,135,136,137] rfl ?_
    refine lF [0,3,5,20,21,22,85,86,87,88,89,90,130,131,132,133,134,135,136,137] (GK.code ?_)
    refine GL.seqR ?_
    refine lK 3 [0,3,5,20,21,22,40,41,42,85,86,87,88,89,90,130,131,132,133,134,135,136,137] ?_
    refine GL.op rfl (cR rfl (f81N _ be hE B S rn N cap p ps s t d hs (by omega) o cnt fh fo Z V M mc fk fs N0 i c b (pl i) (kd i) (sz i) (zp i) (pe i) (T i) crc hv hhd hzs hk6 hsz z 0 hL0) [0,1,2,3,4,5,6,7,8,9,10,11,12,13,14,15,16,17,18,19,20,21,22,24,23] rfl rfl rfl rfl ?_)
    intro ⟨s2,t2,ps2⟩ ⟨h2,hd2⟩
    dsimp only at h2 hd2 ⊢
    refine gF [0,3,5,20,21,22,43,85,86,87,88,89,90,130,131,132,133,134,135,136,137] rfl ?_
    refine lF [0,3,5,7,20,21,22,85,86,87,88,89,90,130,131,132,133,134,135,136,137] (GK.code ?_)
    refine GC.seq ?_
    refine rS [0,3,5,7,20,21,22,45,85,86,87,88,89,90,130,131,132,133,134,135,136,137] ?_
    refine GC.condF rfl (GC.skip (GK.code (GC.seq ?_)))
    refine GC.seq (GC.draw [(0,0),(1,0),(2,0),(3,0),(5,0),(6,0),(7,0),(9,0),(10,0),(11,0),(4,1),(8,1),(12,1),(13,2),(14,0)] mixed (by kernel_rfl) (by rintro _ _ _ _ ⟨_,_,_,_,h,_⟩ _ <;> cases h) ?_)
    refine wK 10 [0,3,5,20,21,22,47,50,54,58,85,86,87,88,89,90,130,131,132,133,134,135,136,137] ?_
    refine GW.lstep rfl rfl (LStep.fz 15 rfl rfl rfl rfl rfl z.h2) rfl (GW.force [0,3,5,20,21,22,47,51,54,58,85,86,87,88,89,90,130,131,132,133,134,135,136,137] rfl ?_)
    refine GW.lstep rfl rfl (LStep.fz 15 rfl rfl rfl rfl rfl z.h1) rfl (GW.force [0,3,5,20,21,22,47,51,55,58,85,86,87,88,89,90,130,131,132,133,134,135,136,137] rfl ?_)
    refine GW.lstep rfl rfl (LStep.fz 15 rfl rfl rfl rfl rfl z.h0) rfl (GW.force [0,3,5,20,21,22,47,51,55,59,85,86,87,88,89,90,130,131,132,133,134,135,136,137] rfl ?_)
    refine GW.op rfl rfl (cR rfl (f82 _ B rn N cap ((pe i + 4 : Nat) : Int) s2 t2 o cnt fh fo Z V M mc fk fs N0 i c (kd i) (sz i) (pl i)) [0,1,2,3,4,5,6,7,8,9,10,11,12,13,14,15,16,17,18,19,20,23,21,22] rfl rfl rfl rfl fun _ _=>?_)
    refine wL [0,3,5,20,21,22,60,85,86,87,88,89,90,130,131,132,133,134,135,136,137] rfl ?_
    refine wF [0,3,5,8,20,21,22,85,86,87,88,89,90,130,131,132,133,134,135,136,137] (GK.code ?_)
    refine rS [0,3,5,8,20,21,22,62,85,86,87,88,89,90,130,131,132,133,134,135,136,137] ?_
    refine GC.condF rfl (GC.skip (GK.code (GC.seq ?_)))
    refine GC.seq (GC.draw [(0,0),(1,0),(2,0),(3,0),(5,0),(6,0),(7,0),(9,0),(10,0),(11,0),(4,1),(8,1),(12,1),(13,2),(14,0)] mixed (by kernel_rfl) (by rintro _ _ _ _ ⟨_,_,_,_,h,_⟩ _ <;> cases h) ?_)
    refine wK 10 [0,3,5,20,21,22,64,67,71,75,85,86,87,88,89,90,130,131,132,133,134,135,136,137] ?_
    refine GW.lstep rfl rfl (LStep.fzA (vs:=hVs hv) 15 rfl rfl rfl rfl rfl rfl z.shaV) rfl (GW.force [0,3,5,20,21,22,64,68,71,75,85,86,87,88,89,90,130,131,132,133,134,135,136,137] rfl ?_)
    refine GW.lstep rfl rfl (LStep.fz 15 rfl rfl rfl rfl rfl z.h0) rfl (GW.force [0,3,5,20,21,22,64,68,72,75,85,86,87,88,89,90,130,131,132,133,134,135,136,137] rfl ?_)
    refine GW.lstep rfl rfl (LStep.fz 15 rfl rfl rfl rfl rfl z.h5) rfl (GW.force [0,3,5,20,21,22,64,68,72,76,85,86,87,88,89,90,130,131,132,133,134,135,136,137] rfl ?_)
    refine GW.op rfl rfl (cR rfl (f83 _ B rn N cap ((pe i + 4 : Nat) : Int) s2 t2 o cnt fh fo Z V M mc (updF fk (.int .i64 (pl i)) (.int .i8 (kd i))) (updF fs (.int .i64 (pl i)) (.int .i64 (sz i))) N0 i c hv (kd i) (sz i) (pl i) crc hvr (by omega) (by unfold updF; rw [if_pos rfl]) (by unfold updF; rw [if_pos rfl]) hc (by omega)) [0,1,2,3,4,5,6,7,8,9,10,11,12,13,14,15,16,17,18,19,20,23,21,22] rfl rfl rfl rfl ?_)
    intro ⟨c2,N2,tx⟩ hx
    obtain ⟨hx1,hx2,hx3⟩:=hx
    dsimp only at hx1 hx2 hx3 ⊢
    refine wL [0,3,5,20,21,22,77,85,86,87,88,89,90,130,131,132,133,134,135,136,137] rfl ?_
    refine wF [0,3,5,9,20,21,22,85,86,87,88,89,90,130,131,132,133,134,135,136,137] (GK.code ?_)
    refine rS [0,3,5,9,20,21,22,79,85,86,87,88,89,90,130,131,132,133,134,135,136,137] ?_
    refine GC.condF rfl (GC.skip (GK.code (GL.seqR ?_)))
    refine lK 1 [0,3,5,20,21,22,81,85,86,87,88,89,90,130,131,132,133,134,135,136,137] ?_
    refine GL.op rfl (cR rfl (f84 _ Z b (pl i) (sz i) crc (kd i) hv z hk6) [15] rfl rfl rfl rfl fun _ _=>?_)
    refine gF [0,3,5,20,21,22,82,85,86,87,88,89,90,130,131,132,133,134,135,136,137] rfl ?_
    refine lK 5 [0,3,5,20,21,22,84,85,86,87,88,89,90,130,131,132,133,134,135,136,137] ?_
    refine GL.opG rfl rfl (OpW.lstep (LStep.fz 15 rfl rfl rfl rfl rfl z.h7) rfl (gF [0,3,5,20,21,22,84,85,86,87,88,89,90,130,131,132,133,134,135,136,137] rfl ?_))
    refine lF [0,3,5,20,21,22,85,86,87,88,89,90,91,130,131,132,133,134,135,136,137] (GK.code ?_)
    refine GC.condF rfl (GC.skip (GK.code ?_))
    refine rG [0,3,20,21,22,85,86,87,88,89,90,130,131,132,133,134,135,136,137] ?_
    refine GK.back (((pe i + 4 : Nat) : Int),pe i + 4,i + 1,ps2,jmp S B ps (pl i),s2,t2,updF fk (.int .i64 (pl i)) (.int .i8 (kd i)),updF fs (.int .i64 (pl i)) (.int .i64 (sz i)),N2,c2,BSt.n) [0,1,2,3,4,5,6,7,8,9,10,11,12,13,14,15,16,17,18,19,20,21,22,23,24] (show (I48 B N M pl kd sz ps0) (((pe i + 4 : Nat) : Int)) (pe i + 4) (i + 1) (ps2) (jmp S B ps (pl i)) (s2) (t2) (updF fk (.int .i64 (pl i)) (.int .i8 (kd i))) (updF fs (.int .i64 (pl i)) (.int .i64 (sz i))) (N2) (c2) (BSt.n) from ?_) ?_ (Ent.R rfl rfl rfl rfl)
    ·exact ⟨rfl,by omega,h2,by omega,hx1,hN.push hx2 hx3,trivial⟩
    ·show M - (i + 1) < M - i; omega
   ·refine GL.seqR ?_
    refine lK 4 [0,3,5,20,21,22,33,36,85,86,87,88,89,90,130,131,132,133,134,135,136,137] ?_
    refine GL.op rfl (OpW.lstep (LStep.fz 15 rfl rfl rfl rfl rfl z.h1) rfl (gF [0,3,5,20,21,22,33,37,85,86,87,88,89,90,130,131,132,133,134,135,136,137] rfl ?_))
    refine GL.op rfl (cR rfl (f74 _ (sz i) hsz) [] rfl rfl rfl rfl fun _ _=>?_)
    refine gF [0,3,5,20,21,22,33,38,85,86,87,88,89,90,130,131,132,133,134,135,136,137] rfl ?_
    refine GL.op rfl (cR rfl (f73n _ (sz i) 0 (by omega) hsz) [24] rfl rfl rfl rfl ?_)
    intro ⟨bo2,bc2,brn2,F2⟩ ⟨hg1,hg2,hg3,hg4⟩
    dsimp only at hg1 hg2 hg3 hg4 ⊢
    refine gF [0,3,5,20,21,22,85,86,87,88,89,90,130,131,132,133,134,135,136,137] rfl ?_
    refine lF [0,3,5,20,21,22,85,86,87,88,89,90,130,131,132,133,134,135,136,137] (GK.code ?_)
    refine GL.seqR ?_
    refine lK 3 [0,3,5,20,21,22,40,41,42,85,86,87,88,89,90,130,131,132,133,134,135,136,137] ?_
    refine GL.op rfl (cR rfl (f81B _ be hE B S rn N cap p ps s t d hs (by omega) o cnt fh fo Z V M mc fk fs N0 i c b (pl i) (kd i) (sz i) (zp i) (pe i) (T i) crc hv hhd hzs hk6 hsz z bo2 bc2 brn2 hg1 hg4 hg3 F2) [0,1,2,3,4,5,6,7,8,9,10,11,12,13,14,15,16,17,18,19,20,21,22,24,25,23] rfl rfl rfl rfl ?_)
    intro ⟨s2,t2,ps2,w2⟩ ⟨h2,hd2⟩
    dsimp only at h2 hd2 ⊢
    refine gF [0,3,5,20,21,22,43,85,86,87,88,89,90,130,131,132,133,134,135,136,137] rfl ?_
    refine lF [0,3,5,7,20,21,22,85,86,87,88,89,90,130,131,132,133,134,135,136,137] (GK.code ?_)
    refine GC.seq ?_
    refine rS [0,3,5,7,20,21,22,45,85,86,87,88,89,90,130,131,132,133,134,135,136,137] ?_
    refine GC.condF rfl (GC.skip (GK.code (GC.seq ?_)))
    refine GC.seq (GC.draw [(0,0),(1,0),(2,0),(3,0),(5,0),(6,0),(7,0),(9,0),(10,0),(11,0),(4,1),(8,1),(12,1),(13,2),(14,0)] mixed (by kernel_rfl) (by rintro _ _ _ _ ⟨_,_,_,_,h,_⟩ _ <;> cases h) ?_)
    refine wK 10 [0,3,5,20,21,22,47,50,54,58,85,86,87,88,89,90,130,131,132,133,134,135,136,137] ?_
    refine GW.lstep rfl rfl (LStep.fz 15 rfl rfl rfl rfl rfl z.h2) rfl (GW.force [0,3,5,20,21,22,47,51,54,58,85,86,87,88,89,90,130,131,132,133,134,135,136,137] rfl ?_)
    refine GW.lstep rfl rfl (LStep.fz 15 rfl rfl rfl rfl rfl z.h1) rfl (GW.force [0,3,5,20,21,22,47,51,55,58,85,86,87,88,89,90,130,131,132,133,134,135,136,137] rfl ?_)
    refine GW.lstep rfl rfl (LStep.fz 15 rfl rfl rfl rfl rfl z.h0) rfl (GW.force [0,3,5,20,21,22,47,51,55,59,85,86,87,88,89,90,130,131,132,133,134,135,136,137] rfl ?_)
    refine GW.op rfl rfl (cR rfl (f82 _ B rn N cap ((pe i + 4 : Nat) : Int) s2 t2 o cnt fh fo Z V M mc fk fs N0 i c (kd i) (sz i) (pl i)) [0,1,2,3,4,5,6,7,8,9,10,11,12,13,14,15,16,17,18,19,20,23,21,22] rfl rfl rfl rfl fun _ _=>?_)
    refine wL [0,3,5,20,21,22,60,85,86,87,88,89,90,130,131,132,133,134,135,136,137] rfl ?_
    refine wF [0,3,5,8,20,21,22,85,86,87,88,89,90,130,131,132,133,134,135,136,137] (GK.code ?_)
    refine rS [0,3,5,8,20,21,22,62,85,86,87,88,89,90,130,131,132,133,134,135,136,137] ?_
    refine GC.condF rfl (GC.skip (GK.code (GC.seq ?_)))
    refine GC.seq (GC.draw [(0,0),(1,0),(2,0),(3,0),(5,0),(6,0),(7,0),(9,0),(10,0),(11,0),(4,1),(8,1),(12,1),(13,2),(14,0)] mixed (by kernel_rfl) (by rintro _ _ _ _ ⟨_,_,_,_,h,_⟩ _ <;> cases h) ?_)
    refine wK 10 [0,3,5,20,21,22,64,67,71,75,85,86,87,88,89,90,130,131,132,133,134,135,136,137] ?_
    refine GW.lstep rfl rfl (LStep.fzA (vs:=hVs hv) 15 rfl rfl rfl rfl rfl rfl z.shaV) rfl (GW.force [0,3,5,20,21,22,64,68,71,75,85,86,87,88,89,90,130,131,132,133,134,135,136,137] rfl ?_)
    refine GW.lstep rfl rfl (LStep.fz 15 rfl rfl rfl rfl rfl z.h0) rfl (GW.force [0,3,5,20,21,22,64,68,72,75,85,86,87,88,89,90,130,131,132,133,134,135,136,137] rfl ?_)
    refine GW.lstep rfl rfl (LStep.fz 15 rfl rfl rfl rfl rfl z.h5) rfl (GW.force [0,3,5,20,21,22,64,68,72,76,85,86,87,88,89,90,130,131,132,133,134,135,136,137] rfl ?_)
    refine GW.op rfl rfl (cR rfl (f83 _ B rn N cap ((pe i + 4 : Nat) : Int) s2 t2 o cnt fh fo Z V M mc (updF fk (.int .i64 (pl i)) (.int .i8 (kd i))) (updF fs (.int .i64 (pl i)) (.int .i64 (sz i))) N0 i c hv (kd i) (sz i) (pl i) crc hvr (by omega) (by unfold updF; rw [if_pos rfl]) (by unfold updF; rw [if_pos rfl]) hc (by omega)) [0,1,2,3,4,5,6,7,8,9,10,11,12,13,14,15,16,17,18,19,20,23,21,22] rfl rfl rfl rfl ?_)
    intro ⟨c2,N2,tx⟩ hx
    obtain ⟨hx1,hx2,hx3⟩:=hx
    dsimp only at hx1 hx2 hx3 ⊢
    refine wL [0,3,5,20,21,22,77,85,86,87,88,89,90,130,131,132,133,134,135,136,137] rfl ?_
    refine wF [0,3,5,9,20,21,22,85,86,87,88,89,90,130,131,132,133,134,135,136,137] (GK.code ?_)
    refine rS [0,3,5,9,20,21,22,79,85,86,87,88,89,90,130,131,132,133,134,135,136,137] ?_
    refine GC.condF rfl (GC.skip (GK.code (GL.seqR ?_)))
    refine lK 1 [0,3,5,20,21,22,81,85,86,87,88,89,90,130,131,132,133,134,135,136,137] ?_
    refine GL.op rfl (cR rfl (f84 _ Z b (pl i) (sz i) crc (kd i) hv z hk6) [15] rfl rfl rfl rfl fun _ _=>?_)
    refine gF [0,3,5,20,21,22,82,85,86,87,88,89,90,130,131,132,133,134,135,136,137] rfl ?_
    refine lK 5 [0,3,5,20,21,22,84,85,86,87,88,89,90,130,131,132,133,134,135,136,137] ?_
    refine GL.opG rfl rfl (OpW.lstep (LStep.fz 15 rfl rfl rfl rfl rfl z.h7) rfl (gF [0,3,5,20,21,22,84,85,86,87,88,89,90,130,131,132,133,134,135,136,137] rfl ?_))
    refine lF [0,3,5,20,21,22,85,86,87,88,89,90,91,130,131,132,133,134,135,136,137] (GK.code ?_)
    refine GC.condF rfl (GC.skip (GK.code ?_))
    refine rG [0,3,20,21,22,85,86,87,88,89,90,130,131,132,133,134,135,136,137] ?_
    refine GK.back (((pe i + 4 : Nat) : Int),pe i + 4,i + 1,ps2,jmp S B ps (pl i),s2,t2,updF fk (.int .i64 (pl i)) (.int .i8 (kd i)),updF fs (.int .i64 (pl i)) (.int .i64 (sz i)),N2,c2,BSt.s bo2 (sz i) bc2 brn2 w2) [0,1,2,3,4,5,6,7,8,9,10,11,12,13,14,15,16,17,18,19,20,21,22,23,24,25] (show (I48 B N M pl kd sz ps0) (((pe i + 4 : Nat) : Int)) (pe i + 4) (i + 1) (ps2) (jmp S B ps (pl i)) (s2) (t2) (updF fk (.int .i64 (pl i)) (.int .i8 (kd i))) (updF fs (.int .i64 (pl i)) (.int .i64 (sz i))) (N2) (c2) (BSt.s bo2 (sz i) bc2 brn2 w2) from ?_) ?_ (Ent.R rfl rfl rfl rfl)
    ·exact ⟨rfl,by omega,h2,by omega,hx1,hN.push hx2 hx3,⟨hg3,hg2,hg4⟩⟩
    ·show M - (i + 1) < M - i; omega
  ·have hlt : ¬ ((i : Int) < M):=by simpa using hlt
   obtain rfl : i = M:=by omega
   refine GC.exit ?_
   refine GK.code ?_
   refine rS [2] ?_
   refine GC.ret ?_
   refine GK.pop (.inl rfl) rfl (f65 _) [] rfl ⟨.inl rfl,trivial⟩ trivial fun _ _=>?_
   refine fD (.inl rfl) rfl (by trivial) ((p,s,t,fk,fs,N0,c)) [0,1,2,3,4,5,6,7,8,9,10,11,12,13,14,15,16,17,18,19,20,21,22,23] rfl rfl rfl rfl (⟨hN,hc⟩)
 ·refine cF [0,3,20,21,22,85,86,87,88,89,90,130,131,132,133,134,135,136,137] ?_
  refine rS [0,3,20,21,22,23,85,86,87,88,89,90,130,131,132,133,134,135,136,137] ?_
  refine GC.seq ?_
  refine GC.cond rfl (fun hlt=>?_) (fun hlt=>?_)
  ·have hlt : (i : Int) < M:=by simpa using hlt
   have hlt : i < M:=by omega
   have hhd:=pk.hd i hlt
   have hzs:=pk.hz i hlt
   have hk6:=pk.hk i hlt
   have hsz:=pk.hs i hlt
   have hble:=hzs.hb.le
   have hhlt:=hhd.lt
   have hzp:=hzs.hp
   obtain ⟨b,crc,hv,hV,z,hvr⟩:=hr.hV i hlt
   refine GC.skip (GK.code (GC.seq (GC.block (GL.seqR ?_))))
   refine lK 1 [0,3,20,21,22,24,85,86,87,88,89,90,130,131,132,133,134,135,136,137] ?_
   refine GL.op rfl (OpW.lstep (LStep.at rfl rfl rfl rfl rfl (by show 0 + (i : Int).toNat * 1 < mc * 1; omega) (by show SV.v (V (0 + (i : Int).toNat * 1)) = .v (.pointer (some ⟨b,0,none⟩)); rw [Int.toNat_natCast,Nat.mul_one,Nat.zero_add,hV])) rfl (gF [0,3,20,21,22,25,85,86,87,88,89,90,130,131,132,133,134,135,136,137] rfl ?_))
   refine lF [0,3,5,20,21,22,85,86,87,88,89,90,130,131,132,133,134,135,136,137] (GK.code ?_)
   refine GC.seq (GL.seqR ?_)
   refine lK 1 [0,3,5,20,21,22,26,85,86,87,88,89,90,130,131,132,133,134,135,136,137] ?_
   refine GL.op rfl (cR rfl (f80 _ Z b (pl i) (sz i) crc (kd i) hv z hk6) [15] rfl rfl rfl rfl fun _ _=>?_)
   refine gF [0,3,5,20,21,22,27,85,86,87,88,89,90,130,131,132,133,134,135,136,137] rfl ?_
   refine lF [0,3,5,6,20,21,22,85,86,87,88,89,90,130,131,132,133,134,135,136,137] (GK.code ?_)
   refine rS [0,3,5,6,20,21,22,29,85,86,87,88,89,90,130,131,132,133,134,135,136,137] ?_
   refine GC.condF rfl (GC.skip (GK.code (GL.seqR ?_)))
   refine lK 1 [0,3,5,20,21,22,31,85,86,87,88,89,90,130,131,132,133,134,135,136,137] ?_
   refine GL.op rfl (cR rfl (f72s _ F bo bl bc brn 0 0) [24,25] rfl rfl rfl rfl fun _ _=>?_)
   refine gF [0,3,5,20,21,22,85,86,87,88,89,90,130,131,132,133,134,135,136,137] rfl ?_
   refine lF [0,3,5,20,21,22,85,86,87,88,89,90,130,131,132,133,134,135,136,137] (GK.code ?_)
   refine GL.seqR ?_
   refine lK 4 [0,3,5,20,21,22,33,36,85,86,87,88,89,90,130,131,132,133,134,135,136,137] ?_
   refine GL.op rfl (OpW.lstep (LStep.fz 15 rfl rfl rfl rfl rfl z.h1) rfl (gF [0,3,5,20,21,22,33,37,85,86,87,88,89,90,130,131,132,133,134,135,136,137] rfl ?_))
   refine GL.op rfl (cR rfl (f74 _ (sz i) hsz) [] rfl rfl rfl rfl fun _ _=>?_)
   refine gF [0,3,5,20,21,22,33,38,85,86,87,88,89,90,130,131,132,133,134,135,136,137] rfl ?_
   refine GL.op rfl (cR rfl (f73s _ F bo bc brn (sz i) 0 hsz hb.2.1 hb.2.2 hb.1) [24,25] rfl rfl rfl rfl ?_)
   intro ⟨bo2,bc2,brn2,F2⟩ ⟨hg1,hg2,hg3,hg4⟩
   dsimp only at hg1 hg2 hg3 hg4 ⊢
   refine gF [0,3,5,20,21,22,85,86,87,88,89,90,130,131,132,133,134,135,136,137] rfl ?_
   refine lF [0,3,5,20,21,22,85,86,87,88,89,90,130,131,132,133,134,135,136,137] (GK.code ?_)
   refine GL.seqR ?_
   refine lK 3 [0,3,5,20,21,22,40,41,42,85,86,87,88,89,90,130,131,132,133,134,135,136,137] ?_
   refine GL.op rfl (cR rfl (f81B _ be hE B S rn N cap p ps s t d hs (by omega) o cnt fh fo Z V M mc fk fs N0 i c b (pl i) (kd i) (sz i) (zp i) (pe i) (T i) crc hv hhd hzs hk6 hsz z bo2 bc2 brn2 hg1 hg4 hg3 F2) [0,1,2,3,4,5,6,7,8,9,10,11,12,13,14,15,16,17,18,19,20,21,22,24,25,23] rfl rfl rfl rfl ?_)
   intro ⟨s2,t2,ps2,w2⟩ ⟨h2,hd2⟩
   dsimp only at h2 hd2 ⊢
   refine gF [0,3,5,20,21,22,43,85,86,87,88,89,90,130,131,132,133,134,135,136,137] rfl ?_
   refine lF [0,3,5,7,20,21,22,85,86,87,88,89,90,130,131,132,133,134,135,136,137] (GK.code ?_)
   refine GC.seq ?_
   refine rS [0,3,5,7,20,21,22,45,85,86,87,88,89,90,130,131,132,133,134,135,136,137] ?_
   refine GC.condF rfl (GC.skip (GK.code (GC.seq ?_)))
   refine GC.seq (GC.draw [(0,0),(1,0),(2,0),(3,0),(5,0),(6,0),(7,0),(9,0),(10,0),(11,0),(4,1),(8,1),(12,1),(13,2),(14,0)] mixed (by kernel_rfl) (by rintro _ _ _ _ ⟨_,_,_,_,h,_⟩ _ <;> cases h) ?_)
   refine wK 10 [0,3,5,20,21,22,47,50,54,58,85,86,87,88,89,90,130,131,132,133,134,135,136,137] ?_
   refine GW.lstep rfl rfl (LStep.fz 15 rfl rfl rfl rfl rfl z.h2) rfl (GW.force [0,3,5,20,21,22,47,51,54,58,85,86,87,88,89,90,130,131,132,133,134,135,136,137] rfl ?_)
   refine GW.lstep rfl rfl (LStep.fz 15 rfl rfl rfl rfl rfl z.h1) rfl (GW.force [0,3,5,20,21,22,47,51,55,58,85,86,87,88,89,90,130,131,132,133,134,135,136,137] rfl ?_)
   refine GW.lstep rfl rfl (LStep.fz 15 rfl rfl rfl rfl rfl z.h0) rfl (GW.force [0,3,5,20,21,22,47,51,55,59,85,86,87,88,89,90,130,131,132,133,134,135,136,137] rfl ?_)
   refine GW.op rfl rfl (cR rfl (f82 _ B rn N cap ((pe i + 4 : Nat) : Int) s2 t2 o cnt fh fo Z V M mc fk fs N0 i c (kd i) (sz i) (pl i)) [0,1,2,3,4,5,6,7,8,9,10,11,12,13,14,15,16,17,18,19,20,23,21,22] rfl rfl rfl rfl fun _ _=>?_)
   refine wL [0,3,5,20,21,22,60,85,86,87,88,89,90,130,131,132,133,134,135,136,137] rfl ?_
   refine wF [0,3,5,8,20,21,22,85,86,87,88,89,90,130,131,132,133,134,135,136,137] (GK.code ?_)
   refine rS [0,3,5,8,20,21,22,62,85,86,87,88,89,90,130,131,132,133,134,135,136,137] ?_
   refine GC.condF rfl (GC.skip (GK.code (GC.seq ?_)))
   refine GC.seq (GC.draw [(0,0),(1,0),(2,0),(3,0),(5,0),(6,0),(7,0),(9,0),(10,0),(11,0),(4,1),(8,1),(12,1),(13,2),(14,0)] mixed (by kernel_rfl) (by rintro _ _ _ _ ⟨_,_,_,_,h,_⟩ _ <;> cases h) ?_)
   refine wK 10 [0,3,5,20,21,22,64,67,71,75,85,86,87,88,89,90,130,131,132,133,134,135,136,137] ?_
   refine GW.lstep rfl rfl (LStep.fzA (vs:=hVs hv) 15 rfl rfl rfl rfl rfl rfl z.shaV) rfl (GW.force [0,3,5,20,21,22,64,68,71,75,85,86,87,88,89,90,130,131,132,133,134,135,136,137] rfl ?_)
   refine GW.lstep rfl rfl (LStep.fz 15 rfl rfl rfl rfl rfl z.h0) rfl (GW.force [0,3,5,20,21,22,64,68,72,75,85,86,87,88,89,90,130,131,132,133,134,135,136,137] rfl ?_)
   refine GW.lstep rfl rfl (LStep.fz 15 rfl rfl rfl rfl rfl z.h5) rfl (GW.force [0,3,5,20,21,22,64,68,72,76,85,86,87,88,89,90,130,131,132,133,134,135,136,137] rfl ?_)
   refine GW.op rfl rfl (cR rfl (f83 _ B rn N cap ((pe i + 4 : Nat) : Int) s2 t2 o cnt fh fo Z V M mc (updF fk (.int .i64 (pl i)) (.int .i8 (kd i))) (updF fs (.int .i64 (pl i)) (.int .i64 (sz i))) N0 i c hv (kd i) (sz i) (pl i) crc hvr (by omega) (by unfold updF; rw [if_pos rfl]) (by unfold updF; rw [if_pos rfl]) hc (by omega)) [0,1,2,3,4,5,6,7,8,9,10,11,12,13,14,15,16,17,18,19,20,23,21,22] rfl rfl rfl rfl ?_)
   intro ⟨c2,N2,tx⟩ hx
   obtain ⟨hx1,hx2,hx3⟩:=hx
   dsimp only at hx1 hx2 hx3 ⊢
   refine wL [0,3,5,20,21,22,77,85,86,87,88,89,90,130,131,132,133,134,135,136,137] rfl ?_
   refine wF [0,3,5,9,20,21,22,85,86,87,88,89,90,130,131,132,133,134,135,136,137] (GK.code ?_)
   refine rS [0,3,5,9,20,21,22,79,85,86,87,88,89,90,130,131,132,133,134,135,136,137] ?_
   refine GC.condF rfl (GC.skip (GK.code (GL.seqR ?_)))
   refine lK 1 [0,3,5,20,21,22,81,85,86,87,88,89,90,130,131,132,133,134,135,136,137] ?_
   refine GL.op rfl (cR rfl (f84 _ Z b (pl i) (sz i) crc (kd i) hv z hk6) [15] rfl rfl rfl rfl fun _ _=>?_)
   refine gF [0,3,5,20,21,22,82,85,86,87,88,89,90,130,131,132,133,134,135,136,137] rfl ?_
   refine lK 5 [0,3,5,20,21,22,84,85,86,87,88,89,90,130,131,132,133,134,135,136,137] ?_
   refine GL.opG rfl rfl (OpW.lstep (LStep.fz 15 rfl rfl rfl rfl rfl z.h7) rfl (gF [0,3,5,20,21,22,84,85,86,87,88,89,90,130,131,132,133,134,135,136,137] rfl ?_))
   refine lF [0,3,5,20,21,22,85,86,87,88,89,90,91,130,131,132,133,134,135,136,137] (GK.code ?_)
   refine GC.condF rfl (GC.skip (GK.code ?_))
   refine rG [0,3,20,21,22,85,86,87,88,89,90,130,131,132,133,134,135,136,137] ?_
   refine GK.back (((pe i + 4 : Nat) : Int),pe i + 4,i + 1,ps2,jmp S B ps (pl i),s2,t2,updF fk (.int .i64 (pl i)) (.int .i8 (kd i)),updF fs (.int .i64 (pl i)) (.int .i64 (sz i)),N2,c2,BSt.s bo2 (sz i) bc2 brn2 w2) [0,1,2,3,4,5,6,7,8,9,10,11,12,13,14,15,16,17,18,19,20,21,22,23,24,25] (show (I48 B N M pl kd sz ps0) (((pe i + 4 : Nat) : Int)) (pe i + 4) (i + 1) (ps2) (jmp S B ps (pl i)) (s2) (t2) (updF fk (.int .i64 (pl i)) (.int .i8 (kd i))) (updF fs (.int .i64 (pl i)) (.int .i64 (sz i))) (N2) (c2) (BSt.s bo2 (sz i) bc2 brn2 w2) from ?_) ?_ (Ent.R rfl rfl rfl rfl)
   ·exact ⟨rfl,by omega,h2,by omega,hx1,hN.push hx2 hx3,⟨hg3,hg2,hg4⟩⟩
   ·show M - (i + 1) < M - i; omega
  ·have hlt : ¬ ((i : Int) < M):=by simpa using hlt
   obtain rfl : i = M:=by omega
   refine GC.exit ?_
   refine GK.code ?_
   refine rS [2] ?_
   refine GC.ret ?_
   refine GK.pop (.inl rfl) rfl (f65 _) [] rfl ⟨.inl rfl,trivial⟩ trivial fun _ _=>?_
   refine fD (.inl rfl) rfl (by trivial) ((p,s,t,fk,fs,N0,c)) [0,1,2,3,4,5,6,7,8,9,10,11,12,13,14,15,16,17,18,19,20,21,22,23] rfl rfl rfl rfl (⟨hN,hc⟩)
theorem m142t : IsMeth Tryz.prog 142 "Sum" 280:=fun v w=>by kernel_rfl
theorem f47 (μ) (B S : Nat → Int) (rn N cap p ps : Nat) (s : RdI) (t : WI) (oo : Int) (d : Dat B rn N cap) (h : Sr B S N p ps s t) (hps : ps < 1099511627776) (hp : p + 20 ≤ N) (hB : ∀ j,j < 20 → B (p + j) = dig (sha S ps) j) : FunC Tryz.prog μ 47 [.ptr 11 0] (scG B rn N cap p s t (.v (.pointer none)) 2 oo) 12 13
  (fun x : (Nat → Int) × RdI × WI=>(∀ j,j < 20 → x.1 j = B (p + j)) ∧ Sr B S N (p + 20) (ps + 20) x.2.1 x.2.2)
  (fun x=>⟨.tup [agV x.1,.v .nilIface],scG B rn N cap ((p + 20 : Nat) : Int) x.2.1 x.2.2 (.v (.pointer none)) 2 oo,13⟩):=by
 dsimp only [scG,srG,List.cons_append,List.nil_append]
 refine fE 44 Tryz.func47 fun zw zβ=>?_
 refine cF [0] ?_
 refine rS [0,2] ?_
 refine GL.seqR ?_
 refine lK 1 [0,2,7] ?_
 refine GL.op rfl (cR rfl (f77 _ B rn N cap p s t 2 oo) [0,1,2,3,4,5,6,7,8,9,10,11,12] rfl rfl rfl rfl fun _ _=>?_)
 refine gF [0,2,8] rfl ?_
 refine lF [0,2,4] (GK.code ?_)
 refine GC.seq ?_
 refine rS [0,2,4,10] ?_
 refine GC.condF rfl (GC.skip (GK.code (GL.seqR ?_)))
 refine lK 4 [0,2,16] ?_
 refine GL.op rfl (cR rfl (f78 _ S B rn N cap ps p s t h.hw h.hS (by have:=h.hb; have:=h.hp; omega)) [0,1,2,3,4,5,6,7,8,9,10,12] rfl rfl rfl rfl fun t2 ht2=>?_)
 obtain ⟨q1,n1,W1,x1,sh1⟩:=t2
 obtain ⟨⟨a1,a2,a3,a4⟩,a5⟩:=ht2
 dsimp only at a1 a2 a3 a4 a5
 dsimp only
 subst a5
 have h4 : Sr B S N p ps s ⟨q1,0,W1,x1,sh1⟩:=⟨h.hr,⟨a1,a2,a3,a4⟩,h.hl,h.hS,h.hb,h.hp⟩
 obtain rfl : q1 = ps:=by omega
 refine gF [0,2] rfl ?_
 refine lF [0,2] (GK.code ?_)
 refine GL.seqR ?_
 refine lK 4 [0,2,21] ?_
 refine GL.op rfl (iR rfl rfl (m142t) (f280 _ S q1 sh1 a4 hps) [10,12] rfl rfl rfl rfl ?_)
 intro ⟨c,F⟩ hd
 dsimp only at hd ⊢
 refine gF [0,2,22] rfl ?_
 refine GL.vstep rfl (VStep.s2ap rfl rfl rfl (by decide) (by decide)) rfl (GL.force [0,2,23] rfl ?_)
 refine lF [0,2,5] (GK.code ?_)
 refine GL.seqR ?_
 refine lK 5 [2,5,30] ?_
 refine GL.op rfl (cR rfl (f79 _ B S rn N cap p q1 s ⟨q1,0,W1,x1,sh1⟩ d h4 hp) [0,1,2,3,4,5,6,7,8,9,10,12] rfl rfl rfl rfl ?_)
 intro ⟨G,s2,t2⟩ hx
 dsimp only at hx ⊢
 refine gF [2,5,31] rfl ?_
 refine lF [2,4,5,6] (GK.code ?_)
 refine GC.seq ?_
 refine rS [2,4,5,6,35] ?_
 refine GC.condF rfl (GC.skip (GK.code (GC.seq (GL.seqR ?_))))
 refine lK 2 [2,6,38,39] ?_
 refine GL.vstep rfl (VStep.eqA (k:=.u8) (zs:=agL F) (zs':=agL G) rfl (.inr rfl) rfl rfl rfl (by kernel_rfl) rfl rfl rfl rfl) rfl (GL.force [2,6,40] rfl ?_)
 refine lF [2,6,40] (GK.code ?_)
 refine GC.cond rfl (fun hne=>?_) (fun hne=>?_)
 ·have hne : ¬ agL F = agL G:=by simpa using hne
  exact absurd (agV_congr fun j hj=>by rw [hd.2 j hj,hx.1 j hj,hB j hj]) hne
 ·have hne : ¬ (¬ agL F = agL G):=by simpa using hne
  refine GC.skip (GK.code ?_)
  refine rS [2,3] ?_
  refine GC.ret ?_
  refine fR (.inl rfl) rfl (by trivial) ((G,s2,t2)) [0,1,2,3,4,5,6,7,8,9,10,11,12] rfl rfl rfl rfl (hx)
set_option maxHeartbeats 16000000 in
theorem f26 (μ) (be : Nat × Nat) (hE : muAt μ 0 0 = some (EOFv be)) (hP10 : P10 μ) (B : Nat → Int) (rn N cap : Nat) (s : RdI) (t : WI) (d : Dat B rn N cap) (h : Sr B B N 0 0 s t) (M : Nat) (hM40 : M ≤ 40) (pl kd sz zp pe : Nat → Nat) (T : Nat → Nat → Int) (pk : Pk B N M pl kd sz zp pe T) (hpl : pl 0 = 12) (hN : pl M + 20 = N)
  (hP : ∀ j,j < 4 → B j = packS j) (hv : w32 (be4 (B 4) (B (4 + 1)) (B (4 + 2)) (B (4 + 3))) = 2) (hM : w32 (be4 (B 8) (B (8 + 1)) (B (8 + 2)) (B (8 + 3))) = (M : Int)) (hB : ∀ j,j < 20 → B (pl M + j) = dig (sha B (pl M)) j) (hp12 : 12 ≤ pl M)
  (fk0 fs0 : Value → Option Value) (N00 : Nat → Value) (c0 : Nat) :
  FunC Tryz.prog μ 26 [.ptr 12 0] (srG B rn N cap 18 0 s t ++ [(11,.row (scR 0 9 10 (.v (.pointer none)) 0 0)),(12,.row (prR 0 (.v (.slice none 0 0)) (.v (.map none)) (.v (.map none)) 13 14)),(13,.row buR),(14,.row (osR 15)),(15,.row (obP 16 17 (.slc 19 0 0 c0))),(16,.pr (isMapU k64 fk0)),(17,.pr (isMapU k64 fs0)),(19,.row ⟨.vals N00,c0 * 6,39⟩)]) 18 20
  (fun y : (Nat → Int) × (Value → Option Value) × (Value → Option Value) × (Nat → Value) × Nat=>(∀ j,j < 20 → 0 ≤ y.1 j ∧ y.1 j < 256) ∧ Fnd y.2.2.2.1 pl kd sz M ∧ M ≤ y.2.2.2.2)
  (fun y=>⟨.tup [agV y.1,.v .nilIface],[(15,.row (obP 16 17 (.slc 19 0 M y.2.2.2.2))),(16,.pr (isMapU k64 y.2.1)),(17,.pr (isMapU k64 y.2.2.1)),(19,.row ⟨.vals y.2.2.2.1,y.2.2.2.2 * 6,39⟩)],20⟩):=by
 have hN2:=d.hN2
 dsimp only [srG,List.cons_append,List.nil_append,agV,agL,List.map_cons,List.map_nil]
 refine fE 58 Tryz.func26 fun zw zβ=>?_
 refine cF [0,35,36,37] ?_
 refine rS [0,2,35,36,37] ?_
 refine GC.seq (GL.seqR ?_)
 refine lK 1 [0,2,10,35,36,37] ?_
 refine GL.op rfl (cR rfl (f44 _ B B rn N cap s t fk0 fs0 N00 0 c0 M d h (by omega) hP hv hM hM40) [0,1,2,3,4,5,6,7,8,9,10,11,12,13,14,15,16,17,18,19] rfl rfl rfl rfl ?_)
 intro ⟨s1,t1⟩ h1
 dsimp only at h1 ⊢
 refine gF [0,2,11,35,36,37] rfl ?_
 refine lF [0,2,4,35,36,37] (GK.code ?_)
 refine rS [0,2,4,13,35,36,37] ?_
 refine GC.condF rfl (GC.skip (GK.code ?_))
 refine GC.cvR (r:=⟨.vals fun _=>.pointer none,M,165⟩) 23 ⟨.vals fun _=>.pointer none,M * 1,165⟩ rfl (Nat.mul_one M).symm rfl (fun i hi=>rfl) rfl ?_
 refine GC.fz0 ?_
 refine GC.force [0,2] rfl ?_
 have key:=f46 μ 0 be hE hP10 B B rn N cap fk0 fs0 N00 0 c0 M hM40 pl kd sz zp pe T pk 12 s1 t1 d (fun _=>none) (fun _=>none) (fun _=>none) (fun _=>.pointer none) M ⟨rfl,Nat.zero_le _,by rw [hpl]; exact h1,by rw [hpl]; rfl,Nat.zero_le _,⟨fun j hj=>absurd hj (Nat.not_lt_zero _),fun v x hx=>by cases hx⟩⟩
 rw [hpl] at key
 dsimp only [pgG,pgP,srG,List.cons_append,List.nil_append] at key
 refine GC.seq (GL.seqR ?_)
 refine lK 1 [0,2,17,35,36,37] ?_
 refine GL.op rfl (cR rfl (key) [0,1,2,3,4,5,6,7,8,9,10,11,12,21,22,24,13,14,15,16,17,19,18,23] rfl rfl rfl rfl ?_)
 intro ⟨off,ps,s2,t2,Z,fh,fo,V,oc⟩ hI
 clear key
 obtain ⟨ho2,_,hs2,hd2,hc2,hr2⟩:=hI
 dsimp only at ho2 hs2 hd2 hc2 hr2 ⊢
 subst ho2
 obtain rfl : ps = pl M:=by omega
 refine gF [0,2,18,35,36,37] rfl ?_
 refine lF [0,2,5,35,36,37] (GK.code ?_)
 refine rS [0,2,5,20,35,36,37] ?_
 refine GC.condF rfl (GC.skip (GK.code (GL.seqR ?_)))
 refine lK 4 [0,2,28,35,36,37] ?_
 refine GL.op rfl (cR rfl (f47 _ B B rn N cap (pl M) (pl M) s2 t2 M d hs2 (by omega) (by omega) hB) [0,1,2,3,4,5,6,7,8,9,10,11,18] rfl rfl rfl rfl ?_)
 intro ⟨F,s3,t3⟩ ⟨hF,h3⟩
 dsimp only [agV,agL,List.map_cons,List.map_nil] at hF h3 ⊢
 refine gF [0,2,29,35,36,37] rfl ?_
 refine lF [0,2,6,7,35,36,37] (GK.code ?_)
 refine GC.seq ?_
 refine rS [0,2,6,7,38] ?_
 refine GC.condF rfl (GC.skip (GK.code (GC.seq (GL.seqR ?_))))
 refine lK 1 [0,2,6,42] ?_
 refine GL.op rfl (cR rfl (f48 _ be hE B B rn N cap (pl M + 20) (pl M + 20) s3 t3 d h3 (by omega) M M M hM40 pl kd sz zp pe T pk fh fo Z V oc hc2 hr2 fk0 fs0 N00 c0) [0,1,2,3,4,5,6,7,8,9,10,11,12,21,22,24,13,14,15,16,17,23,19,18] rfl rfl rfl rfl ?_)
 intro ⟨p4,s4,t4,fk4,fs4,N4,c4⟩ ⟨hN4,hc4⟩
 dsimp only at hN4 hc4 ⊢
 refine gF [0,2,6,43] rfl ?_
 refine lF [0,2,6,8] (GK.code ?_)
 refine rS [0,2,6,8,45] ?_
 refine GC.condF rfl (GC.skip (GK.code (GC.seq (GL.seqR ?_))))
 refine lK 2 [2,6,49,50] ?_
 refine GL.op rfl (cR rfl (f49 _ B rn N cap p4 s4 t4 M M fh fo Z V M oc fk4 fs4 N4 M c4 F) [0,1,2,3,4,5,6,7,8,9,10,11,12,21,22,24,13,14,15,16,17,18,23,19] rfl rfl rfl rfl fun _ _=>?_)
 refine gF [2,6,51] rfl ?_
 refine lF [2,6,9] (GK.code ?_)
 refine rS [2,6,9,53] ?_
 refine GC.condF rfl (GC.skip (GK.code ?_))
 refine rS [2,3] ?_
 refine GC.ret ?_
 refine fR (.inl rfl) rfl (by trivial) ((F,fk4,fs4,N4,c4)) [0,1,2,3,4,5,6,7,8,9,10,11,12,13,14,15,16,17,18,19] rfl rfl rfl rfl (⟨fun j hj=>by show 0 ≤ F j ∧ F j < 256; rw [hF j hj]; exact d.hB _ (by omega),hN4,hc4⟩)
theorem f25b (μ) (B : Nat → Int) (rn N cap : Nat) : Fun Tryz.prog μ 25 [.slc 0 0 N cap] [(0,.row ⟨.ints .u8 B,rn,5⟩)] 1 (fun _ : Unit=>True) (fun _=>⟨.ptr 1 0,[(0,.row ⟨.ints .u8 B,rn,5⟩),(1,.row (brR 0 N cap 0 (-1)))],2⟩):=by
 refine fE 6 Tryz.func25 fun zw zβ=>?_
 refine cF [0] ?_
 refine rS [0] ?_
 refine rS [2] ?_
 refine GC.ret ?_
 refine fR (.inl rfl) rfl (by trivial) () [0,1] rfl rfl rfl rfl (trivial)
theorem f8 (μ) (be : Nat × Nat) (hE : muAt μ 0 0 = some (EOFv be)) (hP10 : P10 μ) (B : Nat → Int) (rn N cap : Nat) (d : Dat B rn N cap) (M : Nat) (hM40 : M ≤ 40) (pl kd sz zp pe : Nat → Nat) (T : Nat → Nat → Int) (pk : Pk B N M pl kd sz zp pe T) (hpl : pl 0 = 12) (hN : pl M + 20 = N)
  (hP : ∀ j,j < 4 → B j = packS j) (hv : w32 (be4 (B 4) (B (4 + 1)) (B (4 + 2)) (B (4 + 3))) = 2) (hM : w32 (be4 (B 8) (B (8 + 1)) (B (8 + 2)) (B (8 + 3))) = (M : Int)) (hB : ∀ j,j < 20 → B (pl M + j) = dig (sha B (pl M)) j) (hp12 : 12 ≤ pl M) :
  Fun Tryz.prog μ 8 [.slc 0 0 N cap] [(0,.row ⟨.ints .u8 B,rn,5⟩)] 1
  (fun y : (Nat → Value) × Nat × ByteArray=>Fnd y.1 pl kd sz M ∧ M ≤ y.2.1)
  (fun y=>⟨.tup [.slc 1 0 M y.2.1,.v (.string y.2.2),.v (.bool true)],[(1,.row ⟨.vals y.1,y.2.1 * 6,39⟩)],2⟩):=by
 refine fE 39 Tryz.func8 fun zw zβ=>?_
 refine cF [0] ?_
 refine rS [0] ?_
 refine GL.seqR ?_
 refine GL.op rfl (OpW.makeMapU k64 rfl rfl ?_)
 refine gF [0,9] rfl ?_
 refine GL.op rfl (OpW.makeMapU k64 rfl rfl ?_)
 refine gF [0,9,10] rfl ?_
 refine lF [0,5] (GK.code ?_)
 refine GC.nilgR 3 2 (.vals fun _=>undef) 39 rfl rfl rfl ?_
 refine GL.seqR ?_
 refine lK 1 [5,14] ?_
 refine GL.op rfl (cR rfl (f25b _ B rn N cap) [0] rfl rfl rfl rfl fun _ _=>?_)
 refine gF [5,15] rfl ?_
 refine lK 1 [5,16] ?_
 refine GL.op rfl (cR rfl (f24 _ B rn N cap (-1)) [5,0] rfl rfl rfl rfl fun i hi=>?_)
 refine gF [5,17] rfl ?_
 refine lK 3 [5,17,20] ?_
 refine GL.op rfl (cR rfl (f23 _ B rn N cap 0 ⟨0,0,-1,-1,0,-1,fun _=>0⟩ ⟨0,0,fun _=>0,0,i⟩ 0 0 (fun _=>none) (fun _=>none) (fun _=>undef) 0 0) [6,7,8,5,0,9,10,11,12,13,14,16,17,3,1,2,15,4] rfl rfl rfl rfl fun _ _=>?_)
 refine gF [5,21] rfl ?_
 refine lF [5,6,7] (GK.code ?_)
 refine GC.seq ?_
 refine rS [5,6,25] ?_
 refine GC.condF rfl (GC.skip (GK.code (GL.seqR ?_)))
 refine lK 1 [5,27] ?_
 refine GL.op rfl (cR rfl (f26 _ be hE hP10 B rn N cap ⟨0,0,-1,-1,0,-1,fun _=>0⟩ ⟨0,0,fun _=>0,0,i⟩ d ⟨⟨⟨by decide,by decide,by decide⟩,⟨by decide,by dsimp only; omega⟩,fun j h1 h2=>by dsimp only at h1 h2; omega⟩,⟨rfl,Nat.zero_le _,fun j hj=>absurd hj (Nat.not_lt_zero _),hi B⟩,fun j _=>rfl,fun j hj=>absurd hj (Nat.not_lt_zero _),by have:=d.hN2; omega,Nat.zero_le _⟩ M hM40 pl kd sz zp pe T pk hpl hN hP hv hM hB hp12 (fun _=>none) (fun _=>none) (fun _=>undef) 0) [6,7,8,5,0,9,10,11,12,13,14,16,19,18,17,3,1,2,15,4] rfl rfl rfl rfl ?_)
 intro ⟨F,fk,fs,N1,c1⟩ ⟨hF,hN1,hc1⟩
 dsimp only [agV,agL,List.map_cons,List.map_nil] at hF hN1 hc1 ⊢
 refine gF [5,28] rfl ?_
 refine lF [5,7,8] (GK.code ?_)
 refine GC.seq ?_
 refine rS [5,8,32] ?_
 refine GC.condF rfl (GC.skip (GK.code ?_))
 refine GC.seq (GC.drawH [(0,0),(1,0),(2,0),(3,3),(4,1),(5,4),(6,0),(7,0),(8,0)] [3,4] [(3,2,.slc 4 0 M c1)] mixed (by kernel_rfl) (by rintro _ _ _ _ ⟨_,_,_,_,h,_⟩ _; cases h) rfl fun β=>?_)
 refine wK 3 [8,35] ?_
 refine GW.held rfl rfl rfl rfl rfl rfl (.head _) ⟨⟨_,rfl,Nat.le_of_ble_eq_true rfl,rfl⟩,rfl,trivial⟩ rfl rfl (GW.force [8,36] rfl ?_)
 refine wK 1 [36,37] ?_
 refine GW.opS rfl rfl (cR rfl (f27 _ F hF) [] rfl rfl rfl rfl fun tx _=>?_)
 refine GK.heldAnd rfl ⟨⟨_,rfl,Nat.le_of_ble_eq_true rfl,rfl⟩,rfl,trivial⟩ (wL [36,38] rfl ?_)
 refine wF [2,3,4] (GK.delA rfl (GK.code ?_))
 refine GC.ret ?_
 refine fR (.inl rfl) rfl (by trivial) ((N1,c1,tx)) [0,4] rfl rfl rfl rfl (⟨hN1,hc1⟩)
def L9 (z : SV) (pli : Int) (M c : Nat) (N0 : Nat → Value) (j : Nat) : S:=⟨[(1,.v (.int .i64 pli)),(4,.ptr 1 0),(8,.slc 0 0 M c),(9,.v (.int .i64 M)),(10,.v (.int .i64 j))],[(0,.row ⟨.vals N0,c * 6,39⟩),(1,.row ⟨.lst [.v (.int .i64 0),.v (.int .i64 0),.v (.int .i64 0),.v (.int .u32 0),z,.v (.slice none 0 0)],6,39⟩)],2,[]⟩
theorem fd_at {N0 : Nat → Value} {k sz pos crc : Int} {tx : ByteArray} {j c : Nat} (hx : ∀ q,q < 6 → N0 (j * 6 + q) = fdV k sz pos crc tx q) (hc : j < c) :
  ∀ q v,[Value.int .i64 k,.int .i64 sz,.int .i64 pos,.int .u32 crc,.string tx,.slice none 0 0][q]? = some v → 0 + (j : Int).toNat * 6 + q < c * 6 ∧ (SV.v (N0 (0 + (j : Int).toNat * 6 + q))) = .v v:=by
 intro q v hq
 rw [Int.toNat_natCast,Nat.zero_add]
 have hq6 : q < 6:=by
  rcases Nat.lt_or_ge q 6 with h | h
  ·exact h
  ·rw [List.getElem?_eq_none (by simpa using h)] at hq; cases hq
 refine ⟨by omega,?_⟩
 rw [hx q hq6]
 match q,hq6,hq with
 | 0,_,hq=>cases hq; rfl
 | 1,_,hq=>cases hq; rfl
 | 2,_,hq=>cases hq; rfl
 | 3,_,hq=>cases hq; rfl
 | 4,_,hq=>cases hq; rfl
 | 5,_,hq=>cases hq; rfl
 | q + 6,h,_=>exact absurd h (by omega)
theorem f9 (μ) {pl kd sz : Nat → Nat} (N0 : Nat → Value) (M c i : Nat) (hM : M ≤ 40) (hf : Fnd N0 pl kd sz M) (hi : i < M) (hc : M ≤ c) (hpl : ∀ j,j < i → pl j ≠ pl i) :
  Fun Tryz.prog μ 9 [.slc 0 0 M c,.v (.int .i64 (pl i))] [(0,.row ⟨.vals N0,c * 6,39⟩)] 1
  (fun _ : Int × ByteArray=>True) (fun x=>⟨.tup [.agg [.v (.int .i64 (kd i)),.v (.int .i64 (sz i)),.v (.int .i64 (pl i)),.v (.int .u32 x.1),.v (.string x.2),.v (.slice none 0 0)],.v (.bool true)],[(0,.row ⟨.vals N0,c * 6,39⟩)],1⟩):=by
 refine fE 21 Tryz.func9 fun zw zβ=>?_
 refine cF [0,1] ?_
 refine rS [0,1,4] ?_
 refine GC.seq ?_
 refine rS [1,4,8,9,10] ?_
 refine GC.block ?_
 refine GC.loopE (ι:=(Nat)) (fun zi=>(fun j=>j ≤ i) zi) (fun zi=>(fun j=>(i - j : Nat)) zi) (fun zi=>(L9 (.v (.string ByteArray.empty)) (pl i) M c N0) zi) ((0)) [0,1] (show (fun j=>j ≤ i) (0) from ?_) (Ent.R rfl rfl rfl rfl) ?_
 ·exact Nat.zero_le _
 rintro j hI
 change (fun j=>j ≤ i) j at hI
 try dsimp only at hI
 change GC _ _ _ ((L9 (.v (.string ByteArray.empty)) (pl i) M c N0) j)
 have hI : j ≤ i:=hI
 unfold L9
 refine cF [1,4,8,9,10] ?_
 refine rS [1,4,8,9,10,11] ?_
 refine GC.seq ?_
 refine GC.cond rfl (fun hlt=>?_) (fun hlt=>?_)
 ·have hlt : (j : Int) < M:=by simpa using hlt
  obtain ⟨crc,tx,hx⟩:=hf j (by omega)
  refine GC.skip (GK.code (GC.seq (GC.block (GL.seqR ?_))))
  refine lK 1 [1,4,8,9,10,12] ?_
  refine GL.op rfl (OpW.lstep (LStep.atA (vs:=[.int .i64 (kd j),.int .i64 (sz j),.int .i64 (pl j),.int .u32 crc,.string tx,.slice none 0 0]) rfl rfl rfl rfl rfl rfl (fd_at hx (by omega))) rfl (gF [1,4,8,9,10,13] rfl ?_))
  refine lF [1,4,7,8,9,10] (GK.code ?_)
  refine rS [1,4,7,8,9,10,17] ?_
  refine GC.cond rfl (fun he=>?_) (fun he=>?_)
  ·have he : ((pl j : Nat) : Int) = (pl i : Int):=by simpa using he
   obtain rfl : j = i:=(Nat.lt_or_ge j i).elim (fun h=>absurd (by omega) (hpl j h)) (fun h=>by omega)
   refine rS [4,5] ?_
   refine GC.ret ?_
   refine fR (.inl rfl) rfl (by trivial) ((crc,tx)) [0] rfl rfl rfl rfl (trivial)
  ·have he : ¬ (((pl j : Nat) : Int) = (pl i : Int)):=by simpa using he
   have hji : j + 1 ≤ i:=(Nat.lt_or_ge j i).elim (fun h=>h) (fun h=>absurd (show ((pl j : Nat) : Int) = pl i by rw [show j = i from by omega]) he)
   refine GC.skip (GK.code ?_)
   refine rG [1,4,8,9,10] ?_
   refine GK.back (j + 1) [0,1] (show (fun j=>j ≤ i) (j + 1) from ?_) ?_ (Ent.R rfl rfl rfl rfl)
   ·exact hji
   ·show i - (j + 1) < i - j; omega
 ·have hlt : ¬ ((j : Int) < M):=by simpa using hlt
  omega
end Go.Proofs.YtebadfmnmhmfeaaGreatDoor.T
