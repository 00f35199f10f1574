/- What the functions of the program do, one contract each (P40N, P51, P50); each states its own conditions. -/
import Derived.Test.YtebadfmnmhmfeaaGreatDoorP15
namespace Go.Proofs.YtebadfmnmhmfeaaGreatDoor.T
open Go.Proofs.YtebadfmnmhmfeaaGreatDoor.Sx Go.RowKit
set_option maxRecDepth 20000
set_option linter.unusedSimpArgs false
set_option linter.unusedVariables false
set_option linter.unnecessarySimpa false
set_option linter.unusedSectionVars false
theorem m101sN : IsMeth Tryz.prog 101 "Sum32" 259:=fun v w=>by kernel_rfl
theorem f75N (μ) (dl : Int) (be : Nat × Nat) (hE : muAt μ 0 0 = some (EOFv be)) (B S T : Nat → Int) (rn N cap p pe L ps kd ho : Nat) (s : RdI) (t : WI) (d : Dat B rn N cap) (z : Zs B T N p L pe) (h : Sr B S N p ps s t) (hdl : (ps : Int) - (p : Int) = dl) (oo : Int) (lr : Int) (hL0 : L = 0) (w0 : Unit) (hw0 : True) :
  FunC Tryz.prog μ 75 [.ptr 11 0,.ifc 134 (.ptr 13 0)] (srG B rn N cap 14 (p : Nat) s t ++ [(11,.row (scR 0 9 10 (.ptr 12 0) 2 oo)),(12,.row (ohR kd ho L)),(13,.row (bfR (.v (.slice none 0 0)) 0 lr))]) 14 15
  (fun y : RdI × WI × Nat × Int × (Unit)=>Sr B S N (pe + 4) y.2.2.1 y.1 y.2.1 ∧ y.2.1.n = 0 ∧ (y.2.2.1 : Int) - ((pe + 4 : Nat) : Int) = dl ∧ True)
  (fun y=>⟨.tup [.v (.int .i64 (L : Nat)),.v (.int .u32 y.2.2.2.1),.v .nilIface],srG B rn N cap 14 ((pe + 4 : Nat) : Int) y.1 y.2.1 ++ [(11,.row (scR 0 9 10 (.v (.pointer none)) 2 oo)),(12,.row (ohR kd ho L)),(13,.row (bfR (.v (.slice none 0 0)) 0 lr))],15⟩):=by
 dsimp only [srG,List.cons_append,List.nil_append]
 refine fE 45 Tryz.func75 fun zw zβ=>?_
 refine cF [0,1] ?_
 refine rS [0,1] ?_
 refine rS [0,1,7] ?_
 refine GC.seq ?_
 refine rS [0,1,7,12] ?_
 refine GC.condT rfl ?_
 refine rG [0,1,7] ?_
 refine GK.code ?_
 refine rS [0,1,7] ?_
 refine GL.seqR ?_
 refine lK 3 [0,24,25,26] ?_
 refine GL.op rfl (cR rfl (f115N _ dl be hE B S T rn N cap p pe L ps s t d z h hdl 2 oo lr hL0 w0 hw0) [0,1,2,3,4,5,6,7,8,9,10,11,13,14] rfl rfl rfl rfl ?_)
 intro ⟨s1,t1,ps1,w⟩ hy
 obtain ⟨h1,h2,h3⟩:=hy
 dsimp only at h1 h2 h3 ⊢
 refine gF [0,27] rfl ?_
 refine lF [0,4,6] (GK.code ?_)
 refine GL.seqR ?_
 refine lK 4 [0,4,6,33] ?_
 refine GL.op rfl (cR rfl (f78 _ S B rn N cap ps1 _ s1 t1 h1.hw h1.hS (by have:=h1.hb; have:=h1.hp; omega)) [0,1,2,3,4,5,6,7,8,9,10,14] rfl rfl rfl rfl fun t2 ht2=>?_)
 obtain ⟨q1,n1,W1,x1,sh1⟩:=t2
 obtain ⟨⟨a1,a2,a3,a4⟩,a5⟩:=ht2
 dsimp only at a1 a2 a3 a4 a5
 dsimp only
 have h4 : Sr B S N (pe + 4) ps1 s1 ⟨q1,n1,W1,0,sh1⟩:=⟨h1.hr,⟨a1,a2,a3,a4⟩,h1.hl,h1.hS,h1.hb,h1.hp⟩
 refine gF [0,4,6] rfl ?_
 refine lF [0,4,6] (GK.code ?_)
 refine GL.seqR ?_
 refine lK 4 [0,4,6,38] ?_
 refine GL.op rfl (iR rfl rfl (m101sN) (f259 _ x1) [9] rfl rfl rfl rfl fun _ _=>?_)
 refine gF [0,4,6,39] rfl ?_
 refine lF [0,4,5,6] (GK.code ?_)
 refine GL.seqR ?_
 refine lK 4 [4,5,6,43] ?_
 refine GL.op rfl (iR rfl rfl (m113) (f256 _ x1) [9] rfl rfl rfl rfl fun _ _=>?_)
 refine gF [4,5,6] rfl ?_
 refine lF [4,5,6] (GK.code ?_)
 refine GC.ret ?_
 refine fR (.inl rfl) rfl (by trivial) ((s1,⟨q1,n1,W1,0,sh1⟩,ps1,x1,w)) [0,1,2,3,4,5,6,7,8,9,10,11,12,13,14] rfl rfl rfl rfl (⟨h4,a5,h2,h3⟩)
def jmp (S B : Nat → Int) (ps q : Nat) : Nat → Int:=fun j=>if j < ps then S j else B (q + (j - ps))
theorem Sr.jump {B S : Nat → Int} {rn N cap p ps q : Nat} {s s' : RdI} {t : WI} (h : Sr B S N p ps s t) (d : Dat B rn N cap) (hr : Rd B N q s') (hq : q ≤ N) (hb : ps + N < 1152921504606846976) : Sr B (jmp S B ps q) N q ps s' t:=by
 have hlt : ∀ j,j < ps → jmp S B ps q j = S j:=fun j hj=>by unfold jmp; rw [if_pos hj]
 refine ⟨hr,⟨h.hw.hq,h.hw.hn,fun j hj=>?_,h.hw.hA.congr (fun j hj=>?_)⟩,fun j hj=>?_,fun j hj=>?_,by omega,hq⟩
 ·rw [h.hw.hw j hj,hlt _ (by have:=h.hw.hq; omega)]
 ·exact (hlt _ (by have:=h.hw.hq; omega)).symm
 ·unfold jmp; rw [if_neg (by omega),Nat.add_sub_cancel_left]
 ·rw [hlt _ hj]; exact h.hS j hj
theorem f150 (μ) (B S : Nat → Int) (rn N cap p ps : Nat) (s : RdI) (t : WI) (d : Dat B rn N cap) (h : Sr B S N p ps s t) (hps : ps + N < 1152921504606846976) (q k n q2 : Nat) (o : Int) (hh : Hd B q k n q2) (hq : q2 ≤ N) (hn : n < 2 ^ 40) (hk : k < 6) :
  FunC Tryz.prog μ 150 [.ptr 11 0,.v (.int .i64 q)] (scG B rn N cap p s t (.v (.pointer none)) 2 o) 12 13
  (fun x : RdI × WI=>Sr B (jmp S B ps q) N q2 (ps + (q2 - q)) x.1 x.2) (fun x=>⟨.tup [.ptr 13 0,.v .nilIface],srG B rn N cap 12 q2 x.1 x.2 ++ [(11,.row (scR 0 9 10 (.ptr 13 0) 2 o)),(13,.row (ohR k q n))],14⟩):=by
 have hlt:=hh.lt
 dsimp only [scG,srG,List.cons_append,List.nil_append]
 refine fE 43 Tryz.func150 fun zw zβ=>?_
 refine cF [0,1] ?_
 refine rS [0,1] ?_
 refine GC.seq ?_
 refine rS [0,1,14] ?_
 refine GC.condF rfl (GC.skip (GK.code (GC.seq (GL.seqR ?_))))
 refine lK 5 [0,1,22,23] ?_
 refine GL.op rfl (cR rfl (f110_0 _ B rn N cap p s t q (by omega) d.hN2) [0,1,2,3,4,5,6,7,8,9,10,12] rfl rfl rfl rfl fun s' hs'=>?_)
 refine gF [0,1,24] rfl ?_
 refine lF [0,1,7] (GK.code ?_)
 refine rS [0,1,7,28] ?_
 refine GC.condF rfl (GC.skip (GK.code (GL.seqR ?_)))
 refine lK 1 [1,31] ?_
 refine GL.op rfl (cR rfl (f111 _ B (jmp S B ps q) rn N cap q ps k n q2 s' t 2 o d (h.jump d hs' (by omega) hps) hh hq hn hk) [0,1,2,3,4,5,6,7,8,9,10,11,12] rfl rfl rfl rfl fun x hx=>?_)
 refine gF [1,32] rfl ?_
 refine lF [1,8,9] (GK.code ?_)
 refine GC.seq ?_
 refine rS [1,8,9,36] ?_
 refine GC.condF rfl (GC.skip (GK.code ?_))
 refine rS [8] ?_
 refine rS [4,5] ?_
 refine GC.ret ?_
 refine fR (.inl rfl) rfl (by trivial) x [0,1,2,3,4,5,6,7,8,9,10,11,12,13] rfl rfl rfl rfl (hx)
set_option maxHeartbeats 16000000 in
theorem f123B (μ) (be : Nat × Nat) (hE : muAt μ 0 0 = some (EOFv be)) (B S : Nat → Int) (rn N cap p ps : Nat) (s : RdI) (t : WI) (d : Dat B rn N cap) (h : Sr B S N p ps s t) (hps : ps + N < 1152921504606846976) (o cnt : Int) (fh fo : Value → Option Value) (Z : Nat → Option Obj) (V : Nat → Value) (m mc : Nat) (fk fs : Value → Option Value) (N0 : Nat → Value) (n c : Nat) (b q kd L zp pe : Nat) (T : Nat → Int) (crc : Int) (hv : Nat → Int) (hh : Hd B q kd L zp) (hz : Zs B T N zp L pe) (hk : kd < 6) (hL : L ≤ 1048576) (z : Ozf Z b q L kd crc hv) (bo bc brn : Nat) (hbc : L ≤ bc) (hbc2 : bc < 9223372036854775808) (hbr : bo + bc ≤ brn) (F0 : Nat → Int) :
  FunC Tryz.prog μ 123 [.ptr 12 0,.ifc 134 (.ptr 23 0),(.v (.pointer (some ⟨b,0,none⟩)))] (srG B rn N cap 25 (p : Nat) s t ++ [(11,.row (scR 0 9 10 (.v (.pointer none)) 2 o)),(12,.row (prR cnt (.slc 21 0 m mc) (.mpp 13) (.mpp 14) 16 17)),(13,.pr (isMap kH fh)),(14,.pr (isMap k64 fo)),(15,.fz Z),(16,.row buR),(17,.row (osR 18)),(18,.row (obP 19 20 (.slc 22 0 n c))),(19,.pr (isMapU k64 fk)),(20,.pr (isMapU k64 fs)),(21,.row ⟨.vals V,mc * 1,165⟩),(22,.row ⟨.vals N0,c * 6,39⟩),(23,.row (bfR (.slc 24 bo 0 bc) 0 0)),(24,.row ⟨.ints .u8 F0,brn,5⟩)]) 25 26
  (fun y : RdI × WI × Nat × (Nat → Int)=>Sr B (jmp S B ps q) N (pe + 4) y.2.2.1 y.1 y.2.1 ∧ (y.2.2.1 : Int) - ((pe + 4 : Nat) : Int) = (ps : Int) - q) (fun y=>⟨.v .nilIface,srG B rn N cap 25 ((pe + 4 : Nat) : Int) y.1 y.2.1 ++ [(11,.row (scR 0 9 10 (.v (.pointer none)) 2 o)),(12,.row (prR cnt (.slc 21 0 m mc) (.mpp 13) (.mpp 14) 16 17)),(13,.pr (isMap kH fh)),(14,.pr (isMap k64 fo)),(15,.fz Z),(16,.row buR),(17,.row (osR 18)),(18,.row (obP 19 20 (.slc 22 0 n c))),(19,.pr (isMapU k64 fk)),(20,.pr (isMapU k64 fs)),(21,.row ⟨.vals V,mc * 1,165⟩),(22,.row ⟨.vals N0,c * 6,39⟩),(23,.row (bfR (.slc 24 bo L bc) 0 0)),(24,.row ⟨.ints .u8 y.2.2.2,brn,5⟩)],26⟩):=by
 have hlt:=hh.lt
 have hble:=hz.hb.le
 have hzp:=hz.hp
 dsimp only [srG,List.cons_append,List.nil_append]
 refine fE 81 Tryz.func123 fun zw zβ=>?_
 refine cF [0,1,2,25,26,27,28,29] ?_
 refine rS [0,1,2,25,26,27,28,29] ?_
 refine GC.seq (GL.seqR ?_)
 refine lK 13 [0,1,2,24,28,29] ?_
 refine lK 1 [0,1,2,24,29] ?_
 refine lF [0,1,2,30] (GK.code ?_)
 refine GC.condF rfl (GC.skip (GK.code (GC.seq ?_)))
 refine GC.seq (GC.draw [(0,0),(1,0),(2,0),(4,0),(5,0),(6,0),(3,1),(7,1),(8,2),(9,0),(10,0),(11,0),(12,0),(13,0)] mixed (by kernel_rfl) (by rintro _ _ _ _ ⟨_,_,_,_,h,_⟩ _; cases h) ?_)
 refine wK 7 [0,1,57,60] ?_
 refine GW.lstep rfl rfl (LStep.fz 15 rfl rfl rfl rfl rfl z.h0) rfl (GW.force [0,1,57,61] rfl ?_)
 refine GW.op rfl rfl (cR rfl (f150 _ B S rn N cap p ps s t d h hps q kd L zp o hh (by omega) (by omega) hk) [0,1,2,3,4,5,6,7,8,9,10,11,25] rfl rfl rfl rfl ?_)
 intro ⟨s1,t1⟩ h1
 refine wL [0,1,62] rfl ?_
 refine wF [0,1,12] (GK.code ?_)
 refine rS [0,1,12,66] ?_
 refine GC.condF rfl (GC.skip (GK.code (GC.seq (GL.seqR ?_))))
 refine lK 5 [72,73] ?_
 refine GL.op rfl (cR rfl (f75B _ ((ps : Int) - q) be hE B (jmp S B ps q) T rn N cap zp pe L (ps + (zp - q)) kd q s1 t1 d hz h1 (by omega) o bo bc brn hbc hbc2 hbr (0,F0) rfl) [0,1,2,3,4,5,6,7,8,9,10,11,26,23,24,25] rfl rfl rfl rfl ?_)
 intro ⟨s2,t2,ps2,crc2,wl,w2⟩ ⟨h2,_,hd2,hw2⟩
 dsimp only at h2 hd2 hw2 ⊢
 subst hw2
 refine gF [74] rfl ?_
 refine lF [15] (GK.code ?_)
 refine rS [15,79] ?_
 refine GC.condF rfl (GC.skip (GK.code ?_))
 refine rS [6] ?_
 refine GC.ret ?_
 refine fR (.inl rfl) rfl (by trivial) ((s2,t2,ps2,w2)) [0,1,2,3,4,5,6,7,8,9,10,11,12,13,14,15,16,17,18,19,20,21,22,23,24,25] rfl rfl rfl rfl (⟨h2,hd2⟩)
set_option maxHeartbeats 16000000 in
theorem f81B (μ) (be : Nat × Nat) (hE : muAt μ 0 0 = some (EOFv be)) (B S : Nat → Int) (rn N cap p ps : Nat) (s : RdI) (t : WI) (d : Dat B rn N cap) (h : Sr B S N p ps s t) (hps : ps + N < 1152921504606846976) (o cnt : Int) (fh fo : Value → Option Value) (Z : Nat → Option Obj) (V : Nat → Value) (m mc : Nat) (fk fs : Value → Option Value) (N0 : Nat → Value) (n c : Nat) (b q kd L zp pe : Nat) (T : Nat → Int) (crc : Int) (hv : Nat → Int) (hh : Hd B q kd L zp) (hz : Zs B T N zp L pe) (hk : kd < 6) (hL : L ≤ 1048576) (z : Ozf Z b q L kd crc hv) (bo bc brn : Nat) (hbc : L ≤ bc) (hbc2 : bc < 9223372036854775808) (hbr : bo + bc ≤ brn) (F0 : Nat → Int) :
  FunC Tryz.prog μ 81 [.ptr 12 0,(.v (.pointer (some ⟨b,0,none⟩))),.ptr 23 0] (srG B rn N cap 25 (p : Nat) s t ++ [(11,.row (scR 0 9 10 (.v (.pointer none)) 2 o)),(12,.row (prR cnt (.slc 21 0 m mc) (.mpp 13) (.mpp 14) 16 17)),(13,.pr (isMap kH fh)),(14,.pr (isMap k64 fo)),(15,.fz Z),(16,.row buR),(17,.row (osR 18)),(18,.row (obP 19 20 (.slc 22 0 n c))),(19,.pr (isMapU k64 fk)),(20,.pr (isMapU k64 fs)),(21,.row ⟨.vals V,mc * 1,165⟩),(22,.row ⟨.vals N0,c * 6,39⟩),(23,.row (bfR (.slc 24 bo 0 bc) 0 0)),(24,.row ⟨.ints .u8 F0,brn,5⟩)]) 25 26
  (fun y : RdI × WI × Nat × (Nat → Int)=>Sr B (jmp S B ps q) N (pe + 4) y.2.2.1 y.1 y.2.1 ∧ (y.2.2.1 : Int) - ((pe + 4 : Nat) : Int) = (ps : Int) - q) (fun y=>⟨.v .nilIface,srG B rn N cap 25 ((pe + 4 : Nat) : Int) y.1 y.2.1 ++ [(11,.row (scR 0 9 10 (.v (.pointer none)) 2 o)),(12,.row (prR cnt (.slc 21 0 m mc) (.mpp 13) (.mpp 14) 16 17)),(13,.pr (isMap kH fh)),(14,.pr (isMap k64 fo)),(15,.fz Z),(16,.row buR),(17,.row (osR 18)),(18,.row (obP 19 20 (.slc 22 0 n c))),(19,.pr (isMapU k64 fk)),(20,.pr (isMapU k64 fs)),(21,.row ⟨.vals V,mc * 1,165⟩),(22,.row ⟨.vals N0,c * 6,39⟩),(23,.row (bfR (.slc 24 bo L bc) 0 0)),(24,.row ⟨.ints .u8 y.2.2.2,brn,5⟩)],26⟩):=by
 dsimp only [srG,List.cons_append,List.nil_append]
 refine fE 168 Tryz.func81 fun zw zβ=>?_
 refine cF [0,1,2,48,49,50,51,52,53] ?_
 refine rS [0,1,2,6,48,49,50,51,52,53] ?_
 refine GC.seq (GL.seqR ?_)
 refine lK 3 [0,1,2,6,19,48,49,50,51,52,53] ?_
 refine GL.op rfl (OpW.lstep (LStep.fz 15 rfl rfl rfl rfl rfl z.h4) rfl (gF [0,1,2,6,20,48,49,50,51,52,53] rfl ?_))
 refine lF [0,1,2,6,21,48,49,50,51,52,53] (GK.code ?_)
 refine GC.condT rfl ?_
 refine GC.seq (GC.draw [(0,0),(1,0),(2,0),(4,0),(5,0),(6,0),(3,1),(7,1),(8,2),(9,0),(10,0),(11,0),(12,0),(13,0)] mixed (by kernel_rfl) (by rintro _ _ _ _ ⟨_,_,_,_,h,_⟩ _; cases h) ?_)
 refine wK 7 [0,1,2,6,26,29,48,49,50,51,52,53] ?_
 refine GW.lstep rfl rfl (LStep.fz 15 rfl rfl rfl rfl rfl z.h0) rfl (GW.force [0,1,2,6,26,30,48,49,50,51,52,53] rfl ?_)
 refine GW.op rfl rfl (cR rfl (f119 _ q) [16] rfl rfl rfl rfl fun _ _=>?_)
 refine wL [0,1,2,6,31,48,49,50,51,52,53] rfl ?_
 refine wF [0,1,2,6,7,8,48,49,50,51,52,53] (GK.code ?_)
 refine rS [0,1,2,6,7,34,48,49,50,51,52,53] ?_
 refine GC.condF rfl (GC.skip (GK.code (GC.seq (GL.seqR ?_))))
 refine lK 10 [0,1,2,6,47,51,52,53] ?_
 refine lK 1 [0,1,2,6,47,52,53] ?_
 refine lF [0,1,2,6,54] (GK.code ?_)
 refine GC.condF rfl (GC.skip (GK.code (GC.seq (GL.seqR ?_))))
 refine lK 3 [0,1,2,6,98] ?_
 refine GL.op rfl (OpW.lstep (LStep.fz 15 rfl rfl rfl rfl rfl z.h4) rfl (gF [0,1,2,6,99] rfl ?_))
 refine lF [0,1,2,6,99] (GK.code ?_)
 refine GC.condF rfl (GC.skip (GK.code (GC.seq (GL.seqR ?_))))
 refine lK 3 [0,1,2,6,103] ?_
 refine GL.op rfl (OpW.lstep (LStep.fz 15 rfl rfl rfl rfl rfl z.h3) rfl (gF [0,1,2,6,104] rfl ?_))
 refine GL.op rfl (cR rfl (f87 _ kd hk) [] rfl rfl rfl rfl fun _ _=>?_)
 refine gF [0,1,2,6,105] rfl ?_
 refine lF [0,1,2,6,105] (GK.code ?_)
 refine GC.condF rfl (GL.seqR ?_)
 refine lK 4 [0,1,2,6,137,139,140] ?_
 refine GL.op rfl (cR rfl (f123B _ be hE B S rn N cap p ps s t d h hps o cnt fh fo Z V m mc fk fs N0 n c b q kd L zp pe T crc hv hh hz hk hL z bo bc brn hbc hbc2 hbr F0) [0,1,2,3,4,5,6,7,8,9,10,11,12,13,14,15,16,17,18,19,20,21,22,23,24,25] rfl rfl rfl rfl ?_)
 intro ⟨s2,t2,ps2,w2⟩ hy
 refine gF [0,1,2,6,141] rfl ?_
 refine lF [0,1,2,6,15] (GK.code ?_)
 refine rS [0,1,2,6,15,143] ?_
 refine GC.condF rfl (GC.skip (GK.code (GC.seq (GL.seqR ?_))))
 refine lK 3 [0,1,2,6,147] ?_
 refine GL.op rfl (OpW.lstep (LStep.fz 15 rfl rfl rfl rfl rfl z.h7) rfl (gF [0,1,2,6,148] rfl ?_))
 refine lF [0,1,2,6,150] (GK.code ?_)
 refine GC.condF rfl (GC.skip (GK.code ?_))
 refine rS [6] ?_
 refine GC.ret ?_
 refine fR (.inl rfl) rfl (by trivial) ((s2,t2,ps2,w2)) [0,1,2,3,4,5,6,7,8,9,10,11,12,13,14,15,16,17,18,19,20,21,22,23,24,25] rfl rfl rfl rfl (hy)
set_option maxHeartbeats 16000000 in
theorem f123N (μ) (be : Nat × Nat) (hE : muAt μ 0 0 = some (EOFv be)) (B S : Nat → Int) (rn N cap p ps : Nat) (s : RdI) (t : WI) (d : Dat B rn N cap) (h : Sr B S N p ps s t) (hps : ps + N < 1152921504606846976) (o cnt : Int) (fh fo : Value → Option Value) (Z : Nat → Option Obj) (V : Nat → Value) (m mc : Nat) (fk fs : Value → Option Value) (N0 : Nat → Value) (n c : Nat) (b q kd L zp pe : Nat) (T : Nat → Int) (crc : Int) (hv : Nat → Int) (hh : Hd B q kd L zp) (hz : Zs B T N zp L pe) (hk : kd < 6) (hL : L ≤ 1048576) (z : Ozf Z b q L kd crc hv) (lr : Int) (hL0 : L = 0) :
  FunC Tryz.prog μ 123 [.ptr 12 0,.ifc 134 (.ptr 23 0),(.v (.pointer (some ⟨b,0,none⟩)))] (srG B rn N cap 24 (p : Nat) s t ++ [(11,.row (scR 0 9 10 (.v (.pointer none)) 2 o)),(12,.row (prR cnt (.slc 21 0 m mc) (.mpp 13) (.mpp 14) 16 17)),(13,.pr (isMap kH fh)),(14,.pr (isMap k64 fo)),(15,.fz Z),(16,.row buR),(17,.row (osR 18)),(18,.row (obP 19 20 (.slc 22 0 n c))),(19,.pr (isMapU k64 fk)),(20,.pr (isMapU k64 fs)),(21,.row ⟨.vals V,mc * 1,165⟩),(22,.row ⟨.vals N0,c * 6,39⟩),(23,.row (bfR (.v (.slice none 0 0)) 0 lr))]) 24 25
  (fun y : RdI × WI × Nat=>Sr B (jmp S B ps q) N (pe + 4) y.2.2 y.1 y.2.1 ∧ (y.2.2 : Int) - ((pe + 4 : Nat) : Int) = (ps : Int) - q) (fun y=>⟨.v .nilIface,srG B rn N cap 24 ((pe + 4 : Nat) : Int) y.1 y.2.1 ++ [(11,.row (scR 0 9 10 (.v (.pointer none)) 2 o)),(12,.row (prR cnt (.slc 21 0 m mc) (.mpp 13) (.mpp 14) 16 17)),(13,.pr (isMap kH fh)),(14,.pr (isMap k64 fo)),(15,.fz Z),(16,.row buR),(17,.row (osR 18)),(18,.row (obP 19 20 (.slc 22 0 n c))),(19,.pr (isMapU k64 fk)),(20,.pr (isMapU k64 fs)),(21,.row ⟨.vals V,mc * 1,165⟩),(22,.row ⟨.vals N0,c * 6,39⟩),(23,.row (bfR (.v (.slice none 0 0)) 0 lr))],25⟩):=by
 have hlt:=hh.lt
 have hble:=hz.hb.le
 have hzp:=hz.hp
 dsimp only [srG,List.cons_append,List.nil_append]
 refine fE 81 Tryz.func123 fun zw zβ=>?_
 refine cF [0,1,2,25,26,27,28,29] ?_
 refine rS [0,1,2,25,26,27,28,29] ?_
 refine GC.seq (GL.seqR ?_)
 refine lK 13 [0,1,2,24,28,29] ?_
 refine lK 1 [0,1,2,24,29] ?_
 refine lF [0,1,2,30] (GK.code ?_)
 refine GC.condF rfl (GC.skip (GK.code (GC.seq ?_)))
 refine GC.seq (GC.draw [(0,0),(1,0),(2,0),(4,0),(5,0),(6,0),(3,1),(7,1),(8,2),(9,0),(10,0),(11,0),(12,0),(13,0)] mixed (by kernel_rfl) (by rintro _ _ _ _ ⟨_,_,_,_,h,_⟩ _; cases h) ?_)
 refine wK 7 [0,1,57,60] ?_
 refine GW.lstep rfl rfl (LStep.fz 15 rfl rfl rfl rfl rfl z.h0) rfl (GW.force [0,1,57,61] rfl ?_)
 refine GW.op rfl rfl (cR rfl (f150 _ B S rn N cap p ps s t d h hps q kd L zp o hh (by omega) (by omega) hk) [0,1,2,3,4,5,6,7,8,9,10,11,24] rfl rfl rfl rfl ?_)
 intro ⟨s1,t1⟩ h1
 refine wL [0,1,62] rfl ?_
 refine wF [0,1,12] (GK.code ?_)
 refine rS [0,1,12,66] ?_
 refine GC.condF rfl (GC.skip (GK.code (GC.seq (GL.seqR ?_))))
 refine lK 5 [72,73] ?_
 refine GL.op rfl (cR rfl (f75N _ ((ps : Int) - q) be hE B (jmp S B ps q) T rn N cap zp pe L (ps + (zp - q)) kd q s1 t1 d hz h1 (by omega) o lr hL0 () trivial) [0,1,2,3,4,5,6,7,8,9,10,11,25,23,24] rfl rfl rfl rfl ?_)
 intro ⟨s2,t2,ps2,crc2,_⟩ ⟨h2,_,hd2,_⟩
 dsimp only at h2 hd2 ⊢
 refine gF [74] rfl ?_
 refine lF [15] (GK.code ?_)
 refine rS [15,79] ?_
 refine GC.condF rfl (GC.skip (GK.code ?_))
 refine rS [6] ?_
 refine GC.ret ?_
 refine fR (.inl rfl) rfl (by trivial) ((s2,t2,ps2)) [0,1,2,3,4,5,6,7,8,9,10,11,12,13,14,15,16,17,18,19,20,21,22,23,24] rfl rfl rfl rfl (⟨h2,hd2⟩)
set_option maxHeartbeats 16000000 in
theorem f81N (μ) (be : Nat × Nat) (hE : muAt μ 0 0 = some (EOFv be)) (B S : Nat → Int) (rn N cap p ps : Nat) (s : RdI) (t : WI) (d : Dat B rn N cap) (h : Sr B S N p ps s t) (hps : ps + N < 1152921504606846976) (o cnt : Int) (fh fo : Value → Option Value) (Z : Nat → Option Obj) (V : Nat → Value) (m mc : Nat) (fk fs : Value → Option Value) (N0 : Nat → Value) (n c : Nat) (b q kd L zp pe : Nat) (T : Nat → Int) (crc : Int) (hv : Nat → Int) (hh : Hd B q kd L zp) (hz : Zs B T N zp L pe) (hk : kd < 6) (hL : L ≤ 1048576) (z : Ozf Z b q L kd crc hv) (lr : Int) (hL0 : L = 0) :
  FunC Tryz.prog μ 81 [.ptr 12 0,(.v (.pointer (some ⟨b,0,none⟩))),.ptr 23 0] (srG B rn N cap 24 (p : Nat) s t ++ [(11,.row (scR 0 9 10 (.v (.pointer none)) 2 o)),(12,.row (prR cnt (.slc 21 0 m mc) (.mpp 13) (.mpp 14) 16 17)),(13,.pr (isMap kH fh)),(14,.pr (isMap k64 fo)),(15,.fz Z),(16,.row buR),(17,.row (osR 18)),(18,.row (obP 19 20 (.slc 22 0 n c))),(19,.pr (isMapU k64 fk)),(20,.pr (isMapU k64 fs)),(21,.row ⟨.vals V,mc * 1,165⟩),(22,.row ⟨.vals N0,c * 6,39⟩),(23,.row (bfR (.v (.slice none 0 0)) 0 lr))]) 24 25
  (fun y : RdI × WI × Nat=>Sr B (jmp S B ps q) N (pe + 4) y.2.2 y.1 y.2.1 ∧ (y.2.2 : Int) - ((pe + 4 : Nat) : Int) = (ps : Int) - q) (fun y=>⟨.v .nilIface,srG B rn N cap 24 ((pe + 4 : Nat) : Int) y.1 y.2.1 ++ [(11,.row (scR 0 9 10 (.v (.pointer none)) 2 o)),(12,.row (prR cnt (.slc 21 0 m mc) (.mpp 13) (.mpp 14) 16 17)),(13,.pr (isMap kH fh)),(14,.pr (isMap k64 fo)),(15,.fz Z),(16,.row buR),(17,.row (osR 18)),(18,.row (obP 19 20 (.slc 22 0 n c))),(19,.pr (isMapU k64 fk)),(20,.pr (isMapU k64 fs)),(21,.row ⟨.vals V,mc * 1,165⟩),(22,.row ⟨.vals N0,c * 6,39⟩),(23,.row (bfR (.v (.slice none 0 0)) 0 lr))],25⟩):=by
 dsimp only [srG,List.cons_append,List.nil_append]
 refine fE 168 Tryz.func81 fun zw zβ=>?_
 refine cF [0,1,2,48,49,50,51,52,53] ?_
 refine rS [0,1,2,6,48,49,50,51,52,53] ?_
 refine GC.seq (GL.seqR ?_)
 refine lK 3 [0,1,2,6,19,48,49,50,51,52,53] ?_
 refine GL.op rfl (OpW.lstep (LStep.fz 15 rfl rfl rfl rfl rfl z.h4) rfl (gF [0,1,2,6,20,48,49,50,51,52,53] rfl ?_))
 refine lF [0,1,2,6,21,48,49,50,51,52,53] (GK.code ?_)
 refine GC.condT rfl ?_
 refine GC.seq (GC.draw [(0,0),(1,0),(2,0),(4,0),(5,0),(6,0),(3,1),(7,1),(8,2),(9,0),(10,0),(11,0),(12,0),(13,0)] mixed (by kernel_rfl) (by rintro _ _ _ _ ⟨_,_,_,_,h,_⟩ _; cases h) ?_)
 refine wK 7 [0,1,2,6,26,29,48,49,50,51,52,53] ?_
 refine GW.lstep rfl rfl (LStep.fz 15 rfl rfl rfl rfl rfl z.h0) rfl (GW.force [0,1,2,6,26,30,48,49,50,51,52,53] rfl ?_)
 refine GW.op rfl rfl (cR rfl (f119 _ q) [16] rfl rfl rfl rfl fun _ _=>?_)
 refine wL [0,1,2,6,31,48,49,50,51,52,53] rfl ?_
 refine wF [0,1,2,6,7,8,48,49,50,51,52,53] (GK.code ?_)
 refine rS [0,1,2,6,7,34,48,49,50,51,52,53] ?_
 refine GC.condF rfl (GC.skip (GK.code (GC.seq (GL.seqR ?_))))
 refine lK 10 [0,1,2,6,47,51,52,53] ?_
 refine lK 1 [0,1,2,6,47,52,53] ?_
 refine lF [0,1,2,6,54] (GK.code ?_)
 refine GC.condF rfl (GC.skip (GK.code (GC.seq (GL.seqR ?_))))
 refine lK 3 [0,1,2,6,98] ?_
 refine GL.op rfl (OpW.lstep (LStep.fz 15 rfl rfl rfl rfl rfl z.h4) rfl (gF [0,1,2,6,99] rfl ?_))
 refine lF [0,1,2,6,99] (GK.code ?_)
 refine GC.condF rfl (GC.skip (GK.code (GC.seq (GL.seqR ?_))))
 refine lK 3 [0,1,2,6,103] ?_
 refine GL.op rfl (OpW.lstep (LStep.fz 15 rfl rfl rfl rfl rfl z.h3) rfl (gF [0,1,2,6,104] rfl ?_))
 refine GL.op rfl (cR rfl (f87 _ kd hk) [] rfl rfl rfl rfl fun _ _=>?_)
 refine gF [0,1,2,6,105] rfl ?_
 refine lF [0,1,2,6,105] (GK.code ?_)
 refine GC.condF rfl (GL.seqR ?_)
 refine lK 4 [0,1,2,6,137,139,140] ?_
 refine GL.op rfl (cR rfl (f123N _ be hE B S rn N cap p ps s t d h hps o cnt fh fo Z V m mc fk fs N0 n c b q kd L zp pe T crc hv hh hz hk hL z lr hL0) [0,1,2,3,4,5,6,7,8,9,10,11,12,13,14,15,16,17,18,19,20,21,22,23,24] rfl rfl rfl rfl ?_)
 intro ⟨s2,t2,ps2⟩ hy
 refine gF [0,1,2,6,141] rfl ?_
 refine lF [0,1,2,6,15] (GK.code ?_)
 refine rS [0,1,2,6,15,143] ?_
 refine GC.condF rfl (GC.skip (GK.code (GC.seq (GL.seqR ?_))))
 refine lK 3 [0,1,2,6,147] ?_
 refine GL.op rfl (OpW.lstep (LStep.fz 15 rfl rfl rfl rfl rfl z.h7) rfl (gF [0,1,2,6,148] rfl ?_))
 refine lF [0,1,2,6,150] (GK.code ?_)
 refine GC.condF rfl (GC.skip (GK.code ?_))
 refine rS [6] ?_
 refine GC.ret ?_
 refine fR (.inl rfl) rfl (by trivial) ((s2,t2,ps2)) [0,1,2,3,4,5,6,7,8,9,10,11,12,13,14,15,16,17,18,19,20,21,22,23,24] rfl rfl rfl rfl (hy)
def pgP (po : SV) (B : Nat → Int) (rn N cap : Nat) (fk fs : Value → Option Value) (N0 : Nat → Value) (n c M : Nat) (off : Int) (m : Nat) (s : RdI) (t : WI) (Z : Nat → Option Obj) (fh fo : Value → Option Value) (V : Nat → Value) (oc : Nat) : GH :=
 srG B rn N cap 22 off s t ++ [(11,.row (scR 0 9 10 po 2 M)),(12,.row (prR M (.slc 23 0 m oc) (.mpp 13) (.mpp 14) 16 17)),(13,.pr (isMap kH fh)),(14,.pr (isMap k64 fo)),(15,.fz Z),(16,.row buR),(17,.row (osR 18)),(18,.row (obP 19 20 (.slc 21 0 n c))),(19,.pr (isMapU k64 fk)),(20,.pr (isMapU k64 fs)),(21,.row ⟨.vals N0,c * 6,39⟩),(23,.row ⟨.vals V,oc * 1,165⟩)]
def pgG:=pgP (.v (.pointer none))
structure I46 (B S : Nat → Int) (N M : Nat) (pl kd sz : Nat → Nat) (dl : Int) (off : Int) (m : Nat) (ps : Nat) (s : RdI) (t : WI) (Z : Nat → Option Obj) (fh fo : Value → Option Value) (V : Nat → Value) (oc : Nat) : Prop where
 ho : off = (pl m : Int)
 hm : m ≤ M
 hs : Sr B S N (pl m) ps s t
 hd : (ps : Int) - (pl m : Int) = dl
 hc : m ≤ oc
 hr : Ois Z fh V pl kd sz m
def L46 (B : Nat → Int) (rn N cap : Nat) (fk fs : Value → Option Value) (N0 : Nat → Value) (n c M : Nat) (off : Int) (m : Nat) (ps : Nat) (s : RdI) (t : WI) (Z : Nat → Option Obj) (fh fo : Value → Option Value) (V : Nat → Value) (oc : Nat) : S :=
 ⟨[(0,.ptr 12 0),(3,.ptr 24 0),(4,.v (.int .u32 (m : Nat)))],pgG B rn N cap fk fs N0 n c M off m s t Z fh fo V oc ++ [(24,.row (bfR (.v (.slice none 0 0)) 0 0))],25,[⟨.func 65,[],[.ptr 24 0]⟩]⟩
def H46 (B : Nat → Int) (rn N cap : Nat) (fk fs : Value → Option Value) (N0 : Nat → Value) (n c M : Nat) (off : Int) (m : Nat) (s : RdI) (t : WI) (Z : Nat → Option Obj) (fh fo : Value → Option Value) (V : Nat → Value) (oc k p q : Nat) (x : Nat × ShI) : S :=
 ⟨[(0,.ptr 12 0),(3,.ptr 24 0),(4,.v (.int .u32 (m : Nat))),(5,.ptr 25 0),(7,.v (.bool false)),(8,.ptr 26 0),(14,.ptr 29 0)],pgP (.ptr 25 0) B rn N cap fk fs N0 n c M off m s t Z fh fo V oc ++ [(24,.row (bfR (.v (.slice none 0 0)) 0 0)),(25,.row (ohR k p q)),(26,.row (oiR p q k 0 z20)),(27,.row (shR 28 x.2)),(28,.row (sbR x.2)),(29,.row ⟨.lst [.ifc 142 (.ptr 27 0)],1,175⟩)],30,[⟨.func 65,[],[.ptr 24 0]⟩]⟩
set_option maxHeartbeats 16000000 in
theorem f46 (μ) (dl : Int) (be : Nat × Nat) (hE : muAt μ 0 0 = some (EOFv be)) (hP : P10 μ) (S : Nat → Int) (B : Nat → Int) (rn N cap : Nat) (fk fs : Value → Option Value) (N0 : Nat → Value) (n c : Nat) (M : Nat) (hM : M ≤ 40) (pl kd sz zp pe : Nat → Nat) (T : Nat → Nat → Int) (pk : Pk B N M pl kd sz zp pe T) (ps0 : Nat) (s0 : RdI) (t0 : WI) (d : Dat B rn N cap) (Z0 : Nat → Option Obj) (fh0 fo0 : Value → Option Value) (V0 : Nat → Value) (oc0 : Nat)
  (h0 : I46 B S N M pl kd sz dl (pl 0) 0 ps0 s0 t0 Z0 fh0 fo0 V0 oc0) :
  FunC Tryz.prog μ 46 [.ptr 12 0] (pgG B rn N cap fk fs N0 n c M (pl 0) 0 s0 t0 Z0 fh0 fo0 V0 oc0) 22 24
  (fun x : Int × Nat × RdI × WI × (Nat → Option Obj) × (Value → Option Value) × (Value → Option Value) × (Nat → Value) × Nat=>I46 B S N M pl kd sz dl x.1 M x.2.1 x.2.2.1 x.2.2.2.1 x.2.2.2.2.1 x.2.2.2.2.2.1 x.2.2.2.2.2.2.1 x.2.2.2.2.2.2.2.1 x.2.2.2.2.2.2.2.2)
  (fun x=>⟨.v .nilIface,pgG B rn N cap fk fs N0 n c M x.1 M x.2.2.1 x.2.2.2.1 x.2.2.2.2.1 x.2.2.2.2.2.1 x.2.2.2.2.2.2.1 x.2.2.2.2.2.2.2.1 x.2.2.2.2.2.2.2.2,24⟩):=by
 dsimp only [pgG,pgP,srG,List.cons_append,List.nil_append]
 refine Fun.enterDf (T:=tab) (ok:=tabOK) (n:=403) Tryz.func46 rfl rfl rfl rfl fun zw zβ=>?_
 refine cF [0,177,178,237,238,239,240,241,242,243,244,351,352,353,354,355,356,357,358] ?_
 refine rS [0,177,178,237,238,239,240,241,242,243,244,351,352,353,354,355,356,357,358] ?_
 refine GL.seqR ?_
 refine GL.op rfl (cR rfl (f64 _) [] rfl rfl rfl rfl fun _ _=>?_)
 refine gF [0,33,177,178,237,238,239,240,241,242,243,244,351,352,353,354,355,356,357,358] rfl ?_
 refine lF [0,3,177,178,237,238,239,240,241,242,243,244,351,352,353,354,355,356,357,358] (GK.code ?_)
 refine GL.seqR ?_
 refine lK 1 [0,3,34,177,178,237,238,239,240,241,242,243,244,351,352,353,354,355,356,357,358] ?_
 refine GL.op rfl (OpW.defer rfl rfl ?_)
 refine gF [0,3,177,178,237,238,239,240,241,242,243,244,351,352,353,354,355,356,357,358] rfl ?_
 refine lF [0,3,177,178,237,238,239,240,241,242,243,244,351,352,353,354,355,356,357,358] (GK.code ?_)
 refine GC.seq ?_
 refine rS [0,3,4,177,178,237,238,239,240,241,242,243,244,351,352,353,354,355,356,357,358] ?_
 refine GC.block ?_
 refine GC.loopE (ι:=(Int) × (Nat) × (Nat) × (RdI) × (WI) × (Nat → Option Obj) × (Value → Option Value) × (Value → Option Value) × (Nat → Value) × (Nat)) (fun zi=>(I46 B S N M pl kd sz dl) zi.1 zi.2.1 zi.2.2.1 zi.2.2.2.1 zi.2.2.2.2.1 zi.2.2.2.2.2.1 zi.2.2.2.2.2.2.1 zi.2.2.2.2.2.2.2.1 zi.2.2.2.2.2.2.2.2.1 zi.2.2.2.2.2.2.2.2.2) (fun zi=>(fun off m ps s t Z fh fo V oc=>(M - m : Nat)) zi.1 zi.2.1 zi.2.2.1 zi.2.2.2.1 zi.2.2.2.2.1 zi.2.2.2.2.2.1 zi.2.2.2.2.2.2.1 zi.2.2.2.2.2.2.2.1 zi.2.2.2.2.2.2.2.2.1 zi.2.2.2.2.2.2.2.2.2) (fun zi=>(L46 B rn N cap fk fs N0 n c M) zi.1 zi.2.1 zi.2.2.1 zi.2.2.2.1 zi.2.2.2.2.1 zi.2.2.2.2.2.1 zi.2.2.2.2.2.2.1 zi.2.2.2.2.2.2.2.1 zi.2.2.2.2.2.2.2.2.1 zi.2.2.2.2.2.2.2.2.2) (((pl 0 : Int),0,ps0,s0,t0,Z0,fh0,fo0,V0,oc0)) [0,1,2,3,4,5,6,7,8,9,10,11,12,13,14,15,16,17,18,19,20,21,22,23,24] (show (I46 B S N M pl kd sz dl) ((pl 0 : Int)) (0) (ps0) (s0) (t0) (Z0) (fh0) (fo0) (V0) (oc0) from ?_) (Ent.R rfl rfl rfl rfl) ?_
 ·exact h0
 rintro ⟨off,m,ps,s,t,Z,fh,fo,V,oc⟩ hI
 change (I46 B S N M pl kd sz dl) off m ps s t Z fh fo V oc at hI
 change GC _ _ _ ((L46 B rn N cap fk fs N0 n c M) off m ps s t Z fh fo V oc)
 obtain ⟨rfl,hm,hs,hd,hc,hr⟩:=hI
 dsimp only [L46,pgG,pgP,srG,List.cons_append,List.nil_append]
 refine cF [0,3,4,177,178,237,238,239,240,241,242,243,244,351,352,353,354,355,356,357,358] ?_
 refine GC.seq ?_
 refine rS [0,3,4,40,177,178,237,238,239,240,241,242,243,244,351,352,353,354,355,356,357,358] ?_
 refine GC.cond rfl (fun hlt=>?_) (fun hlt=>?_)
 ·have hlt : (m : Int) < M:=by simpa using hlt
  have hlt : m < M:=by omega
  have hhd:=pk.hd m hlt
  have hzs:=pk.hz m hlt
  have hk6:=pk.hk m hlt
  have hk1:=pk.hk1 m hlt
  have hsz:=pk.hs m hlt
  have hhlt:=hhd.lt
  have hnx:=pk.hn m hlt
  have hzle:=hzs.hb.le
  have hzp:=hzs.hp
  refine GC.skip (GK.code (GC.seq (GC.block (GL.seqR ?_))))
  refine lK 4 [0,3,4,47,177,178,237,238,239,240,241,242,243,244,351,352,353,354,355,356,357,358] ?_
  refine GL.op rfl (cR rfl (f66 _ B S rn N cap (pl m) ps (kd m) (sz m) (zp m) s t M d hs hhd (by omega) (by omega) hk6) [0,1,2,3,4,5,6,7,8,9,10,11,22] rfl rfl rfl rfl ?_)
  intro ⟨s1,t1⟩ h1
  refine gF [0,3,4,48,177,178,237,238,239,240,241,242,243,244,351,352,353,354,355,356,357,358] rfl ?_
  refine lF [0,3,4,5,6,177,178,237,238,239,240,241,242,243,244,351,352,353,354,355,356,357,358] (GK.code ?_)
  refine GC.seq ?_
  refine rS [0,3,4,5,6,52,177,178,237,238,239,240,241,242,243,244,351,352,353,354,355,356,357,358] ?_
  refine GC.condF rfl (GC.skip (GK.code ?_))
  refine rS [0,3,4,5,7,177,178,237,238,239,240,241,242,243,244,351,352,353,354,355,356,357,358] ?_
  refine rS [0,3,4,5,7,177,178,237,238,239,240,241,242,243,244,351,352,353,354,355,356,357,358] ?_
  refine GC.seq ?_
  refine rS [0,3,4,5,7,9,177,178,237,238,239,240,241,242,243,244,351,352,353,354,355,356,357,358] ?_
  refine rS [0,3,4,5,7,9,58,177,178,237,238,239,240,241,242,243,244,351,352,353,354,355,356,357,358] ?_
  refine GC.block ?_
  refine rS [0,3,4,5,7,9,58,69,177,178,237,238,239,240,241,242,243,244,351,352,353,354,355,356,357,358] ?_
  refine GC.cond rfl (fun hk7=>?_) (fun hk7=>?_)
  ·have hk7 : (kd m : Int) = 6:=by simpa using hk7
   omega
  ·have hk7 : ¬ ((kd m : Int) = 6):=by simpa using hk7
   refine rS [0,3,4,5,7,9,107,177,178,237,238,239,240,241,242,243,244,351,352,353,354,355,356,357,358] ?_
   refine GC.cond rfl (fun hk8=>?_) (fun hk8=>?_)
   ·have hk8 : (kd m : Int) = 7:=by simpa using hk8
    omega
   ·have hk8 : ¬ ((kd m : Int) = 7):=by simpa using hk8
    refine GC.draw [(0,0),(1,0),(2,0),(4,0),(5,0),(6,0),(8,0),(3,1),(7,1),(9,2),(10,0)] mixed (by kernel_rfl) (by rintro _ _ _ _ ⟨_,_,_,_,h,_⟩ _ <;> cases h) ?_
    refine wK 9 [0,3,4,5,7,62,66,67,177,178,237,238,239,240,241,242,243,244,351,352,353,354,355,356,357,358] ?_
    refine GW.op rfl rfl (cR rfl (f68 _ (pl m) (sz m) (kd m)) [] rfl rfl rfl rfl fun _ _=>?_)
    refine wL [0,3,4,5,7,68,177,178,237,238,239,240,241,242,243,244,351,352,353,354,355,356,357,358] rfl ?_
    refine wF [0,3,4,5,7,8,177,178,237,238,239,240,241,242,243,244,351,352,353,354,355,356,357,358] ?_
    refine GK.code ?_
    refine GC.join (ι:=Nat × ShI) (fun x=>x.1 ≤ 64 ∧ WkA x.1 x.2) (H46 B rn N cap fk fs N0 n c M ((zp m : Nat) : Int) m s1 t1 Z fh fo V oc (kd m) (pl m) (sz m)) ?_ ?_
    ·refine GC.draw2 [(0,0),(1,0),(2,0),(3,3),(4,0),(5,0),(6,0),(7,3)] (8,2) (9,4) [(9,4),(10,2)] [(8,2),(10,2)] [8,9,10] [9] [25] [(25,0,.v (.int .i8 (kd m))),(25,2,.v (.int .i64 (sz m)))] mixed (by kernel_rfl) (by rintro _ _ _ _ ⟨_,_,_,_,h,_⟩ _ <;> cases h) rfl fun β=>?_
     refine wK 3 [0,3,4,5,7,8,161] ?_
     refine GW.held rfl rfl rfl rfl rfl rfl (.head _) ⟨⟨_,rfl,Nat.le_of_ble_eq_true rfl,rfl⟩,rfl,⟨_,rfl,Nat.le_of_ble_eq_true rfl,rfl⟩,rfl,trivial⟩ rfl rfl (GW.force [0,3,4,5,7,8,162] rfl ?_)
     refine wK 3 [0,3,4,5,7,8,162,165] ?_
     refine GW.held rfl rfl rfl rfl rfl rfl (.tail _ (.head _)) ⟨⟨_,rfl,Nat.le_of_ble_eq_true rfl,rfl⟩,rfl,⟨_,rfl,Nat.le_of_ble_eq_true rfl,rfl⟩,rfl,trivial⟩ rfl rfl (GW.force [0,3,4,5,7,8,162,166] rfl ?_)
     refine wF [0,3,4,5,7,8,162,166] ?_
     refine GK.both ?_ ?_
     ·refine GW.op rfl rfl (OpW.callR rfl (f69 _ hP (kd m) (sz m) hk1 (by omega)) [] rfl rfl rfl rfl ?_)
      intro ⟨n0,w0⟩ ⟨hn0,hw0⟩ ρ' hp
      obtain rfl:=Option.some.inj hp; clear hp
      refine GK.wl (GW.force [0,3,4,5,7,8,167] rfl ?_)
      refine GW.opS rfl rfl (OpW.step (Step.ofS rfl (by (repeat' first | exact trivial | refine And.intro ?_ ?_) <;> (try simp only [Int.reduceToNat,IntKind.bits,Nat.reduceLeDiff,Nat.min_eq_left,Int.reducePow,InI64,InI32]) <;> omega)) ?_)
      refine GK.heldAnd rfl ⟨⟨_,rfl,Nat.le_of_ble_eq_true rfl,rfl⟩,rfl,⟨_,rfl,Nat.le_of_ble_eq_true rfl,rfl⟩,rfl,trivial⟩ (GK.wl (GW.force [0,3,4,5,7,8,14,167] rfl ?_))
      refine wF [0,3,4,5,7,8,14] (GK.delA rfl ?_)
      exact GK.join (n0,w0) [0,1,2,3,4,5,6,7,8,9,10,11,12,13,14,15,16,17,18,19,20,21,22,23,24,25,26,27,28,29] ⟨hn0,hw0⟩ (Ent.R rfl rfl rfl rfl)
     ·refine GW.opS rfl rfl (OpW.step (Step.ofS rfl (by (repeat' first | exact trivial | refine And.intro ?_ ?_) <;> (try simp only [Int.reduceToNat,IntKind.bits,Nat.reduceLeDiff,Nat.min_eq_left,Int.reducePow,InI64,InI32]) <;> omega)) ?_)
      refine GK.heldAnd rfl ⟨⟨_,rfl,Nat.le_of_ble_eq_true rfl,rfl⟩,rfl,⟨_,rfl,Nat.le_of_ble_eq_true rfl,rfl⟩,rfl,trivial⟩ (GK.wl (GW.force [0,3,4,5,7,8,14,162,166] rfl ?_))
      refine GW.op rfl rfl (OpW.callR rfl (f69 _ hP (kd m) (sz m) hk1 (by omega)) [] rfl rfl rfl rfl ?_)
      intro ⟨n0,w0⟩ ⟨hn0,hw0⟩ ρ' hp
      obtain rfl:=Option.some.inj hp; clear hp
      refine GK.wl (GW.force [0,3,4,5,7,8,14,167] rfl ?_)
      refine wF [0,3,4,5,7,8,14] (GK.delA rfl ?_)
      exact GK.join (n0,w0) [0,1,2,3,4,5,6,7,8,9,10,11,12,13,14,15,16,17,18,19,20,21,22,23,24,25,26,28,29,27] ⟨hn0,hw0⟩ (Ent.R rfl rfl rfl rfl)
    rintro ⟨n0,w0⟩ ⟨hn0,hw0⟩
    dsimp only at hn0 hw0
    dsimp only [H46,pgP,srG,List.cons_append,List.nil_append]
    refine rS [0,3,4,5,7,8,14,15,177,178,237,238,239,240,241,242,243,244,351,352,353,354,355,356,357,358] ?_
    refine rS [0,3,4,5,7,8,14,15,16,177,178,237,238,239,240,241,242,243,244,351,352,353,354,355,356,357,358] ?_
    refine GC.seq ?_
    refine rS [0,3,4,5,7,8,14,15,16,177,178,179,237,238,239,240,241,242,243,244,351,352,353,354,355,356,357,358] ?_
    refine GC.condF rfl (GC.skip (GK.code (GC.seq ?_)))
    refine rS [0,3,4,5,7,8,14,15,16,177,178,237,238,239,240,241,242,243,244,245,351,352,353,354,355,356,357,358] ?_
    refine GC.condF rfl (GC.skip (GK.code (GL.seqR ?_)))
    refine lK 1 [0,3,4,5,7,8,14,16,177,178,237,238,239,240,241,242,243,244,260,351,352,353,354,355,356,357,358] ?_
    refine GL.op rfl (cR rfl (f43w _ w0) [30,27,28] rfl rfl rfl rfl fun _ _=>?_)
    refine gF [0,3,4,5,7,8,14,16,177,178,237,238,239,240,241,242,243,244,261,351,352,353,354,355,356,357,358] rfl ?_
    refine lF [0,3,4,5,7,8,14,16,22,177,178,237,238,239,240,241,242,243,244,351,352,353,354,355,356,357,358] (GK.code ?_)
    refine GL.seqR ?_
    refine lK 5 [0,3,4,5,7,8,14,16,177,178,237,238,239,240,241,242,243,244,266,267,351,352,353,354,355,356,357,358] ?_
    refine GL.op rfl (cR rfl (f75H _ dl be hE B S (T m) rn N cap (zp m) (pe m) (sz m) (ps + (zp m - pl m)) (kd m) (pl m) s1 t1 d hzs h1 (by omega) M n0 (by omega) w0 hw0) [0,1,2,3,4,5,6,7,8,9,10,11,25,31,32,27,22,28] rfl rfl rfl rfl ?_)
    intro ⟨s2,t2,ps2,crc,w2⟩ ⟨h2,ht2,hd2,hw2⟩
    dsimp only at h2 ht2 hd2 hw2 ⊢
    refine gF [0,3,4,5,7,8,14,16,177,178,237,238,239,240,241,242,243,244,268,351,352,353,354,355,356,357,358] rfl ?_
    refine lF [0,3,4,5,6,7,8,14,16,24,177,178,237,238,239,240,241,242,243,244,351,352,353,354,355,356,357,358] (GK.code ?_)
    refine GC.seq ?_
    refine rS [0,3,4,5,6,7,8,14,16,24,177,178,237,238,239,240,241,242,243,244,273,351,352,353,354,355,356,357,358] ?_
    refine GC.condF rfl (GC.skip (GK.code (GC.seq ?_)))
    refine rS [0,3,4,5,7,8,14,16,24,177,178,237,238,239,240,241,242,243,244,276,351,352,353,354,355,356,357,358] ?_
    refine GC.condF rfl (GC.skip (GK.code ?_))
    refine rS [0,3,4,5,7,8,14,177,178,237,238,239,240,241,242,243,244,351,352,353,354,355,356,357,358] ?_
    refine rS [0,3,4,5,7,8,14,177,178,237,238,239,240,241,242,243,244,351,352,353,354,355,356,357,358] ?_
    refine GC.seq ?_
    refine rS [0,3,4,5,7,8,14,177,178,237,238,239,240,241,242,243,244,302,351,352,353,354,355,356,357,358] ?_
    refine GC.condT rfl (GL.seqR ?_)
    refine lK 1 [0,3,4,5,7,8,177,178,237,238,239,240,241,242,243,244,303,351,352,353,354,355,356,357,358] ?_
    refine GL.op rfl (cR rfl (f76 _ (n0 + sz m) w2 hw2 (by omega)) [27,28] rfl rfl rfl rfl fun F hF=>?_)
    refine gF [0,3,4,5,7,8,177,178,237,238,239,240,241,242,243,244,304,351,352,353,354,355,356,357,358] rfl ?_
    refine lF [0,3,4,5,7,8,27,177,178,237,238,239,240,241,242,243,244,351,352,353,354,355,356,357,358] (GK.code ?_)
    rcases hfh : fh (hV F) with _ | xv
    ·refine GC.seq ?_
     refine GC.seq (GC.draw [(0,0),(1,0),(2,0),(3,1),(4,1),(5,1),(6,0),(7,0),(8,0),(9,0),(10,0)] mixed (by kernel_rfl) (by rintro _ _ _ _ ⟨_,_,_,_,h,_⟩ _ <;> cases h) ?_)
     refine wK 5 [0,3,4,5,7,8,27,177,178,237,238,239,240,241,242,243,244,309,310,351,352,353,354,355,356,357,358] ?_
     refine GW.toV 310 (hVs F) rfl rfl ?_
     refine GW.lstep rfl rfl (LStep.lookupF (kv:=hV F) (.pointer none) rfl rfl koH rfl rfl rfl (kH_ok F) (fun _=>by kernel_rfl) hfh) rfl (GW.force [0,3,4,5,7,8,27,177,178,237,238,239,240,241,242,243,244,311,351,352,353,354,355,356,357,358] rfl ?_)
     refine wF [0,3,4,5,7,8,27,28,29,177,178,237,238,239,240,241,242,243,244,351,352,353,354,355,356,357,358] (GK.code ?_)
     refine rS [0,3,4,5,7,8,27,28,177,178,237,238,239,240,241,242,243,244,314,351,352,353,354,355,356,357,358] ?_
     refine GC.condF rfl (GC.skip (GK.code ?_))
     refine rS [0,3,4,5,7,8,177,178,237,238,239,240,241,242,243,244,351,352,353,354,355,356,357,358] ?_
     refine GC.freezeP 8 26 15 rfl rfl rfl rfl rfl fun b Z' hz=>?_
     refine GC.force [0,3,4,5,7,8] rfl ?_
     have ho : Ozf Z' b (pl m) (sz m) (kd m) crc F:=Ozf.of hz
     refine GC.draw [(0,0),(1,0),(2,0),(4,0),(5,0),(6,0),(8,0),(3,1),(7,1),(9,2)] mixed (by kernel_rfl) (by rintro _ _ _ _ ⟨_,_,_,_,h,_⟩ _ <;> cases h) ?_
     refine wK 8 [0,3,4,5,7,8,177,178,237,238,239,240,241,242,243,244,343,346,348,351,352,353,354,355,356,357,358] ?_
     refine GW.lstep rfl rfl (LStep.fzA (vs:=hVs F) 15 rfl rfl rfl rfl rfl rfl ho.shaV) rfl (GW.force [0,3,4,5,7,8,177,178,237,238,239,240,241,242,243,244,343,347,348,351,352,353,354,355,356,357,358] rfl ?_)
     refine GW.toV 347 (hVs F) rfl rfl ?_
     refine GW.op rfl rfl (OpW.mapUpdate (kv:=hV F) (.inl rfl) rfl koH rfl rfl rfl rfl (kH_ok F) rfl ?_)
     refine wL [0,3,4,5,7,8,177,178,237,238,239,240,241,242,243,244,351,352,353,354,355,356,357,358] rfl ?_
     refine wF [0,3,4,5,7,8,177,178,237,238,239,240,241,242,243,244,351,352,353,354,355,356,357,358] ?_
     refine GK.code (GC.seq ?_)
     refine rS [0,3,4,5,8,177,178,237,238,239,240,241,242,243,244,351,352,353,354,355,356,357,358,359] ?_
     refine GC.condF rfl (GC.skip (GK.code ?_))
     refine GC.seq (GC.draw [(0,0),(1,0),(2,0),(4,0),(5,0),(6,0),(8,0),(3,1),(7,1),(9,2)] mixed (by kernel_rfl) (by rintro _ _ _ _ ⟨_,_,_,_,h,_⟩ _ <;> cases h) ?_)
     refine wK 9 [0,3,4,8,177,178,237,238,239,240,241,242,243,244,351,352,353,354,355,356,357,358,387,391,392] ?_
     refine GW.op rfl rfl (OpW.mapUpdate (.inl rfl) rfl ko64 rfl rfl rfl rfl ⟨_,rfl⟩ rfl ?_)
     refine wL [0,3,4,8,177,178,237,238,239,240,241,242,243,244,351,352,353,354,355,356,357,358] rfl ?_
     refine wF [0,3,4,8,177,178,237,238,239,240,241,242,243,244,351,352,353,354,355,356,357,358] (GK.code ?_)
     refine GC.region ?_
     refine lK 7 [0,3,4,177,178,237,238,239,240,241,242,243,244,351,352,353,354,355,356,357,358,393,397,399] ?_
     refine GL.op rfl (OpW.appendV (N:=fun _=>.pointer (some ⟨b,0,none⟩)) (m:=1) rfl rfl rfl rfl (Nat.le_of_ble_eq_true rfl) rfl rfl rfl rfl (Nat.le_of_ble_eq_true rfl) hc (src_slc rfl rfl (Nat.le_of_ble_eq_true rfl) (fun j hj=>by rw [Nat.zero_add]; exact one_get _ j hj)) (by omega) (by show (m + 1) * 8 ≤ 140737488355328; omega) rfl ?_ rfl rfl)
     intro c' V' g1 g2 g3 g4 ρ' hp
     obtain rfl:=Option.some.inj hp; clear hp
     refine gF [0,3,4,177,178,237,238,239,240,241,242,243,244,351,352,353,354,355,356,357,358,393,400] rfl ?_
     refine lF [0,3,4,177,178,237,238,239,240,241,242,243,244,351,352,353,354,355,356,357,358] ?_
     refine GK.code ?_
     refine rG [0,3,4,177,178,237,238,239,240,241,242,243,244,351,352,353,354,355,356,357,358] ?_
     refine GK.abs 4 rfl (fun _=>rfl) fun z4 hz4=>?_
     obtain rfl : z4 = ((m + 1 : Nat) : Int):=by rw [hz4]; unfold w32; omega
     refine GK.back ((((pe m + 4 : Nat) : Int)),m + 1,ps2,s2,t2,Z',updF fh (hV F) (.pointer (some ⟨b,0,none⟩)),updF fo (.int .i64 (pl m)) (.pointer (some ⟨b,0,none⟩)),V',c') [0,1,2,3,4,5,6,7,8,9,10,11,12,13,14,15,16,17,18,19,20,21,22,23,24] (show (I46 B S N M pl kd sz dl) ((((pe m + 4 : Nat) : Int))) (m + 1) (ps2) (s2) (t2) (Z') (updF fh (hV F) (.pointer (some ⟨b,0,none⟩))) (updF fo (.int .i64 (pl m)) (.pointer (some ⟨b,0,none⟩))) (V') (c') from ?_) ?_ (Ent.R rfl rfl rfl rfl)
     ·exact ⟨by rw [hnx],by omega,hnx ▸ h2,by rw [hnx]; exact hd2,g1,hr.push hz ho hF g3 g4⟩
     ·show M - (m + 1) < M - m; omega
    ·obtain ⟨b0,rfl,hb0⟩:=hr.hh _ _ hfh
     refine GC.seq ?_
     refine GC.seq (GC.draw [(0,0),(1,0),(2,0),(3,1),(4,1),(5,1),(6,0),(7,0),(8,0),(9,0),(10,0)] mixed (by kernel_rfl) (by rintro _ _ _ _ ⟨_,_,_,_,h,_⟩ _ <;> cases h) ?_)
     refine wK 5 [0,3,4,5,7,8,27,177,178,237,238,239,240,241,242,243,244,309,310,351,352,353,354,355,356,357,358] ?_
     refine GW.toV 310 (hVs F) rfl rfl ?_
     refine GW.lstep rfl rfl (LStep.lookupT (kv:=hV F) (zv:=.pointer none) (.pointer (some ⟨b0,0,none⟩)) rfl rfl koH rfl rfl rfl (kH_ok F) (fun _=>by kernel_rfl) hfh) rfl (GW.force [0,3,4,5,7,8,27,177,178,237,238,239,240,241,242,243,244,311,351,352,353,354,355,356,357,358] rfl ?_)
     refine wF [0,3,4,5,7,8,27,28,29,177,178,237,238,239,240,241,242,243,244,351,352,353,354,355,356,357,358] (GK.code ?_)
     refine rS [0,3,4,5,7,8,27,28,177,178,237,238,239,240,241,242,243,244,314,351,352,353,354,355,356,357,358] ?_
     refine GC.condT rfl (GL.seqR ?_)
     refine lK 4 [0,3,4,5,7,8,27,177,178,237,238,239,240,241,242,243,244,315,318,351,352,353,354,355,356,357,358] ?_
     refine GL.op rfl (OpW.lstep (LStep.fz 15 rfl rfl rfl rfl rfl hb0) rfl (gF [0,3,4,5,7,8,27,177,178,237,238,239,240,241,242,243,244,315,319,351,352,353,354,355,356,357,358] rfl ?_))
     refine lF [0,3,4,5,7,8,27,177,178,237,238,239,240,241,242,243,244,351,352,353,354,355,356,357,358] (GK.code ?_)
     refine rS [0,3,4,5,7,8,27,177,178,237,238,239,240,241,242,243,244,325,326,327,351,352,353,354,355,356,357,358] ?_
     refine GC.block ?_
     refine GC.loop0 ?_
     refine rS [0,3,4,5,7,8,27,177,178,237,238,239,240,241,242,243,244,325,326,327,328,351,352,353,354,355,356,357,358] ?_
     refine GC.seq (GC.condF rfl ?_)
     refine GC.exit ?_
     refine GK.code ?_
     refine rS [0,3,4,5,7,8,177,178,237,238,239,240,241,242,243,244,351,352,353,354,355,356,357,358] ?_
     refine GC.freezeP 8 26 15 rfl rfl rfl rfl rfl fun b Z' hz=>?_
     refine GC.force [0,3,4,5,7,8] rfl ?_
     have ho : Ozf Z' b (pl m) (sz m) (kd m) crc F:=Ozf.of hz
     refine GC.draw [(0,0),(1,0),(2,0),(4,0),(5,0),(6,0),(8,0),(3,1),(7,1),(9,2)] mixed (by kernel_rfl) (by rintro _ _ _ _ ⟨_,_,_,_,h,_⟩ _ <;> cases h) ?_
     refine wK 8 [0,3,4,5,7,8,177,178,237,238,239,240,241,242,243,244,343,346,348,351,352,353,354,355,356,357,358] ?_
     refine GW.lstep rfl rfl (LStep.fzA (vs:=hVs F) 15 rfl rfl rfl rfl rfl rfl ho.shaV) rfl (GW.force [0,3,4,5,7,8,177,178,237,238,239,240,241,242,243,244,343,347,348,351,352,353,354,355,356,357,358] rfl ?_)
     refine GW.toV 347 (hVs F) rfl rfl ?_
     refine GW.op rfl rfl (OpW.mapUpdate (kv:=hV F) (.inl rfl) rfl koH rfl rfl rfl rfl (kH_ok F) rfl ?_)
     refine wL [0,3,4,5,7,8,177,178,237,238,239,240,241,242,243,244,351,352,353,354,355,356,357,358] rfl ?_
     refine wF [0,3,4,5,7,8,177,178,237,238,239,240,241,242,243,244,351,352,353,354,355,356,357,358] ?_
     refine GK.code (GC.seq ?_)
     refine rS [0,3,4,5,8,177,178,237,238,239,240,241,242,243,244,351,352,353,354,355,356,357,358,359] ?_
     refine GC.condF rfl (GC.skip (GK.code ?_))
     refine GC.seq (GC.draw [(0,0),(1,0),(2,0),(4,0),(5,0),(6,0),(8,0),(3,1),(7,1),(9,2)] mixed (by kernel_rfl) (by rintro _ _ _ _ ⟨_,_,_,_,h,_⟩ _ <;> cases h) ?_)
     refine wK 9 [0,3,4,8,177,178,237,238,239,240,241,242,243,244,351,352,353,354,355,356,357,358,387,391,392] ?_
     refine GW.op rfl rfl (OpW.mapUpdate (.inl rfl) rfl ko64 rfl rfl rfl rfl ⟨_,rfl⟩ rfl ?_)
     refine wL [0,3,4,8,177,178,237,238,239,240,241,242,243,244,351,352,353,354,355,356,357,358] rfl ?_
     refine wF [0,3,4,8,177,178,237,238,239,240,241,242,243,244,351,352,353,354,355,356,357,358] (GK.code ?_)
     refine GC.region ?_
     refine lK 7 [0,3,4,177,178,237,238,239,240,241,242,243,244,351,352,353,354,355,356,357,358,393,397,399] ?_
     refine GL.op rfl (OpW.appendV (N:=fun _=>.pointer (some ⟨b,0,none⟩)) (m:=1) rfl rfl rfl rfl (Nat.le_of_ble_eq_true rfl) rfl rfl rfl rfl (Nat.le_of_ble_eq_true rfl) hc (src_slc rfl rfl (Nat.le_of_ble_eq_true rfl) (fun j hj=>by rw [Nat.zero_add]; exact one_get _ j hj)) (by omega) (by show (m + 1) * 8 ≤ 140737488355328; omega) rfl ?_ rfl rfl)
     intro c' V' g1 g2 g3 g4 ρ' hp
     obtain rfl:=Option.some.inj hp; clear hp
     refine gF [0,3,4,177,178,237,238,239,240,241,242,243,244,351,352,353,354,355,356,357,358,393,400] rfl ?_
     refine lF [0,3,4,177,178,237,238,239,240,241,242,243,244,351,352,353,354,355,356,357,358] ?_
     refine GK.code ?_
     refine rG [0,3,4,177,178,237,238,239,240,241,242,243,244,351,352,353,354,355,356,357,358] ?_
     refine GK.abs 4 rfl (fun _=>rfl) fun z4 hz4=>?_
     obtain rfl : z4 = ((m + 1 : Nat) : Int):=by rw [hz4]; unfold w32; omega
     refine GK.back ((((pe m + 4 : Nat) : Int)),m + 1,ps2,s2,t2,Z',updF fh (hV F) (.pointer (some ⟨b,0,none⟩)),updF fo (.int .i64 (pl m)) (.pointer (some ⟨b,0,none⟩)),V',c') [0,1,2,3,4,5,6,7,8,9,10,11,12,13,14,15,16,17,18,19,20,21,22,23,24] (show (I46 B S N M pl kd sz dl) ((((pe m + 4 : Nat) : Int))) (m + 1) (ps2) (s2) (t2) (Z') (updF fh (hV F) (.pointer (some ⟨b,0,none⟩))) (updF fo (.int .i64 (pl m)) (.pointer (some ⟨b,0,none⟩))) (V') (c') from ?_) ?_ (Ent.R rfl rfl rfl rfl)
     ·exact ⟨by rw [hnx],by omega,hnx ▸ h2,by rw [hnx]; exact hd2,g1,hr.push hz ho hF g3 g4⟩
     ·show M - (m + 1) < M - m; omega
 ·have hlt : ¬ ((m : Int) < M):=by simpa using hlt
  have hlt : ¬ (m : Int) < M:=hlt
  obtain rfl : m = M:=by omega
  refine GC.exit ?_
  refine GK.code ?_
  refine rS [2] ?_
  refine GC.ret ?_
  refine GK.pop (.inl rfl) rfl (f65 _) [] rfl ⟨.inl rfl,trivial⟩ trivial fun _ _=>?_
  refine fD (.inl rfl) rfl (by trivial) (((pl m : Int),ps,s,t,Z,fh,fo,V,oc)) [0,1,2,3,4,5,6,7,8,9,10,11,12,13,14,15,16,17,18,19,20,21,22,23] rfl rfl rfl rfl (⟨rfl,hm,hs,hd,hc,hr⟩)
end Go.Proofs.YtebadfmnmhmfeaaGreatDoor.T
