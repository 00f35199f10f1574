/- What the functions of the program do, one contract each (P38H, P40H, P49, P58, P59, P60); each states its own conditions. -/
import Derived.Test.YtebadfmnmhmfeaaGreatDoorP11
namespace Go.Proofs.YtebadfmnmhmfeaaGreatDoor.T
open Go.Proofs.YtebadfmnmhmfeaaGreatDoor.Sx Go.RowKit
set_option maxRecDepth 20000
set_option linter.unusedSimpArgs false
set_option linter.unusedVariables false
set_option linter.unnecessarySimpa false
set_option linter.unusedSectionVars false
theorem f146H (μ) (dl : Int) (be : Nat × Nat) (hE : muAt μ 0 0 = some (EOFv be)) (B S T : Nat → Int) (rn N cap p pe L : Nat) (d : Dat B rn N cap) (st : Int) (z : Zs B T N p L pe) (v : SV0) (hi : lsI B T pe L 0 v false .a) (h : SrD dl B S N v) (a b c dd : Int) (n0 : Nat) (hn0 : n0 < 1099511627776) (E0 : Nat → Int) (w0 : ShI) (hw0 : WkA (n0 + 0) w0) :
  FunC Tryz.prog μ 146 [.ifc 285 (.ptr 18 0),.ifc 370 (.ptr 11 0),.slc 17 0 16384 16384] (cbH be B rn N cap st L  E0 (zrR .nilIface a b c dd) 1 v false .a 0 w0) 22 24
  (fun y : ZO × (ShI)=>y.1.x.eof = true ∧ y.1.x.v.p = pe + 4 ∧ SrD dl B S N y.1.x.v ∧ WkA (n0 + L) y.2)
  (fun y=>⟨.tup [.v (.int .i64 (L : Nat)),.v .nilIface],cbH be B rn N cap st L  y.1.x.E (zrR (EOFv be) y.1.a y.1.b y.1.c y.1.d) (ad T L) y.1.x.v true (.b y.1.x.o y.1.x.l y.1.x.c) L y.2,24⟩):=by
 obtain ⟨X,hX,hX2,g0,g1,g2,g3⟩:=z.hX
 have key:=f166H μ dl be hE B S T rn N cap pe L X d st z.hp v hi h z.hL z.hT hX hX2 g0 g1 g2 g3 a b c dd n0 hn0 E0 w0 hw0
 rw [ad0 T] at key
 dsimp only [cbH,zcV,srG,List.cons_append,List.nil_append] at key ⊢
 refine fE 22 Tryz.func146 fun zw zβ=>?_
 refine cF [0,1,2,11,12,13] ?_
 refine rS [0,1,2,11,12,13] ?_
 refine GC.seq (GL.seqR ?_)
 refine lK 1 [0,1,2,8,11,12,13] ?_
 refine GL.vstep rfl (VStep.eqNilS rfl (.inr rfl) rfl rfl (by decide)) rfl (GL.force [0,1,2,9,11,12,13] rfl ?_)
 refine lF [0,1,2,14] (GK.code ?_)
 refine GC.condF rfl (GC.skip (GK.code (GL.seqR ?_)))
 refine lK 3 [16,17,18] ?_
 refine GL.op rfl (cR rfl (key) [0,1,2,3,4,5,6,7,8,9,10,11,12,13,14,15,16,17,18,19,20,21,22,23] rfl rfl rfl rfl ?_)
 intro ⟨⟨⟨n,E2,w2,eof2,o2,l2,c2,er⟩,ya,yb,yc,yd⟩,w⟩ hy
 dsimp only at hy ⊢
 refine gF [19] rfl ?_
 refine lF [6,7] (GK.code ?_)
 refine GC.ret ?_
 refine fR (.inl rfl) rfl (by trivial) ((⟨⟨n,E2,w2,eof2,o2,l2,c2,er⟩,ya,yb,yc,yd⟩,w)) [0,1,2,3,4,5,6,7,8,9,10,11,12,13,14,15,16,17,18,19,20,21,22,23] rfl rfl rfl rfl (hy)
set_option maxHeartbeats 16000000 in
theorem f115H (μ) (dl : Int) (be : Nat × Nat) (hE : muAt μ 0 0 = some (EOFv be)) (B S T : Nat → Int) (rn N cap p pe L ps : Nat) (s : RdI) (t : WI) (d : Dat B rn N cap) (z : Zs B T N p L pe) (h : Sr B S N p ps s t) (hdl : (ps : Int) - (p : Int) = dl) (vv oo : Int) (n0 : Nat) (hn0 : n0 < 1099511627776) (w0 : ShI) (hw0 : WkA (n0 + 0) w0) :
  FunC Tryz.prog μ 115 [.ptr 11 0,.ifc 153 (.ptr 12 0),.v (.int .i64 (L : Nat))] (srG B rn N cap 15 (p : Nat) s t ++ [(11,.row (scR 0 9 10 (.v (.pointer none)) vv oo)),(12,.row (mw1R 13)),(13,.row (ws1R 14)),(14,.row (shR 16 w0)),(16,.row (sbR w0))]) 15 17
  (fun y : RdI × WI × Nat × (ShI)=>Sr B S N (pe + 4) y.2.2.1 y.1 y.2.1 ∧ (y.2.2.1 : Int) - ((pe + 4 : Nat) : Int) = dl ∧ WkA (n0 + L) y.2.2.2)
  (fun y=>⟨.tup [.v (.int .i64 (L : Nat)),.v .nilIface],srG B rn N cap 15 ((pe + 4 : Nat) : Int) y.1 y.2.1 ++ [(11,.row (scR 0 9 10 (.v (.pointer none)) vv oo)),(12,.row (mw1R 13)),(13,.row (ws1R 14)),(14,.row (shR 16 y.2.2.2)),(16,.row (sbR y.2.2.2))],17⟩):=by
 have hble:=z.hb.le
 have hzp:=z.hp
 dsimp only [srG,List.cons_append,List.nil_append]
 refine Fun.enterDf (T:=tab) (ok:=tabOK) (n:=47) Tryz.func115 rfl rfl rfl rfl fun zw zβ=>?_
 refine cF [0,1,2] ?_
 refine rS [0,1,2,7] ?_
 refine GL.seqR ?_
 refine lK 5 [1,2,7,16] ?_
 refine GL.op rfl (cR rfl (f143 _ B S rn N cap p ps s t d h (by omega) z.h0 z.h1) [0,1,2,3,4,5,6,7,8,9,10,15] rfl rfl rfl rfl ?_)
 intro ⟨s1,t1⟩ hx
 dsimp only at hx ⊢
 refine gF [1,2,7,17] rfl ?_
 refine lF [1,2,7,8] (GK.code ?_)
 refine GL.seqR ?_
 refine lK 1 [1,2,7,8,20] ?_
 refine GL.op rfl (OpW.defer rfl rfl ?_)
 refine gF [1,2,7,8] rfl ?_
 refine lF [1,2,7,8] (GK.code ?_)
 refine GC.seq ?_
 refine rS [1,2,7,8,22] ?_
 refine GC.condF rfl (GC.skip (GK.code (GL.seqR ?_)))
 refine lK 2 [1,2,7,8,25] ?_
 refine GL.op rfl (OpW.defer rfl rfl ?_)
 refine gF [1,2,7,8] rfl ?_
 refine lF [1,2,7,8] (GK.code ?_)
 refine rS [1,2,7,8,9] ?_
 refine GC.seq ?_
 refine rS [1,2,7,8,9,28] ?_
 refine GC.boolS 28 true rfl (by simp) rfl ?_
 refine GC.condT rfl ?_
 refine rG [7,8,9] ?_
 refine GK.code (GL.seqR ?_)
 refine GL.op rfl (cR rfl (f145 _) [] rfl rfl rfl rfl fun _ _=>?_)
 refine gF [7,8,9,34] rfl ?_
 refine lF [7,8,9,10] (GK.code ?_)
 refine GC.seq (GC.draw [(0,0),(1,0),(3,0),(4,0),(2,1),(5,1),(6,2),(7,0),(8,0),(9,0),(10,0),(11,2)] mixed (by kernel_rfl) (by rintro _ _ _ _ ⟨_,_,_,_,h,_⟩ _ <;> cases h) ?_)
 refine wK 6 [7,10,36,38,41] ?_
 refine GW.op rfl rfl (cR rfl (f146H _ dl be hE B S T rn N cap p pe L d 0 z ⟨fun _=>0,s1,t1,p + 2,ps + 2,0,0,false,0,0,0,0,203,false,0,0⟩ (z.ini _ _ _ _) ⟨hx,by dsimp only; omega⟩ 120 1 0 0 n0 hn0 (fun _=>0) w0 hw0) [0,1,2,3,4,5,6,7,8,9,10,18,19,20,21,22,23,26,25,12,13,14,15,16] rfl rfl rfl rfl ?_)
 intro ⟨⟨⟨n,E2,w2,eof2,o2,l2,c2,er⟩,ya,yb,yc,yd⟩,w⟩ hy
 obtain ⟨rfl,hp2,hs2,hw2⟩:=hy
 dsimp only at hp2 hs2 hw2 ⊢
 refine wL [7,10,42] rfl ?_
 refine wF [6,7,10] (GK.code ?_)
 refine GL.seqR ?_
 refine lK 1 [6,7,45] ?_
 refine GL.op rfl (cR rfl (f147b _ E2) [27,26] rfl rfl rfl rfl fun _ _=>?_)
 refine gF [6,7] rfl ?_
 refine lF [6,7] (GK.code ?_)
 refine GC.ret ?_
 refine GK.popR (.inr rfl) rfl (f120 _ be hE B rn N cap 0 _ w2 o2 l2 c2 ya yb yc yd).toR [0,1,2,3,4,5,6,7,8,9,10,18,19,20,21,22,23,15,17] rfl rfl rfl fun _ _=>?_
 refine GK.force [6,7] rfl ?_
 refine GK.popR (.inl rfl) rfl (f144 _ be hE B rn N cap 0 _ w2 o2 l2 c2 ya yb yc yd).toR [0,1,2,3,4,5,6,7,8,9,10,18,19,20,21,22,23,15] rfl rfl rfl fun _ _=>?_
 refine GK.force [6,7] rfl ?_
 rw [hp2]
 refine fD (.inl rfl) rfl (by trivial) ((w2.s,w2.t,w2.ps,w)) [0,1,2,3,4,5,6,7,8,9,10,11,12,13,14,15,16] rfl rfl rfl rfl (⟨hp2 ▸ hs2.1,by have:=hs2.2; dsimp only; omega,hw2⟩)
theorem m101sH : IsMeth Tryz.prog 101 "Sum32" 259:=fun v w=>by kernel_rfl
theorem f75H (μ) (dl : Int) (be : Nat × Nat) (hE : muAt μ 0 0 = some (EOFv be)) (B S T : Nat → Int) (rn N cap p pe L ps kd ho : Nat) (s : RdI) (t : WI) (d : Dat B rn N cap) (z : Zs B T N p L pe) (h : Sr B S N p ps s t) (hdl : (ps : Int) - (p : Int) = dl) (oo : Int) (n0 : Nat) (hn0 : n0 < 1099511627776) (w0 : ShI) (hw0 : WkA (n0 + 0) w0) :
  FunC Tryz.prog μ 75 [.ptr 11 0,.ifc 153 (.ptr 13 0)] (srG B rn N cap 16 (p : Nat) s t ++ [(11,.row (scR 0 9 10 (.ptr 12 0) 2 oo)),(12,.row (ohR kd ho L)),(13,.row (mw1R 14)),(14,.row (ws1R 15)),(15,.row (shR 17 w0)),(17,.row (sbR w0))]) 16 18
  (fun y : RdI × WI × Nat × Int × (ShI)=>Sr B S N (pe + 4) y.2.2.1 y.1 y.2.1 ∧ y.2.1.n = 0 ∧ (y.2.2.1 : Int) - ((pe + 4 : Nat) : Int) = dl ∧ WkA (n0 + L) y.2.2.2.2)
  (fun y=>⟨.tup [.v (.int .i64 (L : Nat)),.v (.int .u32 y.2.2.2.1),.v .nilIface],srG B rn N cap 16 ((pe + 4 : Nat) : Int) y.1 y.2.1 ++ [(11,.row (scR 0 9 10 (.v (.pointer none)) 2 oo)),(12,.row (ohR kd ho L)),(13,.row (mw1R 14)),(14,.row (ws1R 15)),(15,.row (shR 17 y.2.2.2.2)),(17,.row (sbR y.2.2.2.2))],18⟩):=by
 dsimp only [srG,List.cons_append,List.nil_append]
 refine fE 45 Tryz.func75 fun zw zβ=>?_
 refine cF [0,1] ?_
 refine rS [0,1] ?_
 refine rS [0,1,7] ?_
 refine GC.seq ?_
 refine rS [0,1,7,12] ?_
 refine GC.condT rfl ?_
 refine rG [0,1,7] ?_
 refine GK.code ?_
 refine rS [0,1,7] ?_
 refine GL.seqR ?_
 refine lK 3 [0,24,25,26] ?_
 refine GL.op rfl (cR rfl (f115H _ dl be hE B S T rn N cap p pe L ps s t d z h hdl 2 oo n0 hn0 w0 hw0) [0,1,2,3,4,5,6,7,8,9,10,11,13,14,15,16,17] rfl rfl rfl rfl ?_)
 intro ⟨s1,t1,ps1,w⟩ hy
 obtain ⟨h1,h2,h3⟩:=hy
 dsimp only at h1 h2 h3 ⊢
 refine gF [0,27] rfl ?_
 refine lF [0,4,6] (GK.code ?_)
 refine GL.seqR ?_
 refine lK 4 [0,4,6,33] ?_
 refine GL.op rfl (cR rfl (f78 _ S B rn N cap ps1 _ s1 t1 h1.hw h1.hS (by have:=h1.hb; have:=h1.hp; omega)) [0,1,2,3,4,5,6,7,8,9,10,16] rfl rfl rfl rfl fun t2 ht2=>?_)
 obtain ⟨q1,n1,W1,x1,sh1⟩:=t2
 obtain ⟨⟨a1,a2,a3,a4⟩,a5⟩:=ht2
 dsimp only at a1 a2 a3 a4 a5
 dsimp only
 have h4 : Sr B S N (pe + 4) ps1 s1 ⟨q1,n1,W1,0,sh1⟩:=⟨h1.hr,⟨a1,a2,a3,a4⟩,h1.hl,h1.hS,h1.hb,h1.hp⟩
 refine gF [0,4,6] rfl ?_
 refine lF [0,4,6] (GK.code ?_)
 refine GL.seqR ?_
 refine lK 4 [0,4,6,38] ?_
 refine GL.op rfl (iR rfl rfl (m101sH) (f259 _ x1) [9] rfl rfl rfl rfl fun _ _=>?_)
 refine gF [0,4,6,39] rfl ?_
 refine lF [0,4,5,6] (GK.code ?_)
 refine GL.seqR ?_
 refine lK 4 [4,5,6,43] ?_
 refine GL.op rfl (iR rfl rfl (m113) (f256 _ x1) [9] rfl rfl rfl rfl fun _ _=>?_)
 refine gF [4,5,6] rfl ?_
 refine lF [4,5,6] (GK.code ?_)
 refine GC.ret ?_
 refine fR (.inl rfl) rfl (by trivial) ((s1,⟨q1,n1,W1,0,sh1⟩,ps1,x1,w)) [0,1,2,3,4,5,6,7,8,9,10,11,12,13,14,15,16,17] rfl rfl rfl rfl (⟨h4,a5,h2,h3⟩)
theorem f43w (μ) (sh : ShI) : Fun Tryz.prog μ 43 [.slc 0 0 1 1] [(0,.row (ws1R 1)),(1,.row (shR 2 sh)),(2,.row (sbR sh))] 3
  (fun _ : Unit=>True) (fun _=>⟨.ifc 153 (.ptr 3 0),[(0,.row (ws1R 1)),(1,.row (shR 2 sh)),(2,.row (sbR sh)),(3,.row (mw1R 4)),(4,.row (ws1R 1))],5⟩):=by
 refine fE 38 Tryz.func43 fun zw zβ=>?_
 refine cF [0] ?_
 refine rS [0] ?_
 refine GL.seqR ?_
 refine lK 2 [0,9] ?_
 refine GL.op rfl (OpW.makeL [(1,.nilIface)] 1 rfl rfl rfl rfl rfl (by decide) (by decide) (by decide) rfl rfl rfl rfl rfl rfl rfl ?_)
 refine gF [0,10] rfl ?_
 refine lF [0,3] (GK.code ?_)
 refine GC.seq ?_
 refine rS [3,11,12,13] ?_
 refine GC.block ?_
 refine GC.loopU 2 ?_
 refine rS [3,11,12,13,14] ?_
 refine GC.seq (GC.condT rfl (GC.skip (GK.code (GC.seq (GC.block ?_)))))
 refine rS [3,5,11,12,13] ?_
 refine GL.seqR ?_
 refine lK 1 [3,5,11,12,13,18] ?_
 refine GL.vstep rfl (VStep.assertF (z:=.pointer none) rfl rfl rfl rfl (fun _=>by kernel_rfl)) rfl (GL.force [3,5,11,12,13,19] rfl ?_)
 refine lF [3,5,6,7,11,12,13] (GK.code ?_)
 refine rS [3,5,6,11,12,13,22] ?_
 refine GC.condF rfl (GC.region ?_)
 refine lK 3 [11,12,13,29,31] ?_
 refine GL.op rfl (OpW.appendIn (m:=1) rfl rfl rfl rfl rfl rfl rfl rfl rfl (by decide) (src_slc rfl rfl (Nat.le_of_ble_eq_true rfl) (fun j hj=>rfl)) (by decide) rfl rfl rfl (by decide) ?_)
 refine gF [11,12,13,32] rfl ?_
 refine lF [3,11,12,13] ?_
 refine GK.code ?_
 refine rG [3,11,12,13] ?_
 refine GK.itr ?_
 refine rS [3,11,12,13,14] ?_
 refine GC.seq (GC.condF rfl ?_)
 refine GC.exit ?_
 refine GK.code ?_
 refine rS [2] ?_
 refine GC.ret ?_
 refine fR (.inl rfl) rfl (by trivial) () [0,1,2,5,3] rfl rfl rfl rfl (trivial)
theorem koH : KeyOK Tryz.prog 74 kH:=keyOK_arr (e:=5) (by kernel_rfl) (by kernel_rfl) (fun _=>by kernel_rfl)
def hV (F : Nat → Int) : Value:=.agg ((agL F).map (Value.int .u8)).toArray
theorem kH_ok (F : Nat → Int) : kH (hV F):=⟨agL F,rfl,rfl⟩
def hVs (F : Nat → Int) : List Value:=[.int .u8 (F 0),.int .u8 (F 1),.int .u8 (F 2),.int .u8 (F 3),.int .u8 (F 4),.int .u8 (F 5),.int .u8 (F 6),.int .u8 (F 7),.int .u8 (F 8),.int .u8 (F 9),.int .u8 (F 10),.int .u8 (F 11),.int .u8 (F 12),.int .u8 (F 13),.int .u8 (F 14),.int .u8 (F 15),.int .u8 (F 16),.int .u8 (F 17),.int .u8 (F 18),.int .u8 (F 19)]
structure Pk (B : Nat → Int) (N M : Nat) (pl kd sz zp pe : Nat → Nat) (T : Nat → Nat → Int) : Prop where
 hd : ∀ i,i < M → Hd B (pl i) (kd i) (sz i) (zp i)
 hz : ∀ i,i < M → Zs B (T i) N (zp i) (sz i) (pe i)
 hn : ∀ i,i < M → pl (i + 1) = pe i + 4
 hk : ∀ i,i < M → kd i < 6
 hk1 : ∀ i,i < M → 1 ≤ kd i ∧ kd i ≤ 4
 hs : ∀ i,i < M → sz i ≤ 1048576
structure Ois (Z : Nat → Option Obj) (fh : Value → Option Value) (V : Nat → Value) (pl kd sz : Nat → Nat) (i : Nat) : Prop where
 hV : ∀ j,j < i → ∃ b crc h,V j = .pointer (some ⟨b,0,none⟩) ∧ Ozf Z b (pl j) (sz j) (kd j) crc h ∧ ∀ q,q < 20 → 0 ≤ h q ∧ h q < 256
 hh : ∀ v x,fh v = some x → ∃ b,x = .pointer (some ⟨b,0,none⟩) ∧ fzAt Z b 7 = some (.slice none 0 0)
theorem one_get (x : SV) : ∀ j,j < 1 * 1 → lget [x] j = x
 | 0,_=>rfl
 | j + 1,h=>absurd h (by omega)
theorem Ozf.of {Z Z' : Nat → Option Obj} {b g : Nat} {off len kd crc : Int} {F : Nat → Int} (hz : Frz Z Z' b g ⟨.lst (oiL off len kd kd crc (.v (.pointer none)) (.v (.slice none 0 0)) [.v (.int .u8 (F 0)),.v (.int .u8 (F 1)),.v (.int .u8 (F 2)),.v (.int .u8 (F 3)),.v (.int .u8 (F 4)),.v (.int .u8 (F 5)),.v (.int .u8 (F 6)),.v (.int .u8 (F 7)),.v (.int .u8 (F 8)),.v (.int .u8 (F 9)),.v (.int .u8 (F 10)),.v (.int .u8 (F 11)),.v (.int .u8 (F 12)),.v (.int .u8 (F 13)),.v (.int .u8 (F 14)),.v (.int .u8 (F 15)),.v (.int .u8 (F 16)),.v (.int .u8 (F 17)),.v (.int .u8 (F 18)),.v (.int .u8 (F 19))]),28,172⟩) : Ozf Z' b off len kd crc F:=by
 refine ⟨hz.1 0 _ (Nat.le_of_ble_eq_true rfl) rfl,hz.1 1 _ (Nat.le_of_ble_eq_true rfl) rfl,hz.1 2 _ (Nat.le_of_ble_eq_true rfl) rfl,hz.1 3 _ (Nat.le_of_ble_eq_true rfl) rfl,hz.1 4 _ (Nat.le_of_ble_eq_true rfl) rfl,hz.1 5 _ (Nat.le_of_ble_eq_true rfl) rfl,hz.1 6 _ (Nat.le_of_ble_eq_true rfl) rfl,hz.1 7 _ (Nat.le_of_ble_eq_true rfl) rfl,fun j hj=>?_⟩
 match j,hj with
 | 0,_=>exact hz.1 8 _ (Nat.le_of_ble_eq_true rfl) rfl
 | 1,_=>exact hz.1 9 _ (Nat.le_of_ble_eq_true rfl) rfl
 | 2,_=>exact hz.1 10 _ (Nat.le_of_ble_eq_true rfl) rfl
 | 3,_=>exact hz.1 11 _ (Nat.le_of_ble_eq_true rfl) rfl
 | 4,_=>exact hz.1 12 _ (Nat.le_of_ble_eq_true rfl) rfl
 | 5,_=>exact hz.1 13 _ (Nat.le_of_ble_eq_true rfl) rfl
 | 6,_=>exact hz.1 14 _ (Nat.le_of_ble_eq_true rfl) rfl
 | 7,_=>exact hz.1 15 _ (Nat.le_of_ble_eq_true rfl) rfl
 | 8,_=>exact hz.1 16 _ (Nat.le_of_ble_eq_true rfl) rfl
 | 9,_=>exact hz.1 17 _ (Nat.le_of_ble_eq_true rfl) rfl
 | 10,_=>exact hz.1 18 _ (Nat.le_of_ble_eq_true rfl) rfl
 | 11,_=>exact hz.1 19 _ (Nat.le_of_ble_eq_true rfl) rfl
 | 12,_=>exact hz.1 20 _ (Nat.le_of_ble_eq_true rfl) rfl
 | 13,_=>exact hz.1 21 _ (Nat.le_of_ble_eq_true rfl) rfl
 | 14,_=>exact hz.1 22 _ (Nat.le_of_ble_eq_true rfl) rfl
 | 15,_=>exact hz.1 23 _ (Nat.le_of_ble_eq_true rfl) rfl
 | 16,_=>exact hz.1 24 _ (Nat.le_of_ble_eq_true rfl) rfl
 | 17,_=>exact hz.1 25 _ (Nat.le_of_ble_eq_true rfl) rfl
 | 18,_=>exact hz.1 26 _ (Nat.le_of_ble_eq_true rfl) rfl
 | 19,_=>exact hz.1 27 _ (Nat.le_of_ble_eq_true rfl) rfl
 | j + 20,h=>exact absurd h (by omega)
theorem Ozf.mono {Z Z' : Nat → Option Obj} {b b' g : Nat} {r : Row} {off len kd crc : Int} {F : Nat → Int} (hz : Frz Z Z' b' g r) (h : Ozf Z b off len kd crc F) : Ozf Z' b off len kd crc F :=
 ⟨(hz.2 _ _ _ h.h0).2,(hz.2 _ _ _ h.h1).2,(hz.2 _ _ _ h.h2).2,(hz.2 _ _ _ h.h3).2,(hz.2 _ _ _ h.h4).2,(hz.2 _ _ _ h.h5).2,(hz.2 _ _ _ h.h6).2,(hz.2 _ _ _ h.h7).2,fun j hj=>(hz.2 _ _ _ (h.h8 j hj)).2⟩
theorem Ozf.shaV {Z : Nat → Option Obj} {b : Nat} {off len kd crc : Int} {F : Nat → Int} (h : Ozf Z b off len kd crc F) : ∀ j v,(hVs F)[j]? = some v → fzAt Z b (8 + j) = some v:=by
 intro j v hv
 match j,hv with
 | 0,hv=>have e:=h.h8 0 (by decide); rw [e]; exact hv
 | 1,hv=>have e:=h.h8 1 (by decide); rw [e]; exact hv
 | 2,hv=>have e:=h.h8 2 (by decide); rw [e]; exact hv
 | 3,hv=>have e:=h.h8 3 (by decide); rw [e]; exact hv
 | 4,hv=>have e:=h.h8 4 (by decide); rw [e]; exact hv
 | 5,hv=>have e:=h.h8 5 (by decide); rw [e]; exact hv
 | 6,hv=>have e:=h.h8 6 (by decide); rw [e]; exact hv
 | 7,hv=>have e:=h.h8 7 (by decide); rw [e]; exact hv
 | 8,hv=>have e:=h.h8 8 (by decide); rw [e]; exact hv
 | 9,hv=>have e:=h.h8 9 (by decide); rw [e]; exact hv
 | 10,hv=>have e:=h.h8 10 (by decide); rw [e]; exact hv
 | 11,hv=>have e:=h.h8 11 (by decide); rw [e]; exact hv
 | 12,hv=>have e:=h.h8 12 (by decide); rw [e]; exact hv
 | 13,hv=>have e:=h.h8 13 (by decide); rw [e]; exact hv
 | 14,hv=>have e:=h.h8 14 (by decide); rw [e]; exact hv
 | 15,hv=>have e:=h.h8 15 (by decide); rw [e]; exact hv
 | 16,hv=>have e:=h.h8 16 (by decide); rw [e]; exact hv
 | 17,hv=>have e:=h.h8 17 (by decide); rw [e]; exact hv
 | 18,hv=>have e:=h.h8 18 (by decide); rw [e]; exact hv
 | 19,hv=>have e:=h.h8 19 (by decide); rw [e]; exact hv
 | j + 20,hv=>simp [hVs] at hv
theorem Ois.push {Z Z' : Nat → Option Obj} {fh : Value → Option Value} {V V' : Nat → Value} {pl kd sz : Nat → Nat} {m b g : Nat} {r : Row} {crc : Int} {F : Nat → Int} {kv : Value} (h : Ois Z fh V pl kd sz m) (hz : Frz Z Z' b g r) (ho : Ozf Z' b (pl m) (sz m) (kd m) crc F) (hF : ∀ q,q < 20 → 0 ≤ F q ∧ F q < 256)
  (h3 : ∀ i,i < m * 1 → V' i = V i) (h4 : ∀ j,j < 1 * 1 → V' (m * 1 + j) = .pointer (some ⟨b,0,none⟩)) : Ois Z' (updF fh kv (.pointer (some ⟨b,0,none⟩))) V' pl kd sz (m + 1):=by
 refine ⟨fun j hj=>?_,fun v x hx=>?_⟩
 ·by_cases e : j = m
  ·subst e
   refine ⟨b,crc,F,?_,ho,hF⟩
   have:=h4 0 (by omega)
   rwa [Nat.mul_one,Nat.add_zero] at this
  ·obtain ⟨b',crc',h',e1,e2,e3⟩:=h.hV j (by omega)
   exact ⟨b',crc',h',by rw [h3 j (by omega)]; exact e1,e2.mono hz,e3⟩
 ·unfold updF at hx
  split at hx
  ·cases hx; exact ⟨b,rfl,ho.h7⟩
  ·obtain ⟨b',e1,e2⟩:=h.hh v x hx
   exact ⟨b',e1,(hz.2 _ _ _ e2).2⟩
structure Kn (μ F : Nat → Option Obj) (a : Option Addr) (n c : Nat) (T : Nat → Int) : Prop where
 h : (Nl a ∧ n = 0 ∧ c = 0) ∨ ∃ b o,a = some ⟨b,o,none⟩ ∧ n ≤ c ∧ ∀ j,j < n → muAt μ b (o + j) = some (.int .u8 (T j)) ∨ fzAt F b (o + j) = some (.int .u8 (T j))
 r : ∀ j,j < n → 0 ≤ T j ∧ T j < 256
 l : n ≤ 1048576
def nF : Nat → Option Obj:=fun _=>none
structure StpAt (μ : Nat → Option Obj) (b o : Nat) (cp : Bool) (fr sz : Int) (a : Option Addr) (n c : Nat) (wd : Int) : Prop where
 h : ∀ q v,[Value.bool cp,.int .i64 fr,.int .i64 sz,.slice a n c,.int .i64 wd][q]? = some v → muAt μ b (o + q) = some v
 k : ∃ T,Kn μ nF a n c T
structure Stps (μ : Nat → Option Obj) (a : Option Addr) (m c : Nat) : Prop where
 h : (Nl a ∧ m = 0 ∧ c = 0) ∨ ∃ (b o : Nat) (cp : Nat → Bool) (fr sz : Nat → Int) (ta : Nat → Option Addr) (tn tc : Nat → Nat) (wd : Nat → Int),a = some ⟨b,o,none⟩ ∧ m ≤ c ∧ ∀ j,j < m → StpAt μ b (o + j * 5) (cp j) (fr j) (sz j) (ta j) (tn j) (tc j) (wd j)
 l : m ≤ 1048576
structure EntAt (μ : Nat → Option Obj) (b o : Nat) (kd : Int) (a : Option Addr) (n c : Nat) (bs : Int) (sa : Option Addr) (sn sc : Nat) : Prop where
 h : ∀ q v,[Value.int .i64 kd,.slice a n c,.int .i64 bs,.slice sa sn sc][q]? = some v → muAt μ b (o + q) = some v
 k : ∃ T,Kn μ nF a n c T
 s : Stps μ sa sn sc
structure Ents (μ : Nat → Option Obj) (b o m : Nat) (kd : Nat → Int) (a : Nat → Option Addr) (n c : Nat → Nat) (bs : Nat → Int) (sa : Nat → Option Addr) (sn sc : Nat → Nat) : Prop where
 h : ∀ j,j < m → EntAt μ b (o + j * 4) (kd j) (a j) (n j) (c j) (bs j) (sa j) (sn j) (sc j)
 l : m ≤ 1048576
theorem f51 (μ) (cp : Bool) (fr sz : Int) (a : Option Addr) (n c : Nat) (wd : Int) : Fun Tryz.prog μ 51 [.agg [.v (.bool cp),.v (.int .i64 fr),.v (.int .i64 sz),.v (.slice a n c),.v (.int .i64 wd)]] [] 0 (fun _ : Bool=>True) (fun b=>⟨.v (.bool b),[],0⟩):=by
 refine fE 7 Tryz.func51 fun zw zβ=>?_
 refine cF [0] ?_
 refine rS [1] ?_
 refine GC.seq ?_
 refine rS [6] ?_
 refine GC.cond rfl (fun h7=>?_) (fun h7=>?_)
 ·have h7 : (n : Int) > 2147483647:=by simpa using h7
  refine rS [2] ?_
  refine GC.ret ?_
  refine fR (.inl rfl) rfl (by trivial) false [] rfl rfl rfl rfl (trivial)
 ·have h7 : ¬ ((n : Int) > 2147483647):=by simpa using h7
  refine GC.skip (GK.code ?_)
  refine rS [2] ?_
  refine GC.ret ?_
  refine fR (.inl rfl) rfl (by trivial) true [] rfl rfl rfl rfl (trivial)
theorem f28n (μ) (z : Option Addr) : Fun Tryz.prog μ 28 [.v (.slice z 0 0)] [] 0 (fun _ : Bool=>True) (fun b=>⟨.v (.bool b),[],0⟩):=by
 refine fE 18 Tryz.func28 fun zw zβ=>?_
 refine cF [0] ?_
 refine rS [0] ?_
 refine GC.seq ?_
 refine rS [0,7] ?_
 refine GC.condF rfl (GC.skip (GK.code (GC.seq ?_)))
 refine rS [8,9,10] ?_
 refine GC.block ?_
 refine GC.loop0 ?_
 refine rS [8,9,10,11] ?_
 refine GC.seq (GC.condF rfl ?_)
 refine GC.exit ?_
 refine GK.code ?_
 refine rS [2] ?_
 refine GC.ret ?_
 refine fR (.inl rfl) rfl (by trivial) true [] rfl rfl rfl rfl (trivial)
def L28 (b o m c i : Nat) : S:=⟨[(8,.v (.slice (some ⟨b,o,none⟩) m c)),(9,.v (.int .i64 m)),(10,.v (.int .i64 i))],[],0,[]⟩
theorem f28m (μ) (b o m c : Nat) (hm : m ≤ 1048576) (hs : ∀ j,j < m → ∃ cp fr sz a n c wd,StpAt μ b (o + j * 5) cp fr sz a n c wd) : Fun Tryz.prog μ 28 [.v (.slice (some ⟨b,o,none⟩) m c)] [] 0 (fun _ : Bool=>True) (fun b=>⟨.v (.bool b),[],0⟩):=by
 refine fE 18 Tryz.func28 fun zw zβ=>?_
 refine cF [0] ?_
 refine rS [0] ?_
 refine GC.seq ?_
 refine rS [0,7] ?_
 refine GC.cond rfl (fun h7=>?_) (fun h7=>?_)
 ·have h7 : (m : Int) > 2147483647:=by simpa using h7
  omega
 ·have h7 : ¬ ((m : Int) > 2147483647):=by simpa using h7
  refine GC.skip (GK.code (GC.seq ?_))
  refine rS [8,9,10] ?_
  refine GC.block ?_
  refine GC.loopE (ι:=(Nat)) (fun zi=>(fun i=>i ≤ m) zi) (fun zi=>(fun i=>(m - i : Nat)) zi) (fun zi=>(L28 b o m c) zi) ((0)) [] (show (fun i=>i ≤ m) (0) from ?_) (Ent.R rfl rfl rfl rfl) ?_
  ·exact Nat.zero_le _
  rintro i hI
  change (fun i=>i ≤ m) i at hI
  try dsimp only at hI
  have hi:=hI
  change GC _ _ _ ((L28 b o m c) i)
  have hi : i ≤ m:=hi
  unfold L28
  refine cF [8,9,10] ?_
  refine rS [8,9,10,11] ?_
  refine GC.seq ?_
  refine GC.cond rfl (fun hlt=>?_) (fun hlt=>?_)
  ·have hlt : (i : Int) < m:=by simpa using hlt
   obtain ⟨cp,fr,sz,ta,tn,tc,wd,hst⟩:=hs i (by omega)
   refine GC.skip (GK.code (GC.seq (GC.block (GL.seqR ?_))))
   refine lK 1 [8,9,10,12] ?_
   refine GL.op rfl (OpW.lstep (LStep.muA (vs:=[.bool cp,.int .i64 fr,.int .i64 sz,.slice ta tn tc,.int .i64 wd]) rfl rfl rfl rfl rfl (fun q v hq=>by show muAt μ b (o + (i : Int).toNat * 5 + q) = some v; rw [Int.toNat_natCast]; exact hst.h q v hq)) rfl (gF [8,9,10,13] rfl ?_))
   refine lF [4,8,9,10] (GK.code ?_)
   refine GL.seqR ?_
   refine lK 1 [8,9,10,14] ?_
   refine GL.op rfl (cR rfl (f51 _ cp fr sz ta tn tc wd) [] rfl rfl rfl rfl fun r _=>?_)
   rcases r with _ | _
   ·refine gF [8,9,10,15] rfl ?_
    refine lF [8,9,10,16] (GK.code ?_)
    refine GC.condT rfl ?_
    refine rS [2] ?_
    refine GC.ret ?_
    refine fR (.inl rfl) rfl (by trivial) false [] rfl rfl rfl rfl (trivial)
   ·refine gF [8,9,10,15] rfl ?_
    refine lF [8,9,10,16] (GK.code ?_)
    refine GC.condF rfl (GC.skip (GK.code ?_))
    refine rG [8,9,10] ?_
    refine GK.back (i + 1) [] (show (fun i=>i ≤ m) (i + 1) from ?_) ?_ (Ent.R rfl rfl rfl rfl)
    ·show i + 1 ≤ m; omega
    ·show m - (i + 1) < m - i; omega
  ·have hlt : ¬ ((i : Int) < m):=by simpa using hlt
   refine GC.exit ?_
   refine GK.code ?_
   refine rS [2] ?_
   refine GC.ret ?_
   refine fR (.inl rfl) rfl (by trivial) true [] rfl rfl rfl rfl (trivial)
theorem f10 (μ) (kd bs : Int) (a sa : Option Addr) (n c sn sc : Nat) (hs : Stps μ sa sn sc) : Fun Tryz.prog μ 10 [.agg [.v (.int .i64 kd),.v (.slice a n c),.v (.int .i64 bs),.v (.slice sa sn sc)]] [] 0 (fun _ : Bool=>True) (fun b=>⟨.v (.bool b),[],0⟩):=by
 obtain ⟨hs,hsl⟩:=hs
 rcases hs with ⟨_,rfl,rfl⟩ | ⟨sb,so,cp,fr,sz,ta,tn,tc,wd,rfl,hsc,hst⟩
 ·skip
  refine fE 11 Tryz.func10 fun zw zβ=>?_
  refine cF [0] ?_
  refine rS [1] ?_
  refine GC.seq ?_
  refine rS [1,6] ?_
  refine GC.cond rfl (fun h7=>?_) (fun h7=>?_)
  ·have h7 : (n : Int) > 2147483647:=by simpa using h7
   refine rS [2] ?_
   refine GC.ret ?_
   refine fR (.inl rfl) rfl (by trivial) false [] rfl rfl rfl rfl (trivial)
  ·have h7 : ¬ ((n : Int) > 2147483647):=by simpa using h7
   refine GC.skip (GK.code (GC.seq (GL.seqR ?_)))
   refine lK 2 [8] ?_
   refine GL.op rfl (cR rfl (f28n _ _) [] rfl rfl rfl rfl fun r _=>?_)
   rcases r with _ | _
   ·refine gF [9] rfl ?_
    refine lF [10] (GK.code ?_)
    refine GC.condT rfl ?_
    refine rS [2] ?_
    refine GC.ret ?_
    refine fR (.inl rfl) rfl (by trivial) false [] rfl rfl rfl rfl (trivial)
   ·refine gF [9] rfl ?_
    refine lF [10] (GK.code ?_)
    refine GC.condF rfl (GC.skip (GK.code ?_))
    refine rS [2] ?_
    refine GC.ret ?_
    refine fR (.inl rfl) rfl (by trivial) true [] rfl rfl rfl rfl (trivial)
 ·skip
  refine fE 11 Tryz.func10 fun zw zβ=>?_
  refine cF [0] ?_
  refine rS [1] ?_
  refine GC.seq ?_
  refine rS [1,6] ?_
  refine GC.cond rfl (fun h7=>?_) (fun h7=>?_)
  ·have h7 : (n : Int) > 2147483647:=by simpa using h7
   refine rS [2] ?_
   refine GC.ret ?_
   refine fR (.inl rfl) rfl (by trivial) false [] rfl rfl rfl rfl (trivial)
  ·have h7 : ¬ ((n : Int) > 2147483647):=by simpa using h7
   refine GC.skip (GK.code (GC.seq (GL.seqR ?_)))
   refine lK 2 [8] ?_
   refine GL.op rfl (cR rfl (f28m _ sb so sn sc hsl (fun j hj=>⟨_,_,_,_,_,_,_,hst j hj⟩)) [] rfl rfl rfl rfl fun r _=>?_)
   rcases r with _ | _
   ·refine gF [9] rfl ?_
    refine lF [10] (GK.code ?_)
    refine GC.condT rfl ?_
    refine rS [2] ?_
    refine GC.ret ?_
    refine fR (.inl rfl) rfl (by trivial) false [] rfl rfl rfl rfl (trivial)
   ·refine gF [9] rfl ?_
    refine lF [10] (GK.code ?_)
    refine GC.condF rfl (GC.skip (GK.code ?_))
    refine rS [2] ?_
    refine GC.ret ?_
    refine fR (.inl rfl) rfl (by trivial) true [] rfl rfl rfl rfl (trivial)
theorem f4n (μ) : Fun Tryz.prog μ 4 [.v (.slice none 0 0)] [] 0 (fun _ : Bool=>True) (fun b=>⟨.v (.bool b),[],0⟩):=by
 refine fE 18 Tryz.func4 fun zw zβ=>?_
 refine cF [0] ?_
 refine rS [0] ?_
 refine GC.seq ?_
 refine rS [0,7] ?_
 refine GC.condF rfl (GC.skip (GK.code (GC.seq ?_)))
 refine rS [8,9,10] ?_
 refine GC.block ?_
 refine GC.loop0 ?_
 refine rS [8,9,10,11] ?_
 refine GC.seq (GC.condF rfl ?_)
 refine GC.exit ?_
 refine GK.code ?_
 refine rS [2] ?_
 refine GC.ret ?_
 refine fR (.inl rfl) rfl (by trivial) true [] rfl rfl rfl rfl (trivial)
def L4 (b o m cp i : Nat) : S:=⟨[(8,.v (.slice (some ⟨b,o,none⟩) m cp)),(9,.v (.int .i64 m)),(10,.v (.int .i64 i))],[],0,[]⟩
theorem f4m (μ) (b o m cp : Nat) (kd : Nat → Int) (a : Nat → Option Addr) (n c : Nat → Nat) (bs : Nat → Int) (sa : Nat → Option Addr) (sn sc : Nat → Nat) (hE : Ents μ b o m kd a n c bs sa sn sc) : Fun Tryz.prog μ 4 [.v (.slice (some ⟨b,o,none⟩) m cp)] [] 0 (fun _ : Bool=>True) (fun b=>⟨.v (.bool b),[],0⟩):=by
 have hml:=hE.l
 refine fE 18 Tryz.func4 fun zw zβ=>?_
 refine cF [0] ?_
 refine rS [0] ?_
 refine GC.seq ?_
 refine rS [0,7] ?_
 refine GC.cond rfl (fun h7=>?_) (fun h7=>?_)
 ·have h7 : (m : Int) > 2147483647:=by simpa using h7
  omega
 ·have h7 : ¬ ((m : Int) > 2147483647):=by simpa using h7
  refine GC.skip (GK.code (GC.seq ?_))
  refine rS [8,9,10] ?_
  refine GC.block ?_
  refine GC.loopE (ι:=(Nat)) (fun zi=>(fun i=>i ≤ m) zi) (fun zi=>(fun i=>(m - i : Nat)) zi) (fun zi=>(L4 b o m cp) zi) ((0)) [] (show (fun i=>i ≤ m) (0) from ?_) (Ent.R rfl rfl rfl rfl) ?_
  ·exact Nat.zero_le _
  rintro i hI
  change (fun i=>i ≤ m) i at hI
  try dsimp only at hI
  have hi:=hI
  change GC _ _ _ ((L4 b o m cp) i)
  have hi : i ≤ m:=hi
  unfold L4
  refine cF [8,9,10] ?_
  refine rS [8,9,10,11] ?_
  refine GC.seq ?_
  refine GC.cond rfl (fun hlt=>?_) (fun hlt=>?_)
  ·have hlt : (i : Int) < m:=by simpa using hlt
   have he:=hE.h i (by omega)
   refine GC.skip (GK.code (GC.seq (GC.block (GL.seqR ?_))))
   refine lK 1 [8,9,10,12] ?_
   refine GL.op rfl (OpW.lstep (LStep.muA (vs:=[.int .i64 (kd i),.slice (a i) (n i) (c i),.int .i64 (bs i),.slice (sa i) (sn i) (sc i)]) rfl rfl rfl rfl rfl (fun q v hq=>by show muAt μ b (o + (i : Int).toNat * 4 + q) = some v; rw [Int.toNat_natCast]; exact he.h q v hq)) rfl (gF [8,9,10,13] rfl ?_))
   refine lF [4,8,9,10] (GK.code ?_)
   refine GL.seqR ?_
   refine lK 1 [8,9,10,14] ?_
   refine GL.op rfl (cR rfl (f10 _ (kd i) (bs i) (a i) (sa i) (n i) (c i) (sn i) (sc i) he.s) [] rfl rfl rfl rfl fun r _=>?_)
   rcases r with _ | _
   ·refine gF [8,9,10,15] rfl ?_
    refine lF [8,9,10,16] (GK.code ?_)
    refine GC.condT rfl ?_
    refine rS [2] ?_
    refine GC.ret ?_
    refine fR (.inl rfl) rfl (by trivial) false [] rfl rfl rfl rfl (trivial)
   ·refine gF [8,9,10,15] rfl ?_
    refine lF [8,9,10,16] (GK.code ?_)
    refine GC.condF rfl (GC.skip (GK.code ?_))
    refine rG [8,9,10] ?_
    refine GK.back (i + 1) [] (show (fun i=>i ≤ m) (i + 1) from ?_) ?_ (Ent.R rfl rfl rfl rfl)
    ·show i + 1 ≤ m; omega
    ·show m - (i + 1) < m - i; omega
  ·have hlt : ¬ ((i : Int) < m):=by simpa using hlt
   refine GC.exit ?_
   refine GK.code ?_
   refine rS [2] ?_
   refine GC.ret ?_
   refine fR (.inl rfl) rfl (by trivial) true [] rfl rfl rfl rfl (trivial)
def Gs (cp : Bool) (fr sz : Int) (tn n : Nat) : Prop:=(cp = false → 1 ≤ tn ∧ tn ≤ 127) ∧ (cp = true → 0 ≤ fr ∧ 1 ≤ sz ∧ sz < 16777216 ∧ fr + sz ≤ n)
theorem f52 (μ) (cp : Bool) (fr sz : Int) (ta : Option Addr) (tn tc : Nat) (wd : Int) (a : Option Addr) (n c : Nat) (hn : n ≤ 1099511627776) : Fun Tryz.prog μ 52 [.agg [.v (.bool cp),.v (.int .i64 fr),.v (.int .i64 sz),.v (.slice ta tn tc),.v (.int .i64 wd)],.v (.slice a n c)] [] 0 (fun b : Bool=>b = true → Gs cp fr sz tn n) (fun b=>⟨.v (.bool b),[],0⟩):=by
 refine fE 48 Tryz.func52 fun zw zβ=>?_
 refine cF [0,1,13,14,15,16,22,23,24,27,28,29,32,33,34,35,36,39,40,41,42,43,44,45,46] ?_
 refine rS [1,2,13,14,15,16,22,23,24,27,28,29,32,33,34,35,36,39,40,41,42,43,44,45,46] ?_
 rcases cp with _ | _
 ·refine GC.seq ?_
  refine rS [1,2,7,13,14,15,16,22,23,24,27,28,29,32,33,34,35,36,39,40,41,42,43,44,45,46] ?_
  refine GC.condT rfl (GL.seqR ?_)
  refine lK 5 [2,12,13,14,15,16] ?_
  refine GL.spl 12 rfl rfl rfl (fun h1=>?_) (fun h1=>?_)
  ·have h1 : 1 ≤ (tn : Int):=by simpa using h1
   refine lF [4] (GK.code ?_)
   refine GC.ret ?_
   refine fR (.inl rfl) rfl (by trivial) (decide ((tn : Int) ≤ 127)) [] rfl rfl rfl rfl (fun h=>⟨fun _=>⟨by omega,by have:=of_decide_eq_true h; omega⟩,fun e=>(by cases e)⟩)
  ·have h1 : ¬ (1 ≤ (tn : Int)):=by simpa using h1
   refine lF [4] (GK.code ?_)
   refine GC.ret ?_
   refine fR (.inl rfl) rfl (by trivial) false [] rfl rfl rfl rfl (fun h=>(by cases h))
 ·refine GC.seq ?_
  refine rS [1,2,7,13,14,15,16,22,23,24,27,28,29,32,33,34,35,36,39,40,41,42,43,44,45,46] ?_
  refine GC.condF rfl (GC.skip (GK.code (GL.seqR ?_)))
  refine lK 4 [1,2,21,22,23,24,27,28,29,32,33,34,35,36,39,40,41,42,43,44,45,46] ?_
  refine GL.spl 21 rfl rfl rfl (fun h1=>?_) (fun h1=>?_)
  ·have h1 : 0 ≤ fr:=by simpa using h1
   refine lK 5 [1,2,26,27,28,29,32,33,34,35,36,39,40,41,42,43,44,45,46] ?_
   refine GL.spl 26 rfl rfl rfl (fun h2=>?_) (fun h2=>?_)
   ·have h2 : 1 ≤ sz:=by simpa using h2
    refine lK 5 [1,2,31,32,33,34,35,36,39,40,41,42,43,44,45,46] ?_
    refine GL.spl 31 rfl rfl rfl (fun h3=>?_) (fun h3=>?_)
    ·have h3 : sz < 16777216:=by simpa using h3
     refine lK 7 [1,2,38,39,40,41,42,43,44,45,46] ?_
     refine GL.spl 38 rfl rfl rfl (fun h4=>?_) (fun h4=>?_)
     ·have h4 : fr < (n : Int):=by simpa using h4
      refine lF [4] (GK.code ?_)
      refine GC.ret ?_
      refine fR (.inl rfl) rfl (by trivial) (decide (sz ≤ (n : Int) - fr)) [] rfl rfl rfl rfl (fun h=>⟨fun e=>(by cases e),fun _=>⟨h1,h2,h3,by have:=of_decide_eq_true h; omega⟩⟩)
     ·have h4 : ¬ (fr < (n : Int)):=by simpa using h4
      refine lF [4] (GK.code ?_)
      refine GC.ret ?_
      refine fR (.inl rfl) rfl (by trivial) false [] rfl rfl rfl rfl (fun h=>(by cases h))
    ·have h3 : ¬ (sz < 16777216):=by simpa using h3
     refine lK 7 [1,2,38,39,40,41,42,43,44,45,46] ?_
     refine GL.spl 38 rfl rfl rfl (fun h4=>?_) (fun h4=>?_)
     ·cases h4
     ·refine lF [4] (GK.code ?_)
      refine GC.ret ?_
      refine fR (.inl rfl) rfl (by trivial) false [] rfl rfl rfl rfl (fun h=>(by cases h))
   ·have h2 : ¬ (1 ≤ sz):=by simpa using h2
    refine lK 5 [1,2,31,32,33,34,35,36,39,40,41,42,43,44,45,46] ?_
    refine GL.spl 31 rfl rfl rfl (fun h3=>?_) (fun h3=>?_)
    ·cases h3
    ·refine lK 7 [1,2,38,39,40,41,42,43,44,45,46] ?_
     refine GL.spl 38 rfl rfl rfl (fun h4=>?_) (fun h4=>?_)
     ·cases h4
     ·refine lF [4] (GK.code ?_)
      refine GC.ret ?_
      refine fR (.inl rfl) rfl (by trivial) false [] rfl rfl rfl rfl (fun h=>(by cases h))
  ·have h1 : ¬ (0 ≤ fr):=by simpa using h1
   refine lK 5 [1,2,26,27,28,29,32,33,34,35,36,39,40,41,42,43,44,45,46] ?_
   refine GL.spl 26 rfl rfl rfl (fun h2=>?_) (fun h2=>?_)
   ·cases h2
   ·refine lK 5 [1,2,31,32,33,34,35,36,39,40,41,42,43,44,45,46] ?_
    refine GL.spl 31 rfl rfl rfl (fun h3=>?_) (fun h3=>?_)
    ·cases h3
    ·refine lK 7 [1,2,38,39,40,41,42,43,44,45,46] ?_
     refine GL.spl 38 rfl rfl rfl (fun h4=>?_) (fun h4=>?_)
     ·cases h4
     ·refine lF [4] (GK.code ?_)
      refine GC.ret ?_
      refine fR (.inl rfl) rfl (by trivial) false [] rfl rfl rfl rfl (fun h=>(by cases h))
theorem src_kn {X : Ctx} {s : S} {y : Operand} {z b off m cap : Nat} {F : Nat → Option Obj} {N : Nat → Int} (hy : ev s.ρ y = .v (.slice (some ⟨b,off,none⟩) m cap)) (hz : gk s.σ z = some (.fz F)) (hk : ∀ j,j < m → muAt X.M.μ b (off + j) = some (.int .u8 (N j)) ∨ fzAt F b (off + j) = some (.int .u8 (N j))) :
  ∀ β w a,Inv X s β w a → Src X 1 m (fun j=>.v (.int .u8 (N j))) β w (a.eval y) :=
 src_cell (N:=fun j=>.int .u8 (N j)) hy fun β w a hi j hj=>by
  refine ⟨?_,rfl⟩
  rcases hk j (by omega) with h | h
  ·exact muAt_cell hi.mem h
  ·exact fz_cell hi hz h
theorem nF_or {A : Prop} {b i : Nat} {v : Value} (h : A ∨ fzAt nF b i = some v) : A:=h.elim id (fun h=>by simp [fzAt,nF] at h)
theorem f29n (μ) (z a : Option Addr) (n c : Nat) : Fun Tryz.prog μ 29 [.v (.slice z 0 0),.v (.slice a n c)] [] 0 (fun b : Bool=>b = false) (fun b=>⟨.v (.bool b),[],0⟩):=by
 refine fE 31 Tryz.func29 fun zw zβ=>?_
 refine cF [0,1,22,23,24,27,28,29] ?_
 refine rS [0,1,22,23,24,27,28,29] ?_
 refine GC.seq ?_
 refine rS [0,1,7,8,9,22,23,24,27,28,29] ?_
 refine GC.block ?_
 refine GC.loop0 ?_
 refine rS [0,1,7,8,9,10,22,23,24,27,28,29] ?_
 refine GC.seq (GC.condF rfl ?_)
 refine GC.exit ?_
 refine GK.code (GL.seqR ?_)
 refine lK 4 [0,1,21,22,23,24,27,28,29] ?_
 refine GL.spl 21 rfl rfl rfl (fun h1=>?_) (fun h1=>?_)
 ·have h1 : ((0 : Nat) : Int) > 0:=by simpa using h1
  omega
 ·have h1 : ¬ (((0 : Nat) : Int) > 0):=by simpa using h1
  refine lK 5 [1,26,27,28,29] ?_
  refine GL.spl 26 rfl rfl rfl (fun h2=>?_) (fun h2=>?_)
  ·cases h2
  ·refine lF [4] (GK.code ?_)
   refine GC.ret ?_
   refine fR (.inl rfl) rfl (by trivial) false [] rfl rfl rfl rfl (rfl)
def L29 (b o m c : Nat) (a : Option Addr) (n cc i : Nat) : S:=⟨[(0,.v (.slice (some ⟨b,o,none⟩) m c)),(1,.v (.slice a n cc)),(7,.v (.slice (some ⟨b,o,none⟩) m c)),(8,.v (.int .i64 m)),(9,.v (.int .i64 i))],[],0,[]⟩
theorem f29m (μ) (b o m c : Nat) (hm : m ≤ 1048576) (cp : Nat → Bool) (fr sz : Nat → Int) (ta : Nat → Option Addr) (tn tc : Nat → Nat) (wd : Nat → Int) (hst : ∀ j,j < m → StpAt μ b (o + j * 5) (cp j) (fr j) (sz j) (ta j) (tn j) (tc j) (wd j)) (a : Option Addr) (n cc : Nat) (hn : n ≤ 1048576) : Fun Tryz.prog μ 29 [.v (.slice (some ⟨b,o,none⟩) m c),.v (.slice a n cc)] [] 0 (fun b : Bool=>b = true → 1 ≤ m ∧ m ≤ 500 ∧ n ≤ 1000000 ∧ ∀ j,j < m → Gs (cp j) (fr j) (sz j) (tn j) n) (fun b=>⟨.v (.bool b),[],0⟩):=by
 refine fE 31 Tryz.func29 fun zw zβ=>?_
 refine cF [0,1,22,23,24,27,28,29] ?_
 refine rS [0,1,22,23,24,27,28,29] ?_
 refine GC.seq ?_
 refine rS [0,1,7,8,9,22,23,24,27,28,29] ?_
 refine GC.block ?_
 refine GC.loopE (ι:=(Nat)) (fun zi=>(fun i=>i ≤ m ∧ ∀ j,j < i → Gs (cp j) (fr j) (sz j) (tn j) n) zi) (fun zi=>(fun i=>(m - i : Nat)) zi) (fun zi=>(L29 b o m c a n cc) zi) ((0)) [] (show (fun i=>i ≤ m ∧ ∀ j,j < i → Gs (cp j) (fr j) (sz j) (tn j) n) (0) from ?_) (Ent.R rfl rfl rfl rfl) ?_
 ·exact ⟨Nat.zero_le _,fun j hj=>absurd hj (Nat.not_lt_zero _)⟩
 rintro i hI
 change (fun i=>i ≤ m ∧ ∀ j,j < i → Gs (cp j) (fr j) (sz j) (tn j) n) i at hI
 try dsimp only at hI
 have :=hI
 change GC _ _ _ ((L29 b o m c a n cc) i)
 obtain ⟨hi,hg⟩:=hI
 unfold L29
 refine cF [0,1,7,8,9,22,23,24,27,28,29] ?_
 refine rS [0,1,7,8,9,10,22,23,24,27,28,29] ?_
 refine GC.seq ?_
 refine GC.cond rfl (fun hlt=>?_) (fun hlt=>?_)
 ·have hlt : (i : Int) < m:=by simpa using hlt
  have hlt' : i < m:=by omega
  refine GC.skip (GK.code (GC.seq (GC.block (GL.seqR ?_))))
  refine lK 1 [0,1,7,8,9,11,22,23,24,27,28,29] ?_
  refine GL.op rfl (OpW.lstep (LStep.muA (vs:=[.bool (cp i),.int .i64 (fr i),.int .i64 (sz i),.slice (ta i) (tn i) (tc i),.int .i64 (wd i)]) rfl rfl rfl rfl rfl (fun q v hq=>by show muAt μ b (o + (i : Int).toNat * 5 + q) = some v; rw [Int.toNat_natCast]; exact (hst i hlt').h q v hq)) rfl (gF [0,1,7,8,9,12,22,23,24,27,28,29] rfl ?_))
  refine lF [0,1,6,7,8,9,22,23,24,27,28,29] (GK.code ?_)
  refine GL.seqR ?_
  refine lK 2 [0,1,7,8,9,13,14,22,23,24,27,28,29] ?_
  refine GL.op rfl (cR rfl (f52 _ (cp i) (fr i) (sz i) (ta i) (tn i) (tc i) (wd i) a n cc (by omega)) [] rfl rfl rfl rfl fun r hr=>?_)
  rcases r with _ | _
  ·refine gF [0,1,7,8,9,15,22,23,24,27,28,29] rfl ?_
   refine lF [0,1,7,8,9,16,22,23,24,27,28,29] (GK.code ?_)
   refine GC.condT rfl ?_
   refine rS [4] ?_
   refine GC.ret ?_
   refine fR (.inl rfl) rfl (by trivial) false [] rfl rfl rfl rfl (fun h=>(by cases h))
  ·refine gF [0,1,7,8,9,15,22,23,24,27,28,29] rfl ?_
   refine lF [0,1,7,8,9,16,22,23,24,27,28,29] (GK.code ?_)
   refine GC.condF rfl (GC.skip (GK.code ?_))
   refine rG [0,1,7,8,9,22,23,24,27,28,29] ?_
   refine GK.back (i + 1) [] (show (fun i=>i ≤ m ∧ ∀ j,j < i → Gs (cp j) (fr j) (sz j) (tn j) n) (i + 1) from ?_) ?_ (Ent.R rfl rfl rfl rfl)
   ·refine ⟨hlt',fun j hj=>?_⟩
    by_cases e : j = i
    ·subst e; exact hr rfl
    ·exact hg j (by omega)
   ·show m - (i + 1) < m - i; omega
 ·have hlt : ¬ ((i : Int) < m):=by simpa using hlt
  obtain rfl : i = m:=by omega
  refine GC.exit ?_
  refine GK.code (GL.seqR ?_)
  refine lK 4 [0,1,21,22,23,24,27,28,29] ?_
  refine GL.spl 21 rfl rfl rfl (fun h1=>?_) (fun h1=>?_)
  ·have h1 : ((i : Nat) : Int) > 0:=by simpa using h1
   refine lK 5 [1,26,27,28,29] ?_
   refine GL.spl 26 rfl rfl rfl (fun h2=>?_) (fun h2=>?_)
   ·have h2:=of_decide_eq_true h2
    refine lF [4] (GK.code ?_)
    refine GC.ret ?_
    refine fR (.inl rfl) rfl (by trivial) (decide ((n : Int) ≤ 1000000)) [] rfl rfl rfl rfl (fun h=>⟨by omega,by omega,by have:=of_decide_eq_true h; omega,hg⟩)
   ·refine lF [4] (GK.code ?_)
    refine GC.ret ?_
    refine fR (.inl rfl) rfl (by trivial) false [] rfl rfl rfl rfl (fun h=>(by cases h))
  ·have h1 : ¬ (((i : Nat) : Int) > 0):=by simpa using h1
   refine lK 5 [1,26,27,28,29] ?_
   refine GL.spl 26 rfl rfl rfl (fun h2=>?_) (fun h2=>?_)
   ·cases h2
   ·refine lF [4] (GK.code ?_)
    refine GC.ret ?_
    refine fR (.inl rfl) rfl (by trivial) false [] rfl rfl rfl rfl (fun h=>(by cases h))
def L30 (b o m c : Nat) (bb bo n cc : Nat) (F : Nat → Option Obj) (i l cap : Nat) (G : Nat → Int) : S:=⟨[(0,.v (.slice (some ⟨bb,bo,none⟩) n cc)),(5,.slc 1 0 l cap),(8,.v (.slice (some ⟨b,o,none⟩) m c)),(9,.v (.int .i64 m)),(10,.v (.int .i64 i))],[(0,.fz F),(1,.row ⟨.ints .u8 G,cap,5⟩)],2,[]⟩
theorem offS_ne {cap l o sz : Nat} (h : l < cap) : offS cap l o sz = o + l * sz:=by
 unfold offS
 rw [beqF (by omega : ¬ cap = l)]; rfl
theorem f30 (μ) (F : Nat → Option Obj) (b o m c : Nat) (hm : m ≤ 500) (cp : Nat → Bool) (fr sz : Nat → Int) (ta : Nat → Option Addr) (tn tc : Nat → Nat) (wd : Nat → Int) (hst : ∀ j,j < m → StpAt μ b (o + j * 5) (cp j) (fr j) (sz j) (ta j) (tn j) (tc j) (wd j)) (bb bo n cc : Nat) (hn : n ≤ 1048576) (hcc : n ≤ cc) (TB : Nat → Int) (hk : ∀ j,j < n → muAt μ bb (bo + j) = some (.int .u8 (TB j)) ∨ fzAt F bb (bo + j) = some (.int .u8 (TB j))) (hr : ∀ j,j < n → 0 ≤ TB j ∧ TB j < 256) (hg : ∀ j,j < m → Gs (cp j) (fr j) (sz j) (tn j) n) :
  Fun Tryz.prog μ 30 [.v (.slice (some ⟨bb,bo,none⟩) n cc),.v (.slice (some ⟨b,o,none⟩) m c)] [(0,.fz F)] 1 (fun x : Nat × Nat × (Nat → Int)=>x.1 ≤ x.2.1 ∧ m ≤ x.1 ∧ x.1 ≤ 10000000000 ∧ ∀ j,j < x.1 → 0 ≤ x.2.2 j ∧ x.2.2 j < 256) (fun x=>⟨.slc 1 0 x.1 x.2.1,[(0,.fz F),(1,.row ⟨.ints .u8 x.2.2,x.2.1,5⟩)],2⟩):=by
 refine fE 33 Tryz.func30 fun zw zβ=>?_
 refine cF [0,1] ?_
 refine rS [0,1] ?_
 refine rS [0,1,5] ?_
 refine GC.nilg 5 (.ints .u8 fun _=>0) 5 rfl ?_
 refine GC.seq ?_
 refine rS [0,5,8,9,10] ?_
 refine GC.block ?_
 refine GC.loopE (ι:=(Nat) × (Nat) × (Nat) × (Nat → Int)) (fun zi=>(fun (i l cap : Nat) (G : Nat → Int)=>i ≤ m ∧ l ≤ cap ∧ i ≤ l ∧ l ≤ i * 16777216 ∧ ∀ j,j < l → 0 ≤ G j ∧ G j < 256) zi.1 zi.2.1 zi.2.2.1 zi.2.2.2) (fun zi=>(fun i l cap G=>(m - i : Nat)) zi.1 zi.2.1 zi.2.2.1 zi.2.2.2) (fun zi=>(L30 b o m c bb bo n cc F) zi.1 zi.2.1 zi.2.2.1 zi.2.2.2) ((0,0,0,fun _=>0)) [0,1] (show (fun (i l cap : Nat) (G : Nat → Int)=>i ≤ m ∧ l ≤ cap ∧ i ≤ l ∧ l ≤ i * 16777216 ∧ ∀ j,j < l → 0 ≤ G j ∧ G j < 256) (0) (0) (0) (fun _=>0) from ?_) (Ent.R rfl rfl rfl rfl) ?_
 ·exact ⟨Nat.zero_le _,Nat.zero_le _,Nat.zero_le _,Nat.zero_le _,fun j hj=>absurd hj (Nat.not_lt_zero _)⟩
 rintro ⟨i,l,cap,G⟩ hI
 change (fun (i l cap : Nat) (G : Nat → Int)=>i ≤ m ∧ l ≤ cap ∧ i ≤ l ∧ l ≤ i * 16777216 ∧ ∀ j,j < l → 0 ≤ G j ∧ G j < 256) i l cap G at hI
 try dsimp only at hI
 change GC _ _ _ ((L30 b o m c bb bo n cc F) i l cap G)
 obtain ⟨hi,hl1,hl0,hl2,hG⟩:=hI
 unfold L30
 refine cF [0,5,8,9,10] ?_
 refine rS [0,5,8,9,10,11] ?_
 refine GC.seq ?_
 refine GC.cond rfl (fun hlt=>?_) (fun hlt=>?_)
 ·have hlt : (i : Int) < m:=by simpa using hlt
  have hlt' : i < m:=by omega
  have hgi:=hg i hlt'
  refine GC.skip (GK.code (GC.seq (GC.block (GL.seqR ?_))))
  refine lK 1 [0,5,8,9,10,12] ?_
  refine GL.op rfl (OpW.lstep (LStep.muA (vs:=[.bool (cp i),.int .i64 (fr i),.int .i64 (sz i),.slice (ta i) (tn i) (tc i),.int .i64 (wd i)]) rfl rfl rfl rfl rfl (fun q v hq=>by show muAt μ b (o + (i : Int).toNat * 5 + q) = some v; rw [Int.toNat_natCast]; exact (hst i hlt').h q v hq)) rfl (gF [0,5,8,9,10,13] rfl ?_))
  refine lF [0,5,7,8,9,10] (GK.code ?_)
  rcases hcp : cp i with _ | _
  ·refine rS [0,5,7,8,9,10,15] ?_
   refine GC.condF rfl ?_
   have hg1:=hgi.1 hcp
   obtain ⟨T,hT⟩:=(hst i hlt').k
   rcases hT.h with ⟨_,e,_⟩ | ⟨tb,to,ea,hnc,hT1⟩
   ·omega
   rw [ea]
   refine GC.region ?_
   refine lK 3 [0,8,9,10,27,29] ?_
   refine GL.op rfl (OpW.appendI (m:=tn i) (N:=T) rfl rfl rfl rfl rfl rfl rfl rfl rfl rfl (Nat.le_of_ble_eq_true rfl) (hl1) (src_kn rfl (z:=0) rfl (fun j hj=>.inl (nF_or (hT1 j hj)))) (by omega) (by show (_ + _) * 1 ≤ 140737488355328; omega) rfl ?_ rfl rfl)
   intro c' G' q1 q2 q3 q4 ρ' hp
   obtain rfl:=Option.some.inj hp; clear hp
   refine gF [0,8,9,10,30] rfl ?_
   refine lF [0,5,8,9,10] ?_
   refine GK.code ?_
   refine rG [0,5,8,9,10] ?_
   refine GK.back (i + 1,l + tn i,c',G') [0,1] (show (fun (i l cap : Nat) (G : Nat → Int)=>i ≤ m ∧ l ≤ cap ∧ i ≤ l ∧ l ≤ i * 16777216 ∧ ∀ j,j < l → 0 ≤ G j ∧ G j < 256) (i + 1) (l + tn i) (c') (G') from ?_) ?_ (Ent.R rfl rfl rfl rfl)
   ·refine ⟨hlt',q1,by omega,by omega,fun j hj=>?_⟩
    by_cases e : j < l
    ·rw [q3 j e]; exact hG j e
    ·rw [show j = l + (j - l) from by omega,q4 _ (by omega)]; exact hT.r _ (by omega)
   ·show m - (i + 1) < m - i; omega
  ·refine rS [0,5,7,8,9,10,15] ?_
   refine GC.condT rfl ?_
   have hg1:=hgi.2 hcp
   have e1 : offS cc (fr i).toNat bo 1 = bo + (fr i).toNat:=by rw [offS_ne (by omega),Nat.mul_one]
   refine GC.region ?_
   refine lK 10 [0,8,9,10,16,25] ?_
   refine GL.op rfl (OpW.appendI (m:=(fr i + sz i).toNat - (fr i).toNat) (N:=fun j=>TB ((fr i).toNat + j)) rfl rfl rfl rfl rfl rfl rfl rfl rfl rfl (Nat.le_of_ble_eq_true rfl) (hl1) (src_kn rfl (z:=0) rfl (fun j hj=>by have:=hk ((fr i).toNat + j) (by omega); rw [e1,Nat.add_assoc]; exact this)) (by omega) (by show (_ + _) * 1 ≤ 140737488355328; omega) rfl ?_ rfl rfl)
   intro c' G' q1 q2 q3 q4 ρ' hp
   obtain rfl:=Option.some.inj hp; clear hp
   refine gF [0,8,9,10,26] rfl ?_
   refine lF [0,5,8,9,10] ?_
   refine GK.code ?_
   refine rG [0,5,8,9,10] ?_
   refine GK.back (i + 1,l + ((fr i + sz i).toNat - (fr i).toNat),c',G') [0,1] (show (fun (i l cap : Nat) (G : Nat → Int)=>i ≤ m ∧ l ≤ cap ∧ i ≤ l ∧ l ≤ i * 16777216 ∧ ∀ j,j < l → 0 ≤ G j ∧ G j < 256) (i + 1) (l + ((fr i + sz i).toNat - (fr i).toNat)) (c') (G') from ?_) ?_ (Ent.R rfl rfl rfl rfl)
   ·refine ⟨hlt',q1,by omega,by omega,fun j hj=>?_⟩
    by_cases e : j < l
    ·rw [q3 j e]; exact hG j e
    ·rw [show j = l + (j - l) from by omega,q4 _ (by omega)]; exact hr _ (by omega)
   ·show m - (i + 1) < m - i; omega
 ·have hlt : ¬ ((i : Int) < m):=by simpa using hlt
  refine GC.exit ?_
  refine GK.code ?_
  refine rS [4] ?_
  refine GC.ret ?_
  refine fR (.inl rfl) rfl (by trivial) ((l,cap,G)) [0,1] rfl rfl rfl rfl (⟨hl1,by dsimp only; omega,by dsimp only; omega,hG⟩)
end Go.Proofs.YtebadfmnmhmfeaaGreatDoor.T
