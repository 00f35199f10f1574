/- What the functions of the program do, one contract each (P23, P24, P25, P26, P27, P28, P29, P30); each states its own conditions. -/
import Derived.Test.YtebadfmnmhmfeaaGreatDoorP7
namespace Go.Proofs.YtebadfmnmhmfeaaGreatDoor.T
open Go.Proofs.YtebadfmnmhmfeaaGreatDoor.Sx Go.RowKit
set_option maxRecDepth 20000
set_option linter.unusedSimpArgs false
set_option linter.unusedVariables false
set_option linter.unnecessarySimpa false
set_option linter.unusedSectionVars false
def zl0 : Row:=zlR (.ifc 107 (.ptr 0 0)) (.ifc 403 (.ptr 13 0)) (.ifc 405 (.ptr 17 0)) (.v .nilIface) (.v (.int .u8 120)) (.v (.int .u8 1)) (.v (.int .u8 0)) (.v (.int .u8 0))
theorem f186 (μ) (B S : Nat → Int) (rn N cap p ps : Nat) (s : RdI) (t : WI) (d : Dat B rn N cap) (h : Sr B S N p ps s t) (hp : p + 2 ≤ N) (h0 : B p = 120) (h1 : B (p + 1) = 1) : FunC Tryz.prog μ 186 [.ifc 107 (.ptr 0 0),.v (.slice none 0 0)] (srG B rn N cap 11 p s t) 11 12
  (fun x : RdI × WI=>Sr B S N (p + 2) (ps + 2) x.1 x.2)
  (fun x=>⟨.tup [.ifc 370 (.ptr 12 0),.v .nilIface],srG B rn N cap 11 ((p + 2 : Nat) : Int) x.1 x.2 ++ [(12,.row zl0)] ++ zdG (fun _=>0) 1 dc0,18⟩):=by
 dsimp only [srG,List.cons_append,List.nil_append]
 refine fE 18 Tryz.func186 fun zw zβ=>?_
 refine cF [0,1] ?_
 refine rS [0,1] ?_
 refine rS [0,1,6] ?_
 refine GL.seqR ?_
 refine lK 3 [6,9,10,11] ?_
 refine GL.op rfl (cR rfl (f193 _ B S rn N cap p ps s t d h hp h0 h1) [0,1,2,3,4,5,6,7,8,9,10,12,11] rfl rfl rfl rfl fun x hx=>?_)
 refine gF [6,12] rfl ?_
 refine lF [6,7] (GK.code ?_)
 refine GC.seq ?_
 refine rS [6,7,14] ?_
 refine GC.condF rfl (GC.skip (GK.code ?_))
 refine rS [4,5] ?_
 refine GC.ret ?_
 refine fR (.inl rfl) rfl (by trivial) x [0,1,2,3,4,5,6,7,8,9,10,11,12,13,14,15,16,17] rfl rfl rfl rfl (hx)
theorem f165 (μ) (B S : Nat → Int) (rn N cap p ps : Nat) (s : RdI) (t : WI) (d : Dat B rn N cap) (h : Sr B S N p ps s t) (hp : p + 2 ≤ N) (h0 : B p = 120) (h1 : B (p + 1) = 1) : FunC Tryz.prog μ 165 [.ifc 107 (.ptr 0 0)] (srG B rn N cap 11 p s t) 11 12
  (fun x : RdI × WI=>Sr B S N (p + 2) (ps + 2) x.1 x.2)
  (fun x=>⟨.tup [.ifc 370 (.ptr 12 0),.v .nilIface],srG B rn N cap 11 ((p + 2 : Nat) : Int) x.1 x.2 ++ [(12,.row zl0)] ++ zdG (fun _=>0) 1 dc0,18⟩):=by
 dsimp only [srG,List.cons_append,List.nil_append]
 refine fE 8 Tryz.func165 fun zw zβ=>?_
 refine cF [0] ?_
 refine rS [0] ?_
 refine GL.seqR ?_
 refine lK 1 [4] ?_
 refine GL.op rfl (cR rfl (f186 _ B S rn N cap p ps s t d h hp h0 h1) [0,1,2,3,4,5,6,7,8,9,10,11] rfl rfl rfl rfl fun x hx=>?_)
 refine gF [5] rfl ?_
 refine lF [2,3] (GK.code ?_)
 refine GC.ret ?_
 refine fR (.inl rfl) rfl (by trivial) x [0,1,2,3,4,5,6,7,8,9,10,11,12,13,14,15,16,17] rfl rfl rfl rfl (hx)
theorem f143 (μ) (B S : Nat → Int) (rn N cap p ps : Nat) (s : RdI) (t : WI) (d : Dat B rn N cap) (h : Sr B S N p ps s t) (hp : p + 2 ≤ N) (h0 : B p = 120) (h1 : B (p + 1) = 1) : FunC Tryz.prog μ 143 [.ifc 107 (.ptr 0 0)] (srG B rn N cap 11 p s t) 11 12
  (fun x : RdI × WI=>Sr B S N (p + 2) (ps + 2) x.1 x.2)
  (fun x=>⟨.tup [.agg [.ifc 370 (.ptr 12 0)],.v .nilIface],srG B rn N cap 11 ((p + 2 : Nat) : Int) x.1 x.2 ++ [(12,.row zl0)] ++ zdG (fun _=>0) 1 dc0,18⟩):=by
 dsimp only [srG,List.cons_append,List.nil_append]
 refine fE 14 Tryz.func143 fun zw zβ=>?_
 refine cF [0] ?_
 refine rS [0,2] ?_
 refine GL.seqR ?_
 refine lK 1 [2,7] ?_
 refine GL.op rfl (cR rfl (f165 _ B S rn N cap p ps s t d h hp h0 h1) [0,1,2,3,4,5,6,7,8,9,10,11] rfl rfl rfl rfl fun x hx=>?_)
 refine gF [2,8] rfl ?_
 refine lF [2,4,5] (GK.code ?_)
 refine rS [2,3] ?_
 refine GC.ret ?_
 refine fR (.inl rfl) rfl (by trivial) x [0,1,2,3,4,5,6,7,8,9,10,11,13,14,15,16,17,18] rfl rfl rfl rfl (hx)
def dcS (b nb wr rd : Int) (full : Bool) (b0 b1 b2 b3 : Int) (step : Nat) (st : Int) (fin : Bool) (err tr : SV) (cl ro : Int) : Row:=dcR (.ifc 107 (.ptr 0 0)) (.v (.int .u32 b)) (.v (.int .u64 nb)) (.ptr 12 0) (.ptr 13 0) (.slc 14 0 32768 32768) (.v (.int .i64 wr)) (.v (.int .i64 rd)) (.v (.bool full)) (.v (.int .u8 b0)) (.v (.int .u8 b1)) (.v (.int .u8 b2)) (.v (.int .u8 b3)) (.v (.func (.func step) #[] #[])) (.v (.int .i64 st)) (.v (.bool fin)) err tr (.v (.int .i64 cl)) (.v (.int .i64 ro))
def dcG (B : Nat → Int) (rn N cap : Nat) (off : Int) (s : RdI) (t : WI) (H : Nat → Int) (D : Row) : GH:=srG B rn N cap 15 off s t ++ [(11,.row D),(12,.row ⟨.vals fun i=>rle (tab 401).zero i,316,401⟩),(13,.row ⟨.lst [(.v (.int .i64 0)),(.v (.int .i64 0)),(.v (.int .i64 0)),(.v (.int .i64 0)),(.v (.int .i64 0)),(.v (.int .i64 0)),(.v (.int .i64 0)),(.v (.int .i64 0)),(.v (.int .i64 0)),(.v (.int .i64 0)),(.v (.int .i64 0)),(.v (.int .i64 0)),(.v (.int .i64 0)),(.v (.int .i64 0)),(.v (.int .i64 0)),(.v (.int .i64 0)),(.v (.int .i64 0)),(.v (.int .i64 0)),(.v (.int .i64 0))],19,402⟩),(14,.row ⟨.ints .u8 H,32768,5⟩)]
def IsTr (tr : SV) : Prop:=tr = .v (.slice none 0 0) ∨ ∃ o l c,tr = .slc 14 o l c
theorem f218 (μ) (B : Nat → Int) (rn N cap : Nat) (off : Int) (s : RdI) (t : WI) (H : Nat → Int) (b nb wr rd : Int) (full : Bool) (b0 b1 b2 b3 : Int) (step : Nat) (st : Int) (fin : Bool) (tr : SV) (cl ro : Int) (htr : IsTr tr) (hw : 0 ≤ wr ∧ wr ≤ 32768) : Fun Tryz.prog μ 218 [.ptr 11 1037] (dcG B rn N cap off s t H (dcS b nb wr rd full b0 b1 b2 b3 step st fin (.v .nilIface) tr cl ro)) 16
  (fun _ : Unit=>True) (fun _=>⟨.v (.int .i64 (32768 - wr)),dcG B rn N cap off s t H (dcS b nb wr rd full b0 b1 b2 b3 step st fin (.v .nilIface) tr cl ro),16⟩):=by
 dsimp only [dcG,srG,List.cons_append,List.nil_append]
 rcases htr with rfl | ⟨o,l,c,rfl⟩
 all_goals
  refine fE 13 Tryz.func218 fun zw zβ=>?_
  refine cF [0] ?_
  refine rS [0] ?_
  refine GC.seq (GC.draw [(0,0),(1,0),(2,0),(5,0),(6,0),(7,0),(3,1),(4,0),(8,1),(9,0),(10,0)] mixed (by kernel_rfl) (by rintro _ _ _ _ ⟨_,_,_,_,h,_⟩ _; cases h) ?_)
  refine wF [2] (GK.code ?_)
  refine GC.ret ?_
  refine fR (.inl rfl) rfl (by trivial) () [0,1,2,3,4,5,6,7,8,9,10,11,12,13,14,15] rfl rfl rfl rfl (trivial)
theorem f223 (μ) (B : Nat → Int) (rn N cap : Nat) (off : Int) (s : RdI) (t : WI) (H : Nat → Int) (b nb wr rd : Int) (full : Bool) (b0 b1 b2 b3 : Int) (step : Nat) (st : Int) (fin : Bool) (tr : SV) (cl ro : Int) (htr : IsTr tr) (hw : 0 ≤ wr ∧ wr ≤ 32768) (hrd : 0 ≤ rd ∧ rd ≤ wr) : Fun Tryz.prog μ 223 [.ptr 11 1037] (dcG B rn N cap off s t H (dcS b nb wr rd full b0 b1 b2 b3 step st fin (.v .nilIface) tr cl ro)) 16
  (fun _ : Unit=>True) (fun _=>⟨.v (.int .i64 (wr - rd)),dcG B rn N cap off s t H (dcS b nb wr rd full b0 b1 b2 b3 step st fin (.v .nilIface) tr cl ro),16⟩):=by
 dsimp only [dcG,srG,List.cons_append,List.nil_append]
 rcases htr with rfl | ⟨o,l,c,rfl⟩
 all_goals
  refine fE 12 Tryz.func223 fun zw zβ=>?_
  refine cF [0] ?_
  refine rS [0] ?_
  refine GC.seq (GC.draw [(0,0),(1,0),(2,0),(4,0),(5,0),(6,0),(3,1),(7,1),(8,0),(9,0)] mixed (by kernel_rfl) (by rintro _ _ _ _ ⟨_,_,_,_,h,_⟩ _; cases h) ?_)
  refine wF [2] (GK.code ?_)
  refine GC.ret ?_
  refine fR (.inl rfl) rfl (by trivial) () [0,1,2,3,4,5,6,7,8,9,10,11,12,13,14,15] rfl rfl rfl rfl (trivial)
theorem f225 (μ) (B : Nat → Int) (rn N cap : Nat) (off : Int) (s : RdI) (t : WI) (H : Nat → Int) (b nb wr rd : Int) (full : Bool) (b0 b1 b2 b3 : Int) (step : Nat) (st : Int) (fin : Bool) (tr : SV) (cl ro : Int) (htr : IsTr tr) (n : Int) (hw : 0 ≤ wr ∧ wr ≤ 32768) (hn : 0 ≤ n ∧ n ≤ 32768) : Fun Tryz.prog μ 225 [.ptr 11 1037,.v (.int .i64 n)] (dcG B rn N cap off s t H (dcS b nb wr rd full b0 b1 b2 b3 step st fin (.v .nilIface) tr cl ro)) 16
  (fun _ : Unit=>True) (fun _=>⟨.tup [],dcG B rn N cap off s t H (dcS b nb (wr + n) rd full b0 b1 b2 b3 step st fin (.v .nilIface) tr cl ro),16⟩):=by
 dsimp only [dcG,srG,List.cons_append,List.nil_append]
 rcases htr with rfl | ⟨o,l,c,rfl⟩
 all_goals
  refine fE 12 Tryz.func225 fun zw zβ=>?_
  refine cF [0,1] ?_
  refine rG [] ?_
  refine fR (.inr rfl) rfl (by trivial) () [0,1,2,3,4,5,6,7,8,9,10,11,12,13,14,15] rfl rfl rfl rfl (trivial)
theorem f224 (μ) (B : Nat → Int) (rn N cap : Nat) (off : Int) (s : RdI) (t : WI) (H : Nat → Int) (b nb wr rd : Int) (full : Bool) (b0 b1 b2 b3 : Int) (step : Nat) (st : Int) (fin : Bool) (tr : SV) (cl ro : Int) (htr : IsTr tr) (hw : 0 ≤ wr ∧ wr ≤ 32768) : Fun Tryz.prog μ 224 [.ptr 11 1037] (dcG B rn N cap off s t H (dcS b nb wr rd full b0 b1 b2 b3 step st fin (.v .nilIface) tr cl ro)) 16
  (fun _ : Unit=>True) (fun _=>⟨.slc 14 (offS 32768 wr.toNat 0 1) (32768 - wr.toNat) (32768 - wr.toNat),dcG B rn N cap off s t H (dcS b nb wr rd full b0 b1 b2 b3 step st fin (.v .nilIface) tr cl ro),16⟩):=by
 dsimp only [dcG,srG,List.cons_append,List.nil_append]
 rcases htr with rfl | ⟨o,l,c,rfl⟩
 all_goals
  refine fE 12 Tryz.func224 fun zw zβ=>?_
  refine cF [0] ?_
  refine rS [0] ?_
  refine GC.seq (GC.draw [(0,0),(1,0),(2,0),(4,0),(5,0),(6,0),(3,1),(7,1),(8,0),(9,0)] mixed (by kernel_rfl) (by rintro _ _ _ _ ⟨_,_,_,_,h,_⟩ _; cases h) ?_)
  refine wF [2] (GK.code ?_)
  refine GC.ret ?_
  refine fR (.inl rfl) rfl (by trivial) () [0,1,2,3,4,5,6,7,8,9,10,11,12,13,14,15] rfl rfl rfl rfl (trivial)
theorem f212 (μ) (B : Nat → Int) (rn N cap : Nat) (off : Int) (s : RdI) (t : WI) (H : Nat → Int) (b nb wr rd : Int) (full : Bool) (b0 b1 b2 b3 : Int) (step : Nat) (st : Int) (fin : Bool) (tr : SV) (cl ro : Int) (htr : IsTr tr) (hw : 0 ≤ wr ∧ wr ≤ 32768) (hrd : 0 ≤ rd ∧ rd ≤ wr) : Fun Tryz.prog μ 212 [.ptr 11 1037] (dcG B rn N cap off s t H (dcS b nb wr rd full b0 b1 b2 b3 step st fin (.v .nilIface) tr cl ro)) 16
  (fun y : Int × Int × Bool=>(wr = 32768 ∧ y = (0,0,true)) ∨ (wr < 32768 ∧ y = (wr,wr,full))) (fun y=>⟨.slc 14 (offS 32768 rd.toNat 0 1) (wr.toNat - rd.toNat) (32768 - rd.toNat),dcG B rn N cap off s t H (dcS b nb y.1 y.2.1 y.2.2 b0 b1 b2 b3 step st fin (.v .nilIface) tr cl ro),16⟩):=by
 dsimp only [dcG,srG,List.cons_append,List.nil_append]
 rcases htr with rfl | ⟨o,l,c,rfl⟩
 all_goals
  refine fE 44 Tryz.func212 fun zw zβ=>?_
  refine cF [0] ?_
  refine rS [0] ?_
  refine GC.seq (GC.draw [(0,0),(1,0),(2,0),(4,0),(5,0),(6,0),(8,0),(9,0),(10,0),(3,1),(7,1),(11,1),(12,0),(13,0)] mixed (by kernel_rfl) (by rintro _ _ _ _ ⟨_,_,_,_,h,_⟩ _; cases h) ?_)
  refine wF [0,3] (GK.code ?_)
  refine rS [0,3] ?_
  refine GC.seq ?_
  refine GC.seq (GC.draw [(0,0),(1,0),(2,0),(4,0),(5,0),(6,0),(3,1),(7,1),(8,0),(9,0)] mixed (by kernel_rfl) (by rintro _ _ _ _ ⟨_,_,_,_,h,_⟩ _; cases h) ?_)
  refine wF [0,3,33] (GK.code ?_)
  refine GC.cond rfl (fun hq=>?_) (fun hq=>?_)
  ·have hq : wr = 32768:=by simpa using hq
   refine rS [0,3] ?_
   refine rG [3] ?_
   refine GK.code ?_
   refine rS [2] ?_
   refine GC.ret ?_
   refine fR (.inl rfl) rfl (by trivial) ((0,0,true)) [0,1,2,3,4,5,6,7,8,9,10,11,12,13,14,15] rfl rfl rfl rfl (.inl ⟨hq,rfl⟩)
  ·have hq : ¬ (wr = 32768):=by simpa using hq
   refine GC.skip (GK.code ?_)
   refine rS [2] ?_
   refine GC.ret ?_
   refine fR (.inl rfl) rfl (by trivial) ((wr,wr,full)) [0,1,2,3,4,5,6,7,8,9,10,11,12,13,14,15] rfl rfl rfl rfl (.inr ⟨by omega,rfl⟩)
theorem m107b : IsMeth Tryz.prog 107 "ReadByte" 179:=fun v w=>by kernel_rfl
theorem f206 (μ) (B S : Nat → Int) (rn N cap p ps : Nat) (s : RdI) (t : WI) (H : Nat → Int) (wr rd : Int) (full : Bool) (b0 b1 b2 b3 : Int) (step : Nat) (st : Int) (fin : Bool) (tr : SV) (cl ro : Int) (htr : IsTr tr) (d : Dat B rn N cap) (h : Sr B S N p ps s t) (hp : p < N) (hb : B p = 0 ∨ B p = 1) (hro : 0 ≤ ro ∧ ro < 1152921504606846976) : FunC Tryz.prog μ 206 [.ptr 11 0] (dcG B rn N cap p s t H (dcS 0 0 wr rd full b0 b1 b2 b3 step st fin (.v .nilIface) tr cl ro)) 15 16
  (fun x : RdI × WI=>Sr B S N (p + 1) (ps + 1) x.1 x.2) (fun x=>⟨.v .nilIface,dcG B rn N cap ((p + 1 : Nat) : Int) x.1 x.2 H (dcS (B p) 8 wr rd full b0 b1 b2 b3 step st fin (.v .nilIface) tr cl (ro + 1)),16⟩):=by
 dsimp only [dcG,srG,List.cons_append,List.nil_append]
 rcases htr with rfl | ⟨o,l,c,rfl⟩
 all_goals
  rcases hb with hb | hb
  all_goals
   rw [hb]
   refine fE 45 Tryz.func206 fun zw zβ=>?_
   refine cF [0] ?_
   refine rS [0] ?_
   refine GL.seqR ?_
   refine lK 4 [0,9] ?_
   refine GL.op rfl (iR rfl rfl (m107b) (f179 _ B S rn N cap p ps s t d h hp) [0,1,2,3,4,5,6,7,8,9,10,15] rfl rfl rfl rfl fun x hx=>?_)
   rw [hb]
   refine gF [0,10] rfl ?_
   refine lF [0,3,4] (GK.code ?_)
   refine GC.seq ?_
   refine rS [0,3,4,14] ?_
   refine GC.condF rfl (GC.skip (GK.code ?_))
   refine rS [0,3] ?_
   refine GC.seq (GC.draw [(0,0),(1,0),(2,0),(4,0),(5,0),(6,0),(7,0),(8,0),(3,1),(9,1),(10,0),(11,0),(12,0),(13,0),(14,2)] mixed (by kernel_rfl) (by rintro _ _ _ _ ⟨_,_,_,_,h,_⟩ _; cases h) ?_)
   refine wF [0] (GK.code ?_)
   refine rS [] ?_
   refine rS [2] ?_
   refine GC.ret ?_
   refine fR (.inl rfl) rfl (by trivial) x [0,1,2,3,4,5,6,7,8,9,10,11,12,13,14,15] rfl rfl rfl rfl (h.step d (k:=1) (by omega) hx.1 hx.2)
def EOFv (be : Nat × Nat) : Value:=.iface 292 (.pointer (some ⟨be.1,be.2,none⟩))
theorem f213f (μ) (B : Nat → Int) (rn N cap : Nat) (off : Int) (s : RdI) (t : WI) (H : Nat → Int) (b nb wr rd : Int) (full : Bool) (b0 b1 b2 b3 : Int) (step : Nat) (st : Int) (tr : SV) (cl ro : Int) (htr : IsTr tr) : Fun Tryz.prog μ 213 [.ptr 11 0] (dcG B rn N cap off s t H (dcS b nb wr rd full b0 b1 b2 b3 step st false (.v .nilIface) tr cl ro)) 16
  (fun _ : Unit=>True) (fun _=>⟨.tup [],dcG B rn N cap off s t H (dcS b nb wr rd full b0 b1 b2 b3 203 st false (.v .nilIface) tr cl ro),16⟩):=by
 dsimp only [dcG,srG,List.cons_append,List.nil_append]
 rcases htr with rfl | ⟨o,l,c,rfl⟩
 all_goals
  refine fE 25 Tryz.func213 fun zw zβ=>?_
  refine cF [0] ?_
  refine GC.seq ?_
  refine rS [0,5] ?_
  refine GC.condF rfl (GC.skip (GK.code ?_))
  refine rG [] ?_
  refine fR (.inr rfl) rfl (by trivial) () [0,1,2,3,4,5,6,7,8,9,10,11,12,13,14,15] rfl rfl rfl rfl (trivial)
theorem f213t0 (μ) (be : Nat × Nat) (hE : muAt μ 0 0 = some (EOFv be)) (B : Nat → Int) (rn N cap : Nat) (off : Int) (s : RdI) (t : WI) (H : Nat → Int) (b nb wr rd : Int) (full : Bool) (b0 b1 b2 b3 : Int) (step : Nat) (st : Int) (tr : SV) (cl ro : Int) (htr : IsTr tr) (hw : 0 ≤ wr ∧ wr ≤ 32768) (hwr : wr = rd) : Fun Tryz.prog μ 213 [.ptr 11 0] (dcG B rn N cap off s t H (dcS b nb wr rd full b0 b1 b2 b3 step st true (.v .nilIface) tr cl ro)) 16
  (fun _ : Unit=>True) (fun _=>⟨.tup [],dcG B rn N cap off s t H (dcS b nb wr rd full b0 b1 b2 b3 203 st true (.v (EOFv be)) tr cl ro),16⟩):=by
 dsimp only [dcG,srG,List.cons_append,List.nil_append]
 rcases htr with rfl | ⟨o,l,c,rfl⟩
 ·have htr : IsTr (.v (.slice none 0 0)):=.inl rfl
  refine fE 25 Tryz.func213 fun zw zβ=>?_
  refine cF [0] ?_
  refine GC.seq ?_
  refine rS [0,5] ?_
  refine GC.condT rfl (GC.seq (GL.seqR ?_))
  refine lK 3 [0,8] ?_
  refine GL.op rfl (cR rfl (f223 _ B rn N cap off s t H b nb wr rd full b0 b1 b2 b3 step st true _ cl ro htr hw ⟨by omega,by omega⟩) [0,1,2,3,4,5,6,7,8,9,10,11,12,13,14,15] rfl rfl rfl rfl fun _ _=>?_)
  refine gF [0,9] rfl ?_
  refine lF [0,10] (GK.code ?_)
  refine GC.cond rfl (fun hq=>?_) (fun hq=>?_)
  ·have hq : 0 < wr - rd:=by simpa using hq
   omega
  ·have hq : ¬ (0 < wr - rd):=by simpa using hq
   refine GC.skip (GK.code (GC.region ?_))
   refine lK 1 [0,18] ?_
   refine GL.op rfl (OpW.lstep (LStep.mu (v:=EOFv be) rfl rfl rfl rfl hE) rfl (gF [0,18,19] rfl ?_))
   refine lF [0] ?_
   refine GK.code ?_
   refine rG [] ?_
   refine fR (.inr rfl) rfl (by trivial) () [0,1,2,3,4,5,6,7,8,9,10,11,12,13,14,15] rfl rfl rfl rfl (trivial)
 ·have htr : IsTr (.slc 14 o l c):=.inr ⟨_,_,_,rfl⟩
  refine fE 25 Tryz.func213 fun zw zβ=>?_
  refine cF [0] ?_
  refine GC.seq ?_
  refine rS [0,5] ?_
  refine GC.condT rfl (GC.seq (GL.seqR ?_))
  refine lK 3 [0,8] ?_
  refine GL.op rfl (cR rfl (f223 _ B rn N cap off s t H b nb wr rd full b0 b1 b2 b3 step st true _ cl ro htr hw ⟨by omega,by omega⟩) [0,1,2,3,4,5,6,7,8,9,10,11,12,13,14,15] rfl rfl rfl rfl fun _ _=>?_)
  refine gF [0,9] rfl ?_
  refine lF [0,10] (GK.code ?_)
  refine GC.cond rfl (fun hq=>?_) (fun hq=>?_)
  ·have hq : 0 < wr - rd:=by simpa using hq
   omega
  ·have hq : ¬ (0 < wr - rd):=by simpa using hq
   refine GC.skip (GK.code (GC.region ?_))
   refine lK 1 [0,18] ?_
   refine GL.op rfl (OpW.lstep (LStep.mu (v:=EOFv be) rfl rfl rfl rfl hE) rfl (gF [0,18,19] rfl ?_))
   refine lF [0] ?_
   refine GK.code ?_
   refine rG [] ?_
   refine fR (.inr rfl) rfl (by trivial) () [0,1,2,3,4,5,6,7,8,9,10,11,12,13,14,15] rfl rfl rfl rfl (trivial)
theorem f213t1 (μ) (be : Nat × Nat) (hE : muAt μ 0 0 = some (EOFv be)) (B : Nat → Int) (rn N cap : Nat) (off : Int) (s : RdI) (t : WI) (H : Nat → Int) (b nb wr rd : Int) (full : Bool) (b0 b1 b2 b3 : Int) (step : Nat) (st : Int) (tr : SV) (cl ro : Int) (htr : IsTr tr) (hw : 0 ≤ wr ∧ wr < 32768) (hrd : 0 ≤ rd ∧ rd < wr) : Fun Tryz.prog μ 213 [.ptr 11 0] (dcG B rn N cap off s t H (dcS b nb wr rd full b0 b1 b2 b3 step st true (.v .nilIface) tr cl ro)) 16
  (fun _ : Unit=>True) (fun _=>⟨.tup [],dcG B rn N cap off s t H (dcS b nb wr wr full b0 b1 b2 b3 203 st true (.v (EOFv be)) (.slc 14 (offS 32768 rd.toNat 0 1) (wr.toNat - rd.toNat) (32768 - rd.toNat)) cl ro),16⟩):=by
 dsimp only [dcG,srG,List.cons_append,List.nil_append]
 have htr2 : IsTr tr:=htr
 rcases htr with rfl | ⟨o,l,c,rfl⟩
 all_goals
  refine fE 25 Tryz.func213 fun zw zβ=>?_
  refine cF [0] ?_
  refine GC.seq ?_
  refine rS [0,5] ?_
  refine GC.condT rfl (GC.seq (GL.seqR ?_))
  refine lK 3 [0,8] ?_
  refine GL.op rfl (cR rfl (f223 _ B rn N cap off s t H b nb wr rd full b0 b1 b2 b3 step st true _ cl ro htr2 ⟨by omega,by omega⟩ ⟨hrd.1,by omega⟩) [0,1,2,3,4,5,6,7,8,9,10,11,12,13,14,15] rfl rfl rfl rfl fun _ _=>?_)
  refine gF [0,9] rfl ?_
  refine lF [0,10] (GK.code ?_)
  refine GC.cond rfl (fun hq=>?_) (fun hq=>?_)
  ·have hq : 0 < wr - rd:=by simpa using hq
   refine GC.region ?_
   refine lK 4 [0,11,14] ?_
   refine GL.op rfl (cR rfl (f212 _ B rn N cap off s t H b nb wr rd full b0 b1 b2 b3 step st true _ cl ro htr2 ⟨by omega,by omega⟩ ⟨hrd.1,by omega⟩) [0,1,2,3,4,5,6,7,8,9,10,11,12,13,14,15] rfl rfl rfl rfl fun y hy=>?_)
   obtain ⟨y1,y2,y3⟩:=y
   obtain ⟨hq1,hq2⟩ : wr < 32768 ∧ (y1,y2,y3) = (wr,wr,full):=by rcases hy with ⟨h,_⟩ | h; omega; exact h
   cases hq2
   dsimp only
   refine gF [0,11,15] rfl ?_
   refine lF [0] ?_
   refine GK.code (GC.region ?_)
   refine lK 1 [0,18] ?_
   refine GL.op rfl (OpW.lstep (LStep.mu (v:=EOFv be) rfl rfl rfl rfl hE) rfl (gF [0,18,19] rfl ?_))
   refine lF [0] ?_
   refine GK.code ?_
   refine rG [] ?_
   refine fR (.inr rfl) rfl (by trivial) () [0,1,2,3,4,5,6,7,8,9,10,11,12,13,14,15] rfl rfl rfl rfl (trivial)
  ·have hq : ¬ (0 < wr - rd):=by simpa using hq
   omega
inductive CO where
 | fl (D : Nat → Int) (s : RdI) (t : WI) (l : Nat) (off cl ro : Int)
 | go (D : Nat → Int) (s : RdI) (t : WI) (off wr cl ro : Int)
 | fe (D : Nat → Int) (s : RdI) (t : WI) (off wr cl ro : Int)
 | fs (D : Nat → Int) (s : RdI) (t : WI) (l : Nat) (off wr cl ro : Int)
structure CoA (B S : Nat → Int) (N p ps wr n m ro0 : Nat) (H D : Nat → Int) (s : RdI) (t : WI) (off ro : Int) : Prop where
 hD : ∀ j,D j = if wr ≤ j ∧ j < wr + n then B (p + (j - wr)) else H j
 hs : Sr B S N (p + n) (ps + n) s t
 hoff : off = ((p + n : Nat) : Int)
 hro : ro = ((ro0 + n : Nat) : Int)
def coI (B S : Nat → Int) (N p ps wr rd m ro0 : Nat) (fin : Bool) (H : Nat → Int) : CO → Prop
 | .fl D s t l off cl ro=>32768 - wr ≤ m ∧ l = 32768 - rd ∧ cl = ((m - (32768 - wr) : Nat) : Int) ∧ CoA B S N p ps wr (32768 - wr) m ro0 H D s t off ro
 | .go D s t off w cl ro=>fin = false ∧ m < 32768 - wr ∧ w = ((wr + m : Nat) : Int) ∧ CoA B S N p ps wr m m ro0 H D s t off ro
 | .fe D s t off w cl ro=>fin = true ∧ m = 0 ∧ wr = rd ∧ w = (wr : Int) ∧ CoA B S N p ps wr m m ro0 H D s t off ro
 | .fs D s t l off w cl ro=>fin = true ∧ m < 32768 - wr ∧ l = wr + m - rd ∧ w = ((wr + m : Nat) : Int) ∧ CoA B S N p ps wr m m ro0 H D s t off ro
def coG (be : Nat × Nat) (B : Nat → Int) (rn N cap rd : Nat) (full : Bool) (b0 b1 b2 b3 st : Int) (fin : Bool) (tr : SV) : CO → GH
 | .fl D s t l off cl ro=>dcG B rn N cap off s t D (dcS 0 0 0 0 true b0 b1 b2 b3 214 st fin (.v .nilIface) (.slc 14 (offS 32768 rd 0 1) l (32768 - rd)) cl ro)
 | .go D s t off wr cl ro=>dcG B rn N cap off s t D (dcS 0 0 wr rd full b0 b1 b2 b3 203 st fin (.v .nilIface) tr cl ro)
 | .fe D s t off wr cl ro=>dcG B rn N cap off s t D (dcS 0 0 wr rd full b0 b1 b2 b3 203 st fin (.v (EOFv be)) tr cl ro)
 | .fs D s t l off wr cl ro=>dcG B rn N cap off s t D (dcS 0 0 wr wr full b0 b1 b2 b3 203 st fin (.v (EOFv be)) (.slc 14 (offS 32768 rd 0 1) l (32768 - rd)) cl ro)
def coP (be : Nat × Nat) (B : Nat → Int) (rn N cap rd : Nat) (full : Bool) (b0 b1 b2 b3 st : Int) (fin : Bool) (tr : SV) (i : CO) : Post:=⟨.tup [],coG be B rn N cap rd full b0 b1 b2 b3 st fin tr i,16⟩
set_option maxHeartbeats 16000000 in
theorem f214 (μ) (be : Nat × Nat) (hE : muAt μ 0 0 = some (EOFv be)) (B S : Nat → Int) (rn N cap p ps : Nat) (s : RdI) (t : WI) (d : Dat B rn N cap) (h : Sr B S N p ps s t) (H : Nat → Int) (wr rd m ro : Nat) (full : Bool) (b0 b1 b2 b3 : Int) (step : Nat) (st : Int) (fin : Bool) (tr : SV) (htr : IsTr tr) (hw : wr < 32768) (hrd : rd ≤ wr) (hp : p + m ≤ N) (hm : m < 65536) (hro : ro < 1152921504606846976) :
  FunC Tryz.prog μ 214 [.ptr 11 0] (dcG B rn N cap p s t H (dcS 0 0 wr rd full b0 b1 b2 b3 step st fin (.v .nilIface) tr m ro)) 15 16 (coI B S N p ps wr rd m ro fin H) (coP be B rn N cap rd full b0 b1 b2 b3 st fin tr):=by
 have hN2:=d.hN2
 dsimp only [dcG,srG,List.cons_append,List.nil_append]
 have htr2 : IsTr tr:=htr
 have ho:=offS_lt (cap:=32768) (l:=wr) (o:=0) hw
 have ho2 : offS (32768 - wr) 0 (offS 32768 wr 0 1) 1 = wr:=by rw [offS_zero,ho,Nat.zero_add]
 have hw2 : wr ≤ wr:=Nat.le_refl _
 rcases htr with rfl | ⟨o,l,c,rfl⟩
 all_goals
  refine fE 83 Tryz.func214 fun zw zβ=>?_
  refine cF [0,65,66,67,68,69] ?_
  refine GL.seqR ?_
  refine lK 3 [0,7,65,66,67,68,69] ?_
  refine GL.op rfl (cR rfl (f224 _ B rn N cap p s t H 0 0 wr rd full b0 b1 b2 b3 step st fin _ m ro htr2 ⟨by omega,by omega⟩) [0,1,2,3,4,5,6,7,8,9,10,11,12,13,14,15] rfl rfl rfl rfl fun _ _=>?_)
  refine gF [0,8,65,66,67,68,69] rfl ?_
  refine lF [0,2,65,66,67,68,69] (GK.code ?_)
  refine GC.seq ?_
  refine rS [0,2,15,65,66,67,68,69] ?_
  refine GC.cond rfl (fun hlt=>?_) (fun hlt=>?_)
  ·have hlt : (m : Int) < ((32768 - wr : Nat) : Int):=by simpa using hlt
   refine rG [0,2,65,66,67,68,69] ?_
   refine GK.code (GL.seqR ?_)
   refine lK 5 [0,26,27,65,66,67,68,69] ?_
   refine GL.op rfl (cR rfl (f134 _ B S H rn N cap p ps (offS (32768 - wr) 0 (offS 32768 wr 0 1) 1) m (32768 - wr) 32768 s t d h hp (by omega) (by omega)) [0,1,2,3,4,5,6,7,8,9,10,14,15] rfl rfl rfl rfl fun x hx=>?_)
   obtain ⟨D,s',t'⟩:=x
   obtain ⟨hD,hs'⟩:=hx
   dsimp only at hD hs' ⊢
   rw [ho2] at hD
   refine gF [0,28,65,66,67,68,69] rfl ?_
   refine lF [0,3,4,65,66,67,68,69] (GK.code ?_)
   refine rS [0,3,4,65,66,67,68,69] ?_
   refine rS [0,3,4,65,66,67,68,69] ?_
   refine GL.seqR ?_
   refine lK 4 [0,4,49,50,65,66,67,68,69] ?_
   refine GL.op rfl (cR rfl (f225 _ B rn N cap _ s' t' D 0 0 wr rd full b0 b1 b2 b3 step st fin _ _ _ htr2 m ⟨by omega,by omega⟩ ⟨by omega,by omega⟩) [0,1,2,3,4,5,6,7,8,9,10,11,12,13,14,15] rfl rfl rfl rfl fun _ _=>?_)
   refine gF [0,4,65,66,67,68,69] rfl ?_
   refine lF [0,4,65,66,67,68,69] (GK.code ?_)
   refine GC.seq ?_
   refine rS [0,4,53,65,66,67,68,69] ?_
   refine GC.condF rfl (GC.skip (GK.code (GC.seq (GL.seqR ?_))))
   refine lK 3 [0,61,65,66,67,68,69] ?_
   refine GL.op rfl (cR rfl (f218 _ B rn N cap _ s' t' D 0 0 (wr + m) rd full b0 b1 b2 b3 step st fin _ _ _ htr2 ⟨by omega,by omega⟩) [0,1,2,3,4,5,6,7,8,9,10,11,12,13,14,15] rfl rfl rfl rfl fun _ _=>?_)
   refine gF [0,62,65,66,67,68,69] rfl ?_
   refine lK 2 [0,64,65,66,67,68,69] ?_
   refine GL.spl 64 rfl rfl rfl (fun hav=>?_) (fun hav=>?_)
   ·have hav : (32768 : Int) - (wr + m) = 0:=by simpa using hav
    omega
   ·have hav : ¬ ((32768 : Int) - (wr + m) = 0):=by simpa using hav
    refine lF [0,70] (GK.code ?_)
    refine GC.cond rfl (fun hcl=>?_) (fun hcl=>?_)
    ·have hcl : (0 : Int) < m - m:=by simpa using hcl
     omega
    ·have hcl : ¬ ((0 : Int) < m - m):=by simpa using hcl
     rcases fin with _ | _
     ·refine GC.skip (GK.code (GC.region ?_))
      refine lK 1 [81] ?_
      refine GL.op rfl (cR rfl (f213f _ B rn N cap _ s' t' D 0 0 (wr + m) rd full b0 b1 b2 b3 step st _ _ _ htr2) [0,1,2,3,4,5,6,7,8,9,10,11,12,13,14,15] rfl rfl rfl rfl fun _ _=>?_)
      refine gF [] rfl ?_
      refine lF [] ?_
      refine fR (.inr rfl) rfl (by trivial) (.go D s' t' _ _ _ _) [0,1,2,3,4,5,6,7,8,9,10,11,12,13,14,15] rfl rfl rfl rfl (⟨rfl,by omega,by push_cast; rfl,hD,hs',rfl,by push_cast; rfl⟩)
     ·by_cases hwm : wr + m = rd
      ·obtain rfl : m = 0:=by omega
       obtain rfl : rd = wr:=by omega
       refine GC.skip (GK.code (GC.region ?_))
       refine lK 1 [81] ?_
       refine GL.op rfl (cR rfl (f213t0 _ be hE B rn N cap _ s' t' D 0 0 (rd + (0 : Nat)) rd full b0 b1 b2 b3 step st _ _ _ htr2 ⟨by omega,by omega⟩ (by omega)) [0,1,2,3,4,5,6,7,8,9,10,11,12,13,14,15] rfl rfl rfl rfl fun _ _=>?_)
       refine gF [] rfl ?_
       refine lF [] ?_
       refine fR (.inr rfl) rfl (by trivial) (.fe D s' t' _ _ _ _) [0,1,2,3,4,5,6,7,8,9,10,11,12,13,14,15] rfl rfl rfl rfl (⟨rfl,rfl,rfl,by omega,hD,hs',rfl,by push_cast; rfl⟩)
      ·refine GC.skip (GK.code (GC.region ?_))
       refine lK 1 [81] ?_
       refine GL.op rfl (cR rfl (f213t1 _ be hE B rn N cap _ s' t' D 0 0 (wr + m) rd full b0 b1 b2 b3 step st _ _ _ htr2 ⟨by omega,by omega⟩ ⟨by omega,by omega⟩) [0,1,2,3,4,5,6,7,8,9,10,11,12,13,14,15] rfl rfl rfl rfl fun _ _=>?_)
       refine gF [] rfl ?_
       refine lF [] ?_
       refine fR (.inr rfl) rfl (by trivial) (.fs D s' t' _ _ _ _ _) [0,1,2,3,4,5,6,7,8,9,10,11,12,13,14,15] rfl rfl rfl rfl (⟨rfl,by omega,by omega,by push_cast; rfl,hD,hs',rfl,by push_cast; rfl⟩)
  ·have hlt : ¬ ((m : Int) < ((32768 - wr : Nat) : Int)):=by simpa using hlt
   refine GC.skip (GK.code (GL.seqR ?_))
   refine lK 5 [0,26,27,65,66,67,68,69] ?_
   refine GL.op rfl (cR rfl (f134 _ B S H rn N cap p ps (offS 32768 wr 0 1) (32768 - wr) (32768 - wr) 32768 s t d h (by omega) (by omega) (by omega)) [0,1,2,3,4,5,6,7,8,9,10,14,15] rfl rfl rfl rfl fun x hx=>?_)
   obtain ⟨D,s',t'⟩:=x
   obtain ⟨hD,hs'⟩:=hx
   dsimp only at hD hs' ⊢
   rw [ho,Nat.zero_add] at hD
   refine gF [0,28,65,66,67,68,69] rfl ?_
   refine lF [0,3,4,65,66,67,68,69] (GK.code ?_)
   refine rS [0,3,4,65,66,67,68,69] ?_
   refine rS [0,3,4,65,66,67,68,69] ?_
   refine GL.seqR ?_
   refine lK 4 [0,4,49,50,65,66,67,68,69] ?_
   refine GL.op rfl (cR rfl (f225 _ B rn N cap _ s' t' D 0 0 wr rd full b0 b1 b2 b3 step st fin _ _ _ htr2 ((32768 - wr : Nat) : Int) ⟨by omega,by omega⟩ ⟨by omega,by omega⟩) [0,1,2,3,4,5,6,7,8,9,10,11,12,13,14,15] rfl rfl rfl rfl fun _ _=>?_)
   refine gF [0,4,65,66,67,68,69] rfl ?_
   refine lF [0,4,65,66,67,68,69] (GK.code ?_)
   refine GC.seq ?_
   refine rS [0,4,53,65,66,67,68,69] ?_
   refine GC.condF rfl (GC.skip (GK.code (GC.seq (GL.seqR ?_))))
   refine lK 3 [0,61,65,66,67,68,69] ?_
   refine GL.op rfl (cR rfl (f218 _ B rn N cap _ s' t' D 0 0 (wr + ((32768 - wr : Nat) : Int)) rd full b0 b1 b2 b3 step st fin _ _ _ htr2 ⟨by omega,by omega⟩) [0,1,2,3,4,5,6,7,8,9,10,11,12,13,14,15] rfl rfl rfl rfl fun _ _=>?_)
   refine gF [0,62,65,66,67,68,69] rfl ?_
   refine lK 2 [0,64,65,66,67,68,69] ?_
   refine GL.spl 64 rfl rfl rfl (fun hav=>?_) (fun hav=>?_)
   ·have hav : (32768 : Int) - (wr + ((32768 - wr : Nat) : Int)) = 0:=by simpa using hav
    refine lF [0,70] (GK.code ?_)
    refine GC.condT rfl (GL.seqR ?_)
    refine lK 4 [0,71,74] ?_
    refine GL.op rfl (cR rfl (f212 _ B rn N cap _ s' t' D 0 0 (wr + ((32768 - wr : Nat) : Int)) rd full b0 b1 b2 b3 step st fin _ _ _ htr2 ⟨by omega,by omega⟩ ⟨by omega,by omega⟩) [0,1,2,3,4,5,6,7,8,9,10,11,12,13,14,15] rfl rfl rfl rfl fun y hy=>?_)
    obtain ⟨y1,y2,y3⟩:=y
    obtain ⟨hq1,hq2⟩ : (wr : Int) + ((32768 - wr : Nat) : Int) = 32768 ∧ (y1,y2,y3) = (0,0,true):=by rcases hy with h | ⟨h,_⟩; exact h; omega
    cases hq2
    dsimp only
    refine gF [0,71,75] rfl ?_
    refine lF [0] (GK.code ?_)
    refine rS [] ?_
    refine GC.ret ?_
    refine fR (.inl rfl) rfl (by trivial) (.fl D s' t' _ _ _ _) [0,1,2,3,4,5,6,7,8,9,10,11,12,13,14,15] rfl rfl rfl rfl (⟨by omega,by omega,by omega,fun j=>by rw [hD],hs',rfl,by push_cast; rfl⟩)
   ·have hav : ¬ ((32768 : Int) - (wr + ((32768 - wr : Nat) : Int)) = 0):=by simpa using hav
    omega
theorem dcS_at {b nb wr rd : Int} {full : Bool} {b0 b1 b2 b3 c0 c1 c2 c3 : Int} {step : Nat} {st : Int} {fin : Bool} {err tr : SV} {cl ro : Int} {j : Nat} (h1 : ¬ j = 1041) (h2 : ¬ j = 1042) (h3 : ¬ j = 1043) (h4 : ¬ j = 1044) :
  (dcS b nb wr rd full b0 b1 b2 b3 step st fin err tr cl ro).f j = (dcS b nb wr rd full c0 c1 c2 c3 step st fin err tr cl ro).f j:=by
 show ovk _ j _ = ovk _ j _
 simp only [dcL,ovk,beqF h1,beqF h2,beqF h3,beqF h4,cond_false]
theorem or_lo {n : Nat} (h : n < 65536) : bitZ .or 64 ((n % 256 : Nat) : Int) (((n / 256 : Nat) : Int) * 2 ^ 8) = (n : Int):=by
 have e : (((n / 256 : Nat) : Int) * 2 ^ 8) = ((n / 256 * 2 ^ 8 : Nat) : Int):=by norm_cast
 rw [e,bitZ_or (by omega) (by show (_ : Int) < 18446744073709551616; omega) (by omega) (by show (_ : Int) < 18446744073709551616; omega),Int.toNat_natCast,Int.toNat_natCast,Nat.or_comm]
 have:=Nat.two_pow_add_eq_or_of_lt (i:=8) (b:=n % 256) (by omega) (n / 256)
 rw [Nat.mul_comm] at this
 rw [← this]; congr 1; omega
theorem or_lo' {n : Nat} (h : n < 65536) : bitZ .or 64 ((n % 256 : Nat) : Int) (((n / 256 : Nat) : Int) * 256) = (n : Int):=or_lo h
set_option maxHeartbeats 16000000 in
theorem f207 (μ) (be : Nat × Nat) (hE : muAt μ 0 0 = some (EOFv be)) (B S : Nat → Int) (rn N cap p ps : Nat) (s : RdI) (t : WI) (d : Dat B rn N cap) (h : Sr B S N p ps s t) (H : Nat → Int) (b nb : Int) (wr rd n ro : Nat) (full : Bool) (a0 a1 a2 a3 : Int) (step : Nat) (st : Int) (fin : Bool) (tr : SV) (cl : Int) (htr : IsTr tr) (hw : wr < 32768) (hrd : rd ≤ wr) (hp : p + 4 + n ≤ N) (hn : n < 65536) (hro : ro < 576460752303423488) (hf : n = 0 → fin = true)
  (h0 : B p = ((n % 256 : Nat) : Int)) (h1 : B (p + 1) = ((n / 256 : Nat) : Int)) (h2 : B (p + 2) = (((65535 - n) % 256 : Nat) : Int)) (h3 : B (p + 3) = (((65535 - n) / 256 : Nat) : Int)) :
  FunC Tryz.prog μ 207 [.ptr 11 0] (dcG B rn N cap p s t H (dcS b nb wr rd full a0 a1 a2 a3 step st fin (.v .nilIface) tr cl ro)) 15 16 (coI B S N (p + 4) (ps + 4) wr rd n (ro + 4) fin H) (coP be B rn N cap rd full ((n % 256 : Nat) : Int) ((n / 256 : Nat) : Int) (((65535 - n) % 256 : Nat) : Int) (((65535 - n) / 256 : Nat) : Int) st fin tr):=by
 have hN2:=d.hN2
 have htr2 : IsTr tr:=htr
 have hnn : 65535 - n < 65536:=by omega
 dsimp only [dcG,srG,List.cons_append,List.nil_append]
 rcases htr with rfl | ⟨o,l,c,rfl⟩
 all_goals
  refine fE 98 Tryz.func207 fun zw zβ=>?_
  refine cF [0] ?_
  refine rS [0] ?_
  refine rS [0] ?_
  refine GC.seq (GC.draw [(0,0),(1,0),(2,0),(4,0),(5,0),(6,0),(7,0),(3,1),(8,2),(9,0),(10,0),(11,0),(12,0),(13,0)] mixed (by kernel_rfl) (by rintro _ _ _ _ ⟨_,_,_,_,h,_⟩ _; cases h) ?_)
  refine wK 8 [0,16,20] ?_
  refine GW.openR 0 11 [0,11,12,13,14] rfl rfl rfl (fun _ j _=>allG_ovk rfl) (fun _=>rfl) fun β V hV=>?_
  refine GW.op rfl rfl (cR rfl (f134v _ B S V rn N cap p ps 1041 4 4 1054 400 s t d h (by omega) (by decide) (by decide) (by decide)) [0,1,2,3,4,5,6,7,8,9,10,11,15] rfl rfl rfl rfl fun x hx=>?_)
  obtain ⟨D,s',t'⟩:=x
  obtain ⟨hD,hs'⟩:=hx
  dsimp only at hD hs' ⊢
  have key : ∀ (T : SV),(∀ j,j < 1054 → Rep (anB (anOf β [0,11,12,13,14])) ((dcS 0 0 wr rd full a0 a1 a2 a3 step st fin (.v .nilIface) T cl ro).f j) (V j)) → ∀ j,j < (dcS 0 0 wr rd full ((n % 256 : Nat) : Int) ((n / 256 : Nat) : Int) (((65535 - n) % 256 : Nat) : Int) (((65535 - n) / 256 : Nat) : Int) step st fin (.v .nilIface) T cl ro).n → Rep (anB (anOf β [0,11,12,13,14])) ((dcS 0 0 wr rd full ((n % 256 : Nat) : Int) ((n / 256 : Nat) : Int) (((65535 - n) % 256 : Nat) : Int) (((65535 - n) / 256 : Nat) : Int) step st fin (.v .nilIface) T cl ro).f j) (D j):=by
   intro T hV j hj
   have hj : j < 1054:=hj
   have hv:=hV j hj
   rw [hD]
   by_cases e0 : j = 1041
   ·subst e0; rw [if_pos (by omega),show p + (1041 - 1041) = p from rfl,h0]; exact .v _
   by_cases e1 : j = 1042
   ·subst e1; rw [if_pos (by omega),show p + (1042 - 1041) = p + 1 from rfl,h1]; exact .v _
   by_cases e2 : j = 1043
   ·subst e2; rw [if_pos (by omega),show p + (1043 - 1041) = p + 2 from rfl,h2]; exact .v _
   by_cases e3 : j = 1044
   ·subst e3; rw [if_pos (by omega),show p + (1044 - 1041) = p + 3 from rfl,h3]; exact .v _
   rw [if_neg (by omega),dcS_at e0 e1 e2 e3]; exact hv
  refine GK.closeR 11 _ (key _ hV) (fun j _=>allG_ovk rfl) rfl rfl ?_
  refine wL [0,21] rfl ?_
  refine wF [0,2,3] (GK.code ?_)
  refine rS [0,3] ?_
  refine GC.seq ?_
  refine rS [0,3,33] ?_
  refine GC.condF rfl (GC.skip (GK.code ?_))
  refine GC.seq (GC.draw [(0,0),(1,0),(2,0),(3,0),(6,0),(7,0),(8,0),(9,0),(4,1),(5,0),(10,1),(11,0),(12,0),(13,0),(14,0)] mixed (by kernel_rfl) (by rintro _ _ _ _ ⟨_,_,_,_,h,_⟩ _; cases h) ?_)
  refine wF [0,4] (GK.code ?_) (hc:=(by (repeat' first | exact trivial | refine And.intro ?_ ?_) <;> (try simp only [Int.reduceToNat,IntKind.bits,Nat.reduceLeDiff,Nat.min_eq_left,Int.reducePow,or_lo' hn,or_lo' hnn,or_lo hn,or_lo hnn,InI64,InI32]) <;> omega))
  refine GC.abs 4 rfl (fun _=>rfl) fun z4 hz4=>?_
  obtain rfl : z4 = (n : Int):=by rw [hz4]; exact or_lo hn
  refine GC.seq (GC.draw [(0,0),(1,0),(2,0),(3,0),(6,0),(7,0),(8,0),(9,0),(4,1),(5,0),(10,1),(11,0),(12,0),(13,0),(14,0)] mixed (by kernel_rfl) (by rintro _ _ _ _ ⟨_,_,_,_,h,_⟩ _; cases h) ?_)
  refine wF [0,4,5] (GK.code ?_) (hc:=(by (repeat' first | exact trivial | refine And.intro ?_ ?_) <;> (try simp only [Int.reduceToNat,IntKind.bits,Nat.reduceLeDiff,Nat.min_eq_left,Int.reducePow,or_lo' hn,or_lo' hnn,or_lo hn,or_lo hnn,InI64,InI32]) <;> omega))
  refine GC.abs 5 rfl (fun _=>rfl) fun z5 hz5=>?_
  obtain rfl : z5 = ((65535 - n : Nat) : Int):=by rw [hz5]; exact or_lo hnn
  refine GC.seq (GL.seqR ?_)
  refine lK 3 [0,4,68,69] ?_ (hc:=(by (repeat' first | exact trivial | refine And.intro ?_ ?_) <;> (try simp only [Int.reduceToNat,IntKind.bits,Nat.reduceLeDiff,Nat.min_eq_left,Int.reducePow,or_lo' hn,or_lo' hnn,or_lo hn,or_lo hnn,InI64,InI32]) <;> omega))
  refine GL.vstep rfl (VStep.notI rfl rfl (by omega)) rfl (GL.force [0,4,68,70] rfl ?_)
  refine lF [0,4,72] (GK.code ?_) (hc:=(by (repeat' first | exact trivial | refine And.intro ?_ ?_) <;> (try simp only [Int.reduceToNat,IntKind.bits,Nat.reduceLeDiff,Nat.min_eq_left,Int.reducePow,or_lo' hn,or_lo' hnn,or_lo hn,or_lo hnn,InI64,InI32]) <;> omega))
  refine GC.cond rfl (fun hne=>?_) (fun hne=>?_)
  ·have hne : ¬ w16 ((65535 - n : Nat) : Int) = w16 (-1 - (n : Int)):=by simpa using hne
   exfalso; unfold w16 at hne; omega
  ·have hne : ¬ (¬ w16 ((65535 - n : Nat) : Int) = w16 (-1 - (n : Int))):=by simpa using hne
   by_cases hz : n = 0
   ·subst hz
    refine GC.skip (GK.code (GC.seq ?_))
    refine rS [0,4,82] ?_ (hc:=(by (repeat' first | exact trivial | refine And.intro ?_ ?_) <;> (try simp only [Int.reduceToNat,IntKind.bits,Nat.reduceLeDiff,Nat.min_eq_left,Int.reducePow,or_lo' hn,or_lo' hnn,or_lo hn,or_lo hnn,InI64,InI32]) <;> omega))
    refine GC.cond rfl (fun hz2=>?_) (fun hz2=>?_)
    ·have hz2 : ((0 : Nat) : Int) = 0:=by simpa using hz2
     obtain rfl:=hf rfl
     refine GL.seqR ?_
     refine lK 4 [0,83,86] ?_ (hc:=(by (repeat' first | exact trivial | refine And.intro ?_ ?_) <;> (try simp only [Int.reduceToNat,IntKind.bits,Nat.reduceLeDiff,Nat.min_eq_left,Int.reducePow,or_lo' hn,or_lo' hnn,or_lo hn,or_lo hnn,InI64,InI32]) <;> omega))
     refine GL.op rfl (cR rfl (f212 _ B rn N cap _ s' t' H 0 0 wr rd full _ _ _ _ step st true _ _ _ htr2 ⟨by omega,by omega⟩ ⟨by omega,by omega⟩) [0,1,2,3,4,5,6,7,8,9,10,11,12,13,14,15] rfl rfl rfl rfl fun y hy=>?_)
     obtain ⟨y1,y2,y3⟩:=y
     obtain ⟨hq1,hq2⟩ : (wr : Int) < 32768 ∧ (y1,y2,y3) = ((wr : Int),(wr : Int),full):=by rcases hy with ⟨h,_⟩ | h; omega; exact h
     cases hq2
     dsimp only
     refine gF [0,83,87] rfl ?_
     refine lF [0] (GK.code ?_) (hc:=(by (repeat' first | exact trivial | refine And.intro ?_ ?_) <;> (try simp only [Int.reduceToNat,IntKind.bits,Nat.reduceLeDiff,Nat.min_eq_left,Int.reducePow,or_lo' hn,or_lo' hnn,or_lo hn,or_lo hnn,InI64,InI32]) <;> omega))
     refine GL.seqR ?_
     refine lK 1 [90] ?_ (hc:=(by (repeat' first | exact trivial | refine And.intro ?_ ?_) <;> (try simp only [Int.reduceToNat,IntKind.bits,Nat.reduceLeDiff,Nat.min_eq_left,Int.reducePow,or_lo' hn,or_lo' hnn,or_lo hn,or_lo hnn,InI64,InI32]) <;> omega))
     refine GL.op rfl (cR rfl (f213t0 _ be hE B rn N cap _ s' t' H 0 0 wr wr full _ _ _ _ step st _ _ _ (.inr ⟨_,_,_,rfl⟩) ⟨by omega,by omega⟩ rfl) [0,1,2,3,4,5,6,7,8,9,10,11,12,13,14,15] rfl rfl rfl rfl fun _ _=>?_)
     refine gF [] rfl ?_
     refine lF [] (GK.code ?_) (hc:=(by (repeat' first | exact trivial | refine And.intro ?_ ?_) <;> (try simp only [Int.reduceToNat,IntKind.bits,Nat.reduceLeDiff,Nat.min_eq_left,Int.reducePow,or_lo' hn,or_lo' hnn,or_lo hn,or_lo hnn,InI64,InI32]) <;> omega))
     refine GC.ret ?_
     refine fR (.inl rfl) rfl (by (repeat' first | exact trivial | refine And.intro ?_ ?_) <;> (try simp only [Int.reduceToNat,IntKind.bits,Nat.reduceLeDiff,Nat.min_eq_left,Int.reducePow,or_lo' hn,or_lo' hnn,or_lo hn,or_lo hnn,InI64,InI32]) <;> omega) (.fs H s' t' _ _ _ _ _) [0,1,2,3,4,5,6,7,8,9,10,11,12,13,14,15] rfl rfl rfl rfl (⟨rfl,by omega,by omega,by omega,fun j=>by rw [if_neg (by omega)],hs',by push_cast; omega,by push_cast; omega⟩)
    ·have hz2 : ¬ (((0 : Nat) : Int) = 0):=by simpa using hz2
     omega
   ·refine GC.skip (GK.code (GC.seq ?_))
    refine rS [0,4,82] ?_ (hc:=(by (repeat' first | exact trivial | refine And.intro ?_ ?_) <;> (try simp only [Int.reduceToNat,IntKind.bits,Nat.reduceLeDiff,Nat.min_eq_left,Int.reducePow,or_lo' hn,or_lo' hnn,or_lo hn,or_lo hnn,InI64,InI32]) <;> omega))
    refine GC.cond rfl (fun hz2=>?_) (fun hz2=>?_)
    ·have hz2 : (n : Int) = 0:=by simpa using hz2
     omega
    ·have hz2 : ¬ ((n : Int) = 0):=by simpa using hz2
     refine GC.skip (GK.code ?_)
     refine rS [0] ?_ (hc:=(by (repeat' first | exact trivial | refine And.intro ?_ ?_) <;> (try simp only [Int.reduceToNat,IntKind.bits,Nat.reduceLeDiff,Nat.min_eq_left,Int.reducePow,or_lo' hn,or_lo' hnn,or_lo hn,or_lo hnn,InI64,InI32]) <;> omega))
     refine GC.region ?_
     refine lK 1 [96] ?_ (hc:=(by (repeat' first | exact trivial | refine And.intro ?_ ?_) <;> (try simp only [Int.reduceToNat,IntKind.bits,Nat.reduceLeDiff,Nat.min_eq_left,Int.reducePow,or_lo' hn,or_lo' hnn,or_lo hn,or_lo hnn,InI64,InI32]) <;> omega))
     refine GL.op rfl (cR rfl (f214 _ be hE B S rn N cap (p + 4) (ps + 4) s' t' d hs' H wr rd n (ro + 4) full _ _ _ _ step st fin _ htr2 hw hrd (by omega) hn (by omega)) [0,1,2,3,4,5,6,7,8,9,10,11,12,13,14,15] rfl rfl rfl rfl fun y hy=>?_)
     rcases y with ⟨E,s2,t2,l2,off2,cl2,ro2⟩ | ⟨E,s2,t2,off2,wr2,cl2,ro2⟩ | ⟨E,s2,t2,off2,wr2,cl2,ro2⟩ | ⟨E,s2,t2,l2,off2,wr2,cl2,ro2⟩
     ·refine gF [] rfl ?_
      refine lF [] ?_ (hc:=(by (repeat' first | exact trivial | refine And.intro ?_ ?_) <;> (try simp only [Int.reduceToNat,IntKind.bits,Nat.reduceLeDiff,Nat.min_eq_left,Int.reducePow,or_lo' hn,or_lo' hnn,or_lo hn,or_lo hnn,InI64,InI32]) <;> omega))
      refine fR (.inr rfl) rfl (by (repeat' first | exact trivial | refine And.intro ?_ ?_) <;> (try simp only [Int.reduceToNat,IntKind.bits,Nat.reduceLeDiff,Nat.min_eq_left,Int.reducePow,or_lo' hn,or_lo' hnn,or_lo hn,or_lo hnn,InI64,InI32]) <;> omega) (.fl E s2 t2 l2 off2 cl2 ro2) [0,1,2,3,4,5,6,7,8,9,10,11,12,13,14,15] rfl rfl rfl rfl (hy)
     ·refine gF [] rfl ?_
      refine lF [] ?_ (hc:=(by (repeat' first | exact trivial | refine And.intro ?_ ?_) <;> (try simp only [Int.reduceToNat,IntKind.bits,Nat.reduceLeDiff,Nat.min_eq_left,Int.reducePow,or_lo' hn,or_lo' hnn,or_lo hn,or_lo hnn,InI64,InI32]) <;> omega))
      refine fR (.inr rfl) rfl (by (repeat' first | exact trivial | refine And.intro ?_ ?_) <;> (try simp only [Int.reduceToNat,IntKind.bits,Nat.reduceLeDiff,Nat.min_eq_left,Int.reducePow,or_lo' hn,or_lo' hnn,or_lo hn,or_lo hnn,InI64,InI32]) <;> omega) (.go E s2 t2 off2 wr2 cl2 ro2) [0,1,2,3,4,5,6,7,8,9,10,11,12,13,14,15] rfl rfl rfl rfl (hy)
     ·refine gF [] rfl ?_
      refine lF [] ?_ (hc:=(by (repeat' first | exact trivial | refine And.intro ?_ ?_) <;> (try simp only [Int.reduceToNat,IntKind.bits,Nat.reduceLeDiff,Nat.min_eq_left,Int.reducePow,or_lo' hn,or_lo' hnn,or_lo hn,or_lo hnn,InI64,InI32]) <;> omega))
      refine fR (.inr rfl) rfl (by (repeat' first | exact trivial | refine And.intro ?_ ?_) <;> (try simp only [Int.reduceToNat,IntKind.bits,Nat.reduceLeDiff,Nat.min_eq_left,Int.reducePow,or_lo' hn,or_lo' hnn,or_lo hn,or_lo hnn,InI64,InI32]) <;> omega) (.fe E s2 t2 off2 wr2 cl2 ro2) [0,1,2,3,4,5,6,7,8,9,10,11,12,13,14,15] rfl rfl rfl rfl (hy)
     ·refine gF [] rfl ?_
      refine lF [] ?_ (hc:=(by (repeat' first | exact trivial | refine And.intro ?_ ?_) <;> (try simp only [Int.reduceToNat,IntKind.bits,Nat.reduceLeDiff,Nat.min_eq_left,Int.reducePow,or_lo' hn,or_lo' hnn,or_lo hn,or_lo hnn,InI64,InI32]) <;> omega))
      refine fR (.inr rfl) rfl (by (repeat' first | exact trivial | refine And.intro ?_ ?_) <;> (try simp only [Int.reduceToNat,IntKind.bits,Nat.reduceLeDiff,Nat.min_eq_left,Int.reducePow,or_lo' hn,or_lo' hnn,or_lo hn,or_lo hnn,InI64,InI32]) <;> omega) (.fs E s2 t2 l2 off2 wr2 cl2 ro2) [0,1,2,3,4,5,6,7,8,9,10,11,12,13,14,15] rfl rfl rfl rfl (hy)
set_option maxHeartbeats 16000000 in
theorem f203 (μ) (be : Nat × Nat) (hE : muAt μ 0 0 = some (EOFv be)) (B S : Nat → Int) (rn N cap p ps : Nat) (s : RdI) (t : WI) (d : Dat B rn N cap) (h : Sr B S N p ps s t) (H : Nat → Int) (wr rd n ro : Nat) (full : Bool) (a0 a1 a2 a3 : Int) (step : Nat) (st : Int) (fin0 fin : Bool) (tr : SV) (cl : Int) (htr : IsTr tr) (hw : wr < 32768) (hrd : rd ≤ wr) (hp : p + 5 + n ≤ N) (hn : n < 65536) (hro : ro < 288230376151711744) (hf : n = 0 → fin = true)
  (hb : B p = if fin then 1 else 0) (h0 : B (p + 1) = ((n % 256 : Nat) : Int)) (h1 : B (p + 2) = ((n / 256 : Nat) : Int)) (h2 : B (p + 3) = (((65535 - n) % 256 : Nat) : Int)) (h3 : B (p + 4) = (((65535 - n) / 256 : Nat) : Int)) :
  FunC Tryz.prog μ 203 [.ptr 11 0] (dcG B rn N cap p s t H (dcS 0 0 wr rd full a0 a1 a2 a3 step st fin0 (.v .nilIface) tr cl ro)) 15 16 (coI B S N (p + 5) (ps + 5) wr rd n (ro + 5) fin H) (coP be B rn N cap rd full ((n % 256 : Nat) : Int) ((n / 256 : Nat) : Int) (((65535 - n) % 256 : Nat) : Int) (((65535 - n) / 256 : Nat) : Int) st fin tr):=by
 have hN2:=d.hN2
 have htr2 : IsTr tr:=htr
 dsimp only [dcG,srG,List.cons_append,List.nil_append]
 have hb2 : B p = 0 ∨ B p = 1:=by cases fin <;> simp [hb]
 rcases fin with _ | _
 all_goals
  rcases htr with rfl | ⟨o,l,c,rfl⟩
  all_goals
   refine fE 103 Tryz.func203 fun zw zβ=>?_
   refine cF [0] ?_
   refine GC.seq (GC.block ?_)
   refine GC.loopU 3 ?_
   refine GC.seq ?_
   refine rS [0,7] ?_
   refine GC.condT rfl (GC.skip (GK.code (GC.block (GL.seqR ?_))))
   refine lK 2 [0,8,9] ?_
   refine GL.op rfl (cR rfl (f206 _ B S rn N cap p ps s t H wr rd full a0 a1 a2 a3 step st fin0 _ cl ro htr2 d h (by omega) hb2 ⟨by omega,by omega⟩) [0,1,2,3,4,5,6,7,8,9,10,11,12,13,14,15] rfl rfl rfl rfl fun x hx=>?_)
   obtain ⟨s',t'⟩:=x
   dsimp only at hx ⊢
   rw [hb]
   refine gF [0,8,10] rfl ?_
   refine lF [0] (GK.code ?_)
   refine rS [0,17] ?_
   refine GC.condF rfl (GC.skip ?_)
   refine GK.itr ?_
   refine GC.seq ?_
   refine rS [0,7] ?_
   refine GC.condF rfl ?_
   refine GC.exit ?_
   refine GK.code (GL.seqR ?_)
   refine lK 7 [0,18,24] ?_
   first | refine GL.boolS 24 false rfl (by decide) rfl ?_ | refine GL.boolS 24 true rfl (by decide) rfl ?_
   refine lK 1 [0,24,25] ?_
   refine lF [0] (GK.code ?_)
   refine rS [0] ?_
   refine rS [0,2] ?_
   refine rS [0,2] ?_
   refine rS [0,2] ?_
   refine rS [0,53] ?_
   refine GC.block ?_
   refine rS [0,53,62] ?_
   refine GC.boolS 62 true rfl (by decide) rfl ?_
   refine GC.condT rfl (GC.region ?_)
   refine lK 1 [64] ?_
   refine GL.op rfl (cR rfl (f207 _ be hE B S rn N cap (p + 1) (ps + 1) s' t' d hx H _ _ wr rd n (ro + 1) full _ _ _ _ step st _ _ cl htr2 hw hrd (by omega) hn (by omega) hf h0 h1 h2 h3) [0,1,2,3,4,5,6,7,8,9,10,11,12,13,14,15] rfl rfl rfl rfl fun y hy=>?_)
   rcases y with ⟨E,s2,t2,l2,off2,cl2,ro2⟩ | ⟨E,s2,t2,off2,wr2,cl2,ro2⟩ | ⟨E,s2,t2,off2,wr2,cl2,ro2⟩ | ⟨E,s2,t2,l2,off2,wr2,cl2,ro2⟩
   ·refine gF [] rfl ?_
    refine lF [] ?_
    refine fR (.inr rfl) rfl (by trivial) (.fl E s2 t2 l2 off2 cl2 ro2) [0,1,2,3,4,5,6,7,8,9,10,11,12,13,14,15] rfl rfl rfl rfl (hy)
   ·refine gF [] rfl ?_
    refine lF [] ?_
    refine fR (.inr rfl) rfl (by trivial) (.go E s2 t2 off2 wr2 cl2 ro2) [0,1,2,3,4,5,6,7,8,9,10,11,12,13,14,15] rfl rfl rfl rfl (hy)
   ·refine gF [] rfl ?_
    refine lF [] ?_
    refine fR (.inr rfl) rfl (by trivial) (.fe E s2 t2 off2 wr2 cl2 ro2) [0,1,2,3,4,5,6,7,8,9,10,11,12,13,14,15] rfl rfl rfl rfl (hy)
   ·refine gF [] rfl ?_
    refine lF [] ?_
    refine fR (.inr rfl) rfl (by trivial) (.fs E s2 t2 l2 off2 wr2 cl2 ro2) [0,1,2,3,4,5,6,7,8,9,10,11,12,13,14,15] rfl rfl rfl rfl (hy)
inductive Blk (B T : Nat → Int) : Nat → Nat → Nat → Nat → Prop
 | last {p c : Nat} (n : Nat) (hn : n < 65536) (hb : B p = 1) (h0 : B (p + 1) = ((n % 256 : Nat) : Int)) (h1 : B (p + 2) = ((n / 256 : Nat) : Int)) (h2 : B (p + 3) = (((65535 - n) % 256 : Nat) : Int)) (h3 : B (p + 4) = (((65535 - n) / 256 : Nat) : Int)) (hd : ∀ j,j < n → B (p + 5 + j) = T (c + j)) : Blk B T p c (p + 5 + n) (c + n)
 | more {p c pe L : Nat} (n : Nat) (hn : n < 65536) (hn0 : 0 < n) (hb : B p = 0) (h0 : B (p + 1) = ((n % 256 : Nat) : Int)) (h1 : B (p + 2) = ((n / 256 : Nat) : Int)) (h2 : B (p + 3) = (((65535 - n) % 256 : Nat) : Int)) (h3 : B (p + 4) = (((65535 - n) / 256 : Nat) : Int)) (hd : ∀ j,j < n → B (p + 5 + j) = T (c + j)) (h : Blk B T (p + 5 + n) (c + n) pe L) : Blk B T p c pe L
theorem Blk.le {B T : Nat → Int} {p c pe L : Nat} (h : Blk B T p c pe L) : p + 5 ≤ pe ∧ c ≤ L:=by
 induction h with
 | last n=>omega
 | more n _ _ _ _ _ _ _ _ _ ih=>omega
def Rst (B T : Nat → Int) (pe L : Nat) (fin : Bool) (p c : Nat) : Prop:=if fin then p = pe ∧ c = L else Blk B T p c pe L
theorem Rst.le {B T : Nat → Int} {pe L : Nat} {fin : Bool} {p c : Nat} (h : Rst B T pe L fin p c) : p ≤ pe:=by
 unfold Rst at h
 split at h
 ·omega
 ·have:=h.le; omega
inductive Md (B T : Nat → Int) (pe L : Nat) : Bool → Nat → Bool → Int → Nat → Nat → Prop
 | eof {st fin cl} : Md B T pe L true st fin cl pe L
 | blk {fin cl p c} (h : Blk B T p c pe L) : Md B T pe L false 203 fin cl p c
 | cpy {fin p c} (m : Nat) (hm : m < 65536) (hd : ∀ j,j < m → B (p + j) = T (c + j)) (h : Rst B T pe L fin (p + m) (c + m)) : Md B T pe L false 214 fin (m : Nat) p c
structure DSt (B T : Nat → Int) (pe L e p : Nat) (H : Nat → Int) (wr rd step : Nat) (fin eof : Bool) (cl : Int) (ro o l : Nat) : Prop where
 hr : rd ≤ wr
 hw : wr < 32768
 hH : ∀ j,j < wr - rd → H (rd + j) = T (e + l + j)
 hT : ∀ j,j < l → H (o + j) = T (e + j)
 ho : o + l ≤ 32768
 hro : ro ≤ p
 hp : p ≤ pe
 hm : Md B T pe L eof step fin cl p (e + l + (wr - rd))
 he : eof = true → wr = rd
structure SV0 where
 D : Nat → Int
 s : RdI
 t : WI
 p : Nat
 ps : Nat
 wr : Nat
 rd : Nat
 full : Bool
 b0 : Int
 b1 : Int
 b2 : Int
 b3 : Int
 step : Nat
 fin : Bool
 cl : Int
 ro : Nat
def SrD (dl : Int) (B S : Nat → Int) (N : Nat) (v : SV0) : Prop:=Sr B S N v.p v.ps v.s v.t ∧ (v.ps : Int) - (v.p : Int) = dl
def mesD (pe p step : Nat) : Nat:=2 * (pe - p) + (if step = 214 then 1 else 0)
inductive SO where
 | sn (v : SV0) (o l : Nat)
 | se (v : SV0) (o l : Nat)
 | an (v : SV0)
 | ae (v : SV0)
def soI (dl : Int) (B S T : Nat → Int) (N pe L e M : Nat) : SO → Prop
 | .sn v o l=>DSt B T pe L e v.p v.D v.wr v.rd v.step v.fin false v.cl v.ro o l ∧ 0 < l ∧ mesD pe v.p v.step < M ∧ SrD dl B S N v
 | .se v o l=>DSt B T pe L e v.p v.D v.wr v.rd v.step v.fin true v.cl v.ro o l ∧ mesD pe v.p v.step < M ∧ SrD dl B S N v
 | .an v=>(∀ o,o ≤ 32768 → DSt B T pe L e v.p v.D v.wr v.rd v.step v.fin false v.cl v.ro o 0) ∧ mesD pe v.p v.step < M ∧ SrD dl B S N v
 | .ae v=>(∀ o,o ≤ 32768 → DSt B T pe L e v.p v.D v.wr v.rd v.step v.fin true v.cl v.ro o 0) ∧ mesD pe v.p v.step < M ∧ SrD dl B S N v
def soG (be : Nat × Nat) (B : Nat → Int) (rn N cap : Nat) (st : Int) (tr : SV) : SO → GH
 | .sn v o l=>dcG B rn N cap (v.p : Nat) v.s v.t v.D (dcS 0 0 v.wr v.rd v.full v.b0 v.b1 v.b2 v.b3 v.step st v.fin (.v .nilIface) (.slc 14 o l (32768 - o)) v.cl v.ro)
 | .se v o l=>dcG B rn N cap (v.p : Nat) v.s v.t v.D (dcS 0 0 v.wr v.rd v.full v.b0 v.b1 v.b2 v.b3 v.step st v.fin (.v (EOFv be)) (.slc 14 o l (32768 - o)) v.cl v.ro)
 | .an v=>dcG B rn N cap (v.p : Nat) v.s v.t v.D (dcS 0 0 v.wr v.rd v.full v.b0 v.b1 v.b2 v.b3 v.step st v.fin (.v .nilIface) tr v.cl v.ro)
 | .ae v=>dcG B rn N cap (v.p : Nat) v.s v.t v.D (dcS 0 0 v.wr v.rd v.full v.b0 v.b1 v.b2 v.b3 v.step st v.fin (.v (EOFv be)) tr v.cl v.ro)
def soP (be : Nat × Nat) (B : Nat → Int) (rn N cap : Nat) (st : Int) (tr : SV) (i : SO) : Post:=⟨.tup [],soG be B rn N cap st tr i,16⟩
theorem co_so (be : Nat × Nat) {dl : Int} {B S T : Nat → Int} {rn N cap pe L e M p ps wr rd m ro : Nat} {full fin : Bool} {b0 b1 b2 b3 st : Int} {tr : SV} {H : Nat → Int} (hrd : rd ≤ wr) (hw : wr < 32768) (hH : ∀ j,j < wr - rd → H (rd + j) = T (e + j)) (hd : ∀ j,j < m → B (p + j) = T (e + (wr - rd) + j))
  (hend : Rst B T pe L fin (p + m) (e + (wr - rd) + m)) (hro : ro ≤ p) (hm : m < 65536) (hM : 2 * (pe - p) < M) (hdl : (ps : Int) - (p : Int) = dl) : ∀ i,coI B S N p ps wr rd m ro fin H i → ∃ i',soI dl B S T N pe L e M i' ∧ coP be B rn N cap rd full b0 b1 b2 b3 st fin tr i = soP be B rn N cap st tr i':=by
 have hpe:=hend.le
 have hofs : offS 32768 rd 0 1 = rd:=by rw [offS_lt (by omega),Nat.zero_add]
 have hold : ∀ (n : Nat) (D : Nat → Int),(∀ j,D j = if wr ≤ j ∧ j < wr + n then B (p + (j - wr)) else H j) → n ≤ m → ∀ j,j < wr + n - rd → D (rd + j) = T (e + j):=by
  intro n D hD hn j hj
  rw [hD]
  by_cases h : wr ≤ rd + j
  ·rw [if_pos (by omega),hd _ (by omega)]; congr 1; omega
  ·rw [if_neg (by omega),hH _ (by omega)]
 rintro (⟨D,s,t,l,off,cl,ro'⟩ | ⟨D,s,t,off,w,cl,ro'⟩ | ⟨D,s,t,off,w,cl,ro'⟩ | ⟨D,s,t,l,off,w,cl,ro'⟩) hi
 ·obtain ⟨h1,rfl,rfl,hD,hs,rfl,rfl⟩:=hi
  refine ⟨.sn ⟨D,s,t,p + (32768 - wr),ps + (32768 - wr),0,0,true,b0,b1,b2,b3,214,fin,((m - (32768 - wr) : Nat) : Int),ro + (32768 - wr)⟩ rd (32768 - rd),⟨⟨by dsimp only; omega,by dsimp only; omega,fun j hj=>?_,fun j hj=>?_,by omega,by dsimp only; omega,by dsimp only; omega,?_,fun h=>by cases h⟩,by omega,?_,hs,by dsimp only; omega⟩,?_⟩
  ·dsimp only at hj; omega
  ·exact hold _ D hD h1 j (by omega)
  ·dsimp only
   refine .cpy _ (by omega) (fun j hj=>?_) ?_
   ·rw [Nat.add_assoc,hd _ (by omega)]; congr 1; omega
   ·rw [show p + (32768 - wr) + (m - (32768 - wr)) = p + m from by omega,show e + (32768 - rd) + (0 - 0) + (m - (32768 - wr)) = e + (wr - rd) + m from by omega]; exact hend
  ·dsimp only [mesD]; rw [if_pos rfl]; omega
  ·unfold coP soP coG soG; rw [hofs]; rfl
 ·obtain ⟨rfl,h1,rfl,hD,hs,rfl,rfl⟩:=hi
  refine ⟨.an ⟨D,s,t,p + m,ps + m,wr + m,rd,full,b0,b1,b2,b3,203,false,cl,ro + m⟩,⟨fun o ho=>⟨by dsimp only; omega,by dsimp only; omega,fun j hj=>?_,fun j hj=>by omega,by omega,by dsimp only; omega,by dsimp only; omega,?_,fun h=>by cases h⟩,?_,hs,by dsimp only; omega⟩,?_⟩
  ·dsimp only at hj ⊢; exact hold _ D hD (Nat.le_refl _) j (by omega)
  ·dsimp only
   refine .blk ?_
   rw [show e + 0 + (wr + m - rd) = e + (wr - rd) + m from by omega]; exact hend
  ·dsimp only [mesD]; rw [if_neg (by omega)]; omega
  ·rfl
 ·obtain ⟨rfl,rfl,rfl,rfl,hD,hs,rfl,rfl⟩:=hi
  refine ⟨.ae ⟨D,s,t,p + 0,ps + 0,wr,wr,full,b0,b1,b2,b3,203,true,cl,ro + 0⟩,⟨fun o ho=>⟨by dsimp only; omega,by dsimp only; omega,fun j hj=>?_,fun j hj=>by omega,by omega,by dsimp only; omega,by dsimp only; omega,?_,fun h=>rfl⟩,?_,hs,by dsimp only; omega⟩,?_⟩
  ·dsimp only at hj; omega
  ·dsimp only
   unfold Rst at hend
   rw [if_pos rfl] at hend
   obtain ⟨h1,h2⟩:=hend
   rw [h1,show e + 0 + (wr - wr) = L from by omega]; exact .eof
  ·dsimp only [mesD]; rw [if_neg (by omega)]; omega
  ·rfl
 ·obtain ⟨rfl,h1,rfl,rfl,hD,hs,rfl,rfl⟩:=hi
  refine ⟨.se ⟨D,s,t,p + m,ps + m,wr + m,wr + m,full,b0,b1,b2,b3,203,true,cl,ro + m⟩ rd (wr + m - rd),⟨⟨by dsimp only; omega,by dsimp only; omega,fun j hj=>?_,fun j hj=>?_,by omega,by dsimp only; omega,by dsimp only; omega,?_,fun h=>rfl⟩,?_,hs,by dsimp only; omega⟩,?_⟩
  ·dsimp only at hj; omega
  ·exact hold _ D hD (Nat.le_refl _) j (by omega)
  ·dsimp only
   unfold Rst at hend
   rw [if_pos rfl] at hend
   obtain ⟨h2,h3⟩:=hend
   rw [h2,show e + (wr + m - rd) + (wr + m - (wr + m)) = L from by omega]; exact .eof
  ·dsimp only [mesD]; rw [if_neg (by omega)]; omega
  ·unfold coP soP coG soG; rw [hofs]
theorem fstep (μ) (dl : Int) (be : Nat × Nat) (hE : muAt μ 0 0 = some (EOFv be)) (B S T : Nat → Int) (rn N cap pe L e p ps : Nat) (s : RdI) (t : WI) (d : Dat B rn N cap) (h : Sr B S N p ps s t) (hdl : (ps : Int) - (p : Int) = dl) (H : Nat → Int) (wr rd ro o : Nat) (full : Bool) (b0 b1 b2 b3 : Int) (step : Nat) (st : Int) (fin : Bool) (tr : SV) (cl : Int) (htr : IsTr tr) (hpe : pe ≤ N)
  (hD : DSt B T pe L e p H wr rd step fin false cl ro o 0) :
  FunC Tryz.prog μ step [.ptr 11 0] (dcG B rn N cap p s t H (dcS 0 0 wr rd full b0 b1 b2 b3 step st fin (.v .nilIface) tr cl ro)) 15 16 (soI dl B S T N pe L e (mesD pe p step)) (soP be B rn N cap st tr):=by
 have hN2:=d.hN2
 have hro:=hD.hro
 have hpp:=hD.hp
 have hH:=hD.hH
 rw [Nat.add_zero] at hH
 have hm:=hD.hm
 generalize hc : e + 0 + (wr - rd) = c at hm
 rw [Nat.add_zero] at hc
 generalize hef : false = eof at hm
 cases hm with
 | eof=>cases hef
 | blk hb =>
  cases hb with
  | last n hn hb h0 h1 h2 h3 hd =>
   exact (f203 μ be hE B S rn N cap p ps s t d h H wr rd n ro full b0 b1 b2 b3 203 st fin true tr cl htr hD.hw hD.hr (by omega) hn (by omega) (fun _=>rfl) (by rw [hb]; rfl) h0 h1 h2 h3).map (co_so be hD.hr hD.hw hH (by rw [hc]; exact hd) (by unfold Rst; rw [if_pos rfl,hc]; exact ⟨rfl,rfl⟩) (by omega) hn (by unfold mesD; omega) (by omega))
  | more n hn hn0 hb h0 h1 h2 h3 hd hk =>
   have:=hk.le
   exact (f203 μ be hE B S rn N cap p ps s t d h H wr rd n ro full b0 b1 b2 b3 203 st fin false tr cl htr hD.hw hD.hr (by omega) hn (by omega) (fun _=>by omega) (by rw [hb]; rfl) h0 h1 h2 h3).map (co_so be hD.hr hD.hw hH (by rw [hc]; exact hd) (by unfold Rst; rw [if_neg (by decide),hc]; exact hk) (by omega) hn (by unfold mesD; omega) (by omega))
 | cpy m hm hd hk =>
  have:=hk.le
  exact (f214 μ be hE B S rn N cap p ps s t d h H wr rd m ro full b0 b1 b2 b3 214 st fin tr htr hD.hw hD.hr (by omega) hm (by omega)).map (co_so be hD.hr hD.hw hH (by rw [hc]; exact hd) (by rw [hc]; exact hk) (by omega) hm (by unfold mesD; rw [if_pos rfl]; omega) hdl)
end Go.Proofs.YtebadfmnmhmfeaaGreatDoor.T
