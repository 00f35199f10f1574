/- What the functions of the program do, one contract each (P80); each states its own conditions. -/
import Derived.Test.YtebadfmnmhmfeaaGreatDoorP18
namespace Go.Proofs.YtebadfmnmhmfeaaGreatDoor.T
open Go.Proofs.YtebadfmnmhmfeaaGreatDoor.Sx Go.RowKit
set_option maxRecDepth 20000
set_option linter.unusedSimpArgs false
set_option linter.unusedVariables false
set_option linter.unnecessarySimpa false
set_option linter.unusedSectionVars false
def bsF (j : Nat) : Int:=if j = 0 then 98 else if j = 1 then 97 else if j = 2 then 115 else 101
def dlF (j : Nat) : Int:=if j = 0 then 4 else if j = 1 then 6 else if j = 2 then 144 else if j = 3 then 4 else if j = 4 then 2 else if j = 5 then 45 else 33
def ouF (j : Nat) : Int:=if j < 4 then bsF j else dlF (j + 1)
theorem ou_get {F : Nat → Int} {o : Nat} (g3 : ∀ j,j < 4 → F (o + j) = bsF j) (g4 : ∀ j,j < 2 → F (o + 4 + j) = dlF (5 + j)) : ∀ j,j < 6 → F (o + j) = ouF j:=by
 intro j hj
 by_cases e : j < 4
 ·rw [g3 j e]; unfold ouF; rw [if_pos e]
 ·have h:=g4 (j - 4) (by omega)
  rw [show o + 4 + (j - 4) = o + j from by omega,show 5 + (j - 4) = j + 1 from by omega] at h
  rw [h]; unfold ouF; rw [if_neg e]
theorem f6 (μ) (b1 o1 c1 b2 o2 c2 : Nat) (t1 : Tbl μ 12 b1 o1 4 c1 mkO shO) (t2 : Tbl μ 13 b2 o2 3 c2 mkS shO) : Dlt μ:=by
 refine fE 16 Tryz.func6 fun zw zβ=>?_
 refine cF [12,13,14] ?_
 refine rS [12,13,14] ?_
 refine GL.seqR ?_
 refine lK 1 [4,12,13,14] ?_
 refine GL.op rfl (OpW.convB rfl rfl rfl rfl (by decide) rfl rfl ?_)
 refine gF [5,12,13,14] rfl ?_
 refine lK 1 [5,6,12,13,14] ?_
 refine GL.cvR 0 ⟨.ints .u8 bsF,4,5⟩ rfl rfl rfl (fun i hi=>by have : i < 4:=hi; match i,this with | 0,_=>rfl | 1,_=>rfl | 2,_=>rfl | 3,_=>rfl | n + 4,h=>exact absurd h (by omega)) rfl ?_
 refine GL.cvR 1 ⟨.ints .u8 dlF,7,5⟩ rfl rfl rfl (fun i hi=>by have : i < 7:=hi; match i,this with | 0,_=>rfl | 1,_=>rfl | 2,_=>rfl | 3,_=>rfl | 4,_=>rfl | 5,_=>rfl | 6,_=>rfl | n + 7,h=>exact absurd h (by omega)) rfl ?_
 refine GL.op rfl (cR rfl (f13 _ b1 o1 c1 b2 o2 c2 t1 t2 bsF dlF rfl rfl rfl rfl rfl rfl rfl) [0,1] rfl rfl rfl rfl ?_)
 intro ⟨o,c,rn,F⟩ ⟨g1,g2,g3,g4⟩
 dsimp only at g1 g2 g3 g4 ⊢
 have gu:=ou_get g3 g4
 refine gF [7,12,13,14] rfl ?_
 refine lF [1,2,12,13,14] (GK.code ?_)
 refine GL.seqR ?_
 refine lK 3 [11,12,13,14] ?_
 refine GL.opG rfl rfl (OpW.lstep (LStep.str (n:=6) (N:=ouF) rfl rfl rfl rfl (slc_slice rfl) (src_slc (sz:=1) rfl rfl (by show o + 6 * 1 ≤ rn; omega) (fun j hj=>congrArg (fun z=>SV.v (.int .u8 z)) (gu j (by omega))))) rfl (gF [11,13,14] rfl ?_))
 refine lF [0] (GK.code ?_)
 refine GC.ret ?_
 refine GK.boolS 0 true rfl (by kernel_rfl) rfl ?_
 refine fR (.inl rfl) rfl (by trivial) () [] rfl rfl rfl rfl (trivial)
end Go.Proofs.YtebadfmnmhmfeaaGreatDoor.T
