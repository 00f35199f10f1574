/- What the functions of the program do, one contract each (P34, P46, P56, P57); each states its own conditions. -/
import Derived.Test.YtebadfmnmhmfeaaGreatDoorP9
namespace Go.Proofs.YtebadfmnmhmfeaaGreatDoor.T
open Go.Proofs.YtebadfmnmhmfeaaGreatDoor.Sx Go.RowKit
set_option maxRecDepth 20000
set_option linter.unusedSimpArgs false
set_option linter.unusedVariables false
set_option linter.unnecessarySimpa false
set_option linter.unusedSectionVars false
theorem wpOpsS_recover {P : Program} {ops : Array Oper} {Q : Exit → Act → List Frame → World → Prop} {i : Nat} {rest : List Nat} {a : Act} {cs : List Frame} {w : World} {o : Oper} (ho : ops[i]? = some o) (hw : Region.wanted o (yielded ops a.tmps) = true) (hr : (execOp a.eval o).run P w = .ok .recover w) (hn : recoverD cs = none) (h : wpOpsS P ops Q rest (a.put o.dst .nilIface) cs w) : wpOpsS P ops Q (i :: rest) a cs w:=by
 simp only [wpOpsS,ho,hw,if_true,hr,hn]; exact h
theorem wpOpsS_value {P : Program} {ops : Array Oper} {Q : Exit → Act → List Frame → World → Prop} {i : Nat} {rest : List Nat} {a : Act} {cs : List Frame} {w : World} {o : Oper} {v : Value} (ho : ops[i]? = some o) (hw : Region.wanted o (yielded ops a.tmps) = true) (hr : (execOp a.eval o).run P w = .ok (.value v) w) (h : wpOpsS P ops Q rest (a.put o.dst v) cs w) : wpOpsS P ops Q (i :: rest) a cs w:=by
 simp only [wpOpsS,ho,hw,if_true,hr,Oper.upon]; exact h
theorem f164 (μ) : FunR Tryz.prog μ 164 [] [] 0 0 (fun _ : Unit=>True) (fun _=>⟨.tup [],[],0⟩):=by
 refine ⟨isGo Tryz.func164 rfl rfl,fun w β vs hm hr=>?_⟩
 cases hr
 refine callsD_of_wpS Tryz.func164 rfl fun c₀ cs hu=>?_
 have hrec : recoverD (c₀ :: cs) = none:=by simp only [recoverD,hu]
 refine wpS_seq (wpS_region ?_)
 have e1 : ∀ x,(execOp x { dst:=some 0,op:=Op.call { callee:=Callee.builtin Builtin.recover,args:=#[],argTypes:=#[] },type:=20,pos:= "buffer.go:249",after:=#[],guard:=none }).run Tryz.prog w = .ok .recover w:=fun x=>rfl
 have e2 : (execOp (({ tmps:=#[.nilIface,undef,undef],defers:=[] } : Act)).eval { dst:=some 1,op:=Op.binOp BinOp.neq 20 (.tmp 0) (.const .nilIface) 20,type:=4,pos:= "buffer.go:249",after:=#[{ on:=0,ground:=Ground.data }],guard:=none }).run Tryz.prog w = .ok (.value (.bool false)) w:=by
  obtain ⟨v,h1,h2⟩:=VStep.bin (X:=⟨Tryz.prog,tab,tabOK,3,mc μ w 0 0 β []⟩) (ρ:=[(0,.v .nilIface)]) (o:={ dst:=some 1,op:=Op.binOp BinOp.neq 20 (.tmp 0) (.const .nilIface) 20,type:=4,pos:= "buffer.go:249",after:=#[{ on:=0,ground:=Ground.data }],guard:=none }) (c:=True) (r:=.v (.bool false)) rfl rfl trivial β { tmps:=#[.nilIface,undef,undef],defers:=[] } ⟨rfl,fun i=>by
   match i with
   | 0=>exact .v _
   | i + 1=>exact .any _⟩
  have:=rep_v h2
  subst this
  exact h1 w
 refine wpOpsS_recover rfl rfl (e1 _) hrec ?_
 refine wpOpsS_value rfl rfl e2 ?_
 show Code.wpS _ _ _ _ _ _
 refine wpS_cond (t:=false) rfl ?_
 refine wpS_of_wp (wp_skip ?_)
 exact ⟨rfl,.returning,by rw [← hu],.tuple #[],(by simp [results,Tryz.f164]),rfl,_,(),β,rfl,trivial,.tup .nil,hm⟩
def bfR (x : SV) (off lr : Int) : Row:=⟨.lst [x,.v (.int .i64 off),.v (.int .i8 lr)],3,138⟩
theorem f132s (μ) (F : Nat → Int) (o l c rn n : Nat) (off lr : Int) (hn : l + n ≤ c) (hc : c < 9223372036854775808) : Fun Tryz.prog μ 132 [.ptr 0 0,.v (.int .i64 n)] [(0,.row (bfR (.slc 1 o l c) off lr)),(1,.row ⟨.ints .u8 F,rn,5⟩)] 2
  (fun _ : Unit=>True) (fun _=>⟨.tup [.v (.int .i64 l),.v (.bool true)],[(0,.row (bfR (.slc 1 o (l + n) c) off lr)),(1,.row ⟨.ints .u8 F,rn,5⟩)],2⟩):=by
 refine fE 33 Tryz.func132 fun zw zβ=>?_
 refine cF [0,1] ?_
 refine rS [0,1] ?_
 refine GC.seq ?_
 refine rS [0,1,6] ?_
 refine rS [0,1,6,20] ?_
 refine GC.cond rfl (fun hq=>?_) (fun hq=>?_)
 ·have hq : (n : Int) ≤ (c : Int) - l:=by simpa using hq
  refine rS [6] ?_
  rw [offS_zero]
  refine rS [4,5] ?_
  refine GC.ret ?_
  refine fR (.inl rfl) rfl (by trivial) () [0,1] rfl rfl rfl rfl (trivial)
 ·have hq : ¬ ((n : Int) ≤ (c : Int) - l):=by simpa using hq
  omega
theorem f132f (μ) (F : Nat → Int) (o l c rn n : Nat) (off lr : Int) (hl : l ≤ c) (hn : c < l + n) (hc : c < 9223372036854775808) : Fun Tryz.prog μ 132 [.ptr 0 0,.v (.int .i64 n)] [(0,.row (bfR (.slc 1 o l c) off lr)),(1,.row ⟨.ints .u8 F,rn,5⟩)] 2
  (fun _ : Unit=>True) (fun _=>⟨.tup [.v (.int .i64 0),.v (.bool false)],[(0,.row (bfR (.slc 1 o l c) off lr)),(1,.row ⟨.ints .u8 F,rn,5⟩)],2⟩):=by
 refine fE 33 Tryz.func132 fun zw zβ=>?_
 refine cF [0,1] ?_
 refine rS [0,1] ?_
 refine GC.seq ?_
 refine rS [0,1,6] ?_
 refine rS [0,1,6,20] ?_
 refine GC.cond rfl (fun hq=>?_) (fun hq=>?_)
 ·have hq : (n : Int) ≤ (c : Int) - l:=by simpa using hq
  omega
 ·have hq : ¬ ((n : Int) ≤ (c : Int) - l):=by simpa using hq
  refine GC.skip (GK.code ?_)
  refine rS [4,5] ?_
  refine GC.ret ?_
  refine fR (.inl rfl) rfl (by trivial) () [0,1] rfl rfl rfl rfl (trivial)
theorem f132n0 (μ) (off lr : Int) : Fun Tryz.prog μ 132 [.ptr 0 0,.v (.int .i64 0)] [(0,.row (bfR (.v (.slice none 0 0)) off lr))] 1
  (fun _ : Unit=>True) (fun _=>⟨.tup [.v (.int .i64 0),.v (.bool true)],[(0,.row (bfR (.v (.slice none 0 0)) off lr))],1⟩):=by
 refine fE 33 Tryz.func132 fun zw zβ=>?_
 refine cF [0,1] ?_
 refine rS [0,1] ?_
 refine GC.seq ?_
 refine rS [0,1,6] ?_
 refine rS [0,1,6,20] ?_
 refine GC.condT rfl ?_
 refine rS [6] ?_
 refine rS [4,5] ?_
 refine GC.ret ?_
 refine fR (.inl rfl) rfl (by trivial) () [0] rfl rfl rfl rfl (trivial)
theorem f132nf (μ) (n : Nat) (off lr : Int) (hn : 0 < n) : Fun Tryz.prog μ 132 [.ptr 0 0,.v (.int .i64 n)] [(0,.row (bfR (.v (.slice none 0 0)) off lr))] 1
  (fun _ : Unit=>True) (fun _=>⟨.tup [.v (.int .i64 0),.v (.bool false)],[(0,.row (bfR (.v (.slice none 0 0)) off lr))],1⟩):=by
 refine fE 33 Tryz.func132 fun zw zβ=>?_
 refine cF [0,1] ?_
 refine rS [0,1] ?_
 refine GC.seq ?_
 refine rS [0,1,6] ?_
 refine rS [0,1,6,20] ?_
 refine GC.cond rfl (fun hq=>?_) (fun hq=>?_)
 ·have hq : (n : Int) ≤ 0:=by simpa using hq
  omega
 ·have hq : ¬ ((n : Int) ≤ 0):=by simpa using hq
  refine GC.skip (GK.code ?_)
  refine rS [4,5] ?_
  refine GC.ret ?_
  refine fR (.inl rfl) rfl (by trivial) () [0] rfl rfl rfl rfl (trivial)
theorem f124s (μ) (F : Nat → Int) (o l c rn : Nat) (off : Nat) (lr : Int) (hl : l < 9223372036854775808) (ho : off ≤ l) : Fun Tryz.prog μ 124 [.ptr 0 0] [(0,.row (bfR (.slc 1 o l c) off lr)),(1,.row ⟨.ints .u8 F,rn,5⟩)] 2
  (fun _ : Unit=>True) (fun _=>⟨.v (.int .i64 ((l : Int) - off)),[(0,.row (bfR (.slc 1 o l c) off lr)),(1,.row ⟨.ints .u8 F,rn,5⟩)],2⟩):=by
 refine fE 13 Tryz.func124 fun zw zβ=>?_
 refine cF [0] ?_
 refine rS [0] ?_
 refine GC.seq (GC.draw [(0,0),(1,0),(2,0),(5,0),(6,0),(7,0),(3,1),(4,0),(8,1),(9,0),(10,0)] mixed (by kernel_rfl) (by rintro _ _ _ _ ⟨_,_,_,_,h,_⟩ _; cases h) ?_)
 refine wF [2] (GK.code ?_)
 refine GC.ret ?_
 refine fR (.inl rfl) rfl (by trivial) () [0,1] rfl rfl rfl rfl (trivial)
theorem f124n (μ) (lr : Int) : Fun Tryz.prog μ 124 [.ptr 0 0] [(0,.row (bfR (.v (.slice none 0 0)) 0 lr))] 1
  (fun _ : Unit=>True) (fun _=>⟨.v (.int .i64 0),[(0,.row (bfR (.v (.slice none 0 0)) 0 lr))],1⟩):=by
 refine fE 13 Tryz.func124 fun zw zβ=>?_
 refine cF [0] ?_
 refine rS [0] ?_
 refine GC.seq (GC.draw [(0,0),(1,0),(2,0),(5,0),(6,0),(7,0),(3,1),(4,0),(8,1),(9,0),(10,0)] mixed (by kernel_rfl) (by rintro _ _ _ _ ⟨_,_,_,_,h,_⟩ _; cases h) ?_)
 refine wF [2] (GK.code ?_)
 refine GC.ret ?_
 refine fR (.inl rfl) rfl (by trivial) () [0] rfl rfl rfl rfl (trivial)
theorem f72s (μ) (F : Nat → Int) (o l c rn : Nat) (off lr : Int) : Fun Tryz.prog μ 72 [.ptr 0 0] [(0,.row (bfR (.slc 1 o l c) off lr)),(1,.row ⟨.ints .u8 F,rn,5⟩)] 2
  (fun _ : Unit=>True) (fun _=>⟨.tup [],[(0,.row (bfR (.slc 1 o 0 c) 0 0)),(1,.row ⟨.ints .u8 F,rn,5⟩)],2⟩):=by
 refine fE 16 Tryz.func72 fun zw zβ=>?_
 refine cF [0] ?_
 refine rS [0] ?_
 rw [offS_zero]
 refine rS [0] ?_
 refine rG [] ?_
 refine fR (.inr rfl) rfl (by trivial) () [0,1] rfl rfl rfl rfl (trivial)
theorem f72n (μ) (off lr : Int) : Fun Tryz.prog μ 72 [.ptr 0 0] [(0,.row (bfR (.v (.slice none 0 0)) off lr))] 1
  (fun _ : Unit=>True) (fun _=>⟨.tup [],[(0,.row (bfR (.v (.slice none 0 0)) 0 0))],1⟩):=by
 refine fE 16 Tryz.func72 fun zw zβ=>?_
 refine cF [0] ?_
 refine rS [0] ?_
 refine rS [0] ?_
 refine rG [] ?_
 refine fR (.inr rfl) rfl (by trivial) () [0] rfl rfl rfl rfl (trivial)
theorem f74 (μ) (n : Nat) (hn : n ≤ 1048576) : Fun Tryz.prog μ 74 [.v (.int .i64 n)] [] 0
  (fun _ : Unit=>True) (fun _=>⟨.v (.int .i64 n),[],0⟩):=by
 refine fE 10 Tryz.func74 fun zw zβ=>?_
 refine cF [0] ?_
 refine rS [0] ?_
 refine GC.block ?_
 refine rS [0,4] ?_
 refine GC.cond rfl (fun hz=>?_) (fun hz=>?_)
 ·have hz : (n : Int) ≤ 0:=by simpa using hz
  obtain rfl : n = 0:=by omega
  refine rS [2] ?_
  refine GC.ret ?_
  refine fR (.inl rfl) rfl (by trivial) () [] rfl rfl rfl rfl (trivial)
 ·have hz : ¬ ((n : Int) ≤ 0):=by simpa using hz
  refine rS [0,7] ?_
  refine GC.cond rfl (fun hz2=>?_) (fun hz2=>?_)
  ·have hz2 : (1073741824 : Int) < n:=by simpa using hz2
   omega
  ·have hz2 : ¬ ((1073741824 : Int) < n):=by simpa using hz2
   refine rS [2] ?_
   refine GC.ret ?_
   refine fR (.inl rfl) rfl (by trivial) () [] rfl rfl rfl rfl (trivial)
theorem f142s (μ) (F : Nat → Int) (o c rn n : Nat) (hn : 0 < n) (hn2 : n ≤ 1048576) (hc : c ≤ 549755813888) (hr : o + c ≤ rn) : Fun Tryz.prog μ 142 [.slc 0 o 0 c,.v (.int .i64 n)] [(0,.row ⟨.ints .u8 F,rn,5⟩)] 1
  (fun c' : Nat=>n ≤ c' ∧ c' < 9223372036854775808) (fun c'=>⟨.slc 1 0 0 c',[(0,.row ⟨.ints .u8 F,rn,5⟩),(1,.row ⟨.ints .u8 fun _=>0,c',5⟩)],2⟩):=by
 refine Fun.enterDf (T:=tab) (ok:=tabOK) (n:=28) Tryz.func142 rfl rfl rfl rfl fun zw zβ=>?_
 refine cF [0,1] ?_
 refine rS [0,1] ?_
 refine GL.seqR ?_
 refine GL.op rfl (OpW.defer rfl rfl ?_)
 refine gF [0,1] rfl ?_
 refine lF [0,1] (GK.code ?_)
 refine rS [0,5] ?_
 refine GC.seq ?_
 refine rS [0,5,16] ?_
 refine GC.cond rfl (fun hc2=>?_) (fun hc2=>?_)
 ·have hc2 : ((0 : Nat) : Int) + n < 2 * c:=by simpa using hc2
  refine rG [0,5] ?_
  refine GK.code (GL.seqR ?_)
  refine lK 1 [0,20] ?_
  refine GL.op rfl (OpW.appendMk (c:=2 * c) rfl rfl rfl rfl rfl rfl rfl rfl rfl (by omega) (by omega) (fun _=>rfl) ?_)
  intro c' h1 h2
  refine gF [0,21] rfl ?_
  refine lF [0,6] (GK.code ?_)
  refine GL.seqR ?_
  refine lK 2 [6,22,23] ?_
  refine GL.op rfl (OpW.copyI (m:=0) (N:=fun _=>0) rfl rfl rfl rfl rfl rfl (by omega) (src_slc rfl rfl (by show o + 0 * 1 ≤ rn; omega) (fun j hj=>by omega)) rfl ?_)
  refine gF [6,24] rfl ?_
  refine lF [6,7] (GK.code ?_)
  refine rS [4] ?_
  refine GC.ret ?_
  rw [offS_zero,Nat.zero_min]
  refine GK.popR (.inl rfl) rfl (f164 _) [] rfl rfl rfl fun _ _=>?_
  refine fD (.inl rfl) rfl (by trivial) (c') [0,1] rfl rfl rfl rfl (⟨by omega,h2⟩)
 ·have hc2 : ¬ (((0 : Nat) : Int) + n < 2 * c):=by simpa using hc2
  refine GC.skip (GK.code (GL.seqR ?_))
  refine lK 1 [0,20] ?_
  refine GL.op rfl (OpW.appendMk (c:=0 + n) rfl rfl rfl rfl rfl rfl rfl rfl rfl (by omega) (by omega) (fun _=>rfl) ?_)
  intro c' h1 h2
  refine gF [0,21] rfl ?_
  refine lF [0,6] (GK.code ?_)
  refine GL.seqR ?_
  refine lK 2 [6,22,23] ?_
  refine GL.op rfl (OpW.copyI (m:=0) (N:=fun _=>0) rfl rfl rfl rfl rfl rfl (by omega) (src_slc rfl rfl (by show o + 0 * 1 ≤ rn; omega) (fun j hj=>by omega)) rfl ?_)
  refine gF [6,24] rfl ?_
  refine lF [6,7] (GK.code ?_)
  refine rS [4] ?_
  refine GC.ret ?_
  rw [offS_zero,Nat.zero_min]
  refine GK.popR (.inl rfl) rfl (f164 _) [] rfl rfl rfl fun _ _=>?_
  refine fD (.inl rfl) rfl (by trivial) (c') [0,1] rfl rfl rfl rfl (⟨by omega,h2⟩)
theorem f142n (μ) (n : Nat) (hn : 0 < n) (hn2 : n ≤ 1048576) : Fun Tryz.prog μ 142 [(.v (.slice none 0 0)),.v (.int .i64 n)] [] 0
  (fun c' : Nat=>n ≤ c' ∧ c' < 9223372036854775808) (fun c'=>⟨.slc 0 0 0 c',[(0,.row ⟨.ints .u8 fun _=>0,c',5⟩)],1⟩):=by
 refine Fun.enterDf (T:=tab) (ok:=tabOK) (n:=28) Tryz.func142 rfl rfl rfl rfl fun zw zβ=>?_
 refine cF [0,1] ?_
 refine rS [0,1] ?_
 refine GL.seqR ?_
 refine GL.op rfl (OpW.defer rfl rfl ?_)
 refine gF [0,1] rfl ?_
 refine lF [0,1] (GK.code ?_)
 refine rS [0,5] ?_
 refine GC.seq ?_
 refine rS [0,5,16] ?_
 refine GC.cond rfl (fun hc2=>?_) (fun hc2=>?_)
 ·have hc2 : ((0 : Nat) : Int) + n < 0:=by simpa using hc2
  omega
 ·have hc2 : ¬ (((0 : Nat) : Int) + n < 0):=by simpa using hc2
  refine GC.skip (GK.code (GL.seqR ?_))
  refine lK 1 [0,20] ?_
  refine GL.op rfl (OpW.appendMk (c:=0 + n) rfl rfl rfl rfl rfl rfl rfl rfl rfl (by omega) (by omega) (fun _=>rfl) ?_)
  intro c' h1 h2
  refine gF [0,21] rfl ?_
  refine lF [0,6] (GK.code ?_)
  refine GL.seqR ?_
  refine lK 2 [6,22,23] ?_
  refine GL.op rfl (OpW.copyI (m:=0) (N:=fun _=>0) rfl rfl rfl rfl rfl rfl (by omega) (src_nil rfl) rfl ?_)
  refine gF [6,24] rfl ?_
  refine lF [6,7] (GK.code ?_)
  refine rS [4] ?_
  refine GC.ret ?_
  rw [offS_zero,Nat.zero_min]
  refine GK.popR (.inl rfl) rfl (f164 _) [] rfl rfl rfl fun _ _=>?_
  refine fD (.inl rfl) rfl (by trivial) (c') [0] rfl rfl rfl rfl (⟨by omega,h2⟩)
theorem f114s (μ) (F : Nat → Int) (o c rn n : Nat) (lr : Int) (hn2 : n ≤ 1048576) (hc0 : 0 < c) (hc : c < 9223372036854775808) (hr : o + c ≤ rn) : FunC Tryz.prog μ 114 [.ptr 0 0,.v (.int .i64 n)] [(0,.row (bfR (.slc 1 o 0 c) 0 lr)),(1,.row ⟨.ints .u8 F,rn,5⟩)] 1 2
  (fun x : Nat × Nat × Nat × (Nat → Int)=>n ≤ x.2.1 ∧ 0 < x.2.1 ∧ x.1 + x.2.1 ≤ x.2.2.1 ∧ x.2.1 < 9223372036854775808) (fun x=>⟨.v (.int .i64 0),[(0,.row (bfR (.slc 1 x.1 n x.2.1) 0 lr)),(1,.row ⟨.ints .u8 x.2.2.2,x.2.2.1,5⟩)],2⟩):=by
 refine fE 110 Tryz.func114 fun zw zβ=>?_
 refine cF [0,1,14,15,16,17,18,36,37] ?_
 refine rS [0,1,14,15,16,17,18,36,37] ?_
 refine GL.seqR ?_
 refine lK 1 [0,1,9,14,15,16,17,18,36,37] ?_
 refine GL.op rfl (cR rfl (f124s _ F o 0 c rn 0 lr (by omega) (by omega)) [0,1] rfl rfl rfl rfl fun _ _=>?_)
 refine gF [0,1,10,14,15,16,17,18,36,37] rfl ?_
 refine lF [0,1,5,14,15,16,17,18,36,37] (GK.code ?_)
 refine GC.seq (GL.seqR ?_)
 refine lK 3 [0,1,5,13,14,15,16,17,18,36,37] ?_
 refine GL.spl 13 rfl rfl rfl (fun hz=>?_) (fun hz=>?_)
 ·have hz : (0 : Int) - 0 = 0:=by simpa using hz
  refine lF [0,1,5,19,36,37] (GK.code ?_)
  refine GC.condF rfl ?_
  by_cases hnc : n ≤ c
  ·refine GC.skip (GK.code (GC.seq (GL.seqR ?_)))
   refine lK 2 [0,1,5,23,24,36,37] ?_
   refine GL.op rfl (cR rfl (f132s _ F o 0 c rn n 0 lr (by omega) (by omega)) [0,1] rfl rfl rfl rfl fun _ _=>?_)
   refine gF [0,1,5,25,36,37] rfl ?_
   refine lF [0,1,5,6,7,36,37] (GK.code ?_)
   refine rS [0,1,5,6,28,36,37] ?_
   refine GC.condT rfl ?_
   refine rS [4] ?_
   refine GC.ret ?_
   rw [Nat.zero_add]
   refine fR (.inl rfl) rfl (by trivial) ((o,c,rn,F)) [0,1] rfl rfl rfl rfl (⟨hnc,hc0,hr,by dsimp only; omega⟩)
  ·refine GC.skip (GK.code (GC.seq (GL.seqR ?_)))
   refine lK 2 [0,1,5,23,24,36,37] ?_
   refine GL.op rfl (cR rfl (f132f _ F o 0 c rn n 0 lr (by omega) (by omega) (by omega)) [0,1] rfl rfl rfl rfl fun _ _=>?_)
   refine gF [0,1,5,25,36,37] rfl ?_
   refine lF [0,1,5,6,7,36,37] (GK.code ?_)
   refine rS [0,1,5,6,28,36,37] ?_
   refine GC.condF rfl (GC.skip (GK.code (GC.seq (GL.seqR ?_))))
   refine lK 4 [0,1,5,33,36,37] ?_
   refine GL.vstep rfl (VStep.eqNilS rfl (.inl rfl) rfl rfl hc0) rfl (GL.force [0,1,5,34,36,37] rfl ?_)
   refine lF [0,1,5,38] (GK.code ?_)
   refine GC.condF rfl (GC.skip (GK.code ?_))
   refine rS [0,1,5,8] ?_
   refine GC.seq ?_
   refine rS [0,1,5,8,54] ?_
   refine GC.cond rfl (fun hg=>?_) (fun hg=>?_)
   ·have hg : (n : Int) ≤ (c : Int) / 2 - (0 - 0):=by simpa using hg
    omega
   ·have hg : ¬ ((n : Int) ≤ (c : Int) / 2 - (0 - 0)):=by simpa using hg
    refine rS [0,1,5,74] ?_
    refine GC.cond rfl (fun hg2=>?_) (fun hg2=>?_)
    ·have hg2 : (9223372036854775807 : Int) - c - n < c:=by simpa using hg2
     omega
    ·have hg2 : ¬ ((9223372036854775807 : Int) - c - n < c):=by simpa using hg2
     refine GC.draw [(0,0),(1,0),(2,0),(3,0),(5,0),(6,0),(7,0),(10,0),(11,0),(12,0),(14,0),(4,1),(8,1),(9,0),(13,1),(15,0),(16,2),(17,0),(18,0),(19,2)] mixed (by kernel_rfl) (by rintro _ _ _ _ ⟨_,_,_,_,h,_⟩ _; cases h) ?_
     refine wK 16 [0,1,5,76,85,91] ?_
     refine GW.op rfl rfl (cR rfl (f142s _ F (offS c (Int.toNat 0) o 1) c rn (0 + n) (by omega) (by omega) (by omega) (by have:=offS_zero c o 1; show offS c 0 o 1 + c ≤ rn; omega)) [1] rfl rfl rfl rfl fun c' hc'=>?_)
     refine wL [0,1,5,76,92] rfl ?_
     refine wF [0,1,5] ?_
     refine GK.code ?_
     refine rS [0,1,5] ?_
     refine rS [5] ?_
     refine rS [4] ?_
     refine GC.ret ?_
     rw [offS_zero,show ((0 : Nat) : Int) - ((0 : Nat) : Int) + (n : Int) = n from by omega,Int.toNat_natCast]
     refine fR (.inl rfl) rfl (by trivial) ((0,c',c',fun _=>0)) [0,2] rfl rfl rfl rfl (⟨by dsimp only; omega,by dsimp only; omega,by dsimp only; omega,hc'.2⟩)
 ·have hz : ¬ ((0 : Int) - 0 = 0):=by simpa using hz
  omega
theorem f114n0 (μ) (lr : Int) : Fun Tryz.prog μ 114 [.ptr 0 0,.v (.int .i64 0)] [(0,.row (bfR (.v (.slice none 0 0)) 0 lr))] 1
  (fun _ : Unit=>True) (fun _=>⟨.v (.int .i64 0),[(0,.row (bfR (.v (.slice none 0 0)) 0 lr))],1⟩):=by
 refine fE 110 Tryz.func114 fun zw zβ=>?_
 refine cF [0,1,14,15,16,17,18,36,37] ?_
 refine rS [0,1,14,15,16,17,18,36,37] ?_
 refine GL.seqR ?_
 refine lK 1 [0,1,9,14,15,16,17,18,36,37] ?_
 refine GL.op rfl (cR rfl (f124n _ lr) [0] rfl rfl rfl rfl fun _ _=>?_)
 refine gF [0,1,10,14,15,16,17,18,36,37] rfl ?_
 refine lF [0,1,5,14,15,16,17,18,36,37] (GK.code ?_)
 refine GC.seq ?_
 refine rS [0,1,5,19,36,37] ?_
 refine GC.condF rfl (GC.skip (GK.code (GC.seq (GL.seqR ?_))))
 refine lK 2 [0,1,5,23,24,36,37] ?_
 refine GL.op rfl (cR rfl (f132n0 _ 0 lr) [0] rfl rfl rfl rfl fun _ _=>?_)
 refine gF [0,1,5,25,36,37] rfl ?_
 refine lF [0,1,5,6,7,36,37] (GK.code ?_)
 refine rS [0,1,5,6,28,36,37] ?_
 refine GC.condT rfl ?_
 refine rS [4] ?_
 refine GC.ret ?_
 refine fR (.inl rfl) rfl (by trivial) () [0] rfl rfl rfl rfl (trivial)
theorem f114n (μ) (n : Nat) (lr : Int) (hn : 0 < n) (hn2 : n ≤ 1048576) : Fun Tryz.prog μ 114 [.ptr 0 0,.v (.int .i64 n)] [(0,.row (bfR (.v (.slice none 0 0)) 0 lr))] 1
  (fun x : Nat × Nat × Nat × Nat × (Nat → Int)=>n ≤ x.2.1 ∧ 0 < x.2.1 ∧ x.1 + x.2.1 ≤ x.2.2.1 ∧ x.2.1 < 9223372036854775808) (fun x=>⟨.v (.int .i64 0),[(0,.row (bfR (.slc 1 x.1 x.2.2.2.1 x.2.1) 0 lr)),(1,.row ⟨.ints .u8 x.2.2.2.2,x.2.2.1,5⟩)],2⟩):=by
 refine fE 110 Tryz.func114 fun zw zβ=>?_
 refine cF [0,1,14,15,16,17,18,36,37] ?_
 refine rS [0,1,14,15,16,17,18,36,37] ?_
 refine GL.seqR ?_
 refine lK 1 [0,1,9,14,15,16,17,18,36,37] ?_
 refine GL.op rfl (cR rfl (f124n _ lr) [0] rfl rfl rfl rfl fun _ _=>?_)
 refine gF [0,1,10,14,15,16,17,18,36,37] rfl ?_
 refine lF [0,1,5,14,15,16,17,18,36,37] (GK.code ?_)
 refine GC.seq ?_
 refine rS [0,1,5,19,36,37] ?_
 refine GC.condF rfl (GC.skip (GK.code (GC.seq (GL.seqR ?_))))
 refine lK 2 [0,1,5,23,24,36,37] ?_
 refine GL.op rfl (cR rfl (f132nf _ n 0 lr hn) [0] rfl rfl rfl rfl fun _ _=>?_)
 refine gF [0,1,5,25,36,37] rfl ?_
 refine lF [0,1,5,6,7,36,37] (GK.code ?_)
 refine rS [0,1,5,6,28,36,37] ?_
 refine GC.condF rfl (GC.skip (GK.code (GC.seq ?_)))
 refine rS [0,1,5,38] ?_
 refine GC.cond rfl (fun h64=>?_) (fun h64=>?_)
 ·have h64 : (n : Int) ≤ 64:=by simpa using h64
  refine GL.seqR ?_
  refine lK 2 [39,40] ?_
  refine GL.op rfl (OpW.makeI (k:=.u8) rfl rfl rfl rfl rfl (by omega) (by omega) (by decide) (by show ((1 : Nat) : Int) * 64 ≤ 281474976710656; decide) rfl rfl rfl ?_)
  refine gF [39,41] rfl ?_
  refine lF [] (GK.code ?_)
  refine rS [4] ?_
  refine GC.ret ?_
  refine fR (.inl rfl) rfl (by trivial) ((0,64,64,n,fun _=>0)) [0,1] rfl rfl rfl rfl (⟨by dsimp only; omega,by dsimp only; omega,by dsimp only; omega,by dsimp only; omega⟩)
 ·have h64 : ¬ ((n : Int) ≤ 64):=by simpa using h64
  refine GC.skip (GK.code ?_)
  refine rS [0,1,5,8] ?_
  refine GC.seq ?_
  refine rS [0,1,5,8,54] ?_
  refine GC.cond rfl (fun hg=>?_) (fun hg=>?_)
  ·have hg : (n : Int) ≤ (0 : Int) / 2 - 0:=by simpa using hg
   omega
  ·have hg : ¬ ((n : Int) ≤ (0 : Int) / 2 - 0):=by simpa using hg
   refine rS [0,1,5,74] ?_
   refine GC.cond rfl (fun hg2=>?_) (fun hg2=>?_)
   ·have hg2 : (9223372036854775807 : Int) - 0 - n < 0:=by simpa using hg2
    omega
   ·have hg2 : ¬ ((9223372036854775807 : Int) - 0 - n < 0):=by simpa using hg2
    refine GC.draw [(0,0),(1,0),(2,0),(3,0),(5,0),(6,0),(7,0),(10,0),(11,0),(12,0),(14,0),(4,1),(8,1),(9,0),(13,1),(15,0),(16,2),(17,0),(18,0),(19,2)] mixed (by kernel_rfl) (by rintro _ _ _ _ ⟨_,_,_,_,h,_⟩ _; cases h) ?_
    refine wK 16 [0,1,5,76,85,91] ?_
    refine GW.op rfl rfl (cR rfl (f142n _ (0 + n) (by omega) (by omega)) [] rfl rfl rfl rfl fun c' hc'=>?_)
    refine wL [0,1,5,76,92] rfl ?_
    refine wF [0,1,5] ?_
    refine GK.code ?_
    refine rS [0,1,5] ?_
    refine rS [5] ?_
    refine rS [4] ?_
    refine GC.ret ?_
    rw [offS_zero]
    refine fR (.inl rfl) rfl (by trivial) ((0,c',c',((0 : Int) + (n : Int)).toNat - 0,fun _=>0)) [0,1] rfl rfl rfl rfl (⟨by dsimp only; omega,by dsimp only; omega,by dsimp only; omega,hc'.2⟩)
theorem f73s (μ) (F : Nat → Int) (o c rn n : Nat) (lr : Int) (hn2 : n ≤ 1048576) (hc0 : 0 < c) (hc : c < 9223372036854775808) (hr : o + c ≤ rn) : FunC Tryz.prog μ 73 [.ptr 0 0,.v (.int .i64 n)] [(0,.row (bfR (.slc 1 o 0 c) 0 lr)),(1,.row ⟨.ints .u8 F,rn,5⟩)] 1 2
  (fun x : Nat × Nat × Nat × (Nat → Int)=>n ≤ x.2.1 ∧ 0 < x.2.1 ∧ x.1 + x.2.1 ≤ x.2.2.1 ∧ x.2.1 < 9223372036854775808) (fun x=>⟨.tup [],[(0,.row (bfR (.slc 1 x.1 0 x.2.1) 0 lr)),(1,.row ⟨.ints .u8 x.2.2.2,x.2.2.1,5⟩)],2⟩):=by
 refine fE 20 Tryz.func73 fun zw zβ=>?_
 refine cF [0,1] ?_
 refine GC.seq ?_
 refine rS [0,1,6] ?_
 refine GC.cond rfl (fun hz=>?_) (fun hz=>?_)
 ·have hz : (n : Int) < 0:=by simpa using hz
  omega
 ·have hz : ¬ ((n : Int) < 0):=by simpa using hz
  refine GC.skip (GK.code (GL.seqR ?_))
  refine lK 2 [0,8,9] ?_
  refine GL.op rfl (cR rfl (f114s _ F o c rn n lr hn2 hc0 hc hr) [0,1] rfl rfl rfl rfl ?_)
  intro ⟨o',c',rn',F'⟩ hx
  dsimp only at hx ⊢
  have hz0:=offS_zero c' o' 1
  refine gF [0,10] rfl ?_
  refine lF [0,4] (GK.code ?_)
  refine rG [] ?_
  refine fR (.inr rfl) rfl (by trivial) ((offS c' 0 o' 1,c',rn',F')) [0,1] rfl rfl rfl rfl (⟨hx.1,hx.2.1,by dsimp only; omega,hx.2.2.2⟩)
theorem f73n0 (μ) (lr : Int) : Fun Tryz.prog μ 73 [.ptr 0 0,.v (.int .i64 0)] [(0,.row (bfR (.v (.slice none 0 0)) 0 lr))] 1
  (fun _ : Unit=>True) (fun _=>⟨.tup [],[(0,.row (bfR (.v (.slice none 0 0)) 0 lr))],1⟩):=by
 refine fE 20 Tryz.func73 fun zw zβ=>?_
 refine cF [0,1] ?_
 refine GC.seq ?_
 refine rS [0,1,6] ?_
 refine GC.condF rfl (GC.skip (GK.code (GL.seqR ?_)))
 refine lK 2 [0,8,9] ?_
 refine GL.op rfl (cR rfl (f114n0 _ lr) [0] rfl rfl rfl rfl fun _ _=>?_)
 refine gF [0,10] rfl ?_
 refine lF [0,4] (GK.code ?_)
 refine rG [] ?_
 refine fR (.inr rfl) rfl (by trivial) () [0] rfl rfl rfl rfl (trivial)
theorem f73n (μ) (n : Nat) (lr : Int) (hn : 0 < n) (hn2 : n ≤ 1048576) : Fun Tryz.prog μ 73 [.ptr 0 0,.v (.int .i64 n)] [(0,.row (bfR (.v (.slice none 0 0)) 0 lr))] 1
  (fun x : Nat × Nat × Nat × (Nat → Int)=>n ≤ x.2.1 ∧ 0 < x.2.1 ∧ x.1 + x.2.1 ≤ x.2.2.1 ∧ x.2.1 < 9223372036854775808) (fun x=>⟨.tup [],[(0,.row (bfR (.slc 1 x.1 0 x.2.1) 0 lr)),(1,.row ⟨.ints .u8 x.2.2.2,x.2.2.1,5⟩)],2⟩):=by
 refine fE 20 Tryz.func73 fun zw zβ=>?_
 refine cF [0,1] ?_
 refine GC.seq ?_
 refine rS [0,1,6] ?_
 refine GC.cond rfl (fun hz=>?_) (fun hz=>?_)
 ·have hz : (n : Int) < 0:=by simpa using hz
  omega
 ·have hz : ¬ ((n : Int) < 0):=by simpa using hz
  refine GC.skip (GK.code (GL.seqR ?_))
  refine lK 2 [0,8,9] ?_
  refine GL.op rfl (cR rfl (f114n _ n lr hn hn2) [0] rfl rfl rfl rfl ?_)
  intro ⟨o',c',rn',l',F'⟩ hx
  dsimp only at hx ⊢
  have hz0:=offS_zero c' o' 1
  refine gF [0,10] rfl ?_
  refine lF [0,4] (GK.code ?_)
  refine rG [] ?_
  refine fR (.inr rfl) rfl (by trivial) ((offS c' 0 o' 1,c',rn',F')) [0,1] rfl rfl rfl rfl (⟨hx.1,hx.2.1,by dsimp only; omega,hx.2.2.2⟩)
theorem f98 (μ) {fe : Nat} (F G : Nat → Int) (o l c rn off m cap prn : Nat) (bo lr : Int) (hl : l + m ≤ c) (hc : c < 9223372036854775808) (hr : o + c ≤ rn) (hp : off + m ≤ prn) (hm0 : 0 < m) : Fun Tryz.prog μ 98 [.ptr 0 0,.slc 2 off m cap] [(0,.row (bfR (.slc 1 o l c) bo lr)),(1,.row ⟨.ints .u8 F,rn,5⟩),(2,.row ⟨.ints .u8 G,prn,fe⟩)] 3
  (fun F' : Nat → Int=>True) (fun F'=>⟨.tup [.v (.int .i64 m),.v .nilIface],[(0,.row (bfR (.slc 1 o (l + m) c) bo 0)),(1,.row ⟨.ints .u8 F',rn,5⟩),(2,.row ⟨.ints .u8 G,prn,fe⟩)],3⟩):=by
 refine fE 32 Tryz.func98 fun zw zβ=>?_
 refine cF [0,1] ?_
 refine rS [0,1] ?_
 refine rS [0,1] ?_
 refine GL.seqR ?_
 refine lK 3 [0,1,12,14] ?_
 refine GL.op rfl (cR rfl (f132s _ F o l c rn m bo 0 hl hc) [0,1] rfl rfl rfl rfl fun _ _=>?_)
 refine gF [0,1,15] rfl ?_
 refine lF [0,1,6,7] (GK.code ?_)
 refine GC.seq ?_
 refine rS [0,1,6,19] ?_
 refine GC.condF rfl ?_
 have ho:=offS_lt (cap:=c) (l:=l) (o:=o) (by omega)
 refine GC.skip (GK.code (GL.seqR ?_))
 refine lK 7 [29,30] ?_
 rw [Int.toNat_natCast]
 refine GL.op rfl (OpW.copyI (m:=m) (N:=fun j=>G (off + j)) rfl rfl rfl rfl rfl rfl (by omega) (src_slc rfl rfl (by show off + m * 1 ≤ prn; omega) (fun j hj=>rfl)) rfl ?_)
 rw [show min m (l + m - l) = m from by omega]
 refine gF [31] rfl ?_
 refine lF [4,5] (GK.code ?_)
 refine GC.ret ?_
 refine fR (.inl rfl) rfl (by trivial) _ [0,1,2] rfl rfl rfl rfl (trivial)
theorem f64 (μ) : Fun Tryz.prog μ 64 [] [] 0 (fun _ : Unit=>True) (fun _=>⟨.ptr 0 0,[(0,.row (bfR (.v (.slice none 0 0)) 0 0))],1⟩):=by
 refine fE 2 Tryz.func64 fun zw zβ=>?_
 refine cF [] ?_
 refine rS [] ?_
 refine rS [0] ?_
 refine GC.ret ?_
 refine fR (.inl rfl) rfl (by trivial) () [0] rfl rfl rfl rfl (trivial)
theorem f65 (μ) : FunD Tryz.prog μ 65 [.any] [] 0 0 (fun _ : Unit=>True) (fun _=>⟨.tup [],[],0⟩):=by
 refine FunD.enter (T:=tab) (ok:=tabOK) (n:=2) Tryz.func65 rfl rfl rfl rfl fun zw zβ=>?_
 refine cF [0] ?_
 refine GC.skip ?_
 refine fR (.inr rfl) rfl (by trivial) () [] rfl rfl rfl rfl (trivial)
def oiL (off len kd dk crc : Int) (par ch : SV) (sha : List SV) : List SV:=[.v (.int .i64 off),.v (.int .i64 len),.v (.int .i8 kd),.v (.int .i8 dk),.v (.bool false),.v (.int .u32 crc),par,ch] ++ sha
def z20 : List SV:=[.v (.int .u8 0),.v (.int .u8 0),.v (.int .u8 0),.v (.int .u8 0),.v (.int .u8 0),.v (.int .u8 0),.v (.int .u8 0),.v (.int .u8 0),.v (.int .u8 0),.v (.int .u8 0),.v (.int .u8 0),.v (.int .u8 0),.v (.int .u8 0),.v (.int .u8 0),.v (.int .u8 0),.v (.int .u8 0),.v (.int .u8 0),.v (.int .u8 0),.v (.int .u8 0),.v (.int .u8 0)]
def oiR (off len kd crc : Int) (sha : List SV) : Row:=⟨.lst (oiL off len kd kd crc (.v (.pointer none)) (.v (.slice none 0 0)) sha),28,172⟩
theorem f67 (μ) (off len kd : Int) : Fun Tryz.prog μ 67 [.v (.int .i64 off),.v (.int .i64 len),.v (.int .i8 kd),.v (.pointer none)] [] 0 (fun _ : Unit=>True) (fun _=>⟨.ptr 0 0,[(0,.row (oiR off len kd 0 z20))],1⟩):=by
 refine fE 18 Tryz.func67 fun zw zβ=>?_
 refine cF [0,1,2,3] ?_
 refine rS [0,1,2,3] ?_
 refine rS [9] ?_
 refine rS [8] ?_
 refine GC.ret ?_
 refine fR (.inl rfl) rfl (by trivial) () [0] rfl rfl rfl rfl (trivial)
theorem f68 (μ) (off len kd : Int) : Fun Tryz.prog μ 68 [.v (.int .i64 off),.v (.int .i64 len),.v (.int .i8 kd)] [] 0 (fun _ : Unit=>True) (fun _=>⟨.ptr 0 0,[(0,.row (oiR off len kd 0 z20))],1⟩):=by
 refine fE 11 Tryz.func68 fun zw zβ=>?_
 refine cF [0,1,2] ?_
 refine rS [0,1,2] ?_
 refine GL.seqR ?_
 refine lK 3 [7,8,9] ?_
 refine GL.op rfl (cR rfl (f67 _ off len kd) [] rfl rfl rfl rfl fun _ _=>?_)
 refine gF [10] rfl ?_
 refine lF [6] (GK.code ?_)
 refine GC.ret ?_
 refine fR (.inl rfl) rfl (by trivial) () [0] rfl rfl rfl rfl (trivial)
theorem f63 (μ) (n : Nat) (hn : n ≤ 65536) : Fun Tryz.prog μ 63 [.v (.int .u32 n)] [] 0 (fun _ : Unit=>True) (fun _=>⟨.v (.int .i64 n),[],0⟩):=by
 refine fE 7 Tryz.func63 fun zw zβ=>?_
 refine cF [0] ?_
 refine rS [0] ?_
 refine GC.seq ?_
 refine rS [0,4] ?_
 refine GC.cond rfl (fun h7=>?_) (fun h7=>?_)
 ·have h7 : (n : Int) > 65536:=by simpa using h7
  omega
 ·have h7 : ¬ ((n : Int) > 65536):=by simpa using h7
  refine GC.skip (GK.code ?_)
  refine rS [2] ?_
  refine GC.ret ?_
  refine fR (.inl rfl) rfl (by trivial) () [] rfl rfl rfl rfl (trivial)
theorem f56 (μ) : Fun Tryz.prog μ 56 [] [] 0 (fun _ : Unit=>True) (fun _=>⟨.ptr 0 0,[(0,.row ⟨.lst [.v (.int .i64 100663296),.v (.int .i64 0),.v (.pointer none),.v (.map none)],4,225⟩)],1⟩):=by
 refine fE 3 Tryz.func56 fun zw zβ=>?_
 refine cF [] ?_
 refine rS [] ?_
 refine rS [0] ?_
 refine GC.ret ?_
 refine fR (.inl rfl) rfl (by trivial) () [0] rfl rfl rfl rfl (trivial)
def buR : Row:=⟨.lst [.v (.int .i64 100663296),.v (.int .i64 0),.v (.pointer none),.v (.map none)],4,225⟩
theorem f119 (μ) (n : Int) : Fun Tryz.prog μ 119 [.ptr 0 0,.v (.int .i64 n)] [(0,.row buR)] 1 (fun _ : Unit=>True) (fun _=>⟨.tup [.v (.slice none 0 0),.v (.bool false)],[(0,.row buR)],1⟩):=by
 refine fE 31 Tryz.func119 fun zw zβ=>?_
 refine cF [0,1] ?_
 refine rS [0,1] ?_
 refine GL.seqR ?_
 refine lK 5 [0,12,13] ?_
 refine GL.op rfl (OpW.lstep (LStep.lookupN (.pointer none) rfl rfl ko64 rfl rfl ⟨_,rfl⟩ (fun _=>by kernel_rfl)) rfl (gF [0,14] rfl ?_))
 refine lF [0,6,7] (GK.code ?_)
 refine GC.seq ?_
 refine rS [0,6,18] ?_
 refine GC.condT rfl ?_
 refine rS [4,5] ?_
 refine GC.ret ?_
 refine fR (.inl rfl) rfl (by trivial) () [0] rfl rfl rfl rfl (trivial)
structure Ozf (F : Nat → Option Obj) (b : Nat) (off len kd crc : Int) (h : Nat → Int) : Prop where
 h0 : fzAt F b 0 = some (.int .i64 off)
 h1 : fzAt F b 1 = some (.int .i64 len)
 h2 : fzAt F b 2 = some (.int .i8 kd)
 h3 : fzAt F b 3 = some (.int .i8 kd)
 h4 : fzAt F b 4 = some (.bool false)
 h5 : fzAt F b 5 = some (.int .u32 crc)
 h6 : fzAt F b 6 = some (.pointer none)
 h7 : fzAt F b 7 = some (.slice none 0 0)
 h8 : ∀ j,j < 20 → fzAt F b (8 + j) = some (.int .u8 (h j))
theorem f84 (μ) (F : Nat → Option Obj) (b : Nat) (off len crc : Int) (kd : Nat) (h : Nat → Int) (z : Ozf F b off len kd crc h) (hk : kd < 6) : Fun Tryz.prog μ 84 [(.v (.pointer (some ⟨b,0,none⟩)))] [(0,.fz F)] 1 (fun _ : Unit=>True) (fun _=>⟨.v (.bool false),[(0,.fz F)],1⟩):=by
 refine fE 8 Tryz.func84 fun zw zβ=>?_
 refine cF [0] ?_
 refine rS [0] ?_
 refine GL.seqR ?_
 refine lK 3 [5] ?_
 refine GL.op rfl (OpW.lstep (LStep.fz 0 rfl rfl rfl rfl rfl z.h2) rfl (gF [6] rfl ?_))
 refine GL.op rfl (cR rfl (f87 _ kd hk) [] rfl rfl rfl rfl fun _ _=>?_)
 refine gF [7] rfl ?_
 refine lF [2] (GK.code ?_)
 refine GC.ret ?_
 refine fR (.inl rfl) rfl (by trivial) () [0] rfl rfl rfl rfl (trivial)
theorem f80 (μ) (F : Nat → Option Obj) (b : Nat) (off len crc : Int) (kd : Nat) (h : Nat → Int) (z : Ozf F b off len kd crc h) (hk : kd < 6) : Fun Tryz.prog μ 80 [(.v (.pointer (some ⟨b,0,none⟩)))] [(0,.fz F)] 1 (fun _ : Unit=>True) (fun _=>⟨.v .nilIface,[(0,.fz F)],1⟩):=by
 refine fE 24 Tryz.func80 fun zw zβ=>?_
 refine cF [0,9,10,11,12,13] ?_
 refine rS [0,9,10,11,12,13] ?_
 refine rS [0,3,9,10,11,12,13] ?_
 refine GC.seq ?_
 refine rS [3,4,9,10,11,12,13] ?_
 refine GC.block ?_
 refine GC.loop0 ?_
 refine GC.seq (GL.seqR ?_)
 refine lK 6 [3,4,8,9,10,11,12,13] ?_
 refine GL.opG rfl rfl (OpW.lstep (LStep.fz 0 rfl rfl rfl rfl rfl z.h3) rfl (gF [3,4,8,9,10,11,12,13] rfl ?_))
 refine GL.opG rfl rfl (cR rfl (f87 _ kd hk) [] rfl rfl rfl rfl fun _ _=>?_)
 refine gF [3,4,8,9,10,11,12,13] rfl ?_
 refine lF [3,4,9,10,11,12,13,14] (GK.code ?_)
 refine GC.condF rfl ?_
 refine GC.exit ?_
 refine GK.code ?_
 refine rS [2] ?_
 refine GC.ret ?_
 refine fR (.inl rfl) rfl (by trivial) () [0] rfl rfl rfl rfl (trivial)
def WSm (b o n cap : Nat) (x y i : Int) : S:=⟨[(3,.v (.int .u32 x)),(4,.v (.int .u32 y)),(7,.v (.slice (some ⟨b,o,none⟩) n cap)),(8,.v (.int .i64 n)),(9,.v (.int .i64 i))],[],0,[]⟩
theorem f37m (μ) (F : Nat → Int) (b o n cap : Nat) (hm : ∀ j,j < n → muAt μ b (o + j) = some (.int .u8 (F j))) (hn : n < 1099511627776) (hF : ∀ j,j < n → 0 ≤ F j ∧ F j < 256) : Fun Tryz.prog μ 37 [.v (.slice (some ⟨b,o,none⟩) n cap)] [] 0
  (fun _ : Unit=>True) (fun _=>⟨.v (.int .u32 (ad F n)),[],0⟩):=by
 refine fE 27 Tryz.func37 fun zw zβ=>?_
 refine cF [0] ?_
 refine rS [0] ?_
 refine rS [0,3,4] ?_
 refine GC.seq ?_
 refine rS [3,4,7,8,9] ?_
 refine GC.block ?_
 refine GC.loopE (ι:=(Int) × (Int) × (Int)) (fun zi=>(fun (x y i : Int)=>0 ≤ i ∧ i ≤ n ∧ x = adA F i.toNat % 65521 ∧ y = adB F i.toNat % 65521) zi.1 zi.2.1 zi.2.2) (fun zi=>(fun x y i=>(((n : Int) - i).toNat : Nat)) zi.1 zi.2.1 zi.2.2) (fun zi=>(WSm b o n cap) zi.1 zi.2.1 zi.2.2) ((1,0,0)) [] (show (fun (x y i : Int)=>0 ≤ i ∧ i ≤ n ∧ x = adA F i.toNat % 65521 ∧ y = adB F i.toNat % 65521) (1) (0) (0) from ?_) (Ent.R rfl rfl rfl rfl) ?_
 ·exact ⟨Int.le_refl _,by omega,rfl,rfl⟩
 rintro ⟨x,y,i⟩ hI
 change (fun (x y i : Int)=>0 ≤ i ∧ i ≤ n ∧ x = adA F i.toNat % 65521 ∧ y = adB F i.toNat % 65521) x y i at hI
 try dsimp only at hI
 obtain ⟨h0,h1,ha,hb⟩:=hI
 change GC _ _ _ ((WSm b o n cap) x y i)
 refine cF [3,4,7,8,9] ?_
 refine rS [3,4,7,8,9,10] ?_ (hc:=(by (repeat' first | exact trivial | refine And.intro ?_ ?_) <;> first | omega | (unfold w32; omega)))
 refine GC.seq ?_
 refine GC.cond rfl (fun hc=>?_) (fun hc=>?_)
 ·have hc : i < (n : Int):=by simpa using hc
  have hFi:=hF i.toNat (by omega)
  refine GC.skip (GK.code (GC.seq (GC.block (GL.seqR ?_))))
  refine lK 1 [3,4,7,8,9,11] ?_ (hc:=(by (repeat' first | exact trivial | refine And.intro ?_ ?_) <;> first | omega | (unfold w32; omega)))
  refine GL.op rfl (OpW.lstep (LStep.mu rfl rfl rfl rfl (by show muAt μ b (o + i.toNat * 1) = some (.int .u8 (F i.toNat)); rw [Nat.mul_one]; exact hm _ (by omega))) rfl (gF [3,4,7,8,9,12] rfl ?_))
  refine lF [3,4,6,7,8,9] (GK.code ?_) (hc:=(by (repeat' first | exact trivial | refine And.intro ?_ ?_) <;> first | omega | (unfold w32; omega)))
  refine rS [3,4,7,8,9] ?_ (hc:=(by (repeat' first | exact trivial | refine And.intro ?_ ?_) <;> first | omega | (unfold w32; omega)))
  refine rG [3,4,7,8,9] ?_ (hc:=(by (repeat' first | exact trivial | refine And.intro ?_ ?_) <;> first | omega | (unfold w32; omega)))
  refine GK.code ?_
  refine rG [3,4,7,8,9] ?_ (hc:=(by (repeat' first | exact trivial | refine And.intro ?_ ?_) <;> first | omega | (unfold w32; omega)))
  refine GK.back (_,_,i + 1) [] ?_ ?_ (Ent.R rfl rfl rfl rfl)
  ·have e1 : (i + 1).toNat = i.toNat + 1:=by omega
   have e2 : adA F (i.toNat + 1) = adA F i.toNat + F i.toNat:=rfl
   have e3 : adB F (i.toNat + 1) = adB F i.toNat + adA F (i.toNat + 1):=rfl
   have e4 : w32 (x + w32 (F i.toNat)) % 65521 = adA F (i.toNat + 1) % 65521:=by rw [e2]; unfold w32; omega
   dsimp only
   refine ⟨by omega,by omega,?_,?_⟩
   ·rw [e1]; exact e4
   ·rw [e1,e3]
    show w32 (y + w32 (x + w32 (F i.toNat)) % 65521) % 65521 = _
    rw [e4]; unfold w32; omega
  ·dsimp only; omega
 ·have hc : ¬ (i < (n : Int)):=by simpa using hc
  obtain rfl : i = n:=by omega
  subst ha hb
  refine GC.exit ?_
  refine GK.code ?_
  refine rS [2] ?_ (hc:=(by (repeat' first | exact trivial | refine And.intro ?_ ?_) <;> first | omega | (unfold w32; omega)))
  refine GC.ret ?_
  refine fR (.inl rfl) rfl (by (repeat' first | exact trivial | refine And.intro ?_ ?_) <;> first | omega | (unfold w32; omega)) () [] rfl rfl rfl rfl (trivial)
theorem f37n (μ) (z : Option Addr) (F : Nat → Int) : Fun Tryz.prog μ 37 [.v (.slice z 0 0)] [] 0
  (fun _ : Unit=>True) (fun _=>⟨.v (.int .u32 (ad F 0)),[],0⟩):=by
 refine fE 27 Tryz.func37 fun zw zβ=>?_
 refine cF [0] ?_
 refine rS [0] ?_
 refine rS [0,3,4] ?_
 refine GC.seq ?_
 refine rS [3,4,7,8,9] ?_
 refine GC.block ?_
 refine GC.loop0 ?_
 refine rS [3,4,7,8,9,10] ?_
 refine GC.seq (GC.condF rfl ?_)
 refine GC.exit ?_
 refine GK.code ?_
 refine rS [2] ?_
 refine GC.ret ?_
 refine fR (.inl rfl) rfl (by trivial) () [] rfl rfl rfl rfl (trivial)
theorem bmin (r : Nat) {P : Program} (ats : Array TypeId) (ty : TypeId) : ∀ w cs,(builtin .min ats ty cs #[.int .i64 (r : Int),.int .i64 65535]).run P w = .ok (.value (.int .i64 ((min r 65535 : Nat) : Int))) w:=by
 intro w cs
 simp [builtin,Builtin.min_,Builtin.min2]
 omega
def hdB (t n : Nat) : Nat → Int
 | 0=>(t : Int)
 | 1=>((n % 256 : Nat) : Int)
 | 2=>((n / 256 : Nat) : Int)
 | 3=>(((65535 - n) % 256 : Nat) : Int)
 | _=>(((65535 - n) / 256 : Nat) : Int)
theorem hd_get {x : Int} {t n : Nat} (hx : x = (t : Int)) (hn : n < 65536) : ∀ j,j < 5 * 1 → lget [.v (.int .u8 x),.v (.int .u8 (w8 (n : Int))),.v (.int .u8 (w8 ((n : Int) / 2 ^ min (Int.toNat 8) IntKind.i64.bits))),.v (.int .u8 (w8 (-1 - (n : Int)))),.v (.int .u8 (w8 ((-1 - (n : Int)) / 2 ^ min (Int.toNat 8) IntKind.i64.bits)))] j = .v (.int .u8 (hdB t n j)):=by
 have e8 : (2 : Int) ^ min (Int.toNat 8) IntKind.i64.bits = 256:=by decide
 rw [e8,hx]
 intro j hj
 match j,hj with
 | 0,_=>rfl
 | 1,_=>exact congrArg (fun z=>SV.v (.int .u8 z)) (by show w8 (n : Int) = ((n % 256 : Nat) : Int); unfold w8; omega)
 | 2,_=>exact congrArg (fun z=>SV.v (.int .u8 z)) (by show w8 ((n : Int) / 256) = ((n / 256 : Nat) : Int); unfold w8; omega)
 | 3,_=>exact congrArg (fun z=>SV.v (.int .u8 z)) (by show w8 (-1 - (n : Int)) = (((65535 - n) % 256 : Nat) : Int); unfold w8; omega)
 | 4,_=>exact congrArg (fun z=>SV.v (.int .u8 z)) (by show w8 ((-1 - (n : Int)) / 256) = (((65535 - n) / 256 : Nat) : Int); unfold w8; omega)
 | j + 5,h=>exact absurd h (by omega)
theorem hd_lt {t n : Nat} (ht : t < 256) (hn : n < 65536) (j : Nat) : 0 ≤ hdB t n j ∧ hdB t n j < 256:=by
 unfold hdB
 split <;> omega
theorem ad_get {x : Int} : ∀ j,j < 4 * 1 → lget [.v (.int .u8 (w8 (x / 2 ^ 24))),.v (.int .u8 (w8 (x / 2 ^ 16))),.v (.int .u8 (w8 (x / 2 ^ 8))),.v (.int .u8 (w8 x))] j = .v (.int .u8 (w8 (x / 2 ^ (24 - 8 * j))))
 | 0,_=>rfl
 | 1,_=>rfl
 | 2,_=>rfl
 | 3,_=>congrArg (fun z=>SV.v (.int .u8 (w8 z))) (Int.ediv_one x).symm
 | j + 4,h=>absurd h (by omega)
theorem offS_nx {cap l o sz : Nat} (h : l < cap) : offS cap l o sz = o + l * sz:=by
 unfold offS
 rw [beqF (by omega : ¬ cap = l)]; rfl
def W20 (b o L cp : Nat) (c r l q cq cap : Nat) (F : Nat → Int) : S:=⟨[(0,.v (.slice (some ⟨b,o,none⟩) L cp)),(3,.slc 0 0 l cap),(4,.v (.slice (some ⟨b,q,none⟩) r cq))],[(0,.row ⟨.ints .u8 F,cap,5⟩)],1,[]⟩
structure I20 (T : Nat → Int) (L o : Nat) (c r l q cq cap : Nat) (F : Nat → Int) : Prop where
 hc : c + r = L
 hr : 0 < r ∨ c = 0
 hq : q = o + c
 hcq : r ≤ cq
 hl : 2 ≤ l ∧ l ≤ 2 + 6 * c
 hcap : l ≤ cap
 h0 : F 0 = 120
 h1 : F 1 = 1
 hB : ∀ j,j < l → 0 ≤ F j ∧ F j < 256
 hK : ∀ (F' : Nat → Int) (pe : Nat),(∀ j,j < l → F' j = F j) → Blk F' T l c pe L → Blk F' T 2 0 pe L
theorem f20m (μ) (T : Nat → Int) (b o L cp : Nat) (hm : ∀ j,j < L → muAt μ b (o + j) = some (.int .u8 (T j))) (hL : L ≤ 1048576) (hcp : L ≤ cp) (hT : ∀ j,j < L → 0 ≤ T j ∧ T j < 256) : Fun Tryz.prog μ 20 [.v (.slice (some ⟨b,o,none⟩) L cp)] [] 0
  (fun x : Nat × Nat × (Nat → Int)=>(∃ pe,Blk x.2.2 T 2 0 pe L ∧ x.1 = pe + 4 ∧ x.2.2 0 = 120 ∧ x.2.2 1 = 1 ∧ ∀ q,q < 4 → x.2.2 (pe + q) = w8 (ad T L / 2 ^ (24 - 8 * q))) ∧ x.1 ≤ x.2.1 ∧ x.1 ≤ 16 + 6 * L ∧ ∀ j,j < x.1 → 0 ≤ x.2.2 j ∧ x.2.2 j < 256)
  (fun x=>⟨.slc 0 0 x.1 x.2.1,[(0,.row ⟨.ints .u8 x.2.2,x.2.1,5⟩)],1⟩):=by
 refine fE 47 Tryz.func20 fun zw zβ=>?_
 refine cF [0] ?_
 refine rS [0] ?_
 refine rS [0,3] ?_
 refine GC.cvR 0 ⟨.ints .u8 fun j=>if j = 0 then 120 else 1,2,5⟩ rfl rfl rfl (fun i hi=>by have : i < 2:=hi; match i,this with | 0,_=>rfl | 1,_=>rfl | n + 2,h=>exact absurd h (by omega)) rfl ?_
 refine rS [0,3,4] ?_
 refine GC.block ?_
 refine GC.loopE (ι:=(Nat) × (Nat) × (Nat) × (Nat) × (Nat) × (Nat) × (Nat → Int)) (fun zi=>(I20 T L o) zi.1 zi.2.1 zi.2.2.1 zi.2.2.2.1 zi.2.2.2.2.1 zi.2.2.2.2.2.1 zi.2.2.2.2.2.2) (fun zi=>(fun c r l q cq cap F=>(r : Nat)) zi.1 zi.2.1 zi.2.2.1 zi.2.2.2.1 zi.2.2.2.2.1 zi.2.2.2.2.2.1 zi.2.2.2.2.2.2) (fun zi=>(W20 b o L cp) zi.1 zi.2.1 zi.2.2.1 zi.2.2.2.1 zi.2.2.2.2.1 zi.2.2.2.2.2.1 zi.2.2.2.2.2.2) ((0,L,2,o,cp,2,fun j=>if j = 0 then 120 else 1)) [0] (show (I20 T L o) (0) (L) (2) (o) (cp) (2) (fun j=>if j = 0 then 120 else 1) from ?_) (Ent.R rfl rfl rfl rfl) ?_
 ·refine ⟨by omega,.inr rfl,rfl,hcp,by omega,by omega,rfl,rfl,fun j hj=>?_,fun F' pe _ h=>h⟩
  show 0 ≤ (if j = 0 then (120 : Int) else 1) ∧ (if j = 0 then (120 : Int) else 1) < 256; split <;> omega
 rintro ⟨c,r,l,q,cq,cap,F⟩ hI
 change (I20 T L o) c r l q cq cap F at hI
 change GC _ _ _ ((W20 b o L cp) c r l q cq cap F)
 obtain ⟨hc,hr,hq,hcq,hl,hcap,h0,h1,hB,hK⟩:=hI
 dsimp only [W20]
 refine cF [0,3,4] ?_
 refine GC.block (GL.seqR ?_)
 refine lK 2 [0,3,4,10] ?_
 refine GL.vstep rfl (VStep.minmax rfl rfl rfl (r:=.int .i64 ((min r 65535 : Nat) : Int)) (bmin r _ _)) rfl (GL.force [0,3,4,11] rfl ?_)
 refine lF [0,3,4,5] (GK.code ?_)
 obtain ⟨n,hn⟩ : ∃ n,n = min r 65535:=⟨_,rfl⟩
 rw [← hn]
 have hn1 : n ≤ r:=by omega
 have hn2 : n < 65536:=by omega
 refine rS [0,3,4,5,6] ?_
 refine GC.seq ?_
 refine rS [0,3,4,5,6,15] ?_
 refine GC.cond rfl (fun he=>?_) (fun he=>?_)
 ·have he : (n : Int) = r:=by simpa using he
  obtain rfl : n = r:=by omega
  refine rG [0,3,4,5,6] ?_
  refine GK.code (GL.seqR ?_)
  refine lK 8 [0,4,5,6,16,17,19,22,23] ?_
  refine GL.vstep rfl (VStep.notI rfl rfl (by omega)) rfl (GL.force [0,4,5,6,16,17,19,22,24] rfl ?_)
  refine lK 2 [0,4,5,6,16,17,19,22,25,26] ?_
  refine GL.vstep rfl (VStep.notI rfl rfl (by omega)) rfl (GL.force [0,4,5,6,16,17,19,22,25,27] rfl ?_)
  refine lK 3 [0,4,5,6,16,30] ?_
  refine GL.op rfl (OpW.appendI (m:=5) (N:=hdB 1 n) rfl rfl rfl rfl rfl rfl rfl rfl rfl rfl (Nat.le_of_ble_eq_true rfl) (hcap) (src_slc rfl rfl (Nat.le_of_ble_eq_true rfl) (fun j hj=>by rw [Nat.zero_add]; exact hd_get rfl hn2 j hj)) (by omega) (by show (_ + _) * 1 ≤ 140737488355328; omega) rfl ?_ rfl rfl)
  intro c4 F4 r1 r2 r3 r4 ρ' hp
  obtain rfl:=Option.some.inj hp; clear hp
  refine gF [0,4,5,6,31] rfl ?_
  refine lF [0,3,4,5,6] (GK.code ?_)
  refine GL.seqR ?_
  refine lK 4 [0,4,5,6,32,35] ?_
  refine GL.op rfl (OpW.appendI (m:=n) (N:=fun j=>T (c + j)) rfl rfl rfl rfl rfl rfl rfl rfl rfl rfl (Nat.le_of_ble_eq_true rfl) (r1) (src_mu rfl (fun j hj=>⟨by rw [offS_zero,hq,Nat.add_assoc]; exact hm _ (by omega),rfl⟩)) (by omega) (by show (_ + _) * 1 ≤ 140737488355328; omega) rfl ?_ rfl rfl)
  intro c5 F5 s1 s2 s3 s4 ρ' hp
  obtain rfl:=Option.some.inj hp; clear hp
  refine gF [0,4,5,6,36] rfl ?_
  refine lF [0,3,4,5,6] (GK.code ?_)
  refine rS [0,3,4,6] ?_
  refine rS [0,3,4,41] ?_
  refine GC.condT rfl (GL.seqR ?_)
  refine lK 2 [42,43] ?_
  refine GL.op rfl (cR rfl (f37m _ T b o L cp hm (by omega) hT) [] rfl rfl rfl rfl fun _ _=>?_)
  refine gF [42,44] rfl ?_
  refine GL.op rfl (cR rfl (f14 _ (ad T L)) [] rfl rfl rfl rfl fun _ _=>?_)
  refine gF [42,45] rfl ?_
  refine GL.op rfl (OpW.appendI (m:=4) (N:=fun j=>w8 (ad T L / 2 ^ (24 - 8 * j))) rfl rfl rfl rfl rfl rfl rfl rfl rfl rfl (Nat.le_of_ble_eq_true rfl) (s1) (src_slc rfl rfl (Nat.le_of_ble_eq_true rfl) (fun j hj=>by rw [Nat.zero_add]; exact ad_get j hj)) (by omega) (by show (_ + _) * 1 ≤ 140737488355328; omega) rfl ?_ rfl rfl)
  intro c6 F6 u1 u2 u3 u4 ρ' hp
  obtain rfl:=Option.some.inj hp; clear hp
  have eF : ∀ j,j < l → F6 j = F j:=fun j hj=>by rw [u3 j (by omega),s3 j (by omega),r3 j (by omega)]
  have eH : ∀ j,j < 5 → F6 (l + j) = hdB 1 n j:=fun j hj=>by rw [u3 _ (by omega),s3 _ (by omega),r4 j (by omega)]
  have eD : ∀ j,j < n → F6 (l + 5 + j) = T (c + j):=fun j hj=>by rw [u3 _ (by omega),s4 j (by omega)]
  have hBk : Blk F6 T 2 0 (l + 5 + n) L:=hK F6 _ eF (hc ▸ Blk.last n hn2 (eH 0 (by omega)) (eH 1 (by omega)) (eH 2 (by omega)) (eH 3 (by omega)) (eH 4 (by omega)) eD)
  have hR : ∀ j,j < l + 5 + n + 4 → 0 ≤ F6 j ∧ F6 j < 256:=fun j hj=>by
   by_cases e1 : j < l
   ·rw [eF j e1]; exact hB j e1
   by_cases e2 : j < l + 5
   ·rw [show j = l + (j - l) from by omega,eH _ (by omega)]; exact hd_lt (by decide) hn2 _
   by_cases e3 : j < l + 5 + n
   ·rw [show j = l + 5 + (j - (l + 5)) from by omega,eD _ (by omega)]; exact hT _ (by omega)
   ·rw [show j = l + 5 + n + (j - (l + 5 + n)) from by omega,u4 _ (by omega)]; exact w8_lt _
  refine gF [46] rfl ?_
  refine lF [2] (GK.code ?_)
  refine GC.ret ?_
  refine fR (.inl rfl) rfl (by trivial) ((l + 5 + n + 4,c6,F6)) [0] rfl rfl rfl rfl (⟨⟨l + 5 + n,hBk,rfl,by show F6 0 = 120; rw [eF 0 (by omega)]; exact h0,by show F6 1 = 1; rw [eF 1 (by omega)]; exact h1,u4⟩,u1,by dsimp only; omega,hR⟩)
 ·have he : ¬ ((n : Int) = r):=by simpa using he
  have hne : n < r:=by omega
  have hn3 : n = 65535:=by omega
  refine GC.skip (GK.code (GL.seqR ?_))
  refine lK 8 [0,4,5,6,16,17,19,22,23] ?_
  refine GL.vstep rfl (VStep.notI rfl rfl (by omega)) rfl (GL.force [0,4,5,6,16,17,19,22,24] rfl ?_)
  refine lK 2 [0,4,5,6,16,17,19,22,25,26] ?_
  refine GL.vstep rfl (VStep.notI rfl rfl (by omega)) rfl (GL.force [0,4,5,6,16,17,19,22,25,27] rfl ?_)
  refine lK 3 [0,4,5,6,16,30] ?_
  refine GL.op rfl (OpW.appendI (m:=5) (N:=hdB 0 n) rfl rfl rfl rfl rfl rfl rfl rfl rfl rfl (Nat.le_of_ble_eq_true rfl) (hcap) (src_slc rfl rfl (Nat.le_of_ble_eq_true rfl) (fun j hj=>by rw [Nat.zero_add]; exact hd_get rfl hn2 j hj)) (by omega) (by show (_ + _) * 1 ≤ 140737488355328; omega) rfl ?_ rfl rfl)
  intro c4 F4 r1 r2 r3 r4 ρ' hp
  obtain rfl:=Option.some.inj hp; clear hp
  refine gF [0,4,5,6,31] rfl ?_
  refine lF [0,3,4,5,6] (GK.code ?_)
  refine GL.seqR ?_
  refine lK 4 [0,4,5,6,32,35] ?_
  refine GL.op rfl (OpW.appendI (m:=n) (N:=fun j=>T (c + j)) rfl rfl rfl rfl rfl rfl rfl rfl rfl rfl (Nat.le_of_ble_eq_true rfl) (r1) (src_mu rfl (fun j hj=>⟨by rw [offS_zero,hq,Nat.add_assoc]; exact hm _ (by omega),rfl⟩)) (by omega) (by show (_ + _) * 1 ≤ 140737488355328; omega) rfl ?_ rfl rfl)
  intro c5 F5 s1 s2 s3 s4 ρ' hp
  obtain rfl:=Option.some.inj hp; clear hp
  refine gF [0,4,5,6,36] rfl ?_
  refine lF [0,3,4,5,6] (GK.code ?_)
  refine rS [0,3,4,6] ?_
  refine rS [0,3,4,41] ?_
  refine GC.condF rfl (GC.skip ?_)
  refine GK.back (c + n,r - n,l + 5 + n,offS cq n q 1,cq - n,c5,F5) [0] (show (I20 T L o) (c + n) (r - n) (l + 5 + n) (offS cq n q 1) (cq - n) (c5) (F5) from ?_) ?_ (Ent.R rfl rfl rfl rfl)
  ·have eF : ∀ j,j < l → F5 j = F j:=fun j hj=>by rw [s3 j (by omega),r3 j (by omega)]
   have eH : ∀ j,j < 5 → F5 (l + j) = hdB 0 n j:=fun j hj=>by rw [s3 _ (by omega),r4 j (by omega)]
   refine ⟨by omega,by omega,by rw [offS_nx (by omega),Nat.mul_one]; omega,by omega,by omega,s1,by rw [eF 0 (by omega)]; exact h0,by rw [eF 1 (by omega)]; exact h1,fun j hj=>?_,fun F' pe hF' hb=>?_⟩
   ·by_cases e1 : j < l
    ·rw [eF j e1]; exact hB j e1
    by_cases e2 : j < l + 5
    ·rw [show j = l + (j - l) from by omega,eH _ (by omega)]; exact hd_lt (by decide) hn2 _
    ·rw [show j = l + 5 + (j - (l + 5)) from by omega,s4 _ (by omega)]; exact hT _ (by omega)
   ·have eG : ∀ j,j < 5 → F' (l + j) = hdB 0 n j:=fun j hj=>by rw [hF' _ (by omega),eH j hj]
    refine hK F' pe (fun j hj=>by rw [hF' j (by omega),eF j hj]) (Blk.more n hn2 (by omega) (eG 0 (by omega)) (eG 1 (by omega)) (eG 2 (by omega)) (eG 3 (by omega)) (eG 4 (by omega)) (fun j hj=>by rw [hF' _ (by omega),s4 j (by omega)]) hb)
  ·show r - n < r; omega
def Nl (a : Option Addr) : Prop:=a = none ∨ ∃ b o z,a = some ⟨b,o,some z⟩
theorem f20n (μ) (z : Option Addr) (hz : Nl z) (T : Nat → Int) : Fun Tryz.prog μ 20 [.v (.slice z 0 0)] [] 0
  (fun x : Nat × Nat × (Nat → Int)=>(∃ pe,Blk x.2.2 T 2 0 pe 0 ∧ x.1 = pe + 4 ∧ x.2.2 0 = 120 ∧ x.2.2 1 = 1 ∧ ∀ q,q < 4 → x.2.2 (pe + q) = w8 (ad T 0 / 2 ^ (24 - 8 * q))) ∧ x.1 ≤ x.2.1 ∧ x.1 ≤ 16 + 6 * 0 ∧ ∀ j,j < x.1 → 0 ≤ x.2.2 j ∧ x.2.2 j < 256)
  (fun x=>⟨.slc 0 0 x.1 x.2.1,[(0,.row ⟨.ints .u8 x.2.2,x.2.1,5⟩)],1⟩):=by
 rcases hz with rfl | ⟨zb,zo,zz,rfl⟩
 all_goals
  refine fE 47 Tryz.func20 fun zw zβ=>?_
  refine cF [0] ?_
  refine rS [0] ?_
  refine rS [0,3] ?_
  refine GC.cvR 0 ⟨.ints .u8 fun j=>if j = 0 then 120 else 1,2,5⟩ rfl rfl rfl (fun i hi=>by have : i < 2:=hi; match i,this with | 0,_=>rfl | 1,_=>rfl | n + 2,h=>exact absurd h (by omega)) rfl ?_
  refine rS [0,3,4] ?_
  refine GC.block ?_
  refine GC.loopU 1 ?_
  refine GC.block (GL.seqR ?_)
  refine lK 2 [0,3,4,10] ?_
  refine GL.vstep rfl (VStep.minmax rfl rfl rfl (r:=.int .i64 ((min 0 65535 : Nat) : Int)) (bmin 0 _ _)) rfl (GL.force [0,3,4,11] rfl ?_)
  refine lF [0,3,4,5] (GK.code ?_)
  refine rS [0,3,4,5,6] ?_
  refine GC.seq ?_
  refine rS [0,3,4,5,6,15] ?_
  refine GC.condT rfl ?_
  refine rG [0,3,4,5,6] ?_
  refine GK.code (GL.seqR ?_)
  refine lK 8 [0,4,5,6,16,17,19,22,23] ?_
  refine GL.vstep rfl (VStep.notI (n:=0) rfl rfl (by omega)) rfl (GL.force [0,4,5,6,16,17,19,22,24] rfl ?_)
  refine lK 2 [0,4,5,6,16,17,19,22,25,26] ?_
  refine GL.vstep rfl (VStep.notI (n:=0) rfl rfl (by omega)) rfl (GL.force [0,4,5,6,16,17,19,22,25,27] rfl ?_)
  refine lK 3 [0,4,5,6,16,30] ?_
  refine GL.op rfl (OpW.appendI (m:=5) (N:=hdB 1 0) rfl rfl rfl rfl rfl rfl rfl rfl rfl rfl (Nat.le_of_ble_eq_true rfl) (Nat.le_refl 2) (src_slc rfl rfl (Nat.le_of_ble_eq_true rfl) (fun j hj=>by rw [Nat.zero_add]; exact hd_get (t:=1) (n:=0) rfl (by decide) j hj)) (by omega) (by show (_ + _) * 1 ≤ 140737488355328; omega) rfl ?_ rfl rfl)
  intro c4 F4 r1 r2 r3 r4 ρ' hp
  obtain rfl:=Option.some.inj hp; clear hp
  refine gF [0,4,5,6,31] rfl ?_
  refine lF [0,3,4,5,6] (GK.code ?_)
  refine GL.seqR ?_
  refine lK 4 [0,4,5,6,32,35] ?_
  refine GL.op rfl (OpW.appendI (m:=0) (N:=fun j=>T j) rfl rfl rfl rfl rfl rfl rfl rfl rfl rfl (Nat.le_of_ble_eq_true rfl) (r1) (src_nil rfl) (by omega) (by show (_ + _) * 1 ≤ 140737488355328; omega) rfl ?_ rfl rfl)
  intro c5 F5 s1 s2 s3 s4 ρ' hp
  obtain rfl:=Option.some.inj hp; clear hp
  refine gF [0,4,5,6,36] rfl ?_
  refine lF [0,3,4,5,6] (GK.code ?_)
  refine rS [0,3,4,6] ?_
  refine rS [0,3,4,41] ?_
  refine GC.condT rfl (GL.seqR ?_)
  refine lK 2 [42,43] ?_
  refine GL.op rfl (cR rfl (f37n _ _ T) [] rfl rfl rfl rfl fun _ _=>?_)
  refine gF [42,44] rfl ?_
  refine GL.op rfl (cR rfl (f14 _ (ad T 0)) [] rfl rfl rfl rfl fun _ _=>?_)
  refine gF [42,45] rfl ?_
  refine GL.op rfl (OpW.appendI (m:=4) (N:=fun j=>w8 (ad T 0 / 2 ^ (24 - 8 * j))) rfl rfl rfl rfl rfl rfl rfl rfl rfl rfl (Nat.le_of_ble_eq_true rfl) (s1) (src_slc rfl rfl (Nat.le_of_ble_eq_true rfl) (fun j hj=>by rw [Nat.zero_add]; exact ad_get j hj)) (by omega) (by show (_ + _) * 1 ≤ 140737488355328; omega) rfl ?_ rfl rfl)
  intro c6 F6 u1 u2 u3 u4 ρ' hp
  obtain rfl:=Option.some.inj hp; clear hp
  have eF : ∀ j,j < 2 → F6 j = if j = 0 then 120 else 1:=fun j hj=>by rw [u3 j (by omega),s3 j (by omega),r3 j (by omega)]
  have eH : ∀ j,j < 5 → F6 (2 + j) = hdB 1 0 j:=fun j hj=>by rw [u3 _ (by omega),s3 _ (by omega),r4 j (by omega)]
  have hBk : Blk F6 T 2 0 (2 + 5 + 0) (0 + 0):=Blk.last 0 (by decide) (eH 0 (by omega)) (eH 1 (by omega)) (eH 2 (by omega)) (eH 3 (by omega)) (eH 4 (by omega)) (fun j hj=>absurd hj (Nat.not_lt_zero _))
  have hR : ∀ j,j < 2 + 5 + 0 + 4 → 0 ≤ F6 j ∧ F6 j < 256:=fun j hj=>by
   by_cases e1 : j < 2
   ·rw [eF j e1]; split <;> omega
   by_cases e2 : j < 2 + 5
   ·rw [show j = 2 + (j - 2) from by omega,eH _ (by omega)]; exact hd_lt (by decide) (by decide) _
   ·rw [show j = 2 + 5 + 0 + (j - (2 + 5 + 0)) from by omega,u4 _ (by omega)]; exact w8_lt _
  refine gF [46] rfl ?_
  refine lF [2] (GK.code ?_)
  refine GC.ret ?_
  refine fR (.inl rfl) rfl (by trivial) ((2 + 5 + 0 + 4,c6,F6)) [0] rfl rfl rfl rfl (⟨⟨2 + 5 + 0,hBk,rfl,eF 0 (by omega),eF 1 (by omega),u4⟩,u1,by dsimp only; omega,hR⟩)
end Go.Proofs.YtebadfmnmhmfeaaGreatDoor.T
