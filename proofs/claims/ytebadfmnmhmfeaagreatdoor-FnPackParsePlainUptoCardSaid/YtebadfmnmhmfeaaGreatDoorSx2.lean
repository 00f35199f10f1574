/- Rules for walking a function of the program with symbolic values; nothing is assumed of the program. -/
import Derived.Test.YtebadfmnmhmfeaaGreatDoorSx1
import Derived.Still
import Derived.OrdersHeld
namespace Go.Proofs.YtebadfmnmhmfeaaGreatDoor.Sx
set_option maxRecDepth 20000
set_option linter.unusedSimpArgs false
set_option linter.unusedVariables false
set_option linter.unnecessarySimpa false
set_option linter.unusedSectionVars false
section
open Go.RowKit
variable {X : Ctx}
def IsGo (P : Program) (f : Nat) : Prop:=∀ args w,(callFunc f args).run P w = .ok (.enter f args) w
theorem isGo {P : Program} {f : Nat} {fn : Func} (hf : P.funcs[f]? = some fn) (hn : (fn.name == "runtime.NumGoroutine") = false) (hb : fn.body.isNone = false) : IsGo P f:=by
 intro args w
 have hp : (program : Sem Program).run P w = .ok P w:=rfl
 simp only [callFunc,Sem.run_bind,hp,Result.andThen_ok,hf,hn,hb,Bool.false_eq_true,if_false,Sem.run_pure]
structure Post where
 x : SV
 σ : GH
 nx : Nat
def FPost (M : MC) {ι : Type} (I : ι → Prop) (post : ι → Post) (e : Ending) (w' : World) : Prop :=
 ∃ v i β',e = .returned v ∧ I i ∧ Rep β' (post i).x v ∧ Mem M (post i).σ (post i).nx β' w'
@[reducible] def mc (μ : Nat → Option Obj) (w : World) (k k2 : Nat) (β : Bl) (σ : GH) : MC :=
 ⟨μ,w,k,β,[],fun b=>∃ g,k ≤ g ∧ g < k2 ∧ β g = some (some b),fun b=>∃ g F o,gk σ g = some (.fz F) ∧ F b = some o⟩
def FunC (P : Program) (μ : Nat → Option Obj) (f : Nat) (args : List SV) (σ : GH) (k k2 : Nat) {ι : Type} (I : ι → Prop) (post : ι → Post) : Prop :=
 IsGo P f ∧ ∀ w β vs,Mem (mc μ w k k2 β σ) σ k2 β w → Reps β args vs → Calls P f vs.toArray w (FPost (mc μ w k k2 β σ) I post)
abbrev Fun (P : Program) (μ : Nat → Option Obj) (f : Nat) (args : List SV) (σ : GH) (k : Nat) {ι : Type} (I : ι → Prop) (post : ι → Post) : Prop:=FunC P μ f args σ k k I post
def argE : Nat → List SV → Env
 | _,[]=>[]
 | i,x :: r=>(i,x) :: argE (i + 1) r
theorem lk_argE : ∀ (l : List SV) (k i : Nat),(i < k ∨ k + l.length ≤ i → lk (argE k l) i = .any) ∧ (∀ j x,l[j]? = some x → i = k + j → lk (argE k l) i = x)
 | [],k,i=>⟨fun _=>rfl,fun j x h=>by simp at h⟩
 | y :: r,k,i=>by
  obtain ⟨h1,h2⟩:=lk_argE r (k + 1) i
  simp only [argE,lk]
  constructor
  ·intro h
   have : ¬ i = k:=by simp only [List.length_cons] at h; omega
   rw [beqF this]
   exact h1 (by simp only [List.length_cons] at h; omega)
  ·intro j x hj e
   cases j with
   | zero=>simp at hj; subst hj; rw [Nat.add_zero] at e; subst e; simp [beqT]
   | succ j =>
    have : ¬ i = k:=by omega
    rw [beqF this]
    exact h2 j x (by simpa using hj) (by omega)
theorem Fun.enter {P : Program} {T : Nat → TI} {ok : TabOK P T} {μ : Nat → Option Obj} {f : Nat} {fn : Func} {c : Code} {n : Nat} {args : List SV} {σ : GH} {k k2 : Nat} {ι : Type} {I : ι → Prop} {post : ι → Post}
  (hf : P.funcs[f]? = some fn) (hb : fn.body = some c) (hnm : (fn.name == "runtime.NumGoroutine") = false) (hn : fn.ntmps = n) (hl : Nat.ble args.length n = true)
  (h : ∀ w β,GC ⟨P,T,ok,n,mc μ w k k2 β σ⟩ (bodyPost P fn (FPost (mc μ w k k2 β σ) I post)) c ⟨argE 0 args,σ,k2,[]⟩) : FunC P μ f args σ k k2 I post:=by
 refine ⟨isGo hf hnm (by rw [hb]; rfl),fun w β vs hm hr=>?_⟩
 refine calls_of_wp hf hb (h w β β w _ ⟨hm,⟨?_,?_⟩,.nil⟩)
 ·have:=hr.length
  have:=Nat.le_of_ble_eq_true hl
  simp; omega
 ·intro i
  obtain ⟨h1,h2⟩:=lk_argE args 0 i
  have hlen:=hr.length
  rcases Nat.lt_or_ge i args.length with hi | hi
  ·have e:=List.getElem?_eq_getElem hi
   obtain ⟨y,hy,hrep⟩:=hr.get i _ e
   rw [h2 i _ e (by omega)]
   have : (vs.toArray ++ Array.replicate (fn.ntmps - vs.toArray.size) undef).getD i undef = y:=by
    have hlt : i < vs.length:=by omega
    rw [Array.getD_eq_getD_getElem?,Array.getElem?_append_left (by simpa using hlt)]
    simp [hy]
   rw [this]; exact hrep
  ·rw [h1 (by omega)]; exact .any _
theorem run_loadVar {M : MC} {P : Program} {X : Ctx} (hP : X.P = P) {β : Bl} {w : World} {σ : GH} {nx : Nat} (hm : Mem M σ nx β w) {t : Nat} {sx r : SV} {v : Value} {c : Prop} (h : eLoad X.T σ t sx = some (c,r)) (hc : c) (hx : Rep β sx v) :
  ∃ u,(do loadVar t (← asAddr v) : Sem Value).run P w = .ok u w ∧ Rep β r u:=by
 subst hP
 unfold eLoad at h
 split at h
 ·rename_i g off
  split at h
  ·rename_i row hg
   cases hb : known (X.T t).k with
   | false=>simp [hb] at h
   | true =>
    simp only [hb,cond_true] at h
    cases hx
    rename_i b hbg
    have h1:=run_isAgg (w:=w) hb
    have h2:=run_size (w:=w) hb
    cases hag : (X.T t).k.agg with
    | true =>
     rw [hag] at h1
     simp only [hag,cond_true,fN_eq,Option.some.injEq,Prod.mk.injEq] at h
     obtain ⟨rfl,rfl⟩:=h
     obtain ⟨vs,hrun,hvs⟩:=run_loadCells_rep (P:=X.P) (w:=w) (β:=β) (f:=row.f) (b:=b) (X.T t).size off 0 #[] (fun j _ hj=>by
      obtain ⟨v,hv,_,hr,_⟩:=hm.cell hg hbg (off:=off + j) (by omega)
      exact ⟨v,hv,hr⟩)
     refine ⟨.agg vs.toArray,?_,.agg (by rw [Nat.add_zero] at hvs; exact hvs)⟩
     simp only [asAddr,loadVar,Sem.run_bind,Sem.run_pure,Result.andThen_ok,h1,h2,if_true,loadCells,hrun]
     simp
    | false =>
     rw [hag] at h1
     simp only [hag,cond_false,Option.some.injEq,Prod.mk.injEq] at h
     obtain ⟨rfl,rfl⟩:=h
     obtain ⟨v,hv,_,hr,_⟩:=hm.cell hg hbg hc
     refine ⟨v,?_,hr⟩
     simp only [asAddr,loadVar,Sem.run_bind,Sem.run_pure,Result.andThen_ok,h1,Bool.false_eq_true,if_false,run_load,hv]
  ·cases h
 ·cases h
def resL (T : Nat → TI) (σ : GH) (ρ : Env) : List ResultVar → Option (Prop × List SV)
 | []=>some (True,[])
 | .tmp t :: r=>match resL T σ ρ r with
  | some (c,xs)=>some (c,lk ρ t :: xs)
  | none=>none
 | .cell a t :: r=>match eLoad T σ t (lk ρ a),resL T σ ρ r with
  | some (c',x),some (c,xs)=>some (c' ∧ c,x :: xs)
  | _,_=>none
def resV (T : Nat → TI) (s : S) (l : List ResultVar) : Option (Prop × SV) :=
 match resL T s.σ s.ρ l with
 | some (c,[x])=>fV x fun y=>some (c,y)
 | some (c,xs)=>fL xs fun ys=>some (c,.tup ys)
 | none=>none
theorem resL_run {s : S} {β : Bl} {w : World} {a : Act} (hi : Inv X s β w a) : ∀ (l : List ResultVar) (c : Prop) (xs : List SV),resL X.T s.σ s.ρ l = some (c,xs) → c →
  ∃ vs,(l.mapM (fun | .tmp t=>pure (a.tmps.getD t undef) | .cell b t=>do loadVar t (← asAddr (a.tmps.getD b undef)) : ResultVar → Sem Value)).run X.P w = .ok vs w ∧ Reps β xs vs
 | [],c,xs,h,hc=>by simp only [resL,Option.some.injEq,Prod.mk.injEq] at h; obtain ⟨rfl,rfl⟩:=h; exact ⟨[],rfl,.nil⟩
 | .tmp t :: r,c,xs,h,hc=>by
  simp only [resL] at h
  split at h
  ·rename_i c' ys hr
   simp only [Option.some.injEq,Prod.mk.injEq] at h
   obtain ⟨rfl,rfl⟩:=h
   obtain ⟨vs,h1,h2⟩:=resL_run hi r _ _ hr hc
   refine ⟨_ :: vs,?_,.cons (hi.env.get t) h2⟩
   simp only [List.mapM_cons,Sem.run_bind,Sem.run_pure,Result.andThen_ok,h1]
  ·cases h
 | .cell b t :: r,c,xs,h,hc=>by
  simp only [resL] at h
  split at h
  ·rename_i c1 x c2 ys he hr
   simp only [Option.some.injEq,Prod.mk.injEq] at h
   obtain ⟨rfl,rfl⟩:=h
   obtain ⟨vs,h1,h2⟩:=resL_run hi r _ _ hr hc.2
   obtain ⟨u,h3,h4⟩:=run_loadVar rfl hi.mem he hc.1 (hi.env.get b)
   refine ⟨u :: vs,?_,.cons h4 h2⟩
   rw [List.mapM_cons,Sem.run_bind]
   rw [h3]
   simp only [Result.andThen_ok,Sem.run_bind,h1,Sem.run_pure]
  ·cases h
theorem GK.fin {fn : Func} {ι : Type} {I : ι → Prop} {post : ι → Post} {s : S} {e : Exit} (he : e = .ret ∨ e = .normal) {c : Prop} {r : SV} (hr : resV X.T s fn.results.toList = some (c,r)) (hc : c) (i : ι) (hI : I i) (ml : List Nat)
  (k : Ent X.M ⟨[(0,r)],s.σ,s.nx,s.ds⟩ ⟨[(0,(post i).x)],(post i).σ,(post i).nx,[]⟩ ml) : GK X (bodyPost X.P fn (FPost X.M I post) e) s:=by
 intro β w a hi
 have hds : a.defers = []:=by
  have h1:=hi.ds
  have h2:=k.ds
  simp only at h2
  generalize s.ds = sd at h1 h2
  generalize a.defers = ad at h1 ⊢
  cases h1 with
  | nil=>rfl
  | cons=>exact h2.elim
 suffices hs : ∃ v,(results fn a.tmps).run X.P w = .ok v w ∧ Rep β r v by
  obtain ⟨v,h1,h2⟩:=hs
  have hq : a.defers = [] ∧ ∃ v,(results fn a.tmps).run X.P w = .ok v w ∧ FPost X.M I post (.returned v) w :=
   ⟨hds,v,h1,v,i,_,rfl,hI,k.env.1.rep (fun _=>rfl) (by exact h2),hi.mem.ent k.chk k.gh⟩
  rcases he with rfl | rfl <;> exact hq
 unfold resV at hr
 have key : ∀ c xs,resL X.T s.σ s.ρ fn.results.toList = some (c,xs) → c → ∃ vs,(results fn a.tmps).run X.P w = .ok (if h : vs.toArray.size = 1 then vs.toArray[0] else .tuple vs.toArray) w ∧ Reps β xs vs:=by
  intro c xs h hc
  obtain ⟨vs,h1,h2⟩:=resL_run hi fn.results.toList c xs h hc
  refine ⟨vs,?_,h2⟩
  unfold results
  rw [Array.mapM_eq_mapM_toList]
  rw [Sem.run_bind,Sem.run_map]
  erw [h1]
  rfl
 split at hr
 ·rename_i c' x hl
  simp only [fV_eq,Option.some.injEq,Prod.mk.injEq] at hr
  obtain ⟨rfl,rfl⟩:=hr
  obtain ⟨vs,h1,h2⟩:=key _ _ hl hc
  cases h2 with
  | cons h t=>cases t; exact ⟨_,by simpa using h1,h⟩
 ·rename_i c' xs hne hl
  simp only [fL_eq,Option.some.injEq,Prod.mk.injEq] at hr
  obtain ⟨rfl,rfl⟩:=hr
  obtain ⟨vs,h1,h2⟩:=key _ _ hl hc
  refine ⟨_,h1,?_⟩
  have hlen:=h2.length
  have hne1 : ¬ vs.toArray.size = 1:=by
   intro h1
   have : xs.length = 1:=by simp at h1; omega
   match xs,this with
   | [x],_=>exact hne _ rfl
  rw [dif_neg hne1]
  exact .tup (by simpa using h2)
 ·cases hr
end
section
open Go.RowKit
variable {X : Ctx}
def renA (m : Nat → Nat) : List (Nat × SV) → List (Nat × SV)
 | []=>[]
 | (j,x) :: r=>(j,ren m x) :: renA m r
theorem ovk_renA (m : Nat → Nat) : ∀ (l : List (Nat × SV)) (i : Nat) (v : Value),ovk (renA m l) i (.v v) = ren m (ovk l i (.v v))
 | [],_,_=>rfl
 | (j,x) :: r,i,v=>by
  simp only [renA,ovk]
  cases Nat.beq i j with
  | true=>rfl
  | false=>exact ovk_renA m r i v
theorem renMem {m : Nat → Nat} {β β' : Bl} (h : Via m β β') {o : GO} {ob : Obj} : ∀ {o' : GO},(o' = match o with | .row r=>.row { r with c:=match r.c with | .lst xs=>.lst (renL m xs) | .ints k f=>.ints k f | .vals f=>.vals f | .gen f=>.gen fun i=>ren m (f i) | .ov l f=>.ov (renA m l) f } | .raw b=>.raw b | .pr p=>.pr p | .fz F=>.fz F) → RepG β' o ob → RepG β o' ob:=by
 intro o' he hr
 subst he
 cases hr with
 | raw=>exact .raw _
 | pr h=>exact .pr h
 | row hr hf =>
  rename_i r cs lo hi
  refine RepG.row (r:={ r with c:=_ }) ⟨hr.size,fun i hi=>?_⟩ hf
  obtain ⟨v,hv,hrep,h1⟩:=hr.get i hi
  refine ⟨v,hv,?_,h1⟩
  have e : ∀ x,Row.f r i = x → Rep β (ren m x) v:=fun x hx=>by subst hx; exact hrep.ren h
  have e:=e _ rfl
  show Rep β (RF.at _ i) v
  unfold Row.f at e
  cases hc : r.c with
  | lst xs =>
   rw [hc] at e
   simp only [RF.at] at e ⊢
   have : ∀ (xs : List SV) (i : Nat),lget (renL m xs) i = ren m (lget xs i):=by
    intro xs
    induction xs with
    | nil=>intro i; rfl
    | cons x t ih=>intro i; cases i with
     | zero=>rfl
     | succ i=>exact ih i
   rw [this]; exact e
  | ints k f=>rw [hc] at e; exact e
  | vals f=>rw [hc] at e; exact e
  | gen f=>rw [hc] at e; exact e
  | ov l f=>rw [hc] at e; simp only [RF.at] at e ⊢; rw [ovk_renA]; exact e
def renR (m : Nat → Nat) : RF → RF
 | .lst xs=>.lst (renL m xs)
 | .ints k f=>.ints k f
 | .vals f=>.vals f
 | .gen f=>.gen fun i=>ren m (f i)
 | .ov l f=>.ov (renA m l) f
def renO (m : Nat → Nat) : GO → GO
 | .row ⟨c,n,e⟩=>.row ⟨renR m c,n,e⟩
 | .raw b=>.raw b
 | .pr p=>.pr p
 | .fz F=>.fz F
theorem RepG.renO {m : Nat → Nat} {β β' : Bl} (h : Via m β β') {o : GO} {ob : Obj} (hr : RepG β' o ob) : RepG β (renO m o) ob:=by
 refine renMem h ?_ hr
 cases o with
 | raw b=>rfl
 | pr p=>rfl
 | fz F=>rfl
 | row r=>obtain ⟨c,n,e⟩:=r; cases c <;> rfl
def dels (ml : List Nat) : GH → GH
 | []=>[]
 | (g,o) :: r=>bif memN g ml then dels ml r else (g,o) :: dels ml r
theorem gk_dels (ml : List Nat) : ∀ (σ : GH) (g : Nat) (o : GO),gk (dels ml σ) g = some o → ¬ g ∈ ml ∧ gk σ g = some o
 | [],g,o,h=>by simp [dels,gk] at h
 | (j,u) :: r,g,o,h=>by
  simp only [dels] at h
  cases hm : memN j ml with
  | true =>
   simp only [hm,cond_true] at h
   obtain ⟨h1,h2⟩:=gk_dels ml r g o h
   refine ⟨h1,?_⟩
   simp only [gk]
   have : ¬ g = j:=fun e=>h1 (by subst e; exact (memN_iff _ _).1 hm)
   rw [beqF this]; exact h2
  | false =>
   simp only [hm,cond_false,gk] at h ⊢
   by_cases e : g = j
   ·subst e
    rw [beqT] at h ⊢
    refine And.intro (fun hh=>?_) h
    have:=(memN_iff _ _).2 hh
    rw [this] at hm; cases hm
   ·rw [beqF e] at h ⊢
    exact gk_dels ml r g o h
def addG (m : Nat → Nat) (σ : GH) : GH → GH
 | []=>σ
 | (g,o) :: r=>(m g,renO m o) :: addG m σ r
theorem gk_addG {m : Nat → Nat} (hm : ∀ g g',m g = m g' → g = g') (σ : GH) : ∀ (τ : GH) (g : Nat) (o : GO),gk (addG m σ τ) g = some o → gk σ g = some o ∨ ∃ g' o',m g' = g ∧ gk τ g' = some o' ∧ o = renO m o'
 | [],g,o,h=>.inl h
 | (j,u) :: r,g,o,h=>by
  simp only [addG,gk] at h
  by_cases e : g = m j
  ·rw [e,beqT] at h
   simp only [cond_true,Option.some.injEq] at h
   exact .inr ⟨j,u,e.symm,by simp [gk,beqT],h.symm⟩
  ·rw [beqF e] at h
   rcases gk_addG hm σ r g o h with h | ⟨g',o',h1,h2,h3⟩
   ·exact .inl h
   ·refine .inr ⟨g',o',h1,?_,h3⟩
    have : ¬ g' = j:=fun hh=>e (by rw [← h1,hh])
    simp only [gk]
    rw [beqF this]; exact h2
theorem moInj {ml : List Nat} {nx : Nat} (hd : ml.Nodup) (hl : ∀ x ∈ ml,x < nx) : ∀ g g',mo ml nx g = mo ml nx g' → g = g':=by
 intro g g' h
 rcases Nat.lt_or_ge g ml.length with h1 | h1 <;> rcases Nat.lt_or_ge g' ml.length with h2 | h2
 ·have e1:=mo_lt ml nx g h1
  have e2:=mo_lt ml nx g' h2
  rw [← h] at e2
  exact nd_inj ml hd _ _ _ e1 e2
 ·have:=hl _ (List.mem_of_getElem? (mo_lt ml nx g h1))
  rw [h,mo_ge ml nx g' h2] at this; omega
 ·have:=hl _ (List.mem_of_getElem? (mo_lt ml nx g' h2))
  rw [← h,mo_ge ml nx g h1] at this; omega
 ·rw [mo_ge _ _ _ h1,mo_ge _ _ _ h2] at h; omega
def allLt (n : Nat) : List Nat → Bool
 | []=>true
 | x :: r=>Nat.blt x n && allLt n r
theorem allLt_iff {n : Nat} : ∀ {l : List Nat},allLt n l = true → ∀ x ∈ l,x < n
 | [],_,x,hx=>by cases hx
 | y :: r,h,x,hx=>by
  simp only [allLt,Bool.and_eq_true] at h
  rcases List.mem_cons.1 hx with rfl | hx
  ·simpa using h.1
  ·exact allLt_iff h.2 x hx
mutual
def okG (p : Nat → Bool) : SV → Bool
 | .any=>true
 | .v _=>true
 | .ptr g _=>p g
 | .slc g _ _ _=>p g
 | .mpp g=>p g
 | .agg xs=>okGL p xs
 | .ifc _ x=>okG p x
 | .tup xs=>okGL p xs
 | .fn _ a b=>okGL p a && okGL p b
def okGL (p : Nat → Bool) : List SV → Bool
 | []=>true
 | x :: r=>okG p x && okGL p r
end
mutual
theorem Rep.ok {p : Nat → Bool} {β β' : Bl} (h : ∀ g v,p g = true → β g = some v → β' g = some v) : ∀ {x : SV} {v : Value},okG p x = true → Rep β x v → Rep β' x v
 | _,_,_,.any x=>.any x
 | _,_,_,.v x=>.v x
 | _,_,hm,.ptr hb=>.ptr (h _ _ (by simpa [okG] using hm) hb)
 | _,_,hm,.slc hb=>.slc (h _ _ (by simpa [okG] using hm) hb)
 | _,_,hm,.slcN hb=>.slcN (h _ _ (by simpa [okG] using hm) hb)
 | _,_,hm,.mpp hb=>.mpp (h _ _ (by simpa [okG] using hm) hb)
 | _,_,hm,.agg hs=>.agg (Reps.ok h (by simpa [okG] using hm) hs)
 | _,_,hm,.ifc hs=>.ifc (Rep.ok h (by simpa [okG] using hm) hs)
 | _,_,hm,.tup hs=>.tup (Reps.ok h (by simpa [okG] using hm) hs)
 | _,_,hm,.fn h1 h2=>by
  simp only [okG,Bool.and_eq_true] at hm
  exact .fn (Reps.ok h hm.1 h1) (Reps.ok h hm.2 h2)
theorem Reps.ok {p : Nat → Bool} {β β' : Bl} (h : ∀ g v,p g = true → β g = some v → β' g = some v) : ∀ {x : List SV} {v : List Value},okGL p x = true → Reps β x v → Reps β' x v
 | _,_,_,.nil=>.nil
 | _,_,hm,.cons a t=>by
  simp only [okGL,Bool.and_eq_true] at hm
  exact .cons (Rep.ok h hm.1 a) (Reps.ok h hm.2 t)
end
def outN (cs : List Nat) (g : Nat) : Bool:=!(memN g cs)
theorem outN_iff {cs : List Nat} {g : Nat} (h : outN cs g = true) : g ∉ cs:=by
 intro hm
 have:=(memN_iff _ _).2 hm
 simp [outN,this] at h
def frg (cs : List Nat) (x : SV) : SV:=bif okG (outN cs) x then x else .any
theorem Rep.frg {cs : List Nat} {β β' : Bl} (h : ∀ g v,g ∉ cs → β g = some v → β' g = some v) {x : SV} {v : Value} (hr : Rep β x v) : Rep β' (frg cs x) v:=by
 unfold Sx.frg
 cases hk : okG (outN cs) x with
 | true=>exact Rep.ok (fun g v hg=>h g v (outN_iff hg)) hk hr
 | false=>exact .any _
def frgL (cs : List Nat) : List SV → List SV
 | []=>[]
 | x :: r=>frg cs x :: frgL cs r
theorem lget_frgL (cs : List Nat) : ∀ (xs : List SV) (i : Nat),lget (frgL cs xs) i = frg cs (lget xs i)
 | [],i=>rfl
 | x :: r,0=>rfl
 | x :: r,i + 1=>lget_frgL cs r i
def frgA (cs : List Nat) : List (Nat × SV) → List (Nat × SV)
 | []=>[]
 | (j,x) :: r=>(j,frg cs x) :: frgA cs r
theorem frg_v (cs : List Nat) (v : Value) : frg cs (.v v) = .v v:=by unfold frg; rfl
theorem ovk_frgA (cs : List Nat) : ∀ (l : List (Nat × SV)) (i : Nat) (v : Value),ovk (frgA cs l) i (.v v) = frg cs (ovk l i (.v v))
 | [],_,v=>(frg_v cs v).symm
 | (j,x) :: r,i,v=>by
  simp only [frgA,ovk]
  cases Nat.beq i j with
  | true=>rfl
  | false=>exact ovk_frgA cs r i v
def frgR (cs : List Nat) : RF → RF
 | .lst xs=>.lst (frgL cs xs)
 | .ints k f=>.ints k f
 | .vals f=>.vals f
 | .gen f=>.gen fun i=>frg cs (f i)
 | .ov l f=>.ov (frgA cs l) f
theorem at_frgR (cs : List Nat) (r : RF) (i : Nat) : (frgR cs r).at i = frg cs (r.at i):=by
 cases r with
 | lst xs=>exact lget_frgL cs xs i
 | gen f=>rfl
 | ints k f=>rfl
 | vals f=>exact (frg_v cs _).symm
 | ov l f=>exact ovk_frgA cs l i _
def frgO (cs : List Nat) : GO → GO
 | .row ⟨c,n,e⟩=>.row ⟨frgR cs c,n,e⟩
 | .raw b=>.raw b
 | .pr p=>.pr p
 | .fz F=>.fz F
theorem RepG.frg {cs : List Nat} {β β' : Bl} (h : ∀ g v,g ∉ cs → β g = some v → β' g = some v) {o : GO} {ob : Obj} (hr : RepG β o ob) : RepG β' (frgO cs o) ob:=by
 cases hr with
 | raw=>exact .raw _
 | pr h=>exact .pr h
 | row hr hf =>
  rename_i r as lo hi
  obtain ⟨c,n,e⟩:=r
  refine RepG.row (r:=⟨frgR cs c,n,e⟩) ⟨hr.size,fun i hi=>?_⟩ hf
  obtain ⟨v,hv,hrep,h1⟩:=hr.get i hi
  refine ⟨v,hv,?_,h1⟩
  show Rep β' ((frgR cs c).at i) v
  rw [at_frgR]
  exact Rep.frg h hrep
def frgGH (cs : List Nat) : GH → GH
 | []=>[]
 | (j,o) :: r=>(j,frgO cs o) :: frgGH cs r
def frgEH (cs : List Nat) : Env → Env
 | []=>[]
 | (j,o) :: r=>(j,frg cs o) :: frgEH cs r
theorem gk_frgGH (cs : List Nat) : ∀ (σ : GH) (j : Nat),gk (frgGH cs σ) j = (gk σ j).map (frgO cs)
 | [],j=>rfl
 | (i,o) :: r,j=>by
  simp only [frgGH,gk]
  by_cases e : j = i
  ·subst e; simp [beqT]
  ·rw [beqF e]; simpa using gk_frgGH cs r j
theorem lk_frgEH (cs : List Nat) : ∀ (σ : Env) (j : Nat),lk (frgEH cs σ) j = frg cs (lk σ j)
 | [],j=>rfl
 | (i,o) :: r,j=>by
  simp only [frgEH,lk]
  by_cases e : j = i
  ·subst e; simp [beqT]
  ·rw [beqF e]; simpa using lk_frgEH cs r j
def frgG (cs : List Nat) (σ : GH) : GH:=match cs with
 | []=>σ
 | _ :: _=>frgGH cs σ
def frgE (cs : List Nat) (ρ : Env) : Env:=match cs with
 | []=>ρ
 | _ :: _=>frgEH cs ρ
theorem frgE_rep {cs : List Nat} {β β' : Bl} (h : ∀ g v,g ∉ cs → β g = some v → β' g = some v) {ρ : Env} {i : Nat} {v : Value} (hr : Rep β (lk ρ i) v) : Rep β' (lk (frgE cs ρ) i) v:=by
 cases cs with
 | nil=>exact hr.mono (fun g x hg=>h g x (by simp) hg)
 | cons c r =>
  show Rep β' (lk (frgEH (c :: r) ρ) i) v
  rw [lk_frgEH]; exact hr.frg h
theorem gk_frgG {cs : List Nat} {β β' : Bl} (h : ∀ g v,g ∉ cs → β g = some v → β' g = some v) {σ : GH} {j : Nat} {o : GO} (hg : gk (frgG cs σ) j = some o) :
  ∃ o0,gk σ j = some o0 ∧ (∀ ob,RepG β o0 ob → RepG β' o ob) ∧ (∀ F,o = .fz F → o0 = .fz F):=by
 cases cs with
 | nil=>exact ⟨o,hg,fun ob hr=>hr.mono (fun g x hx=>h g x (by simp) hx),fun F hF=>hF⟩
 | cons c r =>
  have hg : gk (frgGH (c :: r) σ) j = some o:=hg
  rw [gk_frgGH,Option.map_eq_some_iff] at hg
  obtain ⟨o0,h0,rfl⟩:=hg
  refine ⟨o0,h0,fun ob hr=>hr.frg h,fun F hF=>?_⟩
  cases o0 with
  | row r=>obtain ⟨_,_,_⟩:=r; cases hF
  | raw b=>cases hF
  | pr p=>cases hF
  | fz F'=>exact hF
def okDs (p : Nat → Bool) : List SD → Bool
 | []=>true
 | d :: r=>okGL p d.cap && okGL p d.args && okDs p r
theorem RepD.ok {p : Nat → Bool} {β β' : Bl} (h : ∀ g v,p g = true → β g = some v → β' g = some v) {ds : List SD} {es : List Deferred} (hr : RepD β ds es) : okDs p ds = true → RepD β' ds es:=by
 induction hr with
 | nil=>intro _; exact .nil
 | cons hc ha _ ih =>
  intro hk
  simp only [okDs,Bool.and_eq_true] at hk
  exact .cons (hc.ok h hk.1.1) (ha.ok h hk.1.2) (ih hk.2)
def notAn (g : Nat) : List (Nat × Option (Option Nat)) → Bool
 | []=>true
 | p :: r=>!(Nat.beq p.1 g) && notAn g r
theorem notAn_iff {g : Nat} : ∀ {l : List (Nat × Option (Option Nat))},notAn g l = true → ∀ p,p ∈ l → p.1 ≠ g
 | [],_,p,hp=>by cases hp
 | q :: r,h,p,hp=>by
  simp only [notAn,Bool.and_eq_true,Bool.not_eq_true'] at h
  rcases List.mem_cons.1 hp with rfl | hp
  ·intro e
   have : Nat.beq p.1 g = true:=by rw [e]; exact beqT g
   rw [h.1] at this; cases this
  ·exact notAn_iff h.2 p hp
def giveOk (M : MC) (ds : List SD) : List Nat → Bool
 | []=>true
 | g :: r=>Nat.ble M.k g && notAn g M.an && okDs (outN [g]) ds && giveOk M ds r
theorem giveOk_iff {M : MC} {ds : List SD} : ∀ {l : List Nat},giveOk M ds l = true → ∀ g,g ∈ l → M.k ≤ g ∧ (∀ p,p ∈ M.an → p.1 ≠ g) ∧ okDs (outN [g]) ds = true
 | [],_,g,hg=>by cases hg
 | x :: r,h,g,hg=>by
  simp only [giveOk,Bool.and_eq_true] at h
  rcases List.mem_cons.1 hg with rfl | hg
  ·exact ⟨Nat.le_of_ble_eq_true h.1.1.1,notAn_iff h.1.1.2,h.1.2⟩
  ·exact giveOk_iff h.2 g hg
mutual
theorem okG_and {p q r : Nat → Bool} (h : ∀ g,p g = true → q g = true → r g = true) : ∀ x : SV,okG p x = true → okG q x = true → okG r x = true
 | .any,_,_=>rfl
 | .v _,_,_=>rfl
 | .ptr g o,h1,h2=>by simp only [okG] at *; exact h g h1 h2
 | .slc g _ _ _,h1,h2=>by simp only [okG] at *; exact h g h1 h2
 | .mpp g,h1,h2=>by simp only [okG] at *; exact h g h1 h2
 | .agg xs,h1,h2=>by simp only [okG] at *; exact okGL_and h xs h1 h2
 | .ifc _ x,h1,h2=>by simp only [okG] at *; exact okG_and h x h1 h2
 | .tup xs,h1,h2=>by simp only [okG] at *; exact okGL_and h xs h1 h2
 | .fn _ a b,h1,h2=>by
  simp only [okG,Bool.and_eq_true] at *
  exact ⟨okGL_and h a h1.1 h2.1,okGL_and h b h1.2 h2.2⟩
theorem okGL_and {p q r : Nat → Bool} (h : ∀ g,p g = true → q g = true → r g = true) : ∀ x : List SV,okGL p x = true → okGL q x = true → okGL r x = true
 | [],_,_=>rfl
 | x :: xs,h1,h2=>by
  simp only [okGL,Bool.and_eq_true] at *
  exact ⟨okG_and h x h1.1 h2.1,okGL_and h xs h1.2 h2.2⟩
end
theorem okDs_and {p q r : Nat → Bool} (h : ∀ g,p g = true → q g = true → r g = true) : ∀ x : List SD,okDs p x = true → okDs q x = true → okDs r x = true
 | [],_,_=>rfl
 | d :: xs,h1,h2=>by
  simp only [okDs,Bool.and_eq_true] at *
  exact ⟨⟨okGL_and h _ h1.1.1 h2.1.1,okGL_and h _ h1.1.2 h2.1.2⟩,okDs_and h xs h1.2 h2.2⟩
mutual
theorem okG_nil : ∀ x : SV,okG (outN []) x = true
 | .any=>rfl
 | .v _=>rfl
 | .ptr _ _=>rfl
 | .slc _ _ _ _=>rfl
 | .mpp _=>rfl
 | .agg xs=>by simp only [okG]; exact okGL_nil xs
 | .ifc _ x=>by simp only [okG]; exact okG_nil x
 | .tup xs=>by simp only [okG]; exact okGL_nil xs
 | .fn _ a b=>by simp only [okG,Bool.and_eq_true]; exact ⟨okGL_nil a,okGL_nil b⟩
theorem okGL_nil : ∀ x : List SV,okGL (outN []) x = true
 | []=>rfl
 | x :: r=>by simp only [okGL,Bool.and_eq_true]; exact ⟨okG_nil x,okGL_nil r⟩
end
theorem okDs_nil : ∀ x : List SD,okDs (outN []) x = true
 | []=>rfl
 | d :: r=>by simp only [okDs,Bool.and_eq_true]; exact ⟨⟨okGL_nil _,okGL_nil _⟩,okDs_nil r⟩
theorem okDs_all {M : MC} {ds : List SD} : ∀ {l : List Nat},giveOk M ds l = true → okDs (outN l) ds = true
 | [],_=>okDs_nil ds
 | x :: r,h=>by
  simp only [giveOk,Bool.and_eq_true] at h
  refine okDs_and (p:=outN [x]) (q:=outN r) (fun g h1 h2=>?_) ds h.1.2 (okDs_all h.2)
  simp only [outN,memN,Bool.or_false,Bool.not_eq_true',Bool.or_eq_false_iff] at h1 h2 ⊢
  exact ⟨h1,h2⟩
def chkC (M : MC) (ds : List SD) (k k2 nx : Nat) (ml : List Nat) : Bool:=Nat.beq ml.length k2 && nodupN ml && allLt nx ml && (Nat.ble k k2 && giveOk M ds (ml.drop k))
theorem Mem.callee {M : MC} {ds : List SD} {σ σc : GH} {nx k k2 : Nat} {β : Bl} {w : World} (h : Mem M σ nx β w) {ml : List Nat} (hc : chkC M ds k k2 nx ml = true) (hg : entG (mo ml nx) σ σc) :
  Mem (mc M.μ w k k2 (fun g=>β (mo ml nx g)) σc) σc k2 (fun g=>β (mo ml nx g)) w:=by
 simp only [chkC,Bool.and_eq_true] at hc
 have hl:=Nat.eq_of_beq_eq_true hc.1.1.1
 have hd:=nodupN_iff _ hc.1.1.2
 have hk:=Nat.le_of_ble_eq_true hc.2.1
 have hnone : ∀ g,k2 ≤ g → β (mo ml nx g) = none:=by
  intro g hge
  rw [mo_ge _ _ _ (by omega)]
  exact h.nx _ (by omega)
 refine ⟨?_,mo_inj h.nx hd h.inj,fun g b=>h.rng _ b,hnone,h.im,fun b o hb g=>h.imb b o hb _,fun b _ _ _=>rfl,Nat.le_refl _,rfl,rfl,rfl,hk,fun g _=>rfl,?_,?_,fun p hp=>(by cases hp),?_⟩
 ·intro g go b hgo hb
  obtain ⟨o,ho,hle⟩:=entG_gk hg g go hgo
  obtain ⟨ob,hw,hr⟩:=h.hp _ _ _ ho hb
  exact ⟨ob,hw,hle.rep (fun _=>rfl) hr⟩
 ·intro g go hgo
  obtain ⟨o,ho,_⟩:=entG_gk hg g go hgo
  have:=h.dom _ _ ho
  rcases Nat.lt_or_ge g ml.length with hh | hh
  ·omega
  ·rw [mo_ge _ _ _ hh] at this; omega
 ·intro g b hk' hgb
  rcases Nat.lt_or_ge g k2 with h1 | h1
  ·exact .inr ⟨g,hk',h1,hgb⟩
  ·have hgb' : β (mo ml nx g) = some (some b):=hgb
   rw [hnone g h1] at hgb'; cases hgb'
 ·intro g F hgo b o hF
  obtain ⟨o',ho,hle⟩:=entG_gk hg g _ hgo
  cases o' <;> simp only [GLe] at hle
  obtain ⟨h1,h2,_⟩:=h.fz _ _ ho b o (hle b o hF)
  exact ⟨h1,fun g'=>h2 _,.inl ⟨g,F,o,hgo,hF⟩⟩
def posIn : List Nat → Nat → Option Nat
 | [],_=>none
 | x :: r,g=>if g = x then some 0 else (posIn r g).map (· + 1)
theorem posIn_some : ∀ {l : List Nat} {g j : Nat},posIn l g = some j → l[j]? = some g
 | [],g,j,h=>by simp [posIn] at h
 | x :: r,g,j,h=>by
  simp only [posIn] at h
  split at h
  ·simp at h; subst h; rename_i e; simp [e]
  ·rw [Option.map_eq_some_iff] at h
   obtain ⟨i,h1,rfl⟩:=h
   simpa using posIn_some h1
theorem posIn_none : ∀ {l : List Nat} {g : Nat},posIn l g = none → g ∉ l
 | [],g,_=>by simp
 | x :: r,g,h=>by
  simp only [posIn] at h
  split at h
  ·cases h
  ·rename_i hne
   rw [Option.map_eq_none_iff] at h
   have:=posIn_none h
   simp [hne,this]
theorem posIn_mem {l : List Nat} {g : Nat} (h : g ∈ l) : ∃ j,posIn l g = some j:=by
 cases hp : posIn l g with
 | none=>exact absurd h (posIn_none hp)
 | some j=>exact ⟨j,rfl⟩
def backB (β β' : Bl) (nx k k2 : Nat) (cs : List Nat) : Bl:=fun g=>if g < nx then (match posIn cs g with | some j=>β' (k + j) | none=>β g) else β' (k2 + (g - nx))
theorem Mem.back {M : MC} {ds : List SD} {σ σc σ' : GH} {nx k k2 nx' : Nat} {β β' : Bl} {w w' : World} (h : Mem M σ nx β w) {ml : List Nat} (hc : chkC M ds k k2 nx ml = true) (hgh : entG (mo ml nx) σ σc)
  (h' : Mem (mc M.μ w k k2 (fun g=>β (mo ml nx g)) σc) σ' nx' β' w') :
  Mem M (addG (mo ml nx) (frgG (ml.drop k) (dels ml σ)) σ') (nx + (nx' - k2)) (backB β β' nx k k2 (ml.drop k)) w' ∧ Via (mo ml nx) (backB β β' nx k k2 (ml.drop k)) β' ∧ (∀ g v,g ∉ ml.drop k → β g = some v → backB β β' nx k k2 (ml.drop k) g = some v):=by
 simp only [chkC,Bool.and_eq_true] at hc
 have hl:=Nat.eq_of_beq_eq_true hc.1.1.1
 have hd:=nodupN_iff _ hc.1.1.2
 have hlt:=allLt_iff hc.1.2
 have hk:=Nat.le_of_ble_eq_true hc.2.1
 have hgive:=giveOk_iff hc.2.2
 have hinj:=moInj hd hlt
 generalize hcs : ml.drop k = cs at hgive
 have hcsg : ∀ j,cs[j]? = ml[k + j]?:=by intro j; rw [← hcs,List.getElem?_drop]
 have hcsm : ∀ g,g ∈ cs → g ∈ ml:=by intro g hg; rw [← hcs] at hg; exact List.mem_of_mem_drop hg
 have hidx : ∀ g,g ∈ ml → ∃ j,j < k2 ∧ mo ml nx j = g ∧ ml[j]? = some g:=by
  intro g hg
  obtain ⟨j,hj,hjg⟩:=List.getElem_of_mem hg
  refine ⟨j,by omega,?_,by rw [List.getElem?_eq_getElem hj,hjg]⟩
  have:=mo_lt ml nx j hj
  rw [List.getElem?_eq_getElem hj,hjg] at this
  simpa using this.symm
 have hcsi : ∀ g,g ∈ cs → ∃ j,k ≤ j ∧ j < k2 ∧ mo ml nx j = g:=by
  intro g hg
  obtain ⟨j,hj⟩:=List.getElem?_of_mem hg
  rw [hcsg] at hj
  have hlt' : k + j < ml.length:=(List.getElem?_eq_some_iff.1 hj).1
  refine ⟨k + j,by omega,by omega,?_⟩
  have:=mo_lt ml nx (k + j) hlt'
  rw [hj] at this; simpa using this.symm
 have hnotcs : ∀ j,j < k → ∀ g,ml[j]? = some g → g ∉ cs:=by
  intro j hj g hg hgc
  obtain ⟨i,hi⟩:=List.getElem?_of_mem hgc
  rw [hcsg] at hi
  have:=nd_inj ml hd _ _ _ hg hi
  omega
 have via : Via (mo ml nx) (backB β β' nx k k2 cs) β':=by
  intro g
  unfold backB
  rcases Nat.lt_or_ge g k2 with hg | hg
  ·have e:=mo_lt ml nx g (by omega)
   rw [if_pos (hlt _ (List.mem_of_getElem? e))]
   rcases Nat.lt_or_ge g k with hg' | hg'
   ·have hn:=hnotcs g hg' _ e
    cases hp : posIn cs (mo ml nx g) with
    | some j=>exact absurd (List.mem_of_getElem? (posIn_some hp)) hn
    | none=>exact (h'.base g hg').symm
   ·have hm : mo ml nx g ∈ cs:=by
     have : cs[g - k]? = some (mo ml nx g):=by rw [hcsg,show k + (g - k) = g from by omega]; exact e
     exact List.mem_of_getElem? this
    obtain ⟨j,hj⟩:=posIn_mem hm
    rw [hj]
    have h1:=posIn_some hj
    rw [hcsg] at h1
    have:=nd_inj ml hd _ _ _ e h1
    show β' (k + j) = β' g
    rw [this]
  ·rw [mo_ge _ _ _ (by omega),if_neg (by omega)]
   congr 1; omega
 have ext : ∀ g v,g ∉ cs → β g = some v → backB β β' nx k k2 cs g = some v:=by
  intro g b hn hb
  unfold backB
  rcases Nat.lt_or_ge g nx with hg | hg
  ·rw [if_pos hg]
   cases hp : posIn cs g with
   | some j=>exact absurd (List.mem_of_getElem? (posIn_some hp)) hn
   | none=>exact hb
  ·rw [h.nx g hg] at hb; cases hb
 have cls : ∀ g x,backB β β' nx k k2 cs g = some x → (g < nx ∧ g ∉ cs ∧ β g = some x) ∨ ∃ gc,k ≤ gc ∧ g = mo ml nx gc ∧ β' gc = some x:=by
  intro g x hg
  unfold backB at hg
  rcases Nat.lt_or_ge g nx with h1 | h1
  ·rw [if_pos h1] at hg
   cases hp : posIn cs g with
   | some j =>
    rw [hp] at hg
    have h2:=posIn_some hp
    rw [hcsg] at h2
    have hlt' : k + j < ml.length:=(List.getElem?_eq_some_iff.1 h2).1
    have h3:=mo_lt ml nx (k + j) hlt'
    rw [h2] at h3
    exact .inr ⟨k + j,by omega,by simpa using h3,hg⟩
   | none=>rw [hp] at hg; exact .inl ⟨h1,posIn_none hp,hg⟩
  ·rw [if_neg (by omega)] at hg
   exact .inr ⟨k2 + (g - nx),by omega,by rw [mo_ge _ _ _ (by omega)]; omega,hg⟩
 have own : ∀ b,(mc M.μ w k k2 (fun g=>β (mo ml nx g)) σc).ow b → ∃ g,g ∈ cs ∧ β g = some (some b):=by
  rintro b ⟨j,h1,h2,h3⟩
  have e:=mo_lt ml nx j (by omega)
  refine ⟨mo ml nx j,?_,h3⟩
  have : cs[j - k]? = some (mo ml nx j):=by rw [hcsg,show k + (j - k) = j from by omega]; exact e
  exact List.mem_of_getElem? this
 have newB : ∀ gc b,k ≤ gc → β' gc = some (some b) → w.heap.size ≤ b ∨ ∃ g,g ∈ cs ∧ β g = some (some b):=by
  intro gc b hg hb
  rcases h'.new gc b hg hb with h1 | h1
  ·exact .inl h1
  ·exact .inr (own b h1)
 have old : ∀ g b,β g = some (some b) → g ∉ ml → ∀ gc,β' gc ≠ some (some b):=by
  intro g b hb hn gc hgc
  rcases Nat.lt_or_ge gc k with hk' | hk'
  ·rw [h'.base gc hk'] at hgc
   have e:=mo_lt ml nx gc (by omega)
   have:=h.inj _ _ _ hb hgc
   exact hn (by rw [this]; exact List.mem_of_getElem? e)
  ·rcases newB gc b hk' hgc with h1 | ⟨g2,h2,h3⟩
   ·have h2:=h.rng g b hb
    omega
   ·have:=h.inj _ _ _ hb h3
    exact hn (by rw [this]; exact hcsm _ h2)
 have oldfr : ∀ b,b < w.heap.size → (∀ g,g ∈ ml → β g ≠ some (some b)) → w'.heap[b]? = w.heap[b]?:=by
  intro b hb hn
  refine h'.fr b hb (fun how=>?_) fun gc hgc=>?_
  ·obtain ⟨g,h1,h2⟩:=own b how
   exact hn g (hcsm _ h1) h2
  ·rcases Nat.lt_or_ge gc k with hk' | hk'
   ·rw [h'.base gc hk'] at hgc
    exact hn _ (List.mem_of_getElem? (mo_lt ml nx gc (by omega))) hgc
   ·rcases newB gc b hk' hgc with h1 | ⟨g2,h2,h3⟩
    ·omega
    ·exact hn g2 (hcsm _ h2) h3
 have hsz : w.heap.size ≤ w'.heap.size:=h'.sz
 have fzc : ∀ g F,gk σc g = some (.fz F) → ∀ b o,F b = some o → w.heap[b]? = some o ∧ (∀ g',β g' ≠ some (some b)) ∧ (M.z0 b ∨ M.w0.heap.size ≤ b ∨ M.ow b):=by
  intro g F hg b o hF
  obtain ⟨o',ho,hle⟩:=entG_gk hgh g _ hg
  cases o' <;> simp only [GLe] at hle
  exact h.fz _ _ ho b o (hle b o hF)
 refine ⟨⟨?_,?_,?_,?_,h'.im,?_,?_,?_,?_,?_,?_,?_,?_,?_,?_,?_,?_⟩,via,ext⟩
 ·intro g go b hgo hb
  rcases gk_addG hinj _ _ _ _ hgo with hgo | ⟨gc,oc,h1,h2,rfl⟩
  ·obtain ⟨o0,hgo,hrep,_⟩:=gk_frgG ext hgo
   obtain ⟨hn,hgo⟩:=gk_dels _ _ _ _ hgo
   have hgx:=h.dom g _ hgo
   rcases cls g _ hb with ⟨h1,h2,h3⟩ | ⟨gc,h1,h2,h3⟩
   ·obtain ⟨ob,hw,hr⟩:=h.hp g o0 b hgo h3
    refine ⟨ob,?_,hrep ob hr⟩
    rw [oldfr b (h.rng g b h3) (fun g' hg' hb'=>hn (by rw [h.inj _ _ _ h3 hb']; exact hg'))]
    exact hw
   ·rcases Nat.lt_or_ge gc ml.length with hh | hh
    ·exact absurd (List.mem_of_getElem? (by rw [h2]; exact mo_lt ml nx gc hh)) hn
    ·rw [h2,mo_ge _ _ _ hh] at hgx; omega
  ·have hb' : β' gc = some (some b):=by rw [← via gc,h1]; exact hb
   obtain ⟨ob,hw,hr⟩:=h'.hp gc oc b h2 hb'
   exact ⟨ob,hw,hr.renO via⟩
 ·intro g g' b hg hg'
  rcases cls g _ hg with ⟨h1,h2,h3⟩ | ⟨gc,h1,h2,h3⟩ <;> rcases cls g' _ hg' with ⟨h4,h5,h6⟩ | ⟨gc',h4,h5,h6⟩
  ·exact h.inj _ _ _ h3 h6
  ·rcases newB gc' b h4 h6 with h7 | ⟨g2,h7,h8⟩
   ·have:=h.rng _ _ h3; omega
   ·exact absurd h7 (by rw [← h.inj _ _ _ h3 h8]; exact h2)
  ·rcases newB gc b h1 h3 with h7 | ⟨g2,h7,h8⟩
   ·have:=h.rng _ _ h6; omega
   ·exact absurd h7 (by rw [← h.inj _ _ _ h6 h8]; exact h5)
  ·rw [h2,h5,h'.inj _ _ _ h3 h6]
 ·intro g b hg
  rcases cls g _ hg with ⟨_,_,h3⟩ | ⟨gc,_,_,h3⟩
  ·have:=h.rng _ _ h3; omega
  ·exact h'.rng _ _ h3
 ·intro g hg
  unfold backB
  rw [if_neg (by omega)]
  exact h'.nx _ (by omega)
 ·intro b o hb g hg
  rcases cls g _ hg with ⟨_,_,h3⟩ | ⟨gc,_,_,h3⟩
  ·exact h.imb b o hb _ h3
  ·exact h'.imb b o hb _ h3
 ·intro b hb how hng
  have hsz0:=h.sz
  have hno : ∀ g,β g ≠ some (some b):=by
   intro g hgb
   by_cases hc' : g ∈ cs
   ·rcases h.new g b (hgive g hc').1 hgb with h1 | h1
    ·omega
    ·exact how h1
   ·exact hng g (ext _ _ hc' hgb)
  rw [oldfr b (by omega) (fun g _=>hno g)]
  exact h.fr b hb how hno
 ·have:=h.sz; omega
 ·rw [← h.os]; exact h'.os
 ·rw [← h.tape]; exact h'.tape
 ·rw [← h.output]; exact h'.output
 ·have:=h.kn; omega
 ·intro g hg
  have hkn:=h.kn
  unfold backB
  rw [if_pos (by omega)]
  cases hp : posIn cs g with
  | some j=>have:=(hgive g (List.mem_of_getElem? (posIn_some hp))).1; omega
  | none=>exact h.base g hg
 ·intro g go hgo
  rcases gk_addG hinj _ _ _ _ hgo with hgo | ⟨gc,oc,h1,h2,rfl⟩
  ·obtain ⟨o0,hgo,_,_⟩:=gk_frgG ext hgo
   obtain ⟨_,hgo⟩:=gk_dels _ _ _ _ hgo
   have:=h.dom g _ hgo; omega
  ·have h3:=h'.dom gc oc h2
   rcases Nat.lt_or_ge gc ml.length with hh | hh
   ·have:=hlt _ (List.mem_of_getElem? (mo_lt ml nx gc hh)); omega
   ·rw [← h1,mo_ge _ _ _ hh]; omega
 ·intro g b hkg hg
  rcases cls g _ hg with ⟨_,_,h3⟩ | ⟨gc,h1,_,h3⟩
  ·exact h.new g b hkg h3
  ·rcases newB gc b h1 h3 with h7 | ⟨g2,h7,h8⟩
   ·have:=h.sz; exact .inl (by omega)
   ·exact h.new g2 b (hgive g2 h7).1 h8
 ·intro p hp
  obtain ⟨h1,h2⟩:=h.anc p hp
  refine ⟨by omega,?_⟩
  unfold backB
  rw [if_pos h1]
  cases hp' : posIn cs p.1 with
  | some j=>exact absurd rfl ((hgive p.1 (List.mem_of_getElem? (posIn_some hp'))).2.1 p hp)
  | none=>exact h2
 ·intro g F hgo b o hF
  rcases gk_addG hinj _ _ _ _ hgo with hgo | ⟨gc,oc,h1,h2,h3⟩
  ·obtain ⟨o0,hgo,_,hfz⟩:=gk_frgG ext hgo
   obtain ⟨hn,hgo⟩:=gk_dels _ _ _ _ hgo
   rw [hfz F rfl] at hgo
   obtain ⟨h1,h2,h3⟩:=h.fz g F hgo b o hF
   refine ⟨by rw [oldfr b (getElem?_lt h1) (fun g _=>h2 g)]; exact h1,fun g' hg'=>?_,h3⟩
   rcases cls g' _ hg' with ⟨_,_,h6⟩ | ⟨gc',h4,h5,h6⟩
   ·exact h2 _ h6
   ·rcases newB gc' b h4 h6 with h7 | ⟨g2,h7,h8⟩
    ·have:=getElem?_lt h1; omega
    ·exact h2 _ h8
  ·have e3 : oc = .fz F:=by
    cases oc with
    | row r=>obtain ⟨_,_,_⟩:=r; cases h3
    | raw b=>cases h3
    | pr p=>cases h3
    | fz F'=>exact h3.symm
   subst e3
   obtain ⟨h4,h5,h6⟩:=h'.fz gc F h2 b o hF
   have hno : ∀ g',g' ∉ cs → β g' = some (some b) → False:=by
    intro g' hn' hb'
    rcases h6 with h6 | h6 | h6
    ·obtain ⟨g3,F3,o3,h7,h8⟩:=h6
     exact (fzc g3 F3 h7 b o3 h8).2.1 g' hb'
    ·have:=h.rng _ _ hb'
     have h6 : w.heap.size ≤ b:=h6
     omega
    ·obtain ⟨g3,h7,h8⟩:=own b h6
     exact hn' (by rw [h.inj _ _ _ hb' h8]; exact h7)
   refine ⟨h4,fun g' hg'=>?_,?_⟩
   ·rcases cls g' _ hg' with ⟨_,h8,h9⟩ | ⟨gc',_,_,h9⟩
    ·exact hno g' h8 h9
    ·exact h5 _ h9
   ·rcases h6 with h6 | h6 | h6
    ·obtain ⟨g3,F3,o3,h7,h8⟩:=h6
     exact (fzc g3 F3 h7 b o3 h8).2.2
    ·have:=h.sz
     have h6 : w.heap.size ≤ b:=h6
     exact .inr (.inl (by omega))
    ·obtain ⟨g3,h7,h8⟩:=own b h6
     exact .inr (h.new g3 b (hgive g3 h7).1 h8)
def aftS (s : S) (ml : List Nat) (k k2 : Nat) (ρ' : Env) (p : Post) : S:=⟨ρ',addG (mo ml s.nx) (frgG (ml.drop k) (dels ml s.σ)) p.σ,s.nx + (p.nx - k2),s.ds⟩
theorem execOp_cf {ρ : Operand → Value} {o : Oper} {f : Nat} {as : Array Operand} {ats : Array TypeId} (ho : o.op = .call { callee:=.value (.func f),args:=as,argTypes:=ats }) (hv : ∀ g,ρ (.func g) = .func (.func g) #[] #[]) :
  execOp ρ o = callFunc f (as.map ρ):=by
 unfold execOp
 simp only [ho,resolve,hv]
 show callFunc f (#[] ++ as.map ρ ++ #[]) = _
 simp
def entA (m : Nat → Nat) : List SV → List SV → Prop
 | [],[]=>True
 | x :: r,x' :: r'=>VLe m x x' ∧ entA m r r'
 | _,_=>False
theorem entA_rep {m : Nat → Nat} {β β' : Bl} (h : Via m β β') : ∀ {xs xs' : List SV} {vs : List Value},entA m xs xs' → Reps β xs vs → Reps β' xs' vs
 | [],[],_,_,.nil=>.nil
 | x :: r,x' :: r',_,k,.cons h1 t=>.cons (k.1.rep h h1) (entA_rep h k.2 t)
def OpW (X : Ctx) (Q : Exit → Act → World → Prop) (o : Oper) (s : S) (K : Act → World → Prop) : Prop:=∀ β w a,Inv X s β w a → o.wp X.P a w K Q
theorem GL.op {ops : Array Oper} {Q : Exit → Act → World → Prop} {o : Oper} {l : List Oper} {s : S} (hg : o.guard = none) (h : OpW X Q o s (wpList X.P ops Q l)) : GL X ops Q (o :: l) s :=
 fun β w a hi=>wpList_plain hg fun _ hK=>Oper.wp_mono hK (h β w a hi)
theorem GL.opG {ops : Array Oper} {Q : Exit → Act → World → Prop} {o : Oper} {l : List Oper} {s : S} {g : Nat} {want : Bool} (hg : o.guard = some (g,want)) (hw : gdec ops s.ρ g want = some true) (h : OpW X Q o s (wpList X.P ops Q l)) : GL X ops Q (o :: l) s :=
 fun β w a hi=>wpList_step fun _ hK=>by rw [gdec_wanted hw hg hi.env,if_pos rfl]; exact Oper.wp_mono hK (h β w a hi)
theorem OpW.step {Q : Exit → Act → World → Prop} {o : Oper} {s s' : S} {K : Act → World → Prop} (h : Step X o s s') (k : GK X K s') : OpW X Q o s K:=by
 intro β w a hi
 obtain ⟨r,w',β',hr,h⟩:=h β w a hi
 unfold Oper.wp
 rw [hr]
 rcases h with ⟨v,rfl,h⟩ | ⟨rfl,h⟩
 ·exact k _ _ _ h
 ·exact k _ _ _ h
theorem OpW.enter {Q : Exit → Act → World → Prop} {o : Oper} {K : Act → World → Prop} {s : S} {f : Nat} {xs : List SV} {args : List SV} {σc : GH} {k k2 : Nat} {ι : Type} {I : ι → Prop} {post : ι → Post}
  (hF : FunC X.P X.M.μ f args σc k k2 I post) (ml : List Nat)
  (hrun : ∀ β w a,Inv X s β w a → ∃ vs,(execOp a.eval o).run X.P w = (callFunc f vs).run X.P w ∧ Reps β xs vs.toList)
  (hc : chkC X.M s.ds k k2 s.nx ml = true) (hx : entA (mo ml s.nx) xs args) (hgh : entG (mo ml s.nx) s.σ σc)
  (next : ∀ i,I i → ∀ ρ',putE X.n (frgE (ml.drop k) s.ρ) o.dst (ren (mo ml s.nx) (post i).x) = some ρ' → GK X K (aftS s ml k k2 ρ' (post i)))
  (hput : ∀ ρ x,(putE X.n ρ o.dst x).isSome = true) : OpW X Q o s K:=by
 intro β w a hi
 obtain ⟨vs,h1,h2⟩:=hrun β w a hi
 unfold Oper.wp
 rw [h1,hF.1 vs w]
 simp only [Oper.upon]
 have hm:=hi.mem.callee hc hgh
 have hcall:=hF.2 w _ _ hm (entA_rep (fun _=>rfl) hx h2)
 simp only [Array.toArray_toList] at hcall
 refine Calls.mono hcall fun e w' he=>?_
 obtain ⟨v,i,β',rfl,hI,hv,hm'⟩:=he
 obtain ⟨hM,via,ext⟩:=hi.mem.back hc hgh hm'
 cases hp : putE X.n (frgE (ml.drop k) s.ρ) o.dst (ren (mo ml s.nx) (post i).x) with
 | none=>have:=hput (frgE (ml.drop k) s.ρ) (ren (mo ml s.nx) (post i).x); rw [hp] at this; cases this
 | some ρ' =>
  refine next i hI ρ' hp _ _ _ ⟨hM,EnvOK.put (ρ:=frgE (ml.drop k) s.ρ) ⟨hi.env.size,fun j=>frgE_rep ext (hi.env.get j)⟩ hp (hv.ren via),?_⟩
  rw [put_defers]
  simp only [chkC,Bool.and_eq_true] at hc
  exact hi.ds.ok (fun g v hg=>ext g v (outN_iff hg)) (okDs_all hc.2.2)
theorem evs_eval {ρ : Env} {β : Bl} {a : Act} {n : Nat} (he : EnvOK n ρ β a) (as : Array Operand) : Reps β (evs ρ as.toList) (as.map a.eval).toList:=by
 have:=evs_rep he as.toList
 rw [← Array.toList_map] at this
 exact this
def putOk (n : Nat) : Option Nat → Bool
 | none=>true
 | some d=>Nat.blt d n
theorem putOk_some {n : Nat} {ρ : Env} {dst : Option Nat} (h : putOk n dst = true) (x : SV) : (putE n ρ dst x).isSome = true:=by
 cases dst with
 | none=>rfl
 | some d=>simp only [putOk] at h; simp only [putE,h,cond_true,fV_eq,fE_eq]; rfl
theorem OpW.call {Q : Exit → Act → World → Prop} {o : Oper} {K : Act → World → Prop} {s : S} {f : Nat} {as : Array Operand} {ats : Array TypeId} {args : List SV} {σc : GH} {k k2 : Nat} {ι : Type} {I : ι → Prop} {post : ι → Post}
  (ho : o.op = .call { callee:=.value (.func f),args:=as,argTypes:=ats }) (hF : FunC X.P X.M.μ f args σc k k2 I post) (ml : List Nat)
  (hput : putOk X.n o.dst = true) (hc : chkC X.M s.ds k k2 s.nx ml = true) (hx : entA (mo ml s.nx) (evs s.ρ as.toList) args) (hgh : entG (mo ml s.nx) s.σ σc)
  (next : ∀ i,I i → ∀ ρ',putE X.n (frgE (ml.drop k) s.ρ) o.dst (ren (mo ml s.nx) (post i).x) = some ρ' → GK X K (aftS s ml k k2 ρ' (post i))) : OpW X Q o s K:=by
 refine OpW.enter hF ml (xs:=evs s.ρ as.toList) (fun β w a hi=>⟨as.map a.eval,?_,evs_eval hi.env as⟩) hc hx hgh next (fun ρ=>putOk_some hput)
 rw [execOp_cf ho (fun g=>rfl)]
def IsMeth (P : Program) (t : Nat) (name : String) (f : Nat) : Prop:=∀ v w,(method (P.types.size + Made.depth) t v name).run P w = .ok (f,v) w
theorem OpW.invoke {Q : Exit → Act → World → Prop} {o : Oper} {K : Act → World → Prop} {s : S} {f t : Nat} {name : String} {recv : Operand} {y : SV} {as : Array Operand} {ats : Array TypeId} {args : List SV} {σc : GH} {k k2 : Nat} {ι : Type} {I : ι → Prop} {post : ι → Post}
  (ho : o.op = .call { callee:=.invoke recv name,args:=as,argTypes:=ats }) (hy : ev s.ρ recv = .ifc t y) (hme : IsMeth X.P t name f) (hF : FunC X.P X.M.μ f args σc k k2 I post) (ml : List Nat)
  (hput : putOk X.n o.dst = true) (hc : chkC X.M s.ds k k2 s.nx ml = true) (hx : entA (mo ml s.nx) (y :: evs s.ρ as.toList) args) (hgh : entG (mo ml s.nx) s.σ σc)
  (next : ∀ i,I i → ∀ ρ',putE X.n (frgE (ml.drop k) s.ρ) o.dst (ren (mo ml s.nx) (post i).x) = some ρ' → GK X K (aftS s ml k k2 ρ' (post i))) : OpW X Q o s K:=by
 refine OpW.enter hF ml (xs:=y :: evs s.ρ as.toList) (fun β w a hi=>?_) hc hx hgh next (fun ρ=>putOk_some hput)
 have hr:=hi.env.ev recv
 rw [hy] at hr
 generalize hv : a.eval recv = v at hr
 cases hr
 rename_i u hu
 refine ⟨#[u] ++ as.map a.eval,?_,?_⟩
 ·unfold execOp
  simp only [ho,resolve,hv]
  have hm:=hme u w
  have hp : (program : Sem Program).run X.P w = .ok X.P w:=rfl
  have e : (callMethod (Value.iface t u) name (as.map a.eval)).run X.P w = (callFunc f (#[u] ++ as.map a.eval)).run X.P w:=by
   simp only [callMethod,Sem.run_bind,hp,Result.andThen_ok,hm]
  have e2 : (#[Value.iface t u] ++ as.map a.eval).extract 1 (#[Value.iface t u] ++ as.map a.eval).size = as.map a.eval:=by
   apply Array.ext'
   simp only [Array.toList_extract,Array.toList_append,Array.toList_map,Array.size_append,Array.size_map,List.size_toArray]
   simp [List.take_of_length_le]
  show (Sem.run X.P (Go.invoke (.fn (.method name) #[]) (#[Value.iface t u] ++ as.map a.eval)) w) = _
  simp only [Go.invoke]
  have e0 : (#[Value.iface t u] ++ as.map a.eval)[0]? = some (Value.iface t u):=by rw [Array.getElem?_append_left (show 0 < 1 from Nat.one_pos)]; rfl
  simp only [e0,e2,e]
 ·simpa using Reps.cons hu (by simpa using evs_eval hi.env as)
end
section
open Go.RowKit
section
variable {P : Program} {ops : Array Oper} {Q : Exit → Act → World → Prop} {md : Region.Mode} {E H : List Nat} {Sw : World → Prop}
def wpAnyM (P : Program) (md : Region.Mode) (ops : Array Oper) (Q : Exit → Act → World → Prop) (Sw : World → Prop) (E H : List Nat) : Nat → Array Bool → Act → World → Prop
 | 0,listed,a,w=>Region.ready md ops listed = [] ∧ Q .normal a w
 | fuel + 1,listed,a,w =>
  (Region.ready md ops listed = [] → Q .normal a w) ∧
  ∀ i ∈ Region.ready md ops listed,(i ∈ E → wpOp P ops Q i (fun a' w'=>(i ∈ H → Sw w') ∧ wpAnyM P md ops Q Sw E H fuel (listed.setIfInBounds i true) a' w') a w) ∧
   (i ∉ E → stOp P ops w i (fun a'=>wpAnyM P md ops Q Sw E H fuel (listed.setIfInBounds i true) a' w) a)
theorem wpOp_of_st {Q' : Exit → Act → World → Prop} {w : World} {i : Nat} {K : Act → Prop} {K' : Act → World → Prop} {a : Act} (h : ∀ a,K a → K' a w) (hh : stOp P ops w i K a) : wpOp P ops Q' i K' a w:=by
 unfold stOp at hh
 unfold Go.wpOp
 split
 ·rename_i ho; simp only [ho] at hh; exact h _ hh
 ·rename_i o ho
  simp only [ho] at hh
  split
  ·rename_i hw
   simp only [hw,if_true] at hh
   refine .inl ?_
   unfold Oper.still at hh
   unfold Oper.wp
   generalize (execOp a.eval o).run P w = r at *
   cases r with
   | ok n w' =>
    cases n <;> simp only [Oper.stillUpon] at hh <;> simp only [Oper.upon]
    case value u=>rw [hh.1]; exact h _ hh.2
    case skip=>rw [hh.1]; exact h _ hh.2
    case enter f args =>
     obtain ⟨hw',v,hc,hn⟩:=hh
     rw [hw']
     exact hc.mono fun e w'' ⟨he,hw''⟩=>by subst he; subst hw''; exact h _ hn
   | halt x w'=>simp only [Oper.stillUpon] at hh
  ·rename_i hw; simp only [hw] at hh; exact h _ hh
theorem wpAny_of_M : ∀ (fuel : Nat) (listed : Array Bool) (a : Act) (w : World),wpAnyM P md ops Q Sw E H fuel listed a w → wpAny P md ops Q fuel listed a w
 | 0,_,_,_,h=>h
 | fuel + 1,_,a,w,h=>⟨h.1,fun i hi=>by
   by_cases he : i ∈ E
   ·exact wpOp_mono (fun a w h=>wpAny_of_M fuel _ a w h.2) ((h.2 i hi).1 he)
   ·exact wpOp_of_st (fun a=>wpAny_of_M fuel _ a w) ((h.2 i hi).2 he)⟩
theorem wpAnyM_first {i : Nat} {oi : Oper} {v : Value} (D : List Nat) (hi : ops[i]? = some oi) (hiE : i ∉ E) (hsel : ∀ (j : Nat) (o : Oper) cs b,ops[j]? = some o → o.op ≠ .select cs b)
  (hQ : ∀ c a w,Q (.panic c) (a.put oi.dst v) w → Q (.panic c) a w)
  (hD : ∀ j ∈ D,∃ oj,ops[j]? = some oj ∧ ∃ e ∈ oj.after,Region.binds md e = true ∧ (e.on = i ∨ e.on ∈ D)) :
  ∀ (fuel : Nat) (listed : Array Bool) (a : Act) (w : World),
   (∀ j oj,ops[j]? = some oj → j ≠ i → listed.getD j true = false → (∀ e ∈ oj.after,Region.binds md e = true → e.on ≠ i) → oi.apart ops oj = true) →
   i ∈ Region.ready md ops listed → (∀ j ∈ D,listed.getD j false = false) →
   (Yields P ops oi v a ∨ (YieldsAt P ops w oi v a ∧ ∀ e ∈ E,listed.getD e true = false → e ∈ D) ∨ (YieldsIf P ops Sw oi v a ∧ Sw w ∧ ∀ e ∈ E,listed.getD e true = false → e ∈ D ∨ e ∈ H)) →
   wpAnyM P md ops Q Sw E H fuel (listed.setIfInBounds i true) (a.put oi.dst v) w → wpAnyM P md ops Q Sw E H (fuel + 1) listed a w:=by
 have ya : ∀ {a w},Yields P ops oi v a → YieldsAt P ops w oi v a:=fun h=>h.imp (fun ⟨h1,h2⟩=>⟨h1,.inl (h2 _)⟩) id
 have yi : ∀ {a w},YieldsIf P ops Sw oi v a → Sw w → YieldsAt P ops w oi v a:=fun h hs=>h.imp (fun ⟨h1,h2⟩=>⟨h1,.inl (h2 _ hs)⟩) id
 intro fuel
 induction fuel with
 | zero =>
  intro listed a w _ hr _ hy H'
  refine ⟨fun h=>(by rw [h] at hr; cases hr),fun j hj=>?_⟩
  by_cases hji : j = i
  ·subst hji
   refine ⟨fun hh=>absurd hh hiE,fun _=>?_⟩
   rcases hy with hy | ⟨hy,_⟩ | ⟨hy,hs,_⟩
   ·exact (ya hy).stOp hi H'
   ·exact hy.stOp hi H'
   ·exact (yi hy hs).stOp hi H'
  ·have:=ready_mono hj hji
   rw [H'.1] at this
   cases this
 | succ fuel ih =>
  intro listed a w hfree hr hDl hy H'
  refine ⟨fun h=>(by rw [h] at hr; cases hr),fun j hj=>?_⟩
  by_cases hji : j = i
  ·subst hji
   refine ⟨fun hh=>absurd hh hiE,fun _=>?_⟩
   rcases hy with hy | ⟨hy,_⟩ | ⟨hy,hs,_⟩
   ·exact (ya hy).stOp hi H'
   ·exact hy.stOp hi H'
   ·exact (yi hy hs).stOp hi H'
  ·have h1:=H'.2 j (ready_mono hj hji)
   obtain ⟨hjun,oj,hoj,hall⟩:=mem_ready.1 hj
   have hi0:=(mem_ready.1 hr).1
   have hiun : listed.getD i false = false:=by
    rcases Nat.lt_or_ge i listed.size with h' | h'
    ·simp [h'] at hi0 ⊢; exact hi0
    ·simp [Array.getElem?_eq_none h']
   have hnot : ∀ e ∈ oj.after,Region.binds md e = true → e.on ≠ i:=fun e he hb heq=>by
    have h1:=hall e he hb
    rw [heq,hiun] at h1; cases h1
   have hjD : j ∉ D:=fun hjD=>by
    obtain ⟨o',ho',e,he,hb,hon⟩:=hD j hjD
    rw [hoj] at ho'; cases ho'
    have h1:=hall e he hb
    rcases hon with hon | hon
    ·rw [hon,hiun] at h1; cases h1
    ·rw [hDl _ hon] at h1; cases h1
   have hfree' : ∀ k ok,ops[k]? = some ok → k ≠ i → (listed.setIfInBounds j true).getD k true = false →
     (∀ e ∈ ok.after,Region.binds md e = true → e.on ≠ i) → oi.apart ops ok = true:=fun k ok hk hki hun hno=>by
    refine hfree k ok hk hki ?_ hno
    by_cases hjk : j = k
    ·subst hjk; exact hjun
    ·rw [getD_set_ne true hjk] at hun; exact hun
   have hDl' : ∀ k ∈ D,(listed.setIfInBounds j true).getD k false = false:=fun k hk=>by
    have hne : j ≠ k:=fun e=>hjD (by rw [e]; exact hk)
    rw [getD_set_ne false hne]; exact hDl k hk
   have hap:=hfree j oj hoj hji hjun hnot
   refine ⟨fun hjE=>?_,fun hjE=>?_⟩
   ·rcases hy with hy | ⟨_,hE⟩ | ⟨hy,hs,hE⟩
    ·have h2:=wpOp_put hoj hap (fun cs b=>hsel i oi cs b hi) (fun cs b=>hsel j oj cs b hoj) hQ hy (h1.1 hjE)
     refine wpOp_mono (fun a' w' h3=>⟨h3.2.1,ih (listed.setIfInBounds j true) a' w' hfree' (ready_mono hr (Ne.symm hji)) hDl' (.inl h3.1) ?_⟩) h2
     rw [Array.setIfInBounds_comm _ _ hji]
     exact h3.2.2
    ·exact absurd (hE j hjE hjun) hjD
    ·have h2:=wpOp_putIf hoj hap (fun cs b=>hsel i oi cs b hi) (fun cs b=>hsel j oj cs b hoj) hQ hy (h1.1 hjE)
     have hjH : j ∈ H:=(hE j hjE hjun).resolve_left hjD
     have hE' : ∀ e ∈ E,(listed.setIfInBounds j true).getD e true = false → e ∈ D ∨ e ∈ H:=fun e he hun=>by
      refine hE e he ?_
      by_cases hje : j = e
      ·subst hje; exact hjun
      ·rw [getD_set_ne true hje] at hun; exact hun
     refine wpOp_mono (fun a' w' h3=>⟨h3.2.1,ih (listed.setIfInBounds j true) a' w' hfree' (ready_mono hr (Ne.symm hji)) hDl' (.inr (.inr ⟨h3.1,h3.2.1 hjH,hE'⟩)) ?_⟩) h2
     rw [Array.setIfInBounds_comm _ _ hji]
     exact h3.2.2
   ·rcases hy with hy | ⟨hy,hE⟩ | ⟨hy,hs,hE⟩
    ·have h2 : stOp P ops w j (fun a'=>Yields P ops oi v a' ∧ wpAnyM P md ops Q Sw E H fuel ((listed.setIfInBounds i true).setIfInBounds j true) (a'.put oi.dst v) w) a:=by
      have h3:=stOp_put hoj hap (fun cs b=>hsel i oi cs b hi) (fun cs b=>hsel j oj cs b hoj) (ya hy) (h1.2 hjE)
      obtain ⟨ap1,ap2,ap3⟩:=Oper.apart_spec hap
      have keep : ∀ u,Yields P ops oi v (a.put oj.dst u):=fun u=>hy.of_same (execOp_put oi (fun cs b=>hsel i oi cs b hi) a oj.dst u ap3) (wanted_put oi a oj.dst u ap3)
      obtain ⟨u,hu,hK⟩:=yieldsAt_of_stOp hoj h3
      exact hu.stOp hoj ⟨keep u,hK.2⟩
     refine stOp_mono (fun a' h3=>ih (listed.setIfInBounds j true) a' w hfree' (ready_mono hr (Ne.symm hji)) hDl' (.inl h3.1) ?_) h2
     rw [Array.setIfInBounds_comm _ _ hji]
     exact h3.2
    ·have h2:=stOp_put hoj hap (fun cs b=>hsel i oi cs b hi) (fun cs b=>hsel j oj cs b hoj) hy (h1.2 hjE)
     refine stOp_mono (fun a' h3=>ih (listed.setIfInBounds j true) a' w hfree' (ready_mono hr (Ne.symm hji)) hDl' (.inr (.inl ⟨h3.1,fun e he hun=>?_⟩)) ?_) h2
     ·refine hE e he ?_
      by_cases hje : j = e
      ·subst hje; exact hjun
      ·rw [getD_set_ne true hje] at hun; exact hun
     ·rw [Array.setIfInBounds_comm _ _ hji]
      exact h3.2
    ·have h2 : stOp P ops w j (fun a'=>YieldsIf P ops Sw oi v a' ∧ wpAnyM P md ops Q Sw E H fuel ((listed.setIfInBounds i true).setIfInBounds j true) (a'.put oi.dst v) w) a:=by
      have h3:=stOp_put hoj hap (fun cs b=>hsel i oi cs b hi) (fun cs b=>hsel j oj cs b hoj) (yi hy hs) (h1.2 hjE)
      obtain ⟨ap1,ap2,ap3⟩:=Oper.apart_spec hap
      have keep : ∀ u,YieldsIf P ops Sw oi v (a.put oj.dst u):=fun u=>hy.of_same (execOp_put oi (fun cs b=>hsel i oi cs b hi) a oj.dst u ap3) (wanted_put oi a oj.dst u ap3)
      obtain ⟨u,hu,hK⟩:=yieldsAt_of_stOp hoj h3
      exact hu.stOp hoj ⟨keep u,hK.2⟩
     have hE' : ∀ e ∈ E,(listed.setIfInBounds j true).getD e true = false → e ∈ D ∨ e ∈ H:=fun e he hun=>by
      refine hE e he ?_
      by_cases hje : j = e
      ·subst hje; exact hjun
      ·rw [getD_set_ne true hje] at hun; exact hun
     refine stOp_mono (fun a' h3=>ih (listed.setIfInBounds j true) a' w hfree' (ready_mono hr (Ne.symm hji)) hDl' (.inr (.inr ⟨h3.1,hs,hE'⟩)) ?_) h2
     rw [Array.setIfInBounds_comm _ _ hji]
     exact h3.2
def WL (P : Program) (ops : Array Oper) (Q : Exit → Act → World → Prop) (Sw : World → Prop) : List (Nat × Nat) → Act → World → Prop
 | [],a,w=>Q .normal a w
 | (i,0) :: r,a,w=>∃ o v,ops[i]? = some o ∧ Yields P ops o v a ∧ WL P ops Q Sw r (a.put o.dst v) w
 | (i,1) :: r,a,w=>∃ o v,ops[i]? = some o ∧ YieldsAt P ops w o v a ∧ WL P ops Q Sw r (a.put o.dst v) w
 | (i,2) :: r,a,w=>wpOp P ops Q i (WL P ops Q Sw r) a w
 | (i,3) :: r,a,w=>∃ o v,ops[i]? = some o ∧ YieldsIf P ops Sw o v a ∧ Sw w ∧ WL P ops Q Sw r (a.put o.dst v) w
 | (i,_ + 4) :: r,a,w=>wpOp P ops Q i (fun a w=>Sw w ∧ WL P ops Q Sw r a w) a w
def effs : List (Nat × Nat) → List Nat
 | []=>[]
 | (i,t) :: r=>bif Nat.beq t 2 || Nat.ble 4 t then i :: effs r else effs r
def helds : List (Nat × Nat) → List Nat
 | []=>[]
 | (i,t) :: r=>bif Nat.ble 4 t then i :: helds r else helds r
def waits (md : Region.Mode) (ops : Array Oper) (i : Nat) : List Nat → List Nat → List Nat
 | [],D=>D
 | j :: r,D=>match ops[j]? with
  | some o=>waits md ops i r (if o.after.any (fun e=>Region.binds md e && (Nat.beq e.on i || memN e.on D)) then j :: D else D)
  | none=>waits md ops i r D
def chkW (md : Region.Mode) (ops : Array Oper) (E H : List Nat) : List (Nat × Nat) → Array Bool → Bool
 | [],listed=>(Region.ready md ops listed).isEmpty
 | (i,0) :: r,listed=>(Region.ready md ops listed).contains i && Region.free md ops listed i && !(memN i E) && chkW md ops E H r (listed.setIfInBounds i true)
 | (i,1) :: r,listed =>
  (Region.ready md ops listed).contains i && Region.free md ops listed i && !(memN i E) &&
   (let D:=waits md ops i (List.range ops.size) []
    D.all (fun j=>(match ops[j]? with | some o=>o.after.any (fun e=>Region.binds md e && (Nat.beq e.on i || memN e.on D)) | none=>false) && !(listed.getD j false)) &&
    E.all (fun e=>listed.getD e true || memN e D)) && chkW md ops E H r (listed.setIfInBounds i true)
 | (i,2) :: r,listed=>(match Region.ready md ops listed with | [j]=>Nat.beq j i | _=>false) && memN i E && !(memN i H) && chkW md ops E H r (listed.setIfInBounds i true)
 | (i,3) :: r,listed =>
  (Region.ready md ops listed).contains i && Region.free md ops listed i && !(memN i E) &&
   (let D:=waits md ops i (List.range ops.size) []
    D.all (fun j=>(match ops[j]? with | some o=>o.after.any (fun e=>Region.binds md e && (Nat.beq e.on i || memN e.on D)) | none=>false) && !(listed.getD j false)) &&
    E.all (fun e=>listed.getD e true || memN e D || memN e H)) && chkW md ops E H r (listed.setIfInBounds i true)
 | (i,_ + 4) :: r,listed=>(match Region.ready md ops listed with | [j]=>Nat.beq j i | _=>false) && memN i E && chkW md ops E H r (listed.setIfInBounds i true)
theorem wpAnyM_WL (hs : Region.noSelect ops = true) (hQ : ∀ c a a' w,Q (.panic c) a w → a'.defers = a.defers → Q (.panic c) a' w) : ∀ (l : List (Nat × Nat)) (listed : Array Bool) (a : Act) (w : World),chkW md ops E H l listed = true → WL P ops Q Sw l a w →
  wpAnyM P md ops Q Sw E H l.length listed a w
 | [],listed,a,w,hc,h=>⟨by simpa [chkW] using hc,h⟩
 | (i,0) :: r,listed,a,w,hc,h=>by
  simp only [chkW,Bool.and_eq_true,Bool.not_eq_true'] at hc
  obtain ⟨⟨⟨h1,h2⟩,h3⟩,h4⟩:=hc
  obtain ⟨o,v,ho,hy,hk⟩:=h
  refine wpAnyM_first [] ho (fun hm=>by have hh:=(memN_iff _ _).2 hm; rw [hh] at h3; cases h3) (Region.noSelect_spec hs) (fun c a w hp=>hQ c _ _ _ hp (by rw [put_defers])) (fun j hj=>by cases hj) r.length listed a w (Region.free_spec ho h2) (by simpa using h1) (fun j hj=>by cases hj) (.inl hy) (wpAnyM_WL hs hQ r _ _ _ h4 hk)
 | (i,1) :: r,listed,a,w,hc,h=>by
  simp only [chkW,Bool.and_eq_true,Bool.not_eq_true'] at hc
  obtain ⟨⟨⟨⟨h1,h2⟩,h3⟩,h5,h6⟩,h4⟩:=hc
  obtain ⟨o,v,ho,hy,hk⟩:=h
  rw [List.all_eq_true] at h5 h6
  refine wpAnyM_first (waits md ops i (List.range ops.size) []) ho (fun hm=>by have hh:=(memN_iff _ _).2 hm; rw [hh] at h3; cases h3) (Region.noSelect_spec hs) (fun c a w hp=>hQ c _ _ _ hp (by rw [put_defers])) (fun j hj=>?_) r.length listed a w (Region.free_spec ho h2) (by simpa using h1) (fun j hj=>?_) (.inr (.inl ⟨hy,fun e he hun=>?_⟩)) (wpAnyM_WL hs hQ r _ _ _ h4 hk)
  ·have:=h5 j hj
   simp only [Bool.and_eq_true] at this
   have h7:=this.1
   split at h7
   ·rename_i oj hoj
    obtain ⟨e,he,hb⟩:=Array.any_eq_true'.1 h7
    simp only [Bool.and_eq_true,Bool.or_eq_true] at hb
    refine ⟨oj,hoj,e,he,hb.1,?_⟩
    rcases hb.2 with hb | hb
    ·exact .inl (Nat.eq_of_beq_eq_true hb)
    ·exact .inr ((memN_iff _ _).1 hb)
   ·cases h7
  ·have:=h5 j hj
   simp only [Bool.and_eq_true,Bool.not_eq_true'] at this
   exact this.2
  ·have:=h6 e he
   simp only [Bool.or_eq_true] at this
   rcases this with hh | hh
   ·exact absurd (hh.symm.trans hun) (by simp)
   ·exact (memN_iff _ _).1 hh
 | (i,2) :: r,listed,a,w,hc,h=>by
  simp only [chkW,Bool.and_eq_true,Bool.not_eq_true'] at hc
  obtain ⟨⟨⟨h1,h2⟩,h5⟩,h3⟩:=hc
  split at h1
  ·rename_i j hj
   have e:=Nat.eq_of_beq_eq_true h1
   subst e
   refine ⟨fun h0=>(by rw [hj] at h0; cases h0),fun k hk=>?_⟩
   rw [hj] at hk
   simp only [List.mem_singleton] at hk
   subst hk
   refine ⟨fun _=>wpOp_mono (fun a w hh=>⟨fun hm=>?_,wpAnyM_WL hs hQ r _ a w h3 hh⟩) h,fun hn=>absurd ((memN_iff _ _).1 h2) hn⟩
   have:=(memN_iff _ _).2 hm
   rw [this] at h5; cases h5
  ·cases h1
 | (i,3) :: r,listed,a,w,hc,h=>by
  simp only [chkW,Bool.and_eq_true,Bool.not_eq_true'] at hc
  obtain ⟨⟨⟨⟨h1,h2⟩,h3⟩,h5,h6⟩,h4⟩:=hc
  obtain ⟨o,v,ho,hy,hsw,hk⟩:=h
  rw [List.all_eq_true] at h5 h6
  refine wpAnyM_first (waits md ops i (List.range ops.size) []) ho (fun hm=>by have hh:=(memN_iff _ _).2 hm; rw [hh] at h3; cases h3) (Region.noSelect_spec hs) (fun c a w hp=>hQ c _ _ _ hp (by rw [put_defers])) (fun j hj=>?_) r.length listed a w (Region.free_spec ho h2) (by simpa using h1) (fun j hj=>?_) (.inr (.inr ⟨hy,hsw,fun e he hun=>?_⟩)) (wpAnyM_WL hs hQ r _ _ _ h4 hk)
  ·have:=h5 j hj
   simp only [Bool.and_eq_true] at this
   have h7:=this.1
   split at h7
   ·rename_i oj hoj
    obtain ⟨e,he,hb⟩:=Array.any_eq_true'.1 h7
    simp only [Bool.and_eq_true,Bool.or_eq_true] at hb
    refine ⟨oj,hoj,e,he,hb.1,?_⟩
    rcases hb.2 with hb | hb
    ·exact .inl (Nat.eq_of_beq_eq_true hb)
    ·exact .inr ((memN_iff _ _).1 hb)
   ·cases h7
  ·have:=h5 j hj
   simp only [Bool.and_eq_true,Bool.not_eq_true'] at this
   exact this.2
  ·have:=h6 e he
   simp only [Bool.or_eq_true] at this
   rcases this with (hh | hh) | hh
   ·exact absurd (hh.symm.trans hun) (by simp)
   ·exact .inl ((memN_iff _ _).1 hh)
   ·exact .inr ((memN_iff _ _).1 hh)
 | (i,n + 4) :: r,listed,a,w,hc,h=>by
  simp only [chkW,Bool.and_eq_true] at hc
  obtain ⟨⟨h1,h2⟩,h3⟩:=hc
  split at h1
  ·rename_i j hj
   have e:=Nat.eq_of_beq_eq_true h1
   subst e
   refine ⟨fun h0=>(by rw [hj] at h0; cases h0),fun k hk=>?_⟩
   rw [hj] at hk
   simp only [List.mem_singleton] at hk
   subst hk
   exact ⟨fun _=>wpOp_mono (fun a w hh=>⟨fun _=>hh.1,wpAnyM_WL hs hQ r _ a w h3 hh.2⟩) h,fun hn=>absurd ((memN_iff _ _).1 h2) hn⟩
  ·cases h1
theorem wp_region_WL {id : Nat} {l : List Oper} {a : Act} {w : World} (sch : List (Nat × Nat)) (hm : P.follows .mixedOrders = true)
  (hc : (Region.noSelect l.toArray && chkW .any l.toArray (effs sch) (helds sch) sch (Array.replicate l.length false) && Nat.beq sch.length l.length) = true)
  (hQ : ∀ c a a' w,Q (.panic c) a w → a'.defers = a.defers → Q (.panic c) a' w)
  (Sw : World → Prop) (h : WL P l.toArray Q Sw sch a w.drew) : (Code.region id l.toArray true).wp P Q a w:=by
 simp only [Bool.and_eq_true] at hc
 refine wp_region_any hm (wpAny_of_M (E:=effs sch) (H:=helds sch) (Sw:=Sw) _ _ _ _ ?_)
 have:=wpAnyM_WL (md:=.any) (E:=effs sch) (H:=helds sch) (Sw:=Sw) hc.1.1 hQ sch _ a w.drew (by simpa using hc.1.2) h
 rw [Nat.eq_of_beq_eq_true hc.2] at this
 simpa using this
end
end
section
open Go.RowKit
variable {X : Ctx}
def GW (X : Ctx) (ops : Array Oper) (Q : Exit → Act → World → Prop) (Sw : World → Prop) (l : List (Nat × Nat)) (s : S) : Prop:=∀ β w a,Inv X s β w a → WL X.P ops Q Sw l a w
def isV (o : Oper) : Bool :=
 match o.op with
 | .load .. | .store .. | .alloc .. | .box .. | .buildSlice ..=>false
 | _=>true
def isL (o : Oper) : Bool :=
 match o.op with
 | .load ..=>true
 | _=>false
theorem stepS_V {o : Oper} {s s' : S} {c : Prop} (hv : isV o = true) (h : stepS X.T X.n o s = some (c,s')) (hc : c) : ∃ x ρ',VStep X s.ρ o x ∧ putE X.n s.ρ o.dst x = some ρ' ∧ s' = { s with ρ:=ρ' }:=by
 obtain ⟨ρ,σ,nx,ds⟩:=s
 unfold stepS at h
 simp only at h
 unfold isV at hv
 split at h
 ·rename_i ho; rw [ho] at hv; cases hv
 ·rename_i ho; rw [ho] at hv; cases hv
 ·rename_i ho; rw [ho] at hv; cases hv
 ·rename_i ho; rw [ho] at hv; cases hv
 ·rename_i ho; rw [ho] at hv; cases hv
 ·cases hk : evalOk X.T o with
  | false=>simp [hk] at h
  | true =>
   simp only [hk,cond_true] at h
   split at h
   ·rename_i c' r he
    split at h
    ·rename_i ρ' hp
     simp only [Option.some.injEq,Prod.mk.injEq] at h
     obtain ⟨rfl,rfl⟩:=h
     exact ⟨r,ρ',VStep.eval (ρ:=ρ) he hc hk,hp,rfl⟩
    ·cases h
   ·cases h
theorem stepS_L {o : Oper} {s s' : S} {c : Prop} (hv : isL o = true) (h : stepS X.T X.n o s = some (c,s')) (hc : c) :
  ∃ x ρ',putE X.n s.ρ o.dst x = some ρ' ∧ s' = { s with ρ:=ρ' } ∧ ∀ {β w a},Inv X s β w a → ∃ v,(execOp a.eval o).run X.P w = .ok (.value v) w ∧ Rep β x v:=by
 obtain ⟨ρ,σ,nx,ds⟩:=s
 unfold stepS at h
 simp only at h
 unfold isL at hv
 split at h
 ·rename_i t x ho
  split at h
  ·rename_i c' r he
   split at h
   ·rename_i ρ' hp
    simp only [Option.some.injEq,Prod.mk.injEq] at h
    obtain ⟨rfl,rfl⟩:=h
    exact ⟨r,ρ',hp,rfl,fun hi=>load_op (s:=⟨ρ,σ,nx,ds⟩) ho he hc hi⟩
   ·cases h
  ·cases h
 all_goals
  split at hv
  ·simp_all
  ·cases hv
def gdo (ops : Array Oper) (ρ : Env) (o : Oper) : Option Bool :=
 match o.guard with
 | none=>some true
 | some (g,want)=>gdec ops ρ g want
theorem gdo_wanted {ops : Array Oper} {n : Nat} {ρ : Env} {β : Bl} {a : Act} {o : Oper} {r : Bool} (h : gdo ops ρ o = some r) (he : EnvOK n ρ β a) : Region.wanted o (yielded ops a.tmps) = r:=by
 unfold gdo at h
 split at h
 ·rename_i hg; simp only [Option.some.injEq] at h; subst h; simp [Region.wanted,hg]
 ·rename_i g want hg; exact gdec_wanted h hg he
def tagOk (t : Nat) (o : Oper) : Bool :=
 match t with
 | 0=>isV o
 | 1=>isL o
 | 2=>true
 | _=>false
def runW (T : Nat → TI) (n : Nat) (ops : Array Oper) : Nat → List (Nat × Nat) → S → Prop → List (Nat × Nat) × S × Prop
 | 0,l,s,c=>(l,s,c)
 | _ + 1,[],s,c=>([],s,c)
 | k + 1,(i,t) :: l,s,c =>
  match ops[i]? with
  | some o=>match gdo ops s.ρ o with
   | some true=>bif tagOk t o then match stepS T n o s with
     | some (c',⟨ρ',σ',nx',ds'⟩)=>runW T n ops k l ⟨ρ',σ',nx',ds'⟩ (c ∧ c')
     | none=>((i,t) :: l,s,c)
    else ((i,t) :: l,s,c)
   | some false=>bif Nat.ble t 2 then match putE n s.ρ o.dst (.v undef),s with
     | some ρ',⟨_,σ,nx,ds⟩=>runW T n ops k l ⟨ρ',σ,nx,ds⟩ c
     | none,s=>((i,t) :: l,s,c)
    else ((i,t) :: l,s,c)
   | none=>((i,t) :: l,s,c)
  | none=>((i,t) :: l,s,c)
theorem runW_mono (T : Nat → TI) (n : Nat) (ops : Array Oper) : ∀ (k : Nat) (l : List (Nat × Nat)) (s : S) (c : Prop),(runW T n ops k l s c).2.2 → c:=by
 intro k
 induction k with
 | zero=>intro l s c h; exact h
 | succ k ih =>
  intro l s c h
  match l with
  | []=>exact h
  | (i,t) :: l =>
   unfold runW at h
   split at h
   ·rename_i o ho
    split at h
    ·cases ht : tagOk t o with
     | false=>simp only [ht,cond_false] at h; exact h
     | true =>
      simp only [ht,cond_true] at h
      split at h
      ·exact (ih _ _ _ h).1
      ·exact h
    ·cases ht : Nat.ble t 2 with
     | false=>simp only [ht,cond_false] at h; exact h
     | true =>
      simp only [ht,cond_true] at h
      split at h
      ·exact ih _ _ _ h
      ·exact h
    ·exact h
   ·exact h
theorem GW.stepG {ops : Array Oper} {Q : Exit → Act → World → Prop} {Sw : World → Prop} {i t : Nat} {o : Oper} {l : List (Nat × Nat)} {s s' : S} {c : Prop} (ho : ops[i]? = some o) (hw : gdo ops s.ρ o = some true) (ht : tagOk t o = true) (h : stepS X.T X.n o s = some (c,s')) (hc : c) (k : GW X ops Q Sw l s') : GW X ops Q Sw ((i,t) :: l) s:=by
 intro β w a hi
 have hwt:=gdo_wanted hw hi.env
 match t,ht with
 | 0,ht =>
  obtain ⟨x,ρ',hv,hp,rfl⟩:=stepS_V (X:=X) ht h hc
  obtain ⟨v,hr,hrep⟩:=hv β a hi.env
  exact ⟨o,v,ho,.inl ⟨hwt,hr⟩,k β _ _ ⟨hi.mem,hi.env.put hp hrep,by rw [put_defers]; exact hi.ds⟩⟩
 | 1,ht =>
  obtain ⟨x,ρ',hp,rfl,hv⟩:=stepS_L (X:=X) ht h hc
  obtain ⟨v,hr,hrep⟩:=hv hi
  exact ⟨o,v,ho,.inl ⟨hwt,.inl hr⟩,k β _ _ ⟨hi.mem,hi.env.put hp hrep,by rw [put_defers]; exact hi.ds⟩⟩
 | t + 3,ht=>cases ht
 | 2,_ =>
  have hst:=Step.ofS h hc
  show wpOp X.P ops Q i (WL X.P ops Q Sw l) a w
  unfold Go.wpOp
  simp only [ho,hwt,if_true]
  exact .inl (OpW.step (Q:=Q) (K:=WL X.P ops Q Sw l) hst k β w a hi)
theorem GW.skipG {ops : Array Oper} {Q : Exit → Act → World → Prop} {Sw : World → Prop} {i t : Nat} {o : Oper} {l : List (Nat × Nat)} {s : S} {ρ' : Env} (ho : ops[i]? = some o) (hw : gdo ops s.ρ o = some false) (hp : putE X.n s.ρ o.dst (.v undef) = some ρ') (ht : Nat.ble t 2 = true) (k : GW X ops Q Sw l { s with ρ:=ρ' }) : GW X ops Q Sw ((i,t) :: l) s:=by
 intro β w a hi
 have hwt:=gdo_wanted hw hi.env
 have hk:=k β w (a.put o.dst undef) ⟨hi.mem,hi.env.put hp (.v _),by rw [put_defers]; exact hi.ds⟩
 match t,ht with
 | 0,_=>exact ⟨o,undef,ho,.inr ⟨hwt,rfl⟩,hk⟩
 | 1,_=>exact ⟨o,undef,ho,.inr ⟨hwt,rfl⟩,hk⟩
 | t + 3,ht=>have:=Nat.le_of_ble_eq_true ht; omega
 | 2,_ =>
  show wpOp X.P ops Q i (WL X.P ops Q Sw l) a w
  unfold Go.wpOp
  simp only [ho,hwt,Bool.false_eq_true,if_false]
  exact hk
theorem GW.op {ops : Array Oper} {Q : Exit → Act → World → Prop} {Sw : World → Prop} {i : Nat} {o : Oper} {l : List (Nat × Nat)} {s : S} (ho : ops[i]? = some o) (hw : gdo ops s.ρ o = some true) (h : OpW X Q o s (WL X.P ops Q Sw l)) : GW X ops Q Sw ((i,2) :: l) s:=by
 intro β w a hi
 have hwt:=gdo_wanted hw hi.env
 show wpOp X.P ops Q i (WL X.P ops Q Sw l) a w
 unfold Go.wpOp
 simp only [ho,hwt,if_true]
 exact .inl (h β w a hi)
theorem GW.opS {ops : Array Oper} {Q : Exit → Act → World → Prop} {Sw : World → Prop} {i : Nat} {o : Oper} {l : List (Nat × Nat)} {s : S} (ho : ops[i]? = some o) (hw : gdo ops s.ρ o = some true) (h : OpW X Q o s (fun a w=>Sw w ∧ WL X.P ops Q Sw l a w)) : GW X ops Q Sw ((i,4) :: l) s:=by
 intro β w a hi
 have hwt:=gdo_wanted hw hi.env
 show wpOp X.P ops Q i (fun a w=>Sw w ∧ WL X.P ops Q Sw l a w) a w
 unfold Go.wpOp
 simp only [ho,hwt,if_true]
 exact .inl (h β w a hi)
theorem GW.run {ops : Array Oper} {Q : Exit → Act → World → Prop} {Sw : World → Prop} : ∀ (k : Nat) {l : List (Nat × Nat)} {s : S} {c : Prop} {l' : List (Nat × Nat)} {s' : S} {c' : Prop},runW X.T X.n ops k l s c = (l',s',c') → c' → GW X ops Q Sw l' s' → GW X ops Q Sw l s:=by
 intro k
 induction k with
 | zero =>
  intro l s c l' s' c' h _ k
  simp only [runW,Prod.mk.injEq] at h
  obtain ⟨rfl,rfl,_⟩:=h
  exact k
 | succ n ih =>
  intro l s c l' s' c' h hc k
  match l with
  | [] =>
   simp only [runW,Prod.mk.injEq] at h
   obtain ⟨rfl,rfl,_⟩:=h
   exact k
  | (i,t) :: l =>
   have stop : ((i,t) :: l,s,c) = (l',s',c') → GW X ops Q Sw ((i,t) :: l) s:=fun h=>by
    simp only [Prod.mk.injEq] at h
    obtain ⟨rfl,rfl,_⟩:=h
    exact k
   unfold runW at h
   split at h
   ·rename_i o ho
    split at h
    ·rename_i hw
     cases ht : tagOk t o with
     | false=>simp only [ht,cond_false] at h; exact stop h
     | true =>
      simp only [ht,cond_true] at h
      split at h
      ·rename_i c1 ρ1 σ1 nx1 ds1 hs
       have hcc : c1:=(runW_mono X.T X.n ops n l ⟨ρ1,σ1,nx1,ds1⟩ (c ∧ c1) (by rw [h]; exact hc)).2
       exact GW.stepG ho hw ht hs hcc (ih h hc k)
      ·exact stop h
    ·rename_i hw
     cases ht : Nat.ble t 2 with
     | false=>simp only [ht,cond_false] at h; exact stop h
     | true =>
      simp only [ht,cond_true] at h
      split at h
      ·rename_i ρ1 ρ0 σ nx ds hp
       exact GW.skipG (s:=⟨ρ0,σ,nx,ds⟩) ho hw hp ht (ih h hc k)
      ·exact stop h
    ·exact stop h
   ·exact stop h
theorem GW.nil {ops : Array Oper} {Q : Exit → Act → World → Prop} {Sw : World → Prop} {s : S} (h : GK X (Q .normal) s) : GW X ops Q Sw [] s:=h
theorem GW.split {ops : Array Oper} {Q : Exit → Act → World → Prop} {Sw : World → Prop} {l : List (Nat × Nat)} {s : S} (t : Nat) {b : Bool} (ht : lk s.ρ t = .v (.bool b)) (h1 : b = true → GW X ops Q Sw l { s with ρ:=up s.ρ t (.v (.bool true)) }) (h2 : b = false → GW X ops Q Sw l { s with ρ:=up s.ρ t (.v (.bool false)) }) : GW X ops Q Sw l s:=by
 intro β w a hi
 cases hb : b with
 | true=>exact h1 hb β w a (hi.setb ht hb)
 | false=>exact h2 hb β w a (hi.setb ht hb)
theorem GC.draw {Q : Exit → Act → World → Prop} {s : S} {l : List Oper} {id : Nat} (sch : List (Nat × Nat)) (hm : X.P.follows .mixedOrders = true)
  (hc : (Region.noSelect l.toArray && chkW .any l.toArray (effs sch) (helds sch) sch (Array.replicate l.length false) && Nat.beq sch.length l.length) = true)
  (hQ : ∀ c a a' w,Q (.panic c) a w → a'.defers = a.defers → Q (.panic c) a' w)
  (h : GW X l.toArray Q (fun _=>True) sch s) : GC X Q (.region id l.toArray true) s :=
 fun β w a hi=>wp_region_WL sch hm hc hQ (fun _=>True) (h β w.drew a ⟨hi.mem.drew,hi.env,hi.ds⟩)
end
section
open Go.RowKit
variable {X : Ctx}
mutual
def ment (g : Nat) : SV → Bool
 | .any=>false
 | .v _=>false
 | .ptr h _=>Nat.beq h g
 | .slc h _ _ _=>Nat.beq h g
 | .mpp h=>Nat.beq h g
 | .agg xs=>mentL g xs
 | .ifc _ x=>ment g x
 | .tup xs=>mentL g xs
 | .fn _ a b=>mentL g a || mentL g b
def mentL (g : Nat) : List SV → Bool
 | []=>false
 | x :: r=>ment g x || mentL g r
end
theorem ne_of_beq {i j : Nat} (h : Nat.beq i j = false) : i ≠ j:=fun e=>by rw [e,beqT] at h; cases h
mutual
theorem Rep.other {g : Nat} {β β' : Bl} (h : ∀ j,j ≠ g → β' j = β j) : ∀ {x : SV} {v : Value},ment g x = false → Rep β x v → Rep β' x v
 | _,_,_,.any x=>.any x
 | _,_,_,.v x=>.v x
 | _,_,hm,.ptr hb=>.ptr (by rw [h _ (ne_of_beq (by simpa [ment] using hm))]; exact hb)
 | _,_,hm,.slc hb=>.slc (by rw [h _ (ne_of_beq (by simpa [ment] using hm))]; exact hb)
 | _,_,hm,.slcN hb=>.slcN (by rw [h _ (ne_of_beq (by simpa [ment] using hm))]; exact hb)
 | _,_,hm,.mpp hb=>.mpp (by rw [h _ (ne_of_beq (by simpa [ment] using hm))]; exact hb)
 | _,_,hm,.agg hs=>.agg (Reps.other h (by simpa [ment] using hm) hs)
 | _,_,hm,.ifc hs=>.ifc (Rep.other h (by simpa [ment] using hm) hs)
 | _,_,hm,.tup hs=>.tup (Reps.other h (by simpa [ment] using hm) hs)
 | _,_,hm,.fn h1 h2=>by
  simp only [ment,Bool.or_eq_false_iff] at hm
  exact .fn (Reps.other h hm.1 h1) (Reps.other h hm.2 h2)
theorem Reps.other {g : Nat} {β β' : Bl} (h : ∀ j,j ≠ g → β' j = β j) : ∀ {x : List SV} {v : List Value},mentL g x = false → Reps β x v → Reps β' x v
 | _,_,_,.nil=>.nil
 | _,_,hm,.cons a t=>by
  simp only [mentL,Bool.or_eq_false_iff] at hm
  exact .cons (Rep.other h hm.1 a) (Reps.other h hm.2 t)
end
def fgt (g : Nat) (x : SV) : SV:=bif ment g x then .any else x
theorem Rep.fgt {g : Nat} {β β' : Bl} (h : ∀ j,j ≠ g → β' j = β j) {x : SV} {v : Value} (hr : Rep β x v) : Rep β' (fgt g x) v:=by
 unfold Sx.fgt
 cases hm : ment g x with
 | true=>exact .any _
 | false=>exact hr.other h hm
def fgtL (g : Nat) : List SV → List SV
 | []=>[]
 | x :: r=>fgt g x :: fgtL g r
theorem lget_fgtL (g : Nat) : ∀ (xs : List SV) (i : Nat),lget (fgtL g xs) i = fgt g (lget xs i)
 | [],i=>rfl
 | x :: r,0=>rfl
 | x :: r,i + 1=>lget_fgtL g r i
def fgtA (g : Nat) : List (Nat × SV) → List (Nat × SV)
 | []=>[]
 | (j,x) :: r=>(j,fgt g x) :: fgtA g r
theorem ovk_fgtA (g : Nat) : ∀ (l : List (Nat × SV)) (i : Nat) (v : Value),ovk (fgtA g l) i (.v v) = fgt g (ovk l i (.v v))
 | [],_,_=>rfl
 | (j,x) :: r,i,v=>by
  simp only [fgtA,ovk]
  cases Nat.beq i j with
  | true=>rfl
  | false=>exact ovk_fgtA g r i v
def fgtR (g : Nat) : RF → RF
 | .lst xs=>.lst (fgtL g xs)
 | .ints k f=>.ints k f
 | .vals f=>.vals f
 | .gen f=>.gen fun i=>fgt g (f i)
 | .ov l f=>.ov (fgtA g l) f
theorem at_fgtR (g : Nat) (r : RF) (i : Nat) : (fgtR g r).at i = fgt g (r.at i):=by
 cases r with
 | lst xs=>exact lget_fgtL g xs i
 | ov l f=>exact ovk_fgtA g l i _
 | _=>rfl
def fgtO (g : Nat) : GO → GO
 | .row ⟨c,n,e⟩=>.row ⟨fgtR g c,n,e⟩
 | .raw b=>.raw b
 | .pr p=>.pr p
 | .fz F=>.fz F
theorem fgtO_fz {g : Nat} {o : GO} {F : Nat → Option Obj} (h : fgtO g o = .fz F) : o = .fz F:=by
 cases o with
 | row r=>obtain ⟨_,_,_⟩:=r; cases h
 | raw b=>cases h
 | pr p=>cases h
 | fz F'=>exact h
def fgtG (g : Nat) : GH → GH
 | []=>[]
 | (j,o) :: r=>(j,fgtO g o) :: fgtG g r
def fgtE (g : Nat) : Env → Env
 | []=>[]
 | (j,o) :: r=>(j,fgt g o) :: fgtE g r
theorem gk_fgtG (g : Nat) : ∀ (σ : GH) (j : Nat),gk (fgtG g σ) j = (gk σ j).map (fgtO g)
 | [],j=>rfl
 | (i,o) :: r,j=>by
  simp only [fgtG,gk]
  by_cases e : j = i
  ·subst e; simp [beqT]
  ·rw [beqF e]; simpa using gk_fgtG g r j
theorem lk_fgtE (g : Nat) : ∀ (σ : Env) (j : Nat),lk (fgtE g σ) j = fgt g (lk σ j)
 | [],j=>rfl
 | (i,o) :: r,j=>by
  simp only [fgtE,lk]
  by_cases e : j = i
  ·subst e; simp [beqT]
  ·rw [beqF e]; simpa using lk_fgtE g r j
theorem RepG.fgt {g : Nat} {β β' : Bl} (h : ∀ j,j ≠ g → β' j = β j) {o : GO} {ob : Obj} (hr : RepG β o ob) : RepG β' (fgtO g o) ob:=by
 cases hr with
 | raw=>exact .raw _
 | pr h=>exact .pr h
 | row hr hf =>
  rename_i r cs lo hi
  obtain ⟨c,n,e⟩:=r
  refine RepG.row (r:=⟨fgtR g c,n,e⟩) ⟨hr.size,fun i hi=>?_⟩ hf
  obtain ⟨v,hv,hrep,h1⟩:=hr.get i hi
  refine ⟨v,hv,?_,h1⟩
  show Rep β' ((fgtR g c).at i) v
  rw [at_fgtR]
  exact Rep.fgt h hrep
theorem Mem.rebind {M : MC} {w : World} {σ : GH} {nx : Nat} {β β' : Bl} (h : Mem M σ nx β w) {g : Nat} (hg : g < nx) (hk : M.k ≤ g) (hna : ∀ p,p ∈ M.an → p.1 ≠ g) {go : GO} {o : Obj}
  (hβ : ∀ j,j ≠ g → β' j = β j) (hβg : β' g = some (some w.heap.size)) (ho : RepG β' go o) : Mem M (upG (fgtG g σ) g go) nx β' (w.alloc o):=by
 have old : ∀ j b,β' j = some (some b) → (j = g ∧ b = w.heap.size) ∨ (j ≠ g ∧ β j = some (some b)):=by
  intro j b hb
  by_cases e : j = g
  ·subst e; rw [hβg] at hb; simp at hb; exact .inl ⟨rfl,hb.symm⟩
  ·rw [hβ j e] at hb; exact .inr ⟨e,hb⟩
 refine ⟨?_,?_,?_,?_,?_,?_,?_,?_,h.os,h.tape,h.output,h.kn,?_,?_,?_,fun p hp=>⟨(h.anc p hp).1,by rw [hβ _ (hna p hp)]; exact (h.anc p hp).2⟩,?_⟩
 ·intro j go' b hj hb
  rw [gk_upG] at hj
  rcases old j b hb with ⟨rfl,rfl⟩ | ⟨hne,hb'⟩
  ·simp [beqT] at hj; subst hj
   exact ⟨o,heap_alloc_new w o,ho⟩
  ·rw [beqF hne] at hj
   simp only [cond_false,gk_fgtG,Option.map_eq_some_iff] at hj
   obtain ⟨o1,ho1,rfl⟩:=hj
   obtain ⟨ob,hw,hr⟩:=h.hp j o1 b ho1 hb'
   exact ⟨ob,by rw [heap_alloc_lt _ _ _ (h.rng _ _ hb')]; exact hw,hr.fgt hβ⟩
 ·intro j j' b hj hj'
  rcases old j b hj with ⟨rfl,rfl⟩ | ⟨h1,h2⟩ <;> rcases old j' _ hj' with ⟨rfl,h4⟩ | ⟨h3,h4⟩
  ·rfl
  ·have:=h.rng _ _ h4; omega
  ·have:=h.rng _ _ h2; omega
  ·exact h.inj _ _ _ h2 h4
 ·intro j b hj
  simp only [World.size_alloc]
  rcases old j b hj with ⟨_,rfl⟩ | ⟨_,h2⟩
  ·omega
  ·have:=h.rng _ _ h2; omega
 ·intro j hj
  rw [hβ j (by omega)]; exact h.nx j hj
 ·intro b ob hb
  have:=h.im b ob hb
  rw [heap_alloc_lt _ _ _ (getElem?_lt this)]; exact this
 ·intro b ob hb j hj
  rcases old j b hj with ⟨_,rfl⟩ | ⟨_,h2⟩
  ·have:=getElem?_lt (h.im _ ob hb); omega
  ·exact h.imb b ob hb j h2
 ·intro b hb how hn
  have:=h.sz
  rw [heap_alloc_lt _ _ _ (by omega)]
  refine h.fr b hb how fun j hj=>?_
  by_cases e : j = g
  ·subst e
   rcases h.new j b hk hj with h1 | h1
   ·omega
   ·exact how h1
  ·exact hn j (by rw [hβ j e]; exact hj)
 ·have:=h.sz; simp only [World.size_alloc]; omega
 ·intro j hj
  rw [hβ j (by omega)]; exact h.base j hj
 ·intro j go' hj
  rw [gk_upG] at hj
  by_cases e : j = g
  ·omega
  ·rw [beqF e] at hj
   simp only [cond_false,gk_fgtG,Option.map_eq_some_iff] at hj
   obtain ⟨o1,ho1,_⟩:=hj
   exact h.dom j o1 ho1
 ·intro j b hkj hj
  rcases old j b hj with ⟨_,rfl⟩ | ⟨_,h2⟩
  ·exact .inl h.sz
  ·exact h.new j b hkj h2
 ·intro j F hj b ob hF
  rw [gk_upG] at hj
  by_cases e : j = g
  ·subst e
   simp [beqT] at hj; subst hj; cases ho
  ·rw [beqF e] at hj
   simp only [cond_false,gk_fgtG,Option.map_eq_some_iff] at hj
   obtain ⟨o1,ho1,h1⟩:=hj
   rw [fgtO_fz h1] at ho1
   obtain ⟨h2,h3,h4⟩:=h.fz j F ho1 b ob hF
   refine ⟨by rw [heap_alloc_lt _ _ _ (getElem?_lt h2)]; exact h2,fun j' hj'=>?_,h4⟩
   rcases old j' b hj' with ⟨_,rfl⟩ | ⟨_,h5⟩
   ·have:=getElem?_lt h2; omega
   ·exact h3 _ h5
theorem Mem.forget {M : MC} {w : World} {σ : GH} {nx : Nat} {β : Bl} {g : Nat} {r : Row} (h : Mem M (upG σ g (.row r)) nx β w) {r' : Row} (hn : r'.n = r.n) (he : r'.e = r.e)
  (hle : ∀ i,i < r.n → r'.f i = .any ∨ r'.f i = r.f i) : Mem M (upG (fgtG g σ) g (.row r')) nx β w:=by
 refine ⟨?_,h.inj,h.rng,h.nx,h.im,h.imb,h.fr,h.sz,h.os,h.tape,h.output,h.kn,h.base,?_,h.new,h.anc,?_⟩
 ·intro j go b hj hb
  rw [gk_upG] at hj
  by_cases e : j = g
  ·subst e
   simp [beqT] at hj; subst hj
   obtain ⟨ob,hw,hr⟩:=h.hp j (.row r) b (by simp [gk_upG,beqT]) hb
   refine ⟨ob,hw,?_⟩
   cases hr with
   | row hr hf =>
    rw [← he]
    refine .row ⟨by rw [hr.size,hn],fun i hi=>?_⟩ (by rw [hn]; exact hf)
    obtain ⟨v,hv,hrep,h1⟩:=hr.get i (by omega)
    refine ⟨v,hv,?_,h1⟩
    rcases hle i (by omega) with h2 | h2
    ·rw [h2]; exact .any _
    ·rw [h2]; exact hrep
  ·rw [beqF e] at hj
   simp only [cond_false,gk_fgtG,Option.map_eq_some_iff] at hj
   obtain ⟨o1,ho1,rfl⟩:=hj
   obtain ⟨ob,hw,hr⟩:=h.hp j o1 b (by rw [gk_upG,beqF e]; exact ho1) hb
   exact ⟨ob,hw,hr.fgt (fun _ _=>rfl)⟩
 ·intro j go hj
  rw [gk_upG] at hj
  by_cases e : j = g
  ·subst e; exact h.dom j (.row r) (by simp [gk_upG,beqT])
  ·rw [beqF e] at hj
   simp only [cond_false,gk_fgtG,Option.map_eq_some_iff] at hj
   obtain ⟨o1,ho1,_⟩:=hj
   exact h.dom j o1 (by rw [gk_upG,beqF e]; exact ho1)
 ·intro j F hj
  rw [gk_upG] at hj
  by_cases e : j = g
  ·subst e; simp [beqT] at hj
  ·rw [beqF e] at hj
   simp only [cond_false,gk_fgtG,Option.map_eq_some_iff] at hj
   obtain ⟨o1,ho1,h1⟩:=hj
   rw [fgtO_fz h1] at ho1
   exact h.fz j F (by rw [gk_upG,beqF e]; exact ho1)
end
section
open Go.RowKit
variable {X : Ctx}
def Src (X : Ctx) (sz m : Nat) (new : Nat → SV) (β : Bl) (w : World) (v : Value) : Prop :=
 (Builtin.lenOf v).run X.P w = .ok m w ∧ ∃ news : List Value,(∀ n,n ≤ m → (Builtin.firstCells sz n v).run X.P w = .ok (news.take (n * sz)).toArray w) ∧ news.length = m * sz ∧ Reps β (aggF new 0 (m * sz)) news ∧ ∀ u ∈ news,u.oneCell' = true
theorem run_cells {P : Program} {w : World} {ad : Addr} {f : Nat → SV} {β : Bl} : ∀ (K i : Nat),(∀ j,i ≤ j → j < i + K → ∃ u,w.cell? (ad.add j) = some u ∧ Rep β (f j) u ∧ u.oneCell' = true) →
  ∃ news : List Value,news.length = K ∧ (∀ k,k ≤ K → ∀ acc,(loadCellsFrom ad i k acc).run P w = .ok (acc ++ (news.take k).toArray) w) ∧ Reps β (aggF f i K) news ∧ ∀ u ∈ news,u.oneCell' = true
 | 0,i,_=>⟨[],rfl,fun k hk acc=>by obtain rfl : k = 0:=(by omega); simp [loadCellsFrom],.nil,by simp⟩
 | K + 1,i,h=>by
  obtain ⟨u,hu,hr,h1⟩:=h i (Nat.le_refl _) (by omega)
  obtain ⟨news,h2,h3,h4,h5⟩:=run_cells (P:=P) K (i + 1) (fun j h1 h2=>h j (by omega) (by omega))
  refine ⟨u :: news,by simp [h2],fun k hk acc=>?_,.cons hr h4,fun x hx=>?_⟩
  ·cases k with
   | zero=>simp [loadCellsFrom]
   | succ k =>
    have e : (load (ad.add i)).run P w = .ok u w:=by simp [run_load,hu]
    simp only [loadCellsFrom,Sem.run_bind,e,Result.andThen_ok]
    rw [h3 k (by omega)]; simp
  ·rcases List.mem_cons.1 hx with rfl | hx
   ·exact h1
   ·exact h5 x hx
theorem Src.slc {s : S} {β : Bl} {w : World} {a : Act} (hi : Inv X s β w a) {sz g off m cap : Nat} {r : Row} (hg : gk s.σ g = some (.row r)) (hm : off + m * sz ≤ r.n) {v : Value} (hv : Rep β (.slc g off m cap) v) : Src X sz m (fun j=>r.f (off + j)) β w v:=by
 cases hv with
 | slcN hb =>
  refine ⟨rfl,[],fun n hn=>by simp [Builtin.firstCells],by simp,?_,by simp⟩
  rw [Nat.zero_mul]; exact .nil
 | slc hb =>
  rename_i b
  obtain ⟨news,h2,h3,h4,h5⟩:=run_cells (P:=X.P) (w:=w) (ad:=⟨b,off,none⟩) (f:=fun j=>r.f (off + j)) (β:=β) (m * sz) 0 (fun j _ hj=>by
   obtain ⟨u,hu,_,hr,h1⟩:=hi.mem.cell hg hb (off:=off + j) (by omega)
   exact ⟨u,by rw [addr_add]; exact hu,hr,h1⟩)
  exact ⟨rfl,news,fun n hn=>by simpa [Builtin.firstCells,loadCells] using h3 (n * sz) (Nat.mul_le_mul_right _ hn) #[],h2,h4,h5⟩
theorem Src.str {β : Bl} {w : World} (t : ByteArray) : Src X 1 t.size (fun j=>.v (.int .u8 (bt t j))) β w (.string t):=by
 refine ⟨rfl,t.data.toList.map fun b=>.int .u8 b.toNat,fun n hn=>?_,by simp,?_,?_⟩
 ·simp only [Builtin.firstCells,Sem.run_pure]
  congr 1
  apply Array.ext'
  simp
 ·have key : ∀ (l : List UInt8) (k : Nat),(∀ j,j < l.length → t.data.toList.getD (k + j) 0 = l.getD j 0) → Reps β (aggF (fun j=>.v (.int .u8 (bt t j))) k l.length) (l.map fun b=>.int .u8 b.toNat):=by
   intro l
   induction l with
   | nil=>intro k _; exact .nil
   | cons x r ih =>
    intro k h
    refine .cons ?_ (ih (k + 1) fun j hj=>?_)
    ·have:=h 0 (by simp)
     simp only [Nat.add_zero,List.getD_cons_zero] at this
     have e : bt t k = (x.toNat : Int):=by unfold bt; rw [this]
     show Rep β (.v (.int .u8 (bt t k))) (.int .u8 x.toNat)
     rw [e]; exact .v _
    ·have:=h (j + 1) (by simp; omega)
     simp only [List.getD_cons_succ] at this
     rw [← this]; congr 1; omega
  have:=key t.data.toList 0 (fun j _=>by rw [Nat.zero_add])
  simpa using this
 ·intro u hu
  simp only [List.mem_map] at hu
  obtain ⟨b,_,rfl⟩:=hu
  rfl
theorem Src.nil {β : Bl} {w : World} (b : Option Addr) (sz a c : Nat) (new : Nat → SV) (h : a = 0) : Src X sz 0 new β w (.slice b a c):=by
 subst h
 refine ⟨rfl,[],fun n hn=>by obtain rfl : n = 0:=(by omega); cases b <;> simp [Builtin.firstCells,loadCells,loadCellsFrom],by simp,?_,by simp⟩
 rw [Nat.zero_mul]; exact .nil
theorem Src.all {sz m : Nat} {new : Nat → SV} {β : Bl} {w : World} {v : Value} (h : Src X sz m new β w v) : (Builtin.lenOf v).run X.P w = .ok m w ∧ ∃ news : List Value,(Builtin.firstCells sz m v).run X.P w = .ok news.toArray w ∧ news.length = m * sz ∧ Reps β (aggF new 0 (m * sz)) news ∧ ∀ u ∈ news,u.oneCell' = true:=by
 obtain ⟨h1,news,h2,h3,h4⟩:=h
 have:=h2 m (Nat.le_refl _)
 rw [List.take_of_length_le (by omega)] at this
 exact ⟨h1,news,this,h3,h4⟩
theorem aggF_reps_get {β : Bl} {f : Nat → SV} {m off : Nat} {vs : List Value} (h : Reps β (aggF f off m) vs) (i : Nat) (hi : i < m) : ∃ v,vs[i]? = some v ∧ Rep β (f (off + i)) v:=h.get i _ (aggF_get f m off i hi)
theorem setR_f (f : Nat → SV) : ∀ (m k off : Nat) (r : Row) (i : Nat),(setR r off (aggF f k m)).f i = if off ≤ i ∧ i < off + m then f (k + (i - off)) else r.f i
 | 0,k,off,r,i=>by simp only [aggF,setR]; rw [if_neg (by omega)]
 | m + 1,k,off,r,i=>by
  simp only [aggF,setR]
  rw [setR_f f m (k + 1) (off + 1),Row.f_set]
  by_cases e : i = off
  ·subst e; rw [if_neg (by omega),beqT,if_pos (by omega)]; simp
  ·rw [beqF e]
   simp only [cond_false]
   by_cases h : off ≤ i ∧ i < off + (m + 1)
   ·rw [if_pos h,if_pos (by omega)]; congr 1; omega
   ·rw [if_neg h,if_neg (by omega)]
theorem run_storeCells_one {P : Program} {M : MC} {nx : Nat} {β : Bl} {g b : Nat} (hb : β g = some (some b)) : ∀ (cs : List SV) (vs : List Value) (r : Row) (σ : GH) (off i : Nat) (w : World),Reps β cs vs → (∀ u ∈ vs,u.oneCell' = true) → off + i + cs.length ≤ r.n →
  Mem M (upG σ g (.row r)) nx β w → ∃ w',(storeCells ⟨b,off,none⟩ vs i).run P w = .ok () w' ∧ Mem M (upG σ g (.row (setR r (off + i) cs))) nx β w'
 | _,_,r,σ,off,i,w,.nil,_,_,hm=>⟨w,rfl,hm⟩
 | _,_,r,σ,off,i,w,.cons (x:=x) (y:=y) (xs:=xs) (ys:=ys) h t,ha,hn,hm=>by
  have h1:=ha y (by simp)
  have hlt : off + i < r.n:=by simp only [List.length_cons] at hn; omega
  have hg : gk (upG σ g (.row r)) g = some (.row r):=by simp [gk_upG,beqT]
  obtain ⟨u,hu,hf,_,_⟩:=hm.cell hg hb hlt
  have hm':=hm.set hg hb hlt h h1
  rw [upG_up] at hm'
  obtain ⟨w',hrun,hfin⟩:=run_storeCells_one (P:=P) hb xs ys (r.set (off + i) x) σ off (i + 1) _ t (fun u hu=>ha u (by simp [hu])) (by simp only [List.length_cons] at hn; simp only [Row.set]; omega) hm'
  refine ⟨w',?_,by simpa [setR,Nat.add_assoc] using hfin⟩
  simp only [storeCells,Sem.run_bind,run_store _ _ _ _ _ h1,addr_add,hu,hf,Bool.false_eq_true,if_false,Result.andThen_ok,hrun]
def isSeq : TK → Bool
 | .slc _ | .str=>true
 | _=>false
structure GrownO (g off : Nat) (r : Row) (new : Nat → SV) (z : List (Nat × Value)) (sz a b off' : Nat) (f : Nat → SV) : Prop where
 old : ∀ i,i < a → f (off' + i) = fgt g (r.f (off + i))
 nw : ∀ j,j < b → f (off' + a + j) = fgt g (new j)
 all : ∀ i,(∃ k,f i = fgt g (r.f k)) ∨ (∃ j,j < b ∧ f i = fgt g (new j)) ∨ ∃ k,f i = .v (rle z (k % sz))
theorem OpW.appendO {Q : Exit → Act → World → Prop} {o : Oper} {s : S} {K : Act → World → Prop} {t t' e : Nat} {x y : Operand} {g off n cap m : Nat} {r : Row} {new : Nat → SV}
  (ho : o.op = .call { callee:=.builtin .append,args:=#[x,y],argTypes:=#[t,t'] }) (hk : (X.T t).k = .slc e) (hk' : isSeq (X.T t').k = true) (hke : known (X.T e).k = true) (hs0 : 0 < (X.T e).size)
  (hx : ev s.ρ x = .slc g off n cap) (hg : gk s.σ g = some (.row r)) (hre : r.e = e) (hrn : off + cap * (X.T e).size ≤ r.n) (hgk : X.M.k ≤ g) (hn : n ≤ cap)
  (hsrc : ∀ β w a,Inv X s β w a → Src X (X.T e).size m new β w (a.eval y))
  (h63 : n + m < 9223372036854775808) (hby : (n + m) * (X.T e).bytes ≤ 140737488355328) (hds : okDs (outN [g]) s.ds = true)
  (next : ∀ off' cap' rn' f,n + m ≤ cap' → cap' < 9223372036854775808 ∨ cap' = cap → ((off' = off ∧ cap' = cap ∧ rn' = r.n) ∨ (off' = 0 ∧ rn' = cap' * (X.T e).size)) → GrownO g off r new (X.T e).zero (X.T e).size (n * (X.T e).size) (m * (X.T e).size) off' f → ∀ ρ',putE X.n (fgtE g s.ρ) o.dst (.slc g off' (n + m) cap') = some ρ' →
   GK X K ⟨ρ',upG (fgtG g s.σ) g (.row ⟨.gen f,rn',e⟩),s.nx,s.ds⟩)
  (hput : putOk X.n o.dst = true) (hna : notAn g X.M.an = true) : OpW X Q o s K:=by
 intro β w a hi
 have hT:=tabOK hk rfl
 simp only [TKOK] at hT
 have hd' : (∃ e',X.P.underlying t' = some (.slice e')) ∨ X.P.underlying t' = some .string:=by
  cases hkk : (X.T t').k <;> rw [hkk] at hk' <;> simp only [isSeq,Bool.false_eq_true] at hk'
  ·exact .inr (tabOK hkk rfl)
  ·exact .inl ⟨_,tabOK hkk rfl⟩
 obtain ⟨hlen,news,hfc,hnl,hnr,hn1⟩:=(hsrc β w a hi).all
 have hsz:=fun w=>run_size (X:=X) (w:=w) hke
 have hgx:=hi.mem.dom g _ hg
 have hv:=hi.env.ev x
 rw [hx] at hv
 obtain ⟨inf,z,hinf,_,hbytes,hz,hz1,hz2,hz3⟩:=(X.ok e hke).info
 have hti : ∀ w,(typeInfo e).run X.P w = .ok inf w:=fun w=>by simp [typeInfo,hinf]
 have fin : ∀ off' cap' rn' (f : Nat → SV) (β' : Bl) (w' : World) (v' : Value),n + m ≤ cap' → (cap' < 9223372036854775808 ∨ cap' = cap) → ((off' = off ∧ cap' = cap ∧ rn' = r.n) ∨ (off' = 0 ∧ rn' = cap' * (X.T e).size)) → GrownO g off r new (X.T e).zero (X.T e).size (n * (X.T e).size) (m * (X.T e).size) off' f → (∀ j,j ≠ g → β' j = β j) →
   Mem X.M (upG (fgtG g s.σ) g (.row ⟨.gen f,rn',e⟩)) s.nx β' w' → Rep β' (.slc g off' (n + m) cap') v' → K (a.put o.dst v') w':=by
  intro off' cap' rn' f β' w' v' h1 h2 h7 h3 h4 h5 h6
  have hp:=putOk_some (n:=X.n) (ρ:=fgtE g s.ρ) hput (.slc g off' (n + m) cap')
  cases hpe : putE X.n (fgtE g s.ρ) o.dst (.slc g off' (n + m) cap') with
  | none=>rw [hpe] at hp; cases hp
  | some ρ' =>
   refine next off' cap' rn' f h1 h2 h7 h3 ρ' hpe β' w' _ ⟨h5,EnvOK.put (ρ:=fgtE g s.ρ) ⟨hi.env.size,fun i=>?_⟩ hpe h6,?_⟩
   ·rw [lk_fgtE]; exact (hi.env.get i).fgt h4
   ·rw [put_defers]
    refine hi.ds.ok (fun g' v hg' hb'=>?_) hds
    have hne:=outN_iff hg'
    simp only [List.mem_singleton] at hne
    rw [h4 g' hne]; exact hb'
 have hop : ∀ v u,a.eval x = v → a.eval y = u → execOp a.eval o = (do pure (.value (← Builtin.append_ #[t,t'] o.type #[v,u]))):=by
  intro v u h1 h2
  unfold execOp
  simp only [ho,resolve,invoke,builtin,List.map_toArray,List.map_cons,List.map_nil,h1,h2]
  rfl
 generalize hvx : a.eval x = v at hv
 generalize hvy : a.eval y = u at hlen hfc hnr
 unfold Oper.wp
 rw [hop _ _ hvx hvy]
 by_cases hfit : n + m ≤ cap
 ·-- in place
  let r':=setR r (off + n * (X.T e).size) (aggF new 0 (m * (X.T e).size))
  have hr'n : r'.n = r.n:=setR_n _ _ _
  have hr'e : r'.e = e:=by
   have : ∀ (l : List SV) (r : Row) (off : Nat),(setR r off l).e = r.e:=by
    intro l
    induction l with
    | nil=>intro r off; rfl
    | cons x l ih=>intro r off; rw [setR,ih]; rfl
   rw [← hre]; exact this _ _ _
  have hle : n * (X.T e).size + m * (X.T e).size ≤ cap * (X.T e).size:=by rw [← Nat.add_mul]; exact Nat.mul_le_mul_right _ hfit
  have hgr : GrownO g off r new (X.T e).zero (X.T e).size (n * (X.T e).size) (m * (X.T e).size) off (fun i=>fgt g (r'.f i)):=by
   refine ⟨fun i hi'=>?_,fun j hj=>?_,fun i=>?_⟩
   ·show fgt g (r'.f _) = _
    rw [show r'.f (off + i) = r.f (off + i) from by rw [show r' = setR r _ _ from rfl,setR_f,if_neg (by omega)]]
   ·show fgt g (r'.f _) = _
    rw [show r'.f (off + n * (X.T e).size + j) = new j from by rw [show r' = setR r _ _ from rfl,setR_f,if_pos (by omega)]; congr 1; omega]
   ·by_cases hh : off + n * (X.T e).size ≤ i ∧ i < off + n * (X.T e).size + m * (X.T e).size
    ·refine .inr (.inl ⟨i - (off + n * (X.T e).size),by omega,?_⟩)
     show fgt g (r'.f i) = _
     rw [show r'.f i = new (i - (off + n * (X.T e).size)) from by rw [show r' = setR r _ _ from rfl,setR_f,if_pos hh]; congr 1; omega]
    ·refine .inl ⟨i,?_⟩
     show fgt g (r'.f i) = _
     rw [show r'.f i = r.f i from by rw [show r' = setR r _ _ from rfl,setR_f,if_neg hh]]
  have hm:=hi.mem
  rw [← upG_same hg] at hm
  cases hv with
  | slc hb =>
   rename_i b
   obtain ⟨w',hst,hmem⟩:=run_storeCells_one (P:=X.P) hb _ _ r s.σ (off + n * (X.T e).size) 0 w hnr hn1 (by rw [aggF_length]; omega) hm
   have hrun : (Builtin.append_ #[t,t'] o.type #[.slice (some ⟨b,off,none⟩) n cap,u]).run X.P w = .ok (.slice (some ⟨b,off,none⟩) (n + m) cap) w':=by
    have ea : (⟨b,off,none⟩ : Addr).add (n * (X.T e).size) = ⟨b,off + n * (X.T e).size,none⟩:=by rw [addr_add]
    unfold Builtin.append_
    rcases hd' with ⟨e',hd'⟩ | hd'
    all_goals
     simp only [List.getElem?_toArray,List.getElem?_cons_zero,List.getElem?_cons_succ,Sem.run_bind,run_under hT,run_under hd',Result.andThen_ok,hsz,Sem.run_pure]
     simp only [Bool.false_eq_true,if_false,Bool.not_false,if_true,hlen,Result.andThen_ok,hfit,Sem.run_bind,hfc,ea,hst,Sem.run_pure]
   rw [Sem.run_bind,hrun]
   exact fin off cap r.n _ β w' _ hfit (.inr rfl) (.inl ⟨rfl,rfl,rfl⟩) hgr (fun _ _=>rfl) (Mem.forget (r:=r') (by simpa using hmem) hr'n.symm hr'e.symm (fun i _=>by
    show fgt g (r'.f i) = .any ∨ fgt g (r'.f i) = r'.f i
    unfold fgt; cases ment g (r'.f i) <;> simp)) (.slc hb)
  | slcN hb =>
   have hm0 : m = 0:=by omega
   subst hm0
   have hnews : news = []:=List.eq_nil_of_length_eq_zero (by simpa using hnl)
   subst hnews
   have hrun : (Builtin.append_ #[t,t'] o.type #[.slice none 0 0,u]).run X.P w = .ok (.slice none 0 0) w:=by
    unfold Builtin.append_
    rcases hd' with ⟨e',hd'⟩ | hd'
    all_goals
     simp only [List.getElem?_toArray,List.getElem?_cons_zero,List.getElem?_cons_succ,Sem.run_bind,run_under hT,run_under hd',Result.andThen_ok,hsz,Sem.run_pure]
     simp only [Bool.false_eq_true,if_false,Bool.not_false,if_true,hlen,Result.andThen_ok,hfit,Sem.run_bind,hfc,Sem.run_pure]
   rw [Sem.run_bind,hrun]
   exact fin 0 0 r.n _ β w _ (Nat.le_refl _) (.inr rfl) (.inl ⟨rfl,rfl,rfl⟩) hgr (fun _ _=>rfl) (Mem.forget (r:=r') (by
    have e : r' = r:=by show setR r _ (aggF new 0 (0 * _)) = r; rw [Nat.zero_mul]; rfl
    rw [e]; exact hm) hr'n.symm hr'e.symm (fun i _=>by
    show fgt g (r'.f i) = .any ∨ fgt g (r'.f i) = r'.f i
    unfold fgt; cases ment g (r'.f i) <;> simp)) (.slcN hb)
 ·-- a new block
  have hge:=grownCap_ge w (n + m) cap e
  have hlt : grownCap w (n + m) cap e < 9223372036854775808:=by
   have:=grownCap_le_maxLen w (n + m) cap e (by simp only [maxLen]; omega)
   simp only [maxLen] at this; omega
  generalize hnc : grownCap w (n + m) cap e = nc at hge hlt
  have hold : ∃ olds : List Value,(∀ w',(∀ b : Nat,b < w.heap.size → w'.heap[b]? = w.heap[b]?) → (Builtin.firstCells (X.T e).size n v).run X.P w' = .ok olds.toArray w') ∧ olds.length = n * (X.T e).size ∧ Reps β (aggF (fun i=>r.f (off + i)) 0 (n * (X.T e).size)) olds ∧ ∀ u ∈ olds,u.oneCell' = true:=by
   cases hv with
   | slcN hb=>exact ⟨[],fun _ _=>rfl,by simp,by rw [Nat.zero_mul]; exact .nil,by simp⟩
   | slc hb =>
    rename_i b
    have hle : off + n * (X.T e).size ≤ r.n:=by have:=Nat.mul_le_mul_right (X.T e).size hn; omega
    have hbl:=hi.mem.rng g b hb
    have key : ∀ (k i : Nat),i + k ≤ n * (X.T e).size → ∃ olds : List Value,(∀ w' (acc : Array Value),(∀ b : Nat,b < w.heap.size → w'.heap[b]? = w.heap[b]?) → (loadCellsFrom ⟨b,off,none⟩ i k acc).run X.P w' = .ok (acc ++ olds.toArray) w') ∧ olds.length = k ∧ Reps β (aggF (fun i=>r.f (off + i)) i k) olds ∧ ∀ u ∈ olds,u.oneCell' = true:=by
     intro k
     induction k with
     | zero=>intro i _; exact ⟨[],fun w' acc _=>by simp [loadCellsFrom],rfl,.nil,by simp⟩
     | succ k ih =>
      intro i hk
      obtain ⟨u,hu,_,hr,h1⟩:=hi.mem.cell hg hb (off:=off + i) (by omega)
      obtain ⟨olds,h2,h3,h4,h5⟩:=ih (i + 1) (by omega)
      refine ⟨u :: olds,fun w' acc hw'=>?_,by simp [h3],.cons hr h4,fun x hx=>?_⟩
      ·have hu' : w'.cell? ⟨b,off + i,none⟩ = some u:=by
        rw [← hu]; simp only [World.cell?,hw' b hbl]
       have e : (load ((⟨b,off,none⟩ : Addr).add i)).run X.P w' = .ok u w':=by simp [run_load,addr_add,hu']
       simp only [loadCellsFrom,Sem.run_bind,e,Result.andThen_ok]
       rw [h2 w' _ hw']; simp
      ·rcases List.mem_cons.1 hx with rfl | hx
       ·exact h1
       ·exact h5 x hx
    obtain ⟨olds,h2,h3,h4,h5⟩:=key (n * (X.T e).size) 0 (by omega)
    exact ⟨olds,fun w' hw'=>by simpa [Builtin.firstCells,loadCells] using h2 w' #[] hw',h3,h4,h5⟩
  obtain ⟨olds,ho1,ho2,ho3,ho4⟩:=hold
  obtain ⟨hlen2,news2,hfc2,hnl2,hnr2,hn2⟩:=(hsrc β w.drew a ⟨hi.mem.drew,hi.env,hi.ds⟩).all
  rw [hvy] at hlen2 hfc2
  let zs:=Builtin.zeroCells z.cells (nc - (n + m))
  have hzs : zs.size = (nc - (n + m)) * (X.T e).size:=by simp [zs,Builtin.zeroCells,hz1]
  let cs : Array Value:=olds.toArray ++ news2.toArray ++ zs
  have hcs : cs.size = nc * (X.T e).size:=by
   have : nc = (n + m) + (nc - (n + m)):=by omega
   simp only [cs,Array.size_append,List.size_toArray,ho2,hnl2,hzs]
   rw [← Nat.add_mul,← Nat.add_mul,← this]
  have hvs : ∃ bs,v = .slice bs n cap:=by
   cases hv with
   | slc hb=>exact ⟨_,rfl⟩
   | slcN hb=>exact ⟨_,rfl⟩
  obtain ⟨bs,rfl⟩:=hvs
  have hcap0 : cap < n + m:=by omega
  have hrun : (Builtin.append_ #[t,t'] o.type #[.slice bs n cap,u]).run X.P w = .ok (.slice (some ⟨w.heap.size,0,none⟩) (n + m) nc) (w.drew.alloc (.cells cs e)):=by
   have hn' : ¬ (n + m ≤ cap):=hfit
   have h63' : ¬ (9223372036854775807 < ((n : Int) + (m : Int))):=by omega
   have h48' : ¬ (281474976710656 < Builtin.nextslicecap (n + m) cap * inf.bytes):=by
    have:=growslice_fits hcap0 (by rw [hbytes]; exact hby : (n + m) * inf.bytes ≤ 140737488355328)
    omega
   have hroom : ∀ k w,(askRoom k).run X.P w = .ok () w:=by
    intro k w
    unfold askRoom
    split <;> rfl
   have hzv : ∀ w,(zeroValue e).run X.P w = .ok z w:=fun w=>by simp [zeroValue,typeInfo,hinf,hz]
   subst hnc
   have hold':=ho1 w.drew (fun _ _=>rfl)
   rcases hd' with ⟨e',hd'⟩ | hd'
   all_goals simp [Builtin.append_,run_under hT,run_under hd',hsz,hti,hzv,hlen,hn',h63',h48',Question.forced,hold',hfc2,hroom,newRow,grownCap,cs,zs]
  rw [Sem.run_bind,hrun]
  let β' : Bl:=fun j=>if j = g then some (some w.heap.size) else β j
  have hβ : ∀ j,j ≠ g → β' j = β j:=fun j hj=>if_neg hj
  have hβg : β' g = some (some w.heap.size):=if_pos rfl
  let f : Nat → SV:=fun i=>if i < n * (X.T e).size then fgt g (r.f (off + i)) else if i < n * (X.T e).size + m * (X.T e).size then fgt g (new (i - n * (X.T e).size)) else .v (rle (X.T e).zero ((i - (n * (X.T e).size + m * (X.T e).size)) % (X.T e).size))
  have hgr : GrownO g off r new (X.T e).zero (X.T e).size (n * (X.T e).size) (m * (X.T e).size) 0 f:=by
   refine ⟨fun i hi'=>?_,fun j hj=>?_,fun i=>?_⟩
   ·show (if _ then _ else if _ then _ else _) = _
    rw [if_pos (by omega)]
    congr 3; omega
   ·show (if _ then _ else if _ then _ else _) = _
    rw [if_neg (by omega),if_pos (by omega)]
    congr 2; omega
   ·by_cases h1 : i < n * (X.T e).size
    ·exact .inl ⟨off + i,if_pos h1⟩
    ·by_cases h2 : i < n * (X.T e).size + m * (X.T e).size
     ·refine .inr (.inl ⟨i - n * (X.T e).size,by omega,?_⟩)
      show (if _ then _ else if _ then _ else _) = _
      rw [if_neg h1,if_pos h2]
     ·refine .inr (.inr ⟨i - (n * (X.T e).size + m * (X.T e).size),?_⟩)
      show (if _ then _ else if _ then _ else _) = _
      rw [if_neg h1,if_neg h2]
  have hrow : RepG β' (.row ⟨.gen f,nc * (X.T e).size,e⟩) (.cells cs e):=by
   refine RepG.row (r:=⟨.gen f,nc * (X.T e).size,e⟩) ⟨hcs,fun i hi'=>?_⟩ (.inr ⟨rfl,rfl⟩)
   show ∃ v,cs[i]? = some v ∧ Rep β' (f i) v ∧ v.oneCell' = true
   by_cases h1 : i < n * (X.T e).size
   ·obtain ⟨v,hv1,hv2⟩:=aggF_reps_get ho3 i h1
    refine ⟨v,?_,?_,ho4 v (List.mem_of_getElem? hv1)⟩
    ·simp only [cs]
     rw [Array.getElem?_append_left (by simp [ho2]; omega),Array.getElem?_append_left (by simpa [ho2] using h1)]
     simpa using hv1
    ·rw [show f i = fgt g (r.f (off + i)) from if_pos h1]
     rw [Nat.zero_add] at hv2
     exact hv2.fgt hβ
   ·by_cases h2 : i < n * (X.T e).size + m * (X.T e).size
    ·obtain ⟨v,hv1,hv2⟩:=aggF_reps_get hnr2 (i - n * (X.T e).size) (by omega)
     refine ⟨v,?_,?_,hn2 v (List.mem_of_getElem? hv1)⟩
     ·simp only [cs]
      rw [Array.getElem?_append_left (by simp [ho2,hnl2]; omega),Array.getElem?_append_right (by simp [ho2]; omega)]
      simpa [ho2] using hv1
     ·rw [show f i = fgt g (new (i - n * (X.T e).size)) from by show (if _ then _ else if _ then _ else _) = _; rw [if_neg h1,if_pos h2]]
      rw [Nat.zero_add] at hv2
      exact hv2.fgt hβ
    ·have hi2 : i < cs.size:=by rw [hcs]; exact hi'
     have hzlt : i - (n * (X.T e).size + m * (X.T e).size) < zs.size:=by
      have : cs.size = n * (X.T e).size + m * (X.T e).size + zs.size:=by simp only [cs,Array.size_append,List.size_toArray,ho2,hnl2]
      omega
     have hmod : (i - (n * (X.T e).size + m * (X.T e).size)) % z.cells.size < (X.T e).size:=by rw [hz1]; exact Nat.mod_lt _ hs0
     refine ⟨rle (X.T e).zero ((i - (n * (X.T e).size + m * (X.T e).size)) % z.cells.size),?_,?_,hz3 _ hmod⟩
     ·simp only [cs]
      rw [Array.getElem?_append_right (by simp [ho2,hnl2]; omega)]
      have hsz2 : (olds.toArray ++ news2.toArray).size = n * (X.T e).size + m * (X.T e).size:=by simp [ho2,hnl2]
      rw [hsz2,Array.getElem?_eq_getElem hzlt]
      simp only [zs,Builtin.zeroCells,Array.getElem_map,Array.getElem_range]
      congr 1
      rw [getElem!_def,hz2 _ hmod]
     ·rw [show f i = .v (rle (X.T e).zero ((i - (n * (X.T e).size + m * (X.T e).size)) % (X.T e).size)) from by show (if _ then _ else if _ then _ else _) = _; rw [if_neg h1,if_neg h2],hz1]
      exact .v _
  exact fin 0 nc (nc * (X.T e).size) f β' _ _ hge (.inl hlt) (.inr ⟨rfl,rfl⟩) hgr hβ (hi.mem.drew.rebind hgx hgk (notAn_iff hna) hβ hβg hrow) (.slc hβg)
structure Grown (g : Nat) (r : Row) (new : Nat → SV) (a b : Nat) (f : Nat → SV) : Prop where
 old : ∀ i,i < a → f i = fgt g (r.f i)
 new : ∀ j,j < b → f (a + j) = fgt g (new j)
theorem OpW.append {Q : Exit → Act → World → Prop} {o : Oper} {s : S} {K : Act → World → Prop} {t t' e : Nat} {x y : Operand} {g n cap m : Nat} {r : Row} {new : Nat → SV}
  (ho : o.op = .call { callee:=.builtin .append,args:=#[x,y],argTypes:=#[t,t'] }) (hk : (X.T t).k = .slc e) (hk' : isSeq (X.T t').k = true) (hke : known (X.T e).k = true) (hs0 : 0 < (X.T e).size)
  (hx : ev s.ρ x = .slc g 0 n cap) (hg : gk s.σ g = some (.row r)) (hre : r.e = e) (hrn : r.n = cap * (X.T e).size) (hgk : X.M.k ≤ g) (hn : n ≤ cap)
  (hsrc : ∀ β w a,Inv X s β w a → Src X (X.T e).size m new β w (a.eval y))
  (h63 : n + m < 9223372036854775808) (hby : (n + m) * (X.T e).bytes ≤ 140737488355328) (hds : okDs (outN [g]) s.ds = true)
  (next : ∀ cap' f,n + m ≤ cap' → cap' < 9223372036854775808 ∨ cap' = cap → Grown g r new (n * (X.T e).size) (m * (X.T e).size) f → (∀ i,(∃ k,f i = fgt g (r.f k)) ∨ (∃ j,j < m * (X.T e).size ∧ f i = fgt g (new j)) ∨ ∃ k,f i = .v (rle (X.T e).zero (k % (X.T e).size))) → ∀ ρ',putE X.n (fgtE g s.ρ) o.dst (.slc g 0 (n + m) cap') = some ρ' →
   GK X K ⟨ρ',upG (fgtG g s.σ) g (.row ⟨.gen f,cap' * (X.T e).size,e⟩),s.nx,s.ds⟩)
  (hput : putOk X.n o.dst = true) (hna : notAn g X.M.an = true) : OpW X Q o s K:=by
 refine OpW.appendO (off:=0) ho hk hk' hke hs0 hx hg hre (by omega) hgk hn hsrc h63 hby hds (fun off' cap' rn' f h1 h2 h3 h4 ρ' hp=>?_) hput hna
 have h5 : off' = 0 ∧ rn' = cap' * (X.T e).size:=by
  rcases h3 with ⟨rfl,rfl,rfl⟩ | h3
  ·exact ⟨rfl,hrn⟩
  ·exact h3
 obtain ⟨rfl,rfl⟩:=h5
 exact next cap' f h1 h2 ⟨fun i hi=>by have:=h4.old i hi; simpa using this,fun j hj=>by have:=h4.nw j hj; simpa using this⟩ h4.all ρ' hp
theorem Mem.conv {M : MC} {w : World} {σ : GH} {nx : Nat} {β : Bl} {g : Nat} {r : Row} (h : Mem M (upG σ g (.row r)) nx β w) {r' : Row} (hn : r'.n = r.n) (he : r'.e = r.e)
  (hle : ∀ i,i < r.n → r'.f i = .any ∨ r'.f i = r.f i) : Mem M (upG σ g (.row r')) nx β w:=by
 refine ⟨?_,h.inj,h.rng,h.nx,h.im,h.imb,h.fr,h.sz,h.os,h.tape,h.output,h.kn,h.base,?_,h.new,h.anc,?_⟩
 ·intro j go b hj hb
  rw [gk_upG] at hj
  by_cases e : j = g
  ·subst e
   simp [beqT] at hj; subst hj
   obtain ⟨ob,hw,hr⟩:=h.hp j (.row r) b (by simp [gk_upG,beqT]) hb
   refine ⟨ob,hw,?_⟩
   cases hr with
   | row hr hf =>
    rw [← he]
    refine .row ⟨by rw [hr.size,hn],fun i hi=>?_⟩ (by rw [hn]; exact hf)
    obtain ⟨v,hv,hrep,h1⟩:=hr.get i (by omega)
    refine ⟨v,hv,?_,h1⟩
    rcases hle i (by omega) with h2 | h2
    ·rw [h2]; exact .any _
    ·rw [h2]; exact hrep
  ·rw [beqF e] at hj
   exact h.hp j go b (by rw [gk_upG,beqF e]; exact hj) hb
 ·intro j go hj
  rw [gk_upG] at hj
  by_cases e : j = g
  ·subst e; exact h.dom j (.row r) (by simp [gk_upG,beqT])
  ·rw [beqF e] at hj
   exact h.dom j go (by rw [gk_upG,beqF e]; exact hj)
 ·intro j F hj
  rw [gk_upG] at hj
  by_cases e : j = g
  ·subst e; simp [beqT] at hj
  ·rw [beqF e] at hj
   exact h.fz j F (by rw [gk_upG,beqF e]; exact hj)
theorem OpW.appendIO {Q : Exit → Act → World → Prop} {o : Oper} {s : S} {K : Act → World → Prop} {t t' e : Nat} {x y : Operand} {g off n cap m : Nat} {k : IntKind} {F N : Nat → Int} {rn re : Nat}
  (ho : o.op = .call { callee:=.builtin .append,args:=#[x,y],argTypes:=#[t,t'] }) (hk : (X.T t).k = .slc e) (hk' : isSeq (X.T t').k = true) (hke : known (X.T e).k = true) (hs1 : (X.T e).size = 1) (hz : (X.T e).zero = [(1,.int k 0)])
  (hx : ev s.ρ x = .slc g off n cap) (hg : gk s.σ g = some (.row ⟨.ints k F,rn,re⟩)) (hre : re = e) (hrn : off + cap ≤ rn) (hgk : X.M.k ≤ g) (hn : n ≤ cap)
  (hsrc : ∀ β w a,Inv X s β w a → Src X 1 m (fun j=>.v (.int k (N j))) β w (a.eval y))
  (h63 : n + m < 9223372036854775808) (hby : (n + m) * (X.T e).bytes ≤ 140737488355328) (hds : okDs (outN [g]) s.ds = true)
  (next : ∀ off' cap' rn' F',n + m ≤ cap' → cap' < 9223372036854775808 ∨ cap' = cap → ((off' = off ∧ cap' = cap ∧ rn' = rn) ∨ (off' = 0 ∧ rn' = cap')) → (∀ i,i < n → F' (off' + i) = F (off + i)) → (∀ j,j < m → F' (off' + n + j) = N j) → ∀ ρ',putE X.n (fgtE g s.ρ) o.dst (.slc g off' (n + m) cap') = some ρ' →
   GK X K ⟨ρ',upG (fgtG g s.σ) g (.row ⟨.ints k F',rn',e⟩),s.nx,s.ds⟩)
  (hput : putOk X.n o.dst = true) (hna : notAn g X.M.an = true) : OpW X Q o s K:=by
 refine OpW.appendO (new:=fun j=>.v (.int k (N j))) ho hk hk' hke (by rw [hs1]; exact Nat.one_pos) hx hg hre (by rw [hs1,Nat.mul_one]; exact hrn) hgk hn (by rw [hs1]; exact hsrc) h63 hby hds (fun off' cap' rn' f h1 h2 h7 h3 ρ' hp=>?_) hput hna
 rw [hs1,Nat.mul_one,Nat.mul_one] at h3
 rw [hs1,Nat.mul_one] at h7
 have hf : ∀ i,∃ z,f i = .v (.int k z):=by
  intro i
  rcases h3.all i with ⟨j,h4⟩ | ⟨j,_,h4⟩ | ⟨j,h4⟩
  ·exact ⟨F j,by rw [h4]; rfl⟩
  ·exact ⟨N j,by rw [h4]; rfl⟩
  ·refine ⟨0,?_⟩
   rw [h4,hz,Nat.mod_one]; rfl
 let F' : Nat → Int:=fun i=>match f i with | .v (.int _ z)=>z | _=>0
 have hF' : ∀ i,f i = .v (.int k (F' i)):=by
  intro i
  obtain ⟨z,hz⟩:=hf i
  show f i = .v (.int k (match f i with | .v (.int _ z)=>z | _=>0))
  rw [hz]
 have hnx:=next off' cap' rn' F' h1 h2 h7 (fun i hi=>by
  have:=h3.old i hi
  rw [hF' _] at this
  have h5 : SV.v (.int k (F' (off' + i))) = .v (.int k (F (off + i))):=this
  simp only [SV.v.injEq,Value.int.injEq,true_and] at h5
  exact h5) (fun j hj=>by
  have:=h3.nw j hj
  rw [hF' _] at this
  have h5 : SV.v (.int k (F' (off' + n + j))) = .v (.int k (N j)):=this
  simp only [SV.v.injEq,Value.int.injEq,true_and] at h5
  exact h5) ρ' hp
 intro β w a hi
 refine hnx β w a ⟨?_,hi.env,hi.ds⟩
 exact hi.mem.conv rfl rfl (fun i _=>.inr (hF' i).symm)
theorem OpW.appendI {Q : Exit → Act → World → Prop} {o : Oper} {s : S} {K : Act → World → Prop} {t t' e : Nat} {x y : Operand} {g n cap m : Nat} {k : IntKind} {F N : Nat → Int} {rn re : Nat}
  (ho : o.op = .call { callee:=.builtin .append,args:=#[x,y],argTypes:=#[t,t'] }) (hk : (X.T t).k = .slc e) (hk' : isSeq (X.T t').k = true) (hke : known (X.T e).k = true) (hs1 : (X.T e).size = 1) (hz : (X.T e).zero = [(1,.int k 0)])
  (hx : ev s.ρ x = .slc g 0 n cap) (hg : gk s.σ g = some (.row ⟨.ints k F,rn,re⟩)) (hre : re = e) (hrn : rn = cap) (hgk : X.M.k ≤ g) (hn : n ≤ cap)
  (hsrc : ∀ β w a,Inv X s β w a → Src X 1 m (fun j=>.v (.int k (N j))) β w (a.eval y))
  (h63 : n + m < 9223372036854775808) (hby : (n + m) * (X.T e).bytes ≤ 140737488355328) (hds : okDs (outN [g]) s.ds = true)
  (next : ∀ cap' F',n + m ≤ cap' → cap' < 9223372036854775808 ∨ cap' = cap → (∀ i,i < n → F' i = F i) → (∀ j,j < m → F' (n + j) = N j) → ∀ ρ',putE X.n (fgtE g s.ρ) o.dst (.slc g 0 (n + m) cap') = some ρ' →
   GK X K ⟨ρ',upG (fgtG g s.σ) g (.row ⟨.ints k F',cap',e⟩),s.nx,s.ds⟩)
  (hput : putOk X.n o.dst = true) (hna : notAn g X.M.an = true) : OpW X Q o s K:=by
 refine OpW.appendIO (off:=0) ho hk hk' hke hs1 hz hx hg hre (by omega) hgk hn hsrc h63 hby hds (fun off' cap' rn' f h1 h2 h3 h4 h5 ρ' hp=>?_) hput hna
 have h6 : off' = 0 ∧ rn' = cap':=by
  rcases h3 with ⟨rfl,rfl,rfl⟩ | h3
  ·exact ⟨rfl,hrn⟩
  ·exact h3
 obtain ⟨rfl,rfl⟩:=h6
 exact next rn' f h1 h2 (fun i hi=>by have:=h4 i hi; simpa using this) (fun j hj=>by have:=h5 j hj; simpa using this) ρ' hp
theorem OpW.appendV {Q : Exit → Act → World → Prop} {o : Oper} {s : S} {K : Act → World → Prop} {t t' e : Nat} {x y : Operand} {g n cap m : Nat} {F N : Nat → Value} {rn re : Nat}
  (ho : o.op = .call { callee:=.builtin .append,args:=#[x,y],argTypes:=#[t,t'] }) (hk : (X.T t).k = .slc e) (hk' : isSeq (X.T t').k = true) (hke : known (X.T e).k = true) (hs0 : 0 < (X.T e).size)
  (hx : ev s.ρ x = .slc g 0 n cap) (hg : gk s.σ g = some (.row ⟨.vals F,rn,re⟩)) (hre : re = e) (hrn : rn = cap * (X.T e).size) (hgk : X.M.k ≤ g) (hn : n ≤ cap)
  (hsrc : ∀ β w a,Inv X s β w a → Src X (X.T e).size m (fun j=>.v (N j)) β w (a.eval y))
  (h63 : n + m < 9223372036854775808) (hby : (n + m) * (X.T e).bytes ≤ 140737488355328) (hds : okDs (outN [g]) s.ds = true)
  (next : ∀ cap' F',n + m ≤ cap' → cap' < 9223372036854775808 ∨ cap' = cap → (∀ i,i < n * (X.T e).size → F' i = F i) → (∀ j,j < m * (X.T e).size → F' (n * (X.T e).size + j) = N j) → ∀ ρ',putE X.n (fgtE g s.ρ) o.dst (.slc g 0 (n + m) cap') = some ρ' →
   GK X K ⟨ρ',upG (fgtG g s.σ) g (.row ⟨.vals F',cap' * (X.T e).size,e⟩),s.nx,s.ds⟩)
  (hput : putOk X.n o.dst = true) (hna : notAn g X.M.an = true) : OpW X Q o s K:=by
 refine OpW.append (new:=fun j=>.v (N j)) ho hk hk' hke hs0 hx hg hre hrn hgk hn hsrc h63 hby hds (fun cap' f h1 h2 h3 h8 ρ' hp=>?_) hput hna
 have hf : ∀ i,∃ z,f i = .v z:=by
  intro i
  rcases h8 i with ⟨j,h4⟩ | ⟨j,_,h4⟩ | ⟨j,h4⟩
  ·exact ⟨F j,by rw [h4]; rfl⟩
  ·exact ⟨N j,by rw [h4]; rfl⟩
  ·exact ⟨_,h4⟩
 let F' : Nat → Value:=fun i=>match f i with | .v z=>z | _=>undef
 have hF' : ∀ i,f i = .v (F' i):=by
  intro i
  obtain ⟨z,hz⟩:=hf i
  show f i = .v (match f i with | .v z=>z | _=>undef)
  rw [hz]
 have hnx:=next cap' F' h1 h2 (fun i hi=>by
  have:=h3.old i hi
  rw [hF' i] at this
  have h5 : SV.v (F' i) = .v (F i):=this
  simpa using h5) (fun j hj=>by
  have:=h3.new j hj
  rw [hF' _] at this
  have h5 : SV.v (F' (n * (X.T e).size + j)) = .v (N j):=this
  simpa using h5) ρ' hp
 intro β w a hi
 exact hnx β w a ⟨hi.mem.conv rfl rfl (fun i _=>.inr (hF' i).symm),hi.env,hi.ds⟩
theorem Mem.addNil {M : MC} {w : World} {σ : GH} {nx : Nat} {β : Bl} (h : Mem M σ nx β w) (go : GO) (hfz : ∀ F,go = .fz F → ∀ b,F b = none) :
  Mem M (upG σ nx go) (nx + 1) (fun j=>if j = nx then some none else β j) w ∧ Ext β (fun j=>if j = nx then some none else β j):=by
 have e : Ext β (fun j=>if j = nx then some none else β j):=by
  intro g x hg
  show (if g = nx then some none else β g) = some x
  by_cases hh : g = nx
  ·subst hh; rw [h.nx g (Nat.le_refl _)] at hg; cases hg
  ·rw [if_neg hh]; exact hg
 have old : ∀ j b,(if j = nx then some none else β j) = some (some b) → j ≠ nx ∧ β j = some (some b):=by
  intro j b hb
  by_cases hh : j = nx
  ·rw [if_pos hh] at hb; simp at hb
  ·rw [if_neg hh] at hb; exact ⟨hh,hb⟩
 refine ⟨⟨?_,?_,?_,?_,h.im,?_,?_,h.sz,h.os,h.tape,h.output,by have:=h.kn; omega,?_,?_,?_,fun p hp=>⟨by have:=(h.anc p hp).1; omega,by have h1:=h.anc p hp; show (if p.1 = nx then some none else β p.1) = p.2; rw [if_neg (by omega)]; exact h1.2⟩,?_⟩,e⟩
 ·intro j go' b hj hb
  obtain ⟨h1,h2⟩:=old j b hb
  rw [gk_upG,beqF h1] at hj
  obtain ⟨ob,hw,hr⟩:=h.hp j go' b hj h2
  exact ⟨ob,hw,hr.mono e⟩
 ·intro j j' b hj hj'
  exact h.inj _ _ _ (old j b hj).2 (old j' b hj').2
 ·intro j b hj; exact h.rng _ _ (old j b hj).2
 ·intro j hj
  show (if j = nx then some none else β j) = none
  rw [if_neg (by omega)]; exact h.nx j (by omega)
 ·intro b ob hb j hj; exact h.imb b ob hb j (old j b hj).2
 ·intro b hb how hn
  exact h.fr b hb how fun j hj=>hn j (e _ _ hj)
 ·intro j hj
  have:=h.kn
  show (if j = nx then some none else β j) = _
  rw [if_neg (by omega)]; exact h.base j hj
 ·intro j go' hj
  rw [gk_upG] at hj
  by_cases hh : j = nx
  ·omega
  ·rw [beqF hh] at hj; have:=h.dom j go' hj; omega
 ·intro j b hk hj; exact h.new j b hk (old j b hj).2
 ·intro j F hj b o hF
  rw [gk_upG] at hj
  by_cases hh : j = nx
  ·subst hh
   simp [beqT] at hj
   rw [hfz F hj b] at hF; cases hF
  ·rw [beqF hh] at hj
   obtain ⟨h1,h2,h3⟩:=h.fz j F hj b o hF
   exact ⟨h1,fun j' hj'=>h2 j' (old j' b hj').2,h3⟩
def nilS (s : S) (t : Nat) (c : RF) (e : Nat) : S:=⟨up s.ρ t (.slc s.nx 0 0 0),upG s.σ s.nx (.row ⟨c,0,e⟩),s.nx + 1,s.ds⟩
theorem Inv.nilg {s : S} {β : Bl} {w : World} {a : Act} (h : Inv X s β w a) {t : Nat} (ht : lk s.ρ t = .v (.slice none 0 0)) (c : RF) (e : Nat) : ∃ β',Inv X (nilS s t c e) β' w a:=by
 obtain ⟨hm,hx⟩:=h.mem.addNil (.row ⟨c,0,e⟩) (fun F hF=>by cases hF)
 refine ⟨_,hm,⟨h.env.size,fun i=>?_⟩,h.ds.mono hx⟩
 show Rep _ (lk (up s.ρ t (.slc s.nx 0 0 0)) i) _
 rw [lk_up]
 by_cases he : i = t
 ·subst he
  rw [beqT]
  have h2:=h.env.get i
  rw [ht] at h2
  generalize a.tmps.getD i undef = v at h2 ⊢
  cases h2
  exact .slcN (if_pos rfl)
 ·rw [beqF he]; exact (h.env.get i).mono hx
theorem GL.nilg {ops : Array Oper} {Q : Exit → Act → World → Prop} {l : List Oper} {s : S} (t : Nat) (c : RF) (e : Nat) (ht : lk s.ρ t = .v (.slice none 0 0)) (h : GL X ops Q l (nilS s t c e)) : GL X ops Q l s :=
 fun _ w a hi=>let ⟨β',hi'⟩:=hi.nilg ht c e; h β' w a hi'
theorem GC.nilg {Q : Exit → Act → World → Prop} {cc : Code} {s : S} (t : Nat) (c : RF) (e : Nat) (ht : lk s.ρ t = .v (.slice none 0 0)) (h : GC X Q cc (nilS s t c e)) : GC X Q cc s :=
 fun _ w a hi=>let ⟨β',hi'⟩:=hi.nilg ht c e; h β' w a hi'
end
section
open Go.RowKit
variable {X : Ctx}
def keepE (ks : List Nat) : Env → Env
 | []=>[]
 | (j,v) :: r=>bif memN j ks then (j,v) :: keepE ks r else keepE ks r
theorem lk_keepE (ks : List Nat) : ∀ (ρ : Env) (i : Nat),lk (keepE ks ρ) i = .any ∨ lk (keepE ks ρ) i = lk ρ i
 | [],i=>.inl rfl
 | (j,v) :: r,i=>by
  simp only [keepE,lk]
  cases hm : memN j ks with
  | true =>
   simp only [cond_true,lk]
   by_cases e : i = j
   ·subst e; rw [beqT]; exact .inr rfl
   ·rw [beqF e]; exact lk_keepE ks r i
  | false =>
   simp only [cond_false]
   by_cases e : i = j
   ·subst e
    rw [beqT]
    have : ∀ r : Env,lk (keepE ks r) i = .any:=by
     intro r
     induction r with
     | nil=>rfl
     | cons y r ih =>
      obtain ⟨k,u⟩:=y
      simp only [keepE]
      cases hk : memN k ks with
      | true =>
       simp only [cond_true,lk]
       have : ¬ i = k:=fun e=>by rw [← e,hm] at hk; cases hk
       rw [beqF this]; exact ih
      | false=>exact ih
    exact .inl (this r)
   ·rw [beqF e]; exact lk_keepE ks r i
def keepS (ks : List Nat) : S → S
 | ⟨ρ,σ,nx,ds⟩=>⟨keepE ks ρ,σ,nx,ds⟩
theorem Inv.keep {s : S} {β : Bl} {w : World} {a : Act} (h : Inv X s β w a) (ks : List Nat) : Inv X (keepS ks s) β w a:=by
 obtain ⟨ρ,σ,nx,ds⟩:=s
 refine ⟨h.mem,⟨h.env.size,fun i=>?_⟩,h.ds⟩
 rcases lk_keepE ks ρ i with e | e
 ·show Rep β (lk (keepE ks ρ) i) _; rw [e]; exact .any _
 ·show Rep β (lk (keepE ks ρ) i) _; rw [e]; exact h.env.get i
theorem GK.list {ops : Array Oper} {Q : Exit → Act → World → Prop} {l : List Oper} {s : S} (h : GL X ops Q l s) : GK X (wpList X.P ops Q l) s:=h
theorem GK.wl {ops : Array Oper} {Q : Exit → Act → World → Prop} {Sw : World → Prop} {l : List (Nat × Nat)} {s : S} (h : GW X ops Q Sw l s) : GK X (WL X.P ops Q Sw l) s:=h
theorem GL.seqR {Q : Exit → Act → World → Prop} {d : Code} {s : S} {l : List Oper} {id : Nat} (h : GL X l.toArray (Exit.then (d.wp X.P Q) Q) l s) : GC X Q (.seq (.region id l.toArray false) d) s:=GC.seq (GC.region h)
theorem VLe.int {m : Nat → Nat} {k : IntKind} {a b : Int} (h : a = b) : VLe m (.v (.int k a)) (.v (.int k b)):=.inr (by subst h; rfl)
theorem VLe.bool {m : Nat → Nat} {a b : Bool} (h : a = b) : VLe m (.v (.bool a)) (.v (.bool b)):=.inr (by subst h; rfl)
theorem VLe.slc {m : Nat → Nat} {g g' o o' l l' c c' : Nat} (h : g = m g') (h1 : o = o') (h2 : l = l') (h3 : c = c') : VLe m (.slc g o l c) (.slc g' o' l' c'):=.inr (by subst h h1 h2 h3; rfl)
theorem RowLe.ints {m : Nat → Nat} {k : IntKind} {f f' : Nat → Int} {n n' e e' : Nat} (h : n = n') (he : e = e') (hf : ∀ i,i < n' → f i = f' i) : GLe m (.row ⟨.ints k f,n,e⟩) (.row ⟨.ints k f',n',e'⟩) :=
 ⟨h,he,fun i hi=>.inr (by show SV.v (.int k (f i)) = .v (.int k (f' i)); rw [hf i hi])⟩
theorem RowLe.vals {m : Nat → Nat} {f f' : Nat → Value} {n n' e e' : Nat} (h : n = n') (he : e = e') (hf : ∀ i,i < n' → f i = f' i) : GLe m (.row ⟨.vals f,n,e⟩) (.row ⟨.vals f',n',e'⟩) :=
 ⟨h,he,fun i hi=>.inr (by show SV.v (f i) = .v (f' i); rw [hf i hi])⟩
def lLe (m : Nat → Nat) : List SV → List SV → Prop
 | _,[]=>True
 | [],x' :: r'=>VLe m .any x' ∧ lLe m [] r'
 | x :: r,x' :: r'=>VLe m x x' ∧ lLe m r r'
theorem lLe_get {m : Nat → Nat} : ∀ {l l' : List SV},lLe m l l' → ∀ i,VLe m (lget l i) (lget l' i)
 | _,[],_,i=>.inl rfl
 | [],x' :: r',h,0=>h.1
 | [],x' :: r',h,i + 1=>by have:=lLe_get h.2 i; exact this
 | x :: r,x' :: r',h,0=>h.1
 | x :: r,x' :: r',h,i + 1=>lLe_get h.2 i
theorem RowLe.lst {m : Nat → Nat} {l l' : List SV} {n n' e e' : Nat} (h : n = n') (he : e = e') (hl : lLe m l l') : GLe m (.row ⟨.lst l,n,e⟩) (.row ⟨.lst l',n',e'⟩) :=
 ⟨h,he,fun i _=>lLe_get hl i⟩
theorem w8_lt (x : Int) : 0 ≤ w8 x ∧ w8 x < 256:=by unfold w8; omega
def fEV {α : Type} : Env → (Env → α) → α
 | [],k=>k []
 | (j,v) :: r,k=>fN j fun j=>fV v fun v=>fEV r fun r'=>k ((j,v) :: r')
theorem fEV_eq {α : Type} : ∀ (l : Env) (k : Env → α),fEV l k = k l
 | [],_=>rfl
 | (j,v) :: r,k=>by simp only [fEV,fV_eq,fN_eq]; exact fEV_eq r _
def fSV {α : Type} : GH → (GH → α) → α
 | [],k=>k []
 | (j,.row r) :: t,k=>fN j fun j=>fRow r fun r=>fSV t fun t'=>k ((j,.row r) :: t')
 | (j,.raw o) :: t,k=>fN j fun j=>fSV t fun t'=>k ((j,.raw o) :: t')
 | (j,.pr p) :: t,k=>fN j fun j=>fSV t fun t'=>k ((j,.pr p) :: t')
 | (j,.fz F) :: t,k=>fN j fun j=>fSV t fun t'=>k ((j,.fz F) :: t')
theorem fSV_eq {α : Type} : ∀ (l : GH) (k : GH → α),fSV l k = k l
 | [],_=>rfl
 | (j,.row r) :: t,k=>by simp only [fSV,fRow_eq,fN_eq]; exact fSV_eq t _
 | (j,.raw o) :: t,k=>by simp only [fSV,fN_eq]; exact fSV_eq t _
 | (j,.pr p) :: t,k=>by simp only [fSV,fN_eq]; exact fSV_eq t _
 | (j,.fz F) :: t,k=>by simp only [fSV,fN_eq]; exact fSV_eq t _
def fDS {α : Type} : List SD → (List SD → α) → α
 | [],k=>k []
 | ⟨f,a,b⟩ :: r,k=>fL a fun a=>fL b fun b=>fDS r fun r=>k (⟨f,a,b⟩ :: r)
theorem fDS_eq {α : Type} : ∀ (l : List SD) (k : List SD → α),fDS l k = k l
 | [],_=>rfl
 | ⟨f,a,b⟩ :: r,k=>by simp only [fDS,fL_eq]; exact fDS_eq r _
def forceS : S → Option S
 | ⟨ρ,σ,nx,ds⟩=>fEV ρ fun ρ=>fSV σ fun σ=>fN nx fun nx=>fDS ds fun ds=>some ⟨ρ,σ,nx,ds⟩
theorem forceS_eq (s : S) : forceS s = some s:=by
 obtain ⟨ρ,σ,nx,ds⟩:=s
 simp only [forceS,fEV_eq,fSV_eq,fN_eq,fDS_eq]
theorem forceS_inv {s s' : S} {ks : List Nat} (hf : forceS (keepS ks s) = some s') {β : Bl} {w : World} {a : Act} (h : Inv X s β w a) : Inv X s' β w a:=by
 rw [forceS_eq] at hf
 cases hf
 exact h.keep ks
theorem GK.force (ks : List Nat) {K : Act → World → Prop} {s s' : S} (hf : forceS (keepS ks s) = some s') (h : GK X K s') : GK X K s:=fun β w a hi=>h β w a (forceS_inv hf hi)
theorem GL.force (ks : List Nat) {ops : Array Oper} {Q : Exit → Act → World → Prop} {l : List Oper} {s s' : S} (hf : forceS (keepS ks s) = some s') (h : GL X ops Q l s') : GL X ops Q l s:=fun β w a hi=>h β w a (forceS_inv hf hi)
theorem GW.force (ks : List Nat) {ops : Array Oper} {Q : Exit → Act → World → Prop} {Sw : World → Prop} {l : List (Nat × Nat)} {s s' : S} (hf : forceS (keepS ks s) = some s') (h : GW X ops Q Sw l s') : GW X ops Q Sw l s:=fun β w a hi=>h β w a (forceS_inv hf hi)
theorem GC.force (ks : List Nat) {Q : Exit → Act → World → Prop} {c : Code} {s s' : S} (hf : forceS (keepS ks s) = some s') (h : GC X Q c s') : GC X Q c s:=fun β w a hi=>h β w a (forceS_inv hf hi)
theorem GC.reg {Q : Exit → Act → World → Prop} {s : S} {l : List Oper} {id : Nat} (k : Nat) (ks : List Nat) {s' s'' : S} {c' : Prop} (h : runS X.T X.n l.toArray k l s True = ([],s',c')) (hs : forceS (keepS ks s') = some s'') (hc : c') (n : GK X (Q .normal) s'') : GC X Q (.region id l.toArray false) s :=
 GC.region (GL.run k h hc (GL.nil (GK.force ks hs n)))
theorem GC.regS {Q : Exit → Act → World → Prop} {d : Code} {s : S} {l : List Oper} {id : Nat} (k : Nat) (ks : List Nat) {s' s'' : S} {c' : Prop} (h : runS X.T X.n l.toArray k l s True = ([],s',c')) (hs : forceS (keepS ks s') = some s'') (hc : c') (n : GC X Q d s'') : GC X Q (.seq (.region id l.toArray false) d) s :=
 GC.seq (GC.reg k ks h hs hc n)
theorem GL.runK {ops : Array Oper} {Q : Exit → Act → World → Prop} (k : Nat) (ks : List Nat) {l : List Oper} {s : S} {l' : List Oper} {s' s'' : S} {c' : Prop} (h : runS X.T X.n ops k l s True = (l',s',c')) (hs : forceS (keepS ks s') = some s'') (hc : c') (n : GL X ops Q l' s'') : GL X ops Q l s :=
 GL.run k h hc (GL.force ks hs n)
theorem GL.fin {ops : Array Oper} {Q : Exit → Act → World → Prop} (k : Nat) (ks : List Nat) {l : List Oper} {s : S} {s' s'' : S} {c' : Prop} (h : runS X.T X.n ops k l s True = ([],s',c')) (hs : forceS (keepS ks s') = some s'') (hc : c') (n : GK X (Q .normal) s'') : GL X ops Q l s :=
 GL.run k h hc (GL.nil (GK.force ks hs n))
theorem GW.runK {ops : Array Oper} {Q : Exit → Act → World → Prop} {Sw : World → Prop} (k : Nat) (ks : List Nat) {l : List (Nat × Nat)} {s : S} {l' : List (Nat × Nat)} {s' s'' : S} {c' : Prop} (h : runW X.T X.n ops k l s True = (l',s',c')) (hs : forceS (keepS ks s') = some s'') (hc : c') (n : GW X ops Q Sw l' s'') : GW X ops Q Sw l s :=
 GW.run k h hc (GW.force ks hs n)
theorem GW.fin {ops : Array Oper} {Q : Exit → Act → World → Prop} {Sw : World → Prop} (k : Nat) (ks : List Nat) {l : List (Nat × Nat)} {s : S} {s' s'' : S} {c' : Prop} (h : runW X.T X.n ops k l s True = ([],s',c')) (hs : forceS (keepS ks s') = some s'') (hc : c') (n : GK X (Q .normal) s'') : GW X ops Q Sw l s :=
 GW.run k h hc (GW.nil (GK.force ks hs n))
theorem GC.loopE {Q : Exit → Act → World → Prop} {c : Code} {s : S} {ι : Type} (I : ι → Prop) (d : ι → Nat) (f : ι → S) (i0 : ι) (ml : List Nat) (h0 : I i0) (hs : Ent X.M s (f i0) ml)
  (round : ∀ i,I i → GC X (Exit.then (LK X I d f (d i)) Q) c (f i)) : GC X Q (.loop c) s:=GC.ent (f i0) ml hs (GC.loop I d f i0 h0 rfl round)
theorem Reps.congr {β : Bl} {f g : Nat → SV} : ∀ (m k : Nat) {vs : List Value},(∀ j,k ≤ j → j < k + m → f j = g j) → Reps β (aggF f k m) vs → Reps β (aggF g k m) vs
 | 0,k,_,_,h=>h
 | m + 1,k,_,he,.cons h t=>.cons (by rw [← he k (Nat.le_refl _) (by omega)]; exact h) (Reps.congr m (k + 1) (fun j h1 h2=>he j (by omega) (by omega)) t)
theorem Src.congr {sz m : Nat} {new new' : Nat → SV} {β : Bl} {w : World} {v : Value} (h : Src X sz m new β w v) (he : ∀ j,j < m * sz → new j = new' j) : Src X sz m new' β w v:=by
 obtain ⟨h1,news,h2,h3,h4,h5⟩:=h
 exact ⟨h1,news,h2,h3,h4.congr _ _ fun j _ h=>he j (by omega),h5⟩
theorem src_slc {s : S} {y : Operand} {sz g off m cap : Nat} {r : Row} {new : Nat → SV} (hy : ev s.ρ y = .slc g off m cap) (hg : gk s.σ g = some (.row r)) (hm : off + m * sz ≤ r.n) (hn : ∀ j,j < m * sz → r.f (off + j) = new j) :
  ∀ β w a,Inv X s β w a → Src X sz m new β w (a.eval y):=by
 intro β w a hi
 have hv:=hi.env.ev y
 rw [hy] at hv
 exact (Src.slc hi hg hm hv).congr hn
theorem ofInt_toNat {n : Nat} {x : Int} (h0 : 0 ≤ x) (h : x < 2 ^ n) : (BitVec.ofInt n x).toNat = x.toNat:=by
 rw [BitVec.toNat_ofInt,Int.emod_eq_of_lt h0 (by exact_mod_cast h)]
theorem bitZ_or {n : Nat} {x y : Int} (hx : 0 ≤ x) (hx' : x < 2 ^ n) (hy : 0 ≤ y) (hy' : y < 2 ^ n) : bitZ .or n x y = ((x.toNat ||| y.toNat : Nat) : Int):=by
 simp only [bitZ,BitVec.toNat_or,ofInt_toNat hx hx',ofInt_toNat hy hy']
end
section
open Go.RowKit
variable {X : Ctx}
def LStep (X : Ctx) (o : Oper) (s : S) (x : SV) : Prop:=∀ β w a,Inv X s β w a → ∃ v,(execOp a.eval o).run X.P w = .ok (.value v) w ∧ Rep β x v
theorem OpW.lstep {Q : Exit → Act → World → Prop} {o : Oper} {s : S} {K : Act → World → Prop} {x : SV} {ρ' : Env} (h : LStep X o s x) (hp : putE X.n s.ρ o.dst x = some ρ') (k : GK X K ⟨ρ',s.σ,s.nx,s.ds⟩) : OpW X Q o s K:=by
 intro β w a hi
 obtain ⟨v,hr,hv⟩:=h β w a hi
 unfold Oper.wp
 rw [hr]
 refine k β w _ ⟨hi.mem,hi.env.put hp hv,?_⟩
 rw [put_defers]; exact hi.ds
theorem GW.lstep {ops : Array Oper} {Q : Exit → Act → World → Prop} {Sw : World → Prop} {i : Nat} {o : Oper} {l : List (Nat × Nat)} {s : S} {x : SV} {ρ' : Env} (ho : ops[i]? = some o) (hw : gdo ops s.ρ o = some true) (h : LStep X o s x) (hp : putE X.n s.ρ o.dst x = some ρ') (k : GW X ops Q Sw l ⟨ρ',s.σ,s.nx,s.ds⟩) : GW X ops Q Sw ((i,1) :: l) s:=by
 intro β w a hi
 obtain ⟨v,hr,hv⟩:=h β w a hi
 exact ⟨o,v,ho,.inl ⟨gdo_wanted hw hi.env,.inl hr⟩,k β w _ ⟨hi.mem,hi.env.put hp hv,by rw [put_defers]; exact hi.ds⟩⟩
def muAt (μ : Nat → Option Obj) (b i : Nat) : Option Value:=match μ b with
 | some (.cells cs _ _)=>cs[i]?
 | _=>none
theorem muAt_cell {M : MC} {σ : GH} {nx : Nat} {β : Bl} {w : World} (h : Mem M σ nx β w) {b i : Nat} {v : Value} (hv : muAt M.μ b i = some v) : w.cell? ⟨b,i,none⟩ = some v:=by
 unfold muAt at hv
 split at hv
 ·rename_i cs e fr hm
  have:=h.im b _ hm
  simp [World.cell?,this,hv]
 ·cases hv
theorem LStep.mu {s : S} {o : Oper} {t : Nat} {x : Operand} {b off : Nat} {v : Value} (ho : o.op = .load t x) (hx : ev s.ρ x = .v (.pointer (some ⟨b,off,none⟩))) (hk : known (X.T t).k = true) (ha : (X.T t).k.agg = false) (hv : muAt X.M.μ b off = some v) : LStep X o s (.v v):=by
 intro β w a hi
 have h:=hi.env.ev x
 rw [hx] at h
 generalize hav : a.eval x = u at h
 cases h
 have h1:=run_isAgg (w:=w) hk
 rw [ha] at h1
 refine ⟨v,?_,.v _⟩
 have hc:=muAt_cell hi.mem hv
 simp [execOp,ho,hav,Instr.loadAt,Instr.sureAddr,loadVar,h1,run_load,hc]
theorem LStep.muA {s : S} {o : Oper} {t : Nat} {x : Operand} {b off : Nat} {vs : List Value} (ho : o.op = .load t x) (hx : ev s.ρ x = .v (.pointer (some ⟨b,off,none⟩))) (hk : known (X.T t).k = true) (ha : (X.T t).k.agg = true) (hl : vs.length = (X.T t).size) (hv : ∀ j v,vs[j]? = some v → muAt X.M.μ b (off + j) = some v) : LStep X o s (.agg (vs.map .v)):=by
 intro β w a hi
 have h:=hi.env.ev x
 rw [hx] at h
 generalize hav : a.eval x = u at h
 cases h
 have h1:=run_isAgg (w:=w) hk
 rw [ha] at h1
 have h2:=run_size (w:=w) hk
 have key : ∀ (l : List Value) (i : Nat) (acc : Array Value),(∀ j v,l[j]? = some v → muAt X.M.μ b (off + i + j) = some v) → (loadCellsFrom ⟨b,off,none⟩ i l.length acc).run X.P w = .ok (acc ++ l.toArray) w:=by
  intro l
  induction l with
  | nil=>intro i acc _; simp [loadCellsFrom]
  | cons y r ih =>
   intro i acc hh
   have h0:=muAt_cell hi.mem (by simpa using hh 0 y rfl)
   have e : (load ((⟨b,off,none⟩ : Addr).add i)).run X.P w = .ok y w:=by simp [run_load,addr_add,h0]
   simp only [List.length_cons,loadCellsFrom,Sem.run_bind,e,Result.andThen_ok]
   rw [ih (i + 1) _ (fun j v hj=>by have:=hh (j + 1) v (by simpa using hj); rw [← this]; congr 1; omega)]
   simp
 refine ⟨.agg vs.toArray,?_,.agg ?_⟩
 ·have hr:=key vs 0 #[] (fun j v hj=>by rw [Nat.add_zero]; exact hv j v hj)
  rw [hl] at hr
  simp only [execOp,ho,hav,Instr.loadAt,Instr.sureAddr,loadVar,Sem.run_bind,Sem.run_pure,Result.andThen_ok,h1,h2,if_true,loadCells,hr]
  simp
 ·clear hl hv key
  induction vs with
  | nil=>exact .nil
  | cons y r ih=>exact .cons (.v _) ih
theorem src_mu {s : S} {y : Operand} {sz b off m cap : Nat} {N : Nat → Value} (hy : ev s.ρ y = .v (.slice (some ⟨b,off,none⟩) m cap)) (hn : ∀ j,j < m * sz → muAt X.M.μ b (off + j) = some (N j) ∧ (N j).oneCell' = true) :
  ∀ β w a,Inv X s β w a → Src X sz m (fun j=>.v (N j)) β w (a.eval y):=by
 intro β w a hi
 have hv:=hi.env.ev y
 rw [hy] at hv
 generalize a.eval y = v at hv
 cases hv
 obtain ⟨news,h2,h3,h4,h5⟩:=run_cells (P:=X.P) (w:=w) (ad:=⟨b,off,none⟩) (f:=fun j=>.v (N j)) (β:=β) (m * sz) 0 (fun j _ hj=>by
  obtain ⟨hu,h1⟩:=hn j (by omega)
  have hu:=muAt_cell hi.mem hu
  exact ⟨N j,by rw [addr_add]; exact hu,.v _,h1⟩)
 exact ⟨rfl,news,fun n hn=>by simpa [Builtin.firstCells,loadCells] using h3 (n * sz) (Nat.mul_le_mul_right _ hn) #[],h2,h4,h5⟩
theorem OpW.newRow {Q : Exit → Act → World → Prop} {o : Oper} {s : S} {K : Act → World → Prop} {r : Row} {x : SV} {ρ' : Env}
  (hrun : ∀ β w a,Inv X s β w a → ∃ cs v,(execOp a.eval o).run X.P w = .ok (.value v) (w.alloc (.cells cs r.e)) ∧ RepRow (upB β s.nx w.heap.size) r cs ∧ Rep (upB β s.nx w.heap.size) x v)
  (hp : putE X.n s.ρ o.dst x = some ρ') (k : GK X K { newS s r with ρ:=ρ' }) : OpW X Q o s K:=OpW.step (Step.new hrun hp) k
theorem OpW.make {Q : Exit → Act → World → Prop} {o : Oper} {s : S} {K : Act → World → Prop} {t e : Nat} {x y : Operand} {k1 k2 : IntKind} {l c : Int} {ρ' : Env}
  (ho : o.op = .makeSlice t x y) (hk : (X.T t).k = .slc e) (hke : known (X.T e).k = true) (hx : ev s.ρ x = .v (.int k1 l)) (hy : ev s.ρ y = .v (.int k2 c)) (h0 : 0 ≤ l) (hlc : l ≤ c) (hc : c < 9223372036854775808) (hb : (X.T e).bytes * c ≤ 281474976710656)
  (hp : putE X.n s.ρ o.dst (.slc s.nx 0 l.toNat c.toNat) = some ρ') (hs0 : 0 < (X.T e).size)
  (k : GK X K ⟨ρ',upG s.σ s.nx (.row ⟨.vals fun i=>rle (X.T e).zero (i % (X.T e).size),c.toNat * (X.T e).size,e⟩),s.nx + 1,s.ds⟩) : OpW X Q o s K:=by
 refine OpW.newRow (r:=⟨.vals fun i=>rle (X.T e).zero (i % (X.T e).size),c.toNat * (X.T e).size,e⟩) (fun β w a hi=>?_) hp k
 have hT:=tabOK hk rfl
 simp only [TKOK] at hT
 have h1:=hi.env.ev x
 have h2:=hi.env.ev y
 rw [hx] at h1; rw [hy] at h2
 generalize hax : a.eval x = vx at h1
 generalize hay : a.eval y = vy at h2
 cases h1; cases h2
 obtain ⟨inf,z,hinf,hsz,hbytes,hz,hz1,hz2,hz3⟩:=(X.ok e hke).info
 have hti : ∀ w,(typeInfo e).run X.P w = .ok inf w:=fun w=>by simp [typeInfo,hinf]
 have hzv : ∀ w,(zeroValue e).run X.P w = .ok z w:=fun w=>by simp [zeroValue,typeInfo,hinf,hz]
 have hroom : ∀ k w,(askRoom k).run X.P w = .ok () w:=by
  intro k w
  unfold askRoom
  split <;> rfl
 have wl : IntKind.i64.wrap l = l:=by rw [wrap_fit (k:=.i64) (by simp only [fit,InI64]; omega)]; rfl
 have wc : IntKind.i64.wrap c = c:=by rw [wrap_fit (k:=.i64) (by simp only [fit,InI64]; omega)]; rfl
 have hcond : (decide (c < 0) || decide (((inf.bytes : Nat) : Int) * c > 2 ^ 48) || decide (l < 0) || decide (l > c)) = false:=by
  simp only [Bool.or_eq_false_iff,decide_eq_false_iff_not]
  rw [hbytes]
  refine ⟨⟨⟨by omega,by omega⟩,by omega⟩,by omega⟩
 refine ⟨(Array.range (c.toNat * (X.T e).size)).map (fun i=>(if c.toNat * (X.T e).size = 0 then #[] else z.cells)[i % (if c.toNat * (X.T e).size = 0 then #[] else z.cells).size]!),.slice (some ⟨w.heap.size,0,none⟩) l.toNat c.toNat,?_,⟨by simp,fun i hi'=>?_⟩,.slc (upB_new _ _ _)⟩
 ·have hc1 : ¬ c < 0:=by omega
  have hc2 : ¬ (281474976710656 < ((inf.bytes : Nat) : Int) * c):=by rw [hbytes]; omega
  have hc3 : ¬ l < 0:=by omega
  have hc4 : ¬ c < l:=by omega
  by_cases hz0 : c.toNat * (X.T e).size = 0
  ·simp [execOp,ho,hax,hay,Instr.makeSlice,run_under hT,asInt,asIntOf,hti,wl,wc,hc1,hc2,hc3,hc4,hroom,run_size hke,hz0,Go.newRow]
  ·simp [execOp,ho,hax,hay,Instr.makeSlice,run_under hT,asInt,asIntOf,hti,wl,wc,hc1,hc2,hc3,hc4,hroom,run_size hke,hz0,hzv,Go.newRow]
 ·have hne : ¬ c.toNat * (X.T e).size = 0:=by have hh : i < c.toNat * (X.T e).size:=hi'; omega
  have hmod : i % z.cells.size < (X.T e).size:=by rw [hz1]; exact Nat.mod_lt _ hs0
  have hmod' : i % (X.T e).size < (X.T e).size:=Nat.mod_lt _ hs0
  refine ⟨rle (X.T e).zero (i % (X.T e).size),?_,.v _,hz3 _ hmod'⟩
  have hlt : i < c.toNat * (X.T e).size:=hi'
  rw [Array.getElem?_map,Array.getElem?_eq_getElem (by simpa using hlt)]
  simp only [Array.getElem_range,Option.map_some,hne,if_false]
  congr 1
  rw [getElem!_def,hz2 _ hmod,hz1]
end
end Go.Proofs.YtebadfmnmhmfeaaGreatDoor.Sx
