/- Rules for walking a function of the program with symbolic values; nothing is assumed of the program. -/
import Derived.Test.YtebadfmnmhmfeaaGreatDoorSx3
import Derived.Recover
namespace Go.Proofs.YtebadfmnmhmfeaaGreatDoor.Sx
set_option maxRecDepth 20000
set_option linter.unusedSimpArgs false
set_option linter.unusedVariables false
set_option linter.unnecessarySimpa false
set_option linter.unusedSectionVars false
section
open Go.RowKit
variable {X : Ctx}
theorem Mem.reW {M : MC} {w : World} {σ : GH} {nx : Nat} {β : Bl} (h : Mem M σ nx β w) {g : Nat} {go go' : GO} (hg : gk σ g = some go) (hr : ∀ b o,β g = some (some b) → w.heap[b]? = some o → RepG β go o → RepG β go' o) (hfz : ∀ F,go' ≠ .fz F) : Mem M (upG σ g go') nx β w:=by
 refine ⟨?_,h.inj,h.rng,h.nx,h.im,h.imb,h.fr,h.sz,h.os,h.tape,h.output,h.kn,h.base,?_,h.new,h.anc,?_⟩
 ·intro j go2 b hj hb
  rw [gk_upG] at hj
  by_cases e : j = g
  ·subst e
   simp [beqT] at hj; subst hj
   obtain ⟨ob,hw,hr'⟩:=h.hp j go b hg hb
   exact ⟨ob,hw,hr _ _ hb hw hr'⟩
  ·rw [beqF e] at hj
   exact h.hp j go2 b hj hb
 ·intro j go2 hj
  rw [gk_upG] at hj
  by_cases e : j = g
  ·subst e; exact h.dom j go hg
  ·rw [beqF e] at hj; exact h.dom j go2 hj
 ·intro j F hj
  rw [gk_upG] at hj
  by_cases e : j = g
  ·subst e; simp [beqT] at hj; exact absurd hj (hfz F)
  ·rw [beqF e] at hj; exact h.fz j F hj
theorem allGL_get {p : Nat → Bool} : ∀ {L : List SV} {j : Nat},allGL p L = true → j < L.length → allG p (lget L j) = true
 | x :: r,0,h,_=>by simp only [allGL,Bool.and_eq_true] at h; exact h.1
 | x :: r,j + 1,h,hj=>by
  simp only [allGL,Bool.and_eq_true] at h
  exact allGL_get (L:=r) h.2 (by simpa using hj)
theorem Inv.openV {s : S} {β : Bl} {w : World} {a : Act} (hi : Inv X s β w a) {g : Nat} {gs : List Nat} {L : List SV} {n e : Nat} (hg : gk s.σ g = some (.row ⟨.lst L,n,e⟩)) (hlt : allLt s.nx gs = true) (hin : allGL (inA (anOf β gs)) L = true) (hgi : inA (anOf β gs) g = true) (hlen : Nat.ble n L.length = true) :
  ∃ V : Nat → Value,(∀ b,anB (anOf β gs) g = some (some b) → ∀ j,j < n → Rep (anB (anOf β gs)) (lget L j) (V j)) ∧ Inv (Sx.addA (anOf β gs) X) ⟨s.ρ,upG s.σ g (.row ⟨.vals V,n,e⟩),s.nx,s.ds⟩ β w a:=by
 have hi2:=hi.addA hlt
 have hanc : ∀ p,p ∈ anOf β gs → β p.1 = p.2:=fun p hp=>(anOf_mem hp).2
 have hag:=anB_eq hanc
 have hlen:=Nat.le_of_ble_eq_true hlen
 by_cases hb : ∃ b,β g = some (some b)
 ·obtain ⟨b,hb⟩:=hb
  obtain ⟨o,hw,hr⟩:=hi.mem.hp g _ b hg hb
  cases hr with
  | row hr hf =>
   rename_i cs lo hiB
   have hv : ∀ j,j < n → Rep β (lget L j) (cs.getD j undef) ∧ (cs.getD j undef).oneCell' = true ∧ cs[j]? = some (cs.getD j undef):=by
    intro j hj
    obtain ⟨v,h1,h2,h3⟩:=hr.get j hj
    have : cs.getD j undef = v:=by rw [Array.getD_eq_getD_getElem?,h1]; rfl
    rw [this]; exact ⟨h2,h3,h1⟩
   refine ⟨fun j=>cs.getD j undef,fun b' _ j hj=>(hv j hj).1.agree hag (allGL_get hin (by omega)),⟨?_,hi2.env,hi2.ds⟩⟩
   refine hi2.mem.reW (go':=.row ⟨.vals fun j=>cs.getD j undef,n,e⟩) hg (fun b2 o2 hb2 hw2 hr2=>?_) (fun F h=>by cases h)
   obtain rfl : b2 = b:=by have:=hb2.symm.trans hb; simpa using this
   obtain rfl : o2 = _:=Option.some.inj (hw2.symm.trans hw)
   exact .row (r:=⟨.vals _,n,e⟩) ⟨hr.size,fun j hj=>⟨_,(hv j hj).2.2,.v _,(hv j hj).2.1⟩⟩ hf
 ·refine ⟨fun _=>undef,fun b hb'=>absurd ⟨b,by rw [← hag g hgi]; exact hb'⟩ hb,⟨?_,hi2.env,hi2.ds⟩⟩
  exact hi2.mem.reW (go':=.row ⟨.vals fun _=>undef,n,e⟩) hg (fun b2 o2 hb2=>absurd ⟨b2,hb2⟩ hb) (fun F h=>by cases h)
theorem Inv.closeV {s : S} {β : Bl} {w : World} {a : Act} {an : An} (hi : Inv X s β w a) (ha : X.M.an = an) {g : Nat} {V : Nat → Value} {L : List SV} {n e : Nat} (hg : gk s.σ g = some (.row ⟨.vals V,n,e⟩)) (hin : allGL (inA an) L = true) (hgi : inA an g = true) (hlen : Nat.ble n L.length = true)
  (hV : ∀ b,anB an g = some (some b) → ∀ j,j < n → Rep (anB an) (lget L j) (V j)) : Inv X ⟨s.ρ,upG s.σ g (.row ⟨.lst L,n,e⟩),s.nx,s.ds⟩ β w a:=by
 have hanc : ∀ p,p ∈ an → β p.1 = p.2:=fun p hp=>(hi.mem.anc p (by rw [ha]; exact hp)).2
 have hag:=anB_eq hanc
 have hlen:=Nat.le_of_ble_eq_true hlen
 refine ⟨hi.mem.reW (go':=.row ⟨.lst L,n,e⟩) hg (fun b o hb hw hr=>?_) (fun F h=>by cases h),hi.env,hi.ds⟩
 cases hr with
 | row hr hf =>
  refine .row (r:=⟨.lst L,n,e⟩) ⟨hr.size,fun j hj=>?_⟩ hf
  have hj : j < n:=hj
  obtain ⟨v,h1,h2,h3⟩:=hr.get j hj
  have h4 : Rep (anB an) (lget L j) (V j):=hV b (by rw [hag g hgi]; exact hb) j hj
  have h5 : v = V j:=by cases h2; rfl
  exact ⟨v,h1,by rw [h5]; exact h4.agree (fun g hg=>(hag g hg).symm) (allGL_get hin (by omega)),h3⟩
def cpV (k : IntKind) (V : Nat → Value) (N : Nat → Int) (od n : Nat) (i : Nat) : Value:=if od ≤ i ∧ i < od + n then .int k (N (i - od)) else V i
theorem OpW.copyV {Q : Exit → Act → World → Prop} {o : Oper} {s : S} {K : Act → World → Prop} {t t' e : Nat} {x y : Operand} {g od nd cd m : Nat} {k : IntKind} {V : Nat → Value} {N : Nat → Int} {rn re : Nat} {ρ' : Env}
  (ho : o.op = .call { callee:=.builtin .copy,args:=#[x,y],argTypes:=#[t,t'] }) (hk : (X.T t).k = .slc e) (hke : known (X.T e).k = true) (hs1 : (X.T e).size = 1)
  (hx : ev s.ρ x = .slc g od nd cd) (hg : gk s.σ g = some (.row ⟨.vals V,rn,re⟩)) (hn : od + nd ≤ rn)
  (hsrc : ∀ β w a,Inv X s β w a → Src X 1 m (fun j=>.v (.int k (N j))) β w (a.eval y))
  (hp : putE X.n s.ρ o.dst (.v (.int .i64 (min m nd : Nat))) = some ρ')
  (next : GK X K ⟨ρ',upG s.σ g (.row ⟨.vals (cpV k V N od (min m nd)),rn,re⟩),s.nx,s.ds⟩) : OpW X Q o s K:=by
 intro β w a hi
 have hT:=tabOK hk rfl
 simp only [TKOK] at hT
 have hsz:=fun w=>run_size (X:=X) (w:=w) hke
 obtain ⟨hlen,news0,hf0,hl0,hr0,ho0⟩:=hsrc β w a hi
 have hv:=hi.env.ev x
 rw [hx] at hv
 generalize hvx : a.eval x = v at hv
 generalize hvy : a.eval y = u at hlen hf0
 have hfc:=hf0 (min m nd) (Nat.min_le_left _ _)
 let news:=news0.take (min m nd * 1)
 have hnl : news.length = min m nd:=by simp only [news,List.length_take,hl0]; omega
 have hnr : Reps β (aggF (fun j=>.v (.int k (N j))) 0 (min m nd)) news:=by
  have key : ∀ (K q : Nat) (f : Nat → SV) (j : Nat) (l : List Value),q ≤ K → Reps β (aggF f j K) l → Reps β (aggF f j q) (l.take q):=by
   intro K
   induction K with
   | zero=>intro q f j l hq h; obtain rfl : q = 0:=(by omega); simpa [aggF] using Reps.nil
   | succ K ih =>
    intro q f j l hq h
    cases q with
    | zero=>simpa [aggF] using Reps.nil
    | succ q =>
     cases h with
     | cons h t=>exact .cons h (ih q f (j + 1) _ (by omega) t)
  have:=key (m * 1) (min m nd) _ 0 news0 (by omega) hr0
  simpa [news,Nat.mul_one] using this
 have hn1 : ∀ u ∈ news,u.oneCell' = true:=fun u hu=>ho0 u (List.mem_of_mem_take hu)
 have hop : execOp a.eval o = (do pure (.value (← Builtin.copy_ #[t,t'] o.type #[v,u]))):=by
  unfold execOp
  simp only [ho,resolve,invoke,builtin,List.map_toArray,List.map_cons,List.map_nil,hvx,hvy]
  rfl
 unfold Oper.wp
 rw [hop]
 have fin : ∀ w',(Builtin.copy_ #[t,t'] o.type #[v,u]).run X.P w = .ok (.int .i64 (min m nd : Nat)) w' → Mem X.M (upG s.σ g (.row ⟨.vals (cpV k V N od (min m nd)),rn,re⟩)) s.nx β w' →
   o.upon X.P a K Q ((do pure (.value (← Builtin.copy_ #[t,t'] o.type #[v,u])) : Sem Next).run X.P w):=by
  intro w' h1 h2
  rw [Sem.run_bind,h1]
  refine next β w' _ ⟨h2,hi.env.put hp (.v _),?_⟩
  rw [put_defers]; exact hi.ds
 have hm:=hi.mem
 rw [← upG_same hg] at hm
 cases hv with
 | slc hb =>
  rename_i b
  obtain ⟨w',hst,hmem⟩:=run_storeCells_one (P:=X.P) hb _ _ (⟨.vals V,rn,re⟩ : Row) s.σ od 0 w hnr hn1 (by rw [aggF_length]; show od + 0 + min m nd ≤ rn; omega) hm
  refine fin w' ?_ ?_
  ·unfold Builtin.copy_
   simp only [List.getElem?_toArray,List.getElem?_cons_zero,List.getElem?_cons_succ,Sem.run_bind,run_under hT,Result.andThen_ok,hlen,hsz,hs1]
   have hfc' : (Builtin.firstCells 1 (m.min nd) u).run X.P w = .ok news.toArray w:=hfc
   simp only [hfc',Result.andThen_ok,Sem.run_bind,hst,Sem.run_pure]
   rfl
  ·refine hmem.conv ?_ ?_ fun i hi'=>.inr ?_
   ·show rn = _; rw [setR_n]
   ·have : ∀ (l : List SV) (r : Row) (off : Nat),(setR r off l).e = r.e:=by
     intro l
     induction l with
     | nil=>intro r off; rfl
     | cons x l ih=>intro r off; rw [setR,ih]; rfl
    rw [this]
   ·rw [setR_f]
    show SV.v (cpV k V N od (min m nd) i) = _
    unfold cpV
    simp only [Nat.add_zero]
    split
    ·rw [Nat.zero_add]
    ·rfl
 | slcN hb =>
  have hnews : news = []:=List.eq_nil_of_length_eq_zero (by rw [hnl]; omega)
  refine fin w ?_ ?_
  ·unfold Builtin.copy_
   simp only [List.getElem?_toArray,List.getElem?_cons_zero,List.getElem?_cons_succ,Sem.run_bind,run_under hT,Result.andThen_ok,hlen,hsz,hs1]
   have hfc' : (Builtin.firstCells 1 (m.min 0) u).run X.P w = .ok news.toArray w:=hfc
   simp only [hfc',Result.andThen_ok,Sem.run_bind,Sem.run_pure]
   rfl
  ·refine hm.conv rfl rfl fun i _=>.inr ?_
   show SV.v (cpV k V N 0 (min m 0) i) = .v (V i)
   unfold cpV
   rw [if_neg (by omega)]
theorem VStep.nilM {ρ : Env} {o : Oper} {x : Operand} {t g off : Nat} {cs : List SV} {name : String} (ho : o.op = .nilCheck x) (hx : ev ρ x = .fn (.method name) [.ifc t (.ptr g off)] cs)
  (hn : ∀ b w,(nilAhead (X.P.types.size + Made.depth) t (.pointer (some ⟨b,off,none⟩)) name).run X.P w = .ok (some false) w) : VStep X ρ o (.fn (.method name) [.ifc t (.ptr g off)] cs):=by
 intro β a he
 have h:=he.ev x
 rw [hx] at h
 generalize hv : a.eval x = v at h
 cases h with
 | fn h1 h2 =>
  cases h1 with
  | cons h1 h3 =>
   cases h3
   cases h1 with
   | ifc h1 =>
    cases h1 with
    | ptr hb =>
     rename_i b
     refine ⟨_,fun w=>?_,.fn (.cons (.ifc (.ptr hb)) .nil) h2⟩
     have hp : (program : Sem Program).run X.P w = .ok X.P w:=rfl
     have:=hn b w
     simp [execOp,ho,hv,Sem.run_bind,hp,this]
theorem Inv.cvR {s s' : S} {β : Bl} {w : World} {a : Act} (h : Inv X s β w a) {g : Nat} {r r' : Row} (hg : gk s.σ g = some (.row r)) (hn : r.n = r'.n) (he : r.e = r'.e) (hr : ∀ i,i < r.n → r.f i = r'.f i) (hf : forceS ⟨s.ρ,upG s.σ g (.row r'),s.nx,s.ds⟩ = some s') : Inv X s' β w a:=by
 rw [forceS_eq] at hf
 obtain rfl:=Option.some.inj hf
 exact ⟨h.mem.re (go':=.row r') hg (fun o ho=>ho.cv (.inr ⟨_,_,rfl,rfl,hn,he,hr⟩)) (fun F h=>by cases h),h.env,h.ds⟩
theorem GL.cvR {ops : Array Oper} {Q : Exit → Act → World → Prop} {l : List Oper} {s s' : S} (g : Nat) (r' : Row) {r : Row} (hg : gk s.σ g = some (.row r)) (hn : r.n = r'.n) (he : r.e = r'.e) (hr : ∀ i,i < r.n → r.f i = r'.f i) (hf : forceS ⟨s.ρ,upG s.σ g (.row r'),s.nx,s.ds⟩ = some s') (h : GL X ops Q l s') : GL X ops Q l s:=fun β w a hi=>h β w a (hi.cvR hg hn he hr hf)
theorem GC.cvR {Q : Exit → Act → World → Prop} {c : Code} {s s' : S} (g : Nat) (r' : Row) {r : Row} (hg : gk s.σ g = some (.row r)) (hn : r.n = r'.n) (he : r.e = r'.e) (hr : ∀ i,i < r.n → r.f i = r'.f i) (hf : forceS ⟨s.ρ,upG s.σ g (.row r'),s.nx,s.ds⟩ = some s') (h : GC X Q c s') : GC X Q c s:=fun β w a hi=>h β w a (hi.cvR hg hn he hr hf)
theorem GL.boolS {ops : Array Oper} {Q : Exit → Act → World → Prop} {l : List Oper} {s s' : S} (t : Nat) {b : Bool} (b' : Bool) (ht : lk s.ρ t = .v (.bool b)) (hb : b = b') (hf : forceS ⟨up s.ρ t (.v (.bool b')),s.σ,s.nx,s.ds⟩ = some s') (h : GL X ops Q l s') : GL X ops Q l s:=fun β w a hi=>by
 rw [forceS_eq] at hf
 obtain rfl:=Option.some.inj hf
 exact h β w a (hi.setb ht hb)
theorem GC.boolS {Q : Exit → Act → World → Prop} {c : Code} {s s' : S} (t : Nat) {b : Bool} (b' : Bool) (ht : lk s.ρ t = .v (.bool b)) (hb : b = b') (hf : forceS ⟨up s.ρ t (.v (.bool b')),s.σ,s.nx,s.ds⟩ = some s') (h : GC X Q c s') : GC X Q c s:=fun β w a hi=>by
 rw [forceS_eq] at hf
 obtain rfl:=Option.some.inj hf
 exact h β w a (hi.setb ht hb)
theorem GK.boolS {K : Act → World → Prop} {s s' : S} (t : Nat) {b : Bool} (b' : Bool) (ht : lk s.ρ t = .v (.bool b)) (hb : b = b') (hf : forceS ⟨up s.ρ t (.v (.bool b')),s.σ,s.nx,s.ds⟩ = some s') (h : GK X K s') : GK X K s:=fun β w a hi=>by
 rw [forceS_eq] at hf
 obtain rfl:=Option.some.inj hf
 exact h β w a (hi.setb ht hb)
theorem GK.abs {K : Act → World → Prop} {s : S} {s' : Int → S} {k : IntKind} {z : Int} (t : Nat) (ht : lk s.ρ t = .v (.int k z)) (hf : ∀ z',forceS ⟨up s.ρ t (.v (.int k z')),s.σ,s.nx,s.ds⟩ = some (s' z')) (h : ∀ z',z' = z → GK X K (s' z')) : GK X K s:=fun β w a hi=>by
 have h1:=hf z
 rw [forceS_eq] at h1
 refine h z rfl β w a ?_
 rw [← Option.some.inj h1]
 exact ⟨hi.mem,⟨hi.env.size,fun i=>by show Rep β (lk (up s.ρ t _) i) _; rw [up_lk _ _ _ ht]; exact hi.env.get i⟩,hi.ds⟩
theorem itN_mono {P : Program} {c : Code} {Q : Exit → Act → World → Prop} : ∀ {k m : Nat} {a : Act} {w : World},k ≤ m → itN P c Q k a w → itN P c Q m a w
 | 0,_,_,_,_,h=>h.elim
 | k + 1,0,_,_,hk,_=>absurd hk (by omega)
 | k + 1,m + 1,a,w,hk,h=>Code.wp_mono (fun e a' w' q=>by
   cases e with
   | normal=>exact itN_mono (by omega) q
   | _=>exact q) h
theorem LK.it {c : Code} {Q : Exit → Act → World → Prop} {ι : Type} {I : ι → Prop} {d : ι → Nat} {f : ι → S}
  (round : ∀ i,I i → GC X (Exit.then (fun a w=>LK X I d f (d i) a w ∨ itN X.P c Q 1 a w) Q) c (f i)) : ∀ (n : Nat) (a : Act) (w : World),LK X I d f n a w → itN X.P c Q (n + 1) a w:=by
 intro n
 induction n using Nat.strongRecOn with
 | _ n ih =>
  intro a w h
  obtain ⟨n',hn,i,β,hi,hd,hinv⟩:=h
  subst hd
  refine Code.wp_mono (fun e a' w' q=>?_) (round i hi β w a hinv)
  cases e with
  | normal =>
   rcases q with q | q
   ·exact itN_mono (by omega) (ih (d i) hn a' w' q)
   ·exact itN_mono (by omega) q
  | _=>exact q
theorem GC.loopX {Q : Exit → Act → World → Prop} {c : Code} {s : S} {ι : Type} (I : ι → Prop) (d : ι → Nat) (f : ι → S) (i0 : ι) (ml : List Nat) (h0 : I i0) (hs : Ent X.M s (f i0) ml)
  (round : ∀ i,I i → GC X (Exit.then (fun a w=>LK X I d f (d i) a w ∨ itN X.P c Q 1 a w) Q) c (f i)) : GC X Q (.loop c) s :=
 GC.ent (f i0) ml hs fun β w a hi=>wp_loopU (LK.it round (d i0 + 1) a w ⟨d i0,Nat.lt_succ_self _,i0,β,h0,rfl,hi⟩)
theorem GK.inl {K K' : Act → World → Prop} {s : S} (h : GK X K s) : GK X (fun a w=>K a w ∨ K' a w) s:=fun β w a hi=>.inl (h β w a hi)
theorem GK.inr {K K' : Act → World → Prop} {s : S} (h : GK X K' s) : GK X (fun a w=>K a w ∨ K' a w) s:=fun β w a hi=>.inr (h β w a hi)
theorem LStep.at {s : S} {o : Oper} {t : Nat} {x : Operand} {g off : Nat} {r : Row} {y : SV} (ho : o.op = .load t x) (hx : ev s.ρ x = .ptr g off) (hk : known (X.T t).k = true) (ha : (X.T t).k.agg = false) (hg : gk s.σ g = some (.row r)) (ho2 : off < r.n) (hy : r.f off = y) : LStep X o s y:=by
 intro β w a hi
 have h:=hi.env.ev x
 rw [hx] at h
 generalize hav : a.eval x = u at h
 cases h with
 | ptr hb =>
  obtain ⟨v,hc,_,hr,_⟩:=hi.mem.cell hg hb ho2
  rw [hy] at hr
  have h1:=run_isAgg (X:=X) (w:=w) hk
  rw [ha] at h1
  refine ⟨v,?_,hr⟩
  simp [execOp,ho,hav,Instr.loadAt,Instr.sureAddr,loadVar,h1,run_load,hc]
theorem src_nil {s : S} {y : Operand} {b : Option Addr} {sz c : Nat} {new : Nat → SV} (hy : ev s.ρ y = .v (.slice b 0 c)) : ∀ β w a,Inv X s β w a → Src X sz 0 new β w (a.eval y):=by
 intro β w a hi
 have h:=hi.env.ev y
 rw [hy] at h
 generalize a.eval y = v at h
 cases h
 exact Src.nil b sz 0 c new rfl
end
section
open Go.RowKit
variable {X : Ctx}
theorem Inv.openP {s : S} {β : Bl} {w : World} {a : Act} (hi : Inv X s β w a) {g t o : Nat} {gs : List Nat} {L : List SV} {n e : Nat} (ht : lk s.ρ t = .ptr g o) (hg : gk s.σ g = some (.row ⟨.lst L,n,e⟩)) (hlt : allLt s.nx gs = true) (hin : allGL (inA (anOf β gs)) L = true) (hgi : inA (anOf β gs) g = true) (hlen : Nat.ble n L.length = true) :
  ∃ V : Nat → Value,(∀ j,j < n → Rep (anB (anOf β gs)) (lget L j) (V j)) ∧ Inv (Sx.addA (anOf β gs) X) ⟨s.ρ,upG s.σ g (.row ⟨.vals V,n,e⟩),s.nx,s.ds⟩ β w a:=by
 obtain ⟨V,h1,h2⟩:=hi.openV hg hlt hin hgi hlen
 refine ⟨V,fun j hj=>?_,h2⟩
 have hr:=hi.env.get t
 rw [ht] at hr
 generalize a.tmps.getD t undef = v at hr
 cases hr with
 | ptr hb=>exact h1 _ (by rw [anB_eq (fun p hp=>(anOf_mem hp).2) g hgi]; exact hb) j hj
theorem GW.openP {ops : Array Oper} {Q : Exit → Act → World → Prop} {Sw : World → Prop} {l : List (Nat × Nat)} {s : S} (t g : Nat) (gs : List Nat) {o : Nat} {L : List SV} {n e : Nat} (ht : lk s.ρ t = .ptr g o) (hg : gk s.σ g = some (.row ⟨.lst L,n,e⟩)) (hlt : allLt s.nx gs = true) (hin : ∀ β,allGL (inA (anOf β gs)) L = true) (hgi : ∀ β,inA (anOf β gs) g = true) (hlen : Nat.ble n L.length = true)
  (h : ∀ β (V : Nat → Value),(∀ j,j < n → Rep (anB (anOf β gs)) (lget L j) (V j)) → GW (addA (anOf β gs) X) ops Q Sw l ⟨s.ρ,upG s.σ g (.row ⟨.vals V,n,e⟩),s.nx,s.ds⟩) : GW X ops Q Sw l s:=by
 intro β w a hi
 obtain ⟨V,h1,h2⟩:=hi.openP ht hg hlt (hin β) (hgi β) hlen
 exact h β V h1 β w a h2
theorem GK.closeV {K : Act → World → Prop} {s : S} {an : An} (g : Nat) (L : List SV) {V : Nat → Value} {n e : Nat} (hV : ∀ j,j < n → Rep (anB an) (lget L j) (V j)) (ha : X.M.an = []) (hg : gk s.σ g = some (.row ⟨.vals V,n,e⟩)) (hin : allGL (inA an) L = true) (hgi : inA an g = true) (hlen : Nat.ble n L.length = true)
  (h : GK X K ⟨s.ρ,upG s.σ g (.row ⟨.lst L,n,e⟩),s.nx,s.ds⟩) : GK (addA an X) K s :=
 fun β w a hi=>h β w a ((hi.closeV (X:=Sx.addA an X) rfl hg hin hgi hlen fun _ _=>hV).delA ha)
def allA (p : Nat → Bool) : List (Nat × SV) → Bool
 | []=>true
 | (_,x) :: r=>allG p x && allA p r
theorem allG_ovk {p : Nat → Bool} : ∀ {l : List (Nat × SV)} {j : Nat} {v : Value},allA p l = true → allG p (ovk l j (.v v)) = true
 | [],_,_,_=>rfl
 | (k,x) :: r,j,v,h=>by
  simp only [allA,Bool.and_eq_true] at h
  simp only [ovk]
  cases Nat.beq j k with
  | true=>exact h.1
  | false=>exact allG_ovk h.2
theorem Inv.openR {s : S} {β : Bl} {w : World} {a : Act} (hi : Inv X s β w a) {g t o : Nat} {gs : List Nat} {r : Row} (ht : lk s.ρ t = .ptr g o) (hg : gk s.σ g = some (.row r)) (hlt : allLt s.nx gs = true) (hall : ∀ j,j < r.n → allG (inA (anOf β gs)) (r.f j) = true) (hgi : inA (anOf β gs) g = true) :
  ∃ V : Nat → Value,(∀ j,j < r.n → Rep (anB (anOf β gs)) (r.f j) (V j)) ∧ Inv (Sx.addA (anOf β gs) X) ⟨s.ρ,upG s.σ g (.row ⟨.vals V,r.n,r.e⟩),s.nx,s.ds⟩ β w a:=by
 have hi2:=hi.addA hlt
 have hag:=anB_eq (β:=β) (an:=anOf β gs) (fun p hp=>(anOf_mem hp).2)
 have hrt:=hi.env.get t
 rw [ht] at hrt
 generalize a.tmps.getD t undef = vt at hrt
 cases hrt with
 | ptr hb =>
  rename_i b
  obtain ⟨ob,hw,hr⟩:=hi.mem.hp g _ b hg hb
  cases hr with
  | row hr hf =>
   rename_i cs lo hiB
   have hv : ∀ j,j < r.n → Rep β (r.f j) (cs.getD j undef) ∧ (cs.getD j undef).oneCell' = true ∧ cs[j]? = some (cs.getD j undef):=by
    intro j hj
    obtain ⟨v,h1,h2,h3⟩:=hr.get j hj
    have : cs.getD j undef = v:=by rw [Array.getD_eq_getD_getElem?,h1]; rfl
    rw [this]; exact ⟨h2,h3,h1⟩
   refine ⟨fun j=>cs.getD j undef,fun j hj=>(hv j hj).1.agree hag (hall j hj),⟨?_,hi2.env,hi2.ds⟩⟩
   refine hi2.mem.reW (go':=.row ⟨.vals fun j=>cs.getD j undef,r.n,r.e⟩) hg (fun b2 o2 hb2 hw2 hr2=>?_) (fun F h=>by cases h)
   obtain rfl : b2 = b:=by have:=hb2.symm.trans hb; simpa using this
   obtain rfl : o2 = _:=Option.some.inj (hw2.symm.trans hw)
   exact .row (r:=⟨.vals _,r.n,r.e⟩) ⟨hr.size,fun j hj=>⟨_,(hv j hj).2.2,.v _,(hv j hj).2.1⟩⟩ hf
theorem GW.openR {ops : Array Oper} {Q : Exit → Act → World → Prop} {Sw : World → Prop} {l : List (Nat × Nat)} {s : S} (t g : Nat) (gs : List Nat) {o : Nat} {r : Row} (ht : lk s.ρ t = .ptr g o) (hg : gk s.σ g = some (.row r)) (hlt : allLt s.nx gs = true) (hall : ∀ β j,j < r.n → allG (inA (anOf β gs)) (r.f j) = true) (hgi : ∀ β,inA (anOf β gs) g = true)
  (h : ∀ β (V : Nat → Value),(∀ j,j < r.n → Rep (anB (anOf β gs)) (r.f j) (V j)) → GW (addA (anOf β gs) X) ops Q Sw l ⟨s.ρ,upG s.σ g (.row ⟨.vals V,r.n,r.e⟩),s.nx,s.ds⟩) : GW X ops Q Sw l s:=by
 intro β w a hi
 obtain ⟨V,h1,h2⟩:=hi.openR ht hg hlt (hall β) (hgi β)
 exact h β V h1 β w a h2
theorem Inv.closeR {s : S} {β : Bl} {w : World} {a : Act} {an : An} (hi : Inv X s β w a) (ha : X.M.an = an) {g : Nat} {V : Nat → Value} {r : Row} (hg : gk s.σ g = some (.row ⟨.vals V,r.n,r.e⟩)) (hall : ∀ j,j < r.n → allG (inA an) (r.f j) = true)
  (hV : ∀ j,j < r.n → Rep (anB an) (r.f j) (V j)) : Inv X ⟨s.ρ,upG s.σ g (.row r),s.nx,s.ds⟩ β w a:=by
 have hag:=anB_eq (β:=β) (an:=an) (fun p hp=>(hi.mem.anc p (by rw [ha]; exact hp)).2)
 refine ⟨hi.mem.reW (go':=.row r) hg (fun b o hb hw hr=>?_) (fun F h=>by cases h),hi.env,hi.ds⟩
 cases hr with
 | row hr hf =>
  refine .row (r:=r) ⟨hr.size,fun j hj=>?_⟩ hf
  obtain ⟨v,h1,h2,h3⟩:=hr.get j hj
  have h5 : v = V j:=by cases h2; rfl
  exact ⟨v,h1,by rw [h5]; exact (hV j hj).agree (fun g hg=>(hag g hg).symm) (hall j hj),h3⟩
theorem GK.closeR {K : Act → World → Prop} {s : S} {an : An} (g : Nat) (r : Row) {V : Nat → Value} (hV : ∀ j,j < r.n → Rep (anB an) (r.f j) (V j)) (hall : ∀ j,j < r.n → allG (inA an) (r.f j) = true) (ha : X.M.an = []) (hg : gk s.σ g = some (.row ⟨.vals V,r.n,r.e⟩))
  (h : GK X K ⟨s.ρ,upG s.σ g (.row r),s.nx,s.ds⟩) : GK (addA an X) K s :=
 fun β w a hi=>h β w a ((hi.closeR (X:=Sx.addA an X) rfl hg hall hV).delA ha)
end
section
open Go.RowKit
variable {X : Ctx}
theorem OpW.callF {Q : Exit → Act → World → Prop} {o : Oper} {K : Act → World → Prop} {s : S} {f : Nat} {x : Operand} {as : Array Operand} {ats : Array TypeId} {args : List SV} {σc : GH} {k k2 : Nat} {ι : Type} {I : ι → Prop} {post : ι → Post}
  (ho : o.op = .call { callee:=.value x,args:=as,argTypes:=ats }) (hx : ev s.ρ x = .v (.func (.func f) #[] #[])) (hF : FunC X.P X.M.μ f args σc k k2 I post) (ml : List Nat)
  (hput : putOk X.n o.dst = true) (hc : chkC X.M s.ds k k2 s.nx ml = true) (he : evs s.ρ as.toList = renL (mo ml s.nx) args) (hgh : getG (mo ml s.nx) s.σ σc = renGL (mo ml s.nx) σc)
  (next : ∀ i,I i → ∀ ρ',putE X.n (frgE (ml.drop k) s.ρ) o.dst (ren (mo ml s.nx) (post i).x) = some ρ' → GK X K (aftS s ml k k2 ρ' (post i))) : OpW X Q o s K:=by
 refine OpW.enter hF ml (xs:=evs s.ρ as.toList) (fun β w a hi=>?_) hc (entA_of he) (entG_of hgh) next (fun ρ=>putOk_some hput)
 have h:=hi.env.ev x
 rw [hx] at h
 generalize hv : a.eval x = v at h
 cases h
 refine ⟨as.map a.eval,?_,?_⟩
 ·unfold execOp
  simp only [ho,resolve,hv,Deferred.ofValue]
  show (callFunc f (#[] ++ as.map a.eval ++ #[])).run X.P w = _
  simp
 ·have:=evs_eval hi.env as
  simpa using this
theorem bitZ_not {n : Nat} (h : n < 9223372036854775808) : IntKind.wrap .i64 (bitZ .xor 64 (-1) (n : Int)) = -1 - (n : Int):=by
 have e : bitZ .xor 64 (-1) (n : Int) = ((18446744073709551615 - n : Nat) : Int):=by
  show (((BitVec.ofInt 64 (-1) ^^^ BitVec.ofInt 64 (n : Int)).toNat : Nat) : Int) = _
  rw [show BitVec.ofInt 64 (-1) = BitVec.allOnes 64 from by decide,BitVec.allOnes_xor,BitVec.toNat_not]
  rw [show (BitVec.ofInt 64 (n : Int)).toNat = n from by simp [BitVec.ofInt,BitVec.toNat_ofNat]; omega]
 rw [e]
 simp only [IntKind.wrap,IntKind.bits,IntKind.signed,Bool.true_and,decide_eq_true_eq,ge_iff_le]
 split <;> omega
theorem VStep.notI {ρ : Env} {o : Oper} {t : TypeId} {x : Operand} {n : Nat} (ho : o.op = .unOp .xor t x) (hx : ev ρ x = .v (.int .i64 n)) (h : n < 9223372036854775808) : VStep X ρ o (.v (.int .i64 (-1 - (n : Int)))):=by
 refine VStep.of (fun g=>Op.unary .xor (g x)) (fun g=>by simp [execOp,ho]) fun β a he=>?_
 have hv:=he.ev x
 rw [hx] at hv
 generalize a.eval x = v at hv
 cases hv
 refine ⟨_,fun w=>?_,.v _⟩
 simp only [Op.unary,Op.intBits]
 rw [← bitZ_not h]
 rfl
theorem FunC.map {P : Program} {μ : Nat → Option Obj} {f : Nat} {args : List SV} {σ : GH} {k k2 : Nat} {ι ι' : Type} {I : ι → Prop} {I' : ι' → Prop} {post : ι → Post} {post' : ι' → Post} (h : FunC P μ f args σ k k2 I post)
  (hm : ∀ i,I i → ∃ i',I' i' ∧ post i = post' i') : FunC P μ f args σ k k2 I' post':=by
 refine ⟨h.1,fun w β vs hw hr=>Calls.mono (h.2 w β vs hw hr) fun en w' q=>?_⟩
 obtain ⟨v,i,β',h1,h2,h3,h4⟩:=q
 obtain ⟨i',a,b⟩:=hm i h2
 exact ⟨v,i',β',h1,a,by rw [← b]; exact h3,by rw [← b]; exact h4⟩
end
section
open Go.RowKit
variable {X : Ctx}
def IsMethP (P : Program) (t t2 : Nat) (name : String) (f : Nat) : Prop:=∀ v w,(method (P.types.size + Made.depth) t (.agg #[.iface t2 v]) name).run P w = .ok (f,v) w
theorem OpW.invokeP {Q : Exit → Act → World → Prop} {o : Oper} {K : Act → World → Prop} {s : S} {f t t2 : Nat} {name : String} {recv : Operand} {y : SV} {as : Array Operand} {ats : Array TypeId} {args : List SV} {σc : GH} {k k2 : Nat} {ι : Type} {I : ι → Prop} {post : ι → Post}
  (ho : o.op = .call { callee:=.invoke recv name,args:=as,argTypes:=ats }) (hy : ev s.ρ recv = .ifc t (.agg [.ifc t2 y])) (hme : IsMethP X.P t t2 name f) (hF : FunC X.P X.M.μ f args σc k k2 I post) (ml : List Nat)
  (hput : putOk X.n o.dst = true) (hc : chkC X.M s.ds k k2 s.nx ml = true) (hx : y :: evs s.ρ as.toList = renL (mo ml s.nx) args) (hgh : getG (mo ml s.nx) s.σ σc = renGL (mo ml s.nx) σc)
  (next : ∀ i,I i → ∀ ρ',putE X.n (frgE (ml.drop k) s.ρ) o.dst (ren (mo ml s.nx) (post i).x) = some ρ' → GK X K (aftS s ml k k2 ρ' (post i))) : OpW X Q o s K:=by
 refine OpW.enter hF ml (xs:=y :: evs s.ρ as.toList) (fun β w a hi=>?_) hc (entA_of hx) (entG_of hgh) next (fun ρ=>putOk_some hput)
 have hr:=hi.env.ev recv
 rw [hy] at hr
 generalize hv : a.eval recv = v at hr
 cases hr with
 | ifc hr =>
  cases hr with
  | agg hr =>
   cases hr with
   | cons hr ht =>
    cases ht
    cases hr with
    | ifc hu =>
     rename_i u
     refine ⟨#[u] ++ as.map a.eval,?_,?_⟩
     ·unfold execOp
      simp only [ho,resolve,hv]
      have hm:=hme u w
      have hp : (program : Sem Program).run X.P w = .ok X.P w:=rfl
      have e : (callMethod (Value.iface t (.agg #[.iface t2 u])) name (as.map a.eval)).run X.P w = (callFunc f (#[u] ++ as.map a.eval)).run X.P w:=by
       simp only [callMethod,Sem.run_bind,hp,Result.andThen_ok,hm]
      have e2 : (#[Value.iface t (.agg #[.iface t2 u])] ++ as.map a.eval).extract 1 (#[Value.iface t (.agg #[.iface t2 u])] ++ as.map a.eval).size = as.map a.eval:=by
       apply Array.ext'
       simp only [Array.toList_extract,Array.toList_append,Array.toList_map,Array.size_append,Array.size_map,List.size_toArray]
       simp [List.take_of_length_le]
      show (Sem.run X.P (Go.invoke (.fn (.method name) #[]) (#[Value.iface t (.agg #[.iface t2 u])] ++ as.map a.eval)) w) = _
      simp only [Go.invoke]
      have e0 : (#[Value.iface t (.agg #[.iface t2 u])] ++ as.map a.eval)[0]? = some (Value.iface t (.agg #[.iface t2 u])):=by rw [Array.getElem?_append_left (show 0 < 1 from Nat.one_pos)]; rfl
      simp only [e0,e2,e]
     ·simpa using Reps.cons hu (by simpa using evs_eval hi.env as)
theorem OpW.appendMk {Q : Exit → Act → World → Prop} {o : Oper} {s : S} {K : Act → World → Prop} {t t' e : Nat} {x y : Operand} {kk k' : IntKind} {c : Nat} {RB : Nat → Env}
  (ho : o.op = .call { callee:=.builtin .append,args:=#[x,y],argTypes:=#[t,t'] }) (hk : (X.T t).k = .slc e) (hk' : (X.T t').k = .int k') (hke : known (X.T e).k = true) (hz0 : (X.T e).zero = [(1,.int kk 0)]) (hs1 : (X.T e).size = 1) (hb1 : (X.T e).bytes = 1)
  (hx : ev s.ρ x = .v (.slice none 0 0)) (hy : ev s.ρ y = .v (.int .i64 (c : Nat))) (hc : 0 < c) (hc2 : c ≤ 1099511627776)
  (hB : ∀ cap',putE X.n s.ρ o.dst (.slc s.nx 0 c cap') = some (RB cap'))
  (next : ∀ cap',c ≤ cap' → cap' < 9223372036854775808 → GK X K ⟨RB cap',upG s.σ s.nx (.row ⟨.ints kk fun _=>0,cap',e⟩),s.nx + 1,s.ds⟩) : OpW X Q o s K:=by
 intro β w a hi
 have hT:=tabOK hk rfl
 simp only [TKOK] at hT
 have hT':=tabOK hk' rfl
 simp only [TKOK] at hT'
 have h1:=hi.env.ev x
 have h2:=hi.env.ev y
 rw [hx] at h1; rw [hy] at h2
 have hsz:=fun w=>run_size (X:=X) (w:=w) hke
 obtain ⟨inf,z,hinf,_,hbytes,hz,hz1,hz2,hz3⟩:=(X.ok e hke).info
 have hti : ∀ w,(typeInfo e).run X.P w = .ok inf w:=fun w=>by simp [typeInfo,hinf]
 have hzv : ∀ w,(zeroValue e).run X.P w = .ok z w:=fun w=>by simp [zeroValue,typeInfo,hinf,hz]
 have hop : ∀ v u,a.eval x = v → a.eval y = u → execOp a.eval o = (do pure (.value (← Builtin.append_ #[t,t'] o.type #[v,u]))):=by
  intro v u h1 h2
  unfold execOp
  simp only [ho,resolve,invoke,builtin,List.map_toArray,List.map_cons,List.map_nil,h1,h2]
  rfl
 generalize hvx : a.eval x = v at h1
 generalize hvy : a.eval y = u at h2
 cases h1; cases h2
 unfold Oper.wp
 rw [hop _ _ hvx hvy]
 have hge:=grownCap_ge w c 0 e
 have hlt : grownCap w c 0 e < 9223372036854775808:=by
  have:=grownCap_le_maxLen w c 0 e (by simp only [maxLen]; omega)
  simp only [maxLen] at this; omega
 generalize hnc : grownCap w c 0 e = nc at hge hlt
 have hroom : ∀ k w,(askRoom k).run X.P w = .ok () w:=by
  intro k w
  unfold askRoom
  split <;> rfl
 have hib : inf.bytes = 1:=by rw [hbytes,hb1]
 have wc : IntKind.i64.wrap (c : Int) = c:=by rw [wrap_fit (k:=.i64) (by simp only [fit,InI64]; omega)]; rfl
 have h48' : ¬ (281474976710656 < Builtin.nextslicecap c 0 * inf.bytes):=by
  have:=growslice_fits (need:=c) (old:=0) (by omega) (by rw [hib]; omega : c * inf.bytes ≤ 140737488355328)
  omega
 let cs : Array Value:=#[] ++ Builtin.zeroCells z.cells c ++ Builtin.zeroCells z.cells (nc - c)
 have hrun : (Builtin.append_ #[t,t'] o.type #[.slice none 0 0,.int .i64 (c : Nat)]).run X.P w = .ok (.slice (some ⟨w.heap.size,0,none⟩) c nc) (w.drew.alloc (.cells cs e)):=by
  have hn' : ¬ c = 0:=by omega
  have hl0 : ¬ ((c : Int) < 0):=by omega
  have hm0 : ¬ (281474976710656 < (c : Int)):=by omega
  have hm1 : ¬ (9223372036854775807 < (c : Int)):=by omega
  have hib2 : ¬ (281474976710656 < Builtin.nextslicecap c 0):=by rw [hib,Nat.mul_one] at h48'; exact h48'
  subst hnc
  simp [Builtin.append_,run_under hT,run_under hT',hsz,hti,hzv,asInt,asIntOf,wc,hn',hl0,hib,hib2,hm0,hm1,h48',hs1,Question.forced,hroom,newRow,Go.newRow,grownCap,cs,Builtin.firstCells,loadCells,loadCellsFrom]
  done
 rw [Sem.run_bind,hrun]
 have hzc : ∀ n,(Builtin.zeroCells z.cells n).size = n:=by intro n; simp [Builtin.zeroCells,hz1,hs1]
 have hrz : ∀ i,rle (X.T e).zero (i % z.cells.size) = .int kk 0:=by
  intro i; rw [hz1,hs1,Nat.mod_one,hz0]; rfl
 have hcg : ∀ i,i < nc → cs[i]? = some (.int kk 0):=by
  intro i hi'
  have hzg : ∀ n j,j < n → (Builtin.zeroCells z.cells n)[j]? = some (.int kk 0):=by
   intro n j hj
   rw [Array.getElem?_eq_getElem (by rw [hzc]; exact hj)]
   simp only [Builtin.zeroCells,Array.getElem_map,Array.getElem_range]
   rw [getElem!_def,hz2 _ (by rw [hz1,hs1,Nat.mod_one]; omega),hrz]
  simp only [cs]
  by_cases h : i < c
  ·rw [Array.getElem?_append_left (by simp [hzc]; omega),Array.getElem?_append_right (by simp)]
   exact hzg _ _ (by simpa using h)
  ·rw [Array.getElem?_append_right (by simp [hzc]; omega)]
   exact hzg _ _ (by simp [hzc]; omega)
 obtain ⟨hm,hext⟩:=hi.mem.drew.alloc (go:=.row ⟨.ints kk fun _=>0,nc,e⟩) (o:=.cells cs e) (.row (r:=⟨.ints kk fun _=>0,nc,e⟩) ⟨by simp [cs,hzc]; omega,fun i hi'=>⟨_,hcg i hi',.v _,rfl⟩⟩ (.inr ⟨rfl,rfl⟩))
 refine next nc hge hlt (upB β s.nx w.drew.heap.size) _ _ ⟨hm,(hi.env.mono hext).put (hB nc) ?_,?_⟩
 ·exact .slc (by show upB β s.nx _ s.nx = _; unfold upB; rw [if_pos rfl]; rfl)
 ·rw [put_defers]; exact hi.ds.mono hext
def FunR (P : Program) (μ : Nat → Option Obj) (f : Nat) (args : List SV) (σ : GH) (k k2 : Nat) {ι : Type} (I : ι → Prop) (post : ι → Post) : Prop :=
 IsGo P f ∧ ∀ w β vs,Mem (mc μ w k k2 β σ) σ k2 β w → Reps β args vs → CallsD P f vs.toArray .returning w (fun e u' w'=>u' = .returning ∧ FPost (mc μ w k k2 β σ) I post e w')
theorem FunD.toR {P : Program} {μ : Nat → Option Obj} {f : Nat} {args : List SV} {σ : GH} {k k2 : Nat} {ι : Type} {I : ι → Prop} {post : ι → Post} (h : FunD P μ f args σ k k2 I post) : FunR P μ f args σ k k2 I post :=
 ⟨h.1,fun w β vs hm hr=>h.2 w β vs .returning hm hr⟩
theorem GK.popR {fn : Func} {R : Ending → World → Prop} {e : Exit} (he : e = .ret ∨ e = .normal) {s : S} {f : Nat} {xs args : List SV} {ds : List SD} {σc : GH} {k k2 : Nat} {ι : Type} {I : ι → Prop} {post : ι → Post}
  (hds : s.ds = ⟨.func f,[],xs⟩ :: ds) (hF : FunR X.P X.M.μ f args σc k k2 I post) (ml : List Nat) (hc : chkC X.M ds k k2 s.nx ml = true) (hx : xs = renL (mo ml s.nx) args) (hgh : getG (mo ml s.nx) s.σ σc = renGL (mo ml s.nx) σc)
  (next : ∀ i,I i → GK X (bodyPostE X.P fn R .ret) ⟨frgE (ml.drop k) s.ρ,addG (mo ml s.nx) (frgG (ml.drop k) (dels ml s.σ)) (post i).σ,s.nx + ((post i).nx - k2),ds⟩) : GK X (bodyPostE X.P fn R e) s:=by
 intro β w a hi
 have key : Leaves X.P fn a.tmps R a.defers .returning w:=by
  have hd:=hi.ds
  rw [hds] at hd
  generalize hae : a.defers = ad at hd ⊢
  cases hd with
  | cons hcp ha t =>
   rename_i cv av es
   cases hcp
   refine ⟨by simp,.func f,#[],f,av.toArray,rfl,?_,?_⟩
   ·show (callFunc f (av.toArray ++ #[])).run X.P w = _
    rw [Array.append_empty]
    exact hF.1 _ _
   ·have hm:=hi.mem.callee hc (entG_of hgh)
    have hcall:=hF.2 w _ _ hm (entA_rep (fun _=>rfl) (entA_of hx) ha)
    refine CallsD.mono hcall fun e' u' w' hq=>?_
    obtain ⟨rfl,v,i,β',rfl,hI,hv,hm'⟩:=hq
    obtain ⟨hM,via,ext⟩:=hi.mem.back hc (entG_of hgh) hm'
    have:=next i hI _ w' { a with defers:=es } ⟨hM,⟨hi.env.size,fun j=>frgE_rep ext (hi.env.get j)⟩,t.ok (fun g v hg=>ext g v (outN_iff hg)) (okDs_all (by simp only [chkC,Bool.and_eq_true] at hc; exact hc.2.2))⟩
    exact this
 rcases he with rfl | rfl <;> exact key
end
section
open Go.RowKit
variable {X : Ctx}
theorem VStep.ixG {ρ : Env} {o : Oper} {t m e b off : Nat} {x i : Operand} {k : IntKind} {n : Int} (ho : o.op = .indexAddr t x i) (hk : (X.T t).k = .arr m e) (hke : known (X.T e).k = true) (hx : ev ρ x = .v (.pointer (some ⟨b,off,none⟩))) (hi : ev ρ i = .v (.int k n)) (h0 : 0 ≤ n) (hn : n < m) :
  VStep X ρ o (.v (.pointer (some ⟨b,off + n.toNat * (X.T e).size,none⟩))):=by
 refine VStep.of (fun g=>Instr.indexAt t (g x) (g i)) (fun g=>by simp [execOp,ho]) fun β a he=>?_
 have h1:=he.ev x
 have h2:=he.ev i
 rw [hx] at h1; rw [hi] at h2
 generalize a.eval x = v at h1 ⊢
 generalize a.eval i = u at h2 ⊢
 cases h1; cases h2
 have hT:=tabOK hk rfl
 simp only [TKOK] at hT
 refine ⟨_,fun w=>?_,.v _⟩
 simp [Instr.indexAt,asIntOf,run_under hT,run_size hke,h0,hn,addr_add,Instr.sureAddr]
end
section
open Go.RowKit
variable {X : Ctx}
theorem Mem.mod {M : MC} {w w' : World} {σ : GH} {nx : Nat} {β : Bl} (h : Mem M σ nx β w) {g b : Nat} {go : GO} (hg : gk σ g = some go) (hnf : ∀ F,go ≠ .fz F) (hb : β g = some (some b)) (hs : w'.heap.size = w.heap.size) (ho : ∀ b',b' ≠ b → w'.heap[b']? = w.heap[b']?)
  (hn : ∀ o,w.heap[b]? = some o → RepG β go o → ∃ o',w'.heap[b]? = some o' ∧ RepG β go o') (h1 : w'.os = w.os) (h2 : w'.tape = w.tape) (h3 : w'.output = w.output) : Mem M σ nx β w':=by
 obtain ⟨o,hw,hr⟩:=h.hp g _ b hg hb
 obtain ⟨o',hw',hr'⟩:=hn o hw hr
 refine ⟨?_,h.inj,fun g b hgb=>by rw [hs]; exact h.rng g b hgb,h.nx,?_,h.imb,?_,by rw [hs]; exact h.sz,h1.trans h.os,h2.trans h.tape,h3.trans h.output,h.kn,h.base,h.dom,h.new,h.anc,?_⟩
 ·intro g' go' b2 hg' hb2
  by_cases e : g' = g
  ·subst e
   rw [hg] at hg'; obtain rfl:=Option.some.inj hg'
   rw [hb] at hb2; simp at hb2; subst hb2
   exact ⟨o',hw',hr'⟩
  ·obtain ⟨o2,hw2,hr2⟩:=h.hp g' go' b2 hg' hb2
   refine ⟨o2,?_,hr2⟩
   rw [ho _ (fun hc=>e (h.inj g' g b2 hb2 (by rw [hb,hc])))]
   exact hw2
 ·intro b2 o2 h2
  rw [ho _ (fun hc=>h.imb b2 o2 h2 g (by rw [hb,hc]))]
  exact h.im b2 o2 h2
 ·intro b2 hlt how hng
  rw [ho _ (fun hc=>hng g (by rw [hb,hc]))]
  exact h.fr b2 hlt how hng
 ·intro g' F hg' b2 o2 hF
  obtain ⟨h1,h2,h3⟩:=h.fz g' F hg' b2 o2 hF
  refine ⟨?_,h2,h3⟩
  rw [ho _ (fun hc=>h2 g (by rw [hb,hc]))]
  exact h1
theorem Mem.marked {M : MC} {w : World} {σ : GH} {nx : Nat} {β : Bl} (h : Mem M σ nx β w) {g b : Nat} {r : Row} (hg : gk σ g = some (.row r)) (hb : β g = some (some b)) : Mem M σ nx β (w.freeze ⟨b,r.n,none⟩ 1):=by
 have hz : ¬ ((1 : Nat) = 0):=by decide
 simp only [World.freeze,hz,if_false]
 refine h.mod hg (fun F h=>by cases h) hb (by simp) (fun b' hb'=>by simp only [Array.getElem?_modify]; rw [if_neg (by omega)]) (fun o hw hr=>?_) rfl rfl rfl
 cases hr with
 | row hr hf =>
  rename_i cs lo hi
  refine ⟨.cells cs r.e (if (lo == hi) = true then (r.n,r.n + 1) else (min lo r.n,max hi (r.n + 1))),by simp [Array.getElem?_modify,hw],?_⟩
  split
  ·exact .row hr (.inl (Nat.le_refl _))
  ·rename_i hne
   refine .row hr (.inl ?_)
   have : lo ≠ hi:=by simpa using hne
   omega
theorem OpW.convB {Q : Exit → Act → World → Prop} {o : Oper} {s : S} {K : Act → World → Prop} {t e : Nat} {x : Operand} {g off n c : Nat} {r : Row} {ρ' : Env} (ho : o.op = .convert t t x) (hk : (X.T t).k = .slc e) (he : (X.T e).k = .int .u8) (hx : ev s.ρ x = .slc g off n c) (hc : 0 < c) (hg : gk s.σ g = some (.row r))
  (hp : putE X.n s.ρ o.dst (.slc g off n c) = some ρ') (next : GK X K ⟨ρ',s.σ,s.nx,s.ds⟩) : OpW X Q o s K:=by
 intro β w a hi
 have T1:=tabOK hk rfl
 have T2:=tabOK he rfl
 simp only [TKOK] at T1 T2
 have h:=hi.env.ev x
 rw [hx] at h
 generalize hv : a.eval x = v at h
 cases h with
 | slcN _=>omega
 | slc hb =>
  rename_i b
  obtain ⟨ob,hw,hr⟩:=hi.mem.hp g _ b hg hb
  cases hr with
  | row hr hf =>
   rename_i cs lo hi'
   have hsh : w.shape? b = some (r.e,r.n):=by simp only [World.shape?,hw,hr.size]
   have he : (execOp a.eval o).run X.P w = .ok (.value (.slice (some ⟨b,off,none⟩) n c)) (w.freeze ⟨b,r.n,none⟩ 1):=by
    have h0 : execOp a.eval o = (do pure (.value (← convert t t (a.eval x)))):=by unfold execOp; simp only [ho]
    rw [h0,hv]
    simp [convert,run_under T1,run_under T2,markStringish,hsh]
   unfold Oper.wp
   rw [he]
   simp only [Oper.upon]
   refine next β _ _ ⟨hi.mem.marked hg hb,hi.env.put hp (.slc hb),?_⟩
   rw [put_defers]; exact hi.ds
end
section
open Go.RowKit
variable {X : Ctx}
theorem VStep.s2ap {ρ : Env} {o : Oper} {t m e g off n c : Nat} {x : Operand} (ho : o.op = .sliceToArrayPointer t x) (hk : (X.T t).k = .arr m e) (hx : ev ρ x = .slc g off n c) (h0 : 0 < n) (hn : m ≤ n) : VStep X ρ o (.ptr g off):=by
 refine VStep.of (fun g=>Instr.arrayAt t (g x)) (fun g=>by simp [execOp,ho]) fun β a he=>?_
 have h1:=he.ev x
 rw [hx] at h1
 generalize a.eval x = v at h1 ⊢
 have hT:=tabOK hk rfl
 simp only [TKOK] at hT
 cases h1 with
 | slcN _=>omega
 | slc hb =>
  refine ⟨_,fun w=>?_,.ptr hb⟩
  have : ¬ (n < m):=by omega
  simp [Instr.arrayAt,run_under hT,hn,this]
end
section
open Go.RowKit
variable {X : Ctx}
theorem Inv.toV {s : S} {β : Bl} {w : World} {a : Act} (hi : Inv X s β w a) {t : Nat} {vs : List Value} (ht : lk s.ρ t = .agg (vs.map .v)) : Inv X ⟨up s.ρ t (.v (.agg vs.toArray)),s.σ,s.nx,s.ds⟩ β w a:=by
 refine ⟨hi.mem,⟨hi.env.size,fun i=>?_⟩,hi.ds⟩
 rw [lk_up]
 by_cases e : i = t
 ·subst e
  rw [beqT]
  have h:=hi.env.get i
  rw [ht] at h
  generalize a.tmps.getD i undef = v at h
  cases h with
  | agg h =>
   rename_i ys
   have : ys = vs:=by
    clear ht
    induction vs generalizing ys with
    | nil=>cases h; rfl
    | cons x r ih =>
     cases h with
     | cons h1 h2=>cases h1; rw [ih h2]
   subst this
   exact .v _
 ·rw [beqF e]; exact hi.env.get i
theorem GL.toV {ops : Array Oper} {Q : Exit → Act → World → Prop} {l : List Oper} {s s' : S} (t : Nat) (vs : List Value) (ht : lk s.ρ t = .agg (vs.map .v)) (hf : forceS ⟨up s.ρ t (.v (.agg vs.toArray)),s.σ,s.nx,s.ds⟩ = some s') (h : GL X ops Q l s') : GL X ops Q l s:=fun β w a hi=>by
 rw [forceS_eq] at hf
 obtain rfl:=Option.some.inj hf
 exact h β w a (hi.toV ht)
theorem GW.toV {ops : Array Oper} {Q : Exit → Act → World → Prop} {Sw : World → Prop} {l : List (Nat × Nat)} {s s' : S} (t : Nat) (vs : List Value) (ht : lk s.ρ t = .agg (vs.map .v)) (hf : forceS ⟨up s.ρ t (.v (.agg vs.toArray)),s.σ,s.nx,s.ds⟩ = some s') (h : GW X ops Q Sw l s') : GW X ops Q Sw l s:=fun β w a hi=>by
 rw [forceS_eq] at hf
 obtain rfl:=Option.some.inj hf
 exact h β w a (hi.toV ht)
theorem OpW.makeMapH {Q : Exit → Act → World → Prop} {o : Oper} {s : S} {K : Act → World → Prop} {t kt et : Nat} {x : Operand} {k : IntKind} {n : Int} {ρ' : Env} (Kp : Value → Prop) (ho : o.op = .makeMap t (some x)) (hT : (X.T t).k = .map kt et) (hx : ev s.ρ x = .v (.int k n)) (hp : putE X.n s.ρ o.dst (.mpp s.nx) = some ρ')
  (h : GK X K ⟨ρ',upG s.σ s.nx (.pr (isMap Kp fun _=>none)),s.nx + 1,s.ds⟩) : OpW X Q o s K:=by
 intro β w a hi
 have hT':=tabOK hT rfl
 simp only [TKOK] at hT'
 have hv:=hi.env.ev x
 rw [hx] at hv
 generalize hax : a.eval x = v at hv
 cases hv
 have hr : (execOp a.eval o).run X.P w = .ok (.value (.map (some w.heap.size))) (w.alloc (.map #[] 0)):=by
  simp [execOp,ho,Instr.makeMap,hax,run_under hT',asInt,asIntOf]
 unfold Oper.wp
 rw [hr]
 obtain ⟨hm,he⟩:=hi.mem.alloc (go:=.pr (isMap Kp fun _=>none)) (o:=.map #[] 0) (.pr ⟨#[],0,rfl,by simp,fun _ _=>rfl⟩)
 refine h _ _ _ ⟨hm,(hi.env.mono he).put hp (.mpp (upB_new _ _ _)),?_⟩
 rw [put_defers]; exact hi.ds.mono he
def Frz (F F' : Nat → Option Obj) (b : Nat) (g : Nat) (r : Row) : Prop :=
 (∀ i v,i < r.n → sb g (some b) (r.f i) = .v v → fzAt F' b i = some v) ∧ (∀ b' i v,fzAt F b' i = some v → b' ≠ b ∧ fzAt F' b' i = some v)
theorem Inv.freezeP {s : S} {β : Bl} {w : World} {a : Act} (hi : Inv X s β w a) {t g z o : Nat} {r : Row} {F : Nat → Option Obj} (ht : lk s.ρ t = .ptr g o) (hg : gk s.σ g = some (.row r)) (hz : gk s.σ z = some (.fz F)) (hk : X.M.k ≤ g) (hna : notAn g X.M.an = true) :
  ∃ b F' β',Frz F F' b g r ∧ Inv X ⟨sbE g (some b) s.ρ,upG (sbG g (some b) s.σ) z (.fz F'),s.nx,sbDs g (some b) s.ds⟩ β' w a:=by
 have hr:=hi.env.get t
 rw [ht] at hr
 generalize hvt : a.tmps.getD t undef = vt at hr
 cases hr with
 | ptr hb =>
  rename_i b
  have hfb : ∀ b' ob,F b' = some ob → b' ≠ b:=fun b' ob h e=>(hi.mem.fz z F hz b' ob h).2.1 g (by rw [hb,e])
  obtain ⟨ob,o',β',h1,h2⟩:=Inv.freeze (ρ:=s.ρ) (σ:=s.σ) (nx:=s.nx) (ds:=s.ds) hi hg hz hk hna ⟨_,hb⟩
  have hob : ob = some b:=by
   have h3:=h2.env.get t
   rw [lk_sbE,ht,hvt] at h3
   simp only [sb,Nat.beq_refl,cond_true] at h3
   cases ob with
   | none=>cases h3
   | some c=>cases h3; rfl
  ·subst hob
   obtain ⟨cs,fr,rfl,hcs,hc⟩:=h1 b rfl
   refine ⟨b,_,β',⟨fun i v hi' hv=>?_,fun b' i v hv=>?_⟩,h2⟩
   ·obtain ⟨u,hu,_,hr⟩:=hc i hi'
    rw [hv] at hr
    cases hr
    simp only [fzAt,upZ,upF,if_true]
    exact hu
   ·have hne : b' ≠ b:=by
     unfold fzAt at hv
     split at hv
     ·rename_i h; exact hfb _ _ h
     ·cases hv
    refine ⟨hne,?_⟩
    unfold fzAt at hv ⊢
    simp only [upZ,upF,if_neg hne]
    exact hv
theorem GC.freezeP {Q : Exit → Act → World → Prop} {c : Code} {s : S} (t g z : Nat) {o : Nat} {r : Row} {F : Nat → Option Obj} (ht : lk s.ρ t = .ptr g o) (hg : gk s.σ g = some (.row r)) (hz : gk s.σ z = some (.fz F)) (hk : Nat.ble X.M.k g = true) (hna : notAn g X.M.an = true)
  (h : ∀ b F',Frz F F' b g r → GC X Q c ⟨sbE g (some b) s.ρ,upG (sbG g (some b) s.σ) z (.fz F'),s.nx,sbDs g (some b) s.ds⟩) : GC X Q c s:=fun β w a hi=>by
 obtain ⟨b,F',β',h1,h2⟩:=hi.freezeP ht hg hz (Nat.le_of_ble_eq_true hk) hna
 exact h b F' h1 β' w a h2
end
section
open Go.RowKit
variable {X : Ctx}
theorem LStep.lookupT {o : Oper} {s : S} {t kt et g : Nat} {m k : Operand} {kv : Value} {Kp : Value → Prop} {f : Value → Option Value} {ok : Bool} {zv : Value} (xv : Value)
  (ho : o.op = .lookup t m k ok) (hT : (X.T t).k = .map kt et) (hK : KeyOK X.P kt Kp) (hm : ev s.ρ m = .mpp g) (hk : ev s.ρ k = .v kv) (hg : gk s.σ g = some (.pr (isMap Kp f))) (hkp : Kp kv)
  (hz : ∀ w,(zeroValue et).run X.P w = .ok zv w) (hf : f kv = some xv) : LStep X o s (if ok then .tup [.v xv,.v (.bool true)] else .v xv):=by
 have h:=LStep.lookup ho hT hK hm hk hg hkp hz
 rw [hf] at h
 exact h
theorem LStep.lookupF {o : Oper} {s : S} {t kt et g : Nat} {m k : Operand} {kv : Value} {Kp : Value → Prop} {f : Value → Option Value} {ok : Bool} (zv : Value)
  (ho : o.op = .lookup t m k ok) (hT : (X.T t).k = .map kt et) (hK : KeyOK X.P kt Kp) (hm : ev s.ρ m = .mpp g) (hk : ev s.ρ k = .v kv) (hg : gk s.σ g = some (.pr (isMap Kp f))) (hkp : Kp kv)
  (hz : ∀ w,(zeroValue et).run X.P w = .ok zv w) (hf : f kv = none) : LStep X o s (if ok then .tup [.v zv,.v (.bool false)] else .v zv):=by
 have h:=LStep.lookup ho hT hK hm hk hg hkp hz
 rw [hf] at h
 exact h
theorem LStep.lookupN {o : Oper} {s : S} {t kt et : Nat} {m k : Operand} {kv : Value} {Kp : Value → Prop} {ok : Bool} (zv : Value)
  (ho : o.op = .lookup t m k ok) (hT : (X.T t).k = .map kt et) (hK : KeyOK X.P kt Kp) (hm : ev s.ρ m = .v (.map none)) (hk : ev s.ρ k = .v kv) (hkp : Kp kv)
  (hz : ∀ w,(zeroValue et).run X.P w = .ok zv w) : LStep X o s (if ok then .tup [.v zv,.v (.bool false)] else .v zv):=by
 intro β w a hi
 have hT':=tabOK hT rfl
 simp only [TKOK] at hT'
 have e1:=hi.env.ev m
 have e2:=hi.env.ev k
 rw [hm] at e1; rw [hk] at e2
 generalize h1 : a.eval m = v1 at e1
 generalize h2 : a.eval k = v2 at e2
 cases e2
 cases e1
 have he : execOp a.eval o = (do pure (.value (← Instr.lookup t (a.eval m) (a.eval k) ok))):=by unfold execOp; simp only [ho]
 have hrun : (Instr.lookup t (.map none) kv ok).run X.P w = .ok (if ok then .tuple #[zv,.bool false] else zv) w:=by
  have hfind:=hK.find [] kv w (fun e h=>by cases h) hkp
  have hf0 : findP [] kv 0 = none:=rfl
  rw [hf0] at hfind
  simp only [Instr.lookup,Sem.run_bind,run_under hT',Result.andThen_ok,Sem.run_pure,hK.chk _ _ _ hkp,hz,hfind]
 refine ⟨_,by rw [he,Sem.run_bind,h1,h2,hrun]; rfl,?_⟩
 cases ok with
 | true=>exact .tup (.cons (.v _) (.cons (.v _) .nil))
 | false=>exact .v _
end
section
open Go.RowKit
variable {X : Ctx}
def Uq (es : List MapEntry) (clock : Nat) : Prop:=(∀ (i j : Nat) (e e' : MapEntry),es[i]? = some e → es[j]? = some e' → e.born = e'.born → i = j) ∧ ∀ e,e ∈ es → e.born < clock
def isMapU (K : Value → Prop) (f : Value → Option Value) (o : Obj) : Prop:=∃ es clock,o = .map es clock ∧ (∀ e,e ∈ es.toList → K e.key) ∧ (∀ k,K k → look es.toList k = f k) ∧ Uq es.toList clock
def isMapE (K : Value → Prop) (f : Value → Option Value) (kv : Value) (st : Int) (o : Obj) : Prop:=∃ es clock i e,o = .map es clock ∧ (∀ e,e ∈ es.toList → K e.key) ∧ (∀ k,K k → k ≠ kv → look es.toList k = f k) ∧ Uq es.toList clock ∧ findP es.toList kv 0 = some (i,e.val) ∧ es.toList[i]? = some e ∧ st = (e.born : Int)
theorem isMapU.sub {K : Value → Prop} {f : Value → Option Value} {o : Obj} (h : isMapU K f o) : isMap K f o:=by
 obtain ⟨es,c,h1,h2,h3,_⟩:=h
 exact ⟨es,c,h1,h2,h3⟩
theorem Uq.push {es : List MapEntry} {c : Nat} (h : Uq es c) (k v : Value) : Uq (es ++ [{ key:=k,val:=v,born:=c }]) (c + 1):=by
 refine ⟨fun i j e e' hi hj hb=>?_,fun e he=>?_⟩
 ·by_cases h1 : i < es.length <;> by_cases h2 : j < es.length
  ·rw [List.getElem?_append_left h1] at hi
   rw [List.getElem?_append_left h2] at hj
   exact h.1 i j e e' hi hj hb
  ·rw [List.getElem?_append_left h1] at hi
   rw [List.getElem?_append_right (by omega)] at hj
   have:=h.2 e (List.mem_of_getElem? hi)
   have h3 : e' = { key:=k,val:=v,born:=c }:=by simpa using List.mem_of_getElem? hj
   rw [h3] at hb
   dsimp only at hb; omega
  ·rw [List.getElem?_append_right (by omega)] at hi
   rw [List.getElem?_append_left h2] at hj
   have:=h.2 e' (List.mem_of_getElem? hj)
   have h3 : e = { key:=k,val:=v,born:=c }:=by simpa using List.mem_of_getElem? hi
   rw [h3] at hb
   dsimp only at hb; omega
  ·have e1:=(List.getElem?_eq_some_iff.1 hi).1
   have e2:=(List.getElem?_eq_some_iff.1 hj).1
   simp at e1 e2; omega
 ·rcases List.mem_append.1 he with he | he
  ·have:=h.2 e he; omega
  ·have h3 : e = { key:=k,val:=v,born:=c }:=by simpa using he
   rw [h3]; dsimp only; omega
theorem Uq.modify {es : List MapEntry} {c : Nat} (h : Uq es c) (i : Nat) (f : MapEntry → MapEntry) (hf : ∀ e,(f e).born = e.born) : Uq (es.modify i f) c:=by
 have key : ∀ (j : Nat) (e : MapEntry),(es.modify i f)[j]? = some e → ∃ e0 : MapEntry,es[j]? = some e0 ∧ e.born = e0.born:=by
  intro j e hj
  rw [List.getElem?_modify] at hj
  obtain ⟨e2,he2,hh⟩:=Option.map_eq_some_iff.1 hj
  refine ⟨e2,he2,?_⟩
  split at hh
  ·rw [← hh,hf]
  ·rw [← hh]
 refine ⟨fun a b e e' ha hb hbn=>?_,fun e he=>?_⟩
 ·obtain ⟨e1,h1,h2⟩:=key a e ha
  obtain ⟨e3,h3,h4⟩:=key b e' hb
  exact h.1 a b e1 e3 h1 h3 (by rw [← h2,← h4,hbn])
 ·obtain ⟨j,hj⟩:=List.getElem?_of_mem he
  obtain ⟨e1,h1,h2⟩:=key j e hj
  rw [h2]; exact h.2 e1 (List.mem_of_getElem? h1)
theorem modify_key {es : List MapEntry} {i : Nat} {e : MapEntry} {kv x : Value} (he : es[i]? = some e) (hk : e.key = kv) : (es.modify i fun e=>{ key:=e.key,val:=x,born:=e.born }) = es.modify i fun e=>{ key:=kv,val:=x,born:=e.born }:=by
 apply List.ext_getElem?
 intro j
 rw [List.getElem?_modify,List.getElem?_modify]
 by_cases h : i = j
 ·subst h
  rw [he]; simp [hk]
 ·simp only [if_neg h]
theorem idx_uq {es : Array MapEntry} {c i : Nat} {e : MapEntry} (h : Uq es.toList c) (he : es.toList[i]? = some e) : Array.findIdx? (fun x=>((x.born : Nat) : Int) == ((e.born : Nat) : Int)) es = some i:=by
 rw [Array.findIdx?_eq_some_iff_getElem]
 obtain ⟨hi,hie⟩:=List.getElem?_eq_some_iff.1 he
 refine ⟨by simpa using hi,?_,fun j hj=>?_⟩
 ·have : es[i]'(by simpa using hi) = e:=by simpa using hie
  rw [this]; simp
 ·have hjs : j < es.size:=by simp at hi; omega
  intro hp
  have hb : (es[j]'hjs).born = e.born:=by have h2:=eq_of_beq hp; omega
  have:=h.1 j i _ e (by rw [List.getElem?_eq_getElem (by simpa using hjs)]) he (by simpa using hb)
  omega
theorem OpW.makeMapU {Q : Exit → Act → World → Prop} {o : Oper} {s : S} {K : Act → World → Prop} {t : Nat} {ρ' : Env} (Kp : Value → Prop) (ho : o.op = .makeMap t none) (hp : putE X.n s.ρ o.dst (.mpp s.nx) = some ρ')
  (k : GK X K ⟨ρ',upG s.σ s.nx (.pr (isMapU Kp fun _=>none)),s.nx + 1,s.ds⟩) : OpW X Q o s K:=by
 intro β w a hi
 have hr : (execOp a.eval o).run X.P w = .ok (.value (.map (some w.heap.size))) (w.alloc (.map #[] 0)):=by
  simp [execOp,ho,Instr.makeMap]
 unfold Oper.wp
 rw [hr]
 obtain ⟨hm,he⟩:=hi.mem.alloc (go:=.pr (isMapU Kp fun _=>none)) (o:=.map #[] 0) (.pr ⟨#[],0,rfl,by simp,fun _ _=>rfl,⟨fun i j e e' h=>by simp at h,fun e h=>by simp at h⟩⟩)
 refine k _ _ _ ⟨hm,(hi.env.mono he).put hp (.mpp (upB_new _ _ _)),?_⟩
 rw [put_defers]; exact hi.ds.mono he
theorem OpW.mapEntry {Q : Exit → Act → World → Prop} {o : Oper} {s : S} {K : Act → World → Prop} {t kt et g : Nat} {m k : Operand} {kv zv : Value} {Kp : Value → Prop} {f : Value → Option Value} {RB : Int → Env}
  (ho : o.op = .mapEntry t m k) (hT : (X.T t).k = .map kt et) (hK : KeyOK X.P kt Kp) (hm : ev s.ρ m = .mpp g) (hk : ev s.ρ k = .v kv) (hg : gk s.σ g = some (.pr (isMapU Kp f))) (hkp : Kp kv) (hz : ∀ w,(zeroValue et).run X.P w = .ok zv w)
  (hp : ∀ st,putE X.n s.ρ o.dst (.tup [.any,.v (.int .i64 st)]) = some (RB st)) (next : ∀ st,GK X K ⟨RB st,upG s.σ g (.pr (isMapE Kp f kv st)),s.nx,s.ds⟩) : OpW X Q o s K:=by
 intro β w a hi
 have hT':=tabOK hT rfl
 simp only [TKOK] at hT'
 have e1:=hi.env.ev m
 have e2:=hi.env.ev k
 rw [hm] at e1; rw [hk] at e2
 generalize h1 : a.eval m = v1 at e1
 generalize h2 : a.eval k = v2 at e2
 cases e2
 cases e1 with
 | mpp hb =>
  rename_i b
  obtain ⟨ob,hw,hr⟩:=hi.mem.hp g _ b hg hb
  cases hr with
  | pr hmp =>
   obtain ⟨es,clock,rfl,hes,hlk,huq⟩:=hmp
   have hget:=run_getObj' (P:=X.P) hw
   have hset : ∀ o' : Obj,(setObj b o').run X.P w = .ok () { w with heap:=w.heap.setIfInBounds b o' }:=fun o'=>by simp [setObj,Sem.run,hw]
   have hfind:=hK.find es.toList kv w hes hkp
   have hrun : ∃ es' c' v st,(Instr.mapEntry t (.map (some b)) kv).run X.P w = .ok (.tuple #[v,.int .i64 st]) { w with heap:=w.heap.setIfInBounds b (.map es' c') } ∧ isMapE Kp f kv st (.map es' c'):=by
    cases hf : findP es.toList kv 0 with
    | none =>
     rw [hf] at hfind
     refine ⟨es.push { key:=kv,val:=zv,born:=clock },clock + 1,zv,clock,?_,_,_,es.size,{ key:=kv,val:=zv,born:=clock },rfl,?_,?_,?_,?_,?_,rfl⟩
     ·simp only [Instr.mapEntry,Sem.run_bind,run_under hT',Result.andThen_ok,hget,hK.chk _ _ _ hkp,hfind,hset,hz]
      rfl
     ·intro e he
      simp only [Array.toList_push,List.mem_append,List.mem_singleton] at he
      rcases he with he | rfl
      ·exact hes e he
      ·exact hkp
     ·intro k' hk' hne
      rw [Array.toList_push,look_push _ _ _ _ (findP_none _ _ _ hf),if_neg hne]
      exact hlk k' hk'
     ·rw [Array.toList_push]; exact huq.push _ _
     ·rw [Array.toList_push]
      have : ∀ (l : List MapEntry) (i : Nat),(∀ e,e ∈ l → e.key ≠ kv) → findP (l ++ [{ key:=kv,val:=zv,born:=clock }]) kv i = some (i + l.length,zv):=by
       intro l
       induction l with
       | nil=>intro i _; simp [findP]
       | cons a r ih =>
        intro i h
        simp only [List.cons_append,findP,if_neg (h a (by simp))]
        rw [ih (i + 1) (fun e he=>h e (by simp [he]))]
        simp only [List.length_cons]; congr 2; omega
      rw [this _ 0 (findP_none _ _ _ hf)]; simp
     ·simp
    | some p =>
     obtain ⟨i,u⟩:=p
     rw [hf] at hfind
     obtain ⟨e,_,he,hek,hev⟩:=findP_get _ _ _ _ _ hf
     rw [Nat.sub_zero] at he
     have hei : es[i]? = some e:=by simpa using he
     have hmod : (es.modify i fun e=>{ key:=kv,val:=e.val,born:=e.born }) = es:=by
      apply Array.ext'
      rw [Array.toList_modify]
      apply List.ext_getElem?
      intro j
      rw [List.getElem?_modify]
      by_cases h : i = j
      ·subst h; rw [he]; simp [← hek]
      ·simp [if_neg h]
     refine ⟨es,clock,u,e.born,?_,_,_,i,e,rfl,hes,fun k' hk' _=>hlk k' hk',huq,by rw [hf,hev],he,rfl⟩
     have hst:=bits_stay (w:=w) hK hkp
     simp only [Instr.mapEntry,Sem.run_bind,run_under hT',Result.andThen_ok,hget,hK.chk _ _ _ hkp,hfind,hei,Option.map_some,Option.getD_some,hek,hst,hset,hmod]
     rfl
   obtain ⟨es',c',v,st,hrun,hmap⟩:=hrun
   have hop : (execOp a.eval o).run X.P w = .ok (.value (.tuple #[v,.int .i64 st])) { w with heap:=w.heap.setIfInBounds b (.map es' c') }:=by
    have he : execOp a.eval o = (do pure (.value (← Instr.mapEntry t (a.eval m) (a.eval k)))):=by unfold execOp; simp only [ho]
    rw [he,Sem.run_bind,h1,h2,hrun]
    rfl
   unfold Oper.wp
   rw [hop]
   refine next st β _ _ ⟨hi.mem.setObj hg hb (.pr hmap),hi.env.put (hp st) (.tup (.cons (.any _) (.cons (.v _) .nil))),?_⟩
   rw [put_defers]; exact hi.ds
theorem OpW.entryStore {Q : Exit → Act → World → Prop} {o : Oper} {s : S} {K : Act → World → Prop} {t g : Nat} {m st x : Operand} {kv xv : Value} {z : Int} {Kp : Value → Prop} {f : Value → Option Value} {ρ' : Env}
  (ho : o.op = .entryStore t m st x) (hm : ev s.ρ m = .mpp g) (hst : ev s.ρ st = .v (.int .i64 z)) (hx : ev s.ρ x = .v xv) (hg : gk s.σ g = some (.pr (isMapE Kp f kv z)))
  (hp : putE X.n s.ρ o.dst (.v undef) = some ρ') (next : GK X K ⟨ρ',upG s.σ g (.pr (isMapU Kp (updF f kv xv))),s.nx,s.ds⟩) : OpW X Q o s K:=by
 intro β w a hi
 have e1:=hi.env.ev m
 have e2:=hi.env.ev st
 have e3:=hi.env.ev x
 rw [hm] at e1; rw [hst] at e2; rw [hx] at e3
 generalize h1 : a.eval m = v1 at e1
 generalize h2 : a.eval st = v2 at e2
 generalize h3 : a.eval x = v3 at e3
 cases e2; cases e3
 cases e1 with
 | mpp hb =>
  rename_i b
  obtain ⟨ob,hw,hr⟩:=hi.mem.hp g _ b hg hb
  cases hr with
  | pr hmp =>
   obtain ⟨es,clock,i,e,rfl,hes,hlk,huq,hf,hei,rfl⟩:=hmp
   have hget:=run_getObj' (P:=X.P) hw
   have hset : ∀ o' : Obj,(setObj b o').run X.P w = .ok () { w with heap:=w.heap.setIfInBounds b o' }:=fun o'=>by simp [setObj,Sem.run,hw]
   obtain ⟨e',_,he',hek,_⟩:=findP_get _ _ _ _ _ hf
   rw [Nat.sub_zero,hei] at he'
   obtain rfl:=Option.some.inj he'
   have hidx:=idx_uq huq hei
   have hop : (execOp a.eval o).run X.P w = .ok .skip { w with heap:=w.heap.setIfInBounds b (.map (es.modify i fun e=>{ key:=e.key,val:=xv,born:=e.born }) clock) }:=by
    have he : execOp a.eval o = (do Instr.entryStore t (a.eval m) (a.eval st) (a.eval x); pure .skip):=by unfold execOp; simp only [ho]
    rw [he,Sem.run_bind,h1,h2,h3]
    simp only [Instr.entryStore,Sem.run_bind,hget,Result.andThen_ok,asInt,asIntOf,Sem.run_pure,hidx,hset]
   have hmap : isMapU Kp (updF f kv xv) (.map (es.modify i fun e=>{ key:=e.key,val:=xv,born:=e.born }) clock):=by
    refine ⟨_,_,rfl,?_,?_,?_⟩
    ·intro e' he'
     rw [Array.toList_modify] at he'
     obtain ⟨j,hj⟩:=List.getElem?_of_mem he'
     rw [List.getElem?_modify] at hj
     obtain ⟨e2,he2,hh⟩:=Option.map_eq_some_iff.1 hj
     have:=hes _ (List.mem_of_getElem? he2)
     split at hh
     ·subst hh; exact this
     ·subst hh; exact this
    ·intro k' hk'
     have:=look_modify es.toList kv xv e.val 0 i hf k'
     rw [Nat.sub_zero] at this
     rw [Array.toList_modify,modify_key hei hek,this]
     unfold updF
     split
     ·rfl
     ·rename_i hne; exact hlk k' hk' hne
    ·rw [Array.toList_modify]; exact huq.modify i _ (fun _=>rfl)
   unfold Oper.wp
   rw [hop]
   refine next β _ _ ⟨hi.mem.setObj hg hb (.pr hmap),hi.env.put hp (.v _),?_⟩
   rw [put_defers]; exact hi.ds
end
section
open Go.RowKit
variable {X : Ctx}
theorem run_lookup {P : Program} {w : World} {t kt et b : Nat} {kv zv : Value} {Kp : Value → Prop} {f : Value → Option Value} {ok : Bool} {ob : Obj} (hT' : P.underlying t = some (.map kt et)) (hK : KeyOK P kt Kp) (hw : w.heap[b]? = some ob) (hmp : isMap Kp f ob) (hkp : Kp kv) (hz : ∀ w,(zeroValue et).run P w = .ok zv w) :
  (Instr.lookup t (.map (some b)) kv ok).run P w = .ok (if ok then .tuple #[(f kv).getD zv,.bool (f kv).isSome] else (f kv).getD zv) w:=by
 obtain ⟨es,clock,rfl,hes,hlk⟩:=hmp
 have hget:=run_getObj' (P:=P) hw
 have hfind:=hK.find es.toList kv w hes hkp
 have hl:=hlk kv hkp
 rw [← findP_look es.toList kv 0] at hl
 cases hf : findP es.toList kv 0 with
 | none =>
  rw [hf] at hfind hl
  have hl' : f kv = none:=hl.symm
  simp only [Instr.lookup,Sem.run_bind,run_under hT',Result.andThen_ok,hget,Sem.run_pure,hK.chk _ _ _ hkp,hfind,hz,hl']
  rfl
 | some p =>
  obtain ⟨i,u⟩:=p
  rw [hf] at hfind hl
  have hl' : f kv = some u:=hl.symm
  simp only [Instr.lookup,Sem.run_bind,run_under hT',Result.andThen_ok,hget,Sem.run_pure,hK.chk _ _ _ hkp,hfind,hl']
  rfl
def heldM (an : An) (ps : List (Nat × Nat × SV)) (ms : List (Nat × (Obj → Prop))) (w : World) : Prop:=heldS an ps w ∧ ∀ p,p ∈ ms → ∀ b,anB an p.1 = some (some b) → ∃ o,w.heap[b]? = some o ∧ p.2 o
def okM (σ : GH) (an : An) : List (Nat × (Obj → Prop)) → Prop
 | []=>True
 | (g,q) :: r=>gk σ g = some (.pr q) ∧ inA an g = true ∧ okM σ an r
theorem okM_get {σ : GH} {an : An} : ∀ {ms : List (Nat × (Obj → Prop))},okM σ an ms → ∀ p,p ∈ ms → gk σ p.1 = some (.pr p.2) ∧ inA an p.1 = true
 | (g,q) :: r,⟨h1,h2,h3⟩,p,hp=>by
  rcases List.mem_cons.1 hp with rfl | hp
  ·exact ⟨h1,h2⟩
  ·exact okM_get h3 p hp
theorem heldM_inv {an : An} {ps : List (Nat × Nat × SV)} {ms : List (Nat × (Obj → Prop))} {s : S} {β : Bl} {w : World} {a : Act} (ha : X.M.an = an) (h : hOk s.σ an ps) (h2 : okM s.σ an ms) (hi : Inv X s β w a) : heldM an ps ms w:=by
 refine ⟨heldS_inv ha h hi,fun p hp b hb=>?_⟩
 obtain ⟨h3,h4⟩:=okM_get h2 p hp
 have hanc : ∀ p,p ∈ an → β p.1 = p.2:=fun p hp=>(hi.mem.anc p (by rw [ha]; exact hp)).2
 rw [anB_eq hanc p.1 h4] at hb
 obtain ⟨o,h5,h6⟩:=hi.mem.hp p.1 _ b h3 hb
 cases h6 with
 | pr h6=>exact ⟨o,h5,h6⟩
theorem GK.heldAndM {an : An} {ps : List (Nat × Nat × SV)} {ms : List (Nat × (Obj → Prop))} {K : Act → World → Prop} {s : S} (ha : X.M.an = an) (h : hOk s.σ an ps) (h2 : okM s.σ an ms) (k : GK X K s) : GK X (fun a w=>heldM an ps ms w ∧ K a w) s:=fun β w a hi=>⟨heldM_inv ha h h2 hi,k β w a hi⟩
theorem GC.drawM {Q : Exit → Act → World → Prop} {s : S} {l : List Oper} {id : Nat} (sch : List (Nat × Nat)) (gs : List Nat) (ps : List (Nat × Nat × SV)) (ms : List (Nat × (Obj → Prop))) (hm : X.P.follows .mixedOrders = true)
  (hc : (Region.noSelect l.toArray && chkW .any l.toArray (effs sch) (helds sch) sch (Array.replicate l.length false) && Nat.beq sch.length l.length) = true)
  (hQ : ∀ c a a' w,Q (.panic c) a w → a'.defers = a.defers → Q (.panic c) a' w) (hg : allLt s.nx gs = true)
  (h : ∀ β,GW (addA (anOf β gs) X) l.toArray Q (heldM (anOf β gs) ps ms) sch s) : GC X Q (.region id l.toArray true) s :=
 fun β w a hi=>wp_region_WL sch hm hc hQ _ (h β β w.drew a ((⟨hi.mem.drew,hi.env,hi.ds⟩ : Inv X s β w.drew a).addA hg))
theorem GW.heldMc {ops : Array Oper} {Q : Exit → Act → World → Prop} {an : An} {ps : List (Nat × Nat × SV)} {ms : List (Nat × (Obj → Prop))} {i : Nat} {o : Oper} {l : List (Nat × Nat)} {s : S} {t : Nat} {x : Operand} {g off : Nat} {ρ' : Env} {y : SV}
  (ho : ops[i]? = some o) (hw : gdo ops s.ρ o = some true) (hop : o.op = .load t x) (hx : ev s.ρ x = .ptr g off) (hk : (known (X.T t).k && !(X.T t).k.agg) = true) (ha : X.M.an = an) (hps : (g,off,y) ∈ ps) (hok : hOk s.σ an ps) (hok2 : okM s.σ an ms)
  (hin : (allG (inA an) y && inA an g) = true) (hp : putE X.n s.ρ o.dst y = some ρ') (k : GW X ops Q (heldM an ps ms) l ⟨ρ',s.σ,s.nx,s.ds⟩) : GW X ops Q (heldM an ps ms) ((i,3) :: l) s:=by
 intro β w a hi
 have hanc : ∀ p,p ∈ an → β p.1 = p.2:=fun p hp=>(hi.mem.anc p (by rw [ha]; exact hp)).2
 have hS:=heldM_inv ha hok hok2 hi
 simp only [Bool.and_eq_true,Bool.not_eq_true'] at hk hin
 have hxv:=hi.env.ev x
 rw [hx] at hxv
 generalize hav : a.eval x = u at hxv
 cases hxv with
 | ptr hb =>
  rename_i b
  have hb' : anB an g = some (some b):=by rw [anB_eq hanc g hin.2]; exact hb
  obtain ⟨v,hv,hr⟩:=hS.1 _ hps b hb'
  have run : ∀ w',heldM an ps ms w' → (execOp a.eval o).run X.P w' = .ok (.value v) w':=by
   intro w' hS'
   obtain ⟨v',hv',hr'⟩:=hS'.1 _ hps b hb'
   have e : v' = v:=(Rep.one hin.1 hr hr').symm
   subst e
   have h1:=run_isAgg (X:=X) (w:=w') hk.1
   rw [hk.2] at h1
   simp [execOp,hop,hav,Instr.loadAt,Instr.sureAddr,loadVar,h1,run_load,hv']
  refine ⟨o,v,ho,.inl ⟨gdo_wanted hw hi.env,run⟩,hS,k β w _ ⟨hi.mem,hi.env.put hp (hr.agree (fun g hg=>(anB_eq hanc g hg).symm) hin.1),by rw [put_defers]; exact hi.ds⟩⟩
theorem GW.heldLk {ops : Array Oper} {Q : Exit → Act → World → Prop} {an : An} {ps : List (Nat × Nat × SV)} {ms : List (Nat × (Obj → Prop))} {i : Nat} {o : Oper} {l : List (Nat × Nat)} {s : S} {t kt et g : Nat} {m k : Operand} {kv zv : Value} {Kp : Value → Prop} {f : Value → Option Value} {q : Obj → Prop} {ρ' : Env} (xv : Value)
  (ho : ops[i]? = some o) (hw : gdo ops s.ρ o = some true) (hop : o.op = .lookup t m k false) (hT : (X.T t).k = .map kt et) (hK : KeyOK X.P kt Kp) (hm : ev s.ρ m = .mpp g) (hk : ev s.ρ k = .v kv) (ha : X.M.an = an) (hms : (g,q) ∈ ms) (hq : ∀ o,q o → isMap Kp f o) (hkp : Kp kv) (hz : ∀ w,(zeroValue et).run X.P w = .ok zv w) (hf : f kv = some xv)
  (hok : hOk s.σ an ps) (hok2 : okM s.σ an ms) (hp : putE X.n s.ρ o.dst (.v xv) = some ρ') (next : GW X ops Q (heldM an ps ms) l ⟨ρ',s.σ,s.nx,s.ds⟩) : GW X ops Q (heldM an ps ms) ((i,3) :: l) s:=by
 intro β w a hi
 have hanc : ∀ p,p ∈ an → β p.1 = p.2:=fun p hp=>(hi.mem.anc p (by rw [ha]; exact hp)).2
 have hS:=heldM_inv ha hok hok2 hi
 have hT':=tabOK hT rfl
 simp only [TKOK] at hT'
 have e1:=hi.env.ev m
 have e2:=hi.env.ev k
 rw [hm] at e1; rw [hk] at e2
 generalize h1 : a.eval m = v1 at e1
 generalize h2 : a.eval k = v2 at e2
 cases e2
 cases e1 with
 | mpp hb =>
  rename_i b
  have hb' : anB an g = some (some b):=by rw [anB_eq hanc g (okM_get hok2 _ hms).2]; exact hb
  have run : ∀ w',heldM an ps ms w' → (execOp a.eval o).run X.P w' = .ok (.value xv) w':=by
   intro w' hS'
   obtain ⟨ob,ho1,ho2⟩:=hS'.2 _ hms b hb'
   have he : execOp a.eval o = (do pure (.value (← Instr.lookup t (a.eval m) (a.eval k) false))):=by unfold execOp; simp only [hop]
   rw [he,Sem.run_bind,h1,h2,run_lookup hT' hK ho1 (hq ob ho2) hkp hz,hf]
   rfl
  exact ⟨o,xv,ho,.inl ⟨gdo_wanted hw hi.env,run⟩,hS,next β w _ ⟨hi.mem,hi.env.put hp (.v _),by rw [put_defers]; exact hi.ds⟩⟩
theorem GW.delA {an : An} {ops : Array Oper} {Q : Exit → Act → World → Prop} {Sw : World → Prop} {l : List (Nat × Nat)} {s : S} (hX : X.M.an = []) (h : GW X ops Q Sw l s) : GW (addA an X) ops Q Sw l s:=fun β w a hi=>h β w a (hi.delA hX)
end
section
open Go.RowKit
variable {X : Ctx}
theorem OpW.makeV {Q : Exit → Act → World → Prop} {o : Oper} {s : S} {K : Act → World → Prop} {t e : Nat} {x y : Operand} {k1 k2 : IntKind} {v : Value} {l c : Int} {ρ' : Env}
  (ho : o.op = .makeSlice t x y) (hk : (X.T t).k = .slc e) (hke : known (X.T e).k = true) (hx : ev s.ρ x = .v (.int k1 l)) (hy : ev s.ρ y = .v (.int k2 c)) (h0 : 0 ≤ l) (hlc : l ≤ c) (hc : c < 9223372036854775808) (hb : (X.T e).bytes * c ≤ 281474976710656)
  (hp : putE X.n s.ρ o.dst (.slc s.nx 0 l.toNat c.toNat) = some ρ') (hs1 : (X.T e).size = 1) (hz : (X.T e).zero = [(1,v)])
  (next : GK X K ⟨ρ',upG s.σ s.nx (.row ⟨.vals fun _=>v,c.toNat,e⟩),s.nx + 1,s.ds⟩) : OpW X Q o s K:=by
 refine OpW.make ho hk hke hx hy h0 hlc hc hb hp (by rw [hs1]; exact Nat.one_pos) fun β w a hi=>?_
 refine next β w a ⟨?_,hi.env,hi.ds⟩
 have hm:=hi.mem
 refine hm.conv (by show _ = c.toNat * _; rw [hs1,Nat.mul_one]) rfl fun i _=>.inr ?_
 show SV.v v = SV.v (rle (X.T e).zero (i % (X.T e).size))
 rw [hs1,hz,Nat.mod_one]; rfl
theorem Inv.fz0 {s : S} {β : Bl} {w : World} {a : Act} (h : Inv X s β w a) : ∃ β',Inv X ⟨s.ρ,upG s.σ s.nx (.fz fun _=>none),s.nx + 1,s.ds⟩ β' w a:=by
 obtain ⟨hm,hx⟩:=h.mem.addNil (.fz fun _=>none) (fun F hF b=>by cases hF; rfl)
 exact ⟨_,hm,⟨h.env.size,fun j=>(h.env.get j).mono hx⟩,h.ds.mono hx⟩
theorem GC.fz0 {Q : Exit → Act → World → Prop} {cc : Code} {s : S} (h : GC X Q cc ⟨s.ρ,upG s.σ s.nx (.fz fun _=>none),s.nx + 1,s.ds⟩) : GC X Q cc s:=fun β w a hi=>by
 obtain ⟨β',h'⟩:=hi.fz0
 exact h β' w a h'
end
section
open Go.RowKit
section
variable {P : Program} {ops : Array Oper} {Q : Exit → Act → World → Prop} {md : Region.Mode} {E H : List Nat} {Sw : World → Prop}
def Qb (Q : Exit → Act → World → Prop) (K : Act → World → Prop) : Exit → Act → World → Prop
 | .normal=>K
 | e=>Q e
def chkTg (H : List Nat) : Nat × Nat → Bool
 | (i,2)=>!(memN i H)
 | (_,_ + 4)=>true
 | _=>false
def chkB (md : Region.Mode) (ops : Array Oper) (E H : List Nat) (t1 t2 : Nat × Nat) (l1 l2 : List (Nat × Nat)) : List (Nat × Nat) → Array Bool → Bool
 | [],listed=>(match Region.ready md ops listed with | [x,y]=>(Nat.beq x t1.1 && Nat.beq y t2.1) || (Nat.beq x t2.1 && Nat.beq y t1.1) | _=>false) && memN t1.1 E && memN t2.1 E && chkTg H t1 && chkTg H t2 && chkW md ops E H l1 (listed.setIfInBounds t1.1 true) && chkW md ops E H l2 (listed.setIfInBounds t2.1 true)
 | (i,0) :: r,listed=>(Region.ready md ops listed).contains i && Region.free md ops listed i && !(memN i E) && chkB md ops E H t1 t2 l1 l2 r (listed.setIfInBounds i true)
 | (i,3) :: r,listed =>
  (Region.ready md ops listed).contains i && Region.free md ops listed i && !(memN i E) &&
   (let D:=waits md ops i (List.range ops.size) []
    D.all (fun j=>(match ops[j]? with | some o=>o.after.any (fun e=>Region.binds md e && (Nat.beq e.on i || memN e.on D)) | none=>false) && !(listed.getD j false)) &&
    E.all (fun e=>listed.getD e true || memN e D || memN e H)) && chkB md ops E H t1 t2 l1 l2 r (listed.setIfInBounds i true)
 | _,_=>false
theorem WL_head {t : Nat × Nat} {l : List (Nat × Nat)} {a : Act} {w : World} (ht : chkTg H t = true) (h : WL P ops Q Sw (t :: l) a w) : wpOp P ops Q t.1 (fun a' w'=>(t.1 ∈ H → Sw w') ∧ WL P ops Q Sw l a' w') a w:=by
 obtain ⟨i,t⟩:=t
 match t,ht,h with
 | 2,ht,h =>
  refine wpOp_mono (fun a w hh=>⟨fun hm=>?_,hh⟩) h
  have:=(memN_iff _ _).2 hm
  simp [chkTg,this] at ht
 | n + 4,_,h=>exact wpOp_mono (fun a w hh=>⟨fun _=>hh.1,hh.2⟩) h
 | 0,ht,_=>simp [chkTg] at ht
 | 1,ht,_=>simp [chkTg] at ht
 | 3,ht,_=>simp [chkTg] at ht
theorem wpAnyM_WB (hs : Region.noSelect ops = true) (hQ : ∀ c a a' w,Q (.panic c) a w → a'.defers = a.defers → Q (.panic c) a' w) (t1 t2 : Nat × Nat) (l1 l2 : List (Nat × Nat)) (hl : l1.length = l2.length) :
  ∀ (l : List (Nat × Nat)) (listed : Array Bool) (a : Act) (w : World),chkB md ops E H t1 t2 l1 l2 l listed = true → WL P ops (Qb Q fun a w=>WL P ops Q Sw (t1 :: l1) a w ∧ WL P ops Q Sw (t2 :: l2) a w) Sw l a w →
  wpAnyM P md ops Q Sw E H (l.length + (l1.length + 1)) listed a w
 | [],listed,a,w,hc,h=>by
  simp only [chkB,Bool.and_eq_true] at hc
  obtain ⟨⟨⟨⟨⟨⟨h1,h2⟩,h3⟩,h4⟩,h5⟩,h6⟩,h7⟩:=hc
  obtain ⟨k1,k2⟩ : WL P ops Q Sw (t1 :: l1) a w ∧ WL P ops Q Sw (t2 :: l2) a w:=h
  rw [List.length_nil,Nat.zero_add]
  have hr : Region.ready md ops listed = [t1.1,t2.1] ∨ Region.ready md ops listed = [t2.1,t1.1]:=by
   split at h1
   ·rename_i x y hxy
    simp only [Bool.or_eq_true,Bool.and_eq_true] at h1
    rcases h1 with ⟨e1,e2⟩ | ⟨e1,e2⟩
    ·left; rw [hxy,Nat.eq_of_beq_eq_true e1,Nat.eq_of_beq_eq_true e2]
    ·right; rw [hxy,Nat.eq_of_beq_eq_true e1,Nat.eq_of_beq_eq_true e2]
   ·cases h1
  refine ⟨fun h0=>(by rcases hr with hr | hr <;> rw [hr] at h0 <;> cases h0),fun k hk=>?_⟩
  have hk' : k = t1.1 ∨ k = t2.1:=by
   rcases hr with hr | hr <;> rw [hr] at hk <;> simp only [List.mem_cons,List.not_mem_nil,or_false] at hk
   ·exact hk
   ·exact hk.symm
  rcases hk' with rfl | rfl
  ·exact ⟨fun _=>wpOp_mono (fun a w hh=>⟨hh.1,wpAnyM_WL hs hQ l1 _ a w h6 hh.2⟩) (WL_head h4 k1),fun hn=>absurd ((memN_iff _ _).1 h2) hn⟩
  ·rw [hl]
   exact ⟨fun _=>wpOp_mono (fun a w hh=>⟨hh.1,wpAnyM_WL hs hQ l2 _ a w h7 hh.2⟩) (WL_head h5 k2),fun hn=>absurd ((memN_iff _ _).1 h3) hn⟩
 | (i,0) :: r,listed,a,w,hc,h=>by
  simp only [chkB,Bool.and_eq_true,Bool.not_eq_true'] at hc
  obtain ⟨⟨⟨h1,h2⟩,h3⟩,h4⟩:=hc
  obtain ⟨o,v,ho,hy,hk⟩:=h
  have:=wpAnyM_WB hs hQ t1 t2 l1 l2 hl r _ _ _ h4 hk
  rw [List.length_cons,Nat.add_right_comm]
  exact wpAnyM_first [] ho (fun hm=>by have hh:=(memN_iff _ _).2 hm; rw [hh] at h3; cases h3) (Region.noSelect_spec hs) (fun c a w hp=>hQ c _ _ _ hp (by rw [put_defers])) (fun j hj=>by cases hj) _ listed a w (Region.free_spec ho h2) (by simpa using h1) (fun j hj=>by cases hj) (.inl hy) this
 | (i,3) :: r,listed,a,w,hc,h=>by
  simp only [chkB,Bool.and_eq_true,Bool.not_eq_true'] at hc
  obtain ⟨⟨⟨⟨h1,h2⟩,h3⟩,h5,h6⟩,h4⟩:=hc
  obtain ⟨o,v,ho,hy,hsw,hk⟩:=h
  have:=wpAnyM_WB hs hQ t1 t2 l1 l2 hl r _ _ _ h4 hk
  rw [List.length_cons,Nat.add_right_comm]
  rw [List.all_eq_true] at h5 h6
  refine wpAnyM_first (waits md ops i (List.range ops.size) []) ho (fun hm=>by have hh:=(memN_iff _ _).2 hm; rw [hh] at h3; cases h3) (Region.noSelect_spec hs) (fun c a w hp=>hQ c _ _ _ hp (by rw [put_defers])) (fun j hj=>?_) _ listed a w (Region.free_spec ho h2) (by simpa using h1) (fun j hj=>?_) (.inr (.inr ⟨hy,hsw,fun e he hun=>?_⟩)) this
  ·have:=h5 j hj
   simp only [Bool.and_eq_true] at this
   have h7:=this.1
   split at h7
   ·rename_i oj hoj
    obtain ⟨e,he,hb⟩:=Array.any_eq_true'.1 h7
    simp only [Bool.and_eq_true,Bool.or_eq_true] at hb
    refine ⟨oj,hoj,e,he,hb.1,?_⟩
    rcases hb.2 with hb | hb
    ·exact .inl (Nat.eq_of_beq_eq_true hb)
    ·exact .inr ((memN_iff _ _).1 hb)
   ·cases h7
  ·have:=h5 j hj
   simp only [Bool.and_eq_true,Bool.not_eq_true'] at this
   exact this.2
  ·have:=h6 e he
   simp only [Bool.or_eq_true] at this
   rcases this with (hh | hh) | hh
   ·exact absurd (hh.symm.trans hun) (by simp)
   ·exact .inl ((memN_iff _ _).1 hh)
   ·exact .inr ((memN_iff _ _).1 hh)
 | (i,1) :: r,listed,a,w,hc,h=>by simp only [chkB] at hc; cases hc
 | (i,2) :: r,listed,a,w,hc,h=>by simp only [chkB] at hc; cases hc
 | (i,n + 4) :: r,listed,a,w,hc,h=>by simp only [chkB] at hc; cases hc
end
variable {X : Ctx}
theorem GC.draw2 {Q : Exit → Act → World → Prop} {s : S} {l : List Oper} {id : Nat} (pre : List (Nat × Nat)) (t1 t2 : Nat × Nat) (l1 l2 : List (Nat × Nat)) (E H : List Nat) (gs : List Nat) (ps : List (Nat × Nat × SV)) (hm : X.P.follows .mixedOrders = true)
  (hc : (Region.noSelect l.toArray && chkB .any l.toArray E H t1 t2 l1 l2 pre (Array.replicate l.length false) && Nat.beq l1.length l2.length && Nat.beq (pre.length + (l1.length + 1)) l.length) = true)
  (hQ : ∀ c a a' w,Q (.panic c) a w → a'.defers = a.defers → Q (.panic c) a' w) (hg : allLt s.nx gs = true)
  (h : ∀ β,GW (addA (anOf β gs) X) l.toArray (Qb Q fun a w=>WL X.P l.toArray Q (heldS (anOf β gs) ps) (t1 :: l1) a w ∧ WL X.P l.toArray Q (heldS (anOf β gs) ps) (t2 :: l2) a w) (heldS (anOf β gs) ps) pre s) : GC X Q (.region id l.toArray true) s:=by
 intro β w a hi
 have h1:=h β β w.drew a ((⟨hi.mem.drew,hi.env,hi.ds⟩ : Inv X s β w.drew a).addA hg)
 simp only [Bool.and_eq_true] at hc
 refine wp_region_any hm (wpAny_of_M (E:=E) (H:=H) (Sw:=heldS (anOf β gs) ps) _ _ _ _ ?_)
 have:=wpAnyM_WB (md:=.any) (E:=E) (H:=H) (Sw:=heldS (anOf β gs) ps) hc.1.1.1 hQ t1 t2 l1 l2 (Nat.eq_of_beq_eq_true hc.1.2) pre _ a w.drew (by simpa using hc.1.1.2) h1
 rw [Nat.eq_of_beq_eq_true hc.2] at this
 rw [List.size_toArray]
 exact this
theorem GK.both {Q : Exit → Act → World → Prop} {ops : Array Oper} {Sw : World → Prop} {s : S} {m1 m2 : List (Nat × Nat)} (h1 : GW X ops Q Sw m1 s) (h2 : GW X ops Q Sw m2 s) : GK X (Qb Q (fun a w=>WL X.P ops Q Sw m1 a w ∧ WL X.P ops Q Sw m2 a w) .normal) s :=
 fun β w a hi=>⟨h1 β w a hi,h2 β w a hi⟩
end
section
open Go.RowKit
variable {X : Ctx}
theorem LStep.atA {s : S} {o : Oper} {t : Nat} {x : Operand} {g off : Nat} {r : Row} {vs : List Value} (ho : o.op = .load t x) (hx : ev s.ρ x = .ptr g off) (hk : known (X.T t).k = true) (ha : (X.T t).k.agg = true) (hl : vs.length = (X.T t).size)
  (hg : gk s.σ g = some (.row r)) (hv : ∀ j v,vs[j]? = some v → off + j < r.n ∧ r.f (off + j) = .v v) : LStep X o s (.agg (vs.map .v)):=by
 intro β w a hi
 have h:=hi.env.ev x
 rw [hx] at h
 generalize hav : a.eval x = u at h
 cases h with
 | ptr hb =>
 rename_i b
 have hw : ∀ j v,vs[j]? = some v → w.cell? ⟨b,off + j,none⟩ = some v:=by
  intro j v hj
  obtain ⟨h1,h2⟩:=hv j v hj
  obtain ⟨u,hc,_,hr,_⟩:=hi.mem.cell hg hb h1
  rw [h2] at hr
  cases hr
  exact hc
 have h1:=run_isAgg (X:=X) (w:=w) hk
 rw [ha] at h1
 have h2:=run_size (X:=X) (w:=w) hk
 have key : ∀ (l : List Value) (i : Nat) (acc : Array Value),(∀ j v,l[j]? = some v → w.cell? ⟨b,off + i + j,none⟩ = some v) → (loadCellsFrom ⟨b,off,none⟩ i l.length acc).run X.P w = .ok (acc ++ l.toArray) w:=by
  intro l
  induction l with
  | nil=>intro i acc _; simp [loadCellsFrom]
  | cons y r ih =>
   intro i acc hh
   have h0:=hh 0 y rfl
   rw [Nat.add_zero] at h0
   have e : (load ((⟨b,off,none⟩ : Addr).add i)).run X.P w = .ok y w:=by simp [run_load,addr_add,h0]
   simp only [List.length_cons,loadCellsFrom,Sem.run_bind,e,Result.andThen_ok]
   rw [ih (i + 1) _ (fun j v hj=>by have:=hh (j + 1) v (by simpa using hj); rw [← this]; congr 2; omega)]
   simp
 refine ⟨.agg vs.toArray,?_,.agg ?_⟩
 ·have hr:=key vs 0 #[] (fun j v hj=>by rw [Nat.add_zero]; exact hw j v hj)
  rw [hl] at hr
  simp only [execOp,ho,hav,Instr.loadAt,Instr.sureAddr,loadVar,Sem.run_bind,Sem.run_pure,Result.andThen_ok,h1,h2,if_true,loadCells,hr]
  simp
 ·clear hl hv hw key
  induction vs with
  | nil=>exact .nil
  | cons y r ih=>exact .cons (.v _) ih
end
section
open Go.RowKit
variable {X : Ctx}
theorem GW.spl {ops : Array Oper} {Q : Exit → Act → World → Prop} {Sw : World → Prop} {l : List (Nat × Nat)} {s s1 s2 : S} (t : Nat) {b : Bool} (ht : lk s.ρ t = .v (.bool b)) (hf1 : forceS ⟨up s.ρ t (.v (.bool true)),s.σ,s.nx,s.ds⟩ = some s1) (hf2 : forceS ⟨up s.ρ t (.v (.bool false)),s.σ,s.nx,s.ds⟩ = some s2)
  (h1 : b = true → GW X ops Q Sw l s1) (h2 : b = false → GW X ops Q Sw l s2) : GW X ops Q Sw l s:=by
 rw [forceS_eq] at hf1 hf2
 obtain rfl:=Option.some.inj hf1
 obtain rfl:=Option.some.inj hf2
 exact GW.split t ht h1 h2
theorem Inv.freezeS {s : S} {β : Bl} {w : World} {a : Act} (hi : Inv X s β w a) {t g z o l c : Nat} {r : Row} {F : Nat → Option Obj} (ht : lk s.ρ t = .slc g o l c) (hc0 : 0 < c) (hg : gk s.σ g = some (.row r)) (hz : gk s.σ z = some (.fz F)) (hk : X.M.k ≤ g) (hna : notAn g X.M.an = true) :
  ∃ b F' β',Frz F F' b g r ∧ Inv X ⟨sbE g (some b) s.ρ,upG (sbG g (some b) s.σ) z (.fz F'),s.nx,sbDs g (some b) s.ds⟩ β' w a:=by
 have hr:=hi.env.get t
 rw [ht] at hr
 generalize hvt : a.tmps.getD t undef = vt at hr
 cases hr with
 | slcN hb=>omega
 | slc hb =>
  rename_i b
  have hfb : ∀ b' ob,F b' = some ob → b' ≠ b:=fun b' ob h e=>(hi.mem.fz z F hz b' ob h).2.1 g (by rw [hb,e])
  obtain ⟨ob,o',β',h1,h2⟩:=Inv.freeze (ρ:=s.ρ) (σ:=s.σ) (nx:=s.nx) (ds:=s.ds) hi hg hz hk hna ⟨_,hb⟩
  have hob : ob = some b:=by
   have h3:=h2.env.get t
   rw [lk_sbE,ht,hvt] at h3
   simp only [sb,if_true] at h3
   cases ob with
   | none=>cases h3
   | some c=>cases h3; rfl
  ·subst hob
   obtain ⟨cs,fr,rfl,hcs,hc⟩:=h1 b rfl
   refine ⟨b,_,β',⟨fun i v hi' hv=>?_,fun b' i v hv=>?_⟩,h2⟩
   ·obtain ⟨u,hu,_,hr⟩:=hc i hi'
    rw [hv] at hr
    cases hr
    simp only [fzAt,upZ,upF,if_true]
    exact hu
   ·have hne : b' ≠ b:=by
     unfold fzAt at hv
     split at hv
     ·rename_i h; exact hfb _ _ h
     ·cases hv
    refine ⟨hne,?_⟩
    unfold fzAt at hv ⊢
    simp only [upZ,upF,if_neg hne]
    exact hv
theorem GC.freezeS {Q : Exit → Act → World → Prop} {cc : Code} {s : S} (t g z : Nat) {o l c : Nat} {r : Row} {F : Nat → Option Obj} (ht : lk s.ρ t = .slc g o l c) (hc0 : 0 < c) (hg : gk s.σ g = some (.row r)) (hz : gk s.σ z = some (.fz F)) (hk : Nat.ble X.M.k g = true) (hna : notAn g X.M.an = true)
  (h : ∀ b F',Frz F F' b g r → GC X Q cc ⟨sbE g (some b) s.ρ,upG (sbG g (some b) s.σ) z (.fz F'),s.nx,sbDs g (some b) s.ds⟩) : GC X Q cc s:=fun β w a hi=>by
 obtain ⟨b,F',β',h1,h2⟩:=hi.freezeS ht hc0 hg hz (Nat.le_of_ble_eq_true hk) hna
 exact h b F' h1 β' w a h2
theorem Inv.fromV {s : S} {β : Bl} {w : World} {a : Act} (hi : Inv X s β w a) {t : Nat} {vs : List Value} (ht : lk s.ρ t = .v (.agg vs.toArray)) : Inv X ⟨up s.ρ t (.agg (vs.map .v)),s.σ,s.nx,s.ds⟩ β w a:=by
 refine ⟨hi.mem,⟨hi.env.size,fun i=>?_⟩,hi.ds⟩
 rw [lk_up]
 by_cases e : i = t
 ·subst e
  rw [beqT]
  have h:=hi.env.get i
  rw [ht] at h
  generalize a.tmps.getD i undef = v at h
  cases h
  refine .agg ?_
  clear ht
  induction vs with
  | nil=>exact .nil
  | cons x r ih=>exact .cons (.v _) ih
 ·rw [beqF e]; exact hi.env.get i
theorem GL.fromV {ops : Array Oper} {Q : Exit → Act → World → Prop} {l : List Oper} {s s' : S} (t : Nat) (vs : List Value) (ht : lk s.ρ t = .v (.agg vs.toArray)) (hf : forceS ⟨up s.ρ t (.agg (vs.map .v)),s.σ,s.nx,s.ds⟩ = some s') (h : GL X ops Q l s') : GL X ops Q l s:=fun β w a hi=>by
 rw [forceS_eq] at hf
 obtain rfl:=Option.some.inj hf
 exact h β w a (hi.fromV ht)
end
section
open Go.RowKit
variable {X : Ctx}
theorem rS {Q : Exit → Act → World → Prop} {d : Code} {s : S} {l : List Oper} {id : Nat} (ks : List Nat) {s' s'' : S} {c' : Prop} (n : GC X Q d s'')
  (h : runS X.T X.n l.toArray 99 l s True = ([],s',c'):=by exact rfl) (hs : forceS (keepS ks s') = some s'':=by exact rfl) (hc : c':=by (repeat' first | exact trivial | refine And.intro ?_ ?_) <;> (try simp only [Int.reduceToNat,IntKind.bits,Nat.reduceLeDiff,Nat.min_eq_left,Int.reducePow,InI64,InI32]) <;> first | omega | (simp only [w64,w32,w8,ByteArray.size_append,ByteArray.size,List.size_toArray,List.append_eq,List.length_append,List.length_cons,List.length_nil,Nat.reduceAdd] at *; omega)) : GC X Q (.seq (.region id l.toArray false) d) s :=
 GC.regS 99 ks h hs hc n
theorem rG {Q : Exit → Act → World → Prop} {s : S} {l : List Oper} {id : Nat} (ks : List Nat) {s' s'' : S} {c' : Prop} (n : GK X (Q .normal) s'')
  (h : runS X.T X.n l.toArray 99 l s True = ([],s',c'):=by exact rfl) (hs : forceS (keepS ks s') = some s'':=by exact rfl) (hc : c':=by (repeat' first | exact trivial | refine And.intro ?_ ?_) <;> (try simp only [Int.reduceToNat,IntKind.bits,Nat.reduceLeDiff,Nat.min_eq_left,Int.reducePow,InI64,InI32]) <;> first | omega | (simp only [w64,w32,w8,ByteArray.size_append,ByteArray.size,List.size_toArray,List.append_eq,List.length_append,List.length_cons,List.length_nil,Nat.reduceAdd] at *; omega)) : GC X Q (.region id l.toArray false) s :=
 GC.reg 99 ks h hs hc n
theorem lK {ops : Array Oper} {Q : Exit → Act → World → Prop} (k : Nat) (ks : List Nat) {l : List Oper} {s : S} {l' : List Oper} {s' s'' : S} {c' : Prop} (n : GL X ops Q l' s'')
  (h : runS X.T X.n ops k l s True = (l',s',c'):=by exact rfl) (hs : forceS (keepS ks s') = some s'':=by exact rfl) (hc : c':=by (repeat' first | exact trivial | refine And.intro ?_ ?_) <;> (try simp only [Int.reduceToNat,IntKind.bits,Nat.reduceLeDiff,Nat.min_eq_left,Int.reducePow,InI64,InI32]) <;> first | omega | (simp only [w64,w32,w8,ByteArray.size_append,ByteArray.size,List.size_toArray,List.append_eq,List.length_append,List.length_cons,List.length_nil,Nat.reduceAdd] at *; omega)) : GL X ops Q l s :=
 GL.runK k ks h hs hc n
theorem lF {ops : Array Oper} {Q : Exit → Act → World → Prop} (ks : List Nat) {l : List Oper} {s : S} {s' s'' : S} {c' : Prop} (n : GK X (Q .normal) s'')
  (h : runS X.T X.n ops 99 l s True = ([],s',c'):=by exact rfl) (hs : forceS (keepS ks s') = some s'':=by exact rfl) (hc : c':=by (repeat' first | exact trivial | refine And.intro ?_ ?_) <;> (try simp only [Int.reduceToNat,IntKind.bits,Nat.reduceLeDiff,Nat.min_eq_left,Int.reducePow,InI64,InI32]) <;> first | omega | (simp only [w64,w32,w8,ByteArray.size_append,ByteArray.size,List.size_toArray,List.append_eq,List.length_append,List.length_cons,List.length_nil,Nat.reduceAdd] at *; omega)) : GL X ops Q l s :=
 GL.fin 99 ks h hs hc n
theorem wK {ops : Array Oper} {Q : Exit → Act → World → Prop} {Sw : World → Prop} (k : Nat) (ks : List Nat) {l : List (Nat × Nat)} {s : S} {l' : List (Nat × Nat)} {s' s'' : S} {c' : Prop} (n : GW X ops Q Sw l' s'')
  (h : runW X.T X.n ops k l s True = (l',s',c'):=by exact rfl) (hs : forceS (keepS ks s') = some s'':=by exact rfl) (hc : c':=by (repeat' first | exact trivial | refine And.intro ?_ ?_) <;> (try simp only [Int.reduceToNat,IntKind.bits,Nat.reduceLeDiff,Nat.min_eq_left,Int.reducePow,InI64,InI32]) <;> first | omega | (simp only [w64,w32,w8,ByteArray.size_append,ByteArray.size,List.size_toArray,List.append_eq,List.length_append,List.length_cons,List.length_nil,Nat.reduceAdd] at *; omega)) : GW X ops Q Sw l s :=
 GW.runK k ks h hs hc n
theorem wF {ops : Array Oper} {Q : Exit → Act → World → Prop} {Sw : World → Prop} (ks : List Nat) {l : List (Nat × Nat)} {s : S} {s' s'' : S} {c' : Prop} (n : GK X (Q .normal) s'')
  (h : runW X.T X.n ops 99 l s True = ([],s',c'):=by exact rfl) (hs : forceS (keepS ks s') = some s'':=by exact rfl) (hc : c':=by (repeat' first | exact trivial | refine And.intro ?_ ?_) <;> (try simp only [Int.reduceToNat,IntKind.bits,Nat.reduceLeDiff,Nat.min_eq_left,Int.reducePow,InI64,InI32]) <;> first | omega | (simp only [w64,w32,w8,ByteArray.size_append,ByteArray.size,List.size_toArray,List.append_eq,List.length_append,List.length_cons,List.length_nil,Nat.reduceAdd] at *; omega)) : GW X ops Q Sw l s :=
 GW.fin 99 ks h hs hc n
theorem fR {fn : Func} {ι : Type} {I : ι → Prop} {post : ι → Post} {s : S} {e : Exit} (he : e = .ret ∨ e = .normal) {c : Prop} {r : SV} (hr : resV X.T s fn.results.toList = some (c,r)) (hc : c) (i : ι) (ml : List Nat)
  (hchk : (chkN X.M.k (post i).nx ml && X.M.an.isEmpty) = true) (hds : s.ds = []) (hx : r = ren (mo ml s.nx) (post i).x) (hg : getG (mo ml s.nx) s.σ (post i).σ = renGL (mo ml s.nx) (post i).σ) (hI : I i) : GK X (bodyPost X.P fn (FPost X.M I post) e) s:=GK.finR he hr hc i ml hchk hds hx hg hI
theorem fD {fn : Func} {ι : Type} {I : ι → Prop} {post : ι → Post} {s : S} {e : Exit} (he : e = .ret ∨ e = .normal) {c : Prop} {r : SV} (hr : resV X.T s fn.results.toList = some (c,r)) (hc : c) (i : ι) (ml : List Nat)
  (hchk : (chkN X.M.k (post i).nx ml && X.M.an.isEmpty) = true) (hds : s.ds = []) (hx : r = ren (mo ml s.nx) (post i).x) (hg : getG (mo ml s.nx) s.σ (post i).σ = renGL (mo ml s.nx) (post i).σ) (hI : I i) : GK X (bodyPostE X.P fn (FPost X.M I post) e) s:=GK.finRD he hr hc i ml hchk hds hx hg hI
theorem cR {Q : Exit → Act → World → Prop} {o : Oper} {K : Act → World → Prop} {s : S} {f : Nat} {as : Array Operand} {ats : Array TypeId} {args : List SV} {σc : GH} {k k2 : Nat} {ι : Type} {I : ι → Prop} {post : ι → Post}
  (ho : o.op = .call { callee:=.value (.func f),args:=as,argTypes:=ats }) (hF : FunC X.P X.M.μ f args σc k k2 I post) (ml : List Nat)
  (hput : putOk X.n o.dst = true) (hc : chkC X.M s.ds k k2 s.nx ml = true) (hx : evs s.ρ as.toList = renL (mo ml s.nx) args) (hgh : getG (mo ml s.nx) s.σ σc = renGL (mo ml s.nx) σc)
  (next : ∀ i,I i → GK X K (aftS s ml k k2 ((putE X.n (frgE (ml.drop k) s.ρ) o.dst (ren (mo ml s.nx) (post i).x)).getD []) (post i))) : OpW X Q o s K :=
 OpW.callR ho hF ml hput hc hx hgh fun i hi ρ' hp=>by have h:=next i hi; rw [hp] at h; exact h
theorem iR {Q : Exit → Act → World → Prop} {o : Oper} {K : Act → World → Prop} {s : S} {f t : Nat} {name : String} {recv : Operand} {y : SV} {as : Array Operand} {ats : Array TypeId} {args : List SV} {σc : GH} {k k2 : Nat} {ι : Type} {I : ι → Prop} {post : ι → Post}
  (ho : o.op = .call { callee:=.invoke recv name,args:=as,argTypes:=ats }) (hy : ev s.ρ recv = .ifc t y) (hme : IsMeth X.P t name f) (hF : FunC X.P X.M.μ f args σc k k2 I post) (ml : List Nat)
  (hput : putOk X.n o.dst = true) (hc : chkC X.M s.ds k k2 s.nx ml = true) (hx : y :: evs s.ρ as.toList = renL (mo ml s.nx) args) (hgh : getG (mo ml s.nx) s.σ σc = renGL (mo ml s.nx) σc)
  (next : ∀ i,I i → GK X K (aftS s ml k k2 ((putE X.n (frgE (ml.drop k) s.ρ) o.dst (ren (mo ml s.nx) (post i).x)).getD []) (post i))) : OpW X Q o s K :=
 OpW.invokeR ho hy hme hF ml hput hc hx hgh fun i hi ρ' hp=>by have h:=next i hi; rw [hp] at h; exact h
theorem gF (ks : List Nat) {ops : Array Oper} {Q : Exit → Act → World → Prop} {l : List Oper} {s s' : S} (hf : forceS (keepS ks s) = some s') (h : GL X ops Q l s') : GK X (wpList X.P ops Q l) s:=GK.list (GL.force ks hf h)
theorem wL (ks : List Nat) {ops : Array Oper} {Q : Exit → Act → World → Prop} {Sw : World → Prop} {l : List (Nat × Nat)} {s s' : S} (hf : forceS (keepS ks s) = some s') (h : GW X ops Q Sw l s') : GK X (WL X.P ops Q Sw l) s:=GK.wl (GW.force ks hf h)
theorem cF (ks : List Nat) {Q : Exit → Act → World → Prop} {c : Code} {s s' : S} (h : GC X Q c s') (hf : forceS (keepS ks s) = some s':=by exact rfl) : GC X Q c s:=GC.force ks hf h
end
end Go.Proofs.YtebadfmnmhmfeaaGreatDoor.Sx
