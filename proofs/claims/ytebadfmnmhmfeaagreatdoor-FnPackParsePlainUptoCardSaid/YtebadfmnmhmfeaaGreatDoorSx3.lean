/- Rules for walking a function of the program with symbolic values; nothing is assumed of the program. -/
import Derived.Test.YtebadfmnmhmfeaaGreatDoorSx2
import Derived.Laws.BytesString
import Derived.Lib.ConvBytes
import Derived.Defers
namespace Go.Proofs.YtebadfmnmhmfeaaGreatDoor.Sx
set_option maxRecDepth 20000
set_option linter.unusedSimpArgs false
set_option linter.unusedVariables false
set_option linter.unnecessarySimpa false
set_option linter.unusedSectionVars false
section
open Go.RowKit
variable {X : Ctx}
def baL (ns : List Int) : ByteArray:=ns.foldl (fun r n=>r.push (UInt8.ofNat n.toNat)) ByteArray.empty
def rowI (k : IntKind) (N : Nat → Int) : Nat → Nat → List Value
 | _,0=>[]
 | j,m + 1=>.int k (N j) :: rowI k N (j + 1) m
def rowN (N : Nat → Int) : Nat → Nat → List Int
 | _,0=>[]
 | j,m + 1=>N j :: rowN N (j + 1) m
theorem rowI_eq (k : IntKind) (N : Nat → Int) : ∀ (m j : Nat),rowI k N j m = (rowN N j m).map (Value.int k)
 | 0,j=>rfl
 | m + 1,j=>by simp only [rowI,rowN,List.map_cons,rowI_eq k N m (j + 1)]
theorem reps_ints {β : Bl} {k : IntKind} {N : Nat → Int} : ∀ (m j : Nat) {news : List Value},Reps β (aggF (fun j=>.v (.int k (N j))) j m) news → news = rowI k N j m
 | 0,j,_,.nil=>rfl
 | m + 1,j,_,.cons h t=>by cases h; rw [rowI,reps_ints m (j + 1) t]
theorem LStep.str {s : S} {o : Oper} {t1 t2 e : Nat} {x : Operand} {n : Nat} {N : Nat → Int} (ho : o.op = .convert t1 t2 x) (h1 : (X.T t1).k = .slc e) (h2 : (X.T e).k = .int .u8) (h3 : (X.T t2).k = .str)
  (hsl : ∀ β w a,Inv X s β w a → ∃ b l c,a.eval x = .slice b l c) (hsrc : ∀ β w a,Inv X s β w a → Src X 1 n (fun j=>.v (.int .u8 (N j))) β w (a.eval x)) : LStep X o s (.v (.string (baL (rowN N 0 n)))):=by
 intro β w a hi
 obtain ⟨b,l,c,hv⟩:=hsl β w a hi
 obtain ⟨hl,news,hf,_,hr,_⟩:=(hsrc β w a hi).all
 have T1:=tabOK h1 rfl
 have T2:=tabOK h2 rfl
 have T3:=tabOK h3 rfl
 simp only [TKOK] at T1 T2 T3
 refine ⟨_,?_,.v _⟩
 have he : execOp a.eval o = (do pure (.value (← convert t1 t2 (a.eval x)))):=by unfold execOp; simp only [ho]
 rw [he,Sem.run_bind,hv,run_convert_bytes_string w t1 t2 e b l c T1 T2 T3]
 rw [hv] at hl hf
 have hln : l = n:=by
  simp only [Builtin.lenOf,Sem.run_pure,Result.ok.injEq,and_true] at hl
  exact hl
 subst hln
 rw [reps_ints _ _ hr,rowI_eq,Nat.mul_one] at hf
 cases b with
 | some ad =>
  simp only [Builtin.firstCells,Nat.mul_one] at hf
  rw [run_bytesToString w ad l c _ hf]
  rfl
 | none =>
  simp only [Builtin.firstCells,Sem.run_pure,Result.ok.injEq,and_true] at hf
  have hl0 : rowN N 0 l = []:=by
   have : ((rowN N 0 l).map (Value.int .u8)).length = 0:=by
    have:=congrArg Array.size hf
    simpa using this.symm
   simpa using this
  rw [hl0]
  rfl
theorem slc_slice {s : S} {x : Operand} {g off n cap : Nat} (hx : ev s.ρ x = .slc g off n cap) : ∀ β w a,Inv X s β w a → ∃ b l c,a.eval x = .slice b l c:=by
 intro β w a hi
 have h:=hi.env.ev x
 rw [hx] at h
 generalize a.eval x = v at h
 cases h
 ·exact ⟨_,_,_,rfl⟩
 ·exact ⟨_,_,_,rfl⟩
theorem Mem.allocF {M : MC} {w : World} {σ : GH} {nx : Nat} {β : Bl} (h : Mem M σ nx β w) {go : GO} {o : Obj} (ho : RepG (upB β nx w.heap.size) go o) (w' : World)
  (hh : w'.heap = w.heap.push o) (h1 : w'.os = w.os) (h2 : w'.tape = w.tape) (h3 : w'.output = w.output) : Mem M (upG σ nx go) (nx + 1) (upB β nx w.heap.size) w':=by
 obtain ⟨hm,_⟩:=h.alloc ho
 have e : (w.alloc o).heap = w'.heap:=hh.symm
 refine ⟨?_,hm.inj,?_,hm.nx,?_,hm.imb,?_,?_,?_,?_,?_,hm.kn,hm.base,hm.dom,hm.new,hm.anc,?_⟩
 ·intro g go b hg hb; rw [← e]; exact hm.hp g go b hg hb
 ·intro g b hb; rw [← e]; exact hm.rng g b hb
 ·intro b o hb; rw [← e]; exact hm.im b o hb
 ·intro b hb how hn; rw [← e]; exact hm.fr b hb how hn
 ·rw [← e]; exact hm.sz
 ·rw [h1]; exact h.os
 ·rw [h2]; exact h.tape
 ·rw [h3]; exact h.output
 ·intro g F hg b o hF; rw [← e]; exact hm.fz g F hg b o hF
theorem OpW.bytes {Q : Exit → Act → World → Prop} {o : Oper} {s : S} {K : Act → World → Prop} {t1 t2 e : Nat} {x : Operand} {t : ByteArray}
  (ho : o.op = .convert t1 t2 x) (h1 : (X.T t1).k = .str) (h2 : (X.T t2).k = .slc e) (h3 : (X.T e).k = .int .u8) (hx : ev s.ρ x = .v (.string t)) (hs : t.size < 9223372036854775808)
  (next : ∀ cap F,t.size ≤ cap → cap < 9223372036854775808 → (∀ j,j < t.size → F j = bt t j) → ∀ ρ',putE X.n s.ρ o.dst (.slc s.nx 0 t.size cap) = some ρ' → GK X K ⟨ρ',upG s.σ s.nx (.row ⟨.ints .u8 F,cap,e⟩),s.nx + 1,s.ds⟩)
  (hput : putOk X.n o.dst = true) : OpW X Q o s K:=by
 intro β w a hi
 have T1:=tabOK h1 rfl
 have T2:=tabOK h2 rfl
 have T3:=tabOK h3 rfl
 simp only [TKOK] at T1 T2 T3
 have h:=hi.env.ev x
 rw [hx] at h
 generalize hv : a.eval x = v at h
 cases h
 have hge:=grownCap_ge w t.size 0 e
 have hlt : grownCap w t.size 0 e < 9223372036854775808:=by
  have:=grownCap_le_maxLen w t.size 0 e (by simp only [maxLen]; omega)
  simp only [maxLen] at this; omega
 let cs : Array Value:=(t.data.map fun b=>Value.int .u8 b.toNat) ++ Array.replicate (grownCap w t.size 0 e - t.size) (.int .u8 0)
 have hcs : cs.size = grownCap w t.size 0 e:=by simp only [cs,Array.size_append,Array.size_map,Array.size_replicate,ByteArray.size_data]; omega
 have hrun : (execOp a.eval o).run X.P w = .ok (.value (.slice (some ⟨w.heap.size,0,none⟩) t.size (grownCap w t.size 0 e))) ((w.drew.alloc (.cells cs e)).freeze ⟨w.heap.size,cs.size,none⟩ 1):=by
  have he : execOp a.eval o = (do pure (.value (← convert t1 t2 (a.eval x)))):=by unfold execOp; simp only [ho]
  rw [he,Sem.run_bind,hv,Lib.run_convert_string_bytes w t1 t2 e t T1 T2 T3]
  rfl
 unfold Oper.wp
 rw [hrun]
 simp only [Oper.upon]
 let F : Nat → Int:=fun j=>if j < t.size then bt t j else 0
 have hpp:=putOk_some (n:=X.n) (ρ:=s.ρ) hput (.slc s.nx 0 t.size (grownCap w t.size 0 e))
 cases hp : putE X.n s.ρ o.dst (.slc s.nx 0 t.size (grownCap w t.size 0 e)) with
 | none=>rw [hp] at hpp; cases hpp
 | some ρ' =>
  have hw' : ((w.drew.alloc (.cells cs e)).freeze ⟨w.heap.size,cs.size,none⟩ 1).heap = w.drew.heap.push (.cells cs e (cs.size,cs.size + 1)):=by
   simp only [World.freeze,Nat.one_ne_zero,if_false]
   show ((w.drew.heap.push (.cells cs e)).modify w.heap.size _) = _
   apply Array.ext
   ·simp
   ·intro i hi1 hi2
    simp only [Array.getElem_modify]
    by_cases ei : w.heap.size = i
    ·subst ei
     have hlast : ∀ (xs : Array Obj) (o : Obj) (h : xs.size < (xs.push o).size),(xs.push o)[xs.size] = o:=by intro xs o h; simp
     rw [if_pos rfl]
     have e1:=hlast w.drew.heap (.cells cs e) (by simp)
     have e2:=hlast w.drew.heap (.cells cs e (cs.size,cs.size + 1)) (by simp)
     simp only [show w.drew.heap.size = w.heap.size from rfl] at e1 e2
     rw [e1,e2]
     rfl
    ·rw [if_neg ei]
     have hlt' : i < w.drew.heap.size:=by
      have : i < (w.drew.heap.push (.cells cs e (cs.size,cs.size + 1))).size:=hi2
      simp only [Array.size_push] at this
      have h6 : w.drew.heap.size = w.heap.size:=rfl
      omega
     rw [Array.getElem_push_lt hlt',Array.getElem_push_lt hlt']
  have hrow : RepG (upB β s.nx w.heap.size) (.row ⟨.ints .u8 F,grownCap w t.size 0 e,e⟩) (.cells cs e (cs.size,cs.size + 1)):=by
   refine RepG.row (r:=⟨.ints .u8 F,grownCap w t.size 0 e,e⟩) ⟨hcs,fun i hi'=>?_⟩ (.inl (by rw [hcs]; exact Nat.le_refl _))
   show ∃ v,cs[i]? = some v ∧ Rep _ (.v (.int .u8 (F i))) v ∧ v.oneCell' = true
   have hi2 : i < grownCap w t.size 0 e:=hi'
   by_cases e1 : i < t.size
   ·refine ⟨.int .u8 (bt t i),?_,by rw [show F i = bt t i from if_pos e1]; exact .v _,rfl⟩
    simp only [cs]
    rw [Array.getElem?_append_left (by simpa using e1),Array.getElem?_map]
    have : t.data[i]? = some (t.data.toList.getD i 0):=by
     have h' : i < t.data.toList.length:=by simpa using e1
     rw [List.getD_eq_getElem?_getD,List.getElem?_eq_getElem h']
     simp
    rw [this]; rfl
   ·refine ⟨.int .u8 0,?_,by rw [show F i = 0 from if_neg e1]; exact .v _,rfl⟩
    simp only [cs]
    have hsz : (t.data.map fun b=>Value.int .u8 b.toNat).size = t.size:=by simp
    rw [Array.getElem?_append_right (by rw [hsz]; omega),hsz,Array.getElem?_replicate,if_pos (by omega)]
  have hm:=hi.mem.drew.allocF (w':=(w.drew.alloc (.cells cs e)).freeze ⟨w.heap.size,cs.size,none⟩ 1) hrow hw' rfl rfl rfl
  have he : Ext β (upB β s.nx w.heap.size):=upB_ext (hi.mem.nx _ (Nat.le_refl _))
  refine next _ F hge hlt (fun j hj=>if_pos hj) ρ' hp _ _ _ ⟨hm,(hi.env.mono he).put hp (.slc (upB_new _ _ _)),?_⟩
  rw [put_defers]; exact hi.ds.mono he
end
section
open Go.RowKit
variable {X : Ctx}
def cpI (F N : Nat → Int) (od n : Nat) (i : Nat) : Int:=if od ≤ i ∧ i < od + n then N (i - od) else F i
theorem OpW.copyI {Q : Exit → Act → World → Prop} {o : Oper} {s : S} {K : Act → World → Prop} {t t' e : Nat} {x y : Operand} {g od nd cd m : Nat} {k : IntKind} {F N : Nat → Int} {rn re : Nat} {ρ' : Env}
  (ho : o.op = .call { callee:=.builtin .copy,args:=#[x,y],argTypes:=#[t,t'] }) (hk : (X.T t).k = .slc e) (hke : known (X.T e).k = true) (hs1 : (X.T e).size = 1)
  (hx : ev s.ρ x = .slc g od nd cd) (hg : gk s.σ g = some (.row ⟨.ints k F,rn,re⟩)) (hn : od + nd ≤ rn)
  (hsrc : ∀ β w a,Inv X s β w a → Src X 1 m (fun j=>.v (.int k (N j))) β w (a.eval y))
  (hp : putE X.n s.ρ o.dst (.v (.int .i64 (min m nd : Nat))) = some ρ')
  (next : GK X K ⟨ρ',upG s.σ g (.row ⟨.ints k (cpI F N od (min m nd)),rn,re⟩),s.nx,s.ds⟩) : OpW X Q o s K:=by
 intro β w a hi
 have hT:=tabOK hk rfl
 simp only [TKOK] at hT
 have hsz:=fun w=>run_size (X:=X) (w:=w) hke
 obtain ⟨hlen,news0,hf0,hl0,hr0,ho0⟩:=hsrc β w a hi
 have hv:=hi.env.ev x
 rw [hx] at hv
 generalize hvx : a.eval x = v at hv
 generalize hvy : a.eval y = u at hlen hf0
 have hfc:=hf0 (min m nd) (Nat.min_le_left _ _)
 let news:=news0.take (min m nd * 1)
 have hnl : news.length = min m nd:=by simp only [news,List.length_take,hl0]; omega
 have hnr : Reps β (aggF (fun j=>.v (.int k (N j))) 0 (min m nd)) news:=by
  have key : ∀ (K q : Nat) (f : Nat → SV) (j : Nat) (l : List Value),q ≤ K → Reps β (aggF f j K) l → Reps β (aggF f j q) (l.take q):=by
   intro K
   induction K with
   | zero=>intro q f j l hq h; obtain rfl : q = 0:=(by omega); simpa [aggF] using Reps.nil
   | succ K ih =>
    intro q f j l hq h
    cases q with
    | zero=>simpa [aggF] using Reps.nil
    | succ q =>
     cases h with
     | cons h t=>exact .cons h (ih q f (j + 1) _ (by omega) t)
  have:=key (m * 1) (min m nd) _ 0 news0 (by omega) hr0
  simpa [news,Nat.mul_one] using this
 have hn1 : ∀ u ∈ news,u.oneCell' = true:=fun u hu=>ho0 u (List.mem_of_mem_take hu)
 have hop : execOp a.eval o = (do pure (.value (← Builtin.copy_ #[t,t'] o.type #[v,u]))):=by
  unfold execOp
  simp only [ho,resolve,invoke,builtin,List.map_toArray,List.map_cons,List.map_nil,hvx,hvy]
  rfl
 unfold Oper.wp
 rw [hop]
 have fin : ∀ w',(Builtin.copy_ #[t,t'] o.type #[v,u]).run X.P w = .ok (.int .i64 (min m nd : Nat)) w' → Mem X.M (upG s.σ g (.row ⟨.ints k (cpI F N od (min m nd)),rn,re⟩)) s.nx β w' →
   o.upon X.P a K Q ((do pure (.value (← Builtin.copy_ #[t,t'] o.type #[v,u])) : Sem Next).run X.P w):=by
  intro w' h1 h2
  rw [Sem.run_bind,h1]
  refine next β w' _ ⟨h2,hi.env.put hp (.v _),?_⟩
  rw [put_defers]; exact hi.ds
 have hm:=hi.mem
 rw [← upG_same hg] at hm
 cases hv with
 | slc hb =>
  rename_i b
  obtain ⟨w',hst,hmem⟩:=run_storeCells_one (P:=X.P) hb _ _ (⟨.ints k F,rn,re⟩ : Row) s.σ od 0 w hnr hn1 (by rw [aggF_length]; show od + 0 + min m nd ≤ rn; omega) hm
  refine fin w' ?_ ?_
  ·unfold Builtin.copy_
   simp only [List.getElem?_toArray,List.getElem?_cons_zero,List.getElem?_cons_succ,Sem.run_bind,run_under hT,Result.andThen_ok,hlen,hsz,hs1]
   have hfc' : (Builtin.firstCells 1 (m.min nd) u).run X.P w = .ok news.toArray w:=hfc
   simp only [hfc',Result.andThen_ok,Sem.run_bind,hst,Sem.run_pure]
   rfl
  ·refine hmem.conv ?_ ?_ fun i hi'=>.inr ?_
   ·show rn = _; rw [setR_n]
   ·have : ∀ (l : List SV) (r : Row) (off : Nat),(setR r off l).e = r.e:=by
     intro l
     induction l with
     | nil=>intro r off; rfl
     | cons x l ih=>intro r off; rw [setR,ih]; rfl
    rw [this]
   ·rw [setR_f]
    show SV.v (.int k (cpI F N od (min m nd) i)) = _
    unfold cpI
    simp only [Nat.add_zero]
    split
    ·rw [Nat.zero_add]
    ·rfl
 | slcN hb =>
  have hnews : news = []:=List.eq_nil_of_length_eq_zero (by rw [hnl]; omega)
  refine fin w ?_ ?_
  ·unfold Builtin.copy_
   simp only [List.getElem?_toArray,List.getElem?_cons_zero,List.getElem?_cons_succ,Sem.run_bind,run_under hT,Result.andThen_ok,hlen,hsz,hs1]
   have hfc' : (Builtin.firstCells 1 (m.min 0) u).run X.P w = .ok news.toArray w:=hfc
   simp only [hfc',Result.andThen_ok,Sem.run_bind,Sem.run_pure]
   rfl
  ·refine hm.conv rfl rfl fun i _=>.inr ?_
   show SV.v (.int k (cpI F N 0 (min m 0) i)) = .v (.int k (F i))
   unfold cpI
   rw [if_neg (by omega)]
end
section
open Go.RowKit
variable {X : Ctx}
theorem VStep.rune {ρ : Env} {o : Oper} {t1 t2 : Nat} {x : Operand} {k k' : IntKind} {n : Int} (ho : o.op = .convert t1 t2 x) (h1 : (X.T t1).k = .int k') (h2 : (X.T t2).k = .str) (hx : ev ρ x = .v (.int k n)) : VStep X ρ o (.v (.string (Utf8.encode n))):=by
 intro β a he
 have T1:=tabOK h1 rfl
 have T2:=tabOK h2 rfl
 simp only [TKOK] at T1 T2
 have h:=he.ev x
 rw [hx] at h
 generalize hv : a.eval x = v at h
 cases h
 refine ⟨_,fun w=>?_,.v _⟩
 have he : execOp a.eval o = (do pure (.value (← convert t1 t2 (a.eval x)))):=by unfold execOp; simp only [ho]
 rw [he,Sem.run_bind,hv]
 simp only [convert,Sem.run_bind,run_under T1,run_under T2,Result.andThen_ok,Conv.intToString,Sem.run_pure]
theorem GL.vstep {ops : Array Oper} {Q : Exit → Act → World → Prop} {o : Oper} {l : List Oper} {s : S} {x : SV} {ρ' : Env} (hg : o.guard = none) (h : VStep X s.ρ o x) (hp : putE X.n s.ρ o.dst x = some ρ') (k : GL X ops Q l ⟨ρ',s.σ,s.nx,s.ds⟩) : GL X ops Q (o :: l) s:=GL.step hg (h.step hp) k
theorem GW.vstep {ops : Array Oper} {Q : Exit → Act → World → Prop} {Sw : World → Prop} {i : Nat} {o : Oper} {l : List (Nat × Nat)} {s : S} {x : SV} {ρ' : Env} (ho : ops[i]? = some o) (hw : gdo ops s.ρ o = some true) (h : VStep X s.ρ o x) (hp : putE X.n s.ρ o.dst x = some ρ') (k : GW X ops Q Sw l ⟨ρ',s.σ,s.nx,s.ds⟩) : GW X ops Q Sw ((i,0) :: l) s:=by
 intro β w a hi
 obtain ⟨v,hr,hrep⟩:=h β a hi.env
 exact ⟨o,v,ho,.inl ⟨gdo_wanted hw hi.env,hr⟩,k β _ _ ⟨hi.mem,hi.env.put hp hrep,by rw [put_defers]; exact hi.ds⟩⟩
theorem Inv.conv {ρ : Env} {σ : GH} {nx : Nat} {ds : List SD} {β : Bl} {w : World} {a : Act} {g : Nat} {r r' : Row} (hg : gk σ g = some (.row r)) (hn : r'.n = r.n) (he : r'.e = r.e) (hle : ∀ i,i < r.n → r'.f i = .any ∨ r'.f i = r.f i) (h : Inv X ⟨ρ,σ,nx,ds⟩ β w a) : Inv X ⟨ρ,upG σ g (.row r'),nx,ds⟩ β w a:=by
 refine ⟨?_,h.env,h.ds⟩
 have hm:=h.mem
 rw [← upG_same hg] at hm
 exact hm.conv hn he hle
theorem GC.conv {Q : Exit → Act → World → Prop} {c : Code} {ρ : Env} {σ : GH} {nx : Nat} {ds : List SD} (g : Nat) {r : Row} (r' : Row) (hg : gk σ g = some (.row r)) (hn : r'.n = r.n) (he : r'.e = r.e) (hle : ∀ i,i < r.n → r'.f i = .any ∨ r'.f i = r.f i) (h : GC X Q c ⟨ρ,upG σ g (.row r'),nx,ds⟩) : GC X Q c ⟨ρ,σ,nx,ds⟩:=fun β w a hi=>h β w a (hi.conv hg hn he hle)
theorem OpW.empty {Q : Exit → Act → World → Prop} {o : Oper} {s : S} {K : Act → World → Prop} {t e : Nat} {ρ' : Env} (c : RF) (ho : o.op = .buildSlice t 0 #[]) (hk : (X.T t).k = .slc e) (hke : known (X.T e).k = true)
  (hp : putE X.n s.ρ o.dst (.slc s.nx 0 0 0) = some ρ') (k : GK X K ⟨ρ',upG s.σ s.nx (.row ⟨c,0,e⟩),s.nx + 1,s.ds⟩) : OpW X Q o s K:=by
 refine OpW.newRow (r:=⟨c,0,e⟩) (fun β w a hi=>?_) hp k
 have hT:=tabOK hk rfl
 simp only [TKOK] at hT
 refine ⟨#[],.slice (some ⟨w.heap.size,0,none⟩) 0 0,?_,⟨rfl,fun i hi'=>absurd hi' (Nat.not_lt_zero _)⟩,.slc (upB_new _ _ _)⟩
 simp [execOp,ho,Instr.buildSlice,run_under hT,run_size hke,Instr.fill,Go.newRow]
 rw [show Array.range 0 = #[] from Array.ext' (by simp),Array.map_empty]
def noAgg1 (T : Nat → TI) (e : Nat) : Bool:=known (T e).k && !(T e).k.agg && Nat.beq (T e).size 1
theorem VStep.ixI {ρ : Env} {o : Oper} {t m e : Nat} {x i : Operand} {k k' : IntKind} {zs : List Int} {n : Int} (ho : o.op = .index t x i) (hk : (X.T t).k = .arr m e) (he : noAgg1 X.T e = true)
  (hx : ev ρ x = .agg (zs.map fun z=>.v (.int k z))) (hi : ev ρ i = .v (.int k' n)) (h0 : 0 ≤ n) (hn : n < m) (hl : zs.length = m) : VStep X ρ o (.v (.int k (zs.getD n.toNat 0))):=by
 simp only [noAgg1,Bool.and_eq_true,Bool.not_eq_true'] at he
 have hT:=tabOK hk rfl
 simp only [TKOK] at hT
 intro β a hE
 have h1:=hE.ev x
 have h2:=hE.ev i
 rw [hx] at h1; rw [hi] at h2
 generalize hvx : a.eval x = vx at h1
 generalize hvi : a.eval i = vi at h2
 cases h2
 cases h1 with
 | agg hs =>
  rename_i ys
  have hlt : n.toNat < zs.length:=by omega
  obtain ⟨y,hy,hr⟩:=hs.get n.toNat (.v (.int k (zs.getD n.toNat 0))) (by rw [List.getElem?_map,List.getElem?_eq_getElem hlt,List.getD_eq_getElem?_getD,List.getElem?_eq_getElem hlt]; rfl)
  cases hr
  refine ⟨_,fun w=>?_,.v _⟩
  have hsz:=run_size (X:=X) (w:=w) he.1.1
  have hag:=run_isAgg (X:=X) (w:=w) he.1.1
  rw [he.1.2] at hag
  rw [Nat.eq_of_beq_eq_true he.2] at hsz
  have hy' : ys.toArray[n.toNat]? = some (.int k (zs.getD n.toNat 0)):=by simpa using hy
  have hE : execOp a.eval o = (do pure (.value (← Instr.index t (a.eval x) (a.eval i)))):=by unfold execOp; simp only [ho]
  rw [hE,Sem.run_bind,hvx,hvi]
  simp only [Instr.index,asIntOf,Sem.run_bind,Sem.run_pure,Result.andThen_ok,run_under hT]
  rw [if_pos ⟨h0,hn⟩]
  simp only [Sem.run_bind,hsz,Result.andThen_ok,Nat.mul_one,part,hag,Bool.false_eq_true,if_false,hy',Sem.run_pure]
def JK (X : Ctx) {ι : Type} (I : ι → Prop) (f : ι → S) (a : Act) (w : World) : Prop:=∃ i β,I i ∧ Inv X (f i) β w a
theorem GC.join {Q : Exit → Act → World → Prop} {c d : Code} {s : S} {ι : Type} (I : ι → Prop) (f : ι → S) (h1 : GC X (Exit.then (JK X I f) Q) c s) (h2 : ∀ i,I i → GC X Q d (f i)) : GC X Q (.seq c d) s:=by
 intro β w a hi
 refine wp_seq (wp_mono (h1 β w a hi) fun e a w hq=>?_)
 cases e with
 | normal=>obtain ⟨i,β,hI,hi⟩:=hq; exact h2 i hI β w a hi
 | exit id=>exact hq
 | goto l=>exact hq
 | ret=>exact hq
 | panic ch=>exact hq
 | outgrown=>exact hq
theorem GK.join {ι : Type} {I : ι → Prop} {f : ι → S} {s : S} (i : ι) (ml : List Nat) (h1 : I i) (k : Ent X.M s (f i) ml) : GK X (JK X I f) s:=fun _ _ _ hi=>⟨i,_,h1,hi.ent k⟩
theorem offS1_le (cap l o : Nat) : offS cap l o 1 ≤ o + l:=by
 unfold offS
 cases Nat.beq cap l <;> simp
end
section
open Go.RowKit
variable {X : Ctx}
mutual
def allG (p : Nat → Bool) : SV → Bool
 | .any=>false
 | .v _=>true
 | .ptr g _=>p g
 | .slc g _ _ _=>p g
 | .mpp g=>p g
 | .agg xs=>allGL p xs
 | .ifc _ x=>allG p x
 | .tup xs=>allGL p xs
 | .fn _ a b=>allGL p a && allGL p b
def allGL (p : Nat → Bool) : List SV → Bool
 | []=>true
 | x :: r=>allG p x && allGL p r
end
mutual
theorem Rep.agree {p : Nat → Bool} {β β' : Bl} (h : ∀ g,p g = true → β' g = β g) : ∀ {x : SV} {v : Value},allG p x = true → Rep β x v → Rep β' x v
 | _,_,hm,.any x=>by simp [allG] at hm
 | _,_,_,.v x=>.v x
 | _,_,hm,.ptr hb=>.ptr (by rw [h _ (by simpa [allG] using hm)]; exact hb)
 | _,_,hm,.slc hb=>.slc (by rw [h _ (by simpa [allG] using hm)]; exact hb)
 | _,_,hm,.slcN hb=>.slcN (by rw [h _ (by simpa [allG] using hm)]; exact hb)
 | _,_,hm,.mpp hb=>.mpp (by rw [h _ (by simpa [allG] using hm)]; exact hb)
 | _,_,hm,.agg hs=>.agg (Reps.agree h (by simpa [allG] using hm) hs)
 | _,_,hm,.ifc hs=>.ifc (Rep.agree h (by simpa [allG] using hm) hs)
 | _,_,hm,.tup hs=>.tup (Reps.agree h (by simpa [allG] using hm) hs)
 | _,_,hm,.fn h1 h2=>by
  simp only [allG,Bool.and_eq_true] at hm
  exact .fn (Reps.agree h hm.1 h1) (Reps.agree h hm.2 h2)
theorem Reps.agree {p : Nat → Bool} {β β' : Bl} (h : ∀ g,p g = true → β' g = β g) : ∀ {x : List SV} {v : List Value},allGL p x = true → Reps β x v → Reps β' x v
 | _,_,_,.nil=>.nil
 | _,_,hm,.cons a t=>by
  simp only [allGL,Bool.and_eq_true] at hm
  exact .cons (Rep.agree h hm.1 a) (Reps.agree h hm.2 t)
end
mutual
theorem Rep.one {p : Nat → Bool} {β : Bl} : ∀ {x : SV} {v v' : Value},allG p x = true → Rep β x v → Rep β x v' → v = v'
 | .any,_,_,hm,_,_=>by simp [allG] at hm
 | .v x,_,_,_,h,h'=>by cases h; cases h'; rfl
 | .ptr g o,_,_,_,h,h'=>by
  cases h with
  | ptr a=>cases h' with
   | ptr b=>rw [a] at b; simp at b; rw [b]
 | .slc g o l c,_,_,_,h,h'=>by
  cases h with
  | slc a=>cases h' with
   | slc b=>rw [a] at b; simp at b; rw [b]
   | slcN b=>rw [a] at b; simp at b
  | slcN a=>cases h' with
   | slc b=>rw [a] at b; simp at b
   | slcN b=>rfl
 | .mpp g,_,_,_,h,h'=>by
  cases h with
  | mpp a=>cases h' with
   | mpp b=>rw [a] at b; simp at b; rw [b]
 | .agg xs,_,_,hm,h,h'=>by
  cases h with
  | agg a=>cases h' with
   | agg b=>rw [Reps.one (by simpa [allG] using hm) a b]
 | .ifc t x,_,_,hm,h,h'=>by
  cases h with
  | ifc a=>cases h' with
   | ifc b=>rw [Rep.one (by simpa [allG] using hm) a b]
 | .tup xs,_,_,hm,h,h'=>by
  cases h with
  | tup a=>cases h' with
   | tup b=>rw [Reps.one (by simpa [allG] using hm) a b]
 | .fn f xs ys,_,_,hm,h,h'=>by
  simp only [allG,Bool.and_eq_true] at hm
  cases h with
  | fn a1 a2=>cases h' with
   | fn b1 b2=>rw [Reps.one hm.1 a1 b1,Reps.one hm.2 a2 b2]
theorem Reps.one {p : Nat → Bool} {β : Bl} : ∀ {x : List SV} {v v' : List Value},allGL p x = true → Reps β x v → Reps β x v' → v = v'
 | [],_,_,_,h,h'=>by cases h; cases h'; rfl
 | x :: r,_,_,hm,h,h'=>by
  simp only [allGL,Bool.and_eq_true] at hm
  cases h with
  | cons a t=>cases h' with
   | cons b u=>rw [Rep.one hm.1 a b,Reps.one hm.2 t u]
end
abbrev An:=List (Nat × Option (Option Nat))
def anB : An → Bl
 | [],_=>none
 | (j,x) :: r,g=>bif Nat.beq g j then x else anB r g
def inA : An → Nat → Bool
 | [],_=>false
 | (j,_) :: r,g=>Nat.beq g j || inA r g
theorem anB_eq {β : Bl} : ∀ {an : An},(∀ p,p ∈ an → β p.1 = p.2) → ∀ g,inA an g = true → anB an g = β g
 | [],_,g,h=>by simp [inA] at h
 | (j,x) :: r,ha,g,h=>by
  simp only [anB]
  by_cases e : g = j
  ·subst e; rw [beqT]; exact (ha (g,x) (by simp)).symm
  ·rw [beqF e]
   simp only [inA,beqF e,Bool.false_or] at h
   exact anB_eq (fun p hp=>ha p (by simp [hp])) g h
def heldS (an : An) (ps : List (Nat × Nat × SV)) (w : World) : Prop:=∀ p,p ∈ ps → ∀ b,anB an p.1 = some (some b) → ∃ v,w.cell? ⟨b,p.2.1,none⟩ = some v ∧ Rep (anB an) p.2.2 v
def hOk (σ : GH) (an : An) : List (Nat × Nat × SV) → Prop
 | []=>True
 | (g,off,x) :: r=>(∃ row,gk σ g = some (.row row) ∧ off < row.n ∧ row.f off = x) ∧ (allG (inA an) x && inA an g) = true ∧ hOk σ an r
theorem heldS_inv {an : An} {s : S} {ps : List (Nat × Nat × SV)} (ha : X.M.an = an) (h : hOk s.σ an ps) {β : Bl} {w : World} {a : Act} (hi : Inv X s β w a) : heldS an ps w:=by
 have hanc : ∀ p,p ∈ an → β p.1 = p.2:=fun p hp=>(hi.mem.anc p (by rw [ha]; exact hp)).2
 induction ps with
 | nil=>intro p hp; cases hp
 | cons q r ih =>
  obtain ⟨g,off,x⟩:=q
  obtain ⟨⟨row,h1,h2,h3⟩,h4,h5⟩:=h
  simp only [Bool.and_eq_true] at h4
  intro p hp b hb
  rcases List.mem_cons.1 hp with rfl | hp
  ·rw [anB_eq hanc g h4.2] at hb
   obtain ⟨v,hv,_,hr,_⟩:=hi.mem.cell h1 hb h2
   rw [h3] at hr
   exact ⟨v,hv,hr.agree (anB_eq hanc) h4.1⟩
  ·exact ih h5 p hp b hb
def addA (an : An) (X : Ctx) : Ctx:=⟨X.P,X.T,X.ok,X.n,⟨X.M.μ,X.M.w0,X.M.k,X.M.β0,an,X.M.ow,X.M.z0⟩⟩
def anOf (β : Bl) : List Nat → An
 | []=>[]
 | g :: r=>(g,β g) :: anOf β r
theorem anOf_mem {β : Bl} : ∀ {gs : List Nat} {p : Nat × Option (Option Nat)},p ∈ anOf β gs → p.1 ∈ gs ∧ β p.1 = p.2
 | g :: r,p,hp=>by
  rcases List.mem_cons.1 hp with rfl | hp
  ·exact ⟨by simp,rfl⟩
  ·obtain ⟨h1,h2⟩:=anOf_mem hp
   exact ⟨by simp [h1],h2⟩
theorem Inv.addA {s : S} {β : Bl} {w : World} {a : Act} (h : Inv X s β w a) {gs : List Nat} (hg : allLt s.nx gs = true) : Inv (Sx.addA (anOf β gs) X) s β w a:=by
 have hm:=h.mem
 refine ⟨⟨hm.hp,hm.inj,hm.rng,hm.nx,hm.im,hm.imb,hm.fr,hm.sz,hm.os,hm.tape,hm.output,hm.kn,hm.base,hm.dom,hm.new,fun p hp=>?_,hm.fz⟩,h.env,h.ds⟩
 obtain ⟨h1,h2⟩:=anOf_mem hp
 exact ⟨allLt_iff hg _ h1,h2⟩
theorem Inv.delA {an : An} {s : S} {β : Bl} {w : World} {a : Act} (hX : X.M.an = []) (h : Inv (Sx.addA an X) s β w a) : Inv X s β w a:=by
 have hm:=h.mem
 exact ⟨⟨hm.hp,hm.inj,hm.rng,hm.nx,hm.im,hm.imb,hm.fr,hm.sz,hm.os,hm.tape,hm.output,hm.kn,hm.base,hm.dom,hm.new,fun p hp=>(by rw [hX] at hp; cases hp),hm.fz⟩,h.env,h.ds⟩
theorem GK.delA {an : An} {K : Act → World → Prop} {s : S} (hX : X.M.an = []) (h : GK X K s) : GK (addA an X) K s:=fun β w a hi=>h β w a (hi.delA hX)
theorem GK.heldAnd {an : An} {ps : List (Nat × Nat × SV)} {K : Act → World → Prop} {s : S} (ha : X.M.an = an) (h : hOk s.σ an ps) (k : GK X K s) : GK X (fun a w=>heldS an ps w ∧ K a w) s:=fun β w a hi=>⟨heldS_inv ha h hi,k β w a hi⟩
theorem GC.drawH {Q : Exit → Act → World → Prop} {s : S} {l : List Oper} {id : Nat} (sch : List (Nat × Nat)) (gs : List Nat) (ps : List (Nat × Nat × SV)) (hm : X.P.follows .mixedOrders = true)
  (hc : (Region.noSelect l.toArray && chkW .any l.toArray (effs sch) (helds sch) sch (Array.replicate l.length false) && Nat.beq sch.length l.length) = true)
  (hQ : ∀ c a a' w,Q (.panic c) a w → a'.defers = a.defers → Q (.panic c) a' w) (hg : allLt s.nx gs = true)
  (h : ∀ β,GW (addA (anOf β gs) X) l.toArray Q (heldS (anOf β gs) ps) sch s) : GC X Q (.region id l.toArray true) s :=
 fun β w a hi=>wp_region_WL sch hm hc hQ _ (h β β w.drew a ((⟨hi.mem.drew,hi.env,hi.ds⟩ : Inv X s β w.drew a).addA hg))
theorem GW.held {ops : Array Oper} {Q : Exit → Act → World → Prop} {an : An} {ps : List (Nat × Nat × SV)} {i : Nat} {o : Oper} {l : List (Nat × Nat)} {s : S} {t : Nat} {x : Operand} {g off : Nat} {ρ' : Env} {y : SV}
  (ho : ops[i]? = some o) (hw : gdo ops s.ρ o = some true) (hop : o.op = .load t x) (hx : ev s.ρ x = .ptr g off) (hk : (known (X.T t).k && !(X.T t).k.agg) = true) (ha : X.M.an = an) (hps : (g,off,y) ∈ ps) (hok : hOk s.σ an ps)
  (hin : (allG (inA an) y && inA an g) = true) (hp : putE X.n s.ρ o.dst y = some ρ') (k : GW X ops Q (heldS an ps) l ⟨ρ',s.σ,s.nx,s.ds⟩) : GW X ops Q (heldS an ps) ((i,3) :: l) s:=by
 intro β w a hi
 have hanc : ∀ p,p ∈ an → β p.1 = p.2:=fun p hp=>(hi.mem.anc p (by rw [ha]; exact hp)).2
 have hS:=heldS_inv ha hok hi
 simp only [Bool.and_eq_true,Bool.not_eq_true'] at hk hin
 have hxv:=hi.env.ev x
 rw [hx] at hxv
 generalize hav : a.eval x = u at hxv
 cases hxv with
 | ptr hb =>
  rename_i b
  have hb' : anB an g = some (some b):=by rw [anB_eq hanc g hin.2]; exact hb
  obtain ⟨v,hv,hr⟩:=hS _ hps b hb'
  have run : ∀ w',heldS an ps w' → (execOp a.eval o).run X.P w' = .ok (.value v) w':=by
   intro w' hS'
   obtain ⟨v',hv',hr'⟩:=hS' _ hps b hb'
   have e : v' = v:=(Rep.one hin.1 hr hr').symm
   subst e
   have h1:=run_isAgg (X:=X) (w:=w') hk.1
   rw [hk.2] at h1
   simp [execOp,hop,hav,Instr.loadAt,Instr.sureAddr,loadVar,h1,run_load,hv']
  refine ⟨o,v,ho,.inl ⟨gdo_wanted hw hi.env,run⟩,hS,k β w _ ⟨hi.mem,hi.env.put hp (hr.agree (fun g hg=>(anB_eq hanc g hg).symm) hin.1),by rw [put_defers]; exact hi.ds⟩⟩
end
section
open Go.RowKit Classical
variable {X : Ctx}
noncomputable def look : List MapEntry → Value → Option Value
 | [],_=>none
 | e :: r,k=>if e.key = k then some e.val else look r k
noncomputable def findP : List MapEntry → Value → Nat → Option (Nat × Value)
 | [],_,_=>none
 | e :: r,k,i=>if e.key = k then some (i,e.val) else findP r k (i + 1)
theorem findP_look : ∀ (es : List MapEntry) (k : Value) (i : Nat),(findP es k i).map (·.2) = look es k
 | [],k,i=>rfl
 | e :: r,k,i=>by
  simp only [findP,look]
  split
  ·rfl
  ·exact findP_look r k (i + 1)
theorem findP_get : ∀ (es : List MapEntry) (k : Value) (i j : Nat) (v : Value),findP es k i = some (j,v) → ∃ e,i ≤ j ∧ es[j - i]? = some e ∧ e.key = k ∧ e.val = v
 | [],k,i,j,v,h=>by simp [findP] at h
 | e :: r,k,i,j,v,h=>by
  simp only [findP] at h
  split at h
  ·rename_i he
   simp only [Option.some.injEq,Prod.mk.injEq] at h
   obtain ⟨rfl,rfl⟩:=h
   exact ⟨e,Nat.le_refl _,by simp,he,rfl⟩
  ·obtain ⟨e',h1,h2,h3,h4⟩:=findP_get r k (i + 1) j v h
   refine ⟨e',by omega,?_,h3,h4⟩
   rw [show j - i = (j - (i + 1)) + 1 from by omega]
   simpa using h2
structure KeyOK (P : Program) (kt : Nat) (K : Value → Prop) : Prop where
 chk : ∀ e k w,K k → (Instr.checkKey e 10000 kt k).run P w = .ok () w
 find : ∀ es k w,(∀ e,e ∈ es → K e.key) → K k → (Instr.findKey kt k es).run P w = .ok (findP es k 0) w
 bits : ∀ k,K k → Instr.sameBits 10000 k k = true
theorem ba_beq (a b : ByteArray) : (a == b) = decide (a = b):=by
 cases a; cases b
 show ByteArray.beq _ _ = _
 simp only [ByteArray.beq,ByteArray.mk.injEq]
 rename_i x y
 by_cases h : x = y
 ·subst h; simp
 ·simp [h]
def intKey (k : IntKind) (v : Value) : Prop:=∃ n,v = .int k n
def strKey (v : Value) : Prop:=∃ s,v = .string s
theorem keyOK_int {P : Program} {kt : Nat} {k : IntKind} (h : P.underlying kt = some (.int k)) : KeyOK P kt (intKey k):=by
 refine ⟨?_,?_,?_⟩
 ·rintro e _ w ⟨n,rfl⟩
  rw [show (10000 : Nat) = 9999 + 1 from rfl]
  generalize 9999 = d
  simp only [Instr.checkKey,Sem.run_bind,run_under h,Result.andThen_ok]
  rfl
 ·rintro es _ w hes ⟨n,rfl⟩
  have key : ∀ (es : List MapEntry) (i : Nat),(∀ e,e ∈ es → intKey k e.key) → Instr.findNow (.int k) (.int k n) es i = some (findP es (.int k n) i):=by
   intro es
   induction es with
   | nil=>intro i _; rfl
   | cons e r ih =>
    intro i he
    obtain ⟨m,hm⟩:=he e (by simp)
    have ih:=ih (i + 1) (fun e h=>he e (by simp [h]))
    simp only [Instr.findNow,findP,hm,Instr.sameNow,if_true]
    by_cases hnm : n = m
    ·subst hnm; simp
    ·have h1 : (n == m) = false:=by simpa using hnm
     have h2 : ¬ (Value.int k m = Value.int k n):=by simp; exact fun e=>hnm e.symm
     simp only [h1,if_neg h2]; exact ih
  simp only [Instr.findKey,Sem.run_bind,run_under h,Result.andThen_ok,key es 0 hes,Sem.run_pure]
 ·rintro _ ⟨n,rfl⟩
  simp [Instr.sameBits]
theorem keyOK_str {P : Program} {kt : Nat} (h : P.underlying kt = some .string) : KeyOK P kt strKey:=by
 refine ⟨?_,?_,?_⟩
 ·rintro e _ w ⟨n,rfl⟩
  rw [show (10000 : Nat) = 9999 + 1 from rfl]
  generalize 9999 = d
  simp only [Instr.checkKey,Sem.run_bind,run_under h,Result.andThen_ok]
  rfl
 ·rintro es _ w hes ⟨n,rfl⟩
  have key : ∀ (es : List MapEntry) (i : Nat),(∀ e,e ∈ es → strKey e.key) → Instr.findNow .string (.string n) es i = some (findP es (.string n) i):=by
   intro es
   induction es with
   | nil=>intro i _; rfl
   | cons e r ih =>
    intro i he
    obtain ⟨m,hm⟩:=he e (by simp)
    have ih:=ih (i + 1) (fun e h=>he e (by simp [h]))
    simp only [Instr.findNow,findP,hm,Instr.sameNow]
    by_cases hnm : n = m
    ·subst hnm
     have h1 : (n == n) = true:=by rw [ba_beq]; simp
     simp only [h1,if_true]
    ·have h1 : (n == m) = false:=by rw [ba_beq]; simpa using hnm
     have h2 : ¬ (Value.string m = Value.string n):=by simp; exact fun e=>hnm e.symm
     simp only [h1,if_neg h2]; exact ih
  simp only [Instr.findKey,Sem.run_bind,run_under h,Result.andThen_ok,key es 0 hes,Sem.run_pure]
 ·rintro _ ⟨n,rfl⟩
  simp only [Instr.sameBits]
  rw [ba_beq]; simp
def isMap (K : Value → Prop) (f : Value → Option Value) (o : Obj) : Prop:=∃ es clock,o = .map es clock ∧ (∀ e,e ∈ es.toList → K e.key) ∧ ∀ k,K k → look es.toList k = f k
theorem run_getObj' {P : Program} {w : World} {r : Nat} {es : Array MapEntry} {c : Nat} (h : w.heap[r]? = some (.map es c)) : (getObj r).run P w = .ok (.map es c) w:=by
 simp [getObj,Sem.run,h]
theorem OpW.makeMap {Q : Exit → Act → World → Prop} {o : Oper} {s : S} {K : Act → World → Prop} {t : Nat} {ρ' : Env} (Kp : Value → Prop) (ho : o.op = .makeMap t none) (hp : putE X.n s.ρ o.dst (.mpp s.nx) = some ρ')
  (k : GK X K ⟨ρ',upG s.σ s.nx (.pr (isMap Kp fun _=>none)),s.nx + 1,s.ds⟩) : OpW X Q o s K:=by
 intro β w a hi
 have hr : (execOp a.eval o).run X.P w = .ok (.value (.map (some w.heap.size))) (w.alloc (.map #[] 0)):=by
  simp [execOp,ho,Instr.makeMap]
 unfold Oper.wp
 rw [hr]
 obtain ⟨hm,he⟩:=hi.mem.alloc (go:=.pr (isMap Kp fun _=>none)) (o:=.map #[] 0) (.pr ⟨#[],0,rfl,by simp,fun _ _=>rfl⟩)
 refine k _ _ _ ⟨hm,(hi.env.mono he).put hp (.mpp (upB_new _ _ _)),?_⟩
 rw [put_defers]; exact hi.ds.mono he
theorem Mem.setObj {M : MC} {w : World} {σ : GH} {nx : Nat} {β : Bl} (h : Mem M σ nx β w) {g b : Nat} {go go' : GO} {o : Obj} (hg : gk σ g = some go) (hb : β g = some (some b)) (ho : RepG β go' o) :
  Mem M (upG σ g go') nx β { w with heap:=w.heap.setIfInBounds b o }:=by
 have hlt:=h.rng g b hb
 have other : ∀ b',b' ≠ b → (w.heap.setIfInBounds b o)[b']? = w.heap[b']?:=fun b' hne=>by rw [Array.getElem?_setIfInBounds_ne (Ne.symm hne)]
 refine ⟨?_,h.inj,fun g b hgb=>by simpa using h.rng g b hgb,h.nx,?_,h.imb,?_,by simpa using h.sz,h.os,h.tape,h.output,h.kn,h.base,?_,h.new,h.anc,?_⟩
 ·intro g' go2 b' hg' hb'
  rw [gk_upG] at hg'
  by_cases e : g' = g
  ·subst e
   simp [beqT] at hg'; subst hg'
   rw [hb] at hb'; simp at hb'; subst hb'
   exact ⟨o,by simp [hlt],ho⟩
  ·rw [beqF e] at hg'
   obtain ⟨o2,hw,hr⟩:=h.hp g' go2 b' hg' hb'
   refine ⟨o2,?_,hr⟩
   show (w.heap.setIfInBounds b o)[b']? = some o2
   rw [other b' (fun hc=>e (h.inj g' g b' hb' (by rw [hb,hc])))]
   exact hw
 ·intro b' o' hb'
  show (w.heap.setIfInBounds b o)[b']? = some o'
  rw [other b' (fun hc=>h.imb b' o' hb' g (by rw [hb,hc]))]
  exact h.im b' o' hb'
 ·intro b' hlt' how hn
  show (w.heap.setIfInBounds b o)[b']? = _
  rw [other b' (fun hc=>hn g (by rw [hb,hc]))]
  exact h.fr b' hlt' how hn
 ·intro g' go2 hg'
  rw [gk_upG] at hg'
  by_cases e : g' = g
  ·subst e; exact h.dom _ _ hg
  ·rw [beqF e] at hg'; exact h.dom g' go2 hg'
 ·intro g' F hg' b' o' hF
  rw [gk_upG] at hg'
  by_cases e : g' = g
  ·subst e; simp [beqT] at hg'; subst hg'; cases ho
  ·rw [beqF e] at hg'
   obtain ⟨h1,h2,h3⟩:=h.fz g' F hg' b' o' hF
   refine ⟨?_,h2,h3⟩
   show (w.heap.setIfInBounds b o)[b']? = _
   rw [other b' (fun hc=>h2 g (by rw [hb,hc]))]; exact h1
theorem look_push : ∀ (es : List MapEntry) (k v : Value) (c : Nat),(∀ e,e ∈ es → e.key ≠ k) → ∀ k',look (es ++ [{ key:=k,val:=v,born:=c }]) k' = if k' = k then some v else look es k'
 | [],k,v,c,_,k'=>by
  simp only [List.nil_append,look]
  by_cases h : k' = k
  ·subst h; simp
  ·rw [if_neg (fun e=>h e.symm),if_neg h]
 | e :: r,k,v,c,hn,k'=>by
  have ih:=look_push r k v c (fun e h=>hn e (by simp [h])) k'
  simp only [List.cons_append,look,ih]
  by_cases h : e.key = k'
  ·rw [if_pos h,if_pos h,if_neg (fun hk=>hn e (by simp) (by rw [h,hk]))]
  ·rw [if_neg h,if_neg h]
theorem findP_none : ∀ (es : List MapEntry) (k : Value) (i : Nat),findP es k i = none → ∀ e,e ∈ es → e.key ≠ k
 | [],k,i,_,e,he=>by cases he
 | x :: r,k,i,h,e,he=>by
  simp only [findP] at h
  split at h
  ·cases h
  ·rename_i hx
   rcases List.mem_cons.1 he with rfl | he
   ·exact hx
   ·exact findP_none r k (i + 1) h e he
theorem look_modify : ∀ (es : List MapEntry) (k v u : Value) (i j : Nat),findP es k i = some (j,u) → ∀ k',look (es.modify (j - i) fun e=>{ e with key:=k,val:=v }) k' = if k' = k then some v else look es k'
 | [],k,v,u,i,j,h,k'=>by simp [findP] at h
 | x :: r,k,v,u,i,j,h,k'=>by
  simp only [findP] at h
  split at h
  ·rename_i hx
   simp only [Option.some.injEq,Prod.mk.injEq] at h
   obtain ⟨rfl,rfl⟩:=h
   simp only [Nat.sub_self,List.modify_zero_cons,look,hx]
   by_cases hk : k' = k
   ·subst hk; simp
   ·rw [if_neg (fun e=>hk e.symm),if_neg hk,if_neg (fun e=>hk e.symm)]
  ·rename_i hx
   obtain ⟨_,h1,_,_,_⟩:=findP_get r k (i + 1) j u h
   have ih:=look_modify r k v u (i + 1) j h k'
   rw [show j - i = (j - (i + 1)) + 1 from by omega,List.modify_succ_cons]
   simp only [look,ih]
   by_cases hk : x.key = k'
   ·rw [if_pos hk,if_pos hk,if_neg (fun e=>hx (by rw [hk,e]))]
   ·rw [if_neg hk,if_neg hk]
end
section
open Go.RowKit Classical
variable {X : Ctx}
theorem bits_stay {K : Value → Prop} {P : Program} {kt : Nat} (h : KeyOK P kt K) {k : Value} (hk : K k) {w : World} : (Instr.keyThatStays k k).run P w = .ok k w:=by
 unfold Instr.keyThatStays
 rw [if_pos (h.bits k hk)]
 rfl
noncomputable def updF (f : Value → Option Value) (k v : Value) (k' : Value) : Option Value:=if k' = k then some v else f k'
theorem OpW.mapUpdate {Q : Exit → Act → World → Prop} {o : Oper} {s : S} {K : Act → World → Prop} {t kt et g : Nat} {m k x : Operand} {kv xv : Value} {Kp : Value → Prop} {f : Value → Option Value} {ρ' : Env}
  (ho : o.op = .mapUpdate t m k x ∨ o.op = .insert t m k x) (hT : (X.T t).k = .map kt et) (hK : KeyOK X.P kt Kp) (hm : ev s.ρ m = .mpp g) (hk : ev s.ρ k = .v kv) (hx : ev s.ρ x = .v xv) (hg : gk s.σ g = some (.pr (isMap Kp f))) (hkp : Kp kv)
  (hp : putE X.n s.ρ o.dst (.v undef) = some ρ') (next : GK X K ⟨ρ',upG s.σ g (.pr (isMap Kp (updF f kv xv))),s.nx,s.ds⟩) : OpW X Q o s K:=by
 intro β w a hi
 have hT':=tabOK hT rfl
 simp only [TKOK] at hT'
 have e1:=hi.env.ev m
 have e2:=hi.env.ev k
 have e3:=hi.env.ev x
 rw [hm] at e1; rw [hk] at e2; rw [hx] at e3
 generalize h1 : a.eval m = v1 at e1
 generalize h2 : a.eval k = v2 at e2
 generalize h3 : a.eval x = v3 at e3
 cases e2; cases e3
 cases e1 with
 | mpp hb =>
  rename_i b
  obtain ⟨ob,hw,hr⟩:=hi.mem.hp g _ b hg hb
  cases hr with
  | pr hmp =>
   obtain ⟨es,clock,rfl,hes,hlk⟩:=hmp
   have hget:=run_getObj' (P:=X.P) hw
   have hset : ∀ o' : Obj,(setObj b o').run X.P w = .ok () { w with heap:=w.heap.setIfInBounds b o' }:=fun o'=>by simp [setObj,Sem.run,hw]
   have hfind:=hK.find es.toList kv w hes hkp
   have hrun : ∃ es' c',(Instr.mapUpdate t (.map (some b)) kv xv).run X.P w = .ok () { w with heap:=w.heap.setIfInBounds b (.map es' c') } ∧ isMap Kp (updF f kv xv) (.map es' c'):=by
    cases hf : findP es.toList kv 0 with
    | none =>
     rw [hf] at hfind
     refine ⟨es.push { key:=kv,val:=xv,born:=clock },clock + 1,?_,_,_,rfl,?_,?_⟩
     ·simp only [Instr.mapUpdate,Sem.run_bind,run_under hT',Result.andThen_ok,hget,hK.chk _ _ _ hkp,hfind,hset]
     ·intro e he
      simp only [Array.toList_push,List.mem_append,List.mem_singleton] at he
      rcases he with he | rfl
      ·exact hes e he
      ·exact hkp
     ·intro k' hk'
      rw [Array.toList_push,look_push _ _ _ _ (findP_none _ _ _ hf)]
      unfold updF
      split
      ·rfl
      ·exact hlk k' hk'
    | some p =>
     obtain ⟨i,u⟩:=p
     rw [hf] at hfind
     obtain ⟨e,_,he,hek,_⟩:=findP_get _ _ _ _ _ hf
     have hei : es[i]? = some e:=by simpa using he
     refine ⟨es.modify i fun e=>{ e with key:=kv,val:=xv },clock,?_,_,_,rfl,?_,?_⟩
     ·have hst:=bits_stay (w:=w) hK hkp
      simp only [Instr.mapUpdate,Sem.run_bind,run_under hT',Result.andThen_ok,hget,hK.chk _ _ _ hkp,hfind,hei,Option.map_some,Option.getD_some,hek,hst,hset]
     ·intro e' he'
      rw [Array.toList_modify] at he'
      obtain ⟨j,hj⟩:=List.getElem?_of_mem he'
      rw [List.getElem?_modify] at hj
      obtain ⟨e2,he2,hh⟩:=Option.map_eq_some_iff.1 hj
      split at hh
      ·subst hh; exact hkp
      ·subst hh; exact hes _ (List.mem_of_getElem? he2)
     ·intro k' hk'
      have:=look_modify es.toList kv xv u 0 i hf k'
      rw [Nat.sub_zero] at this
      rw [Array.toList_modify,this]
      unfold updF
      split
      ·rfl
      ·exact hlk k' hk'
   obtain ⟨es',c',hrun,hmap⟩:=hrun
   have hop : (execOp a.eval o).run X.P w = .ok .skip { w with heap:=w.heap.setIfInBounds b (.map es' c') }:=by
    have he : execOp a.eval o = (do Instr.mapUpdate t (a.eval m) (a.eval k) (a.eval x); pure .skip):=by
     unfold execOp
     rcases ho with ho | ho <;> simp only [ho]
    rw [he,Sem.run_bind,h1,h2,h3,hrun]
    rfl
   unfold Oper.wp
   rw [hop]
   refine next β _ _ ⟨hi.mem.setObj hg hb (.pr hmap),hi.env.put hp (.v _),?_⟩
   rw [put_defers]; exact hi.ds
theorem LStep.lookup {o : Oper} {s : S} {t kt et g : Nat} {m k : Operand} {kv : Value} {Kp : Value → Prop} {f : Value → Option Value} {ok : Bool} {zv : Value}
  (ho : o.op = .lookup t m k ok) (hT : (X.T t).k = .map kt et) (hK : KeyOK X.P kt Kp) (hm : ev s.ρ m = .mpp g) (hk : ev s.ρ k = .v kv) (hg : gk s.σ g = some (.pr (isMap Kp f))) (hkp : Kp kv)
  (hz : ∀ w,(zeroValue et).run X.P w = .ok zv w) :
  LStep X o s (if ok then .tup [.v ((f kv).getD zv),.v (.bool (f kv).isSome)] else .v ((f kv).getD zv)):=by
 intro β w a hi
 have hT':=tabOK hT rfl
 simp only [TKOK] at hT'
 have e1:=hi.env.ev m
 have e2:=hi.env.ev k
 rw [hm] at e1; rw [hk] at e2
 generalize h1 : a.eval m = v1 at e1
 generalize h2 : a.eval k = v2 at e2
 cases e2
 cases e1 with
 | mpp hb =>
  rename_i b
  obtain ⟨ob,hw,hr⟩:=hi.mem.hp g _ b hg hb
  cases hr with
  | pr hmp =>
   obtain ⟨es,clock,rfl,hes,hlk⟩:=hmp
   have hget:=run_getObj' (P:=X.P) hw
   have hfind:=hK.find es.toList kv w hes hkp
   have hl:=hlk kv hkp
   rw [← findP_look es.toList kv 0] at hl
   have he : execOp a.eval o = (do pure (.value (← Instr.lookup t (a.eval m) (a.eval k) ok))):=by unfold execOp; simp only [ho]
   have hrun : (Instr.lookup t (.map (some b)) kv ok).run X.P w = .ok (if ok then .tuple #[(f kv).getD zv,.bool (f kv).isSome] else (f kv).getD zv) w:=by
    cases hf : findP es.toList kv 0 with
    | none =>
     rw [hf] at hfind hl
     have hl' : f kv = none:=hl.symm
     simp only [Instr.lookup,Sem.run_bind,run_under hT',Result.andThen_ok,hget,Sem.run_pure,hK.chk _ _ _ hkp,hfind,hz,hl']
     rfl
    | some p =>
     obtain ⟨i,u⟩:=p
     rw [hf] at hfind hl
     have hl' : f kv = some u:=hl.symm
     simp only [Instr.lookup,Sem.run_bind,run_under hT',Result.andThen_ok,hget,Sem.run_pure,hK.chk _ _ _ hkp,hfind,hl']
     rfl
   refine ⟨_,by rw [he,Sem.run_bind,h1,h2,hrun]; rfl,?_⟩
   cases ok with
   | true=>exact .tup (.cons (.v _) (.cons (.v _) .nil))
   | false=>exact .v _
end
section
open Go.RowKit
variable {X : Ctx}
def isIfc : TK → Bool
 | .ifc | .bad=>true
 | _=>false
theorem not_ifc {t : Nat} (h : isIfc (X.T t).k = false) : ∃ d,X.P.underlying t = some d ∧ ∀ ms,d ≠ .interface ms:=by
 have hk : known (X.T t).k = true:=by
  cases hkk : (X.T t).k <;> rw [hkk] at h <;> first | rfl | (simp [isIfc] at h)
 have hd:=(X.ok t hk).desc
 cases hkk : (X.T t).k <;> rw [hkk] at hd h <;> simp only [TKOK] at hd <;> first
  | (simp [isIfc] at h; done)
  | exact ⟨_,hd,fun ms e=>by cases e⟩
  | (obtain ⟨f,hd,_⟩:=hd; exact ⟨_,hd,fun ms e=>by cases e⟩)
  | (obtain ⟨p,q,r,hd⟩:=hd; exact ⟨_,hd,fun ms e=>by cases e⟩)
def wrapT (ok : Bool) (x : SV) : SV:=bif ok then .tup [x,.v (.bool true)] else x
theorem VStep.assertT {ρ : Env} {o : Oper} {x : Operand} {xt a : Nat} {ok : Bool} {y : SV} (ho : o.op = .typeAssert x xt a ok) (hx : ev ρ x = .ifc a y) (hi : isIfc (X.T a).k = false) : VStep X ρ o (wrapT ok y):=by
 intro β ac he
 obtain ⟨d,hd,hn⟩:=not_ifc hi
 have h:=he.ev x
 rw [hx] at h
 generalize hv : ac.eval x = v at h
 cases h with
 | ifc hy =>
  rename_i u
  have hE : execOp ac.eval o = (do pure (.value (← Instr.typeAssert (ac.eval x) xt a ok))):=by unfold execOp; simp only [ho]
  refine ⟨if ok then .tuple #[u,.bool true] else u,fun w=>?_,?_⟩
  ·rw [hE,Sem.run_bind,hv]
   have : (Instr.typeAssert (.iface a u) xt a ok).run X.P w = .ok (if ok then .tuple #[u,.bool true] else u) w:=by
    simp only [Instr.typeAssert,Sem.run_bind,run_under hd,Result.andThen_ok]
    cases d <;> simp <;> exact absurd rfl (hn _)
   rw [this]; rfl
  ·cases ok with
   | true=>exact .tup (.cons hy (.cons (.v _) .nil))
   | false=>exact hy
theorem VStep.assertF {ρ : Env} {o : Oper} {x : Operand} {xt t a : Nat} {y : SV} {z : Value} (ho : o.op = .typeAssert x xt a true) (hx : ev ρ x = .ifc t y) (hne : Nat.beq t a = false) (hi : isIfc (X.T a).k = false) (hz : ∀ w,(zeroValue a).run X.P w = .ok z w) : VStep X ρ o (.tup [.v z,.v (.bool false)]):=by
 intro β ac he
 obtain ⟨d,hd,hn⟩:=not_ifc hi
 have h:=he.ev x
 rw [hx] at h
 generalize hv : ac.eval x = v at h
 have hta : ¬ t = a:=ne_of_beq hne
 cases h with
 | ifc hy =>
  rename_i u
  have hE : execOp ac.eval o = (do pure (.value (← Instr.typeAssert (ac.eval x) xt a true))):=by unfold execOp; simp only [ho]
  refine ⟨.tuple #[z,.bool false],fun w=>?_,.tup (.cons (.v _) (.cons (.v _) .nil))⟩
  rw [hE,Sem.run_bind,hv]
  have : (Instr.typeAssert (.iface t u) xt a true).run X.P w = .ok (.tuple #[z,.bool false]) w:=by
   simp only [Instr.typeAssert,Sem.run_bind,run_under hd,Result.andThen_ok]
   cases d <;> simp [hta,hz] <;> exact absurd rfl (hn _)
  rw [this]; rfl
def hasAll (P : Program) (t a : Nat) : Option Bool :=
 match P.underlying a,P.info? t with
 | some (.interface want),some inf=>some (Instr.missingMethod want inf.methods).isNone
 | _,_=>none
theorem VStep.assertI {ρ : Env} {o : Oper} {x : Operand} {xt t a : Nat} {ok : Bool} {y : SV} (ho : o.op = .typeAssert x xt a ok) (hx : ev ρ x = .ifc t y) (hh : hasAll X.P t a = some true) : VStep X ρ o (wrapT ok (.ifc t y)):=by
 intro β ac he
 have h:=he.ev x
 rw [hx] at h
 generalize hv : ac.eval x = v at h
 unfold hasAll at hh
 split at hh
 ·rename_i want inf hu hinf
  simp only [Option.some.injEq] at hh
  cases h with
  | ifc hy =>
   rename_i u
   have hE : execOp ac.eval o = (do pure (.value (← Instr.typeAssert (ac.eval x) xt a ok))):=by unfold execOp; simp only [ho]
   refine ⟨if ok then .tuple #[.iface t u,.bool true] else .iface t u,fun w=>?_,?_⟩
   ·rw [hE,Sem.run_bind,hv]
    have hti : (typeInfo t).run X.P w = .ok inf w:=by simp [typeInfo,hinf]
    have hmm : Instr.missingMethod want inf.methods = none:=Option.isNone_iff_eq_none.1 hh
    have : (Instr.typeAssert (.iface t u) xt a ok).run X.P w = .ok (if ok then .tuple #[.iface t u,.bool true] else .iface t u) w:=by
     simp only [Instr.typeAssert,Sem.run_bind,run_under hu,Result.andThen_ok,hti,hmm,Sem.run_pure]
    rw [this]; rfl
   ·cases ok with
    | true=>exact .tup (.cons (.ifc hy) (.cons (.v _) .nil))
    | false=>exact .ifc hy
 ·cases hh
theorem VStep.assertIF {ρ : Env} {o : Oper} {x : Operand} {xt t a : Nat} {y : SV} (ho : o.op = .typeAssert x xt a true) (hx : ev ρ x = .ifc t y) (hh : hasAll X.P t a = some false) (hz : ∀ w,(zeroValue a).run X.P w = .ok .nilIface w) : VStep X ρ o (.tup [.v .nilIface,.v (.bool false)]):=by
 intro β ac he
 have h:=he.ev x
 rw [hx] at h
 generalize hv : ac.eval x = v at h
 unfold hasAll at hh
 split at hh
 ·rename_i want inf hu hinf
  simp only [Option.some.injEq] at hh
  cases h with
  | ifc hy =>
   rename_i u
   have hE : execOp ac.eval o = (do pure (.value (← Instr.typeAssert (ac.eval x) xt a true))):=by unfold execOp; simp only [ho]
   refine ⟨.tuple #[.nilIface,.bool false],fun w=>?_,.tup (.cons (.v _) (.cons (.v _) .nil))⟩
   rw [hE,Sem.run_bind,hv]
   have hti : (typeInfo t).run X.P w = .ok inf w:=by simp [typeInfo,hinf]
   cases hmm : Instr.missingMethod want inf.methods with
   | none=>rw [hmm] at hh; simp at hh
   | some m =>
    have : (Instr.typeAssert (.iface t u) xt a true).run X.P w = .ok (.tuple #[.nilIface,.bool false]) w:=by
     simp only [Instr.typeAssert,Sem.run_bind,run_under hu,Result.andThen_ok,hti,hmm,if_true,hz,Sem.run_pure]
    rw [this]; rfl
 ·cases hh
end
section
open Go.RowKit
variable {X : Ctx}
def cmpOk (P : Program) (t : Nat) : Bool :=
 match P.info? t with
 | some i=>i.comparable
 | none=>false
inductive IfcEq (X : Ctx) : Value → Value → Bool → Prop
 | nl (t : Nat) (v : Value) : IfcEq X .nilIface (.iface t v) false
 | nr (t : Nat) (v : Value) : IfcEq X (.iface t v) .nilIface false
 | ty {t t' : Nat} (v v' : Value) (h : Nat.beq t t' = false) : IfcEq X (.iface t v) (.iface t' v') false
 | pt {t e : Nat} (b o o' : Nat) (h : (X.T t).k = .ptr e) (hc : cmpOk X.P t = true) (hk : known (X.T e).k = true) (hs : Nat.beq (X.T e).size 0 = false) : IfcEq X (.iface t (.pointer (some ⟨b,o,none⟩))) (.iface t (.pointer (some ⟨b,o',none⟩))) (decide (o = o'))
theorem IfcEq.pe {X : Ctx} {t e : Nat} (b o : Nat) (h : (X.T t).k = .ptr e) (hc : cmpOk X.P t = true) (hk : known (X.T e).k = true) (hs : Nat.beq (X.T e).size 0 = false) : IfcEq X (.iface t (.pointer (some ⟨b,o,none⟩))) (.iface t (.pointer (some ⟨b,o,none⟩))) true:=by
 have q:=IfcEq.pt (X:=X) b o o h hc hk hs
 rwa [show decide (o = o) = true from decide_eq_true rfl] at q
theorem run_ifcEq {a b : Value} {r : Bool} {t : Nat} {w : World} (ht : (X.T t).k = .ifc) (h : IfcEq X a b r) : (Op.equal t a b).run X.P w = .ok r w:=by
 obtain ⟨ms,hT⟩:=tabOK ht rfl
 unfold Op.equal Op.maxDepth
 rw [show (10000 : Nat) = 9998 + 1 + 1 from rfl]
 generalize 9998 = d
 cases h with
 | nl=>simp [Op.equalIn,underlying,hT]
 | nr=>simp [Op.equalIn,underlying,hT]
 | ty v v' h =>
  have hne:=ne_of_beq h
  simp [Op.equalIn,underlying,hT,hne]
 | pt bb o o' hk hc hke hs =>
  rename_i tt e
  have hT2:=tabOK hk rfl
  simp only [TKOK] at hT2
  unfold cmpOk at hc
  split at hc
  ·rename_i inf hinf
   have hti : (typeInfo tt).run X.P w = .ok inf w:=by simp [typeInfo,hinf]
   have hsz:=run_size (X:=X) (w:=w) hke
   have hs0 : ¬ (X.T e).size = 0:=fun hh=>by rw [hh] at hs; simp at hs
   have hsame : (sameAddr ⟨bb,o,none⟩ ⟨bb,o',none⟩).run X.P w = .ok (decide (o = o')) w:=by
    have hbe : ((⟨bb,o,none⟩ : Addr) == ⟨bb,o',none⟩) = decide (o = o'):=by
     by_cases h : o = o'
     ·subst h; simp
     ·have : ¬ ((⟨bb,o,none⟩ : Addr) = ⟨bb,o',none⟩):=by simp [h]
      simp [h]
    unfold sameAddr
    simp [hbe]
   have hu : (underlying t).run X.P w = .ok (.interface ms) w:=run_under hT
   have hu2 : (underlying tt).run X.P w = .ok (.pointer e) w:=run_under hT2
   rw [Op.equalIn]
   simp only [Sem.run_bind,hu,Result.andThen_ok,ne_eq,not_true_eq_false,if_false,hti,hc,Bool.not_true,Bool.false_eq_true]
   rw [Op.equalIn]
   simp only [Sem.run_bind,hu2,Result.andThen_ok,hsz,ne_eq,hs0,not_false_eq_true,if_true,hsame]
  ·cases hc
theorem IfcEq.notNil {a b : Value} {r : Bool} (h : IfcEq X a b r) : ¬ (a = .nilIface ∧ b = .nilIface) ∧ ¬ ((∃ u,a = .agg u) ∧ ∃ u,b = .agg u):=by
 cases h <;> simp
theorem VStep.eqI {ρ : Env} {o : Oper} {op : BinOp} {t ty : Nat} {x y : Operand} {r : Bool} (ho : o.op = .binOp op t x y ty) (hop : op = .eql ∨ op = .neq) (ht : (X.T t).k = .ifc)
  (h : ∀ β u v,Rep β (ev ρ x) u → Rep β (ev ρ y) v → IfcEq X u v r) : VStep X ρ o (.v (.bool (match op with | .eql=>r | _=>!r))):=by
 intro β a he
 have hq:=h β _ _ (he.ev x) (he.ev y)
 generalize hvx : a.eval x = vx at hq
 generalize hvy : a.eval y = vy at hq
 refine ⟨_,fun w=>?_,.v _⟩
 have hr:=run_ifcEq (w:=w) ht hq
 have e : (binOp .eql t vx vy = do pure (.bool (← Op.equal t vx vy))) ∧ (binOp .neq t vx vy = do pure (.bool (!(← Op.equal t vx vy)))):=by
  cases hq <;> exact ⟨rfl,rfl⟩
 have hE : execOp a.eval o = (do pure (.value (← (do eqGuard op t x y vx vy; binOp op t vx vy : Sem Value)))):=by unfold execOp; simp only [ho,hvx,hvy]
 rw [hE,Sem.run_bind,Sem.run_bind,eqGuard_other hq.notNil.1 hq.notNil.2]
 simp only [Result.andThen_ok]
 rcases hop with rfl | rfl
 ·rw [e.1,Sem.run_bind,hr]; rfl
 ·rw [e.2,Sem.run_bind,hr]; rfl
end
section
open Go.RowKit
variable {X : Ctx}
theorem Reps.append {β : Bl} : ∀ {xs xs' : List SV} {ys ys' : List Value},Reps β xs ys → Reps β xs' ys' → Reps β (xs ++ xs') (ys ++ ys')
 | _,_,_,_,.nil,h=>h
 | _,_,_,_,.cons a t,h=>.cons a (Reps.append t h)
theorem OpW.callV {Q : Exit → Act → World → Prop} {o : Oper} {K : Act → World → Prop} {s : S} {f : Nat} {x : Operand} {fs cs : List SV} {as : Array Operand} {ats : Array TypeId} {args : List SV} {σc : GH} {k k2 : Nat} {ι : Type} {I : ι → Prop} {post : ι → Post}
  (ho : o.op = .call { callee:=.value x,args:=as,argTypes:=ats }) (hx : ev s.ρ x = .fn (.func f) fs cs) (hF : FunC X.P X.M.μ f args σc k k2 I post) (ml : List Nat)
  (hput : putOk X.n o.dst = true) (hc : chkC X.M s.ds k k2 s.nx ml = true) (he : entA (mo ml s.nx) (fs ++ evs s.ρ as.toList ++ cs) args) (hgh : entG (mo ml s.nx) s.σ σc)
  (next : ∀ i,I i → ∀ ρ',putE X.n (frgE (ml.drop k) s.ρ) o.dst (ren (mo ml s.nx) (post i).x) = some ρ' → GK X K (aftS s ml k k2 ρ' (post i))) : OpW X Q o s K:=by
 refine OpW.enter hF ml (xs:=fs ++ evs s.ρ as.toList ++ cs) (fun β w a hi=>?_) hc he hgh next (fun ρ=>putOk_some hput)
 have h:=hi.env.ev x
 rw [hx] at h
 generalize hv : a.eval x = v at h
 cases h with
 | fn h1 h2 =>
  rename_i u1 u2
  refine ⟨u1.toArray ++ as.map a.eval ++ u2.toArray,?_,?_⟩
  ·unfold execOp
   simp only [ho,resolve,hv,Deferred.ofValue]
   rfl
  ·have:=Reps.append (Reps.append h1 (evs_eval hi.env as)) h2
   simpa using this
theorem VStep.minmax {ρ : Env} {o : Oper} {b : Builtin} {x y : Operand} {ats : Array TypeId} {k : IntKind} {m n : Int} (ho : o.op = .call { callee:=.builtin b,args:=#[x,y],argTypes:=ats })
  (hx : ev ρ x = .v (.int k m)) (hy : ev ρ y = .v (.int k n)) {r : Value} (hr : ∀ w cs,(builtin b ats o.type cs #[.int k m,.int k n]).run X.P w = .ok (.value r) w) : VStep X ρ o (.v r):=by
 intro β a he
 have h1:=he.ev x
 have h2:=he.ev y
 rw [hx] at h1; rw [hy] at h2
 generalize hvx : a.eval x = vx at h1
 generalize hvy : a.eval y = vy at h2
 cases h1; cases h2
 refine ⟨r,fun w=>?_,.v _⟩
 unfold execOp
 simp only [ho,resolve,List.map_toArray,List.map_cons,List.map_nil,hvx,hvy]
 rw [Sem.run_bind]
 exact hr w _
end
section
open Go.RowKit
variable {X : Ctx}
theorem run_arrEq {P : Program} {w : World} {t e len d : Nat} {k : IntKind} {zs zs' : List Int} (ht : P.underlying t = some (.array len e)) (he : P.underlying e = some (.int k)) (hs : (sizeOf e).run P w = .ok 1 w) (h1 : zs.length = len) (h2 : zs'.length = len) :
  (Op.equalIn (d + 2) t (.agg (zs.map (Value.int k)).toArray) (.agg (zs'.map (Value.int k)).toArray)).run P w = .ok (decide (zs = zs')) w:=by
 rw [Op.equalIn]
 simp only [Sem.run_bind,run_under ht,Result.andThen_ok,hs]
 simp only [Std.Legacy.Range.forIn_eq_forIn_range',Std.Legacy.Range.size]
 have hag : (isAgg e).run P w = .ok false w:=by simp [isAgg,underlying,he]
 have hpart : ∀ (l : List Int) (i : Nat) (hi : i < l.length),(part e (l.map (Value.int k)).toArray (i * 1)).run P w = .ok (.int k l[i]) w:=by
  intro l i hi
  have hg : (l.map (Value.int k)).toArray[i]? = some (.int k l[i]):=by simp [hi]
  simp only [part,Sem.run_bind,hag,Result.andThen_ok,Bool.false_eq_true,if_false,Nat.mul_one,hg,Sem.run_pure]
 have heq : ∀ a b : Int,(Op.equalIn (d + 1) e (.int k a) (.int k b)).run P w = .ok (a == b) w:=by
  intro a b
  rw [Op.equalIn]
  simp only [Sem.run_bind,run_under he,Result.andThen_ok,if_true,Sem.run_pure]
 have key : ∀ (m i : Nat),i + m = len → (∀ j,j < i → zs[j]? = zs'[j]?) →
   ((forIn (List.range' i m) ((none : Option Bool),()) fun i (__s : Option Bool × Unit)=>(do
      let __do_lift ← part e (List.map (Value.int k) zs).toArray (i * 1)
      let __do_lift_1 ← part e (List.map (Value.int k) zs').toArray (i * 1)
      let __do_lift ← Op.equalIn (d + 1) e __do_lift __do_lift_1
      if (!__do_lift) = true then pure (ForInStep.done (some false,())) else pure (ForInStep.yield (none,())) : Sem (ForInStep (Option Bool × Unit)))).run P w) = .ok (if zs = zs' then none else some false,()) w:=by
  intro m
  induction m with
  | zero =>
   intro i hi hj
   have : zs = zs':=List.ext_getElem? fun j=>by
    rcases Nat.lt_or_ge j i with h | h
    ·exact hj j h
    ·rw [List.getElem?_eq_none (by omega),List.getElem?_eq_none (by omega)]
   simp [this]
  | succ m ih =>
   intro i hi hj
   have hi1 : i < zs.length:=by omega
   have hi2 : i < zs'.length:=by omega
   simp only [List.range'_succ,List.forIn_cons,Sem.run_bind,hpart zs i hi1,hpart zs' i hi2,Result.andThen_ok,heq]
   by_cases hz : zs[i] = zs'[i]
   ·have hb : (zs[i] == zs'[i]) = true:=by simp [hz]
    simp only [hb,Bool.not_true,Bool.false_eq_true,if_false,Sem.run_pure,Result.andThen_ok]
    exact ih (i + 1) (by omega) fun j hj'=>by
     by_cases e : j = i
     ·subst e; rw [List.getElem?_eq_getElem hi1,List.getElem?_eq_getElem hi2,hz]
     ·exact hj j (by omega)
   ·have hb : (zs[i] == zs'[i]) = false:=by simp [hz]
    have hne : ¬ zs = zs':=fun e=>hz (by subst e; rfl)
    simp only [hb,Bool.not_false,if_true,Sem.run_pure,Result.andThen_ok,if_neg hne]
 have:=key len 0 (by omega) (fun j hj=>by omega)
 rw [show (len - 0 + 1 - 1) / 1 = len from by omega,this]
 simp only [Result.andThen_ok]
 by_cases hz : zs = zs'
 ·simp [hz]
 ·simp [hz]
theorem Rep.ints {β : Bl} {k : IntKind} : ∀ {zs : List Int} {vs : List Value},Reps β (zs.map fun z=>SV.v (.int k z)) vs → vs = zs.map (Value.int k)
 | [],_,h=>by cases h; rfl
 | z :: r,_,h=>by
  cases h with
  | cons a t=>cases a; rw [Rep.ints t]; rfl
theorem VStep.eqA {ρ : Env} {o : Oper} {op : BinOp} {t ty len e : Nat} {x y : Operand} {k : IntKind} {zs zs' : List Int} (ho : o.op = .binOp op t x y ty) (hop : op = .eql ∨ op = .neq) (ht : (X.T t).k = .arr len e) (he : (X.T e).k = .int k) (hs : (X.T e).size = 1)
  (hg : X.P.eqGuardType X.P.depth t = false) (hx : ev ρ x = .agg (zs.map fun z=>.v (.int k z))) (hy : ev ρ y = .agg (zs'.map fun z=>.v (.int k z))) (h1 : zs.length = len) (h2 : zs'.length = len) :
  VStep X ρ o (.v (.bool (match op with | .eql=>decide (zs = zs') | _=>!decide (zs = zs')))):=by
 intro β a hE
 have hT:=tabOK ht rfl
 have hTe:=tabOK he rfl
 simp only [TKOK] at hT hTe
 have e1:=hE.ev x
 have e2:=hE.ev y
 rw [hx] at e1; rw [hy] at e2
 generalize hvx : a.eval x = vx at e1
 generalize hvy : a.eval y = vy at e2
 cases e1 with
 | agg e1=>cases e2 with
  | agg e2 =>
   rw [Rep.ints e1] at hvx
   rw [Rep.ints e2] at hvy
   refine ⟨_,fun w=>?_,.v _⟩
   have hsz : (sizeOf e).run X.P w = .ok 1 w:=by have:=run_size (X:=X) (w:=w) (t:=e) (by rw [he]; rfl); rw [hs] at this; exact this
   have hr : (Op.equal t (.agg (zs.map (Value.int k)).toArray) (.agg (zs'.map (Value.int k)).toArray)).run X.P w = .ok (decide (zs = zs')) w:=run_arrEq (d:=9998) hT hTe hsz h1 h2
   have hgd : (eqGuard op t x y (.agg (zs.map (Value.int k)).toArray) (.agg (zs'.map (Value.int k)).toArray)).run X.P w = .ok () w:=by
    have hp : (program : Sem Program).run X.P w = .ok X.P w:=rfl
    unfold eqGuard
    rcases hop with rfl | rfl <;> simp [hp,hg]
   have hEx : execOp a.eval o = (do pure (.value (← (do eqGuard op t x y (a.eval x) (a.eval y); binOp op t (a.eval x) (a.eval y) : Sem Value)))):=by unfold execOp; simp only [ho]
   rw [hEx,hvx,hvy,Sem.run_bind,Sem.run_bind,hgd]
   simp only [Result.andThen_ok]
   have eb : ∀ u v : Array Value,(binOp .eql t (.agg u) (.agg v) = do pure (Value.bool (← Op.equal t (.agg u) (.agg v)))) ∧ (binOp .neq t (.agg u) (.agg v) = do pure (Value.bool (!(← Op.equal t (.agg u) (.agg v))))):=fun u v=>⟨rfl,rfl⟩
   rcases hop with rfl | rfl
   ·rw [(eb _ _).1,Sem.run_bind,hr]; rfl
   ·rw [(eb _ _).2,Sem.run_bind,hr]; rfl
end
section
open Go.RowKit
variable {X : Ctx}
def FunD (P : Program) (μ : Nat → Option Obj) (f : Nat) (args : List SV) (σ : GH) (k k2 : Nat) {ι : Type} (I : ι → Prop) (post : ι → Post) : Prop :=
 IsGo P f ∧ ∀ w β vs u,Mem (mc μ w k k2 β σ) σ k2 β w → Reps β args vs → CallsD P f vs.toArray u w (fun e u' w'=>u' = u ∧ FPost (mc μ w k k2 β σ) I post e w')
theorem FunD.enter {P : Program} {T : Nat → TI} {ok : TabOK P T} {μ : Nat → Option Obj} {f : Nat} {fn : Func} {c : Code} {n : Nat} {args : List SV} {σ : GH} {k k2 : Nat} {ι : Type} {I : ι → Prop} {post : ι → Post}
  (hf : P.funcs[f]? = some fn) (hb : fn.body = some c) (hnm : (fn.name == "runtime.NumGoroutine") = false) (hn : fn.ntmps = n) (hl : Nat.ble args.length n = true)
  (h : ∀ w β,GC ⟨P,T,ok,n,mc μ w k k2 β σ⟩ (bodyPost P fn (FPost (mc μ w k k2 β σ) I post)) c ⟨argE 0 args,σ,k2,[]⟩) : FunD P μ f args σ k k2 I post:=by
 refine ⟨isGo hf hnm (by rw [hb]; rfl),fun w β vs u hm hr=>?_⟩
 refine callsD_of_wp hf hb (h w β β w _ ⟨hm,⟨?_,?_⟩,.nil⟩)
 ·have:=hr.length
  have:=Nat.le_of_ble_eq_true hl
  simp; omega
 ·intro i
  obtain ⟨h1,h2⟩:=lk_argE args 0 i
  have hlen:=hr.length
  rcases Nat.lt_or_ge i args.length with hi | hi
  ·have e:=List.getElem?_eq_getElem hi
   obtain ⟨y,hy,hrep⟩:=hr.get i _ e
   rw [h2 i _ e (by omega)]
   have : (vs.toArray ++ Array.replicate (fn.ntmps - vs.toArray.size) undef).getD i undef = y:=by
    have hlt : i < vs.length:=by omega
    rw [Array.getD_eq_getD_getElem?,Array.getElem?_append_left (by simpa using hlt)]
    simp [hy]
   rw [this]; exact hrep
  ·rw [h1 (by omega)]; exact .any _
def bodyPostE (P : Program) (fn : Func) (R : Ending → World → Prop) : Exit → Act → World → Prop
 | .normal,a,w | .ret,a,w=>Leaves P fn a.tmps R a.defers .returning w
 | _,_,_=>False
theorem bodyPostE_D {P : Program} {fn : Func} {R : Ending → World → Prop} : ∀ (e : Exit) (a : Act) (w : World),bodyPostE P fn R e a w → bodyPostD P fn R e a w
 | .normal,_,_,h=>h
 | .ret,_,_,h=>h
 | .panic _,_,_,h=>h.elim
 | .outgrown,_,_,h=>h.elim
 | .exit _,_,_,h=>h
 | .goto _,_,_,h=>h
theorem Fun.enterDf {P : Program} {T : Nat → TI} {ok : TabOK P T} {μ : Nat → Option Obj} {f : Nat} {fn : Func} {c : Code} {n : Nat} {args : List SV} {σ : GH} {k k2 : Nat} {ι : Type} {I : ι → Prop} {post : ι → Post}
  (hf : P.funcs[f]? = some fn) (hb : fn.body = some c) (hnm : (fn.name == "runtime.NumGoroutine") = false) (hn : fn.ntmps = n) (hl : Nat.ble args.length n = true)
  (h : ∀ w β,GC ⟨P,T,ok,n,mc μ w k k2 β σ⟩ (bodyPostE P fn (FPost (mc μ w k k2 β σ) I post)) c ⟨argE 0 args,σ,k2,[]⟩) : FunC P μ f args σ k k2 I post:=by
 refine ⟨isGo hf hnm (by rw [hb]; rfl),fun w β vs hm hr=>?_⟩
 refine calls_of_wp_defers hf hb (Code.wp_mono bodyPostE_D (h w β β w _ ⟨hm,⟨?_,?_⟩,.nil⟩))
 ·have:=hr.length
  have:=Nat.le_of_ble_eq_true hl
  simp; omega
 ·intro i
  obtain ⟨h1,h2⟩:=lk_argE args 0 i
  have hlen:=hr.length
  rcases Nat.lt_or_ge i args.length with hi | hi
  ·have e:=List.getElem?_eq_getElem hi
   obtain ⟨y,hy,hrep⟩:=hr.get i _ e
   rw [h2 i _ e (by omega)]
   have : (vs.toArray ++ Array.replicate (fn.ntmps - vs.toArray.size) undef).getD i undef = y:=by
    have hlt : i < vs.length:=by omega
    rw [Array.getD_eq_getD_getElem?,Array.getElem?_append_left (by simpa using hlt)]
    simp [hy]
   rw [this]; exact hrep
  ·rw [h1 (by omega)]; exact .any _
theorem OpW.defer {Q : Exit → Act → World → Prop} {o : Oper} {K : Act → World → Prop} {s : S} {f : Nat} {as : Array Operand} {ats : Array TypeId} {ρ' : Env}
  (ho : o.op = .defer { callee:=.value (.func f),args:=as,argTypes:=ats }) (hp : putE X.n s.ρ o.dst (.v undef) = some ρ')
  (next : GK X K ⟨ρ',s.σ,s.nx,⟨.func f,[],evs s.ρ as.toList⟩ :: s.ds⟩) : OpW X Q o s K:=by
 intro β w a hi
 have he : (execOp a.eval o).run X.P w = .ok (.defer { target:=.fn (.func f) #[],args:=as.map a.eval }) w:=by
  unfold execOp
  simp only [ho,resolve]
  show (Sem.run X.P (do pure (Next.defer (← Deferred.ofValue (.func (.func f) #[] #[]) (as.map a.eval)))) w) = _
  simp [Deferred.ofValue]
 unfold Oper.wp
 rw [he]
 simp only [Oper.upon]
 refine next β w _ ⟨hi.mem,?_,?_⟩
 ·exact EnvOK.put (a:={ a with defers:=_ :: a.defers }) ⟨hi.env.size,hi.env.get⟩ hp (.v _)
 ·rw [put_defers]
  have h1:=evs_eval hi.env as
  have:=RepD.cons (d:=⟨.func f,[],evs s.ρ as.toList⟩) (c:=[]) (a:=(as.map a.eval).toList) .nil h1 hi.ds
  rw [Array.toArray_toList] at this
  exact this
theorem GK.pop {fn : Func} {R : Ending → World → Prop} {e : Exit} (he : e = .ret ∨ e = .normal) {s : S} {f : Nat} {xs args : List SV} {ds : List SD} {σc : GH} {k k2 : Nat} {ι : Type} {I : ι → Prop} {post : ι → Post}
  (hds : s.ds = ⟨.func f,[],xs⟩ :: ds) (hF : FunD X.P X.M.μ f args σc k k2 I post) (ml : List Nat) (hc : chkC X.M ds k k2 s.nx ml = true) (hx : entA (mo ml s.nx) xs args) (hgh : entG (mo ml s.nx) s.σ σc)
  (next : ∀ i,I i → GK X (bodyPostE X.P fn R .ret) ⟨frgE (ml.drop k) s.ρ,addG (mo ml s.nx) (frgG (ml.drop k) (dels ml s.σ)) (post i).σ,s.nx + ((post i).nx - k2),ds⟩) : GK X (bodyPostE X.P fn R e) s:=by
 intro β w a hi
 have key : Leaves X.P fn a.tmps R a.defers .returning w:=by
  have hd:=hi.ds
  rw [hds] at hd
  generalize hae : a.defers = ad at hd ⊢
  cases hd with
  | cons hcp ha t =>
   rename_i cv av es
   cases hcp
   refine ⟨by simp,.func f,#[],f,av.toArray,rfl,?_,?_⟩
   ·show (callFunc f (av.toArray ++ #[])).run X.P w = _
    rw [Array.append_empty]
    exact hF.1 _ _
   ·have hm:=hi.mem.callee hc hgh
    have hcall:=hF.2 w _ _ .returning hm (entA_rep (fun _=>rfl) hx ha)
    refine CallsD.mono hcall fun e' u' w' hq=>?_
    obtain ⟨rfl,v,i,β',rfl,hI,hv,hm'⟩:=hq
    obtain ⟨hM,via,ext⟩:=hi.mem.back hc hgh hm'
    have:=next i hI _ w' { a with defers:=es } ⟨hM,⟨hi.env.size,fun j=>frgE_rep ext (hi.env.get j)⟩,t.ok (fun g v hg=>ext g v (outN_iff hg)) (okDs_all (by simp only [chkC,Bool.and_eq_true] at hc; exact hc.2.2))⟩
    exact this
 rcases he with rfl | rfl <;> exact key
theorem GK.finD {fn : Func} {ι : Type} {I : ι → Prop} {post : ι → Post} {s : S} {e : Exit} (he : e = .ret ∨ e = .normal) {c : Prop} {r : SV} (hr : resV X.T s fn.results.toList = some (c,r)) (hc : c) (i : ι) (hI : I i) (ml : List Nat)
  (k : Ent X.M ⟨[(0,r)],s.σ,s.nx,s.ds⟩ ⟨[(0,(post i).x)],(post i).σ,(post i).nx,[]⟩ ml) : GK X (bodyPostE X.P fn (FPost X.M I post) e) s:=by
 intro β w a hi
 have h:=GK.fin (X:=X) (fn:=fn) (I:=I) (post:=post) (s:=s) (e:=.ret) (.inl rfl) hr hc i hI ml k β w a hi
 obtain ⟨hd,v,h1,h2⟩:=h
 have key : Leaves X.P fn a.tmps (FPost X.M I post) a.defers .returning w:=by
  rw [hd]; exact ⟨v,h1,h2⟩
 rcases he with rfl | rfl <;> exact key
end
section
open Go.RowKit Classical
variable {X : Ctx}
def arrKey (k : IntKind) (len : Nat) (v : Value) : Prop:=∃ zs : List Int,zs.length = len ∧ v = .agg (zs.map (Value.int k)).toArray
theorem keyOK_arr {P : Program} {kt e len : Nat} {k : IntKind} (ht : P.underlying kt = some (.array len e)) (he : P.underlying e = some (.int k)) (hs : ∀ w,(sizeOf e).run P w = .ok 1 w) : KeyOK P kt (arrKey k len):=by
 have hag : ∀ w,(isAgg e).run P w = .ok false w:=fun w=>by simp [isAgg,underlying,he]
 have hpart : ∀ w (l : List Int) (i : Nat) (hi : i < l.length),(part e (l.map (Value.int k)).toArray (i * 1)).run P w = .ok (.int k l[i]) w:=by
  intro w l i hi
  have hg : (l.map (Value.int k)).toArray[i]? = some (.int k l[i]):=by simp [hi]
  simp only [part,Sem.run_bind,hag,Result.andThen_ok,Bool.false_eq_true,if_false,Nat.mul_one,hg,Sem.run_pure]
 refine ⟨?_,?_,?_⟩
 ·rintro em _ w ⟨zs,hl,rfl⟩
  rw [show (10000 : Nat) = 9998 + 1 + 1 from rfl]
  generalize 9998 = d
  rw [Instr.checkKey]
  simp only [Sem.run_bind,run_under ht,Result.andThen_ok,hs]
  simp only [Std.Legacy.Range.forIn_eq_forIn_range',Std.Legacy.Range.size]
  have hck : ∀ n : Int,(Instr.checkKey em (d + 1) e (.int k n)).run P w = .ok () w:=by
   intro n
   rw [Instr.checkKey]
   simp only [Sem.run_bind,run_under he,Result.andThen_ok]
   rfl
  have key : ∀ (m i : Nat),i + m = len →
    ((forIn (List.range' i m) PUnit.unit fun i (__s : PUnit)=>(do
      let __do_lift ← sizeOf e
      let __do_lift ← part e (List.map (Value.int k) zs).toArray (i * __do_lift)
      Instr.checkKey em (d + 1) e __do_lift
      pure (ForInStep.yield PUnit.unit) : Sem (ForInStep PUnit))).run P w) = .ok PUnit.unit w:=by
   intro m
   induction m with
   | zero=>intro i _; simp
   | succ m ih =>
    intro i hi
    have hi1 : i < zs.length:=by omega
    simp only [List.range'_succ,List.forIn_cons,Sem.run_bind,hs,hpart w zs i hi1,Result.andThen_ok,hck,Sem.run_pure]
    exact ih (i + 1) (by omega)
  have:=key len 0 (by omega)
  rw [show (len - 0 + 1 - 1) / 1 = len from by omega,this]
  rfl
 ·rintro es _ w hes ⟨zs,hl,rfl⟩
  have ask : ∀ (es : List MapEntry) (i : Nat),(∀ e,e ∈ es → arrKey k len e.key) → (Instr.findAsking kt (.agg (zs.map (Value.int k)).toArray) es i).run P w = .ok (findP es (.agg (zs.map (Value.int k)).toArray) i) w:=by
   intro es
   induction es with
   | nil=>intro i _; rfl
   | cons x r ih =>
    intro i hx
    obtain ⟨zs',hl',hk'⟩:=hx x (by simp)
    have hr : (Op.equal kt (.agg (zs.map (Value.int k)).toArray) (.agg (zs'.map (Value.int k)).toArray)).run P w = .ok (decide (zs = zs')) w:=run_arrEq (d:=9998) ht he (hs w) hl hl'
    simp only [Instr.findAsking,Sem.run_bind,hk',hr,Result.andThen_ok]
    by_cases hz : zs = zs'
    ·subst hz
     simp only [decide_true,if_true,Sem.run_pure,findP,hk']
    ·have hinj : ¬ (Value.agg (zs'.map (Value.int k)).toArray = Value.agg (zs.map (Value.int k)).toArray):=by
      intro h
      have h2 : (zs'.map (Value.int k)) = zs.map (Value.int k):=by
       have h3 : (zs'.map (Value.int k)).toArray = (zs.map (Value.int k)).toArray:=by simpa only [Value.agg.injEq] using h
       have:=congrArg Array.toList h3
       simpa only [List.toList_toArray] using this
      exact hz ((List.map_inj_right (fun a b h=>by simpa using h)).1 h2).symm
     simp only [hz,decide_false,Bool.false_eq_true,if_false,findP,hk',hinj]
     exact ih (i + 1) (fun e h=>hx e (by simp [h]))
  unfold Instr.findKey
  simp only [Sem.run_bind,run_under ht,Result.andThen_ok]
  cases es with
  | nil=>rfl
  | cons x r =>
   obtain ⟨zs',_,hk'⟩:=hes x (by simp)
   have hnow : Instr.findNow (.array len e) (.agg (zs.map (Value.int k)).toArray) (x :: r) 0 = none:=by
    simp only [Instr.findNow,hk',Instr.sameNow]
   simp only [hnow]
   exact ask _ 0 hes
 ·rintro _ ⟨zs,hl,rfl⟩
  rw [show (10000 : Nat) = 9998 + 1 + 1 from rfl]
  simp only [Instr.sameBits]
  have : ∀ l : List Int,((l.map (Value.int k)).zip (l.map (Value.int k))).all (fun p=>Instr.sameBits (9998 + 1) p.1 p.2) = true:=by
   intro l
   induction l with
   | nil=>rfl
   | cons z r ih =>
    simp only [List.map_cons,List.zip_cons_cons,List.all_cons,ih,Bool.and_true]
    simp only [Instr.sameBits]
    simp
  simp [this]
end
section
open Go.RowKit
variable {X : Ctx}
theorem addr_beq (b o o' : Nat) : ((⟨b,o,none⟩ : Addr) == ⟨b,o',none⟩) = decide (o = o'):=by
 by_cases h : o = o'
 ·subst h; simp
 ·simp [h]
theorem VStep.eqP {ρ : Env} {o : Oper} {op : BinOp} {t ty e g p q : Nat} {x y : Operand} (ho : o.op = .binOp op t x y ty) (hop : op = .eql ∨ op = .neq) (ht : (X.T t).k = .ptr e) (hk : known (X.T e).k = true) (hs : Nat.beq (X.T e).size 0 = false)
  (hx : ev ρ x = .ptr g p) (hy : ev ρ y = .ptr g q) : VStep X ρ o (.v (.bool (match op with | .eql=>decide (p = q) | _=>!decide (p = q)))):=by
 intro β a he
 have hT:=tabOK ht rfl
 simp only [TKOK] at hT
 have e1:=he.ev x
 have e2:=he.ev y
 rw [hx] at e1; rw [hy] at e2
 generalize hvx : a.eval x = vx at e1
 generalize hvy : a.eval y = vy at e2
 cases e1 with
 | ptr h1=>cases e2 with
  | ptr h2 =>
   rename_i b b'
   have hbb : b' = b:=by rw [h1] at h2; simp at h2; exact h2.symm
   subst hbb
   refine ⟨_,fun w=>?_,.v _⟩
   have hs0 : ¬ (X.T e).size = 0:=fun hh=>by rw [hh] at hs; simp at hs
   have hsz:=run_size (X:=X) (w:=w) hk
   have hsame : (sameAddr ⟨b',p,none⟩ ⟨b',q,none⟩).run X.P w = .ok (decide (p = q)) w:=by
    unfold sameAddr
    simp [addr_beq]
   have hr : (Op.equal t (.pointer (some ⟨b',p,none⟩)) (.pointer (some ⟨b',q,none⟩))).run X.P w = .ok (decide (p = q)) w:=by
    unfold Op.equal Op.maxDepth
    rw [show (10000 : Nat) = 9999 + 1 from rfl]
    generalize 9999 = d
    have hu : (underlying t).run X.P w = .ok (.pointer e) w:=run_under hT
    rw [Op.equalIn]
    simp only [Sem.run_bind,hu,Result.andThen_ok,hsz,ne_eq,hs0,not_false_eq_true,if_true,hsame]
   have eb : ∀ u v : Option Addr,(binOp .eql t (.pointer u) (.pointer v) = do pure (Value.bool (← Op.equal t (.pointer u) (.pointer v)))) ∧ (binOp .neq t (.pointer u) (.pointer v) = do pure (Value.bool (!(← Op.equal t (.pointer u) (.pointer v))))):=fun u v=>⟨rfl,rfl⟩
   have hE : execOp a.eval o = (do pure (.value (← (do eqGuard op t x y (a.eval x) (a.eval y); binOp op t (a.eval x) (a.eval y) : Sem Value)))):=by unfold execOp; simp only [ho]
   rw [hE,hvx,hvy,Sem.run_bind,Sem.run_bind,eqGuard_other (by simp) (by simp)]
   simp only [Result.andThen_ok]
   rcases hop with rfl | rfl
   ·rw [(eb _ _).1,Sem.run_bind,hr]; rfl
   ·rw [(eb _ _).2,Sem.run_bind,hr]; rfl
theorem VStep.eqNilS {ρ : Env} {o : Oper} {op : BinOp} {t ty e g off n cap : Nat} {x : Operand} (ho : o.op = .binOp op t x (.const (.slice none 0 0)) ty) (hop : op = .eql ∨ op = .neq) (ht : (X.T t).k = .slc e) (hx : ev ρ x = .slc g off n cap) (hc : 0 < cap) :
  VStep X ρ o (.v (.bool (match op with | .eql=>false | _=>true))):=by
 intro β a he
 have hT:=tabOK ht rfl
 simp only [TKOK] at hT
 have e1:=he.ev x
 rw [hx] at e1
 generalize hvx : a.eval x = vx at e1
 cases e1 with
 | slcN h=>omega
 | slc h1 =>
  rename_i b
  refine ⟨_,fun w=>?_,.v _⟩
  have hr : (Op.equal t (.slice (some ⟨b,off,none⟩) n cap) (.slice none 0 0)).run X.P w = .ok false w:=by
   unfold Op.equal Op.maxDepth
   rw [show (10000 : Nat) = 9999 + 1 from rfl]
   generalize 9999 = d
   have hu : (underlying t).run X.P w = .ok (.slice e) w:=run_under hT
   rw [Op.equalIn]
   simp only [Sem.run_bind,hu,Result.andThen_ok,Sem.run_pure]
  have eb : ∀ (u v : Option Addr) (p q r s : Nat),(binOp .eql t (.slice u p q) (.slice v r s) = do pure (Value.bool (← Op.equal t (.slice u p q) (.slice v r s)))) ∧ (binOp .neq t (.slice u p q) (.slice v r s) = do pure (Value.bool (!(← Op.equal t (.slice u p q) (.slice v r s))))):=fun u v p q r s=>⟨rfl,rfl⟩
  have hE : execOp a.eval o = (do pure (.value (← (do eqGuard op t x (.const (.slice none 0 0)) (a.eval x) (.slice none 0 0); binOp op t (a.eval x) (.slice none 0 0) : Sem Value)))):=by unfold execOp; simp only [ho]; rfl
  rw [hE,hvx,Sem.run_bind,Sem.run_bind,eqGuard_other (by simp) (by simp)]
  simp only [Result.andThen_ok]
  rcases hop with rfl | rfl
  ·rw [(eb _ _ _ _ _ _).1,Sem.run_bind,hr]; rfl
  ·rw [(eb _ _ _ _ _ _).2,Sem.run_bind,hr]; rfl
end
section
open Go.RowKit
variable {X : Ctx}
theorem OpW.append2 {Q : Exit → Act → World → Prop} {o : Oper} {s : S} {K : Act → World → Prop} {t t' e : Nat} {x y : Operand} {g off n cap m : Nat} {r : Row} {new : Nat → SV} {RA : Env} {RB : Nat → Env}
  (ho : o.op = .call { callee:=.builtin .append,args:=#[x,y],argTypes:=#[t,t'] }) (hk : (X.T t).k = .slc e) (hk' : isSeq (X.T t').k = true) (hke : known (X.T e).k = true) (hs0 : 0 < (X.T e).size)
  (hx : ev s.ρ x = .slc g off n cap) (hg : gk s.σ g = some (.row r)) (hre : r.e = e) (hrn : off + cap * (X.T e).size ≤ r.n) (hn : n ≤ cap)
  (hsrc : ∀ β w a,Inv X s β w a → Src X (X.T e).size m new β w (a.eval y))
  (h63 : n + m < 9223372036854775808) (hby : (n + m) * (X.T e).bytes ≤ 140737488355328)
  (hA : putE X.n s.ρ o.dst (.slc g off (n + m) cap) = some RA) (hB : ∀ cap',putE X.n s.ρ o.dst (.slc s.nx 0 (n + m) cap') = some (RB cap'))
  (nextA : n + m ≤ cap → GK X K ⟨RA,upG s.σ g (.row (setR r (off + n * (X.T e).size) (aggF new 0 (m * (X.T e).size)))),s.nx,s.ds⟩)
  (nextB : cap < n + m → ∀ cap' f,n + m ≤ cap' → cap' < 9223372036854775808 → (∀ i,i < n * (X.T e).size → f i = r.f (off + i)) → (∀ j,j < m * (X.T e).size → f (n * (X.T e).size + j) = new j) →
   (∀ i,n * (X.T e).size + m * (X.T e).size ≤ i → f i = .v (rle (X.T e).zero ((i - (n * (X.T e).size + m * (X.T e).size)) % (X.T e).size))) →
   GK X K ⟨RB cap',upG s.σ s.nx (.row ⟨.gen f,cap' * (X.T e).size,e⟩),s.nx + 1,s.ds⟩) : OpW X Q o s K:=by
 intro β w a hi
 have hT:=tabOK hk rfl
 simp only [TKOK] at hT
 have hd' : (∃ e',X.P.underlying t' = some (.slice e')) ∨ X.P.underlying t' = some .string:=by
  cases hkk : (X.T t').k <;> rw [hkk] at hk' <;> simp only [isSeq,Bool.false_eq_true] at hk'
  ·exact .inr (tabOK hkk rfl)
  ·exact .inl ⟨_,tabOK hkk rfl⟩
 obtain ⟨hlen,news,hfc,hnl,hnr,hn1⟩:=(hsrc β w a hi).all
 have hsz:=fun w=>run_size (X:=X) (w:=w) hke
 have hgx:=hi.mem.dom g _ hg
 have hv:=hi.env.ev x
 rw [hx] at hv
 obtain ⟨inf,z,hinf,_,hbytes,hz,hz1,hz2,hz3⟩:=(X.ok e hke).info
 have hti : ∀ w,(typeInfo e).run X.P w = .ok inf w:=fun w=>by simp [typeInfo,hinf]
 have hop : ∀ v u,a.eval x = v → a.eval y = u → execOp a.eval o = (do pure (.value (← Builtin.append_ #[t,t'] o.type #[v,u]))):=by
  intro v u h1 h2
  unfold execOp
  simp only [ho,resolve,invoke,builtin,List.map_toArray,List.map_cons,List.map_nil,h1,h2]
  rfl
 generalize hvx : a.eval x = v at hv
 generalize hvy : a.eval y = u at hlen hfc hnr
 unfold Oper.wp
 rw [hop _ _ hvx hvy]
 by_cases hfit : n + m ≤ cap
 ·-- in place
  have hle : n * (X.T e).size + m * (X.T e).size ≤ cap * (X.T e).size:=by rw [← Nat.add_mul]; exact Nat.mul_le_mul_right _ hfit
  have hm:=hi.mem
  rw [← upG_same hg] at hm
  cases hv with
  | slc hb =>
   rename_i b
   obtain ⟨w',hst,hmem⟩:=run_storeCells_one (P:=X.P) hb _ _ r s.σ (off + n * (X.T e).size) 0 w hnr hn1 (by rw [aggF_length]; omega) hm
   have hrun : (Builtin.append_ #[t,t'] o.type #[.slice (some ⟨b,off,none⟩) n cap,u]).run X.P w = .ok (.slice (some ⟨b,off,none⟩) (n + m) cap) w':=by
    have ea : (⟨b,off,none⟩ : Addr).add (n * (X.T e).size) = ⟨b,off + n * (X.T e).size,none⟩:=by rw [addr_add]
    unfold Builtin.append_
    rcases hd' with ⟨e',hd'⟩ | hd'
    all_goals
     simp only [List.getElem?_toArray,List.getElem?_cons_zero,List.getElem?_cons_succ,Sem.run_bind,run_under hT,run_under hd',Result.andThen_ok,hsz,Sem.run_pure]
     simp only [Bool.false_eq_true,if_false,Bool.not_false,if_true,hlen,Result.andThen_ok,hfit,Sem.run_bind,hfc,ea,hst,Sem.run_pure]
   rw [Sem.run_bind,hrun]
   refine nextA hfit β w' _ ⟨by simpa using hmem,hi.env.put hA (.slc hb),?_⟩
   rw [put_defers]; exact hi.ds
  | slcN hb =>
   have hm0 : m = 0:=by omega
   subst hm0
   have hnews : news = []:=List.eq_nil_of_length_eq_zero (by simpa using hnl)
   subst hnews
   have hrun : (Builtin.append_ #[t,t'] o.type #[.slice none 0 0,u]).run X.P w = .ok (.slice none 0 0) w:=by
    unfold Builtin.append_
    rcases hd' with ⟨e',hd'⟩ | hd'
    all_goals
     simp only [List.getElem?_toArray,List.getElem?_cons_zero,List.getElem?_cons_succ,Sem.run_bind,run_under hT,run_under hd',Result.andThen_ok,hsz,Sem.run_pure]
     simp only [Bool.false_eq_true,if_false,Bool.not_false,if_true,hlen,Result.andThen_ok,hfit,Sem.run_bind,hfc,Sem.run_pure]
   rw [Sem.run_bind,hrun]
   refine nextA hfit β w _ ⟨?_,hi.env.put hA (.slcN hb),?_⟩
   ·have e : setR r (0 + 0 * (X.T e).size) (aggF new 0 (0 * (X.T e).size)) = r:=by rw [Nat.zero_mul]; rfl
    rw [e]; exact hm
   ·rw [put_defers]; exact hi.ds
 ·-- a new block
  have hge:=grownCap_ge w (n + m) cap e
  have hlt : grownCap w (n + m) cap e < 9223372036854775808:=by
   have:=grownCap_le_maxLen w (n + m) cap e (by simp only [maxLen]; omega)
   simp only [maxLen] at this; omega
  generalize hnc : grownCap w (n + m) cap e = nc at hge hlt
  have hold : ∃ olds : List Value,(∀ w',(∀ b : Nat,b < w.heap.size → w'.heap[b]? = w.heap[b]?) → (Builtin.firstCells (X.T e).size n v).run X.P w' = .ok olds.toArray w') ∧ olds.length = n * (X.T e).size ∧ Reps β (aggF (fun i=>r.f (off + i)) 0 (n * (X.T e).size)) olds ∧ ∀ u ∈ olds,u.oneCell' = true:=by
   cases hv with
   | slcN hb=>exact ⟨[],fun _ _=>rfl,by simp,by rw [Nat.zero_mul]; exact .nil,by simp⟩
   | slc hb =>
    rename_i b
    have hle : off + n * (X.T e).size ≤ r.n:=by have:=Nat.mul_le_mul_right (X.T e).size hn; omega
    have hbl:=hi.mem.rng g b hb
    have key : ∀ (k i : Nat),i + k ≤ n * (X.T e).size → ∃ olds : List Value,(∀ w' (acc : Array Value),(∀ b : Nat,b < w.heap.size → w'.heap[b]? = w.heap[b]?) → (loadCellsFrom ⟨b,off,none⟩ i k acc).run X.P w' = .ok (acc ++ olds.toArray) w') ∧ olds.length = k ∧ Reps β (aggF (fun i=>r.f (off + i)) i k) olds ∧ ∀ u ∈ olds,u.oneCell' = true:=by
     intro k
     induction k with
     | zero=>intro i _; exact ⟨[],fun w' acc _=>by simp [loadCellsFrom],rfl,.nil,by simp⟩
     | succ k ih =>
      intro i hk
      obtain ⟨u,hu,_,hr,h1⟩:=hi.mem.cell hg hb (off:=off + i) (by omega)
      obtain ⟨olds,h2,h3,h4,h5⟩:=ih (i + 1) (by omega)
      refine ⟨u :: olds,fun w' acc hw'=>?_,by simp [h3],.cons hr h4,fun x hx=>?_⟩
      ·have hu' : w'.cell? ⟨b,off + i,none⟩ = some u:=by
        rw [← hu]; simp only [World.cell?,hw' b hbl]
       have e : (load ((⟨b,off,none⟩ : Addr).add i)).run X.P w' = .ok u w':=by simp [run_load,addr_add,hu']
       simp only [loadCellsFrom,Sem.run_bind,e,Result.andThen_ok]
       rw [h2 w' _ hw']; simp
      ·rcases List.mem_cons.1 hx with rfl | hx
       ·exact h1
       ·exact h5 x hx
    obtain ⟨olds,h2,h3,h4,h5⟩:=key (n * (X.T e).size) 0 (by omega)
    exact ⟨olds,fun w' hw'=>by simpa [Builtin.firstCells,loadCells] using h2 w' #[] hw',h3,h4,h5⟩
  obtain ⟨olds,ho1,ho2,ho3,ho4⟩:=hold
  obtain ⟨hlen2,news2,hfc2,hnl2,hnr2,hn2⟩:=(hsrc β w.drew a ⟨hi.mem.drew,hi.env,hi.ds⟩).all
  rw [hvy] at hlen2 hfc2
  let zs:=Builtin.zeroCells z.cells (nc - (n + m))
  have hzs : zs.size = (nc - (n + m)) * (X.T e).size:=by simp [zs,Builtin.zeroCells,hz1]
  let cs : Array Value:=olds.toArray ++ news2.toArray ++ zs
  have hcs : cs.size = nc * (X.T e).size:=by
   have : nc = (n + m) + (nc - (n + m)):=by omega
   simp only [cs,Array.size_append,List.size_toArray,ho2,hnl2,hzs]
   rw [← Nat.add_mul,← Nat.add_mul,← this]
  have hvs : ∃ bs,v = .slice bs n cap:=by
   cases hv with
   | slc hb=>exact ⟨_,rfl⟩
   | slcN hb=>exact ⟨_,rfl⟩
  obtain ⟨bs,rfl⟩:=hvs
  have hcap0 : cap < n + m:=by omega
  have hrun : (Builtin.append_ #[t,t'] o.type #[.slice bs n cap,u]).run X.P w = .ok (.slice (some ⟨w.heap.size,0,none⟩) (n + m) nc) (w.drew.alloc (.cells cs e)):=by
   have hn' : ¬ (n + m ≤ cap):=hfit
   have h63' : ¬ (9223372036854775807 < ((n : Int) + (m : Int))):=by omega
   have h48' : ¬ (281474976710656 < Builtin.nextslicecap (n + m) cap * inf.bytes):=by
    have:=growslice_fits hcap0 (by rw [hbytes]; exact hby : (n + m) * inf.bytes ≤ 140737488355328)
    omega
   have hroom : ∀ k w,(askRoom k).run X.P w = .ok () w:=by
    intro k w
    unfold askRoom
    split <;> rfl
   have hzv : ∀ w,(zeroValue e).run X.P w = .ok z w:=fun w=>by simp [zeroValue,typeInfo,hinf,hz]
   subst hnc
   have hold':=ho1 w.drew (fun _ _=>rfl)
   rcases hd' with ⟨e',hd'⟩ | hd'
   all_goals simp [Builtin.append_,run_under hT,run_under hd',hsz,hti,hzv,hlen,hn',h63',h48',Question.forced,hold',hfc2,hroom,Go.newRow,grownCap,cs,zs]
  rw [Sem.run_bind,hrun]
  have hext : Ext β (upB β s.nx w.heap.size):=upB_ext (hi.mem.nx _ (Nat.le_refl _))
  let β' : Bl:=upB β s.nx w.heap.size
  let f : Nat → SV:=fun i=>if i < n * (X.T e).size then r.f (off + i) else if i < n * (X.T e).size + m * (X.T e).size then new (i - n * (X.T e).size) else .v (rle (X.T e).zero ((i - (n * (X.T e).size + m * (X.T e).size)) % (X.T e).size))
  have hrow : RepG β' (.row ⟨.gen f,nc * (X.T e).size,e⟩) (.cells cs e):=by
   refine RepG.row (r:=⟨.gen f,nc * (X.T e).size,e⟩) ⟨hcs,fun i hi'=>?_⟩ (.inr ⟨rfl,rfl⟩)
   show ∃ v,cs[i]? = some v ∧ Rep β' (f i) v ∧ v.oneCell' = true
   by_cases h1 : i < n * (X.T e).size
   ·obtain ⟨v,hv1,hv2⟩:=aggF_reps_get ho3 i h1
    refine ⟨v,?_,?_,ho4 v (List.mem_of_getElem? hv1)⟩
    ·simp only [cs]
     rw [Array.getElem?_append_left (by simp [ho2]; omega),Array.getElem?_append_left (by simpa [ho2] using h1)]
     simpa using hv1
    ·rw [show f i = r.f (off + i) from if_pos h1]
     rw [Nat.zero_add] at hv2
     exact hv2.mono hext
   ·by_cases h2 : i < n * (X.T e).size + m * (X.T e).size
    ·obtain ⟨v,hv1,hv2⟩:=aggF_reps_get hnr2 (i - n * (X.T e).size) (by omega)
     refine ⟨v,?_,?_,hn2 v (List.mem_of_getElem? hv1)⟩
     ·simp only [cs]
      rw [Array.getElem?_append_left (by simp [ho2,hnl2]; omega),Array.getElem?_append_right (by simp [ho2]; omega)]
      simpa [ho2] using hv1
     ·rw [show f i = new (i - n * (X.T e).size) from by show (if _ then _ else if _ then _ else _) = _; rw [if_neg h1,if_pos h2]]
      rw [Nat.zero_add] at hv2
      exact hv2.mono hext
    ·have hi2 : i < cs.size:=by rw [hcs]; exact hi'
     have hzlt : i - (n * (X.T e).size + m * (X.T e).size) < zs.size:=by
      have : cs.size = n * (X.T e).size + m * (X.T e).size + zs.size:=by simp only [cs,Array.size_append,List.size_toArray,ho2,hnl2]
      omega
     have hmod : (i - (n * (X.T e).size + m * (X.T e).size)) % z.cells.size < (X.T e).size:=by rw [hz1]; exact Nat.mod_lt _ hs0
     refine ⟨rle (X.T e).zero ((i - (n * (X.T e).size + m * (X.T e).size)) % z.cells.size),?_,?_,hz3 _ hmod⟩
     ·simp only [cs]
      rw [Array.getElem?_append_right (by simp [ho2,hnl2]; omega)]
      have hsz2 : (olds.toArray ++ news2.toArray).size = n * (X.T e).size + m * (X.T e).size:=by simp [ho2,hnl2]
      rw [hsz2,Array.getElem?_eq_getElem hzlt]
      simp only [zs,Builtin.zeroCells,Array.getElem_map,Array.getElem_range]
      congr 1
      rw [getElem!_def,hz2 _ hmod]
     ·rw [show f i = .v (rle (X.T e).zero ((i - (n * (X.T e).size + m * (X.T e).size)) % (X.T e).size)) from by show (if _ then _ else if _ then _ else _) = _; rw [if_neg h1,if_neg h2],hz1]
      exact .v _
  obtain ⟨hmm,_⟩:=hi.mem.drew.alloc (go:=.row ⟨.gen f,nc * (X.T e).size,e⟩) (o:=.cells cs e) hrow
  refine nextB hcap0 nc f hge hlt (fun i h=>if_pos h) (fun j h=>?_) (fun i h=>?_) _ _ _ ⟨hmm,(hi.env.mono hext).put (hB nc) (.slc (upB_new _ _ _)),?_⟩
  ·show (if _ then _ else if _ then _ else _) = _
   rw [if_neg (by omega),if_pos (by omega)]
   congr 1; omega
  ·show (if _ then _ else if _ then _ else _) = _
   rw [if_neg (by omega),if_neg (by omega)]
  ·rw [put_defers]; exact hi.ds.mono hext
end
section
open Go.RowKit
variable {X : Ctx}
theorem GC.condT {Q : Exit → Act → World → Prop} {s : S} {c d : Code} {x : Operand} (hx : ev s.ρ x = .v (.bool true)) (h : GC X Q c s) : GC X Q (.cond x c d) s :=
 GC.cond hx (fun _=>h) (fun e=>by cases e)
theorem GC.condF {Q : Exit → Act → World → Prop} {s : S} {c d : Code} {x : Operand} (hx : ev s.ρ x = .v (.bool false)) (h : GC X Q d s) : GC X Q (.cond x c d) s :=
 GC.cond hx (fun e=>by cases e) (fun _=>h)
def getG (m : Nat → Nat) (σ : GH) : GH → List (Option GO)
 | []=>[]
 | (g,_) :: r=>gk σ (m g) :: getG m σ r
def renGL (m : Nat → Nat) : GH → List (Option GO)
 | []=>[]
 | (_,o) :: r=>some (renO m o) :: renGL m r
theorem RowLe.ren {m : Nat → Nat} (r : Row) : GLe m (renO m (.row r)) (.row r):=by
 obtain ⟨c,n,e⟩:=r
 refine ⟨rfl,rfl,fun i _=>.inr ?_⟩
 show (renR m c).at i = Sx.ren m (c.at i)
 cases c with
 | lst xs =>
  have : ∀ (xs : List SV) (i : Nat),lget (renL m xs) i = Sx.ren m (lget xs i):=by
   intro xs
   induction xs with
   | nil=>intro i; rfl
   | cons x t ih=>intro i; cases i with
    | zero=>rfl
    | succ i=>exact ih i
  exact this xs i
 | ints k f=>rfl
 | vals f=>rfl
 | gen f=>rfl
 | ov l f=>exact ovk_renA m l i _
theorem GLe.ren {m : Nat → Nat} : ∀ (o : GO),GLe m (renO m o) o
 | .row r=>RowLe.ren r
 | .raw _=>rfl
 | .pr _=>fun _ h=>h
 | .fz _=>fun _ _ h=>h
theorem entG_of {m : Nat → Nat} {σ : GH} : ∀ {σ' : GH},getG m σ σ' = renGL m σ' → entG m σ σ'
 | [],_=>trivial
 | (g,o) :: r,h=>by
  simp only [getG,renGL,List.cons.injEq] at h
  refine ⟨?_,entG_of h.2⟩
  rw [h.1]; exact GLe.ren o
theorem entA_of {m : Nat → Nat} : ∀ {xs xs' : List SV},xs = renL m xs' → entA m xs xs'
 | _,[],h=>by subst h; trivial
 | _,x' :: r',h=>by subst h; exact ⟨.inr rfl,entA_of rfl⟩
theorem OpW.callR {Q : Exit → Act → World → Prop} {o : Oper} {K : Act → World → Prop} {s : S} {f : Nat} {as : Array Operand} {ats : Array TypeId} {args : List SV} {σc : GH} {k k2 : Nat} {ι : Type} {I : ι → Prop} {post : ι → Post}
  (ho : o.op = .call { callee:=.value (.func f),args:=as,argTypes:=ats }) (hF : FunC X.P X.M.μ f args σc k k2 I post) (ml : List Nat)
  (hput : putOk X.n o.dst = true) (hc : chkC X.M s.ds k k2 s.nx ml = true) (hx : evs s.ρ as.toList = renL (mo ml s.nx) args) (hgh : getG (mo ml s.nx) s.σ σc = renGL (mo ml s.nx) σc)
  (next : ∀ i,I i → ∀ ρ',putE X.n (frgE (ml.drop k) s.ρ) o.dst (ren (mo ml s.nx) (post i).x) = some ρ' → GK X K (aftS s ml k k2 ρ' (post i))) : OpW X Q o s K :=
 OpW.call ho hF ml hput hc (entA_of hx) (entG_of hgh) next
theorem OpW.invokeR {Q : Exit → Act → World → Prop} {o : Oper} {K : Act → World → Prop} {s : S} {f t : Nat} {name : String} {recv : Operand} {y : SV} {as : Array Operand} {ats : Array TypeId} {args : List SV} {σc : GH} {k k2 : Nat} {ι : Type} {I : ι → Prop} {post : ι → Post}
  (ho : o.op = .call { callee:=.invoke recv name,args:=as,argTypes:=ats }) (hy : ev s.ρ recv = .ifc t y) (hme : IsMeth X.P t name f) (hF : FunC X.P X.M.μ f args σc k k2 I post) (ml : List Nat)
  (hput : putOk X.n o.dst = true) (hc : chkC X.M s.ds k k2 s.nx ml = true) (hx : y :: evs s.ρ as.toList = renL (mo ml s.nx) args) (hgh : getG (mo ml s.nx) s.σ σc = renGL (mo ml s.nx) σc)
  (next : ∀ i,I i → ∀ ρ',putE X.n (frgE (ml.drop k) s.ρ) o.dst (ren (mo ml s.nx) (post i).x) = some ρ' → GK X K (aftS s ml k k2 ρ' (post i))) : OpW X Q o s K :=
 OpW.invoke ho hy hme hF ml hput hc (entA_of hx) (entG_of hgh) next
theorem OpW.callVR {Q : Exit → Act → World → Prop} {o : Oper} {K : Act → World → Prop} {s : S} {f : Nat} {x : Operand} {fs cs : List SV} {as : Array Operand} {ats : Array TypeId} {args : List SV} {σc : GH} {k k2 : Nat} {ι : Type} {I : ι → Prop} {post : ι → Post}
  (ho : o.op = .call { callee:=.value x,args:=as,argTypes:=ats }) (hx : ev s.ρ x = .fn (.func f) fs cs) (hF : FunC X.P X.M.μ f args σc k k2 I post) (ml : List Nat)
  (hput : putOk X.n o.dst = true) (hc : chkC X.M s.ds k k2 s.nx ml = true) (he : fs ++ evs s.ρ as.toList ++ cs = renL (mo ml s.nx) args) (hgh : getG (mo ml s.nx) s.σ σc = renGL (mo ml s.nx) σc)
  (next : ∀ i,I i → ∀ ρ',putE X.n (frgE (ml.drop k) s.ρ) o.dst (ren (mo ml s.nx) (post i).x) = some ρ' → GK X K (aftS s ml k k2 ρ' (post i))) : OpW X Q o s K :=
 OpW.callV ho hx hF ml hput hc (entA_of he) (entG_of hgh) next
theorem entE_one {m : Nat → Nat} {r x : SV} (h : r = ren m x) : entE m [(0,r)] [(0,x)]:=⟨.inr h,trivial⟩
theorem GK.finR {fn : Func} {ι : Type} {I : ι → Prop} {post : ι → Post} {s : S} {e : Exit} (he : e = .ret ∨ e = .normal) {c : Prop} {r : SV} (hr : resV X.T s fn.results.toList = some (c,r)) (hc : c) (i : ι) (ml : List Nat)
  (hchk : (chkN X.M.k (post i).nx ml && X.M.an.isEmpty) = true) (hds : s.ds = []) (hx : r = ren (mo ml s.nx) (post i).x) (hg : getG (mo ml s.nx) s.σ (post i).σ = renGL (mo ml s.nx) (post i).σ) (hI : I i) : GK X (bodyPost X.P fn (FPost X.M I post) e) s :=
 GK.fin he hr hc i hI ml ⟨hchk,entE_one hx,entG_of hg,by rw [hds]; trivial⟩
theorem GK.finRD {fn : Func} {ι : Type} {I : ι → Prop} {post : ι → Post} {s : S} {e : Exit} (he : e = .ret ∨ e = .normal) {c : Prop} {r : SV} (hr : resV X.T s fn.results.toList = some (c,r)) (hc : c) (i : ι) (ml : List Nat)
  (hchk : (chkN X.M.k (post i).nx ml && X.M.an.isEmpty) = true) (hds : s.ds = []) (hx : r = ren (mo ml s.nx) (post i).x) (hg : getG (mo ml s.nx) s.σ (post i).σ = renGL (mo ml s.nx) (post i).σ) (hI : I i) : GK X (bodyPostE X.P fn (FPost X.M I post) e) s :=
 GK.finD he hr hc i hI ml ⟨hchk,entE_one hx,entG_of hg,by rw [hds]; trivial⟩
def getE (ρ : Env) : Env → List SV
 | []=>[]
 | (i,_) :: r=>lk ρ i :: getE ρ r
def renEL (m : Nat → Nat) : Env → List SV
 | []=>[]
 | (_,x) :: r=>ren m x :: renEL m r
theorem entE_of {m : Nat → Nat} {ρ : Env} : ∀ {ρ' : Env},getE ρ ρ' = renEL m ρ' → entE m ρ ρ'
 | [],_=>trivial
 | (i,x) :: r,h=>by
  simp only [getE,renEL,List.cons.injEq] at h
  exact ⟨.inr h.1,entE_of h.2⟩
def renDs (m : Nat → Nat) : List SD → List SD
 | []=>[]
 | d :: r=>⟨d.f,renL m d.cap,renL m d.args⟩ :: renDs m r
theorem dsLe_of {m : Nat → Nat} : ∀ {ds ds' : List SD},ds = renDs m ds' → dsLe m ds ds'
 | _,[],h=>by subst h; trivial
 | _,d :: r,h=>by subst h; exact ⟨rfl,rfl,rfl,dsLe_of rfl⟩
theorem Ent.R {M : MC} {s s' : S} {ml : List Nat} (chk : (chkN M.k s'.nx ml && M.an.isEmpty) = true) (he : getE s.ρ s'.ρ = renEL (mo ml s.nx) s'.ρ) (hg : getG (mo ml s.nx) s.σ s'.σ = renGL (mo ml s.nx) s'.σ) (hd : s.ds = renDs (mo ml s.nx) s'.ds) : Ent M s s' ml :=
 ⟨chk,entE_of he,entG_of hg,dsLe_of hd⟩
mutual
def sb (g : Nat) (ob : Option Nat) : SV → SV
 | .any=>.any
 | .v x=>.v x
 | .ptr h o=>if h = g then .v (.pointer (ob.map fun b=>⟨b,o,none⟩)) else .ptr h o
 | .slc h o l c=>if h = g then .v (match ob with | some b=>.slice (some ⟨b,o,none⟩) l c | none=>.slice none l c) else .slc h o l c
 | .mpp h=>if h = g then .v (.map ob) else .mpp h
 | .agg xs=>.agg (sbL g ob xs)
 | .ifc t x=>.ifc t (sb g ob x)
 | .tup xs=>.tup (sbL g ob xs)
 | .fn f a b=>.fn f (sbL g ob a) (sbL g ob b)
def sbL (g : Nat) (ob : Option Nat) : List SV → List SV
 | []=>[]
 | x :: r=>sb g ob x :: sbL g ob r
end
mutual
theorem Rep.sb {g : Nat} {ob : Option Nat} {β β' : Bl} (hg : β g = some ob) (h : ∀ j,j ≠ g → β' j = β j) : ∀ {x : SV} {v : Value},Rep β x v → Rep β' (sb g ob x) v
 | _,_,.any x=>.any x
 | _,_,.v x=>.v x
 | _,_,.ptr (g:=j) hb=>by
  simp only [Sx.sb]
  by_cases e : j = g
  ·subst e; rw [hg] at hb; simp only [Option.some.injEq] at hb; subst hb; rw [if_pos rfl]; exact .v _
  ·rw [if_neg e]; exact .ptr (by rw [h _ e]; exact hb)
 | _,_,.slc (g:=j) hb=>by
  simp only [Sx.sb]
  by_cases e : j = g
  ·subst e; rw [hg] at hb; simp only [Option.some.injEq] at hb; subst hb; rw [if_pos rfl]; exact .v _
  ·rw [if_neg e]; exact .slc (by rw [h _ e]; exact hb)
 | _,_,.slcN (g:=j) hb=>by
  simp only [Sx.sb]
  by_cases e : j = g
  ·subst e; rw [hg] at hb; simp only [Option.some.injEq] at hb; subst hb; rw [if_pos rfl]; exact .v _
  ·rw [if_neg e]; exact .slcN (by rw [h _ e]; exact hb)
 | _,_,.mpp (g:=j) hb=>by
  simp only [Sx.sb]
  by_cases e : j = g
  ·subst e; rw [hg] at hb; simp only [Option.some.injEq] at hb; subst hb; rw [if_pos rfl]; exact .v _
  ·rw [if_neg e]; exact .mpp (by rw [h _ e]; exact hb)
 | _,_,.agg hs=>.agg (Reps.sb hg h hs)
 | _,_,.ifc hs=>.ifc (Rep.sb hg h hs)
 | _,_,.tup hs=>.tup (Reps.sb hg h hs)
 | _,_,.fn h1 h2=>.fn (Reps.sb hg h h1) (Reps.sb hg h h2)
theorem Reps.sb {g : Nat} {ob : Option Nat} {β β' : Bl} (hg : β g = some ob) (h : ∀ j,j ≠ g → β' j = β j) : ∀ {x : List SV} {v : List Value},Reps β x v → Reps β' (sbL g ob x) v
 | _,_,.nil=>.nil
 | _,_,.cons a t=>.cons (Rep.sb hg h a) (Reps.sb hg h t)
end
def sbA (g : Nat) (ob : Option Nat) : List (Nat × SV) → List (Nat × SV)
 | []=>[]
 | (j,x) :: r=>(j,sb g ob x) :: sbA g ob r
theorem ovk_sbA (g : Nat) (ob : Option Nat) : ∀ (l : List (Nat × SV)) (i : Nat) (v : Value),ovk (sbA g ob l) i (.v v) = sb g ob (ovk l i (.v v))
 | [],_,_=>rfl
 | (j,x) :: r,i,v=>by
  simp only [sbA,ovk]
  cases Nat.beq i j with
  | true=>rfl
  | false=>exact ovk_sbA g ob r i v
def sbR (g : Nat) (ob : Option Nat) : RF → RF
 | .lst xs=>.lst (sbL g ob xs)
 | .ints k f=>.ints k f
 | .vals f=>.vals f
 | .gen f=>.gen fun i=>sb g ob (f i)
 | .ov l f=>.ov (sbA g ob l) f
theorem at_sbR (g : Nat) (ob : Option Nat) (r : RF) (i : Nat) : (sbR g ob r).at i = sb g ob (r.at i):=by
 cases r with
 | lst xs =>
  have : ∀ (xs : List SV) (i : Nat),lget (sbL g ob xs) i = sb g ob (lget xs i):=by
   intro xs
   induction xs with
   | nil=>intro i; rfl
   | cons x t ih=>intro i; cases i with
    | zero=>rfl
    | succ i=>exact ih i
  exact this xs i
 | gen f=>rfl
 | ov l f=>exact ovk_sbA g ob l i _
 | ints k f=>rfl
 | vals f=>rfl
def sbO (g : Nat) (ob : Option Nat) : GO → GO
 | .row ⟨c,n,e⟩=>.row ⟨sbR g ob c,n,e⟩
 | .raw b=>.raw b
 | .pr p=>.pr p
 | .fz F=>.fz F
def sbG (g : Nat) (ob : Option Nat) : GH → GH
 | []=>[]
 | (j,o) :: r=>bif Nat.beq j g then sbG g ob r else (j,sbO g ob o) :: sbG g ob r
def sbE (g : Nat) (ob : Option Nat) : Env → Env
 | []=>[]
 | (j,o) :: r=>(j,sb g ob o) :: sbE g ob r
def sbDs (g : Nat) (ob : Option Nat) : List SD → List SD
 | []=>[]
 | d :: r=>⟨d.f,sbL g ob d.cap,sbL g ob d.args⟩ :: sbDs g ob r
theorem lk_sbE (g : Nat) (ob : Option Nat) : ∀ (σ : Env) (j : Nat),lk (sbE g ob σ) j = sb g ob (lk σ j)
 | [],j=>rfl
 | (i,o) :: r,j=>by
  simp only [sbE,lk]
  by_cases e : j = i
  ·subst e; simp [beqT]
  ·rw [beqF e]; simpa using lk_sbE g ob r j
theorem gk_sbG (g : Nat) (ob : Option Nat) : ∀ (σ : GH) (j : Nat) (o : GO),gk (sbG g ob σ) j = some o → j ≠ g ∧ ∃ o0,gk σ j = some o0 ∧ o = sbO g ob o0
 | [],j,o,h=>by simp [sbG,gk] at h
 | (i,o') :: r,j,o,h=>by
  simp only [sbG] at h
  by_cases e : i = g
  ·subst e
   rw [beqT] at h
   simp only [cond_true] at h
   obtain ⟨h1,o0,h2,h3⟩:=gk_sbG _ ob r j o h
   refine ⟨h1,o0,?_,h3⟩
   simp only [gk]; rw [beqF h1]; exact h2
  ·rw [beqF e] at h
   simp only [cond_false,gk] at h
   by_cases e2 : j = i
   ·subst e2
    rw [beqT] at h
    simp only [cond_true,Option.some.injEq] at h
    exact ⟨e,o',by simp [gk,beqT],h.symm⟩
   ·rw [beqF e2] at h
    simp only [cond_false] at h
    obtain ⟨h1,o0,h2,h3⟩:=gk_sbG _ ob r j o h
    refine ⟨h1,o0,?_,h3⟩
    simp only [gk]; rw [beqF e2]; exact h2
theorem RepD.sb {g : Nat} {ob : Option Nat} {β β' : Bl} (hg : β g = some ob) (h : ∀ j,j ≠ g → β' j = β j) {ds : List SD} {es : List Deferred} (hr : RepD β ds es) : RepD β' (sbDs g ob ds) es:=by
 induction hr with
 | nil=>exact .nil
 | cons hc ha _ ih=>exact .cons (Reps.sb hg h hc) (Reps.sb hg h ha) ih
theorem RepG.sb {g : Nat} {ob : Option Nat} {β β' : Bl} (hg : β g = some ob) (h : ∀ j,j ≠ g → β' j = β j) {o : GO} {x : Obj} (hr : RepG β o x) : RepG β' (sbO g ob o) x:=by
 cases hr with
 | raw=>exact .raw _
 | pr h=>exact .pr h
 | row hr hf =>
  rename_i r as lo hi
  obtain ⟨c,n,e⟩:=r
  refine RepG.row (r:=⟨sbR g ob c,n,e⟩) ⟨hr.size,fun i hi=>?_⟩ hf
  obtain ⟨v,hv,hrep,h1⟩:=hr.get i hi
  refine ⟨v,hv,?_,h1⟩
  show Rep β' ((sbR g ob c).at i) v
  rw [at_sbR]
  exact Rep.sb hg h hrep
def upF (F : Nat → Option Obj) (b : Nat) (o : Obj) : Nat → Option Obj:=fun j=>if j = b then some o else F j
def upZ (F : Nat → Option Obj) (ob : Option Nat) (o : Obj) : Nat → Option Obj:=match ob with
 | some b=>upF F b o
 | none=>F
theorem sbO_fz {g : Nat} {ob : Option Nat} {o : GO} {F : Nat → Option Obj} (h : sbO g ob o = .fz F) : o = .fz F:=by
 cases o with
 | row r=>obtain ⟨_,_,_⟩:=r; cases h
 | raw b=>cases h
 | pr p=>cases h
 | fz F'=>exact h
theorem Inv.freeze {ρ : Env} {σ : GH} {nx : Nat} {ds : List SD} {β : Bl} {w : World} {a : Act} (h : Inv X ⟨ρ,σ,nx,ds⟩ β w a) {g z : Nat} {r : Row} {F : Nat → Option Obj} (hg : gk σ g = some (.row r)) (hz : gk σ z = some (.fz F))
  (hk : X.M.k ≤ g) (hna : notAn g X.M.an = true) (hsome : ∃ ob,β g = some ob) :
  ∃ ob o β',(∀ b,ob = some b → ∃ cs fr,o = .cells cs r.e fr ∧ cs.size = r.n ∧ ∀ i,i < r.n → ∃ v,cs[i]? = some v ∧ v.oneCell' = true ∧ Rep β' (sb g ob (r.f i)) v) ∧
   Inv X ⟨sbE g ob ρ,upG (sbG g ob σ) z (.fz (upZ F ob o)),nx,sbDs g ob ds⟩ β' w a:=by
 obtain ⟨ob,hob⟩:=hsome
 have hm:=h.mem
 have hzg : z ≠ g:=by intro e; subst e; rw [hg] at hz; cases hz
 let β' : Bl:=fun j=>if j = g then none else β j
 have hβ : ∀ j,j ≠ g → β' j = β j:=fun j hj=>if_neg hj
 have old : ∀ j x,β' j = some x → j ≠ g ∧ β j = some x:=by
  intro j x hj
  by_cases e : j = g
  ·subst e; simp [β'] at hj
  ·exact ⟨e,by rw [hβ j e] at hj; exact hj⟩
 have hobj : ∃ o,(∀ b,ob = some b → w.heap[b]? = some o ∧ RepG β (.row r) o):=by
  cases ob with
  | none=>exact ⟨.map #[] 0,fun b hb=>by cases hb⟩
  | some b =>
   obtain ⟨o,h1,h2⟩:=hm.hp g _ b hg hob
   exact ⟨o,fun b' hb=>by cases hb; exact ⟨h1,h2⟩⟩
 obtain ⟨o,ho⟩:=hobj
 have hgF : ∀ j F',gk (upG (sbG g ob σ) z (.fz (upZ F ob o))) j = some (.fz F') → (j = z ∧ F' = upZ F ob o) ∨ gk σ j = some (.fz F'):=by
  intro j F' hj
  rw [gk_upG] at hj
  by_cases e : j = z
  ·subst e; simp [beqT] at hj; exact .inl ⟨rfl,hj.symm⟩
  ·rw [beqF e] at hj
   obtain ⟨_,o0,h1,h2⟩:=gk_sbG _ _ _ _ _ hj
   rw [sbO_fz h2.symm] at h1
   exact .inr h1
 have hup : ∀ b x,upZ F ob o b = some x → (ob = some b ∧ x = o) ∨ F b = some x:=by
  intro b x hb
  cases ob with
  | none=>exact .inr hb
  | some c =>
   simp only [upZ,upF] at hb
   split at hb
   ·rename_i e; subst e; simp at hb; exact .inl ⟨rfl,hb.symm⟩
   ·exact .inr hb
 refine ⟨ob,o,β',fun b hb=>?_,⟨?_,?_,?_,?_,hm.im,?_,?_,hm.sz,hm.os,hm.tape,hm.output,hm.kn,?_,?_,?_,?_,?_⟩,⟨h.env.size,fun i=>?_⟩,?_⟩
 ·obtain ⟨_,h2⟩:=ho b hb
  cases h2 with
  | row hr hf =>
   refine ⟨_,_,rfl,hr.size,fun i hi=>?_⟩
   obtain ⟨v,h3,h4,h5⟩:=hr.get i hi
   exact ⟨v,h3,h5,Rep.sb hob hβ h4⟩
 ·intro j go b hj hb
  obtain ⟨hne,hb'⟩:=old j _ hb
  rw [gk_upG] at hj
  by_cases e : j = z
  ·subst e
   obtain ⟨ob',_,h2⟩:=hm.hp j _ b hz hb'
   cases h2
  ·rw [beqF e] at hj
   obtain ⟨_,o0,h1,rfl⟩:=gk_sbG _ _ _ _ _ hj
   obtain ⟨ob',h2,h3⟩:=hm.hp j o0 b h1 hb'
   exact ⟨ob',h2,RepG.sb hob hβ h3⟩
 ·intro j j' b hj hj'; exact hm.inj _ _ _ (old j _ hj).2 (old j' _ hj').2
 ·intro j b hj; exact hm.rng _ _ (old j _ hj).2
 ·intro j hj
  by_cases e : j = g
  ·exact if_pos e
  ·rw [hβ j e]; exact hm.nx j hj
 ·intro b o' hb j hj; exact hm.imb b o' hb j (old j _ hj).2
 ·intro b hb how hn
  refine hm.fr b hb how fun j hj=>?_
  by_cases e : j = g
  ·subst e
   rcases hm.new j b hk hj with h1 | h1
   ·omega
   ·exact how h1
  ·exact hn j (by rw [hβ j e]; exact hj)
 ·intro j hj
  rw [hβ j (by omega)]; exact hm.base j hj
 ·intro j go hj
  rw [gk_upG] at hj
  by_cases e : j = z
  ·subst e; exact hm.dom _ _ hz
  ·rw [beqF e] at hj
   obtain ⟨_,o0,h1,_⟩:=gk_sbG _ _ _ _ _ hj
   exact hm.dom _ _ h1
 ·intro j b hj hb; exact hm.new j b hj (old j _ hb).2
 ·intro p hp
  obtain ⟨h1,h2⟩:=hm.anc p hp
  exact ⟨h1,by rw [hβ _ (notAn_iff hna p hp)]; exact h2⟩
 ·intro j F' hj b x hF
  rcases hgF j F' hj with ⟨rfl,rfl⟩ | h1
  ·rcases hup b x hF with ⟨h2,rfl⟩ | h2
   ·obtain ⟨h3,_⟩:=ho b h2
    refine ⟨h3,fun j' hj'=>?_,?_⟩
    ·obtain ⟨hne,h4⟩:=old j' _ hj'
     exact hne (hm.inj _ _ _ h4 (by rw [hob,h2]))
    ·exact .inr (hm.new g b hk (by rw [hob,h2]))
   ·obtain ⟨h3,h4,h5⟩:=hm.fz _ F hz b x h2
    exact ⟨h3,fun j' hj'=>h4 j' (old j' _ hj').2,h5⟩
  ·obtain ⟨h3,h4,h5⟩:=hm.fz _ F' h1 b x hF
   exact ⟨h3,fun j' hj'=>h4 j' (old j' _ hj').2,h5⟩
 ·show Rep β' (lk (sbE g ob ρ) i) _
  rw [lk_sbE]
  exact Rep.sb hob hβ (h.env.get i)
 ·exact RepD.sb hob hβ h.ds
def fzAt (F : Nat → Option Obj) (b i : Nat) : Option Value:=match F b with
 | some (.cells cs _ _)=>cs[i]?
 | _=>none
theorem fz_cell {s : S} {β : Bl} {w : World} {a : Act} (h : Inv X s β w a) {z : Nat} {F : Nat → Option Obj} (hz : gk s.σ z = some (.fz F)) {b i : Nat} {v : Value} (hv : fzAt F b i = some v) : w.cell? ⟨b,i,none⟩ = some v:=by
 unfold fzAt at hv
 split at hv
 ·rename_i cs e fr hF
  have:=(h.mem.fz z F hz b _ hF).1
  simp [World.cell?,this,hv]
 ·cases hv
theorem LStep.cell1 {s : S} {o : Oper} {t : Nat} {x : Operand} {b off : Nat} {v : Value} (ho : o.op = .load t x) (hx : ev s.ρ x = .v (.pointer (some ⟨b,off,none⟩))) (hk : known (X.T t).k = true) (ha : (X.T t).k.agg = false)
  (hv : ∀ β w a,Inv X s β w a → w.cell? ⟨b,off,none⟩ = some v) : LStep X o s (.v v):=by
 intro β w a hi
 have hc:=hv β w a hi
 have h:=hi.env.ev x
 rw [hx] at h
 generalize hav : a.eval x = u at h
 cases h
 have h1:=run_isAgg (X:=X) (w:=w) hk
 rw [ha] at h1
 refine ⟨v,?_,.v _⟩
 simp [execOp,ho,hav,Instr.loadAt,Instr.sureAddr,loadVar,h1,run_load,hc]
theorem LStep.cellA {s : S} {o : Oper} {t : Nat} {x : Operand} {b off : Nat} {vs : List Value} (ho : o.op = .load t x) (hx : ev s.ρ x = .v (.pointer (some ⟨b,off,none⟩))) (hk : known (X.T t).k = true) (ha : (X.T t).k.agg = true) (hl : vs.length = (X.T t).size)
  (hv : ∀ β w a,Inv X s β w a → ∀ j v,vs[j]? = some v → w.cell? ⟨b,off + j,none⟩ = some v) : LStep X o s (.agg (vs.map .v)):=by
 intro β w a hi
 have hw:=hv β w a hi
 have h:=hi.env.ev x
 rw [hx] at h
 generalize hav : a.eval x = u at h
 cases h
 have h1:=run_isAgg (X:=X) (w:=w) hk
 rw [ha] at h1
 have h2:=run_size (X:=X) (w:=w) hk
 have key : ∀ (l : List Value) (i : Nat) (acc : Array Value),(∀ j v,l[j]? = some v → w.cell? ⟨b,off + i + j,none⟩ = some v) → (loadCellsFrom ⟨b,off,none⟩ i l.length acc).run X.P w = .ok (acc ++ l.toArray) w:=by
  intro l
  induction l with
  | nil=>intro i acc _; simp [loadCellsFrom]
  | cons y r ih =>
   intro i acc hh
   have h0:=hh 0 y rfl
   rw [Nat.add_zero] at h0
   have e : (load ((⟨b,off,none⟩ : Addr).add i)).run X.P w = .ok y w:=by simp [run_load,addr_add,h0]
   simp only [List.length_cons,loadCellsFrom,Sem.run_bind,e,Result.andThen_ok]
   rw [ih (i + 1) _ (fun j v hj=>by have:=hh (j + 1) v (by simpa using hj); rw [← this]; congr 2; omega)]
   simp
 refine ⟨.agg vs.toArray,?_,.agg ?_⟩
 ·have hr:=key vs 0 #[] (fun j v hj=>by rw [Nat.add_zero]; exact hw j v hj)
  rw [hl] at hr
  simp only [execOp,ho,hav,Instr.loadAt,Instr.sureAddr,loadVar,Sem.run_bind,Sem.run_pure,Result.andThen_ok,h1,h2,if_true,loadCells,hr]
  simp
 ·clear hl hv hw key
  induction vs with
  | nil=>exact .nil
  | cons y r ih=>exact .cons (.v _) ih
theorem src_cell {s : S} {y : Operand} {sz b off m cap : Nat} {N : Nat → Value} (hy : ev s.ρ y = .v (.slice (some ⟨b,off,none⟩) m cap)) (hn : ∀ β w a,Inv X s β w a → ∀ j,j < m * sz → w.cell? ⟨b,off + j,none⟩ = some (N j) ∧ (N j).oneCell' = true) :
  ∀ β w a,Inv X s β w a → Src X sz m (fun j=>.v (N j)) β w (a.eval y):=by
 intro β w a hi
 have hnn:=hn β w a hi
 have hv:=hi.env.ev y
 rw [hy] at hv
 generalize a.eval y = v at hv
 cases hv
 obtain ⟨news,h2,h3,h4,h5⟩:=run_cells (P:=X.P) (w:=w) (ad:=⟨b,off,none⟩) (f:=fun j=>.v (N j)) (β:=β) (m * sz) 0 (fun j _ hj=>by
  obtain ⟨hu,h1⟩:=hnn j (by omega)
  exact ⟨N j,by rw [addr_add]; exact hu,.v _,h1⟩)
 refine ⟨rfl,news,fun n hn=>?_,h2,h4,h5⟩
 have h6:=h3 (n * sz) (Nat.mul_le_mul_right _ hn) #[]
 simpa [Builtin.firstCells,loadCells] using h6
theorem LStep.fz {s : S} {o : Oper} {t : Nat} {x : Operand} {b off : Nat} {v : Value} (z : Nat) {F : Nat → Option Obj} (ho : o.op = .load t x) (hx : ev s.ρ x = .v (.pointer (some ⟨b,off,none⟩))) (hk : known (X.T t).k = true) (ha : (X.T t).k.agg = false) (hz : gk s.σ z = some (.fz F)) (hv : fzAt F b off = some v) : LStep X o s (.v v) :=
 LStep.cell1 ho hx hk ha fun _ _ _ hi=>fz_cell hi hz hv
theorem LStep.fzA {s : S} {o : Oper} {t : Nat} {x : Operand} {b off : Nat} {vs : List Value} (z : Nat) {F : Nat → Option Obj} (ho : o.op = .load t x) (hx : ev s.ρ x = .v (.pointer (some ⟨b,off,none⟩))) (hk : known (X.T t).k = true) (ha : (X.T t).k.agg = true) (hl : vs.length = (X.T t).size) (hz : gk s.σ z = some (.fz F)) (hv : ∀ j v,vs[j]? = some v → fzAt F b (off + j) = some v) : LStep X o s (.agg (vs.map .v)) :=
 LStep.cellA ho hx hk ha hl fun _ _ _ hi j v hj=>fz_cell hi hz (hv j v hj)
end
section
open Go.RowKit
variable {X : Ctx}
theorem Mem.re {M : MC} {w : World} {σ : GH} {nx : Nat} {β : Bl} (h : Mem M σ nx β w) {g : Nat} {go go' : GO} (hg : gk σ g = some go) (hr : ∀ o,RepG β go o → RepG β go' o) (hfz : ∀ F,go' ≠ .fz F) : Mem M (upG σ g go') nx β w:=by
 refine ⟨?_,h.inj,h.rng,h.nx,h.im,h.imb,h.fr,h.sz,h.os,h.tape,h.output,h.kn,h.base,?_,h.new,h.anc,?_⟩
 ·intro j go2 b hj hb
  rw [gk_upG] at hj
  by_cases e : j = g
  ·subst e
   simp [beqT] at hj; subst hj
   obtain ⟨ob,hw,hr'⟩:=h.hp j go b hg hb
   exact ⟨ob,hw,hr _ hr'⟩
  ·rw [beqF e] at hj
   exact h.hp j go2 b hj hb
 ·intro j go2 hj
  rw [gk_upG] at hj
  by_cases e : j = g
  ·subst e; exact h.dom j go hg
  ·rw [beqF e] at hj; exact h.dom j go2 hj
 ·intro j F hj
  rw [gk_upG] at hj
  by_cases e : j = g
  ·subst e; simp [beqT] at hj; exact absurd hj (hfz F)
  ·rw [beqF e] at hj; exact h.fz j F hj
def nilR (s : S) (g : Nat) (r : Row) (i : Nat) (c : RF) (e : Nat) : S:=⟨s.ρ,upG (upG s.σ s.nx (.row ⟨c,0,e⟩)) g (.row (r.set i (.slc s.nx 0 0 0))),s.nx + 1,s.ds⟩
theorem Inv.nilgR {s : S} {β : Bl} {w : World} {a : Act} (h : Inv X s β w a) {g i : Nat} {r : Row} (hg : gk s.σ g = some (.row r)) (hr : r.f i = .v (.slice none 0 0)) (c : RF) (e : Nat) : ∃ β',Inv X (nilR s g r i c e) β' w a:=by
 obtain ⟨hm,hx⟩:=h.mem.addNil (.row ⟨c,0,e⟩) (fun F hF=>by cases hF)
 have hlt:=h.mem.dom g _ hg
 refine ⟨_,hm.re (go:=.row r) ?_ ?_ (fun F hF=>by cases hF),⟨h.env.size,fun j=>(h.env.get j).mono hx⟩,h.ds.mono hx⟩
 ·rw [gk_upG,beqF (by omega)]; exact hg
 ·intro o ho
  cases ho with
  | row hrow hf =>
   rename_i cs lo hi
   refine RepG.row (r:=r.set i (.slc s.nx 0 0 0)) ⟨hrow.size,fun j hj=>?_⟩ hf
   obtain ⟨v,h1,h2,h3⟩:=hrow.get j hj
   refine ⟨v,h1,?_,h3⟩
   rw [Row.f_set]
   by_cases e2 : j = i
   ·subst e2
    rw [beqT]
    rw [hr] at h2
    cases h2
    exact .slcN (if_pos rfl)
   ·rw [beqF e2]; exact h2
theorem GC.nilgR {Q : Exit → Act → World → Prop} {cc : Code} {s s' : S} (g i : Nat) (c : RF) (e : Nat) {r : Row} (hg : gk s.σ g = some (.row r)) (hr : r.f i = .v (.slice none 0 0)) (hf : forceS (nilR s g r i c e) = some s') (h : GC X Q cc s') : GC X Q cc s:=fun β w a hi=>by
 obtain ⟨β',h'⟩:=hi.nilgR hg hr c e
 rw [forceS_eq] at hf; cases hf
 exact h β' w a h'
theorem offS_zero (cap o sz : Nat) : offS cap 0 o sz = o:=by
 unfold offS
 cases Nat.beq cap 0 <;> simp
def pcs (g off : Nat) : List SV → List (Nat × Nat × SV)
 | []=>[]
 | y :: r=>(g,off,y) :: pcs g (off + 1) r
theorem pcs_mem : ∀ {ys : List SV} {g off j : Nat} {y : SV},ys[j]? = some y → (g,off + j,y) ∈ pcs g off ys
 | [],g,off,j,y,h=>by simp at h
 | x :: r,g,off,0,y,h=>by simp at h; subst h; exact .head _
 | x :: r,g,off,j + 1,y,h=>by
  have:=pcs_mem (g:=g) (off:=off + 1) (show r[j]? = some y by simpa using h)
  rw [show off + 1 + j = off + (j + 1) from by omega] at this
  exact .tail _ this
theorem aggF_list : ∀ (ys : List SV) (off : Nat),aggF (fun i=>ys.getD (i - off) .any) off ys.length = ys:=by
 intro ys off
 refine List.ext_getElem? fun i=>?_
 rcases Nat.lt_or_ge i ys.length with h | h
 ·rw [aggF_get _ _ _ _ h,List.getElem?_eq_getElem h,show off + i - off = i from by omega,List.getD_eq_getElem?_getD,List.getElem?_eq_getElem h]; rfl
 ·rw [List.getElem?_eq_none (by rw [aggF_length]; exact h),List.getElem?_eq_none h]
theorem GW.heldA {ops : Array Oper} {Q : Exit → Act → World → Prop} {an : An} {ps : List (Nat × Nat × SV)} {i : Nat} {o : Oper} {l : List (Nat × Nat)} {s : S} {t : Nat} {x : Operand} {g off : Nat} {ρ' : Env} {ys : List SV}
  (ho : ops[i]? = some o) (hw : gdo ops s.ρ o = some true) (hop : o.op = .load t x) (hx : ev s.ρ x = .ptr g off) (hk : (known (X.T t).k && (X.T t).k.agg) = true) (ha : X.M.an = an) (hl : ys.length = (X.T t).size) (hps : ∀ p,p ∈ pcs g off ys → p ∈ ps) (hok : hOk s.σ an ps)
  (hin : (allGL (inA an) ys && inA an g) = true) (hp : putE X.n s.ρ o.dst (.agg ys) = some ρ') (k : GW X ops Q (heldS an ps) l ⟨ρ',s.σ,s.nx,s.ds⟩) : GW X ops Q (heldS an ps) ((i,3) :: l) s:=by
 intro β w a hi
 have hanc : ∀ p,p ∈ an → β p.1 = p.2:=fun p hp=>(hi.mem.anc p (by rw [ha]; exact hp)).2
 have hS:=heldS_inv ha hok hi
 simp only [Bool.and_eq_true] at hk hin
 have hxv:=hi.env.ev x
 rw [hx] at hxv
 generalize hav : a.eval x = u at hxv
 cases hxv with
 | ptr hb =>
  rename_i b
  have hb' : anB an g = some (some b):=by rw [anB_eq hanc g hin.2]; exact hb
  have run : ∀ w',heldS an ps w' → ∃ vs,(loadCellsFrom ⟨b,off,none⟩ 0 ys.length #[]).run X.P w' = .ok (vs : List Value).toArray w' ∧ Reps (anB an) ys vs:=by
   intro w' hS'
   obtain ⟨vs,h1,h2⟩:=run_loadCells_rep (P:=X.P) (w:=w') (β:=anB an) (f:=fun i=>ys.getD (i - off) .any) (b:=b) ys.length off 0 #[] (fun j _ hj=>by
    have hj' : j < ys.length:=by omega
    obtain ⟨v,hv,hr⟩:=hS' _ (hps _ (pcs_mem (List.getElem?_eq_getElem hj'))) b hb'
    refine ⟨v,hv,?_⟩
    show Rep _ (ys.getD (off + j - off) .any) v
    rw [show off + j - off = j from by omega,List.getD_eq_getElem?_getD,List.getElem?_eq_getElem hj']
    exact hr)
   rw [Nat.add_zero,aggF_list] at h2
   exact ⟨vs,by simpa using h1,h2⟩
  obtain ⟨vs,_,hvs⟩:=run w hS
  have run2 : ∀ w',heldS an ps w' → (execOp a.eval o).run X.P w' = .ok (.value (.agg vs.toArray)) w':=by
   intro w' hS'
   obtain ⟨vs',h1,h2⟩:=run w' hS'
   have e : vs' = vs:=Reps.one hin.1 h2 hvs
   subst e
   have h3:=run_isAgg (X:=X) (w:=w') hk.1
   have h4:=run_size (X:=X) (w:=w') hk.1
   rw [hk.2] at h3
   rw [hl] at h1
   simp only [execOp,hop,hav,Instr.loadAt,Instr.sureAddr,loadVar,Sem.run_bind,Sem.run_pure,Result.andThen_ok,h3,h4,if_true,loadCells,h1]
  refine ⟨o,.agg vs.toArray,ho,.inl ⟨gdo_wanted hw hi.env,run2⟩,hS,k β w _ ⟨hi.mem,hi.env.put hp (.agg (hvs.agree (fun g hg=>(anB_eq hanc g hg).symm) hin.1)),by rw [put_defers]; exact hi.ds⟩⟩
theorem up_lk (ρ : Env) (t : Nat) (v : SV) (h : lk ρ t = v) (i : Nat) : lk (up ρ t v) i = lk ρ i:=by
 rw [lk_up]
 by_cases e : i = t
 ·subst e; rw [beqT]; exact h.symm
 ·rw [beqF e]; rfl
theorem GC.abs {Q : Exit → Act → World → Prop} {cc : Code} {s : S} {s' : Int → S} {k : IntKind} {z : Int} (t : Nat) (ht : lk s.ρ t = .v (.int k z)) (hf : ∀ z',forceS ⟨up s.ρ t (.v (.int k z')),s.σ,s.nx,s.ds⟩ = some (s' z')) (h : ∀ z',z' = z → GC X Q cc (s' z')) : GC X Q cc s:=fun β w a hi=>by
 have h1:=hf z
 rw [forceS_eq] at h1
 refine h z rfl β w a ?_
 rw [← Option.some.inj h1]
 exact ⟨hi.mem,⟨hi.env.size,fun i=>by show Rep β (lk (up s.ρ t _) i) _; rw [up_lk _ _ _ ht]; exact hi.env.get i⟩,hi.ds⟩
theorem GL.abs {ops : Array Oper} {Q : Exit → Act → World → Prop} {l : List Oper} {s : S} {s' : Int → S} {k : IntKind} {z : Int} (t : Nat) (ht : lk s.ρ t = .v (.int k z)) (hf : ∀ z',forceS ⟨up s.ρ t (.v (.int k z')),s.σ,s.nx,s.ds⟩ = some (s' z')) (h : ∀ z',z' = z → GL X ops Q l (s' z')) : GL X ops Q l s:=fun β w a hi=>by
 have h1:=hf z
 rw [forceS_eq] at h1
 refine h z rfl β w a ?_
 rw [← Option.some.inj h1]
 exact ⟨hi.mem,⟨hi.env.size,fun i=>by show Rep β (lk (up s.ρ t _) i) _; rw [up_lk _ _ _ ht]; exact hi.env.get i⟩,hi.ds⟩
theorem OpW.makeI {Q : Exit → Act → World → Prop} {o : Oper} {s : S} {K : Act → World → Prop} {t e : Nat} {x y : Operand} {k1 k2 k : IntKind} {l c : Int} {ρ' : Env}
  (ho : o.op = .makeSlice t x y) (hk : (X.T t).k = .slc e) (hke : known (X.T e).k = true) (hx : ev s.ρ x = .v (.int k1 l)) (hy : ev s.ρ y = .v (.int k2 c)) (h0 : 0 ≤ l) (hlc : l ≤ c) (hc : c < 9223372036854775808) (hb : (X.T e).bytes * c ≤ 281474976710656)
  (hp : putE X.n s.ρ o.dst (.slc s.nx 0 l.toNat c.toNat) = some ρ') (hs1 : (X.T e).size = 1) (hz : (X.T e).zero = [(1,.int k 0)])
  (next : GK X K ⟨ρ',upG s.σ s.nx (.row ⟨.ints k fun _=>0,c.toNat,e⟩),s.nx + 1,s.ds⟩) : OpW X Q o s K:=by
 refine OpW.make ho hk hke hx hy h0 hlc hc hb hp (by rw [hs1]; exact Nat.one_pos) fun β w a hi=>?_
 refine next β w a ⟨?_,hi.env,hi.ds⟩
 have hm:=hi.mem
 refine hm.conv (by show _ = c.toNat * _; rw [hs1,Nat.mul_one]) rfl fun i _=>.inr ?_
 show SV.v (.int k 0) = SV.v (rle (X.T e).zero (i % (X.T e).size))
 rw [hs1,hz,Nat.mod_one]; rfl
theorem VStep.assertN {ρ : Env} {o : Oper} {x : Operand} {xt a : Nat} {z : Value} (ho : o.op = .typeAssert x xt a true) (hx : ev ρ x = .v .nilIface) (hi : isIfc (X.T a).k = false) (hz : ∀ w,(zeroValue a).run X.P w = .ok z w) : VStep X ρ o (.tup [.v z,.v (.bool false)]):=by
 intro β ac he
 obtain ⟨d,hd,hn⟩:=not_ifc hi
 have h:=he.ev x
 rw [hx] at h
 generalize hv : ac.eval x = v at h
 cases h
 have hE : execOp ac.eval o = (do pure (.value (← Instr.typeAssert (ac.eval x) xt a true))):=by unfold execOp; simp only [ho]
 refine ⟨.tuple #[z,.bool false],fun w=>?_,.tup (.cons (.v _) (.cons (.v _) .nil))⟩
 rw [hE,Sem.run_bind,hv]
 have : (Instr.typeAssert .nilIface xt a true).run X.P w = .ok (.tuple #[z,.bool false]) w:=by
  simp only [Instr.typeAssert,Sem.run_bind,run_under hd,Result.andThen_ok]
  cases d <;> simp [hz] <;> exact absurd rfl (hn _)
 rw [this]; rfl
theorem GC.loop0 {Q : Exit → Act → World → Prop} {c : Code} {s : S} (h : GC X (Exit.then (fun _ _=>False) Q) c s) : GC X Q (.loop c) s:=by
 refine GC.loop (ι:=Unit) (fun _=>True) (fun _=>0) (fun _=>s) () trivial rfl fun _ _=>?_
 intro β w a hi
 refine Code.wp_mono (fun e a w hq=>?_) (h β w a hi)
 cases e with
 | normal=>exact hq.elim
 | _=>exact hq
end
section
open Go.RowKit
variable {X : Ctx}
theorem GL.spl {ops : Array Oper} {Q : Exit → Act → World → Prop} {l : List Oper} {s s1 s2 : S} (t : Nat) {b : Bool} (ht : lk s.ρ t = .v (.bool b)) (hf1 : forceS ⟨up s.ρ t (.v (.bool true)),s.σ,s.nx,s.ds⟩ = some s1) (hf2 : forceS ⟨up s.ρ t (.v (.bool false)),s.σ,s.nx,s.ds⟩ = some s2)
  (h1 : b = true → GL X ops Q l s1) (h2 : b = false → GL X ops Q l s2) : GL X ops Q l s:=by
 rw [forceS_eq] at hf1 hf2
 obtain rfl:=Option.some.inj hf1
 obtain rfl:=Option.some.inj hf2
 exact GL.split t ht h1 h2
def itN (P : Program) (c : Code) (Q : Exit → Act → World → Prop) : Nat → Act → World → Prop
 | 0=>fun _ _=>False
 | n + 1=>c.wp P (Exit.then (itN P c Q n) Q)
theorem least {p : Nat → Prop} : (∃ n,p n) → ∃ m,p m ∧ ∀ k,p k → m ≤ k:=by
 rintro ⟨n,h⟩
 induction n using Nat.strongRecOn with
 | _ n ih =>
  by_cases e : ∃ k,k < n ∧ p k
  ·obtain ⟨k,hk,hp⟩:=e; exact ih k hk hp
  ·exact ⟨n,h,fun k hp=>Nat.le_of_not_lt fun hl=>e ⟨k,hl,hp⟩⟩
theorem wp_loopU {P : Program} {c : Code} {Q : Exit → Act → World → Prop} {n : Nat} {a : Act} {w : World} (h : itN P c Q n a w) : (Code.loop c).wp P Q a w:=by
 classical
 refine wp_loop (fun a w=>∃ n,itN P c Q n a w) (fun a w=>if h : ∃ n,itN P c Q n a w then (least h).choose else 0) ⟨n,h⟩ fun a w hi=>?_
 have hf:=(least hi).choose_spec.1
 generalize hm : (least hi).choose = m at hf
 cases m with
 | zero=>exact hf.elim
 | succ m =>
  refine Code.wp_mono (fun e a' w' q=>?_) hf
  cases e with
  | normal =>
   have q1 : ∃ n,itN P c Q n a' w':=⟨m,q⟩
   refine ⟨q1,?_⟩
   show (if h : ∃ n,itN P c Q n a' w' then (least h).choose else 0) < (if h : ∃ n,itN P c Q n a w then (least h).choose else 0)
   rw [dif_pos q1,dif_pos hi,hm]
   exact Nat.lt_succ_of_le ((least q1).choose_spec.2 m q)
  | _=>exact q
theorem GC.loopU (n : Nat) {Q : Exit → Act → World → Prop} {c : Code} {s : S} (h : GC X (Exit.then (itN X.P c Q n) Q) c s) : GC X Q (.loop c) s :=
 fun β w a hi=>wp_loopU (n:=n + 1) (h β w a hi)
theorem GK.itr {n : Nat} {Q : Exit → Act → World → Prop} {c : Code} {s : S} (h : GC X (Exit.then (itN X.P c Q n) Q) c s) : GK X (itN X.P c Q (n + 1)) s:=h
def zlst (z : List (Nat × Value)) (sz : Nat) : Nat → Nat → List SV
 | 0,_=>[]
 | m + 1,i=>.v (rle z (i % sz)) :: zlst z sz m (i + 1)
theorem zlst_get (z : List (Nat × Value)) (sz : Nat) : ∀ (m i j : Nat),j < m → lget (zlst z sz m i) j = .v (rle z ((i + j) % sz))
 | m + 1,i,0,_=>rfl
 | m + 1,i,j + 1,h=>by
  show lget (zlst z sz m (i + 1)) j = _
  rw [zlst_get z sz m (i + 1) j (by omega),show i + 1 + j = i + (j + 1) from by omega]
theorem leInt {a : Nat} {c : Int} {k : Nat} (h : a * c.toNat ≤ k) (h0 : 0 ≤ c) : (a : Int) * c ≤ (k : Int):=by
 obtain ⟨n,rfl⟩:=Int.eq_ofNat_of_zero_le h0
 exact_mod_cast h
theorem OpW.makeL {Q : Exit → Act → World → Prop} {o : Oper} {s : S} {K : Act → World → Prop} {t e : Nat} {x y : Operand} {k1 k2 : IntKind} {l c : Int} {ρ' : Env} {L : List SV} {n : Nat} (z : List (Nat × Value)) (sz : Nat)
  (ho : o.op = .makeSlice t x y) (hk : (X.T t).k = .slc e) (hke : known (X.T e).k = true) (hx : ev s.ρ x = .v (.int k1 l)) (hy : ev s.ρ y = .v (.int k2 c)) (h0 : 0 ≤ l) (hlc : l ≤ c) (hc : c < 9223372036854775808) (hb : Nat.ble ((X.T e).bytes * c.toNat) 281474976710656 = true)
  (hp : putE X.n s.ρ o.dst (.slc s.nx 0 l.toNat c.toNat) = some ρ') (hs0 : Nat.ble 1 (X.T e).size = true) (hz : (X.T e).zero = z) (hsz : (X.T e).size = sz) (hn : c.toNat * sz = n) (hL : zlst z sz n 0 = L)
  (next : GK X K ⟨ρ',upG s.σ s.nx (.row ⟨.lst L,n,e⟩),s.nx + 1,s.ds⟩) : OpW X Q o s K:=by
 subst hz hsz hn hL
 have hb:=Nat.le_of_ble_eq_true hb
 refine OpW.make ho hk hke hx hy h0 hlc hc (leInt hb (Int.le_trans h0 hlc)) hp (Nat.le_of_ble_eq_true hs0) fun β w a hi=>?_
 refine next β w a ⟨?_,hi.env,hi.ds⟩
 refine hi.mem.conv rfl rfl fun i h=>.inr ?_
 show lget (zlst _ _ _ 0) i = SV.v _
 rw [zlst_get _ _ _ _ _ h,Nat.zero_add]
theorem OpW.appendIn {Q : Exit → Act → World → Prop} {o : Oper} {s : S} {K : Act → World → Prop} {t t' e : Nat} {x y : Operand} {g off n cap m : Nat} {r : Row} {new : Nat → SV} {RA : Env}
  (ho : o.op = .call { callee:=.builtin .append,args:=#[x,y],argTypes:=#[t,t'] }) (hk : (X.T t).k = .slc e) (hk' : isSeq (X.T t').k = true) (hke : known (X.T e).k = true) (hs0 : Nat.ble 1 (X.T e).size = true)
  (hx : ev s.ρ x = .slc g off n cap) (hg : gk s.σ g = some (.row r)) (hre : r.e = e) (hrn : Nat.ble (off + cap * (X.T e).size) r.n = true) (hn : n ≤ cap)
  (hsrc : ∀ β w a,Inv X s β w a → Src X (X.T e).size m new β w (a.eval y))
  (h63 : n + m < 9223372036854775808) (hby : Nat.ble ((n + m) * (X.T e).bytes) 140737488355328 = true) (hput : putOk X.n o.dst = true)
  (hA : putE X.n s.ρ o.dst (.slc g off (n + m) cap) = some RA) (hc : n + m ≤ cap)
  (next : GK X K ⟨RA,upG s.σ g (.row (setR r (off + n * (X.T e).size) (aggF new 0 (m * (X.T e).size)))),s.nx,s.ds⟩) : OpW X Q o s K:=by
 refine OpW.append2 (RB:=fun cap'=>(putE X.n s.ρ o.dst (.slc s.nx 0 (n + m) cap')).get (putOk_some hput _)) ho hk hk' hke (Nat.le_of_ble_eq_true hs0) hx hg hre (Nat.le_of_ble_eq_true hrn) hn hsrc h63 (Nat.le_of_ble_eq_true hby) hA (fun cap'=>(Option.some_get _).symm) (fun _=>next) fun h=>absurd hc (by omega)
open Go.RowKit
variable {X : Ctx}
def GEq (o o' : GO) : Prop:=o = o' ∨ ∃ r r',o = .row r ∧ o' = .row r' ∧ r.n = r'.n ∧ r.e = r'.e ∧ ∀ i,i < r.n → r.f i = r'.f i
def GHEq : GH → GH → Prop
 | [],[]=>True
 | (j,o) :: r,(j',o') :: r'=>j = j' ∧ GEq o o' ∧ GHEq r r'
 | _,_=>False
theorem GEq.symm {o o' : GO} (h : GEq o o') : GEq o' o:=by
 rcases h with rfl | ⟨r,r',rfl,rfl,h1,h2,h3⟩
 ·exact .inl rfl
 ·exact .inr ⟨r',r,rfl,rfl,h1.symm,h2.symm,fun i hi=>(h3 i (h1 ▸ hi)).symm⟩
theorem GHEq.symm : ∀ {σ σ' : GH},GHEq σ σ' → GHEq σ' σ
 | [],[],_=>trivial
 | (_,_) :: _,(_,_) :: _,⟨h1,h2,h3⟩=>⟨h1.symm,h2.symm,GHEq.symm h3⟩
 | [],_ :: _,h=>h.elim
 | _ :: _,[],h=>h.elim
theorem RepG.cv {β : Bl} {o o' : GO} {x : Obj} (h : RepG β o x) (e : GEq o o') : RepG β o' x:=by
 rcases e with rfl | ⟨r,r',rfl,rfl,h1,h2,h3⟩
 ·exact h
 ·cases h with
  | row h hf=>rw [h2]; exact .row ⟨h.size.trans h1,fun i hi=>by rw [← h3 i (h1 ▸ hi)]; exact h.get i (h1 ▸ hi)⟩ (h1 ▸ hf)
theorem GEq.fz {o : GO} {F : Nat → Option Obj} (h : GEq o (.fz F)) : o = .fz F:=by
 rcases h with rfl | ⟨r,r',_,h,_⟩
 ·rfl
 ·cases h
end
end Go.Proofs.YtebadfmnmhmfeaaGreatDoor.Sx
