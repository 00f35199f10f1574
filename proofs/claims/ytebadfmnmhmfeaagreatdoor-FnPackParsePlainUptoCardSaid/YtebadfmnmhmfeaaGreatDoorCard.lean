/- The given statement: for every list of entries that the row speaks of (bulk at most 1048576) the law returns true and the argument reads as before. -/
import Derived.Test.YtebadfmnmhmfeaaGreatDoorP19
import Derived.Test.YtebadfmnmhmfeaaGreatDoorCards
import Derived.Test.YtebadfmnmhmfeaaGreatDoorTie
import Derived.ProofKit
import Derived.OpenShut
import Derived.LaidMore
import Derived.MakeChecks
import Derived.Deep.Slices
import Derived.Deep.DeepWitnessRowRef
import Derived.Stop.LaidErr
import Derived.Lib.LaidTab
namespace Go.Proofs.YtebadfmnmhmfeaaGreatDoor
open Go.Proofs.YtebadfmnmhmfeaaGreatDoor.T Go.Proofs.YtebadfmnmhmfeaaGreatDoor.Sx Go.RowKit Go.ChangeShapes Go.WideShapes Go.ChangeAt Go.WideElems
set_option linter.unusedSimpArgs false
set_option linter.unusedVariables false
set_option linter.unnecessarySimpa false
set_option maxRecDepth 100000
def muW (W : World) : Nat → Option Obj:=fun b=>W.heap[b]?
theorem mu_cell {W : World} {b i : Nat} {v : Value} (h : W.cell? ⟨b,i,none⟩ = some v) : muAt (muW W) b i = some v:=by
 unfold World.cell? at h
 unfold muAt muW
 simp only at h ⊢
 split at h
 ·rename_i c e f hc
  rw [hc]
  simpa using h
 ·cases h
theorem spot_none {W : World} {a : Addr} {v : Value} (h : W.cell? a = some v) : a.spot = none:=by
 unfold World.cell? at h
 split at h
 ·split at h
  ·cases h
  ·rename_i hs; simpa using hs
 ·cases h
section
variable {H : Type} {enc : TypeId × Value → H} {W : World} {held : Bool}
abbrev Rd (enc : TypeId × Value → H) (W : World) (held : Bool) (n : Nat) (t : TypeId) (cs : List Value) (x : DataW H × List MemPlace) : Prop:=DataW.trod enc Tryz.prog W 0 (fun _=>true) held n t cs = some x
theorem bk_one {d : DataW H} {l : List (DataW H)} (h : d ∈ l) : Rows.uptoBulk d ≤ Rows.uptoBulkAll l:=by
 induction l with
 | nil=>cases h
 | cons x r ih =>
  simp only [Rows.uptoBulkAll]
  cases List.mem_cons.1 h with
  | inl e=>subst e; omega
  | inr e=>have:=ih e; omega
theorem bk_pos (d : DataW H) : 1 ≤ Rows.uptoBulk d:=by
 cases d with
 | lit l=>cases l <;> simp [Rows.uptoBulk]
 | nil=>simp [Rows.uptoBulk]
 | ptr d=>simp [Rows.uptoBulk]
 | slice elems spare=>simp [Rows.uptoBulk]
 | agg parts=>simp [Rows.uptoBulk]
 | iface t d=>simp [Rows.uptoBulk]
 | map entries=>simp [Rows.uptoBulk]
 | held h=>simp [Rows.uptoBulk]
theorem bk_len (l : List (DataW H)) : l.length ≤ Rows.uptoBulkAll l:=by
 induction l with
 | nil=>simp [Rows.uptoBulkAll]
 | cons x r ih=>have:=bk_pos x; simp only [Rows.uptoBulkAll,List.length_cons]; omega
theorem bk_slice {es sp : List (DataW H)} : es.length ≤ Rows.uptoBulk (.slice es sp) ∧ ∀ (i : Nat) d,es[i]? = some d → Rows.uptoBulk d ≤ Rows.uptoBulk (.slice es sp):=by
 simp only [Rows.uptoBulk]
 refine ⟨by have:=bk_len es; omega,fun i d h=>?_⟩
 have:=bk_one (List.mem_of_getElem? h)
 omega
theorem bk_agg {es : List (DataW H)} : ∀ (i : Nat) d,es[i]? = some d → Rows.uptoBulk d ≤ Rows.uptoBulk (.agg es):=by
 simp only [Rows.uptoBulk]
 intro i d h
 have:=bk_one (List.mem_of_getElem? h)
 omega
theorem rd_slices {t e n : Nat} {vs : List Value} {x : DataW H × List MemPlace} (ht : Tryz.prog.underlying t = some (.slice e)) (h : Rd enc W held n t vs x) :
  (vs = [.slice none 0 0] ∧ x.1 = .nil) ∨ (∃ a len cap es sp,vs = [.slice (some a) len cap] ∧ x.1 = .slice es sp ∧ es.length = len ∧ len ≤ cap ∧ (0 < cap → 0 < Tryz.prog.cellsOf e → a.spot = none) ∧
   ∀ i,i < len → ∃ cs n' y,es[i]? = some y.1 ∧ cs.length = Tryz.prog.cellsOf e ∧ (∀ q,q < Tryz.prog.cellsOf e → W.cell? (a.add (i * Tryz.prog.cellsOf e + q)) = cs[q]?) ∧ Rd enc W held n' e cs y):=by
 rcases Deep.open_slice ht h with ⟨h1,h2⟩ | ⟨a,len,cap,m,k,D,Pl,h1,_,hl,_,hm,hx,hel⟩
 ·exact .inl ⟨h1,by rw [h2]⟩
 have hm' : m = cap:=by simpa using hm
 subst hm'
 refine .inr ⟨a,len,m,_,_,h1,by rw [hx],by simp,hl,fun h0 h0'=>?_,fun i hi=>?_⟩
 ·obtain ⟨cs',hc,_⟩:=hel 0 h0
  obtain ⟨_,hcl,hci⟩:=World.cells?_some hc
  have h2:=hci 0 h0'
  rw [Nat.zero_mul,show (a.add 0).add 0 = a from by simp [Addr.add],List.getElem?_eq_getElem (by omega)] at h2
  exact spot_none h2
 ·obtain ⟨cs',hc,hd⟩:=hel i (by omega)
  obtain ⟨_,hcl,hci⟩:=World.cells?_some hc
  refine ⟨cs',k,(D i,Pl i),by simp [List.getElem?_map,List.getElem?_range hi],hcl,fun q hq=>?_,hd⟩
  rw [← Deep.add_add]; exact hci q hq
theorem rd_slice {t e n : Nat} {v : Value} {x : DataW H × List MemPlace} (ht : Tryz.prog.underlying t = some (.slice e)) (h : Rd enc W held n t [v] x) :
  (v = .slice none 0 0 ∧ x.1 = .nil) ∨ (∃ a len cap es sp,v = .slice (some a) len cap ∧ x.1 = .slice es sp ∧ es.length = len ∧ len ≤ cap ∧ (0 < cap → 0 < Tryz.prog.cellsOf e → a.spot = none) ∧
   ∀ i,i < len → ∃ cs n' y,es[i]? = some y.1 ∧ cs.length = Tryz.prog.cellsOf e ∧ (∀ q,q < Tryz.prog.cellsOf e → W.cell? (a.add (i * Tryz.prog.cellsOf e + q)) = cs[q]?) ∧ Rd enc W held n' e cs y):=by
 rcases rd_slices ht h with ⟨h1,h2⟩ | ⟨a,len,cap,es,sp,h1,h2⟩
 ·exact .inl ⟨by simpa using h1,h2⟩
 ·exact .inr ⟨a,len,cap,es,sp,by simpa using h1,h2⟩
theorem rd_struct {t n : Nat} {fs : Array Field} {cs : List Value} {x : DataW H × List MemPlace} {l : List (Nat × Nat)} (ht : Tryz.prog.underlying t = some (.struct fs)) (hl : fs.toList.map (fun f=>(f.offset,f.type)) = l) (h : Rd enc W held n t cs x) :
  ∃ n' es,x.1 = .agg es ∧ ∀ (i o u : Nat),l[i]? = some (o,u) → ∃ y,es[i]? = some y.1 ∧ Rd enc W held n' u ((cs.drop o).take (Tryz.prog.cellsOf u)) y:=by
 obtain ⟨xs,n',_,rfl,_,hlen,hf⟩:=DataW.trod_struct ht h
 refine ⟨n',_,rfl,fun i o u hi=>?_⟩
 rw [← hl,List.getElem?_map,Option.map_eq_some_iff] at hi
 obtain ⟨f,hfi,he⟩:=hi
 simp only [Prod.mk.injEq] at he
 obtain ⟨rfl,rfl⟩:=he
 have hfi' : fs[i]? = some f:=by simpa using hfi
 have hi' : i < xs.length:=by
  rw [hlen]
  exact (Array.getElem?_eq_some_iff.1 hfi').1
 have h1:=hf i f hfi'
 rw [List.getElem?_eq_getElem hi'] at h1
 exact ⟨xs[i],by rw [List.getElem?_map,List.getElem?_eq_getElem hi']; rfl,h1⟩
theorem u25 : Tryz.prog.underlying 25 = some (.slice 5):=by kernel_rfl
theorem u26 : Tryz.prog.underlying 26 = some (.slice 87):=by kernel_rfl
theorem u22 : Tryz.prog.underlying 22 = some (.slice 28):=by kernel_rfl
theorem u5 : Tryz.prog.underlying 5 = some (.int .u8):=by kernel_rfl
theorem u3 : Tryz.prog.underlying 3 = some (.int .i64):=by kernel_rfl
theorem u4 : Tryz.prog.underlying 4 = some .bool:=by kernel_rfl
theorem c5 : Tryz.prog.cellsOf 5 = 1:=by kernel_rfl
theorem c3 : Tryz.prog.cellsOf 3 = 1:=by kernel_rfl
theorem c4 : Tryz.prog.cellsOf 4 = 1:=by kernel_rfl
theorem c25 : Tryz.prog.cellsOf 25 = 1:=by kernel_rfl
theorem c26 : Tryz.prog.cellsOf 26 = 1:=by kernel_rfl
theorem c28 : Tryz.prog.cellsOf 28 = 4:=by kernel_rfl
theorem c87 : Tryz.prog.cellsOf 87 = 5:=by kernel_rfl
theorem u28 : ∃ fs,Tryz.prog.underlying 28 = some (.struct fs) ∧ fs.toList.map (fun f=>(f.offset,f.type)) = [(0,3),(1,25),(2,3),(3,26)]:=(T.tabOK 28 rfl).desc
theorem u87 : ∃ fs,Tryz.prog.underlying 87 = some (.struct fs) ∧ fs.toList.map (fun f=>(f.offset,f.type)) = [(0,4),(1,3),(2,3),(3,25),(4,3)]:=(T.tabOK 87 rfl).desc
theorem kn_of {n : Nat} {v : Value} {x : DataW H × List MemPlace} (h : Rd enc W held n 25 [v] x) (hb : Rows.uptoBulk x.1 ≤ 1048576) : ∃ a m c T,v = .slice a m c ∧ Kn (muW W) nF a m c T:=by
 rcases rd_slice u25 h with ⟨rfl,_⟩ | ⟨a,len,cap,es,sp,rfl,hx,he,hl,hs,hel⟩
 ·exact ⟨none,0,0,fun _=>0,rfl,.inl ⟨.inl rfl,rfl,rfl⟩,fun j hj=>absurd hj (Nat.not_lt_zero _),Nat.zero_le _⟩
 rw [c5] at hel hs
 have hlb : len ≤ 1048576:=by rw [hx] at hb; have:=(bk_slice (es:=es) (sp:=sp)).1; omega
 have key : ∀ i,i < len → ∃ z : Int,W.cell? (a.add i) = some (.int .u8 z) ∧ 0 ≤ z ∧ z < 256:=fun i hi=>by
  obtain ⟨cs,n',y,_,hc,hq,hr⟩:=hel i hi
  match cs,hc with
  | [v],_ =>
   have h0:=hq 0 (by decide)
   rw [Nat.mul_one,Nat.add_zero] at h0
   obtain ⟨z,hz,_,hw⟩:=DataW.trod_int u5 hr
   obtain rfl : v = .int .u8 z:=by simpa using hz
   have:=bounds_u8 hw
   exact ⟨z,h0,this.1,by omega⟩
 obtain ⟨T,hT⟩:=Deep.choose_lt key
 obtain ⟨b,o,s⟩:=a
 by_cases hc : cap = 0
 ·subst hc
  obtain rfl : len = 0:=by omega
  cases s with
  | some z=>exact ⟨_,0,0,fun _=>0,rfl,.inl ⟨.inr ⟨b,o,z,rfl⟩,rfl,rfl⟩,fun j hj=>absurd hj (Nat.not_lt_zero _),Nat.zero_le _⟩
  | none=>exact ⟨_,0,0,fun _=>0,rfl,.inr ⟨b,o,rfl,Nat.le_refl _,fun j hj=>absurd hj (Nat.not_lt_zero _)⟩,fun j hj=>absurd hj (Nat.not_lt_zero _),Nat.zero_le _⟩
 ·obtain rfl : s = none:=hs (by omega) (by decide)
  exact ⟨_,len,cap,T,rfl,.inr ⟨b,o,rfl,hl,fun j hj=>.inl (mu_cell (by have:=(hT j hj).1; rwa [addr_add] at this))⟩,fun j hj=>(hT j hj).2,hlb⟩
theorem stp_of {n b o : Nat} {cs : List Value} {x : DataW H × List MemPlace} (h : Rd enc W held n 87 cs x) (hb : Rows.uptoBulk x.1 ≤ 1048576) (hl : cs.length = 5) (hq : ∀ q,q < 5 → W.cell? ⟨b,o + q,none⟩ = cs[q]?) :
  ∃ z : Bool × Int × Int × Option Addr × Nat × Nat × Int,StpAt (muW W) b o z.1 z.2.1 z.2.2.1 z.2.2.2.1 z.2.2.2.2.1 z.2.2.2.2.2.1 z.2.2.2.2.2.2:=by
 obtain ⟨fs,h1,h2⟩:=u87
 obtain ⟨n',es,hx,hf⟩:=rd_struct h1 h2 h
 rw [hx] at hb
 match cs,hl with
 | [v0,v1,v2,v3,v4],_ =>
  obtain ⟨y0,_,r0⟩:=hf 0 0 4 rfl
  obtain ⟨y1,_,r1⟩:=hf 1 1 3 rfl
  obtain ⟨y2,_,r2⟩:=hf 2 2 3 rfl
  obtain ⟨y3,e3,r3⟩:=hf 3 3 25 rfl
  obtain ⟨y4,_,r4⟩:=hf 4 4 3 rfl
  rw [c4] at r0; rw [c3] at r1 r2 r4; rw [c25] at r3
  obtain ⟨cp,hz0,_⟩:=DataW.trod_bool u4 r0
  obtain ⟨fr,hz1,_,_⟩:=DataW.trod_int u3 r1
  obtain ⟨sz,hz2,_,_⟩:=DataW.trod_int u3 r2
  obtain ⟨wd,hz4,_,_⟩:=DataW.trod_int u3 r4
  obtain ⟨a,m,c,T,hz3,hK⟩:=kn_of (v:=v3) r3 (by have:=bk_agg _ _ e3; omega)
  obtain rfl : v0 = .bool cp:=by simpa using hz0
  obtain rfl : v1 = .int .i64 fr:=by simpa using hz1
  obtain rfl : v2 = .int .i64 sz:=by simpa using hz2
  obtain rfl : v4 = .int .i64 wd:=by simpa using hz4
  subst hz3
  refine ⟨(cp,fr,sz,a,m,c,wd),fun q v hv=>?_,T,hK⟩
  have hq5 : q < 5:=by
   have:=(List.getElem?_eq_some_iff.1 hv).1
   simpa using this
  refine mu_cell ?_
  rw [hq q hq5]; exact hv
theorem stps_of {n : Nat} {v : Value} {x : DataW H × List MemPlace} (h : Rd enc W held n 26 [v] x) (hb : Rows.uptoBulk x.1 ≤ 1048576) : ∃ a m c,v = .slice a m c ∧ Stps (muW W) a m c:=by
 rcases rd_slice u26 h with ⟨rfl,_⟩ | ⟨a,len,cap,es,sp,rfl,hx,he,hl,hs,hel⟩
 ·exact ⟨none,0,0,rfl,.inl ⟨.inl rfl,rfl,rfl⟩,Nat.zero_le _⟩
 rw [c87] at hel hs
 rw [hx] at hb
 have hlb : len ≤ 1048576:=by have:=(bk_slice (es:=es) (sp:=sp)).1; omega
 obtain ⟨b,o,s⟩:=a
 by_cases hc : cap = 0
 ·subst hc
  obtain rfl : len = 0:=by omega
  cases s with
  | some z=>exact ⟨_,0,0,rfl,.inl ⟨.inr ⟨b,o,z,rfl⟩,rfl,rfl⟩,Nat.zero_le _⟩
  | none=>exact ⟨_,0,0,rfl,.inr ⟨b,o,fun _=>false,fun _=>0,fun _=>0,fun _=>none,fun _=>0,fun _=>0,fun _=>0,rfl,Nat.le_refl _,fun j hj=>absurd hj (Nat.not_lt_zero _)⟩,Nat.zero_le _⟩
 obtain rfl : s = none:=hs (by omega) (by decide)
 have key : ∀ i,i < len → ∃ z : Bool × Int × Int × Option Addr × Nat × Nat × Int,StpAt (muW W) b (o + i * 5) z.1 z.2.1 z.2.2.1 z.2.2.2.1 z.2.2.2.2.1 z.2.2.2.2.2.1 z.2.2.2.2.2.2:=fun i hi=>by
  obtain ⟨cs,n',y,hy,hcl,hq,hr⟩:=hel i hi
  refine stp_of hr (by have:=(bk_slice (es:=es) (sp:=sp)).2 _ _ hy; omega) hcl fun q hq5=>?_
  have:=hq q hq5
  rw [addr_add] at this
  rw [Nat.add_assoc]; exact this
 obtain ⟨Z,hZ⟩:=Deep.choose_lt key
 exact ⟨_,len,cap,rfl,.inr ⟨b,o,_,_,_,_,_,_,_,rfl,hl,hZ⟩,hlb⟩
theorem ent_of {n b o : Nat} {cs : List Value} {x : DataW H × List MemPlace} (h : Rd enc W held n 28 cs x) (hb : Rows.uptoBulk x.1 ≤ 1048576) (hl : cs.length = 4) (hq : ∀ q,q < 4 → W.cell? ⟨b,o + q,none⟩ = cs[q]?) :
  ∃ z : Int × Option Addr × Nat × Nat × Int × Option Addr × Nat × Nat,EntAt (muW W) b o z.1 z.2.1 z.2.2.1 z.2.2.2.1 z.2.2.2.2.1 z.2.2.2.2.2.1 z.2.2.2.2.2.2.1 z.2.2.2.2.2.2.2:=by
 obtain ⟨fs,h1,h2⟩:=u28
 obtain ⟨n',es,hx,hf⟩:=rd_struct h1 h2 h
 rw [hx] at hb
 match cs,hl with
 | [v0,v1,v2,v3],_ =>
  obtain ⟨y0,_,r0⟩:=hf 0 0 3 rfl
  obtain ⟨y1,e1,r1⟩:=hf 1 1 25 rfl
  obtain ⟨y2,_,r2⟩:=hf 2 2 3 rfl
  obtain ⟨y3,e3,r3⟩:=hf 3 3 26 rfl
  rw [c3] at r0 r2; rw [c25] at r1; rw [c26] at r3
  obtain ⟨kd,hz0,_,_⟩:=DataW.trod_int u3 r0
  obtain ⟨bs,hz2,_,_⟩:=DataW.trod_int u3 r2
  obtain ⟨a,m,c,T,hz1,hK⟩:=kn_of (v:=v1) r1 (by have:=bk_agg _ _ e1; omega)
  obtain ⟨sa,sn,sc,hz3,hS⟩:=stps_of (v:=v3) r3 (by have:=bk_agg _ _ e3; omega)
  obtain rfl : v0 = .int .i64 kd:=by simpa using hz0
  obtain rfl : v2 = .int .i64 bs:=by simpa using hz2
  subst hz1; subst hz3
  refine ⟨(kd,a,m,c,bs,sa,sn,sc),fun q v hv=>?_,⟨T,hK⟩,hS⟩
  have hq4 : q < 4:=by
   have:=(List.getElem?_eq_some_iff.1 hv).1
   simpa using this
  refine mu_cell ?_
  rw [hq q hq4]; exact hv
theorem ents_of {n b o m cp : Nat} {x : DataW H × List MemPlace} (h : Rd enc W held n 22 [.slice (some ⟨b,o,none⟩) m cp] x) (hb : Rows.uptoBulk x.1 ≤ 1048576) :
  ∃ kd a n c bs sa sn sc,Ents (muW W) b o m kd a n c bs sa sn sc:=by
 rcases rd_slice u22 h with ⟨e,_⟩ | ⟨a,len,cap,es,sp,e,hx,he,hl,hs,hel⟩
 ·cases e
 cases e
 rw [c28] at hel
 rw [hx] at hb
 have hlb : m ≤ 1048576:=by have:=(bk_slice (es:=es) (sp:=sp)).1; omega
 have key : ∀ i,i < m → ∃ z : Int × Option Addr × Nat × Nat × Int × Option Addr × Nat × Nat,EntAt (muW W) b (o + i * 4) z.1 z.2.1 z.2.2.1 z.2.2.2.1 z.2.2.2.2.1 z.2.2.2.2.2.1 z.2.2.2.2.2.2.1 z.2.2.2.2.2.2.2:=fun i hi=>by
  obtain ⟨cs,n',y,hy,hcl,hq,hr⟩:=hel i hi
  refine ent_of hr (by have:=(bk_slice (es:=es) (sp:=sp)).2 _ _ hy; omega) hcl fun q hq4=>?_
  have:=hq q hq4
  rw [addr_add] at this
  rw [Nat.add_assoc]; exact this
 obtain ⟨Z,hZ⟩:=Deep.choose_lt key
 exact ⟨_,_,_,_,_,_,_,_,hZ,hlb⟩
end
theorem laid_var {P : Program} {W : World} : ∀ {l : List (String × DataW Unit)} {ps : List MemPlace},DataW.LaidVars P W l ps → ∀ (k : Nat) (n : String) (d : DataW Unit),l[k]? = some (n,d) →
  ∃ g t cs fuel p,P.globalNamed n = some g ∧ (P.globals[g]?).map (·.type) = some t ∧ W.var? P n = some cs ∧ DataW.trod (fun _=>()) P W 0 (fun _=>true) false fuel t cs.toList = some (d,p)
 | [],_,_,k,n,d,hk=>by simp at hk
 | (n0,d0) :: r,_,⟨g,t,cs,fuel,p,q,h1,h2,h3,h4,h5,_⟩,k,n,d,hk=>by
  cases k with
  | zero=>simp at hk; obtain ⟨rfl,rfl⟩:=hk; exact ⟨g,t,cs,fuel,p,h1,h2,h3,h4⟩
  | succ k=>exact laid_var h5 k n d (by simpa using hk)
theorem gEOF : Tryz.prog.globalNamed "io.EOF" = some 0:=by kernel_rfl
theorem tEOF : (Tryz.prog.globals[0]?).map (·.type) = some 66:=by kernel_rfl
theorem gP10 : Tryz.prog.globalNamed "internal/strconv.uint64pow10" = some 21:=by kernel_rfl
theorem tP10 : (Tryz.prog.globals[21]?).map (·.type) = some 351:=by kernel_rfl
theorem gOff : Tryz.prog.globalNamed "loop.example/pub-g01474/pub/gogit/plumbing/format/packfile.offsets" = some 12:=by kernel_rfl
theorem tOff : (Tryz.prog.globals[12]?).map (·.type) = some 266:=by kernel_rfl
theorem gSiz : Tryz.prog.globalNamed "loop.example/pub-g01474/pub/gogit/plumbing/format/packfile.sizes" = some 13:=by kernel_rfl
theorem tSiz : (Tryz.prog.globals[13]?).map (·.type) = some 266:=by kernel_rfl
theorem u66 : ∃ ms,Tryz.prog.underlying 66 = some (.interface ms):=(T.tabOK 66 rfl).desc
theorem u292 : Tryz.prog.underlying 292 = some (.pointer 294):=by kernel_rfl
theorem u294 : ∃ f,Tryz.prog.underlying 294 = some (.struct #[f]) ∧ f.type = 9 ∧ f.offset = 0:=by
 obtain ⟨fs,h1,h2⟩ : ∃ fs,Tryz.prog.underlying 294 = some (.struct fs) ∧ fs.toList.map (fun f=>(f.offset,f.type)) = [(0,9)]:=(T.tabOK 294 rfl).desc
 obtain ⟨l⟩:=fs
 match l,h2 with
 | [f],h2 =>
  simp at h2
  exact ⟨f,h1,h2.2,h2.1⟩
theorem u9 : Tryz.prog.underlying 9 = some .string:=by kernel_rfl
theorem c9 : Tryz.prog.cellsOf 9 = 1:=by kernel_rfl
theorem c294 : Tryz.prog.cellsOf 294 = 1:=by kernel_rfl
theorem u351 : Tryz.prog.underlying 351 = some (.array 20 90):=by kernel_rfl
theorem u90 : Tryz.prog.underlying 90 = some (.int .u64):=by kernel_rfl
theorem c90 : Tryz.prog.cellsOf 90 = 1:=by kernel_rfl
theorem c351 : Tryz.prog.cellsOf 351 = 20:=by kernel_rfl
theorem u266 : Tryz.prog.underlying 266 = some (.slice 268):=by kernel_rfl
theorem u268 : ∃ fs,Tryz.prog.underlying 268 = some (.struct fs) ∧ fs.toList.map (fun f=>(f.offset,f.type)) = [(0,5),(1,85)]:=(T.tabOK 268 rfl).desc
theorem c268 : Tryz.prog.cellsOf 268 = 2:=by kernel_rfl
theorem u85 : Tryz.prog.underlying 85 = some (.int .u64):=by kernel_rfl
theorem c85 : Tryz.prog.cellsOf 85 = 1:=by kernel_rfl
theorem star : "*errors.errorString" = "*" ++ "errors.errorString":=rfl
theorem row292 (u : TypeId) (h : Tryz.prog.typeName? 3 u = some "*errors.errorString") : u = 292 :=
 typeName_ptr_named (nm:= "errors.errorString") (by rw [← star]; kernel_rfl) (by kernel_rfl) (by decide) u (by rw [← star]; exact h)
theorem eof_of {W : World} {r : List (String × DataW Unit)} (h : laidMet Tryz.prog (("io.EOF",Rows.laid_io_EOF) :: r) W) : ∃ be,muAt (muW W) 0 0 = some (EOFv be):=by
 obtain ⟨ms,h66⟩:=u66
 obtain ⟨f,h294,hft,hfo⟩:=u294
 obtain ⟨a,s,hv,hc,_,_⟩:=laid_sentinel (ms:=ms) (f:=f) (ti:=66) (tp:=292) (te:=294) (ts:=9) h gEOF tEOF h66 row292 u292 h294 hft hfo u9 c294 c9
 obtain ⟨b,o,sp⟩:=a
 obtain rfl : sp = none:=spot_none hc
 exact ⟨(b,o),mu_cell (by rw [World.var?_cell gEOF hv 0]; rfl)⟩
theorem p10_of {W : World} {r : List (String × DataW Unit)} (h : laidMet Tryz.prog (("internal/strconv.uint64pow10",Rows.laid_internal_strconv_uint64pow10) :: r) W) : P10 (muW W):=by
 intro i hi
 have hT:=Lib.tabIs_of_head (k:=.u64) (zs:=[1,10,100,1000,10000,100000,1000000,10000000,100000000,1000000000,10000000000,100000000000,1000000000000,10000000000000,100000000000000,1000000000000000,10000000000000000,100000000000000000,1000000000000000000,10000000000000000000]) (rest:=r) gP10 tP10 u351 u90 c90 c351 h
 exact ⟨_,mu_cell (hT.cell gP10 i hi)⟩
theorem tbl_of {W : World} {name : String} {g fuel : Nat} {cs : Array Value} {p : List MemPlace} {zs : List (Int × Int)} {mask shift : Nat → Int} (hg : Tryz.prog.globalNamed name = some g) (hv : W.var? Tryz.prog name = some cs)
  (h : DataW.trod (fun _=>()) Tryz.prog W 0 (fun _=>true) false fuel 266 cs.toList = some (.slice (zs.map fun z=>.agg [.lit (.int .u8 z.1),.lit (.int .u64 z.2)]) [],p)) (hm : ∀ k,k < zs.length → zs[k]? = some (mask k,shift k)) (hn : 0 < zs.length) :
  ∃ b o c,Tbl (muW W) g b o zs.length c mask shift:=by
 rcases rd_slices u266 h with ⟨_,hx⟩ | ⟨a,len,cap,es,sp,h0,hx,he,hl,hs,hel⟩
 ·cases hx
 rw [c268] at hel hs
 simp only [DataW.slice.injEq] at hx
 obtain ⟨rfl,_⟩:=hx
 rw [List.length_map] at he
 obtain ⟨b,o,s⟩:=a
 obtain rfl : s = none:=hs (by omega) (by decide)
 have hc0 : W.cell? ⟨g,0,none⟩ = some (.slice (some ⟨b,o,none⟩) len cap):=by
  rw [World.var?_cell hg hv 0]
  have : cs.toList[0]? = some (.slice (some ⟨b,o,none⟩) len cap):=by rw [h0]; rfl
  simpa using this
 refine ⟨b,o,cap,by rw [he]; exact mu_cell hc0,fun k hk q v hq=>?_⟩
 obtain ⟨cs',n',y,hy,hcl,hcq,hr⟩:=hel k (by omega)
 rw [List.getElem?_map,hm k hk] at hy
 simp only [Option.map_some,Option.some.injEq] at hy
 obtain ⟨fs,h1,h2⟩:=u268
 obtain ⟨n2,es2,hx2,hf⟩:=rd_struct h1 h2 hr
 rw [← hy] at hx2
 simp only [DataW.agg.injEq] at hx2
 subst hx2
 match cs',hcl with
 | [v0,v1],_ =>
  obtain ⟨y0,e0,r0⟩:=hf 0 0 5 rfl
  obtain ⟨y1,e1,r1⟩:=hf 1 1 85 rfl
  rw [c5] at r0; rw [c85] at r1
  obtain ⟨z0,hz0,hd0,_⟩:=DataW.trod_int u5 r0
  obtain ⟨z1,hz1,hd1,_⟩:=DataW.trod_int u85 r1
  rw [hd0] at e0; rw [hd1] at e1
  simp at e0 e1
  obtain rfl : v0 = .int .u8 z0:=by simpa using hz0
  obtain rfl : v1 = .int .u64 z1:=by simpa using hz1
  have hq2 : q < 2:=by
   have:=(List.getElem?_eq_some_iff.1 hq).1
   simpa using this
  refine mu_cell ?_
  have:=hcq q hq2
  rw [addr_add,← Nat.add_assoc] at this
  rw [this,← hq,e0,e1]
section
variable {H : Type} {enc : TypeId × Value → H} {P : Program} {W W' : World}
theorem same_of (hh : ∀ b,b < W.heap.size → W'.heap[b]? = W.heap[b]?) {p : MemPlace} (hp : p.block < W.heap.size) : W.sameAt W' p:=by
 cases p with
 | cell b o =>
  show W'.cell? ⟨b,o,none⟩ = W.cell? ⟨b,o,none⟩
  unfold World.cell?
  rw [show W'.heap[(⟨b,o,none⟩ : Addr).block]? = W.heap[(⟨b,o,none⟩ : Addr).block]? from hh b hp]
 | map b=>exact hh b hp
theorem kept_of (hh : ∀ b,b < W.heap.size → W'.heap[b]? = W.heap[b]?) (ho : W'.os = W.os) (hp : W'.output = W.output) (may : MemPlace → Prop) : W.keptBut W' may:=by
 refine ⟨ho,hp,fun i hi=>?_⟩
 rw [hh i hi]
 exact (World.keptBut_refl W may).2.2 i hi
def varsReadable (P : Program) (ns : List String) : Bool:=ns.all fun n=>match P.globalNamed n with
 | some g=>(match (P.globals[g]?).map (·.type) with | some t=>P.readableRec t && decide (t < P.types.size) | none=>true)
 | none=>true
theorem trodVars_stays (hl : laidOutB P = true) (hh : ∀ b,b < W.heap.size → W'.heap[b]? = W.heap[b]?) {sp : Nat → Bool} : ∀ {ns : List String} {gs : List (DataW H)} {ps : List MemPlace},varsReadable P ns = true →
  DataW.TrodVars enc P W (fun _=>true) ns gs ps → (∀ p ∈ ps,p.block < W.heap.size) → (∀ p ∈ ps,sp p.block = true) → DataW.TrodVars enc P W' sp ns gs ps
 | [],[],_,_,h,_,_=>h
 | n :: ns,d :: ds,_,hr,⟨g,t,cs,fuel,p,q,h1,h2,h3,h4,h5,e⟩,hlt,hsp=>by
  simp only [varsReadable,List.all_cons,Bool.and_eq_true] at hr
  obtain ⟨hr1,hr2⟩:=hr
  rw [h1] at hr1
  simp only [h2,Bool.and_eq_true,decide_eq_true_eq] at hr1
  have hm : ∀ x,x ∈ p → x ∈ (MemPlace.row ⟨g,0,none⟩ cs.size ++ p ++ q):=fun x hx=>List.mem_append_left _ (List.mem_append_right _ hx)
  have hm2 : ∀ x,x ∈ q → x ∈ (MemPlace.row ⟨g,0,none⟩ cs.size ++ p ++ q):=fun x hx=>List.mem_append_right _ hx
  subst e
  refine ⟨g,t,cs,fuel,p,q,h1,h2,?_,DataW.trod_stays (kids_book hl hr1.1) (book_sized hr1.1) (fun h=>by cases h) ⟨hr1.2,book_self t⟩ h4 (fun x hx=>same_of hh (hlt x (hm x hx))) (fun x hx=>hsp x (hm x hx)),
   trodVars_stays hl hh hr2 h5 (fun x hx=>hlt x (hm2 x hx)) (fun x hx=>hsp x (hm2 x hx)),rfl⟩
  simp only [World.var?,h1,Option.bind_some] at h3 ⊢
  have hg : g < W.heap.size:=by
   split at h3
   ·rename_i hc; exact (Array.getElem?_eq_some_iff.1 hc).1
   ·cases h3
  rw [hh g hg]; exact h3
theorem trodVars_len {sp : Nat → Bool} : ∀ {ns : List String} {gs : List (DataW H)} {ps : List MemPlace},DataW.TrodVars enc P W sp ns gs ps → gs.length = ns.length
 | [],[],_,_=>rfl
 | _ :: _,_ :: _,_,⟨_,_,_,_,_,_,_,_,_,_,h,_⟩=>congrArg (· + 1) (trodVars_len h)
 | [],_ :: _,_,h=>h.elim
 | _ :: _,[],_,h=>h.elim
theorem post_of_old {f : Func} {s : ChangeSpec} {apart fresh handsOn again : Bool} {args : Array Value} {v : Value} {ds gs : List (DataW H)} {L : Left H} {before pa pv : List MemPlace}
  (hW : DataW.Whole enc P f.params.toList s.vars apart W args.toList ds gs before)
  (hL : s.fn H (ds ++ gs) = L)
  (hres : ∀ (b : Nat) (sp : Nat → Bool) (hd : Bool),DataW.TrodAll enc P W' b sp hd f.resultTypes.toList (v.resultList f.resultTypes.size) L.results [])
  (hargs : ∀ sp : Nat → Bool,(∀ p ∈ before,sp p.block = true) → DataW.TrodAll enc P W' 0 sp true f.params.toList args.toList L.args pa)
  (hvars : ∀ sp : Nat → Bool,(∀ p ∈ before,sp p.block = true) → DataW.TrodVars enc P W' sp s.vars L.vars pv)
  (hps : before = pa ++ pv) (hk : W.keptBut W' (· ∈ before)) (hfz : ∀ a : Addr,a.block < W.heap.size → W'.frozen? a = W.frozen? a)
  (hok : ∀ (j : Nat) (t : TypeId) (r : Value),f.resultTypes[j]? = some t → (v.resultList f.resultTypes.size)[j]? = some r → Value.okWide P W' .any 0 t r) :
  s.post enc P f apart fresh handsOn again W args v W':=by
 subst hL
 have hold : ∀ p ∈ before,(fun b=>decide (b < W.heap.size)) p.block = true:=fun p hp=>by simpa using hW.lt p hp
 have hlt:=hW.lt
 refine ⟨ds,gs,before,[],pa,pv,hW,hres _ _ _,hargs _ hold,hvars _ hold,World.keptBut_mono (fun p hp=>⟨hp,?_⟩) hk,fun _=>?_⟩
 ·rw [hps,List.mem_append] at hp
  exact Or.inr hp
 ·obtain ⟨_,_,_,_,_,hz,hn⟩:=hW
  refine ⟨hok,_,_,([] ++ pa) ++ pv,⟨[] ++ pa,pv,trodAll_append (hargs _ (fun _ _=>rfl)) (hres _ _ _),hvars _ (fun _ _=>rfl),rfl,?_,?_⟩,?_⟩
  ·intro b off hp
   have hb : MemPlace.cell b off ∈ before:=by rw [hps]; simpa using hp
   rw [hfz _ (hlt _ hb)]
   exact hz b off hb
  ·intro ha
   have:=hn ha
   rw [hps] at this
   simpa using this
  ·intro p hp _
   rw [hps]
   simpa using hp
end
theorem gs_of {α : Type} : ∀ {n : Nat} {l : List α},l.length = n + 1 → ∃ x r,l = x :: r ∧ r.length = n
 | _,[],h=>by simp at h
 | _,x :: r,h=>⟨x,r,rfl,by simpa using h⟩
theorem spec_fn {H : Type} (d : DataW H) (gs : List (DataW H)) (h : gs.length = 18) : Rows.fnPackParsePlainSpec.fn H ([d] ++ gs) = { results:=[.lit (.bool true)],args:=[d],vars:=gs }:=by
 obtain ⟨g1,r1,rfl,h1⟩:=gs_of h
 obtain ⟨g2,r2,rfl,h2⟩:=gs_of h1
 obtain ⟨g3,r3,rfl,h3⟩:=gs_of h2
 obtain ⟨g4,r4,rfl,h4⟩:=gs_of h3
 obtain ⟨g5,r5,rfl,h5⟩:=gs_of h4
 obtain ⟨g6,r6,rfl,h6⟩:=gs_of h5
 obtain ⟨g7,r7,rfl,h7⟩:=gs_of h6
 obtain ⟨g8,r8,rfl,h8⟩:=gs_of h7
 obtain ⟨g9,r9,rfl,h9⟩:=gs_of h8
 obtain ⟨g10,r10,rfl,h10⟩:=gs_of h9
 obtain ⟨g11,r11,rfl,h11⟩:=gs_of h10
 obtain ⟨g12,r12,rfl,h12⟩:=gs_of h11
 obtain ⟨g13,r13,rfl,h13⟩:=gs_of h12
 obtain ⟨g14,r14,rfl,h14⟩:=gs_of h13
 obtain ⟨g15,r15,rfl,h15⟩:=gs_of h14
 obtain ⟨g16,r16,rfl,h16⟩:=gs_of h15
 obtain ⟨g17,r17,rfl,h17⟩:=gs_of h16
 obtain ⟨g18,r18,rfl,h18⟩:=gs_of h17
 obtain rfl : r18 = []:=List.eq_nil_of_length_eq_zero h18
 rfl
theorem calls_true {W : World} {v : Value} (h : Fun Tryz.prog (muW W) 3 [.v v] [] 0 (fun _ : Unit=>True) (fun _=>⟨.v (.bool true),[],0⟩)) :
  Calls Tryz.prog 3 #[v] W fun e W'=>e = .returned (.bool true) ∧ (∀ b,b < W.heap.size → W'.heap[b]? = W.heap[b]?) ∧ W'.os = W.os ∧ W'.output = W.output:=by
 have hm : Mem (mc (muW W) W 0 0 (fun _=>none) []) [] 0 (fun _=>none) W:=by
  refine ⟨fun g go b h=>(by cases h),fun g g' b h=>(by cases h),fun g b h=>(by cases h),fun _ _=>rfl,fun b o h=>h,fun b o h g h'=>(by cases h'),fun b _ _ _=>rfl,Nat.le_refl _,rfl,rfl,rfl,Nat.le_refl _,fun _ _=>rfl,fun g go h=>(by cases h),fun g b _ h=>(by cases h),fun p h=>(by cases h),fun g F h=>(by cases h)⟩
 refine (h.2 W (fun _=>none) [v] hm (.cons (.v v) .nil)).mono fun e W' ⟨u,i,β',he,_,hr,hM⟩=>?_
 cases hr
 refine ⟨he,fun b hb=>?_,hM.os,hM.output⟩
 have : muW W b = some W.heap[b]:=by unfold muW; simp [hb]
 rw [hM.im b _ this]
 simp [hb]
theorem arg_shape {W : World} {base : Nat} {v : Value} (h : Value.okWide Tryz.prog W .any base 22 v) : v = .slice none 0 0 ∨ ∃ b o m cp,v = .slice (some ⟨b,o,none⟩) m cp:=by
 have h' : Cell.ok Tryz.prog W .any base 22 v:=by
  unfold Value.okWide at h
  simp only [u22] at h
  unfold Cell.okWide at h
  rw [u22] at h
  exact h
 unfold Cell.ok at h'
 rw [u22] at h'
 cases v with
 | slice a len cap =>
  cases a with
  | none =>
   refine .inl ?_
   cases len with
   | zero=>cases cap with
    | zero=>rfl
    | succ c=>exact h'.elim
   | succ l=>exact h'.elim
  | some a =>
   obtain ⟨b,o,s⟩:=a
   have hs : s = none:=h'.2.2.2.1
   subst hs
   exact .inr ⟨b,o,len,cap,rfl⟩
 | _=>exact h'.elim
set_option maxHeartbeats 4000000 in
theorem contract (H : Type) (enc : TypeId × Value → H) (W : World) (base : Nat) (args : Array Value) (ds gs : List (DataW H)) (before : List MemPlace)
  (hval : ∀ (j : Nat) t v,Tryz.f3.params[j]? = some t → args[j]? = some v → Value.okWide Tryz.prog W .any base t v)
  (hW : DataW.Whole enc Tryz.prog Tryz.f3.params.toList Rows.fnPackParsePlainSpec.vars false W args.toList ds gs before) (hL : laidMetH Tryz.prog Rows.fnPackParsePlainUptoRow.laid W) (hb : Rows.uptoSmall H (ds ++ gs) = true) :
  Calls Tryz.prog 3 args W fun e W'=>∃ v,e = .returned v ∧ Rows.fnPackParsePlainSpec.post enc Tryz.prog Tryz.f3 false true false false W args v W':=by
 have hW':=hW
 have hlt:=hW.lt
 obtain ⟨p,q,hA0,hV,rfl,hfz,hnd⟩:=hW
 have hA : DataW.TrodAll enc Tryz.prog W 0 (fun _=>true) true Tryz.f3.params.toList args.toList ds p:=hA0
 rw [Tryz.params3] at hA hval
 obtain ⟨v0,d0,rfl,rfl,h0⟩:=trodAll_one hA
 have hok:=hval 0 22 v0 rfl rfl
 have hbk : Rows.uptoBulk d0 ≤ 1048576:=Nat.le_trans (bk_one (List.mem_append_left _ (List.mem_singleton.2 rfl))) (of_decide_eq_true hb)
 rw [MakeChecks.laidMetH_plain _ _ _ (by kernel_rfl)] at hL
 have hL':=hL
 obtain ⟨be,hE⟩:=eof_of (laidMet.tail (laidMet.tail (laidMet.tail (laidMet.tail (laidMet.tail (laidMet.tail hL))))))
 have hP:=p10_of (laidMet.tail (laidMet.tail hL))
 obtain ⟨ps,hLV,_⟩:=hL'
 obtain ⟨g1,t1,cs1,n1,p1,e1,e2,hv1,hr1⟩:=laid_var hLV 24 _ _ rfl
 obtain ⟨g2,t2,cs2,n2,p2,f1,f2,hv2,hr2⟩:=laid_var hLV 25 _ _ rfl
 obtain rfl:=Option.some.inj (gOff.symm.trans e1)
 obtain rfl:=Option.some.inj (gSiz.symm.trans f1)
 obtain rfl:=Option.some.inj (tOff.symm.trans e2)
 obtain rfl:=Option.some.inj (tSiz.symm.trans f2)
 obtain ⟨b1,o1,c1,T1⟩:=tbl_of (zs:=[(1,0),(2,8),(4,16),(8,24)]) (mask:=mkO) (shift:=shO) gOff hv1 hr1 (fun k hk=>by
  match k,hk with
  | 0,_=>rfl
  | 1,_=>rfl
  | 2,_=>rfl
  | 3,_=>rfl
  | k + 4,hk=>exact absurd hk (by simp)) (by decide)
 obtain ⟨b2,o2,c2,T2⟩:=tbl_of (zs:=[(16,0),(32,8),(64,16)]) (mask:=mkS) (shift:=shO) gSiz hv2 hr2 (fun k hk=>by
  match k,hk with
  | 0,_=>rfl
  | 1,_=>rfl
  | 2,_=>rfl
  | k + 3,hk=>exact absurd hk (by simp)) (by decide)
 have hwalk : Fun Tryz.prog (muW W) 3 [.v v0] [] 0 (fun _ : Unit=>True) (fun _=>⟨.v (.bool true),[],0⟩):=by
  rcases arg_shape hok with rfl | ⟨b,o,m,cp,rfl⟩
  ·exact f3n _ be hE hP
  ·obtain ⟨n,hn⟩:=h0
   obtain ⟨kd,a,n',c,bs,sa,sn,sc,hEn⟩:=ents_of (x:=(d0,p)) (h:=hn) hbk
   exact f3m _ be hE hP (f6 _ b1 o1 c1 b2 o2 c2 T1 T2) b o m cp kd a n' c bs sa sn sc hEn
 refine (calls_true hwalk).mono fun e W' ⟨he,hh,hos,hout⟩=>?_
 subst he
 have hlen : gs.length = 18:=(trodVars_len hV).trans rfl
 refine ⟨_,rfl,post_of_old (pa:=p) (pv:=q) hW' (spec_fn d0 gs hlen) (fun _ _ _=>?_) (fun sp hs=>?_) (fun sp hs=>?_) rfl (kept_of hh hos hout _) (fun a ha=>?_) (ok_one (by kernel_rfl) rfl (okWide_bool_mk u4 _))⟩
 ·exact trodAll_cons_mk (shut_bool u4 _) trodAll_mk0
 ·rw [Tryz.params3]
  exact ⟨p,[],Trod_stays (by kernel_rfl) (by kernel_rfl) (of_decide_eq_true (by kernel_rfl)) h0 (fun x hx=>same_of hh (hlt x (List.mem_append_left _ hx))) (fun x hx=>hs x (List.mem_append_left _ hx)),rfl,by simp⟩
 ·exact trodVars_stays (by kernel_rfl) hh (by kernel_rfl) hV (fun x hx=>hlt x (List.mem_append_right _ hx)) (fun x hx=>hs x (List.mem_append_right _ hx))
 ·unfold World.frozen?
  rw [hh _ ha]
theorem own : ownKnob Tryz.prog.godebug = none:=by kernel_rfl
noncomputable def wit (os : Os) : World:=World.doorLaid Tryz.prog 597 os
theorem wit_met (os : Os) : laidMetH Tryz.prog Rows.fnPackParsePlainUptoRow.laid ((wit os).forCall (fun _ _=>0) ⟨#[],#[.slice none 0 0],[]⟩).memory :=
 laidMetH_of_parts3 (fuel:=8) (laidMet_of_run' 8 (by kernel_rfl) (by kernel_rfl)) (by kernel_rfl) (by kernel_rfl)
noncomputable abbrev witRead (os : Os) {H : Type} (enc : TypeId × Value → H) : Option (List (DataW H) × List (DataW H) × List MemPlace) :=
 DataW.whole enc Tryz.prog ((wit os).forCall (fun _ _=>0) ⟨#[],#[.slice none 0 0],[]⟩).memory Tryz.f3.params.toList Rows.fnPackParsePlainSpec.vars false #[Value.slice none 0 0].toList 8
theorem reads (os : Os) {H : Type} (enc : TypeId × Value → H) : (witRead os enc).isSome = true:=by kernel_rfl
theorem reads_small (os : Os) {H : Type} (enc : TypeId × Value → H) : (match witRead os enc with | some x=>Rows.uptoSmall H (x.1 ++ x.2.1) | none=>false) = true:=by kernel_rfl
set_option maxRecDepth 100000 in
theorem lifted (os : Os) (started : os.Started) (H : Type) (enc : TypeId × Value → H) (F : Stop.Interp) :
  ReturnsInHanded {} Tryz.checked os 3 .any ((Rows.OpenSpec.upto Rows.fnPackParsePlainSpec).preRow enc Tryz.prog Tryz.f3 Rows.fnPackParsePlainUptoRow.domain false Rows.fnPackParsePlainUptoRow.laid) (((Rows.OpenSpec.upto Rows.fnPackParsePlainSpec).at F).post enc Tryz.prog Tryz.f3 false true false false):=by
 have h1:=reads os enc
 have h2:=reads_small os enc
 cases hx : witRead os enc with
 | none=>rw [hx] at h1; cases h1
 | some x =>
 rw [hx] at h2
 refine returnsInHanded_of_row (C:=Tryz.checked) (s:=Rows.OpenSpec.upto Rows.fnPackParsePlainSpec) own started (by kernel_rfl) Tryz.func3
  (witness_row_atRef (enc:=enc) (C:=Tryz.checked) false (wit os) #[.slice none 0 0] rfl (by kernel_rfl) (by kernel_rfl) (by kernel_rfl)
   (OpenSpec.preRow_of_cond 8 hx rfl (fun k hk=>by cases hk; exact h2) (by kernel_rfl) (wit_met os))) ?_
 intro W base args ds gs before hval hW _ hcond _ hL _ _
 exact contract H enc W base args ds gs before hval hW hL (hcond _ rfl)
abbrev cS : ChangeSpec:=(Rows.OpenSpec.upto Rows.fnPackParsePlainSpec).bare
theorem cl_fn : Tryz.pinned.checked.prog.funcNamed Rows.fnPackParsePlainUptoRow.func = some 3:=by kernel_rfl
theorem k1 : Rows.fnPackParsePlainUptoRow.wf (OpenSpec.ofChange cS) = true:=by kernel_rfl
theorem k2 : laidOutB Tryz.pinned.checked.prog = true:=by kernel_rfl
theorem k3 : mapsRowed Tryz.pinned.checked.prog = true:=by kernel_rfl
theorem k4 : Tryz.f3.params.all (Tryz.pinned.checked.prog.readableRec ·) = true:=by kernel_rfl
theorem k5 : namedTie Tryz.pinned.checked.prog Rows.fnPackParsePlainUptoRow.named cS.vars = true:=by kernel_rfl
theorem k6 : (Rows.fnPackParsePlainUptoRow.stops == []) = true:=by kernel_rfl
theorem k7 : (Tryz.pinned.checked.prog.stops == []) = true:=by kernel_rfl
theorem k8 : (Rows.fnPackParsePlainUptoRow.knobs == []) = true:=by kernel_rfl
theorem k9 : (Tryz.pinned.checked.prog.stopKnobs == []) = true:=by kernel_rfl
theorem k10 : (Rows.fnPackParsePlainUptoRow.inPlace == Tryz.pinned.checked.prog.inPlace 3) = true:=by kernel_rfl
theorem k11 : (Rows.fnPackParsePlainUptoRow.unfollowed == Tryz.pinned.checked.prog.unfollowed 3) = true:=by kernel_rfl
theorem k12 : (Rows.fnPackParsePlainUptoRow.recurses == Tryz.pinned.checked.prog.recurses 3) = true:=by kernel_rfl
theorem k13 : (Rows.fnPackParsePlainUptoRow.named == Tryz.pinned.checked.prog.varsNamed 3) = true:=by kernel_rfl
theorem k14 : (Rows.fnPackParsePlainUptoRow.maps == (Tryz.f3.params.toList ++ cS.plain.varTypes Tryz.pinned.checked.prog).any (Tryz.pinned.checked.prog.mapsRec ·)) = true:=by kernel_rfl
theorem k15 : (Rows.fnPackParsePlainUptoRow.ifaces == (Tryz.f3.params.toList ++ cS.plain.varTypes Tryz.pinned.checked.prog).any (Tryz.pinned.checked.prog.ifacesRec ·)) = true:=by kernel_rfl
theorem k16 : (Rows.fnPackParsePlainUptoRow.mapsOut == Tryz.pinned.checked.prog.mapsAmong Tryz.f3.resultTypes.toList) = true:=by kernel_rfl
theorem k17 : (Rows.fnPackParsePlainUptoRow.loops == (Tryz.f3.params.toList ++ cS.plain.varTypes Tryz.pinned.checked.prog).any (Tryz.pinned.checked.prog.loopsFrom ·)) = true:=by kernel_rfl
theorem k17b : (Rows.fnPackParsePlainUptoRow.wideKeys == (Tryz.f3.params.toList ++ cS.plain.varTypes Tryz.pinned.checked.prog ++ Tryz.f3.resultTypes.toList).any (Tryz.pinned.checked.prog.wideKeysFrom ·)) = true:=by kernel_rfl
theorem k18 : cS.vars.all (Tryz.pinned.checked.prog.varReadable ·) = true:=by kernel_rfl
theorem k19 : Tryz.f3.resultTypes.all (fun t=>Tryz.pinned.checked.prog.readableRec t && decide (t < Tryz.pinned.checked.prog.types.size)) = true:=by kernel_rfl
theorem k20 : (Rows.fnPackParsePlainUptoRow.ifacesOut == Tryz.f3.resultTypes.toList.any (Tryz.pinned.checked.prog.ifacesRec ·)) = true:=by kernel_rfl
theorem k21 : (Rows.fnPackParsePlainUptoRow.loopsOut == Tryz.f3.resultTypes.toList.any (Tryz.pinned.checked.prog.loopsFrom ·)) = true:=by kernel_rfl
theorem k22 : (Rows.fnPackParsePlainUptoRow.plainKeys == Tryz.pinned.checked.prog.plainKeys) = true:=by kernel_rfl
theorem k23 : Rows.fnPackParsePlainUptoRow.shortTexts.isNone = true:=by kernel_rfl
theorem k23b : Tryz.pinned.checked.prog.stopsHeard = true:=by kernel_rfl
theorem k24 : Tryz.pinned.checked.prog.mayEnter = true:=by kernel_rfl
theorem k24b : (Rows.fnPackParsePlainUptoRow.lifted == Tryz.pinned.checked.prog.liftsFinal) = true:=by kernel_rfl
theorem k24c : (Tryz.pinned.checked.prog.make == some Rows.fnPackParsePlainUptoRow.make) = true:=by kernel_rfl
theorem k25 : (Rows.fnPackParsePlainUptoRow.kinds == (if Rows.fnPackParsePlainUptoRow.domain.isEmpty then [] else Tryz.f3.params.toList.map fun t=>match Tryz.pinned.checked.prog.underlying t with | some (.int k)=>some k | _=>none)) = true:=by kernel_rfl
theorem k26 : (Rows.fnPackParsePlainUptoRow.pinned == Rows.fnPackParsePlainUptoRow.pinnedBy) = true:=by kernel_rfl
theorem k27 : (Rows.fnPackParsePlainUptoRow.veiled == (Tryz.f3.params.toList ++ cS.plain.varTypes Tryz.pinned.checked.prog ++ Tryz.f3.resultTypes.toList).any (Tryz.pinned.checked.prog.veiledRec ·)) = true:=by kernel_rfl
theorem k28 : Rows.fnPackParsePlainUptoRow.veiledFits Tryz.pinned.checked.prog Tryz.f3.params.toList (Tryz.f3.params.toList ++ cS.plain.varTypes Tryz.pinned.checked.prog ++ Tryz.f3.resultTypes.toList) = true:=by kernel_rfl
theorem cl_facts : joinedFacts Tryz.pinned.checked.prog 3 Tryz.f3 cS Rows.fnPackParsePlainUptoRow = true:=by
 unfold joinedFacts
 simp only [Bool.and_eq_true]
 exact ⟨⟨⟨⟨⟨⟨⟨⟨⟨⟨⟨⟨⟨⟨⟨⟨⟨⟨⟨⟨⟨⟨⟨⟨⟨⟨⟨⟨⟨⟨⟨k1,k2⟩,k3⟩,k4⟩,k5⟩,k6⟩,k7⟩,k8⟩,k9⟩,k10⟩,k11⟩,k12⟩,k13⟩,k14⟩,k15⟩,k16⟩,k17⟩,k17b⟩,k18⟩,k19⟩,k20⟩,k21⟩,k22⟩,k23⟩,k23b⟩,k24⟩,k24b⟩,k24c⟩,k25⟩,k26⟩,k27⟩,k28⟩
theorem cl_inst : Tryz.f3.isInstance Tryz.pinned.checked.prog Rows.fnPackParsePlainUptoRow.origin Rows.fnPackParsePlainUptoRow.targs:=of_decide_eq_true (by kernel_rfl)
theorem cl_wrap : Tryz.f3.isWrapper Tryz.pinned.checked.prog Rows.fnPackParsePlainUptoRow.wrapper Rows.fnPackParsePlainUptoRow.mainSum:=by
 unfold Func.isWrapper; first | (rw [if_pos (by decide +kernel)]; kernel_rfl) | (rw [if_neg (by decide +kernel)]; exact ⟨rfl,rfl⟩)
theorem saidUpto : Rows.FnPackParsePlainUptoSaid :=
 OpenClaim.holds_of_cond 3 Tryz.f3 rfl rfl rfl rfl rfl rfl rfl ⟨rfl,rfl,rfl,rfl,rfl⟩ rfl rfl rfl rfl rfl cl_fn Tryz.func3 cl_facts cl_inst cl_wrap
  (fun os started H enc _ F=>by rw [OpenClaim.pre_eq_preRow]; exact lifted os started H enc F)
theorem plain (f : FuncId) (fn : Func) (hf : Tryz.pinned.checked.prog.funcNamed "loop.example/pub-g01474/laws.FnPackParsePlain" = some f) (hfn : Tryz.pinned.checked.prog.funcs[f]? = some fn) :
  true = Tryz.pinned.checked.prog.looks [] ∧ ∀ (j : Nat) t,fn.params[j]? = some t → Tryz.pinned.checked.prog.wantsStandIn t = false:=by
 obtain rfl : f = 3:=Option.some.inj ((show Tryz.prog.funcNamed "loop.example/pub-g01474/laws.FnPackParsePlain" = some 3 by kernel_rfl).symm.trans hf) |>.symm
 obtain rfl : fn = Tryz.f3:=(Option.some.inj (Tryz.func3.symm.trans hfn)).symm
 refine ⟨by kernel_rfl,fun j t ht=>?_⟩
 rw [Tryz.params3] at ht
 obtain rfl : t = 22:=by simpa using Array.mem_of_getElem? ht
 exact (show Tryz.prog.wantsStandIn 22 = false by kernel_rfl)
theorem card : Rows.FnPackParsePlainUptoCardSaid :=
 Claim7.holds_tied_plain_at .later [] _ _ _ _ saidUpto (fun _ h=>by cases h) (by kernel_rfl) (fun _ h=>by cases h) fnPackParsePlainUpto_row_tie rfl ⟨rfl,rfl⟩ (by kernel_rfl) rfl plain (by kernel_rfl)
end Go.Proofs.YtebadfmnmhmfeaaGreatDoor
