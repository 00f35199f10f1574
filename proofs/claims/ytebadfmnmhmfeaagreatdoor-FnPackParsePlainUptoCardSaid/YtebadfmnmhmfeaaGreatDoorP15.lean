/- What the functions of the program do, one contract each (P70, P71, P36B, P38B, P40B, P36N, P38N); each states its own conditions. -/
import Derived.Test.YtebadfmnmhmfeaaGreatDoorP14
namespace Go.Proofs.YtebadfmnmhmfeaaGreatDoor.T
open Go.Proofs.YtebadfmnmhmfeaaGreatDoor.Sx Go.RowKit
set_option maxRecDepth 20000
set_option linter.unusedSimpArgs false
set_option linter.unusedVariables false
set_option linter.unnecessarySimpa false
set_option linter.unusedSectionVars false
theorem f20g (μ) (a : Option Addr) (L cp : Nat) (T : Nat → Int) (hK : Kn μ nF a L cp T) : Fun Tryz.prog μ 20 [.v (.slice a L cp)] [] 0
  (fun x : Nat × Nat × (Nat → Int)=>(∃ pe,Zs x.2.2 T (pe + 4) 0 L pe ∧ x.1 = pe + 4) ∧ x.1 ≤ x.2.1 ∧ x.1 ≤ 16 + 6 * L ∧ ∀ j,j < x.1 → 0 ≤ x.2.2 j ∧ x.2.2 j < 256)
  (fun x=>⟨.slc 0 0 x.1 x.2.1,[(0,.row ⟨.ints .u8 x.2.2,x.2.1,5⟩)],1⟩):=by
 have hl:=hK.l
 rcases hK.h with ⟨hz,rfl,rfl⟩ | ⟨b,o,rfl,hcc,hk⟩
 ·exact FunC.map (f20n μ _ hz T) fun x hx=>⟨x,⟨(by obtain ⟨pe,z1,z2,z3,z4,z5⟩:=hx.1; exact ⟨pe,zs_of (by omega) hK.r z3 z4 z1 z5,z2⟩),hx.2⟩,rfl⟩
 ·exact FunC.map (f20m μ T b o L cp (fun j hj=>nF_or (hk j hj)) hl hcc hK.r) fun x hx=>⟨x,⟨(by obtain ⟨pe,z1,z2,z3,z4,z5⟩:=hx.1; exact ⟨pe,zs_of (by omega) hK.r z3 z4 z1 z5,z2⟩),hx.2⟩,rfl⟩
def pkH (m : Nat) : Nat → Int
 | 0=>80
 | 1=>65
 | 2=>67
 | 3=>75
 | 7=>2
 | 11=>(m : Int)
 | _=>0
def plN (l : Nat) (a : Option Addr) (n c : Nat) (crc : Int) : Nat → Value
 | 0=>.int .i64 l
 | 1=>.slice a n c
 | _=>.int .u32 crc
theorem pl_get {l : Nat} {a : Option Addr} {n c : Nat} {crc : Int} : ∀ j,j < 1 * 3 → lget [.v (.int .i64 l),.v (.slice a n c),.v (.int .u32 crc)] j = .v (plN l a n c crc j)
 | 0,_=>rfl
 | 1,_=>rfl
 | 2,_=>rfl
 | j + 3,h=>absurd h (by omega)
def PlOk (PV : Nat → Value) (pl : Nat → Nat) (i : Nat) : Prop:=∀ j,j < i → ∃ (a : Option Addr) (n c : Nat) (crc : Int),PV (j * 3) = .int .i64 (pl j) ∧ PV (j * 3 + 1) = .slice a n c ∧ PV (j * 3 + 2) = .int .u32 crc
def Wrt (B : Nat → Int) (l i : Nat) (kn n : Nat → Nat) (PV : Nat → Value) : Prop:=∃ (pl zp pe : Nat → Nat) (T : Nat → Nat → Int),Pk B l i pl kn n zp pe T ∧ pl 0 = 12 ∧ pl i = l ∧ PlOk PV pl i
structure I7 (m : Nat) (kn n : Nat → Nat) (i l cap : Nat) (B : Nat → Int) (cq : Nat) (PV : Nat → Value) : Prop where
 hi : i ≤ m
 hl : l ≤ cap
 hq : i ≤ cq
 hll : 12 ≤ l ∧ l ≤ 12 + i * 7000000
 hB : ∀ j,j < l → 0 ≤ B j ∧ B j < 256
 h12 : ∀ j,j < 12 → B j = pkH m j
 hw : Wrt B l i kn n PV
def L7 (b o m cp i l cap : Nat) (B : Nat → Int) (cq : Nat) (PV : Nat → Value) : S:=⟨[(6,.slc 0 0 l cap),(7,.slc 1 0 i cq),(27,.v (.slice (some ⟨b,o,none⟩) m cp)),(28,.v (.int .i64 m)),(29,.v (.int .i64 i))],[(0,.row ⟨.ints .u8 B,cap,5⟩),(1,.row ⟨.vals PV,cq * 3,37⟩)],2,[]⟩
theorem Pk.ext {B B' : Nat → Int} {N N' M : Nat} {pl kd sz zp pe : Nat → Nat} {T : Nat → Nat → Int} (h : Pk B N M pl kd sz zp pe T) (hN : N ≤ N') (e : ∀ j,j < N → B' j = B j) : Pk B' N' M pl kd sz zp pe T:=by
 refine ⟨fun i hi=>?_,fun i hi=>?_,h.hn,h.hk,h.hk1,h.hs⟩
 ·have hz:=h.hz i hi
  have h1:=hz.hp
  have h2:=hz.hb.le
  have:=(h.hd i hi).shift (B:=B') (s:=0) (fun j h3 h4=>by rw [Nat.zero_add]; exact e j (by omega))
  simpa using this
 ·have hz:=h.hz i hi
  have h1:=hz.hp
  have:=hz.shift (B:=B') (N':=N') (s:=0) (by omega) (fun j h3 h4=>by rw [Nat.zero_add]; exact e j (by omega))
  simpa using this
def upN {α : Type} (f : Nat → α) (i : Nat) (v : α) (j : Nat) : α:=if j < i then f j else v
theorem upN_lt {α : Type} {f : Nat → α} {i j : Nat} {v : α} (h : j < i) : upN f i v j = f j:=by unfold upN; rw [if_pos h]
theorem upN_ge {α : Type} {f : Nat → α} {i j : Nat} {v : α} (h : ¬ j < i) : upN f i v j = v:=by unfold upN; rw [if_neg h]
theorem Wrt.push {B B' : Nat → Int} {l i x1 pe : Nat} {kn n : Nat → Nat} {PV PV' : Nat → Value} {H G T : Nat → Int} (h : Wrt B l i kn n PV) (hH : Hd H 0 (kn i) (n i) x1) (hG : Zs G T (pe + 4) 0 (n i) pe) (hk : 1 ≤ kn i ∧ kn i ≤ 4) (hs : n i ≤ 1048576)
  (e0 : ∀ j,j < l → B' j = B j) (e1 : ∀ j,j < x1 → B' (l + j) = H j) (e2 : ∀ j,j < pe + 4 → B' (l + x1 + j) = G j) (p0 : ∀ j,j < i * 3 → PV' j = PV j) (p1 : ∃ (a : Option Addr) (n c : Nat) (crc : Int),PV' (i * 3) = .int .i64 l ∧ PV' (i * 3 + 1) = .slice a n c ∧ PV' (i * 3 + 2) = .int .u32 crc) : Wrt B' (l + x1 + (pe + 4)) (i + 1) kn n PV':=by
 obtain ⟨pl,zp,pq,TT,hp,hpl0,hpli,hPV⟩:=h
 have hp':=hp.ext (N':=l + x1 + (pe + 4)) (by omega) e0
 refine ⟨upN pl (i + 1) (l + x1 + (pe + 4)),upN zp i (l + x1),upN pq i (l + x1 + pe),upN TT i T,⟨fun j hj=>?_,fun j hj=>?_,fun j hj=>?_,fun j hj=>?_,fun j hj=>?_,fun j hj=>?_⟩,by rw [upN_lt (by omega)]; exact hpl0,by rw [upN_ge (by omega)],fun j hj=>?_⟩
 ·rw [upN_lt hj]
  by_cases e : j < i
  ·rw [upN_lt e]; exact hp'.hd j e
  ·obtain rfl : j = i:=by omega
   rw [upN_ge e,hpli]
   have:=hH.shift (B:=B') (s:=l) (fun q _ h2=>e1 q h2)
   simpa using this
 ·by_cases e : j < i
  ·rw [upN_lt e,upN_lt e,upN_lt e]; exact hp'.hz j e
  ·obtain rfl : j = i:=by omega
   rw [upN_ge e,upN_ge e,upN_ge e]
   have:=hG.shift (B:=B') (N':=l + x1 + (pe + 4)) (s:=l + x1) (by omega) (fun q _ h2=>e2 q h2)
   simpa using this
 ·by_cases e : j < i
  ·rw [upN_lt (by omega),upN_lt e]; exact hp'.hn j e
  ·obtain rfl : j = i:=by omega
   rw [upN_ge (by omega),upN_ge e]; omega
 ·by_cases e : j < i
  ·exact hp'.hk j e
  ·obtain rfl : j = i:=by omega
   omega
 ·by_cases e : j < i
  ·exact hp'.hk1 j e
  ·obtain rfl : j = i:=by omega
   exact hk
 ·by_cases e : j < i
  ·exact hp'.hs j e
  ·obtain rfl : j = i:=by omega
   exact hs
 ·rw [upN_lt (by omega)]
  by_cases e : j < i
  ·rw [p0 _ (by omega),p0 _ (by omega),p0 _ (by omega)]; exact hPV j e
  ·obtain rfl : j = i:=by omega
   rw [hpli]; exact p1
theorem hd12 {m : Nat} (hm : m ≤ 40) {F1 F2 : Nat → Int} (r3 : ∀ j,j < 4 → F1 j = packS j) (r4 : ∀ j,j < 4 → F1 (4 + j) = w8 (2 / 2 ^ (24 - 8 * j))) (s3 : ∀ j,j < 8 → F2 j = F1 j) (s4 : ∀ j,j < 4 → F2 (8 + j) = w8 (w32 (m : Int) / 2 ^ (24 - 8 * j))) : ∀ j,j < 12 → F2 j = pkH m j:=by
 have em : w32 (m : Int) = m:=by unfold w32; omega
 rw [em] at s4
 intro j hj
 match j,hj with
 | 0,_=>rw [s3 0 (by omega),r3 0 (by omega)]; rfl
 | 1,_=>rw [s3 1 (by omega),r3 1 (by omega)]; rfl
 | 2,_=>rw [s3 2 (by omega),r3 2 (by omega)]; rfl
 | 3,_=>rw [s3 3 (by omega),r3 3 (by omega)]; rfl
 | 4,_=>rw [s3 4 (by omega)]; exact r4 0 (by omega)
 | 5,_=>rw [s3 5 (by omega)]; exact r4 1 (by omega)
 | 6,_=>rw [s3 6 (by omega)]; exact r4 2 (by omega)
 | 7,_=>rw [s3 7 (by omega)]; exact r4 3 (by omega)
 | 8,_=>refine (s4 0 (by omega)).trans ?_; show w8 ((m : Int) / 16777216) = 0; unfold w8; omega
 | 9,_=>refine (s4 1 (by omega)).trans ?_; show w8 ((m : Int) / 65536) = 0; unfold w8; omega
 | 10,_=>refine (s4 2 (by omega)).trans ?_; show w8 ((m : Int) / 256) = 0; unfold w8; omega
 | 11,_=>refine (s4 3 (by omega)).trans ?_; show w8 ((m : Int) / 1) = (m : Int); rw [Int.ediv_one]; unfold w8; omega
 | j + 12,h=>exact absurd h (by omega)
theorem pkH_lt {m : Nat} (hm : m ≤ 40) (j : Nat) : 0 ≤ pkH m j ∧ pkH m j < 256:=by
 unfold pkH
 split <;> omega
def PackIs (m : Nat) (kn n : Nat → Nat) (N : Nat) (B : Nat → Int) (PV : Nat → Value) : Prop:=∃ (pl zp pe : Nat → Nat) (T : Nat → Nat → Int),Pk B N m pl kn n zp pe T ∧ pl 0 = 12 ∧ pl m + 20 = N ∧ 12 ≤ pl m ∧ N ≤ 300000000 ∧ (∀ j,j < 12 → B j = pkH m j) ∧ (∀ j,j < 20 → B (pl m + j) = dig (sha B (pl m)) j) ∧ (∀ j,j < N → 0 ≤ B j ∧ B j < 256) ∧ PlOk PV pl m
theorem pack_is {m l : Nat} {kn n : Nat → Nat} {B B5 : Nat → Int} {PV : Nat → Value} (hm : m ≤ 40) (hll : 12 ≤ l ∧ l ≤ 12 + m * 7000000) (hB : ∀ j,j < l → 0 ≤ B j ∧ B j < 256) (h12 : ∀ j,j < 12 → B j = pkH m j) (hw : Wrt B l m kn n PV) (v3 : ∀ j,j < l → B5 j = B j) (v4 : ∀ j,j < 20 → B5 (l + j) = dig (sha (fun j=>B (0 + j)) l) j) : PackIs m kn n (l + 20) B5 PV:=by
 obtain ⟨pl,zp,pq,TT,hp,hpl0,hplm,hPV⟩:=hw
 refine ⟨pl,zp,pq,TT,hp.ext (by omega) v3,hpl0,by omega,by omega,by omega,fun j hj=>by rw [v3 j (by omega)]; exact h12 j hj,fun j hj=>?_,fun j hj=>?_,hPV⟩
 ·rw [hplm,v4 j hj,sha_congr (S':=B5) (n:=l) (fun q hq=>by rw [Nat.zero_add,v3 q hq])]
 ·by_cases e : j < l
  ·rw [v3 j e]; exact hB j e
  ·rw [show j = l + (j - l) from by omega,v4 _ (by omega)]; exact w8_lt _
set_option maxHeartbeats 16000000 in
theorem f7m (μ) (b o m cp : Nat) (kn : Nat → Nat) (a : Nat → Option Addr) (n c : Nat → Nat) (bs : Nat → Int) (sa : Nat → Option Addr) (sn sc : Nat → Nat) (hE : Ents μ b o m (fun j=>(kn j : Int)) a n c bs sa sn sc) (hm : m ≤ 40) (hk : ∀ j,j < m → 1 ≤ kn j ∧ kn j ≤ 4 ∧ n j ≤ 1000000) :
  Fun Tryz.prog μ 7 [.v (.slice (some ⟨b,o,none⟩) m cp)] [] 0 (fun x : Nat × Nat × (Nat → Int) × Nat × (Nat → Value)=>PackIs m kn n x.1 x.2.2.1 x.2.2.2.2 ∧ x.1 ≤ x.2.1 ∧ m ≤ x.2.2.2.1)
  (fun x=>⟨.tup [.slc 0 0 x.1 x.2.1,.slc 1 0 m x.2.2.2.1],[(0,.row ⟨.ints .u8 x.2.2.1,x.2.1,5⟩),(1,.row ⟨.vals x.2.2.2.2,x.2.2.2.1 * 3,37⟩)],2⟩):=by
 refine fE 112 Tryz.func7 fun zw zβ=>?_
 refine cF [0] ?_
 refine rS [0] ?_
 refine GC.fz0 ?_
 refine GC.join (ι:=Unit) (fun _=>True) (fun _=>⟨[(0,.v (.slice (some ⟨b,o,none⟩) m cp))],[],0,[]⟩) ?_ ?_
 ·refine GC.region ?_
  refine lK 1 [0,13] ?_
  refine GL.op rfl (OpW.callR rfl (f11m _ (fun _=>none) b o m cp _ a n c bs sa sn sc hE) [0] rfl rfl rfl rfl ?_)
  rintro ⟨F',ok,cap,V⟩ hx
  rcases ok with _ | _
  ·intro ρ' hp
   obtain rfl:=Option.some.inj hp; clear hp
   refine GK.list (GL.force [0,14] rfl ?_)
   refine lF [0] ?_
   exact GK.join () [] trivial (Ent.R rfl rfl rfl rfl)
  ·intro ρ' hp
   obtain rfl:=Option.some.inj hp; clear hp
   refine GK.list (GL.force [0,14] rfl ?_)
   refine lF [0] ?_
   exact GK.join () [] trivial (Ent.R rfl rfl rfl rfl)
 rintro ⟨⟩ _
 refine GL.seqR ?_
 refine lK 1 [0,4,17] ?_
 refine GL.op rfl (OpW.convB rfl rfl rfl rfl (by decide) rfl rfl ?_)
 refine gF [0,4,18] rfl ?_
 refine GL.op rfl (cR rfl (f14 _ 2) [] rfl rfl rfl rfl fun _ _=>?_)
 refine gF [0,4,18,19] rfl ?_
 refine GL.cvR 0 ⟨.ints .u8 packS,4,5⟩ rfl rfl rfl packS_get rfl ?_
 refine GL.op rfl (OpW.appendI (m:=4) (N:=fun j=>w8 (2 / 2 ^ (24 - 8 * j))) rfl rfl rfl rfl rfl rfl rfl rfl rfl rfl (Nat.le_of_ble_eq_true rfl) (Nat.le_refl 4) (src_slc rfl rfl (Nat.le_of_ble_eq_true rfl) (fun j hj=>by rw [Nat.zero_add]; exact ad_get j hj)) (by omega) (by show (_ + _) * 1 ≤ 140737488355328; omega) rfl ?_ rfl rfl)
 intro c1 F1 r1 r2 r3 r4 ρ' hp
 obtain rfl:=Option.some.inj hp; clear hp
 refine gF [0,4,20] rfl ?_
 refine lF [0,4,6] (GK.code ?_)
 refine GL.seqR ?_
 refine lK 4 [0,4,21,24] ?_
 refine GL.op rfl (cR rfl (f14 _ (w32 (m : Int))) [] rfl rfl rfl rfl fun _ _=>?_)
 refine gF [0,4,21,25] rfl ?_
 refine GL.op rfl (OpW.appendI (m:=4) (N:=fun j=>w8 (w32 (m : Int) / 2 ^ (24 - 8 * j))) rfl rfl rfl rfl rfl rfl rfl rfl rfl rfl (Nat.le_of_ble_eq_true rfl) (r1) (src_slc rfl rfl (Nat.le_of_ble_eq_true rfl) (fun j hj=>by rw [Nat.zero_add]; exact ad_get j hj)) (by omega) (by show (_ + _) * 1 ≤ 140737488355328; omega) rfl ?_ rfl rfl)
 intro c2 F2 s1 s2 s3 s4 ρ' hp
 obtain rfl:=Option.some.inj hp; clear hp
 refine gF [0,4,26] rfl ?_
 refine lF [0,4,6] (GK.code ?_)
 refine rS [0,4,6,7] ?_
 refine GC.seq ?_
 refine rS [4,6,7,27,28,29] ?_
 have h12:=hd12 hm r3 r4 s3 s4
 refine GC.nilg 7 (.vals fun _=>undef) 37 rfl ?_
 refine GC.block ?_
 refine GC.loopE (ι:=(Nat) × (Nat) × (Nat) × (Nat → Int) × (Nat) × (Nat → Value)) (fun zi=>(I7 m kn n) zi.1 zi.2.1 zi.2.2.1 zi.2.2.2.1 zi.2.2.2.2.1 zi.2.2.2.2.2) (fun zi=>(fun i l cap B cq PV=>(m - i : Nat)) zi.1 zi.2.1 zi.2.2.1 zi.2.2.2.1 zi.2.2.2.2.1 zi.2.2.2.2.2) (fun zi=>(L7 b o m cp) zi.1 zi.2.1 zi.2.2.1 zi.2.2.2.1 zi.2.2.2.2.1 zi.2.2.2.2.2) ((0,12,c2,F2,0,fun _=>undef)) [0,3] (show (I7 m kn n) (0) (12) (c2) (F2) (0) (fun _=>undef) from ?_) (Ent.R rfl rfl rfl rfl) ?_
 ·exact ⟨Nat.zero_le _,s1,Nat.zero_le _,by omega,fun j hj=>by rw [h12 j hj]; exact pkH_lt hm j,h12,fun _=>12,fun _=>0,fun _=>0,fun _ _=>0,⟨fun j hj=>absurd hj (Nat.not_lt_zero _),fun j hj=>absurd hj (Nat.not_lt_zero _),fun j hj=>absurd hj (Nat.not_lt_zero _),fun j hj=>absurd hj (Nat.not_lt_zero _),fun j hj=>absurd hj (Nat.not_lt_zero _),fun j hj=>absurd hj (Nat.not_lt_zero _)⟩,rfl,rfl,fun j hj=>absurd hj (Nat.not_lt_zero _)⟩
 rintro ⟨i,l,cap,B,cq,PV⟩ hI
 change (I7 m kn n) i l cap B cq PV at hI
 change GC _ _ _ ((L7 b o m cp) i l cap B cq PV)
 obtain ⟨hi,hl,hq,hll,hB,h12,hw⟩:=hI
 unfold L7
 refine cF [4,6,7,27,28,29] ?_
 refine rS [4,6,7,27,28,29,30] ?_
 refine GC.seq ?_
 refine GC.cond rfl (fun hlt=>?_) (fun hlt=>?_)
 ·have hlt : (i : Int) < m:=by simpa using hlt
  have hlt' : i < m:=by omega
  have he:=hE.h i hlt'
  have hki:=hk i hlt'
  obtain ⟨T,hT⟩:=he.k
  refine GC.skip (GK.code (GC.seq (GC.block (GL.seqR ?_))))
  refine lK 1 [4,6,7,27,28,29,31] ?_
  refine GL.op rfl (OpW.lstep (LStep.muA (vs:=[.int .i64 (kn i : Int),.slice (a i) (n i) (c i),.int .i64 (bs i),.slice (sa i) (sn i) (sc i)]) rfl rfl rfl rfl rfl (fun q v hq=>by show muAt μ b (o + (i : Int).toNat * 4 + q) = some v; rw [Int.toNat_natCast]; exact he.h q v hq)) rfl (gF [4,6,7,27,28,29,32] rfl ?_))
  refine lF [4,6,7,9,27,28,29] (GK.code ?_)
  refine rS [4,6,7,9,10,27,28,29] ?_
  refine GC.seq ?_
  refine rS [4,6,7,9,10,27,28,29,37] ?_
  refine GC.cond rfl (fun hk5=>?_) (fun hk5=>?_)
  ·have hk5 : ((kn i : Nat) : Int) > 4:=by simpa using hk5
   omega
  ·have hk5 : ¬ (((kn i : Nat) : Int) > 4):=by simpa using hk5
   refine GC.skip (GK.code ?_)
   refine rS [4,6,7,9,10,11,27,28,29] ?_
   refine GL.seqR ?_
   refine lK 5 [4,7,9,10,11,27,28,29,51,53,55] ?_
   refine GL.op rfl (cR rfl (f16 _ (kn i) (n i) ⟨hki.1,hki.2.1⟩ (by omega)) [] rfl rfl rfl rfl ?_)
   intro ⟨x1,xc,H⟩ ⟨hH,hx1,hx2,hHr⟩
   dsimp only at hH hx1 hx2 hHr ⊢
   refine gF [4,7,9,10,11,27,28,29,51,56] rfl ?_
   refine GL.op rfl (OpW.appendI (m:=x1) (N:=H) rfl rfl rfl rfl rfl rfl rfl rfl rfl rfl (Nat.le_of_ble_eq_true rfl) (hl) (src_slc rfl rfl (by show 0 + x1 * 1 ≤ xc; omega) (fun j hj=>by rw [Nat.zero_add]; rfl)) (by omega) (by show (_ + _) * 1 ≤ 140737488355328; omega) rfl ?_ rfl rfl)
   intro c3 B3 t1 t2 t3 t4 ρ' hp
   obtain rfl:=Option.some.inj hp; clear hp
   refine gF [4,7,9,10,11,27,28,29,57] rfl ?_
   refine lF [4,6,7,9,10,11,27,28,29] (GK.code ?_)
   refine GC.seq ?_
   refine rS [4,6,7,9,10,11,27,28,29,59] ?_
   refine GC.block ?_
   refine rS [4,6,7,9,10,11,27,28,29,59,60] ?_
   refine GC.cond rfl (fun hk6=>?_) (fun hk6=>?_)
   ·have hk6 : ((kn i : Nat) : Int) = 6:=by simpa using hk6
    omega
   ·have hk6 : ¬ (((kn i : Nat) : Int) = 6):=by simpa using hk6
    refine rS [4,6,7,9,10,11,27,28,29,74] ?_
    refine GC.cond rfl (fun hk7=>?_) (fun hk7=>?_)
    ·have hk7 : ((kn i : Nat) : Int) = 7:=by simpa using hk7
     omega
    ·have hk7 : ¬ (((kn i : Nat) : Int) = 7):=by simpa using hk7
     refine GC.skip (GK.code (GL.seqR ?_))
     refine lK 2 [4,7,11,27,28,29,92,93] ?_
     refine GL.op rfl (cR rfl (f20g _ (a i) (n i) (c i) T hT) [] rfl rfl rfl rfl ?_)
     intro ⟨y1,yc,G⟩ ⟨⟨pe,hG,hy⟩,hy1,hy2,hGr⟩
     dsimp only at hG hy hy1 hy2 hGr ⊢
     subst hy
     refine gF [4,7,11,27,28,29,92,94] rfl ?_
     refine GL.op rfl (OpW.appendI (m:=(pe + 4)) (N:=G) rfl rfl rfl rfl rfl rfl rfl rfl rfl rfl (Nat.le_of_ble_eq_true rfl) (t1) (src_slc rfl rfl (by show 0 + (pe + 4) * 1 ≤ yc; omega) (fun j hj=>by rw [Nat.zero_add]; rfl)) (by omega) (by show (_ + _) * 1 ≤ 140737488355328; omega) rfl ?_ rfl rfl)
     intro c4 B4 v1 v2 v3 v4 ρ' hp
     obtain rfl:=Option.some.inj hp; clear hp
     refine gF [4,7,11,27,28,29,95] rfl ?_
     refine lF [4,6,7,11,27,28,29] (GK.code ?_)
     refine GL.seqR ?_
     refine lK 4 [4,6,7,11,27,28,29,99] ?_
     refine GL.op rfl (cR rfl (f21 _ B4 (offS c4 l 0 1) (l + x1 + (pe + 4) - l) (c4 - l) c4 (by rw [offS_ne (by have:=hH.lt; omega)]; omega) (by omega)) [0] rfl rfl rfl rfl fun crc _=>?_)
     refine gF [4,6,7,11,27,28,29,100] rfl ?_
     refine lF [4,6,7,11,27,28,29] (GK.code ?_)
     refine GC.region ?_
     refine lK 3 [4,6,27,28,29,102,104] ?_
     refine GL.op rfl (OpW.appendV (N:=plN l (a i) (n i) (c i) crc) (m:=1) rfl rfl rfl rfl (Nat.le_of_ble_eq_true rfl) rfl rfl rfl rfl (Nat.le_of_ble_eq_true rfl) hq (src_slc rfl rfl (Nat.le_of_ble_eq_true rfl) (fun j hj=>by rw [Nat.zero_add]; exact pl_get j hj)) (by omega) (by show (i + 1) * 40 ≤ 140737488355328; omega) rfl ?_ rfl rfl)
     intro cq' PV' q1 q2 q3 q4 ρ' hp
     obtain rfl:=Option.some.inj hp; clear hp
     refine gF [4,6,27,28,29,105] rfl ?_
     refine lF [4,6,7,27,28,29] ?_
     refine GK.code ?_
     refine rG [4,6,7,27,28,29] ?_
     refine GK.back (i + 1,l + x1 + (pe + 4),c4,B4,cq',PV') [0,1] (show (I7 m kn n) (i + 1) (l + x1 + (pe + 4)) (c4) (B4) (cq') (PV') from ?_) ?_ (Ent.R rfl rfl rfl rfl)
     ·have q3 : ∀ j,j < i * 3 → PV' j = PV j:=q3
      have q4 : ∀ j,j < 1 * 3 → PV' (i * 3 + j) = plN l (a i) (n i) (c i) crc j:=q4
      have e0 : ∀ j,j < l → B4 j = B j:=fun j hj=>by rw [v3 j (by omega),t3 j hj]
      have e1 : ∀ j,j < x1 → B4 (l + j) = H j:=fun j hj=>by rw [v3 _ (by omega),t4 j hj]
      refine ⟨by omega,v1,q1,by omega,fun j hj=>?_,fun j hj=>by rw [e0 j (by omega)]; exact h12 j hj,hw.push hH hG ⟨hki.1,hki.2.1⟩ (by omega) e0 e1 v4 q3 ⟨_,_,_,_,q4 0 (by omega),q4 1 (by omega),q4 2 (by omega)⟩⟩
      by_cases f1 : j < l
      ·rw [e0 j f1]; exact hB j f1
      by_cases f2 : j < l + x1
      ·rw [show j = l + (j - l) from by omega,e1 _ (by omega)]; exact hHr _ (by omega)
      ·rw [show j = l + x1 + (j - (l + x1)) from by omega,v4 _ (by omega)]; exact hGr _ (by omega)
     ·show m - (i + 1) < m - i; omega
 ·have hlt : ¬ ((i : Int) < m):=by simpa using hlt
  obtain rfl : i = m:=by omega
  refine GC.exit ?_
  refine GK.code (GL.seqR ?_)
  refine lK 2 [7,107,108] ?_
  refine GL.op rfl (cR rfl (f22 _ B 0 l cap cap (by omega) (by omega)) [0] rfl rfl rfl rfl ?_)
  intro ⟨dc,D⟩ hD
  dsimp only at hD ⊢
  refine gF [7,107,109] rfl ?_
  refine GL.op rfl (OpW.appendI (m:=20) (N:=D) rfl rfl rfl rfl rfl rfl rfl rfl rfl rfl (Nat.le_of_ble_eq_true rfl) (hl) (src_slc rfl rfl (by show 0 + 20 * 1 ≤ dc; omega) (fun j hj=>by rw [Nat.zero_add]; rfl)) (by omega) (by show (_ + _) * 1 ≤ 140737488355328; omega) rfl ?_ rfl rfl)
  intro c5 B5 v1 v2 v3 v4 ρ' hp
  obtain rfl:=Option.some.inj hp; clear hp
  refine gF [7,110] rfl ?_
  refine lF [2,3] (GK.code ?_)
  refine GC.ret ?_
  refine fR (.inl rfl) rfl (by trivial) ((l + 20,c5,B5,cq,PV)) [0,1] rfl rfl rfl rfl (⟨pack_is hm hll hB h12 hw (fun j hj=>v3 j hj) (fun j hj=>(v4 j hj).trans (hD.2 j hj)),v1,hq⟩)
theorem f7n (μ) (kn n : Nat → Nat) : Fun Tryz.prog μ 7 [.v (.slice none 0 0)] [] 0 (fun x : Nat × Nat × (Nat → Int) × Nat × (Nat → Value)=>PackIs 0 kn n x.1 x.2.2.1 x.2.2.2.2 ∧ x.1 ≤ x.2.1 ∧ 0 ≤ x.2.2.2.1)
  (fun x=>⟨.tup [.slc 0 0 x.1 x.2.1,.slc 1 0 0 x.2.2.2.1],[(0,.row ⟨.ints .u8 x.2.2.1,x.2.1,5⟩),(1,.row ⟨.vals x.2.2.2.2,x.2.2.2.1 * 3,37⟩)],2⟩):=by
 refine fE 112 Tryz.func7 fun zw zβ=>?_
 refine cF [0] ?_
 refine rS [0] ?_
 refine GC.fz0 ?_
 refine GC.force [0] rfl ?_
 refine GL.seqR ?_
 refine lK 1 [0,13] ?_
 refine GL.op rfl (cR rfl (f11n _ (fun _=>none)) [0] rfl rfl rfl rfl fun _ _=>?_)
 refine gF [0,14] rfl ?_
 refine lF [0,4] (GK.code ?_)
 refine GL.seqR ?_
 refine lK 1 [0,4,17] ?_
 refine GL.op rfl (OpW.convB rfl rfl rfl rfl (by decide) rfl rfl ?_)
 refine gF [0,4,18] rfl ?_
 refine GL.op rfl (cR rfl (f14 _ 2) [] rfl rfl rfl rfl fun _ _=>?_)
 refine gF [0,4,18,19] rfl ?_
 refine GL.cvR 1 ⟨.ints .u8 packS,4,5⟩ rfl rfl rfl packS_get rfl ?_
 refine GL.op rfl (OpW.appendI (m:=4) (N:=fun j=>w8 (2 / 2 ^ (24 - 8 * j))) rfl rfl rfl rfl rfl rfl rfl rfl rfl rfl (Nat.le_of_ble_eq_true rfl) (Nat.le_refl 4) (src_slc rfl rfl (Nat.le_of_ble_eq_true rfl) (fun j hj=>by rw [Nat.zero_add]; exact ad_get j hj)) (by omega) (by show (_ + _) * 1 ≤ 140737488355328; omega) rfl ?_ rfl rfl)
 intro c1 F1 r1 r2 r3 r4 ρ' hp
 obtain rfl:=Option.some.inj hp; clear hp
 refine gF [0,4,20] rfl ?_
 refine lF [0,4,6] (GK.code ?_)
 refine GL.seqR ?_
 refine lK 4 [0,4,21,24] ?_
 refine GL.op rfl (cR rfl (f14 _ (w32 ((0 : Nat) : Int))) [] rfl rfl rfl rfl fun _ _=>?_)
 refine gF [0,4,21,25] rfl ?_
 refine GL.op rfl (OpW.appendI (m:=4) (N:=fun j=>w8 (w32 ((0 : Nat) : Int) / 2 ^ (24 - 8 * j))) rfl rfl rfl rfl rfl rfl rfl rfl rfl rfl (Nat.le_of_ble_eq_true rfl) (r1) (src_slc rfl rfl (Nat.le_of_ble_eq_true rfl) (fun j hj=>by rw [Nat.zero_add]; exact ad_get j hj)) (by omega) (by show (_ + _) * 1 ≤ 140737488355328; omega) rfl ?_ rfl rfl)
 intro c2 F2 s1 s2 s3 s4 ρ' hp
 obtain rfl:=Option.some.inj hp; clear hp
 refine gF [0,4,26] rfl ?_
 refine lF [0,4,6] (GK.code ?_)
 refine rS [0,4,6,7] ?_
 refine GC.seq ?_
 refine rS [4,6,7,27,28,29] ?_
 have h12:=hd12 (m:=0) (by decide) r3 r4 s3 s4
 refine GC.nilg 7 (.vals fun _=>undef) 37 rfl ?_
 refine GC.block ?_
 refine GC.loop0 ?_
 refine rS [4,6,7,27,28,29,30] ?_
 refine GC.seq (GC.condF rfl ?_)
 refine GC.exit ?_
 refine GK.code (GL.seqR ?_)
 refine lK 2 [7,107,108] ?_
 refine GL.op rfl (cR rfl (f22 _ F2 0 12 c2 c2 (by omega) (by omega)) [1] rfl rfl rfl rfl ?_)
 intro ⟨dc,D⟩ hD
 dsimp only at hD ⊢
 refine gF [7,107,109] rfl ?_
 refine GL.op rfl (OpW.appendI (m:=20) (N:=D) rfl rfl rfl rfl rfl rfl rfl rfl rfl rfl (Nat.le_of_ble_eq_true rfl) (s1) (src_slc rfl rfl (by show 0 + 20 * 1 ≤ dc; omega) (fun j hj=>by rw [Nat.zero_add]; rfl)) (by omega) (by show (_ + _) * 1 ≤ 140737488355328; omega) rfl ?_ rfl rfl)
 intro c5 B5 v1 v2 v3 v4 ρ' hp
 obtain rfl:=Option.some.inj hp; clear hp
 refine gF [7,110] rfl ?_
 refine lF [2,3] (GK.code ?_)
 refine GC.ret ?_
 refine fR (.inl rfl) rfl (by trivial) ((12 + 20,c5,B5,0,fun _=>undef)) [1,4] rfl rfl rfl rfl (⟨pack_is (m:=0) (l:=12) (B:=F2) (by decide) (by omega) (fun j hj=>by rw [h12 j hj]; exact pkH_lt (by decide) j) h12 ⟨fun _=>12,fun _=>0,fun _=>0,fun _ _=>0,⟨fun j hj=>absurd hj (Nat.not_lt_zero _),fun j hj=>absurd hj (Nat.not_lt_zero _),fun j hj=>absurd hj (Nat.not_lt_zero _),fun j hj=>absurd hj (Nat.not_lt_zero _),fun j hj=>absurd hj (Nat.not_lt_zero _),fun j hj=>absurd hj (Nat.not_lt_zero _)⟩,rfl,rfl,fun j hj=>absurd hj (Nat.not_lt_zero _)⟩ (fun j hj=>v3 j hj) (fun j hj=>(v4 j hj).trans (hD.2 j hj)),v1,Nat.zero_le _⟩)
def cbB (be : Nat × Nat) (B : Nat → Int) (rn N cap : Nat) (st : Int) (L : Nat) (bo bc brn : Nat) (E : Nat → Int) (Z : Row) (x : Int) (v : SV0) (eof : Bool) (i : LS) (e : Nat) (w : Nat × (Nat → Int)) : GH :=
 zcV be B rn N cap 21 st Z x v eof i ++ [(17,.row ⟨.ints .u8 E,16384,5⟩),(18,.row (bnR (.ifc 134 (.ptr 19 0)) L e)),(19,.row (bfR (.slc 20 bo w.1 bc) 0 0)),(20,.row ⟨.ints .u8 w.2,brn,5⟩)]
structure cbBI (dl : Int) (bo : Nat) (B S T : Nat → Int) (N pe L : Nat) (v : SV0) (eof : Bool) (i : LS) (e : Nat) (w : Nat × (Nat → Int)) : Prop where
 hi : lsI B T pe L e v eof i
 hs : SrD dl B S N v
 he : e ≤ L
 hW : w.1 = e
set_option maxHeartbeats 16000000 in
theorem f166B (μ) (dl : Int) (be : Nat × Nat) (hE : muAt μ 0 0 = some (EOFv be)) (B S T : Nat → Int) (rn N cap pe L X : Nat) (d : Dat B rn N cap) (st : Int) (hpe : pe + 4 ≤ N) (v : SV0) (hi : lsI B T pe L 0 v false .a) (h : SrD dl B S N v) (hL : L < 1099511627776)
  (hT : ∀ j,j < L → 0 ≤ T j ∧ T j < 256) (hX : ad T L = (X : Int)) (hX2 : X < 4294967296) (h0 : B pe = ((X / 16777216 : Nat) : Int)) (h1 : B (pe + 1) = ((X / 65536 % 256 : Nat) : Int)) (h2 : B (pe + 2) = ((X / 256 % 256 : Nat) : Int)) (h3 : B (pe + 3) = ((X % 256 : Nat) : Int)) (a b c dd : Int) (bo bc brn : Nat) (hbc : L ≤ bc) (hbc2 : bc < 9223372036854775808) (hbr : bo + bc ≤ brn) (E0 : Nat → Int) (w0 : Nat × (Nat → Int)) (hw0 : w0.1 = 0) :
  FunC Tryz.prog μ 166 [.ifc 285 (.ptr 18 0),.ifc 370 (.ptr 11 0),.slc 17 0 16384 16384] (cbB be B rn N cap st L bo bc brn E0 (zrR .nilIface a b c dd) (ad T 0) v false .a 0 w0) 21 22
  (fun y : ZO × (Nat × (Nat → Int))=>y.1.x.eof = true ∧ y.1.x.v.p = pe + 4 ∧ SrD dl B S N y.1.x.v ∧ y.2.1 = L)
  (fun y=>⟨.tup [.v (.int .i64 (L : Nat)),.v .nilIface],cbB be B rn N cap st L bo bc brn y.1.x.E (zrR (EOFv be) y.1.a y.1.b y.1.c y.1.d) (ad T L) y.1.x.v true (.b y.1.x.o y.1.x.l y.1.x.c) L y.2,22⟩):=by
 have hN2:=d.hN2
 dsimp only [cbB,zcV,srG,List.cons_append,List.nil_append]
 refine fE 115 Tryz.func166 fun zw zβ=>?_
 refine cF [0,1,2,50,51,52,53,54,55,90,91,92] ?_
 refine rS [0,1,2,6,7,50,51,52,53,54,55,90,91,92] ?_
 refine GC.seq (GL.seqR ?_)
 refine lK 1 [0,1,2,6,7,20,50,51,52,53,54,55,90,91,92] ?_
 refine GL.vstep rfl (VStep.assertIF rfl rfl h370w (fun _=>by kernel_rfl)) rfl (GL.force [0,1,2,6,7,21,50,51,52,53,54,55,90,91,92] rfl ?_)
 refine lF [0,1,2,6,7,8,9,50,51,52,53,54,55,90,91,92] (GK.code ?_)
 refine rS [0,1,2,6,7,8,24,50,51,52,53,54,55,90,91,92] ?_
 refine GC.condF rfl (GC.skip (GK.code (GC.seq (GL.seqR ?_))))
 refine lK 1 [0,1,2,6,7,31,50,51,52,53,54,55,90,91,92] ?_
 refine GL.vstep rfl (VStep.assertIF rfl rfl h285r (fun _=>by kernel_rfl)) rfl (GL.force [0,1,2,6,7,32,50,51,52,53,54,55,90,91,92] rfl ?_)
 refine lF [0,1,2,6,7,10,11,50,51,52,53,54,55,90,91,92] (GK.code ?_)
 refine rS [0,1,2,6,7,10,35,50,51,52,53,54,55,90,91,92] ?_
 refine GC.condF rfl (GC.skip (GK.code (GC.seq (GL.seqR ?_))))
 refine lK 1 [0,1,2,6,7,41,50,51,52,53,54,55,90,91,92] ?_
 refine GL.vstep rfl (VStep.eqNilS rfl (.inl rfl) rfl rfl (by decide)) rfl (GL.force [0,1,2,6,7,42,50,51,52,53,54,55,90,91,92] rfl ?_)
 refine lF [0,1,2,6,7,42,50,51,52,53,54,55,90,91,92] (GK.code ?_)
 refine GC.condF rfl (GC.skip (GK.code (GC.seq (GC.block ?_))))
 refine GC.force [0,1,2,6,7] rfl ?_
 refine GC.loop (ι:=SV0 × Bool × LS × Nat × (Nat → Int) × (Nat × (Nat → Int)) × Int × Int × Int × Int) (fun z=>cbBI dl 0 B S T N pe L z.1 z.2.1 z.2.2.1 z.2.2.2.1 z.2.2.2.2.2.1) (fun z=>L - z.2.2.2.1) (fun z=>⟨[(0,.ifc 285 (.ptr 18 0)),(1,.ifc 370 (.ptr 11 0)),(2,.slc 17 0 16384 16384),(6,.v (.int .i64 (z.2.2.2.1 : Nat))),(7,.v .nilIface)],cbB be B rn N cap st L bo bc brn z.2.2.2.2.1 (zrR .nilIface z.2.2.2.2.2.2.1 z.2.2.2.2.2.2.2.1 z.2.2.2.2.2.2.2.2.1 z.2.2.2.2.2.2.2.2.2) (ad T z.2.2.2.1) z.1 z.2.1 z.2.2.1 z.2.2.2.1 z.2.2.2.2.2.1,22,[]⟩) (v,false,.a,0,E0,w0,a,b,c,dd) ⟨hi,h,Nat.zero_le _,hw0⟩ rfl ?_
 clear hi h hw0
 rintro ⟨v,eof,i,e,E,w,qa,qb,qc,qd⟩ ⟨hi,hs,hel,hW⟩
 dsimp only at hi hs hel hW
 obtain ⟨wl,wG⟩:=w
 obtain rfl : e = wl:=hW.symm
 have hi0:=hi
 rcases i with _ | ⟨o0,l0,c0⟩ <;> rcases eof with _ | _
 rotate_left
 ·exact absurd hi.1 (by decide)
 all_goals
  dsimp only [cbB,zcV,srG,List.cons_append,List.nil_append]
  refine GC.force [0,1,2,6,7] rfl ?_
  refine GC.block (GL.seqR ?_)
  refine lK 2 [0,1,2,6,7,69,70,90,91,92] ?_
  refine GL.op rfl (OpW.invokeR rfl rfl (m370r) (f307 _ dl be hE B S T E rn N cap pe L e 0 16384 16384 16384 5 X d st hpe v _ _ hi0 hs (by decide) (by decide) (by decide) (by decide) hT hX hX2 h0 h1 h2 h3 qa qb qc qd) [0,1,2,3,4,5,6,7,8,9,10,11,12,13,14,15,16,17,21] rfl rfl rfl rfl ?_)
  intro y hy
  obtain ⟨⟨n,E2,w2,eof2,o2,l2,c2,er⟩,ya,yb,yc,yd⟩:=y
  obtain ⟨hn,hEE,hs2,her⟩:=hy
  dsimp only at hn hEE hs2 her
  rcases her with ⟨rfl,hn0,hle2,hl2⟩ | ⟨rfl,rfl,hle2,hp2⟩
  rcases eof2 with _ | _
  ·intro ρ' hp
   obtain rfl:=Option.some.inj hp; clear hp
   refine gF [0,1,2,6,7,71,90,91,92] rfl ?_
   refine lF [0,1,2,6,7,15,16,90,91,92] (GK.code ?_)
   refine GC.seq ?_
   refine rS [0,1,2,6,7,15,16,75,90,91,92] ?_
   refine GC.cond rfl (fun hp=>?_) (fun hp=>?_)
   ·have hp : (0 : Int) < n:=by simpa using hp
    refine GC.seq (GC.draw [(0,0),(1,0),(2,0),(3,0),(4,0),(5,0),(6,0),(7,2),(8,0),(9,0),(10,0),(11,0),(12,0)] mixed (by kernel_rfl) (by rintro _ _ _ _ ⟨_,_,_,_,h,_⟩ _; cases h) ?_)
    refine wK 5 [0,1,2,6,7,15,16,77,80,81,90,91,92] ?_
    refine GW.vstep rfl rfl (VStep.nilM rfl rfl (fun b w=>by kernel_rfl)) rfl (GW.force [0,1,2,6,7,15,16,77,80,90,91,92] rfl ?_)
    refine wK 1 [0,1,2,6,7,15,16,80,83,90,91,92] ?_
    refine GW.op rfl rfl (iR rfl rfl (m285w) (f296b _ _ _ bo e bc brn _ n _ 16384 L e (by omega) hbc2 hbr (by show offS 16384 0 0 1 + n ≤ 16384; rw [offS_zero]; omega) (by omega) (by omega) hL 0 0) [18,19,20,17] rfl rfl rfl rfl fun F2 _=>?_)
    refine wL [0,1,2,6,7,15,16,84,90,91,92] rfl ?_
    refine wF [0,1,2,6,7,15,16,17,18,90,91,92] (GK.code ?_)
    refine GC.seq (GL.seqR ?_)
    refine lK 3 [0,1,2,6,7,15,16,17,18,89,90,91,92] ?_
    refine GL.spl 89 rfl rfl rfl (fun hneg=>?_) (fun hneg=>?_)
    ·have hneg : (n : Int) < 0:=by simpa using hneg
     omega
    ·have hneg : ¬ ((n : Int) < 0):=by simpa using hneg
     refine lF [0,1,2,6,7,15,16,17,18,90,91,92,93] (GK.code ?_)
     refine GC.cond rfl (fun hbig=>?_) (fun hbig=>?_)
     ·have hbig : (n : Int) < n:=by simpa using hbig
      omega
     ·have hbig : ¬ ((n : Int) < n):=by simpa using hbig
      refine GC.skip (GK.code ?_)
      refine rS [0,1,2,6,7,15,16,17,18,90,91,92] ?_
      refine GC.seq ?_
      refine rS [0,1,2,6,7,15,16,17,18,90,91,92,101] ?_
      refine GC.condF rfl (GC.skip (GK.code ?_))
      refine rS [0,1,2,6,7,16,90,91,92,105] ?_
      refine GC.cond rfl (fun hne=>?_) (fun hne=>?_)
      ·have hne : ¬ (n : Int) = n:=by simpa using hne
       exact absurd rfl hne
      ·have hne : ¬ (¬ (n : Int) = n):=by simpa using hne
       refine GC.skip (GK.code ?_)
       refine rS [0,1,2,6,7,16,90,91,92,108] ?_
       refine GC.condF rfl (GC.skip ?_)
       refine GK.back ((w2,false,.b o2 l2 c2,e + n,E2,(e + n,F2),ya,yb,yc,yd)) [0,1,2,3,4,5,6,7,8,9,10,11,12,13,14,15,16,17,18,19,20,21] ?_ ?_ (Ent.R rfl rfl rfl rfl)
       ·exact ⟨hl2,hs2,hle2,rfl⟩
       ·dsimp only; omega
   ·have hp : ¬ ((0 : Int) < n):=by simpa using hp
    omega
  ·intro ρ' hp
   obtain rfl:=Option.some.inj hp; clear hp
   refine gF [0,1,2,6,7,71,90,91,92] rfl ?_
   refine lF [0,1,2,6,7,15,16,90,91,92] (GK.code ?_)
   refine GC.seq ?_
   refine rS [0,1,2,6,7,15,16,75,90,91,92] ?_
   refine GC.cond rfl (fun hp=>?_) (fun hp=>?_)
   ·have hp : (0 : Int) < n:=by simpa using hp
    refine GC.seq (GC.draw [(0,0),(1,0),(2,0),(3,0),(4,0),(5,0),(6,0),(7,2),(8,0),(9,0),(10,0),(11,0),(12,0)] mixed (by kernel_rfl) (by rintro _ _ _ _ ⟨_,_,_,_,h,_⟩ _; cases h) ?_)
    refine wK 5 [0,1,2,6,7,15,16,77,80,81,90,91,92] ?_
    refine GW.vstep rfl rfl (VStep.nilM rfl rfl (fun b w=>by kernel_rfl)) rfl (GW.force [0,1,2,6,7,15,16,77,80,90,91,92] rfl ?_)
    refine wK 1 [0,1,2,6,7,15,16,80,83,90,91,92] ?_
    refine GW.op rfl rfl (iR rfl rfl (m285w) (f296b _ _ _ bo e bc brn _ n _ 16384 L e (by omega) hbc2 hbr (by show offS 16384 0 0 1 + n ≤ 16384; rw [offS_zero]; omega) (by omega) (by omega) hL 0 0) [18,19,20,17] rfl rfl rfl rfl fun F2 _=>?_)
    refine wL [0,1,2,6,7,15,16,84,90,91,92] rfl ?_
    refine wF [0,1,2,6,7,15,16,17,18,90,91,92] (GK.code ?_)
    refine GC.seq (GL.seqR ?_)
    refine lK 3 [0,1,2,6,7,15,16,17,18,89,90,91,92] ?_
    refine GL.spl 89 rfl rfl rfl (fun hneg=>?_) (fun hneg=>?_)
    ·have hneg : (n : Int) < 0:=by simpa using hneg
     omega
    ·have hneg : ¬ ((n : Int) < 0):=by simpa using hneg
     refine lF [0,1,2,6,7,15,16,17,18,90,91,92,93] (GK.code ?_)
     refine GC.cond rfl (fun hbig=>?_) (fun hbig=>?_)
     ·have hbig : (n : Int) < n:=by simpa using hbig
      omega
     ·have hbig : ¬ ((n : Int) < n):=by simpa using hbig
      refine GC.skip (GK.code ?_)
      refine rS [0,1,2,6,7,15,16,17,18,90,91,92] ?_
      refine GC.seq ?_
      refine rS [0,1,2,6,7,15,16,17,18,90,91,92,101] ?_
      refine GC.condF rfl (GC.skip (GK.code ?_))
      refine rS [0,1,2,6,7,16,90,91,92,105] ?_
      refine GC.cond rfl (fun hne=>?_) (fun hne=>?_)
      ·have hne : ¬ (n : Int) = n:=by simpa using hne
       exact absurd rfl hne
      ·have hne : ¬ (¬ (n : Int) = n):=by simpa using hne
       refine GC.skip (GK.code ?_)
       refine rS [0,1,2,6,7,16,90,91,92,108] ?_
       refine GC.condF rfl (GC.skip ?_)
       refine GK.back ((w2,true,.b o2 l2 c2,e + n,E2,(e + n,F2),ya,yb,yc,yd)) [0,1,2,3,4,5,6,7,8,9,10,11,12,13,14,15,16,17,18,19,20,21] ?_ ?_ (Ent.R rfl rfl rfl rfl)
       ·exact ⟨hl2,hs2,hle2,rfl⟩
       ·dsimp only; omega
   ·have hp : ¬ ((0 : Int) < n):=by simpa using hp
    omega
  ·intro ρ' hp
   obtain rfl:=Option.some.inj hp; clear hp
   refine gF [0,1,2,6,7,71,90,91,92] rfl ?_
   refine lF [0,1,2,6,7,15,16,90,91,92] (GK.code ?_)
   refine GC.seq ?_
   refine rS [0,1,2,6,7,15,16,75,90,91,92] ?_
   refine GC.cond rfl (fun hp=>?_) (fun hp=>?_)
   ·have hp : (0 : Int) < n:=by simpa using hp
    refine GC.seq (GC.draw [(0,0),(1,0),(2,0),(3,0),(4,0),(5,0),(6,0),(7,2),(8,0),(9,0),(10,0),(11,0),(12,0)] mixed (by kernel_rfl) (by rintro _ _ _ _ ⟨_,_,_,_,h,_⟩ _; cases h) ?_)
    refine wK 5 [0,1,2,6,7,15,16,77,80,81,90,91,92] ?_
    refine GW.vstep rfl rfl (VStep.nilM rfl rfl (fun b w=>by kernel_rfl)) rfl (GW.force [0,1,2,6,7,15,16,77,80,90,91,92] rfl ?_)
    refine wK 1 [0,1,2,6,7,15,16,80,83,90,91,92] ?_
    refine GW.op rfl rfl (iR rfl rfl (m285w) (f296b _ _ _ bo e bc brn _ n _ 16384 L e (by omega) hbc2 hbr (by show offS 16384 0 0 1 + n ≤ 16384; rw [offS_zero]; omega) (by omega) (by omega) hL 0 0) [18,19,20,17] rfl rfl rfl rfl fun F2 _=>?_)
    refine wL [0,1,2,6,7,15,16,84,90,91,92] rfl ?_
    refine wF [0,1,2,6,7,15,16,17,18,90,91,92] (GK.code ?_)
    refine GC.seq (GL.seqR ?_)
    refine lK 3 [0,1,2,6,7,15,16,17,18,89,90,91,92] ?_
    refine GL.spl 89 rfl rfl rfl (fun hneg=>?_) (fun hneg=>?_)
    ·have hneg : (n : Int) < 0:=by simpa using hneg
     omega
    ·have hneg : ¬ ((n : Int) < 0):=by simpa using hneg
     refine lF [0,1,2,6,7,15,16,17,18,90,91,92,93] (GK.code ?_)
     refine GC.cond rfl (fun hbig=>?_) (fun hbig=>?_)
     ·have hbig : (n : Int) < n:=by simpa using hbig
      omega
     ·have hbig : ¬ ((n : Int) < n):=by simpa using hbig
      refine GC.skip (GK.code ?_)
      refine rS [0,1,2,6,7,15,16,17,18,90,91,92] ?_
      refine GC.seq ?_
      refine rS [0,1,2,6,7,15,16,17,18,90,91,92,101] ?_
      refine GC.condF rfl (GC.skip (GK.code ?_))
      refine rS [0,1,2,6,7,16,90,91,92,105] ?_
      refine GC.cond rfl (fun hne=>?_) (fun hne=>?_)
      ·have hne : ¬ (n : Int) = n:=by simpa using hne
       exact absurd rfl hne
      ·have hne : ¬ (¬ (n : Int) = n):=by simpa using hne
       refine GC.skip (GK.code ?_)
       refine rS [0,1,2,6,7,16,90,91,92,108] ?_
       refine GC.condT rfl ?_
       obtain rfl : L = e + n:=by omega
       refine GC.seq (GL.seqR ?_)
       refine lK 1 [6,7,16,109] ?_
       refine GL.op rfl (OpW.lstep (LStep.mu (v:=EOFv be) rfl rfl rfl rfl hE) rfl (gF [6,7,16,109,110] rfl ?_))
       refine GL.vstep rfl (VStep.eqI (r:=true) rfl (.inr rfl) rfl (fun β u v h1 h2=>by cases h1; cases h2; exact .pe be.1 be.2 rfl rfl rfl rfl)) rfl (GL.force [6,7,16,111] rfl ?_)
       refine lF [6,7,16,111] (GK.code ?_)
       refine GC.condF rfl (GC.skip (GK.code ?_))
       refine GC.exit ?_
       refine GK.code ?_
       refine rS [6,7] ?_
       refine GC.ret ?_
       refine fR (.inl rfl) rfl (by trivial) ((⟨⟨n,E2,w2,true,o2,l2,c2,EOFv be⟩,ya,yb,yc,yd⟩,(e + n,F2))) [0,1,2,3,4,5,6,7,8,9,10,11,12,13,14,15,16,17,18,19,20,21] rfl rfl rfl rfl (⟨rfl,hp2,hs2,rfl⟩)
   ·have hp : ¬ ((0 : Int) < n):=by simpa using hp
    obtain rfl : n = 0:=by omega
    obtain rfl : L = e:=by omega
    refine GC.skip (GK.code ?_)
    refine rS [0,1,2,6,7,16,90,91,92,108] ?_
    refine GC.condT rfl (GC.seq (GL.seqR ?_))
    refine lK 1 [6,7,16,109] ?_
    refine GL.op rfl (OpW.lstep (LStep.mu (v:=EOFv be) rfl rfl rfl rfl hE) rfl (gF [6,7,16,109,110] rfl ?_))
    refine GL.vstep rfl (VStep.eqI (r:=true) rfl (.inr rfl) rfl (fun β u v h1 h2=>by cases h1; cases h2; exact .pe be.1 be.2 rfl rfl rfl rfl)) rfl (GL.force [6,7,16,111] rfl ?_)
    refine lF [6,7,16,111] (GK.code ?_)
    refine GC.condF rfl (GC.skip (GK.code ?_))
    refine GC.exit ?_
    refine GK.code ?_
    refine rS [6,7] ?_
    refine GC.ret ?_
    refine fR (.inl rfl) rfl (by trivial) ((⟨⟨0,E2,w2,true,o2,l2,c2,EOFv be⟩,ya,yb,yc,yd⟩,(L,wG))) [0,1,2,3,4,5,6,7,8,9,10,11,12,13,14,15,16,17,18,19,20,21] rfl rfl rfl rfl (⟨rfl,hp2,hs2,rfl⟩)
theorem f146B (μ) (dl : Int) (be : Nat × Nat) (hE : muAt μ 0 0 = some (EOFv be)) (B S T : Nat → Int) (rn N cap p pe L : Nat) (d : Dat B rn N cap) (st : Int) (z : Zs B T N p L pe) (v : SV0) (hi : lsI B T pe L 0 v false .a) (h : SrD dl B S N v) (a b c dd : Int) (bo bc brn : Nat) (hbc : L ≤ bc) (hbc2 : bc < 9223372036854775808) (hbr : bo + bc ≤ brn) (E0 : Nat → Int) (w0 : Nat × (Nat → Int)) (hw0 : w0.1 = 0) :
  FunC Tryz.prog μ 146 [.ifc 285 (.ptr 18 0),.ifc 370 (.ptr 11 0),.slc 17 0 16384 16384] (cbB be B rn N cap st L bo bc brn E0 (zrR .nilIface a b c dd) 1 v false .a 0 w0) 21 22
  (fun y : ZO × (Nat × (Nat → Int))=>y.1.x.eof = true ∧ y.1.x.v.p = pe + 4 ∧ SrD dl B S N y.1.x.v ∧ y.2.1 = L)
  (fun y=>⟨.tup [.v (.int .i64 (L : Nat)),.v .nilIface],cbB be B rn N cap st L bo bc brn y.1.x.E (zrR (EOFv be) y.1.a y.1.b y.1.c y.1.d) (ad T L) y.1.x.v true (.b y.1.x.o y.1.x.l y.1.x.c) L y.2,22⟩):=by
 obtain ⟨X,hX,hX2,g0,g1,g2,g3⟩:=z.hX
 have key:=f166B μ dl be hE B S T rn N cap pe L X d st z.hp v hi h z.hL z.hT hX hX2 g0 g1 g2 g3 a b c dd bo bc brn hbc hbc2 hbr E0 w0 hw0
 rw [ad0 T] at key
 dsimp only [cbB,zcV,srG,List.cons_append,List.nil_append] at key ⊢
 refine fE 22 Tryz.func146 fun zw zβ=>?_
 refine cF [0,1,2,11,12,13] ?_
 refine rS [0,1,2,11,12,13] ?_
 refine GC.seq (GL.seqR ?_)
 refine lK 1 [0,1,2,8,11,12,13] ?_
 refine GL.vstep rfl (VStep.eqNilS rfl (.inr rfl) rfl rfl (by decide)) rfl (GL.force [0,1,2,9,11,12,13] rfl ?_)
 refine lF [0,1,2,14] (GK.code ?_)
 refine GC.condF rfl (GC.skip (GK.code (GL.seqR ?_)))
 refine lK 3 [16,17,18] ?_
 refine GL.op rfl (cR rfl (key) [0,1,2,3,4,5,6,7,8,9,10,11,12,13,14,15,16,17,18,19,20,21] rfl rfl rfl rfl ?_)
 intro ⟨⟨⟨n,E2,w2,eof2,o2,l2,c2,er⟩,ya,yb,yc,yd⟩,w⟩ hy
 dsimp only at hy ⊢
 refine gF [19] rfl ?_
 refine lF [6,7] (GK.code ?_)
 refine GC.ret ?_
 refine fR (.inl rfl) rfl (by trivial) ((⟨⟨n,E2,w2,eof2,o2,l2,c2,er⟩,ya,yb,yc,yd⟩,w)) [0,1,2,3,4,5,6,7,8,9,10,11,12,13,14,15,16,17,18,19,20,21] rfl rfl rfl rfl (hy)
set_option maxHeartbeats 16000000 in
theorem f115B (μ) (dl : Int) (be : Nat × Nat) (hE : muAt μ 0 0 = some (EOFv be)) (B S T : Nat → Int) (rn N cap p pe L ps : Nat) (s : RdI) (t : WI) (d : Dat B rn N cap) (z : Zs B T N p L pe) (h : Sr B S N p ps s t) (hdl : (ps : Int) - (p : Int) = dl) (vv oo : Int) (bo bc brn : Nat) (hbc : L ≤ bc) (hbc2 : bc < 9223372036854775808) (hbr : bo + bc ≤ brn) (w0 : Nat × (Nat → Int)) (hw0 : w0.1 = 0) :
  FunC Tryz.prog μ 115 [.ptr 11 0,.ifc 134 (.ptr 12 0),.v (.int .i64 (L : Nat))] (srG B rn N cap 14 (p : Nat) s t ++ [(11,.row (scR 0 9 10 (.v (.pointer none)) vv oo)),(12,.row (bfR (.slc 13 bo w0.1 bc) 0 0)),(13,.row ⟨.ints .u8 w0.2,brn,5⟩)]) 14 15
  (fun y : RdI × WI × Nat × (Nat × (Nat → Int))=>Sr B S N (pe + 4) y.2.2.1 y.1 y.2.1 ∧ (y.2.2.1 : Int) - ((pe + 4 : Nat) : Int) = dl ∧ y.2.2.2.1 = L)
  (fun y=>⟨.tup [.v (.int .i64 (L : Nat)),.v .nilIface],srG B rn N cap 14 ((pe + 4 : Nat) : Int) y.1 y.2.1 ++ [(11,.row (scR 0 9 10 (.v (.pointer none)) vv oo)),(12,.row (bfR (.slc 13 bo y.2.2.2.1 bc) 0 0)),(13,.row ⟨.ints .u8 y.2.2.2.2,brn,5⟩)],15⟩):=by
 have hble:=z.hb.le
 have hzp:=z.hp
 dsimp only [srG,List.cons_append,List.nil_append]
 refine Fun.enterDf (T:=tab) (ok:=tabOK) (n:=47) Tryz.func115 rfl rfl rfl rfl fun zw zβ=>?_
 refine cF [0,1,2] ?_
 refine rS [0,1,2,7] ?_
 refine GL.seqR ?_
 refine lK 5 [1,2,7,16] ?_
 refine GL.op rfl (cR rfl (f143 _ B S rn N cap p ps s t d h (by omega) z.h0 z.h1) [0,1,2,3,4,5,6,7,8,9,10,14] rfl rfl rfl rfl ?_)
 intro ⟨s1,t1⟩ hx
 dsimp only at hx ⊢
 refine gF [1,2,7,17] rfl ?_
 refine lF [1,2,7,8] (GK.code ?_)
 refine GL.seqR ?_
 refine lK 1 [1,2,7,8,20] ?_
 refine GL.op rfl (OpW.defer rfl rfl ?_)
 refine gF [1,2,7,8] rfl ?_
 refine lF [1,2,7,8] (GK.code ?_)
 refine GC.seq ?_
 refine rS [1,2,7,8,22] ?_
 refine GC.condF rfl (GC.skip (GK.code (GL.seqR ?_)))
 refine lK 2 [1,2,7,8,25] ?_
 refine GL.op rfl (OpW.defer rfl rfl ?_)
 refine gF [1,2,7,8] rfl ?_
 refine lF [1,2,7,8] (GK.code ?_)
 refine rS [1,2,7,8,9] ?_
 refine GC.seq ?_
 refine rS [1,2,7,8,9,28] ?_
 refine GC.boolS 28 true rfl (by simp) rfl ?_
 refine GC.condT rfl ?_
 refine rG [7,8,9] ?_
 refine GK.code (GL.seqR ?_)
 refine GL.op rfl (cR rfl (f145 _) [] rfl rfl rfl rfl fun _ _=>?_)
 refine gF [7,8,9,34] rfl ?_
 refine lF [7,8,9,10] (GK.code ?_)
 refine GC.seq (GC.draw [(0,0),(1,0),(3,0),(4,0),(2,1),(5,1),(6,2),(7,0),(8,0),(9,0),(10,0),(11,2)] mixed (by kernel_rfl) (by rintro _ _ _ _ ⟨_,_,_,_,h,_⟩ _ <;> cases h) ?_)
 refine wK 6 [7,10,36,38,41] ?_
 refine GW.op rfl rfl (cR rfl (f146B _ dl be hE B S T rn N cap p pe L d 0 z ⟨fun _=>0,s1,t1,p + 2,ps + 2,0,0,false,0,0,0,0,203,false,0,0⟩ (z.ini _ _ _ _) ⟨hx,by dsimp only; omega⟩ 120 1 0 0 bo bc brn hbc hbc2 hbr (fun _=>0) w0 hw0) [0,1,2,3,4,5,6,7,8,9,10,16,17,18,19,20,21,24,23,12,13,14] rfl rfl rfl rfl ?_)
 intro ⟨⟨⟨n,E2,w2,eof2,o2,l2,c2,er⟩,ya,yb,yc,yd⟩,w⟩ hy
 obtain ⟨rfl,hp2,hs2,hw2⟩:=hy
 dsimp only at hp2 hs2 hw2 ⊢
 refine wL [7,10,42] rfl ?_
 refine wF [6,7,10] (GK.code ?_)
 refine GL.seqR ?_
 refine lK 1 [6,7,45] ?_
 refine GL.op rfl (cR rfl (f147b _ E2) [25,24] rfl rfl rfl rfl fun _ _=>?_)
 refine gF [6,7] rfl ?_
 refine lF [6,7] (GK.code ?_)
 refine GC.ret ?_
 refine GK.popR (.inr rfl) rfl (f120 _ be hE B rn N cap 0 _ w2 o2 l2 c2 ya yb yc yd).toR [0,1,2,3,4,5,6,7,8,9,10,16,17,18,19,20,21,14,15] rfl rfl rfl fun _ _=>?_
 refine GK.force [6,7] rfl ?_
 refine GK.popR (.inl rfl) rfl (f144 _ be hE B rn N cap 0 _ w2 o2 l2 c2 ya yb yc yd).toR [0,1,2,3,4,5,6,7,8,9,10,16,17,18,19,20,21,14] rfl rfl rfl fun _ _=>?_
 refine GK.force [6,7] rfl ?_
 rw [hp2]
 refine fD (.inl rfl) rfl (by trivial) ((w2.s,w2.t,w2.ps,w)) [0,1,2,3,4,5,6,7,8,9,10,11,12,13,14] rfl rfl rfl rfl (⟨hp2 ▸ hs2.1,by have:=hs2.2; dsimp only; omega,hw2⟩)
theorem m101sB : IsMeth Tryz.prog 101 "Sum32" 259:=fun v w=>by kernel_rfl
theorem f75B (μ) (dl : Int) (be : Nat × Nat) (hE : muAt μ 0 0 = some (EOFv be)) (B S T : Nat → Int) (rn N cap p pe L ps kd ho : Nat) (s : RdI) (t : WI) (d : Dat B rn N cap) (z : Zs B T N p L pe) (h : Sr B S N p ps s t) (hdl : (ps : Int) - (p : Int) = dl) (oo : Int) (bo bc brn : Nat) (hbc : L ≤ bc) (hbc2 : bc < 9223372036854775808) (hbr : bo + bc ≤ brn) (w0 : Nat × (Nat → Int)) (hw0 : w0.1 = 0) :
  FunC Tryz.prog μ 75 [.ptr 11 0,.ifc 134 (.ptr 13 0)] (srG B rn N cap 15 (p : Nat) s t ++ [(11,.row (scR 0 9 10 (.ptr 12 0) 2 oo)),(12,.row (ohR kd ho L)),(13,.row (bfR (.slc 14 bo w0.1 bc) 0 0)),(14,.row ⟨.ints .u8 w0.2,brn,5⟩)]) 15 16
  (fun y : RdI × WI × Nat × Int × (Nat × (Nat → Int))=>Sr B S N (pe + 4) y.2.2.1 y.1 y.2.1 ∧ y.2.1.n = 0 ∧ (y.2.2.1 : Int) - ((pe + 4 : Nat) : Int) = dl ∧ y.2.2.2.2.1 = L)
  (fun y=>⟨.tup [.v (.int .i64 (L : Nat)),.v (.int .u32 y.2.2.2.1),.v .nilIface],srG B rn N cap 15 ((pe + 4 : Nat) : Int) y.1 y.2.1 ++ [(11,.row (scR 0 9 10 (.v (.pointer none)) 2 oo)),(12,.row (ohR kd ho L)),(13,.row (bfR (.slc 14 bo y.2.2.2.2.1 bc) 0 0)),(14,.row ⟨.ints .u8 y.2.2.2.2.2,brn,5⟩)],16⟩):=by
 dsimp only [srG,List.cons_append,List.nil_append]
 refine fE 45 Tryz.func75 fun zw zβ=>?_
 refine cF [0,1] ?_
 refine rS [0,1] ?_
 refine rS [0,1,7] ?_
 refine GC.seq ?_
 refine rS [0,1,7,12] ?_
 refine GC.condT rfl ?_
 refine rG [0,1,7] ?_
 refine GK.code ?_
 refine rS [0,1,7] ?_
 refine GL.seqR ?_
 refine lK 3 [0,24,25,26] ?_
 refine GL.op rfl (cR rfl (f115B _ dl be hE B S T rn N cap p pe L ps s t d z h hdl 2 oo bo bc brn hbc hbc2 hbr w0 hw0) [0,1,2,3,4,5,6,7,8,9,10,11,13,14,15] rfl rfl rfl rfl ?_)
 intro ⟨s1,t1,ps1,w⟩ hy
 obtain ⟨h1,h2,h3⟩:=hy
 dsimp only at h1 h2 h3 ⊢
 refine gF [0,27] rfl ?_
 refine lF [0,4,6] (GK.code ?_)
 refine GL.seqR ?_
 refine lK 4 [0,4,6,33] ?_
 refine GL.op rfl (cR rfl (f78 _ S B rn N cap ps1 _ s1 t1 h1.hw h1.hS (by have:=h1.hb; have:=h1.hp; omega)) [0,1,2,3,4,5,6,7,8,9,10,15] rfl rfl rfl rfl fun t2 ht2=>?_)
 obtain ⟨q1,n1,W1,x1,sh1⟩:=t2
 obtain ⟨⟨a1,a2,a3,a4⟩,a5⟩:=ht2
 dsimp only at a1 a2 a3 a4 a5
 dsimp only
 have h4 : Sr B S N (pe + 4) ps1 s1 ⟨q1,n1,W1,0,sh1⟩:=⟨h1.hr,⟨a1,a2,a3,a4⟩,h1.hl,h1.hS,h1.hb,h1.hp⟩
 refine gF [0,4,6] rfl ?_
 refine lF [0,4,6] (GK.code ?_)
 refine GL.seqR ?_
 refine lK 4 [0,4,6,38] ?_
 refine GL.op rfl (iR rfl rfl (m101sB) (f259 _ x1) [9] rfl rfl rfl rfl fun _ _=>?_)
 refine gF [0,4,6,39] rfl ?_
 refine lF [0,4,5,6] (GK.code ?_)
 refine GL.seqR ?_
 refine lK 4 [4,5,6,43] ?_
 refine GL.op rfl (iR rfl rfl (m113) (f256 _ x1) [9] rfl rfl rfl rfl fun _ _=>?_)
 refine gF [4,5,6] rfl ?_
 refine lF [4,5,6] (GK.code ?_)
 refine GC.ret ?_
 refine fR (.inl rfl) rfl (by trivial) ((s1,⟨q1,n1,W1,0,sh1⟩,ps1,x1,w)) [0,1,2,3,4,5,6,7,8,9,10,11,12,13,14,15] rfl rfl rfl rfl (⟨h4,a5,h2,h3⟩)
def cbN (be : Nat × Nat) (B : Nat → Int) (rn N cap : Nat) (st : Int) (L : Nat) (lr : Int) (E : Nat → Int) (Z : Row) (x : Int) (v : SV0) (eof : Bool) (i : LS) (e : Nat) (w : Unit) : GH :=
 zcV be B rn N cap 20 st Z x v eof i ++ [(17,.row ⟨.ints .u8 E,16384,5⟩),(18,.row (bnR (.ifc 134 (.ptr 19 0)) L e)),(19,.row (bfR (.v (.slice none 0 0)) 0 lr))]
structure cbNI (dl : Int) (bo : Nat) (B S T : Nat → Int) (N pe L : Nat) (v : SV0) (eof : Bool) (i : LS) (e : Nat) (w : Unit) : Prop where
 hi : lsI B T pe L e v eof i
 hs : SrD dl B S N v
 he : e ≤ L
 hW : True
set_option maxHeartbeats 16000000 in
theorem f166N (μ) (dl : Int) (be : Nat × Nat) (hE : muAt μ 0 0 = some (EOFv be)) (B S T : Nat → Int) (rn N cap pe L X : Nat) (d : Dat B rn N cap) (st : Int) (hpe : pe + 4 ≤ N) (v : SV0) (hi : lsI B T pe L 0 v false .a) (h : SrD dl B S N v) (hL : L < 1099511627776)
  (hT : ∀ j,j < L → 0 ≤ T j ∧ T j < 256) (hX : ad T L = (X : Int)) (hX2 : X < 4294967296) (h0 : B pe = ((X / 16777216 : Nat) : Int)) (h1 : B (pe + 1) = ((X / 65536 % 256 : Nat) : Int)) (h2 : B (pe + 2) = ((X / 256 % 256 : Nat) : Int)) (h3 : B (pe + 3) = ((X % 256 : Nat) : Int)) (a b c dd : Int) (lr : Int) (hL0 : L = 0) (E0 : Nat → Int) (w0 : Unit) (hw0 : True) :
  FunC Tryz.prog μ 166 [.ifc 285 (.ptr 18 0),.ifc 370 (.ptr 11 0),.slc 17 0 16384 16384] (cbN be B rn N cap st L lr E0 (zrR .nilIface a b c dd) (ad T 0) v false .a 0 w0) 20 21
  (fun y : ZO × (Unit)=>y.1.x.eof = true ∧ y.1.x.v.p = pe + 4 ∧ SrD dl B S N y.1.x.v ∧ True)
  (fun y=>⟨.tup [.v (.int .i64 (L : Nat)),.v .nilIface],cbN be B rn N cap st L lr y.1.x.E (zrR (EOFv be) y.1.a y.1.b y.1.c y.1.d) (ad T L) y.1.x.v true (.b y.1.x.o y.1.x.l y.1.x.c) L y.2,21⟩):=by
 have hN2:=d.hN2
 dsimp only [cbN,zcV,srG,List.cons_append,List.nil_append]
 refine fE 115 Tryz.func166 fun zw zβ=>?_
 refine cF [0,1,2,50,51,52,53,54,55,90,91,92] ?_
 refine rS [0,1,2,6,7,50,51,52,53,54,55,90,91,92] ?_
 refine GC.seq (GL.seqR ?_)
 refine lK 1 [0,1,2,6,7,20,50,51,52,53,54,55,90,91,92] ?_
 refine GL.vstep rfl (VStep.assertIF rfl rfl h370w (fun _=>by kernel_rfl)) rfl (GL.force [0,1,2,6,7,21,50,51,52,53,54,55,90,91,92] rfl ?_)
 refine lF [0,1,2,6,7,8,9,50,51,52,53,54,55,90,91,92] (GK.code ?_)
 refine rS [0,1,2,6,7,8,24,50,51,52,53,54,55,90,91,92] ?_
 refine GC.condF rfl (GC.skip (GK.code (GC.seq (GL.seqR ?_))))
 refine lK 1 [0,1,2,6,7,31,50,51,52,53,54,55,90,91,92] ?_
 refine GL.vstep rfl (VStep.assertIF rfl rfl h285r (fun _=>by kernel_rfl)) rfl (GL.force [0,1,2,6,7,32,50,51,52,53,54,55,90,91,92] rfl ?_)
 refine lF [0,1,2,6,7,10,11,50,51,52,53,54,55,90,91,92] (GK.code ?_)
 refine rS [0,1,2,6,7,10,35,50,51,52,53,54,55,90,91,92] ?_
 refine GC.condF rfl (GC.skip (GK.code (GC.seq (GL.seqR ?_))))
 refine lK 1 [0,1,2,6,7,41,50,51,52,53,54,55,90,91,92] ?_
 refine GL.vstep rfl (VStep.eqNilS rfl (.inl rfl) rfl rfl (by decide)) rfl (GL.force [0,1,2,6,7,42,50,51,52,53,54,55,90,91,92] rfl ?_)
 refine lF [0,1,2,6,7,42,50,51,52,53,54,55,90,91,92] (GK.code ?_)
 refine GC.condF rfl (GC.skip (GK.code (GC.seq (GC.block ?_))))
 refine GC.force [0,1,2,6,7] rfl ?_
 refine GC.loop (ι:=SV0 × Bool × LS × Nat × (Nat → Int) × (Unit) × Int × Int × Int × Int) (fun z=>cbNI dl 0 B S T N pe L z.1 z.2.1 z.2.2.1 z.2.2.2.1 z.2.2.2.2.2.1) (fun z=>L - z.2.2.2.1) (fun z=>⟨[(0,.ifc 285 (.ptr 18 0)),(1,.ifc 370 (.ptr 11 0)),(2,.slc 17 0 16384 16384),(6,.v (.int .i64 (z.2.2.2.1 : Nat))),(7,.v .nilIface)],cbN be B rn N cap st L lr z.2.2.2.2.1 (zrR .nilIface z.2.2.2.2.2.2.1 z.2.2.2.2.2.2.2.1 z.2.2.2.2.2.2.2.2.1 z.2.2.2.2.2.2.2.2.2) (ad T z.2.2.2.1) z.1 z.2.1 z.2.2.1 z.2.2.2.1 z.2.2.2.2.2.1,21,[]⟩) (v,false,.a,0,E0,w0,a,b,c,dd) ⟨hi,h,Nat.zero_le _,hw0⟩ rfl ?_
 clear hi h hw0
 rintro ⟨v,eof,i,e,E,w,qa,qb,qc,qd⟩ ⟨hi,hs,hel,hW⟩
 dsimp only at hi hs hel hW
 obtain rfl : e = 0:=by omega
 have hi0:=hi
 rcases i with _ | ⟨o0,l0,c0⟩ <;> rcases eof with _ | _
 rotate_left
 ·exact absurd hi.1 (by decide)
 all_goals
  dsimp only [cbN,zcV,srG,List.cons_append,List.nil_append]
  refine GC.force [0,1,2,6,7] rfl ?_
  refine GC.block (GL.seqR ?_)
  refine lK 2 [0,1,2,6,7,69,70,90,91,92] ?_
  refine GL.op rfl (OpW.invokeR rfl rfl (m370r) (f307 _ dl be hE B S T E rn N cap pe L 0 0 16384 16384 16384 5 X d st hpe v _ _ hi0 hs (by decide) (by decide) (by decide) (by decide) hT hX hX2 h0 h1 h2 h3 qa qb qc qd) [0,1,2,3,4,5,6,7,8,9,10,11,12,13,14,15,16,17,20] rfl rfl rfl rfl ?_)
  intro y hy
  obtain ⟨⟨n,E2,w2,eof2,o2,l2,c2,er⟩,ya,yb,yc,yd⟩:=y
  obtain ⟨hn,hEE,hs2,her⟩:=hy
  dsimp only at hn hEE hs2 her
  rcases her with ⟨rfl,hn0,hle2,hl2⟩ | ⟨rfl,rfl,hle2,hp2⟩
  rcases eof2 with _ | _
  ·omega
  ·omega
  ·intro ρ' hp
   obtain rfl:=Option.some.inj hp; clear hp
   refine gF [0,1,2,6,7,71,90,91,92] rfl ?_
   refine lF [0,1,2,6,7,15,16,90,91,92] (GK.code ?_)
   refine GC.seq ?_
   refine rS [0,1,2,6,7,15,16,75,90,91,92] ?_
   refine GC.cond rfl (fun hp=>?_) (fun hp=>?_)
   ·have hp : (0 : Int) < n:=by simpa using hp
    omega
   ·have hp : ¬ ((0 : Int) < n):=by simpa using hp
    obtain rfl : n = 0:=by omega
    subst hL0
    refine GC.skip (GK.code ?_)
    refine rS [0,1,2,6,7,16,90,91,92,108] ?_
    refine GC.condT rfl (GC.seq (GL.seqR ?_))
    refine lK 1 [6,7,16,109] ?_
    refine GL.op rfl (OpW.lstep (LStep.mu (v:=EOFv be) rfl rfl rfl rfl hE) rfl (gF [6,7,16,109,110] rfl ?_))
    refine GL.vstep rfl (VStep.eqI (r:=true) rfl (.inr rfl) rfl (fun β u v h1 h2=>by cases h1; cases h2; exact .pe be.1 be.2 rfl rfl rfl rfl)) rfl (GL.force [6,7,16,111] rfl ?_)
    refine lF [6,7,16,111] (GK.code ?_)
    refine GC.condF rfl (GC.skip (GK.code ?_))
    refine GC.exit ?_
    refine GK.code ?_
    refine rS [6,7] ?_
    refine GC.ret ?_
    refine fR (.inl rfl) rfl (by trivial) ((⟨⟨0,E2,w2,true,o2,l2,c2,EOFv be⟩,ya,yb,yc,yd⟩,())) [0,1,2,3,4,5,6,7,8,9,10,11,12,13,14,15,16,17,18,19,20] rfl rfl rfl rfl (⟨rfl,hp2,hs2,trivial⟩)
theorem f146N (μ) (dl : Int) (be : Nat × Nat) (hE : muAt μ 0 0 = some (EOFv be)) (B S T : Nat → Int) (rn N cap p pe L : Nat) (d : Dat B rn N cap) (st : Int) (z : Zs B T N p L pe) (v : SV0) (hi : lsI B T pe L 0 v false .a) (h : SrD dl B S N v) (a b c dd : Int) (lr : Int) (hL0 : L = 0) (E0 : Nat → Int) (w0 : Unit) (hw0 : True) :
  FunC Tryz.prog μ 146 [.ifc 285 (.ptr 18 0),.ifc 370 (.ptr 11 0),.slc 17 0 16384 16384] (cbN be B rn N cap st L lr E0 (zrR .nilIface a b c dd) 1 v false .a 0 w0) 20 21
  (fun y : ZO × (Unit)=>y.1.x.eof = true ∧ y.1.x.v.p = pe + 4 ∧ SrD dl B S N y.1.x.v ∧ True)
  (fun y=>⟨.tup [.v (.int .i64 (L : Nat)),.v .nilIface],cbN be B rn N cap st L lr y.1.x.E (zrR (EOFv be) y.1.a y.1.b y.1.c y.1.d) (ad T L) y.1.x.v true (.b y.1.x.o y.1.x.l y.1.x.c) L y.2,21⟩):=by
 obtain ⟨X,hX,hX2,g0,g1,g2,g3⟩:=z.hX
 have key:=f166N μ dl be hE B S T rn N cap pe L X d st z.hp v hi h z.hL z.hT hX hX2 g0 g1 g2 g3 a b c dd lr hL0 E0 w0 hw0
 rw [ad0 T] at key
 dsimp only [cbN,zcV,srG,List.cons_append,List.nil_append] at key ⊢
 refine fE 22 Tryz.func146 fun zw zβ=>?_
 refine cF [0,1,2,11,12,13] ?_
 refine rS [0,1,2,11,12,13] ?_
 refine GC.seq (GL.seqR ?_)
 refine lK 1 [0,1,2,8,11,12,13] ?_
 refine GL.vstep rfl (VStep.eqNilS rfl (.inr rfl) rfl rfl (by decide)) rfl (GL.force [0,1,2,9,11,12,13] rfl ?_)
 refine lF [0,1,2,14] (GK.code ?_)
 refine GC.condF rfl (GC.skip (GK.code (GL.seqR ?_)))
 refine lK 3 [16,17,18] ?_
 refine GL.op rfl (cR rfl (key) [0,1,2,3,4,5,6,7,8,9,10,11,12,13,14,15,16,17,18,19,20] rfl rfl rfl rfl ?_)
 intro ⟨⟨⟨n,E2,w2,eof2,o2,l2,c2,er⟩,ya,yb,yc,yd⟩,w⟩ hy
 dsimp only at hy ⊢
 refine gF [19] rfl ?_
 refine lF [6,7] (GK.code ?_)
 refine GC.ret ?_
 refine fR (.inl rfl) rfl (by trivial) ((⟨⟨n,E2,w2,eof2,o2,l2,c2,er⟩,ya,yb,yc,yd⟩,w)) [0,1,2,3,4,5,6,7,8,9,10,11,12,13,14,15,16,17,18,19,20] rfl rfl rfl rfl (hy)
set_option maxHeartbeats 16000000 in
theorem f115N (μ) (dl : Int) (be : Nat × Nat) (hE : muAt μ 0 0 = some (EOFv be)) (B S T : Nat → Int) (rn N cap p pe L ps : Nat) (s : RdI) (t : WI) (d : Dat B rn N cap) (z : Zs B T N p L pe) (h : Sr B S N p ps s t) (hdl : (ps : Int) - (p : Int) = dl) (vv oo : Int) (lr : Int) (hL0 : L = 0) (w0 : Unit) (hw0 : True) :
  FunC Tryz.prog μ 115 [.ptr 11 0,.ifc 134 (.ptr 12 0),.v (.int .i64 (L : Nat))] (srG B rn N cap 13 (p : Nat) s t ++ [(11,.row (scR 0 9 10 (.v (.pointer none)) vv oo)),(12,.row (bfR (.v (.slice none 0 0)) 0 lr))]) 13 14
  (fun y : RdI × WI × Nat × (Unit)=>Sr B S N (pe + 4) y.2.2.1 y.1 y.2.1 ∧ (y.2.2.1 : Int) - ((pe + 4 : Nat) : Int) = dl ∧ True)
  (fun y=>⟨.tup [.v (.int .i64 (L : Nat)),.v .nilIface],srG B rn N cap 13 ((pe + 4 : Nat) : Int) y.1 y.2.1 ++ [(11,.row (scR 0 9 10 (.v (.pointer none)) vv oo)),(12,.row (bfR (.v (.slice none 0 0)) 0 lr))],14⟩):=by
 have hble:=z.hb.le
 have hzp:=z.hp
 dsimp only [srG,List.cons_append,List.nil_append]
 refine Fun.enterDf (T:=tab) (ok:=tabOK) (n:=47) Tryz.func115 rfl rfl rfl rfl fun zw zβ=>?_
 refine cF [0,1,2] ?_
 refine rS [0,1,2,7] ?_
 refine GL.seqR ?_
 refine lK 5 [1,2,7,16] ?_
 refine GL.op rfl (cR rfl (f143 _ B S rn N cap p ps s t d h (by omega) z.h0 z.h1) [0,1,2,3,4,5,6,7,8,9,10,13] rfl rfl rfl rfl ?_)
 intro ⟨s1,t1⟩ hx
 dsimp only at hx ⊢
 refine gF [1,2,7,17] rfl ?_
 refine lF [1,2,7,8] (GK.code ?_)
 refine GL.seqR ?_
 refine lK 1 [1,2,7,8,20] ?_
 refine GL.op rfl (OpW.defer rfl rfl ?_)
 refine gF [1,2,7,8] rfl ?_
 refine lF [1,2,7,8] (GK.code ?_)
 refine GC.seq ?_
 refine rS [1,2,7,8,22] ?_
 refine GC.condF rfl (GC.skip (GK.code (GL.seqR ?_)))
 refine lK 2 [1,2,7,8,25] ?_
 refine GL.op rfl (OpW.defer rfl rfl ?_)
 refine gF [1,2,7,8] rfl ?_
 refine lF [1,2,7,8] (GK.code ?_)
 refine rS [1,2,7,8,9] ?_
 refine GC.seq ?_
 refine rS [1,2,7,8,9,28] ?_
 refine GC.boolS 28 true rfl (by simp) rfl ?_
 refine GC.condT rfl ?_
 refine rG [7,8,9] ?_
 refine GK.code (GL.seqR ?_)
 refine GL.op rfl (cR rfl (f145 _) [] rfl rfl rfl rfl fun _ _=>?_)
 refine gF [7,8,9,34] rfl ?_
 refine lF [7,8,9,10] (GK.code ?_)
 refine GC.seq (GC.draw [(0,0),(1,0),(3,0),(4,0),(2,1),(5,1),(6,2),(7,0),(8,0),(9,0),(10,0),(11,2)] mixed (by kernel_rfl) (by rintro _ _ _ _ ⟨_,_,_,_,h,_⟩ _ <;> cases h) ?_)
 refine wK 6 [7,10,36,38,41] ?_
 refine GW.op rfl rfl (cR rfl (f146N _ dl be hE B S T rn N cap p pe L d 0 z ⟨fun _=>0,s1,t1,p + 2,ps + 2,0,0,false,0,0,0,0,203,false,0,0⟩ (z.ini _ _ _ _) ⟨hx,by dsimp only; omega⟩ 120 1 0 0 lr hL0 (fun _=>0) w0 hw0) [0,1,2,3,4,5,6,7,8,9,10,15,16,17,18,19,20,23,22,12,13] rfl rfl rfl rfl ?_)
 intro ⟨⟨⟨n,E2,w2,eof2,o2,l2,c2,er⟩,ya,yb,yc,yd⟩,w⟩ hy
 obtain ⟨rfl,hp2,hs2,hw2⟩:=hy
 dsimp only at hp2 hs2 hw2 ⊢
 refine wL [7,10,42] rfl ?_
 refine wF [6,7,10] (GK.code ?_)
 refine GL.seqR ?_
 refine lK 1 [6,7,45] ?_
 refine GL.op rfl (cR rfl (f147b _ E2) [24,23] rfl rfl rfl rfl fun _ _=>?_)
 refine gF [6,7] rfl ?_
 refine lF [6,7] (GK.code ?_)
 refine GC.ret ?_
 refine GK.popR (.inr rfl) rfl (f120 _ be hE B rn N cap 0 _ w2 o2 l2 c2 ya yb yc yd).toR [0,1,2,3,4,5,6,7,8,9,10,15,16,17,18,19,20,13,14] rfl rfl rfl fun _ _=>?_
 refine GK.force [6,7] rfl ?_
 refine GK.popR (.inl rfl) rfl (f144 _ be hE B rn N cap 0 _ w2 o2 l2 c2 ya yb yc yd).toR [0,1,2,3,4,5,6,7,8,9,10,15,16,17,18,19,20,13] rfl rfl rfl fun _ _=>?_
 refine GK.force [6,7] rfl ?_
 rw [hp2]
 refine fD (.inl rfl) rfl (by trivial) ((w2.s,w2.t,w2.ps,w)) [0,1,2,3,4,5,6,7,8,9,10,11,12,13] rfl rfl rfl rfl (⟨hp2 ▸ hs2.1,by have:=hs2.2; dsimp only; omega,hw2⟩)
end Go.Proofs.YtebadfmnmhmfeaaGreatDoor.T
