/- What the functions of the program do, one contract each (P72, P73, P74, P75, P76, P77, P78, P79); each states its own conditions. -/
import Derived.Test.YtebadfmnmhmfeaaGreatDoorP17
namespace Go.Proofs.YtebadfmnmhmfeaaGreatDoor.T
open Go.Proofs.YtebadfmnmhmfeaaGreatDoor.Sx Go.RowKit
set_option maxRecDepth 20000
set_option linter.unusedSimpArgs false
set_option linter.unusedVariables false
set_option linter.unnecessarySimpa false
set_option linter.unusedSectionVars false
theorem Pk.lt {B : Nat → Int} {N M : Nat} {pl kd sz zp pe : Nat → Nat} {T : Nat → Nat → Int} (h : Pk B N M pl kd sz zp pe T) : ∀ (d j : Nat),j + d + 1 ≤ M → pl j < pl (j + d + 1):=by
 have step : ∀ i,i < M → pl i < pl (i + 1):=fun i hi=>by
  have h1:=(h.hd i hi).lt
  have h2:=(h.hz i hi).hb.le
  have h3:=h.hn i hi
  omega
 intro d
 induction d with
 | zero=>intro j hj; exact step j (by omega)
 | succ d ih =>
  intro j hj
  have h1:=ih j (by omega)
  have h2:=step (j + d + 1) (by omega)
  have e : j + (d + 1) + 1 = j + d + 1 + 1:=by omega
  rw [e]; omega
theorem Pk.ne {B : Nat → Int} {N M : Nat} {pl kd sz zp pe : Nat → Nat} {T : Nat → Nat → Int} (h : Pk B N M pl kd sz zp pe T) {i : Nat} (hi : i < M) : ∀ j,j < i → pl j ≠ pl i:=fun j hj=>by
 have:=h.lt (i - j - 1) j (by omega)
 rw [show j + (i - j - 1) + 1 = i from by omega] at this
 omega
theorem Ents.nat {μ : Nat → Option Obj} {b o m : Nat} {kd : Nat → Int} {a : Nat → Option Addr} {n c : Nat → Nat} {bs : Nat → Int} {sa : Nat → Option Addr} {sn sc : Nat → Nat} (h : Ents μ b o m kd a n c bs sa sn sc) (hk : ∀ j,j < m → 0 ≤ kd j) : Ents μ b o m (fun j=>(((kd j).toNat : Nat) : Int)) a n c bs sa sn sc :=
 ⟨fun j hj=>by
  have e:=h.h j hj
  have ek : (((kd j).toNat : Nat) : Int) = kd j:=by have:=hk j hj; omega
  show EntAt μ b (o + j * 4) (((kd j).toNat : Nat) : Int) _ _ _ _ _ _ _
  rw [ek]; exact e,h.l⟩
theorem head_hv {m : Nat} {B : Nat → Int} (h : ∀ j,j < 12 → B j = pkH m j) : w32 (be4 (B 4) (B (4 + 1)) (B (4 + 2)) (B (4 + 3))) = 2:=by
 rw [h 4 (by decide),h (4 + 1) (by decide),h (4 + 2) (by decide),h (4 + 3) (by decide)]; rfl
theorem head_hM {m : Nat} (hm : m ≤ 40) {B : Nat → Int} (h : ∀ j,j < 12 → B j = pkH m j) : w32 (be4 (B 8) (B (8 + 1)) (B (8 + 2)) (B (8 + 3))) = (m : Int):=by
 rw [h 8 (by decide),h (8 + 1) (by decide),h (8 + 2) (by decide),h (8 + 3) (by decide)]
 show w32 (((0 * 256 + 0) * 256 + 0) * 256 + (m : Int)) = m
 unfold w32; omega
theorem head_hP {m : Nat} {B : Nat → Int} (h : ∀ j,j < 12 → B j = pkH m j) : ∀ j,j < 4 → B j = packS j:=by
 intro j hj
 rw [h j (by omega)]
 match j,hj with
 | 0,_=>rfl
 | 1,_=>rfl
 | 2,_=>rfl
 | 3,_=>rfl
 | j + 4,h=>exact absurd h (by omega)
def Dlt (μ : Nat → Option Obj) : Prop:=Fun Tryz.prog μ 6 [] [] 0 (fun _ : Unit=>True) (fun _=>⟨.v (.bool true),[],0⟩)
theorem f3n (μ) (be : Nat × Nat) (hE0 : muAt μ 0 0 = some (EOFv be)) (hP10 : P10 μ) : Fun Tryz.prog μ 3 [.v (.slice none 0 0)] [] 0 (fun _ : Unit=>True) (fun _=>⟨.v (.bool true),[],0⟩):=by
 refine fE 90 Tryz.func3 fun zw zβ=>?_
 refine cF [0,46,47,48,49,50,69,70,71,72,73,74,75,76,79,80,81,82,83,84,85,86,87] ?_
 refine rS [0,46,47,48,49,50,69,70,71,72,73,74,75,76,79,80,81,82,83,84,85,86,87] ?_
 refine GC.seq (GL.seqR ?_)
 refine lK 1 [0,14,46,47,48,49,50,69,70,71,72,73,74,75,76,79,80,81,82,83,84,85,86,87] ?_
 refine GL.op rfl (cR rfl (f4n _) [] rfl rfl rfl rfl fun r _=>?_)
 rcases r with _ | _
 ·refine gF [0,15,46,47,48,49,50,69,70,71,72,73,74,75,76,79,80,81,82,83,84,85,86,87] rfl ?_
  refine lF [0,16,46,47,48,49,50,69,70,71,72,73,74,75,76,79,80,81,82,83,84,85,86,87] (GK.code ?_)
  refine GC.condT rfl ?_
  refine rS [2] ?_
  refine GC.ret ?_
  refine fR (.inl rfl) rfl (by trivial) () [] rfl rfl rfl rfl (trivial)
 ·refine gF [0,15,46,47,48,49,50,69,70,71,72,73,74,75,76,79,80,81,82,83,84,85,86,87] rfl ?_
  refine lF [0,16,46,47,48,49,50,69,70,71,72,73,74,75,76,79,80,81,82,83,84,85,86,87] (GK.code ?_)
  refine GC.condF rfl (GC.skip (GK.code (GC.seq (GL.seqR ?_))))
  refine lK 1 [0,17,46,47,48,49,50,69,70,71,72,73,74,75,76,79,80,81,82,83,84,85,86,87] ?_
  refine GL.op rfl (cR rfl (f5n _) [] rfl rfl rfl rfl fun _ _=>?_)
  refine gF [0,18,46,47,48,49,50,69,70,71,72,73,74,75,76,79,80,81,82,83,84,85,86,87] rfl ?_
  refine lF [0,19,46,47,48,49,50,69,70,71,72,73,74,75,76,79,80,81,82,83,84,85,86,87] (GK.code ?_)
  refine GC.condF rfl (GC.skip (GK.code (GC.seq ?_)))
  refine rS [0,21,22,23,46,47,48,49,50,69,70,71,72,73,74,75,76,79,80,81,82,83,84,85,86,87] ?_
  refine GC.block ?_
  refine GC.loop0 ?_
  refine rS [0,21,22,23,24,46,47,48,49,50,69,70,71,72,73,74,75,76,79,80,81,82,83,84,85,86,87] ?_
  refine GC.seq (GC.condF rfl ?_)
  refine GC.exit ?_
  refine GK.code (GL.seqR ?_)
  refine lK 1 [0,33,46,47,48,49,50,69,70,71,72,73,74,75,76,79,80,81,82,83,84,85,86,87] ?_
  refine GL.op rfl (cR rfl (f7n _ (fun _=>0) (fun _=>0)) [] rfl rfl rfl rfl ?_)
  intro ⟨N,cap,B,cq,PV⟩ ⟨⟨pl,zp,pe,T,p1,p2,p3,p4,p5,p6,p7,p8,p9⟩,hN,hcq⟩
  dsimp only at p1 p2 p3 p4 p5 p6 p7 p8 p9 hN hcq ⊢
  refine gF [0,34,46,47,48,49,50,69,70,71,72,73,74,75,76,79,80,81,82,83,84,85,86,87] rfl ?_
  refine lF [0,5,6,46,47,48,49,50,69,70,71,72,73,74,75,76,79,80,81,82,83,84,85,86,87] (GK.code ?_)
  refine GL.seqR ?_
  refine lK 1 [0,6,38,46,47,48,49,50,69,70,71,72,73,74,75,76,79,80,81,82,83,84,85,86,87] ?_
  refine GL.op rfl (cR rfl (f8 _ be hE0 hP10 B cap N cap ⟨hN,hN,by omega,p8⟩ 0 (by decide) pl (fun _=>0) (fun _=>0) zp pe T p1 p2 p3 (head_hP p6) (head_hv p6) (head_hM (by decide) p6) p7 p4) [0] rfl rfl rfl rfl ?_)
  intro ⟨N1,c1,tx⟩ ⟨hF,hc1⟩
  dsimp only at hF hc1 ⊢
  refine gF [0,6,39,46,47,48,49,50,69,70,71,72,73,74,75,76,79,80,81,82,83,84,85,86,87] rfl ?_
  refine lF [0,6,7,9,46,47,48,49,50,69,70,71,72,73,74,75,76,79,80,81,82,83,84,85,86,87] (GK.code ?_)
  refine GC.seq ?_
  refine rS [0,6,7,51,69,70,71,72,73,74,75,76,79,80,81,82,83,84,85,86,87] ?_
  refine GC.condF rfl (GC.skip (GK.code (GC.seq ?_)))
  refine rS [0,7,52,53,54,69,70,71,72,73,74,75,76,79,80,81,82,83,84,85,86,87] ?_
  refine GC.block ?_
  refine GC.loop0 ?_
  refine rS [0,7,52,53,54,55,69,70,71,72,73,74,75,76,79,80,81,82,83,84,85,86,87] ?_
  refine GC.seq (GC.condF rfl ?_)
  refine GC.exit ?_
  refine GK.code ?_
  refine rS [2] ?_
  refine GC.ret ?_
  refine fR (.inl rfl) rfl (by trivial) () [] rfl rfl rfl rfl (trivial)
def L3a (b o m cp i : Nat) : S:=⟨[(0,.v (.slice (some ⟨b,o,none⟩) m cp)),(21,.v (.slice (some ⟨b,o,none⟩) m cp)),(22,.v (.int .i64 m)),(23,.v (.int .i64 i))],[],0,[]⟩
def L3b (b o m cp cq c1 : Nat) (PV N1 : Nat → Value) (i : Nat) : S:=⟨[(0,.v (.slice (some ⟨b,o,none⟩) m cp)),(7,.slc 1 0 m c1),(52,.slc 0 0 m cq),(53,.v (.int .i64 m)),(54,.v (.int .i64 i))],[(0,.row ⟨.vals PV,cq * 3,37⟩),(1,.row ⟨.vals N1,c1 * 6,39⟩)],2,[]⟩
theorem pv_at {PV : Nat → Value} {x : Int} {a : Option Addr} {n c i cq : Nat} {crc : Int} (h1 : PV (i * 3) = .int .i64 x) (h2 : PV (i * 3 + 1) = .slice a n c) (h3 : PV (i * 3 + 2) = .int .u32 crc) (hc : i < cq) : ∀ q v,[Value.int .i64 x,.slice a n c,.int .u32 crc][q]? = some v → 0 + (i : Int).toNat * 3 + q < cq * 3 ∧ SV.v (PV (0 + (i : Int).toNat * 3 + q)) = .v v:=by
 intro q v hq
 rw [Int.toNat_natCast,Nat.zero_add]
 match q,hq with
 | 0,hq=>cases hq; exact ⟨by omega,congrArg SV.v h1⟩
 | 1,hq=>cases hq; exact ⟨by omega,congrArg SV.v h2⟩
 | 2,hq=>cases hq; exact ⟨by omega,congrArg SV.v h3⟩
 | q + 3,hq=>simp at hq
theorem f3m (μ) (be : Nat × Nat) (hE0 : muAt μ 0 0 = some (EOFv be)) (hP10 : P10 μ) (hD : Dlt μ) (b o m cp : Nat) (kd : Nat → Int) (a : Nat → Option Addr) (n c : Nat → Nat) (bs : Nat → Int) (sa : Nat → Option Addr) (sn sc : Nat → Nat) (hE : Ents μ b o m kd a n c bs sa sn sc) :
  Fun Tryz.prog μ 3 [.v (.slice (some ⟨b,o,none⟩) m cp)] [] 0 (fun _ : Unit=>True) (fun _=>⟨.v (.bool true),[],0⟩):=by
 have hD : Fun Tryz.prog μ 6 [] [] 0 (fun _ : Unit=>True) (fun _=>⟨.v (.bool true),[],0⟩):=hD
 have hml:=hE.l
 refine fE 90 Tryz.func3 fun zw zβ=>?_
 refine cF [0,46,47,48,49,50,69,70,71,72,73,74,75,76,79,80,81,82,83,84,85,86,87] ?_
 refine rS [0,46,47,48,49,50,69,70,71,72,73,74,75,76,79,80,81,82,83,84,85,86,87] ?_
 refine GC.seq (GL.seqR ?_)
 refine lK 1 [0,14,46,47,48,49,50,69,70,71,72,73,74,75,76,79,80,81,82,83,84,85,86,87] ?_
 refine GL.op rfl (cR rfl (f4m _ b o m cp kd a n c bs sa sn sc hE) [] rfl rfl rfl rfl fun r _=>?_)
 rcases r with _ | _
 ·refine gF [0,15,46,47,48,49,50,69,70,71,72,73,74,75,76,79,80,81,82,83,84,85,86,87] rfl ?_
  refine lF [0,16,46,47,48,49,50,69,70,71,72,73,74,75,76,79,80,81,82,83,84,85,86,87] (GK.code ?_)
  refine GC.condT rfl ?_
  refine rS [2] ?_
  refine GC.ret ?_
  refine fR (.inl rfl) rfl (by trivial) () [] rfl rfl rfl rfl (trivial)
 ·refine gF [0,15,46,47,48,49,50,69,70,71,72,73,74,75,76,79,80,81,82,83,84,85,86,87] rfl ?_
  refine lF [0,16,46,47,48,49,50,69,70,71,72,73,74,75,76,79,80,81,82,83,84,85,86,87] (GK.code ?_)
  refine GC.condF rfl (GC.skip (GK.code (GC.seq (GL.seqR ?_))))
  refine lK 1 [0,17,46,47,48,49,50,69,70,71,72,73,74,75,76,79,80,81,82,83,84,85,86,87] ?_
  refine GL.op rfl (cR rfl (f5m _ b o m cp kd a n c bs sa sn sc hE) [] rfl rfl rfl rfl fun r hr=>?_)
  rcases r with _ | _
  ·refine gF [0,18,46,47,48,49,50,69,70,71,72,73,74,75,76,79,80,81,82,83,84,85,86,87] rfl ?_
   refine lF [0,19,46,47,48,49,50,69,70,71,72,73,74,75,76,79,80,81,82,83,84,85,86,87] (GK.code ?_)
   refine GC.condT rfl (GL.seqR ?_)
   refine GL.op rfl (cR rfl (hD) [] rfl rfl rfl rfl fun _ _=>?_)
   refine gF [20] rfl ?_
   refine lF [2] (GK.code ?_)
   refine GC.ret ?_
   refine fR (.inl rfl) rfl (by trivial) () [] rfl rfl rfl rfl (trivial)
  ·refine gF [0,18,46,47,48,49,50,69,70,71,72,73,74,75,76,79,80,81,82,83,84,85,86,87] rfl ?_
   refine lF [0,19,46,47,48,49,50,69,70,71,72,73,74,75,76,79,80,81,82,83,84,85,86,87] (GK.code ?_)
   refine GC.condF rfl ?_
   obtain ⟨hm,hok⟩:=hr rfl
   refine GC.skip (GK.code (GC.seq ?_))
   refine rS [0,21,22,23,46,47,48,49,50,69,70,71,72,73,74,75,76,79,80,81,82,83,84,85,86,87] ?_
   refine GC.block ?_
   refine GC.loopE (ι:=(Nat)) (fun zi=>(fun (i : Nat)=>i ≤ m ∧ ∀ j,j < i → kd j ≤ 4) zi) (fun zi=>(fun i=>(m - i : Nat)) zi) (fun zi=>(L3a b o m cp) zi) ((0)) [] (show (fun (i : Nat)=>i ≤ m ∧ ∀ j,j < i → kd j ≤ 4) (0) from ?_) (Ent.R rfl rfl rfl rfl) ?_
   ·exact ⟨Nat.zero_le _,fun j hj=>absurd hj (Nat.not_lt_zero _)⟩
   rintro i hI
   change (fun (i : Nat)=>i ≤ m ∧ ∀ j,j < i → kd j ≤ 4) i at hI
   try dsimp only at hI
   have :=hI
   change GC _ _ _ ((L3a b o m cp) i)
   obtain ⟨hi,hk4⟩:=hI
   unfold L3a
   refine cF [0,21,22,23,46,47,48,49,50,69,70,71,72,73,74,75,76,79,80,81,82,83,84,85,86,87] ?_
   refine rS [0,21,22,23,24,46,47,48,49,50,69,70,71,72,73,74,75,76,79,80,81,82,83,84,85,86,87] ?_
   refine GC.seq ?_
   refine GC.cond rfl (fun hlt=>?_) (fun hlt=>?_)
   ·have hlt : (i : Int) < m:=by simpa using hlt
    have hlt' : i < m:=by omega
    have he:=hE.h i hlt'
    refine GC.skip (GK.code (GC.seq (GC.block (GL.seqR ?_))))
    refine lK 1 [0,21,22,23,25,46,47,48,49,50,69,70,71,72,73,74,75,76,79,80,81,82,83,84,85,86,87] ?_
    refine GL.op rfl (OpW.lstep (LStep.muA (vs:=[.int .i64 (kd i),.slice (a i) (n i) (c i),.int .i64 (bs i),.slice (sa i) (sn i) (sc i)]) rfl rfl rfl rfl rfl (fun q v hq=>by show muAt μ b (o + (i : Int).toNat * 4 + q) = some v; rw [Int.toNat_natCast]; exact he.h q v hq)) rfl (gF [0,21,22,23,26,46,47,48,49,50,69,70,71,72,73,74,75,76,79,80,81,82,83,84,85,86,87] rfl ?_))
    refine lF [0,4,21,22,23,46,47,48,49,50,69,70,71,72,73,74,75,76,79,80,81,82,83,84,85,86,87] (GK.code ?_)
    refine rS [0,21,22,23,29,46,47,48,49,50,69,70,71,72,73,74,75,76,79,80,81,82,83,84,85,86,87] ?_
    refine GC.cond rfl (fun hk5=>?_) (fun hk5=>?_)
    ·have hk5 : kd i > 4:=by simpa using hk5
     refine GL.seqR ?_
     refine GL.op rfl (cR rfl (hD) [] rfl rfl rfl rfl fun _ _=>?_)
     refine gF [30] rfl ?_
     refine lF [2] (GK.code ?_)
     refine GC.ret ?_
     refine fR (.inl rfl) rfl (by trivial) () [] rfl rfl rfl rfl (trivial)
    ·have hk5 : ¬ (kd i > 4):=by simpa using hk5
     refine GC.skip (GK.code ?_)
     refine rG [0,21,22,23,46,47,48,49,50,69,70,71,72,73,74,75,76,79,80,81,82,83,84,85,86,87] ?_
     refine GK.back (i + 1) [] (show (fun (i : Nat)=>i ≤ m ∧ ∀ j,j < i → kd j ≤ 4) (i + 1) from ?_) ?_ (Ent.R rfl rfl rfl rfl)
     ·refine ⟨hlt',fun j hj=>?_⟩
      by_cases e : j = i
      ·subst e; omega
      ·exact hk4 j (by omega)
     ·show m - (i + 1) < m - i; omega
   ·have hlt : ¬ ((i : Int) < m):=by simpa using hlt
    obtain rfl : i = m:=by omega
    have hkk : ∀ j,j < i → 1 ≤ (kd j).toNat ∧ (kd j).toNat ≤ 4 ∧ n j ≤ 1000000:=fun j hj=>by have h1:=hok j hj; have h2:=hk4 j hj; unfold okE at h1; omega
    have hE':=hE.nat (fun j hj=>by have h1:=hok j hj; unfold okE at h1; omega)
    refine GC.exit ?_
    refine GK.code (GL.seqR ?_)
    refine lK 1 [0,33,46,47,48,49,50,69,70,71,72,73,74,75,76,79,80,81,82,83,84,85,86,87] ?_
    refine GL.op rfl (cR rfl (f7m _ b o i cp (fun j=>(kd j).toNat) a n c bs sa sn sc hE' hm hkk) [] rfl rfl rfl rfl ?_)
    intro ⟨N,cap,B,cq,PV⟩ ⟨⟨pl,zp,pe,T,p1,p2,p3,p4,p5,p6,p7,p8,p9⟩,hN,hcq⟩
    dsimp only at p1 p2 p3 p4 p5 p6 p7 p8 p9 hN hcq ⊢
    refine gF [0,34,46,47,48,49,50,69,70,71,72,73,74,75,76,79,80,81,82,83,84,85,86,87] rfl ?_
    refine lF [0,5,6,46,47,48,49,50,69,70,71,72,73,74,75,76,79,80,81,82,83,84,85,86,87] (GK.code ?_)
    refine GL.seqR ?_
    refine lK 1 [0,6,38,46,47,48,49,50,69,70,71,72,73,74,75,76,79,80,81,82,83,84,85,86,87] ?_
    refine GL.op rfl (cR rfl (f8 _ be hE0 hP10 B cap N cap ⟨hN,hN,by omega,p8⟩ i hm pl (fun j=>(kd j).toNat) n zp pe T p1 p2 p3 (head_hP p6) (head_hv p6) (head_hM hm p6) p7 p4) [0] rfl rfl rfl rfl ?_)
    intro ⟨N1,c1,tx⟩ ⟨hF,hc1⟩
    dsimp only at hF hc1 ⊢
    refine gF [0,6,39,46,47,48,49,50,69,70,71,72,73,74,75,76,79,80,81,82,83,84,85,86,87] rfl ?_
    refine lF [0,6,7,9,46,47,48,49,50,69,70,71,72,73,74,75,76,79,80,81,82,83,84,85,86,87] (GK.code ?_)
    refine GC.seq ?_
    refine rS [0,6,7,51,69,70,71,72,73,74,75,76,79,80,81,82,83,84,85,86,87] ?_
    refine GC.boolS 51 false rfl (by simp) rfl ?_
    refine GC.condF rfl (GC.skip (GK.code (GC.seq ?_)))
    refine rS [0,7,52,53,54,69,70,71,72,73,74,75,76,79,80,81,82,83,84,85,86,87] ?_
    refine GC.block ?_
    refine GC.loopE (ι:=(Nat)) (fun zi=>(fun (q : Nat)=>q ≤ i) zi) (fun zi=>(fun q=>(i - q : Nat)) zi) (fun zi=>(L3b b o i cp cq c1 PV N1) zi) ((0)) [1,2] (show (fun (q : Nat)=>q ≤ i) (0) from ?_) (Ent.R rfl rfl rfl rfl) ?_
    ·exact Nat.zero_le _
    rintro q hI
    change (fun (q : Nat)=>q ≤ i) q at hI
    try dsimp only at hI
    change GC _ _ _ ((L3b b o i cp cq c1 PV N1) q)
    have hq : q ≤ i:=hI
    unfold L3b
    refine cF [0,7,52,53,54,69,70,71,72,73,74,75,76,79,80,81,82,83,84,85,86,87] ?_
    refine rS [0,7,52,53,54,55,69,70,71,72,73,74,75,76,79,80,81,82,83,84,85,86,87] ?_
    refine GC.seq ?_
    refine GC.cond rfl (fun hlt=>?_) (fun hlt=>?_)
    ·have hlt : (q : Int) < i:=by simpa using hlt
     have hlt' : q < i:=by omega
     obtain ⟨pa,pn,pc,pcrc,pv1,pv2,pv3⟩:=p9 q hlt'
     have he:=hE'.h q hlt'
     refine GC.skip (GK.code (GC.seq (GC.block (GL.seqR ?_))))
     refine lK 2 [0,7,52,53,54,56,57,69,70,71,72,73,74,75,76,79,80,81,82,83,84,85,86,87] ?_
     refine GL.op rfl (OpW.lstep (LStep.atA (vs:=[.int .i64 (pl q),.slice pa pn pc,.int .u32 pcrc]) rfl rfl rfl rfl rfl rfl (pv_at pv1 pv2 pv3 (by omega))) rfl (gF [0,7,52,53,54,56,58,69,70,71,72,73,74,75,76,79,80,81,82,83,84,85,86,87] rfl ?_))
     refine lF [0,7,10,11,52,53,54,69,70,71,72,73,74,75,76,79,80,81,82,83,84,85,86,87] (GK.code ?_)
     refine GL.seqR ?_
     refine lK 3 [0,7,10,52,53,54,60,62,69,70,71,72,73,74,75,76,79,80,81,82,83,84,85,86,87] ?_
     refine GL.op rfl (cR rfl (f9 _ N1 i c1 q hm hF hlt' hc1 (p1.ne hlt')) [1] rfl rfl rfl rfl ?_)
     intro ⟨crc,tx2⟩ _
     refine gF [0,7,10,52,53,54,63,69,70,71,72,73,74,75,76,79,80,81,82,83,84,85,86,87] rfl ?_
     refine lF [0,7,10,12,13,52,53,54,69,70,71,72,73,74,75,76,79,80,81,82,83,84,85,86,87] (GK.code ?_)
     refine GC.seq (GC.draw [(0,0),(1,0),(2,0),(3,0),(5,0),(6,0),(7,0),(8,0),(4,1),(9,1),(10,0),(11,0),(12,0),(13,0),(15,0),(16,0),(17,0),(18,0),(14,1),(19,1),(20,0),(21,0),(22,0)] mixed (by kernel_rfl) (by rintro _ _ _ _ ⟨_,_,_,_,h,_⟩ _; cases h) ?_)
     refine wK 9 [0,7,10,12,52,53,54,68,69,70,71,72,73,74,75,76,79,80,81,82,83,84,85,86,87] ?_
     refine GW.lstep rfl rfl (LStep.mu rfl rfl rfl rfl (by show muAt μ b (o + (q : Int).toNat * 4) = some (.int .i64 (((kd q).toNat : Nat) : Int)); rw [Int.toNat_natCast]; exact he.h 0 _ rfl)) rfl (GW.force [0,7,10,12,52,53,54,68,69,70,71,72,73,74,75,76,79,80,81,82,83,84,85,86,87] rfl ?_)
     refine wK 3 [0,7,10,12,52,53,54,69,70,71,72,73,74,75,76,78,79,80,81,82,83,84,85,86,87] ?_
     refine GW.spl 78 rfl rfl rfl (fun hne=>?_) (fun hne=>?_)
     ·simp at hne
     ·refine wK 6 [0,7,52,53,54,69,70,71,72,73,74,75,76,78,79,80,81,82,83,84,85,86,87] ?_
      refine GW.lstep rfl rfl (LStep.mu rfl rfl rfl rfl (by show muAt μ b (o + (q : Int).toNat * 4 + 1) = some (.slice (a q) (n q) (c q)); rw [Int.toNat_natCast]; exact he.h 1 _ rfl)) rfl (GW.force [0,7,52,53,54,69,70,71,72,73,74,75,76,78,79,80,81,82,83,84,85,86,87] rfl ?_)
      refine wF [0,7,52,53,54,69,70,71,72,73,74,75,76,79,80,81,82,83,84,85,86,87,88] (GK.code ?_)
      refine GC.boolS 88 false rfl (by simp) rfl ?_
      refine GC.condF rfl (GC.skip (GK.code ?_))
      refine rG [0,7,52,53,54,69,70,71,72,73,74,75,76,79,80,81,82,83,84,85,86,87] ?_
      refine GK.back (q + 1) [0,1] (show (fun (q : Nat)=>q ≤ i) (q + 1) from ?_) ?_ (Ent.R rfl rfl rfl rfl)
      ·show q + 1 ≤ i; omega
      ·show i - (q + 1) < i - q; omega
    ·have hlt : ¬ ((q : Int) < i):=by simpa using hlt
     refine GC.exit ?_
     refine GK.code ?_
     refine rS [2] ?_
     refine GC.ret ?_
     refine fR (.inl rfl) rfl (by trivial) () [] rfl rfl rfl rfl (trivial)
theorem f92_4 (μ) (F : Nat → Int) (off n cap rn : Nat) (hF : F off = 4) (hn : 0 < n) (hr : off + n ≤ rn) (hc : n ≤ cap) (hn2 : n < 1000) : Fun Tryz.prog μ 92 [.slc 0 off n cap] [(0,.row ⟨.ints .u8 F,rn,5⟩)] 1 (fun _ : Unit=>True) (fun _=>⟨.tup [.v (.int .u64 4),.slc 0 (offS cap 1 off 1) (n - 1) (cap - 1),.v .nilIface],[(0,.row ⟨.ints .u8 F,rn,5⟩)],1⟩):=by
 refine fE 46 Tryz.func92 fun zw zβ=>?_
 refine cF [0,36,37,38,39,40] ?_
 refine rS [0,36,37,38,39,40] ?_
 refine GC.seq ?_
 refine rS [0,10,36,37,38,39,40] ?_
 refine GC.cond rfl (fun h0=>?_) (fun h0=>?_)
 ·have h0 : (n : Int) = 0:=by simpa using h0
  omega
 ·have h0 : ¬ ((n : Int) = 0):=by simpa using h0
  refine GC.skip (GK.code ?_)
  refine rS [0,5,6,36,37,38,39,40] ?_
  refine rS [0,5,6,36,37,38,39,40] ?_
  refine GC.seq (GC.block ?_)
  refine GC.loopU 1 ?_
  refine GC.block (GC.seq ?_)
  refine rS [0,5,6,14,36,37,38,39,40] ?_
  refine GC.condF rfl (GC.skip (GK.code (GL.seqR ?_)))
  refine lK 3 [0,5,6,19,36,37,38,39,40] ?_
  refine GL.op rfl (OpW.lstep (LStep.at rfl rfl rfl rfl rfl (by show off + 0 * 1 < rn; omega) (by show SV.v (.int .u8 (F (off + 0 * 1))) = .v (.int .u8 4); rw [Nat.zero_mul,Nat.add_zero,hF])) rfl (gF [0,5,6,20,36,37,38,39,40] rfl ?_))
  refine lF [0,5,6,7,36,37,38,39,40] (GK.code ?_)
  refine rS [0,5,6,7,36,37,38,39,40] ?_
  refine rS [0,5,6,7,36,37,38,39,40] ?_
  refine GL.seqR ?_
  refine lK 5 [0,5,6,35,36,37,38,39,40] ?_
  refine lF [0,5,6,36,37,38,39,40,41] (GK.code ?_)
  refine GC.condT rfl ?_
  refine GC.exit ?_
  refine GK.code ?_
  refine GC.seq (GC.draw [(0,0),(1,0),(2,0),(3,0),(4,0),(5,0),(6,0)] mixed (by kernel_rfl) (by rintro _ _ _ _ ⟨_,_,_,_,h,_⟩ _; cases h) ?_)
  refine wF [2,3,4] (GK.code ?_)
  refine GC.ret ?_
  refine fR (.inl rfl) rfl (by trivial) () [0] rfl rfl rfl rfl (trivial)
theorem f92_6 (μ) (F : Nat → Int) (off n cap rn : Nat) (hF : F off = 6) (hn : 0 < n) (hr : off + n ≤ rn) (hc : n ≤ cap) (hn2 : n < 1000) : Fun Tryz.prog μ 92 [.slc 0 off n cap] [(0,.row ⟨.ints .u8 F,rn,5⟩)] 1 (fun _ : Unit=>True) (fun _=>⟨.tup [.v (.int .u64 6),.slc 0 (offS cap 1 off 1) (n - 1) (cap - 1),.v .nilIface],[(0,.row ⟨.ints .u8 F,rn,5⟩)],1⟩):=by
 refine fE 46 Tryz.func92 fun zw zβ=>?_
 refine cF [0,36,37,38,39,40] ?_
 refine rS [0,36,37,38,39,40] ?_
 refine GC.seq ?_
 refine rS [0,10,36,37,38,39,40] ?_
 refine GC.cond rfl (fun h0=>?_) (fun h0=>?_)
 ·have h0 : (n : Int) = 0:=by simpa using h0
  omega
 ·have h0 : ¬ ((n : Int) = 0):=by simpa using h0
  refine GC.skip (GK.code ?_)
  refine rS [0,5,6,36,37,38,39,40] ?_
  refine rS [0,5,6,36,37,38,39,40] ?_
  refine GC.seq (GC.block ?_)
  refine GC.loopU 1 ?_
  refine GC.block (GC.seq ?_)
  refine rS [0,5,6,14,36,37,38,39,40] ?_
  refine GC.condF rfl (GC.skip (GK.code (GL.seqR ?_)))
  refine lK 3 [0,5,6,19,36,37,38,39,40] ?_
  refine GL.op rfl (OpW.lstep (LStep.at rfl rfl rfl rfl rfl (by show off + 0 * 1 < rn; omega) (by show SV.v (.int .u8 (F (off + 0 * 1))) = .v (.int .u8 6); rw [Nat.zero_mul,Nat.add_zero,hF])) rfl (gF [0,5,6,20,36,37,38,39,40] rfl ?_))
  refine lF [0,5,6,7,36,37,38,39,40] (GK.code ?_)
  refine rS [0,5,6,7,36,37,38,39,40] ?_
  refine rS [0,5,6,7,36,37,38,39,40] ?_
  refine GL.seqR ?_
  refine lK 5 [0,5,6,35,36,37,38,39,40] ?_
  refine lF [0,5,6,36,37,38,39,40,41] (GK.code ?_)
  refine GC.condT rfl ?_
  refine GC.exit ?_
  refine GK.code ?_
  refine GC.seq (GC.draw [(0,0),(1,0),(2,0),(3,0),(4,0),(5,0),(6,0)] mixed (by kernel_rfl) (by rintro _ _ _ _ ⟨_,_,_,_,h,_⟩ _; cases h) ?_)
  refine wF [2,3,4] (GK.code ?_)
  refine GC.ret ?_
  refine fR (.inl rfl) rfl (by trivial) () [0] rfl rfl rfl rfl (trivial)
theorem f93t (μ) : Fun Tryz.prog μ 93 [.v (.int .u8 144)] [] 0 (fun _ : Unit=>True) (fun _=>⟨.v (.bool true),[],0⟩):=by
 refine fE 6 Tryz.func93 fun zw zβ=>?_
 refine cF [0] ?_
 refine rS [0] ?_
 refine rS [2] ?_
 refine GC.ret ?_
 refine fR (.inl rfl) rfl (by trivial) () [] rfl rfl rfl rfl (trivial)
theorem f93f (μ) : Fun Tryz.prog μ 93 [.v (.int .u8 2)] [] 0 (fun _ : Unit=>True) (fun _=>⟨.v (.bool false),[],0⟩):=by
 refine fE 6 Tryz.func93 fun zw zβ=>?_
 refine cF [0] ?_
 refine rS [0] ?_
 refine rS [2] ?_
 refine GC.ret ?_
 refine fR (.inl rfl) rfl (by trivial) () [] rfl rfl rfl rfl (trivial)
theorem f96_46 (μ) : Fun Tryz.prog μ 96 [.v (.int .u64 4),.v (.int .u64 6)] [] 0 (fun _ : Unit=>True) (fun _=>⟨.v (.bool false),[],0⟩):=by
 refine fE 8 Tryz.func96 fun zw zβ=>?_
 refine cF [0,1] ?_
 refine rS [0,1] ?_
 refine rS [4] ?_
 refine GC.ret ?_
 refine fR (.inl rfl) rfl (by trivial) () [] rfl rfl rfl rfl (trivial)
theorem f96_22 (μ) : Fun Tryz.prog μ 96 [.v (.int .u64 2),.v (.int .u64 2)] [] 0 (fun _ : Unit=>True) (fun _=>⟨.v (.bool false),[],0⟩):=by
 refine fE 8 Tryz.func96 fun zw zβ=>?_
 refine cF [0,1] ?_
 refine rS [0,1] ?_
 refine rS [4] ?_
 refine GC.ret ?_
 refine fR (.inl rfl) rfl (by trivial) () [] rfl rfl rfl rfl (trivial)
theorem f131_04 (μ) : Fun Tryz.prog μ 131 [.v (.int .u64 0),.v (.int .u64 4)] [] 0 (fun _ : Unit=>True) (fun _=>⟨.v (.bool false),[],0⟩):=by
 refine fE 10 Tryz.func131 fun zw zβ=>?_
 refine cF [0,1] ?_
 refine rS [0,1] ?_
 refine rS [4] ?_
 refine GC.ret ?_
 refine fR (.inl rfl) rfl (by trivial) () [] rfl rfl rfl rfl (trivial)
theorem f97 (μ) : Fun Tryz.prog μ 97 [.v (.int .u64 0),.v (.int .u64 4),.v (.int .u64 4)] [] 0 (fun _ : Unit=>True) (fun _=>⟨.v (.bool false),[],0⟩):=by
 refine fE 17 Tryz.func97 fun zw zβ=>?_
 refine cF [0,1,2,11,12,13,14,15] ?_
 refine rS [0,1,2,11,12,13,14,15] ?_
 refine GL.seqR ?_
 refine lK 2 [0,1,2,7,8,11,12,13,14,15] ?_
 refine GL.op rfl (cR rfl (f131_04 _) [] rfl rfl rfl rfl fun _ _=>?_)
 refine gF [0,1,2,9,11,12,13,14,15] rfl ?_
 refine lF [6] (GK.code ?_)
 refine GC.ret ?_
 refine fR (.inl rfl) rfl (by trivial) () [] rfl rfl rfl rfl (trivial)
theorem f99t (μ) : Fun Tryz.prog μ 99 [.v (.int .u8 2)] [] 0 (fun _ : Unit=>True) (fun _=>⟨.v (.bool true),[],0⟩):=by
 refine fE 10 Tryz.func99 fun zw zβ=>?_
 refine cF [0,7,8] ?_
 refine rS [0,7,8] ?_
 refine rS [2] ?_
 refine GC.ret ?_
 refine fR (.inl rfl) rfl (by trivial) () [] rfl rfl rfl rfl (trivial)
structure Tbl (μ : Nat → Option Obj) (g b o n c : Nat) (mask shift : Nat → Int) : Prop where
 hg : muAt μ g 0 = some (.slice (some ⟨b,o,none⟩) n c)
 hv : ∀ k,k < n → ∀ q v,[Value.int .u8 (mask k),.int .u64 (shift k)][q]? = some v → muAt μ b (o + k * 2 + q) = some v
def mkO : Nat → Int
 | 0=>1
 | 1=>2
 | 2=>4
 | _=>8
def mkS : Nat → Int
 | 0=>16
 | 1=>32
 | _=>64
def shO : Nat → Int
 | 0=>0
 | 1=>8
 | 2=>16
 | _=>24
theorem f94 (μ) (b o c : Nat) (h : Tbl μ 12 b o 4 c mkO shO) (F : Nat → Int) (off n cap rn : Nat) : Fun Tryz.prog μ 94 [.v (.int .u8 144),.slc 0 off n cap] [(0,.row ⟨.ints .u8 F,rn,5⟩)] 1 (fun _ : Unit=>True) (fun _=>⟨.tup [.v (.int .u64 0),.slc 0 off n cap,.v .nilIface],[(0,.row ⟨.ints .u8 F,rn,5⟩)],1⟩):=by
 refine fE 39 Tryz.func94 fun zw zβ=>?_
 refine cF [0,1] ?_
 refine rS [0,1] ?_
 refine rS [0,1,7] ?_
 refine GC.seq (GL.seqR ?_)
 refine GL.op rfl (OpW.lstep (LStep.mu rfl rfl rfl rfl h.hg) rfl (gF [0,1,7,10] rfl ?_))
 refine lF [0,1,7,10,11,12] (GK.code ?_)
 refine GC.block ?_
 refine GC.loopU 5 ?_
 refine rS [0,1,7,10,11,12,13] ?_
 refine GC.seq (GC.condT rfl (GC.skip (GK.code (GC.seq (GC.block (GL.seqR ?_))))))
 refine lK 1 [0,1,7,10,11,12,14] ?_
 refine GL.op rfl (OpW.lstep (LStep.muA (vs:=[.int .u8 1,.int .u64 0]) rfl rfl rfl rfl rfl (fun q v hq=>h.hv 0 (by decide) q v hq)) rfl (gF [0,1,7,10,11,12,15] rfl ?_))
 refine lF [0,1,7,9,10,11,12] (GK.code ?_)
 refine rS [0,1,7,9,10,11,12,20] ?_
 refine GC.condF rfl (GC.skip (GK.code ?_))
 refine rG [0,1,7,10,11,12] ?_
 refine GK.itr ?_
 refine rS [0,1,7,10,11,12,13] ?_
 refine GC.seq (GC.condT rfl (GC.skip (GK.code (GC.seq (GC.block (GL.seqR ?_))))))
 refine lK 1 [0,1,7,10,11,12,14] ?_
 refine GL.op rfl (OpW.lstep (LStep.muA (vs:=[.int .u8 2,.int .u64 8]) rfl rfl rfl rfl rfl (fun q v hq=>h.hv 1 (by decide) q v hq)) rfl (gF [0,1,7,10,11,12,15] rfl ?_))
 refine lF [0,1,7,9,10,11,12] (GK.code ?_)
 refine rS [0,1,7,9,10,11,12,20] ?_
 refine GC.condF rfl (GC.skip (GK.code ?_))
 refine rG [0,1,7,10,11,12] ?_
 refine GK.itr ?_
 refine rS [0,1,7,10,11,12,13] ?_
 refine GC.seq (GC.condT rfl (GC.skip (GK.code (GC.seq (GC.block (GL.seqR ?_))))))
 refine lK 1 [0,1,7,10,11,12,14] ?_
 refine GL.op rfl (OpW.lstep (LStep.muA (vs:=[.int .u8 4,.int .u64 16]) rfl rfl rfl rfl rfl (fun q v hq=>h.hv 2 (by decide) q v hq)) rfl (gF [0,1,7,10,11,12,15] rfl ?_))
 refine lF [0,1,7,9,10,11,12] (GK.code ?_)
 refine rS [0,1,7,9,10,11,12,20] ?_
 refine GC.condF rfl (GC.skip (GK.code ?_))
 refine rG [0,1,7,10,11,12] ?_
 refine GK.itr ?_
 refine rS [0,1,7,10,11,12,13] ?_
 refine GC.seq (GC.condT rfl (GC.skip (GK.code (GC.seq (GC.block (GL.seqR ?_))))))
 refine lK 1 [0,1,7,10,11,12,14] ?_
 refine GL.op rfl (OpW.lstep (LStep.muA (vs:=[.int .u8 8,.int .u64 24]) rfl rfl rfl rfl rfl (fun q v hq=>h.hv 3 (by decide) q v hq)) rfl (gF [0,1,7,10,11,12,15] rfl ?_))
 refine lF [0,1,7,9,10,11,12] (GK.code ?_)
 refine rS [0,1,7,9,10,11,12,20] ?_
 refine GC.condF rfl (GC.skip (GK.code ?_))
 refine rG [0,1,7,10,11,12] ?_
 refine GK.itr ?_
 refine rS [0,1,7,10,11,12,13] ?_
 refine GC.seq (GC.condF rfl ?_)
 refine GC.exit ?_
 refine GK.code ?_
 refine rS [4,5,6] ?_
 refine GC.ret ?_
 refine fR (.inl rfl) rfl (by trivial) () [0] rfl rfl rfl rfl (trivial)
theorem f95 (μ) (b o c : Nat) (h : Tbl μ 13 b o 3 c mkS shO) (F : Nat → Int) (off n cap rn : Nat) (hF : F off = 4) (hn : 0 < n) (hr : off + n ≤ rn) (hc : n ≤ cap) : Fun Tryz.prog μ 95 [.v (.int .u8 144),.slc 0 off n cap] [(0,.row ⟨.ints .u8 F,rn,5⟩)] 1 (fun _ : Unit=>True) (fun _=>⟨.tup [.v (.int .u64 4),.slc 0 (offS cap 1 off 1) (n - 1) (cap - 1),.v .nilIface],[(0,.row ⟨.ints .u8 F,rn,5⟩)],1⟩):=by
 refine fE 41 Tryz.func95 fun zw zβ=>?_
 refine cF [0,1] ?_
 refine rS [0,1] ?_
 refine rS [0,1,7] ?_
 refine GC.seq (GL.seqR ?_)
 refine GL.op rfl (OpW.lstep (LStep.mu rfl rfl rfl rfl h.hg) rfl (gF [0,1,7,10] rfl ?_))
 refine lF [0,1,7,10,11,12] (GK.code ?_)
 refine GC.block ?_
 refine GC.loopU 4 ?_
 refine rS [0,1,7,10,11,12,13] ?_
 refine GC.seq (GC.condT rfl (GC.skip (GK.code (GC.seq (GC.block (GL.seqR ?_))))))
 refine lK 1 [0,1,7,10,11,12,14] ?_
 refine GL.op rfl (OpW.lstep (LStep.muA (vs:=[.int .u8 16,.int .u64 0]) rfl rfl rfl rfl rfl (fun q v hq=>h.hv 0 (by decide) q v hq)) rfl (gF [0,1,7,10,11,12,15] rfl ?_))
 refine lF [0,1,7,9,10,11,12] (GK.code ?_)
 refine rS [0,1,7,9,10,11,12,20] ?_
 refine GC.condT rfl (GC.seq ?_)
 refine rS [0,1,7,9,10,11,12,23] ?_
 refine GC.cond rfl (fun h0=>?_) (fun h0=>?_)
 ·have h0 : (n : Int) = 0:=by simpa using h0
  omega
 ·have h0 : ¬ ((n : Int) = 0):=by simpa using h0
  refine GC.skip (GK.code ?_)
  refine GC.seq (GC.draw [(0,0),(1,0),(2,0),(5,0),(3,1),(4,0),(6,1),(7,0),(8,0),(9,0)] mixed (by kernel_rfl) (by rintro _ _ _ _ ⟨_,_,_,_,h,_⟩ _; cases h) ?_)
  refine wK 4 [0,1,10,11,12,25,27,30] ?_
  refine GW.lstep rfl rfl (LStep.at rfl rfl rfl rfl rfl (by show off + 0 * 1 < rn; omega) (by show SV.v (.int .u8 (F (off + 0 * 1))) = .v (.int .u8 4); rw [Nat.zero_mul,Nat.add_zero,hF])) rfl (GW.force [0,1,10,11,12,25,28,30] rfl ?_)
  refine wF [0,1,7,10,11,12] (GK.code ?_)
  refine rG [0,1,7,10,11,12] ?_
  refine GK.code ?_
  refine rG [0,1,7,10,11,12] ?_
  refine GK.itr ?_
  refine rS [0,1,7,10,11,12,13] ?_
  refine GC.seq (GC.condT rfl (GC.skip (GK.code (GC.seq (GC.block (GL.seqR ?_))))))
  refine lK 1 [0,1,7,10,11,12,14] ?_
  refine GL.op rfl (OpW.lstep (LStep.muA (vs:=[.int .u8 32,.int .u64 8]) rfl rfl rfl rfl rfl (fun q v hq=>h.hv 1 (by decide) q v hq)) rfl (gF [0,1,7,10,11,12,15] rfl ?_))
  refine lF [0,1,7,9,10,11,12] (GK.code ?_)
  refine rS [0,1,7,9,10,11,12,20] ?_
  refine GC.condF rfl (GC.skip (GK.code ?_))
  refine rG [0,1,7,10,11,12] ?_
  refine GK.itr ?_
  refine rS [0,1,7,10,11,12,13] ?_
  refine GC.seq (GC.condT rfl (GC.skip (GK.code (GC.seq (GC.block (GL.seqR ?_))))))
  refine lK 1 [0,1,7,10,11,12,14] ?_
  refine GL.op rfl (OpW.lstep (LStep.muA (vs:=[.int .u8 64,.int .u64 16]) rfl rfl rfl rfl rfl (fun q v hq=>h.hv 2 (by decide) q v hq)) rfl (gF [0,1,7,10,11,12,15] rfl ?_))
  refine lF [0,1,7,9,10,11,12] (GK.code ?_)
  refine rS [0,1,7,9,10,11,12,20] ?_
  refine GC.condF rfl (GC.skip (GK.code ?_))
  refine rG [0,1,7,10,11,12] ?_
  refine GK.itr ?_
  refine rS [0,1,7,10,11,12,13] ?_
  refine GC.seq (GC.condF rfl ?_)
  refine GC.exit ?_
  refine GK.code (GC.seq ?_)
  refine rS [1,7,38] ?_
  refine GC.condF rfl (GC.skip (GK.code ?_))
  refine rS [4,5,6] ?_
  refine GC.ret ?_
  refine fR (.inl rfl) rfl (by trivial) () [0] rfl rfl rfl rfl (trivial)
theorem f98x (μ) {fe : Nat} (F G : Nat → Int) (o l c rn off m cap prn : Nat) (bo lr : Int) (hl : l + m ≤ c) (hc : c < 9223372036854775808) (hr : o + c ≤ rn) (hp : off + m ≤ prn) (hm0 : 0 < m) : Fun Tryz.prog μ 98 [.ptr 0 0,.slc 2 off m cap] [(0,.row (bfR (.slc 1 o l c) bo lr)),(1,.row ⟨.ints .u8 F,rn,5⟩),(2,.row ⟨.ints .u8 G,prn,fe⟩)] 3
  (fun F' : Nat → Int=>(∀ j,j < l → F' (o + j) = F (o + j)) ∧ ∀ j,j < m → F' (o + l + j) = G (off + j)) (fun F'=>⟨.tup [.v (.int .i64 m),.v .nilIface],[(0,.row (bfR (.slc 1 o (l + m) c) bo 0)),(1,.row ⟨.ints .u8 F',rn,5⟩),(2,.row ⟨.ints .u8 G,prn,fe⟩)],3⟩):=by
 have e0 : offS c l o 1 = o + l:=by rw [offS_ne (by omega),Nat.mul_one]
 refine fE 32 Tryz.func98 fun zw zβ=>?_
 refine cF [0,1] ?_
 refine rS [0,1] ?_
 refine rS [0,1] ?_
 refine GL.seqR ?_
 refine lK 3 [0,1,12,14] ?_
 refine GL.op rfl (cR rfl (f132s _ F o l c rn m bo 0 hl hc) [0,1] rfl rfl rfl rfl fun _ _=>?_)
 refine gF [0,1,15] rfl ?_
 refine lF [0,1,6,7] (GK.code ?_)
 refine GC.seq ?_
 refine rS [0,1,6,19] ?_
 refine GC.condF rfl ?_
 have ho:=offS_lt (cap:=c) (l:=l) (o:=o) (by omega)
 refine GC.skip (GK.code (GL.seqR ?_))
 refine lK 7 [29,30] ?_
 rw [Int.toNat_natCast]
 refine GL.op rfl (OpW.copyI (m:=m) (N:=fun j=>G (off + j)) rfl rfl rfl rfl rfl rfl (by omega) (src_slc rfl rfl (by show off + m * 1 ≤ prn; omega) (fun j hj=>rfl)) rfl ?_)
 rw [show min m (l + m - l) = m from by omega]
 refine gF [31] rfl ?_
 refine lF [4,5] (GK.code ?_)
 refine GC.ret ?_
 refine fR (.inl rfl) rfl (by trivial) ((cpI F (fun j=>G (off + j)) (offS c l o 1) m)) [0,1,2] rfl rfl rfl rfl (⟨fun j hj=>(by rw [e0]; unfold cpI; rw [if_neg (by omega)]),fun j hj=>(by rw [e0]; unfold cpI; rw [if_pos (by omega)]; congr 1; omega)⟩)
theorem f54 (μ) (b1 o1 c1 b2 o2 c2 : Nat) (t1 : Tbl μ 12 b1 o1 4 c1 mkO shO) (t2 : Tbl μ 13 b2 o2 3 c2 mkS shO) (S D : Nat → Int) (sc dc : Nat) (hs : 4 ≤ sc) (hd : 7 ≤ dc) (hd2 : dc < 9223372036854775808) (hs2 : sc < 9223372036854775808) (d0 : D 0 = 4) (d1 : D 1 = 6) (d2 : D 2 = 144) (d3 : D 3 = 4) (d4 : D 4 = 2) (d5 : D 5 = 45) (d6 : D 6 = 33) :
  FunC Tryz.prog μ 54 [.ptr 0 0,.slc 1 0 4 sc,.slc 2 0 7 dc] [(0,.row (bfR (.v (.slice none 0 0)) 0 0)),(1,.row ⟨.ints .u8 S,sc,5⟩),(2,.row ⟨.ints .u8 D,dc,5⟩)] 3 3
  (fun x : Nat × Nat × Nat × (Nat → Int)=>x.1 + x.2.1 ≤ x.2.2.1 ∧ 6 ≤ x.2.1 ∧ (∀ j,j < 4 → x.2.2.2 (x.1 + j) = S j) ∧ ∀ j,j < 2 → x.2.2.2 (x.1 + 4 + j) = D (5 + j)) (fun x=>⟨.v .nilIface,[(0,.row (bfR (.slc 3 x.1 6 x.2.1) 0 0)),(3,.row ⟨.ints .u8 x.2.2.2,x.2.2.1,5⟩)],4⟩):=by
 have e1 : offS dc 1 0 1 = 1:=by rw [offS_ne (by omega)]
 have e2 : offS (dc - 1) 1 1 1 = 2:=by rw [offS_ne (by omega)]
 have e3 : offS (dc - 1 - 1) (Int.toNat 1) 2 1 = 3:=by show offS (dc - 1 - 1) 1 2 1 = 3; rw [offS_ne (by omega)]
 have e4 : offS (dc - 1 - 1 - 1) 1 3 1 = 4:=by rw [offS_ne (by omega)]
 refine fE 134 Tryz.func54 fun zw zβ=>?_
 refine cF [0,1,2,87,88,89,90] ?_
 refine rS [0,1,2,87,88,89,90] ?_ (hc:=(by (repeat' first | exact trivial | refine And.intro ?_ ?_) <;> (try simp only [w64,Int.reduceToNat,IntKind.bits,Nat.reduceLeDiff,Nat.min_eq_left,Int.reducePow,InI64,InI32]) <;> omega))
 refine GL.seqR ?_
 refine lK 1 [0,1,18,87,88,89,90] ?_ (hc:=(by (repeat' first | exact trivial | refine And.intro ?_ ?_) <;> (try simp only [w64,Int.reduceToNat,IntKind.bits,Nat.reduceLeDiff,Nat.min_eq_left,Int.reducePow,InI64,InI32]) <;> omega))
 refine GL.op rfl (cR rfl (f92_4 _ D 0 7 dc dc d0 (by decide) (by omega) (by omega) (by decide)) [2] rfl rfl rfl rfl fun _ _=>?_)
 rw [e1]
 refine gF [0,1,19,87,88,89,90] rfl ?_
 refine lF [0,1,2,7,8,87,88,89,90] (GK.code ?_) (hc:=(by (repeat' first | exact trivial | refine And.intro ?_ ?_) <;> (try simp only [w64,Int.reduceToNat,IntKind.bits,Nat.reduceLeDiff,Nat.min_eq_left,Int.reducePow,InI64,InI32]) <;> omega))
 refine GC.seq ?_
 refine rS [0,1,2,7,24,87,88,89,90] ?_ (hc:=(by (repeat' first | exact trivial | refine And.intro ?_ ?_) <;> (try simp only [w64,Int.reduceToNat,IntKind.bits,Nat.reduceLeDiff,Nat.min_eq_left,Int.reducePow,InI64,InI32]) <;> omega))
 refine GC.condF rfl (GC.skip (GK.code (GC.seq ?_)))
 refine rS [0,1,2,7,30,87,88,89,90] ?_ (hc:=(by (repeat' first | exact trivial | refine And.intro ?_ ?_) <;> (try simp only [w64,Int.reduceToNat,IntKind.bits,Nat.reduceLeDiff,Nat.min_eq_left,Int.reducePow,InI64,InI32]) <;> omega))
 refine GC.condF rfl (GC.skip (GK.code (GL.seqR ?_)))
 refine lK 1 [0,1,7,33,87,88,89,90] ?_ (hc:=(by (repeat' first | exact trivial | refine And.intro ?_ ?_) <;> (try simp only [w64,Int.reduceToNat,IntKind.bits,Nat.reduceLeDiff,Nat.min_eq_left,Int.reducePow,InI64,InI32]) <;> omega))
 refine GL.op rfl (cR rfl (f92_6 _ D 1 6 (dc - 1) dc d1 (by decide) (by omega) (by omega) (by decide)) [2] rfl rfl rfl rfl fun _ _=>?_)
 rw [e2]
 refine gF [0,1,7,34,87,88,89,90] rfl ?_
 refine lF [0,1,2,7,8,9,87,88,89,90] (GK.code ?_) (hc:=(by (repeat' first | exact trivial | refine And.intro ?_ ?_) <;> (try simp only [w64,Int.reduceToNat,IntKind.bits,Nat.reduceLeDiff,Nat.min_eq_left,Int.reducePow,InI64,InI32]) <;> omega))
 refine GC.seq ?_
 refine rS [0,1,2,7,9,39,87,88,89,90] ?_ (hc:=(by (repeat' first | exact trivial | refine And.intro ?_ ?_) <;> (try simp only [w64,Int.reduceToNat,IntKind.bits,Nat.reduceLeDiff,Nat.min_eq_left,Int.reducePow,InI64,InI32]) <;> omega))
 refine GC.condF rfl (GC.skip (GK.code ?_))
 refine rS [0,1,2,7,9,10,87,88,89,90] ?_ (hc:=(by (repeat' first | exact trivial | refine And.intro ?_ ?_) <;> (try simp only [w64,Int.reduceToNat,IntKind.bits,Nat.reduceLeDiff,Nat.min_eq_left,Int.reducePow,InI64,InI32]) <;> omega))
 refine GL.seqR ?_
 refine lK 1 [0,1,2,7,10,42,87,88,89,90] ?_ (hc:=(by (repeat' first | exact trivial | refine And.intro ?_ ?_) <;> (try simp only [w64,Int.reduceToNat,IntKind.bits,Nat.reduceLeDiff,Nat.min_eq_left,Int.reducePow,InI64,InI32]) <;> omega))
 refine GL.vstep rfl (VStep.minmax rfl rfl rfl (r:=.int .u64 6) (fun w cs=>rfl)) rfl (GL.force [0,1,2,7,10,43,87,88,89,90] rfl ?_)
 refine lF [0,1,2,7,10,11,87,88,89,90] (GK.code ?_) (hc:=(by (repeat' first | exact trivial | refine And.intro ?_ ?_) <;> (try simp only [w64,Int.reduceToNat,IntKind.bits,Nat.reduceLeDiff,Nat.min_eq_left,Int.reducePow,InI64,InI32]) <;> omega))
 refine GL.seqR ?_
 refine lK 3 [0,1,2,7,10,44,46,87,88,89,90] ?_ (hc:=(by (repeat' first | exact trivial | refine And.intro ?_ ?_) <;> (try simp only [w64,Int.reduceToNat,IntKind.bits,Nat.reduceLeDiff,Nat.min_eq_left,Int.reducePow,InI64,InI32]) <;> omega))
 refine GL.op rfl (cR rfl (f73n _ 6 0 (by decide) (by decide)) [0] rfl rfl rfl rfl ?_)
 intro ⟨o,c,rn,F0⟩ ⟨g1,g2,g3,g4⟩
 dsimp only at g1 g2 g3 g4 ⊢
 refine gF [0,1,2,7,10,87,88,89,90] rfl ?_
 refine lF [0,1,2,7,10,87,88,89,90] (GK.code ?_) (hc:=(by (repeat' first | exact trivial | refine And.intro ?_ ?_) <;> (try simp only [w64,Int.reduceToNat,IntKind.bits,Nat.reduceLeDiff,Nat.min_eq_left,Int.reducePow,InI64,InI32]) <;> omega))
 refine GC.seq (GC.block ?_)
 refine GC.loopU 3 ?_
 refine GC.seq ?_
 refine rS [0,1,2,7,10,49,87,88,89,90] ?_ (hc:=(by (repeat' first | exact trivial | refine And.intro ?_ ?_) <;> (try simp only [w64,Int.reduceToNat,IntKind.bits,Nat.reduceLeDiff,Nat.min_eq_left,Int.reducePow,InI64,InI32]) <;> omega))
 refine GC.condT rfl (GC.skip (GK.code (GC.block (GC.seq ?_))))
 refine rS [0,1,2,7,10,52,87,88,89,90] ?_ (hc:=(by (repeat' first | exact trivial | refine And.intro ?_ ?_) <;> (try simp only [w64,Int.reduceToNat,IntKind.bits,Nat.reduceLeDiff,Nat.min_eq_left,Int.reducePow,InI64,InI32]) <;> omega))
 refine GC.condF rfl (GC.skip (GK.code (GL.seqR ?_)))
 refine lK 2 [0,1,2,7,10,55,87,88,89,90] ?_ (hc:=(by (repeat' first | exact trivial | refine And.intro ?_ ?_) <;> (try simp only [w64,Int.reduceToNat,IntKind.bits,Nat.reduceLeDiff,Nat.min_eq_left,Int.reducePow,InI64,InI32]) <;> omega))
 refine GL.op rfl (OpW.lstep (LStep.at rfl rfl rfl rfl rfl (by show 2 + 0 * 1 < dc; omega) (by show SV.v (.int .u8 (D (2 + 0 * 1))) = .v (.int .u8 144); rw [d2])) rfl (gF [0,1,2,7,10,56,87,88,89,90] rfl ?_))
 refine lF [0,1,2,7,10,12,87,88,89,90] (GK.code ?_) (hc:=(by (repeat' first | exact trivial | refine And.intro ?_ ?_) <;> (try simp only [w64,Int.reduceToNat,IntKind.bits,Nat.reduceLeDiff,Nat.min_eq_left,Int.reducePow,InI64,InI32]) <;> omega))
 refine rS [0,1,2,7,10,12,87,88,89,90] ?_ (hc:=(by (repeat' first | exact trivial | refine And.intro ?_ ?_) <;> (try simp only [w64,Int.reduceToNat,IntKind.bits,Nat.reduceLeDiff,Nat.min_eq_left,Int.reducePow,InI64,InI32]) <;> omega))
 refine GC.block (GL.seqR ?_)
 refine lK 1 [0,1,2,7,10,12,61,87,88,89,90] ?_ (hc:=(by (repeat' first | exact trivial | refine And.intro ?_ ?_) <;> (try simp only [w64,Int.reduceToNat,IntKind.bits,Nat.reduceLeDiff,Nat.min_eq_left,Int.reducePow,InI64,InI32]) <;> omega))
 refine GL.op rfl (cR rfl (f93t _) [] rfl rfl rfl rfl fun _ _=>?_)
 refine gF [0,1,2,7,10,12,62,87,88,89,90] rfl ?_
 refine lF [0,1,2,7,10,12,60,87,88,89,90] (GK.code ?_) (hc:=(by (repeat' first | exact trivial | refine And.intro ?_ ?_) <;> (try simp only [w64,Int.reduceToNat,IntKind.bits,Nat.reduceLeDiff,Nat.min_eq_left,Int.reducePow,InI64,InI32]) <;> omega))
 refine GC.condT rfl ?_
 rw [e3]
 refine rS [0,1,2,7,10,12,87,88,89,90] ?_ (hc:=(by (repeat' first | exact trivial | refine And.intro ?_ ?_) <;> (try simp only [w64,Int.reduceToNat,IntKind.bits,Nat.reduceLeDiff,Nat.min_eq_left,Int.reducePow,InI64,InI32]) <;> omega))
 refine rS [0,1,2,7,10,12,87,88,89,90] ?_ (hc:=(by (repeat' first | exact trivial | refine And.intro ?_ ?_) <;> (try simp only [w64,Int.reduceToNat,IntKind.bits,Nat.reduceLeDiff,Nat.min_eq_left,Int.reducePow,InI64,InI32]) <;> omega))
 refine GL.seqR ?_
 refine lK 2 [0,1,7,10,12,64,65,87,88,89,90] ?_ (hc:=(by (repeat' first | exact trivial | refine And.intro ?_ ?_) <;> (try simp only [w64,Int.reduceToNat,IntKind.bits,Nat.reduceLeDiff,Nat.min_eq_left,Int.reducePow,InI64,InI32]) <;> omega))
 refine GL.op rfl (cR rfl (f94 _ b1 o1 c1 t1 D 3 4 (dc - 1 - 1 - 1) dc) [2] rfl rfl rfl rfl fun _ _=>?_)
 refine gF [0,1,7,10,12,66,87,88,89,90] rfl ?_
 refine lF [0,1,2,7,10,12,13,15,87,88,89,90] (GK.code ?_) (hc:=(by (repeat' first | exact trivial | refine And.intro ?_ ?_) <;> (try simp only [w64,Int.reduceToNat,IntKind.bits,Nat.reduceLeDiff,Nat.min_eq_left,Int.reducePow,InI64,InI32]) <;> omega))
 refine GC.seq ?_
 refine rS [0,1,2,7,10,12,13,15,71,87,88,89,90] ?_ (hc:=(by (repeat' first | exact trivial | refine And.intro ?_ ?_) <;> (try simp only [w64,Int.reduceToNat,IntKind.bits,Nat.reduceLeDiff,Nat.min_eq_left,Int.reducePow,InI64,InI32]) <;> omega))
 refine GC.condF rfl (GC.skip (GK.code (GL.seqR ?_)))
 refine lK 2 [0,1,7,10,13,74,75,87,88,89,90] ?_ (hc:=(by (repeat' first | exact trivial | refine And.intro ?_ ?_) <;> (try simp only [w64,Int.reduceToNat,IntKind.bits,Nat.reduceLeDiff,Nat.min_eq_left,Int.reducePow,InI64,InI32]) <;> omega))
 refine GL.op rfl (cR rfl (f95 _ b2 o2 c2 t2 D 3 4 (dc - 1 - 1 - 1) dc d3 (by decide) (by omega) (by omega)) [2] rfl rfl rfl rfl fun _ _=>?_)
 rw [e4]
 refine gF [0,1,7,10,13,76,87,88,89,90] rfl ?_
 refine lF [0,1,2,7,10,13,14,15,87,88,89,90] (GK.code ?_) (hc:=(by (repeat' first | exact trivial | refine And.intro ?_ ?_) <;> (try simp only [w64,Int.reduceToNat,IntKind.bits,Nat.reduceLeDiff,Nat.min_eq_left,Int.reducePow,InI64,InI32]) <;> omega))
 refine GC.seq ?_
 refine rS [0,1,2,7,10,13,14,15,81,87,88,89,90] ?_ (hc:=(by (repeat' first | exact trivial | refine And.intro ?_ ?_) <;> (try simp only [w64,Int.reduceToNat,IntKind.bits,Nat.reduceLeDiff,Nat.min_eq_left,Int.reducePow,InI64,InI32]) <;> omega))
 refine GC.condF rfl (GC.skip (GK.code (GC.seq (GL.seqR ?_))))
 refine lK 2 [0,1,2,7,10,13,14,83,84,87,88,89,90] ?_ (hc:=(by (repeat' first | exact trivial | refine And.intro ?_ ?_) <;> (try simp only [w64,Int.reduceToNat,IntKind.bits,Nat.reduceLeDiff,Nat.min_eq_left,Int.reducePow,InI64,InI32]) <;> omega))
 refine GL.op rfl (cR rfl (f96_46 _) [] rfl rfl rfl rfl fun _ _=>?_)
 refine gF [0,1,2,7,10,13,14,85,87,88,89,90] rfl ?_
 refine lK 4 [0,1,2,7,10,13,14,86,87,88,89,90] ?_ (hc:=(by (repeat' first | exact trivial | refine And.intro ?_ ?_) <;> (try simp only [w64,Int.reduceToNat,IntKind.bits,Nat.reduceLeDiff,Nat.min_eq_left,Int.reducePow,InI64,InI32]) <;> omega))
 refine GL.opG rfl rfl (cR rfl (f97 _) [] rfl rfl rfl rfl fun _ _=>?_)
 refine gF [0,1,2,7,10,13,14,86,87,88,89,90] rfl ?_
 refine lF [0,1,2,7,10,13,14,87,88,89,90,91] (GK.code ?_) (hc:=(by (repeat' first | exact trivial | refine And.intro ?_ ?_) <;> (try simp only [w64,Int.reduceToNat,IntKind.bits,Nat.reduceLeDiff,Nat.min_eq_left,Int.reducePow,InI64,InI32]) <;> omega))
 refine GC.condF rfl (GC.skip (GK.code (GL.seqR ?_)))
 refine lK 7 [0,1,2,7,10,14,87,88,89,90,93,99] ?_ (hc:=(by (repeat' first | exact trivial | refine And.intro ?_ ?_) <;> (try simp only [w64,Int.reduceToNat,IntKind.bits,Nat.reduceLeDiff,Nat.min_eq_left,Int.reducePow,InI64,InI32]) <;> omega))
 have e5 : offS sc 0 0 1 = 0:=by rw [offS_ne (by omega)]
 refine GL.op rfl (cR rfl (f98x _ F0 S o 0 c rn (offS sc 0 0 1) 4 sc sc 0 0 (by omega) g4 g3 (by rw [e5]; omega) (by decide)) [0,3,1] rfl rfl rfl rfl ?_)
 intro F1 ⟨k1,k2⟩
 dsimp only at k1 k2 ⊢
 refine gF [0,1,2,7,10,14,87,88,89,90] rfl ?_
 refine lF [0,1,2,7,10,14,87,88,89,90] (GK.code ?_) (hc:=(by (repeat' first | exact trivial | refine And.intro ?_ ?_) <;> (try simp only [w64,Int.reduceToNat,IntKind.bits,Nat.reduceLeDiff,Nat.min_eq_left,Int.reducePow,InI64,InI32]) <;> omega))
 refine rG [0,1,2,7,10,87,88,89,90] ?_ (hc:=(by (repeat' first | exact trivial | refine And.intro ?_ ?_) <;> (try simp only [w64,Int.reduceToNat,IntKind.bits,Nat.reduceLeDiff,Nat.min_eq_left,Int.reducePow,InI64,InI32]) <;> omega))
 refine GK.itr ?_
 refine GC.seq ?_
 refine rS [0,1,2,7,10,49,87,88,89,90] ?_ (hc:=(by (repeat' first | exact trivial | refine And.intro ?_ ?_) <;> (try simp only [w64,Int.reduceToNat,IntKind.bits,Nat.reduceLeDiff,Nat.min_eq_left,Int.reducePow,InI64,InI32]) <;> omega))
 refine GC.condT rfl (GC.skip (GK.code (GC.block (GC.seq ?_))))
 refine rS [0,1,2,7,10,52,87,88,89,90] ?_ (hc:=(by (repeat' first | exact trivial | refine And.intro ?_ ?_) <;> (try simp only [w64,Int.reduceToNat,IntKind.bits,Nat.reduceLeDiff,Nat.min_eq_left,Int.reducePow,InI64,InI32]) <;> omega))
 refine GC.condF rfl (GC.skip (GK.code (GL.seqR ?_)))
 refine lK 2 [0,1,2,7,10,55,87,88,89,90] ?_ (hc:=(by (repeat' first | exact trivial | refine And.intro ?_ ?_) <;> (try simp only [w64,Int.reduceToNat,IntKind.bits,Nat.reduceLeDiff,Nat.min_eq_left,Int.reducePow,InI64,InI32]) <;> omega))
 refine GL.op rfl (OpW.lstep (LStep.at rfl rfl rfl rfl rfl (by show 4 + 0 * 1 < dc; omega) (by show SV.v (.int .u8 (D (4 + 0 * 1))) = .v (.int .u8 2); rw [d4])) rfl (gF [0,1,2,7,10,56,87,88,89,90] rfl ?_))
 refine lF [0,1,2,7,10,12,87,88,89,90] (GK.code ?_) (hc:=(by (repeat' first | exact trivial | refine And.intro ?_ ?_) <;> (try simp only [w64,Int.reduceToNat,IntKind.bits,Nat.reduceLeDiff,Nat.min_eq_left,Int.reducePow,InI64,InI32]) <;> omega))
 refine rS [0,1,2,7,10,12,87,88,89,90] ?_ (hc:=(by (repeat' first | exact trivial | refine And.intro ?_ ?_) <;> (try simp only [w64,Int.reduceToNat,IntKind.bits,Nat.reduceLeDiff,Nat.min_eq_left,Int.reducePow,InI64,InI32]) <;> omega))
 refine GC.block (GL.seqR ?_)
 refine lK 1 [0,1,2,7,10,12,61,87,88,89,90] ?_ (hc:=(by (repeat' first | exact trivial | refine And.intro ?_ ?_) <;> (try simp only [w64,Int.reduceToNat,IntKind.bits,Nat.reduceLeDiff,Nat.min_eq_left,Int.reducePow,InI64,InI32]) <;> omega))
 have e6 : offS (dc - 1 - 1 - 1 - 1) (Int.toNat 1) 4 1 = 5:=by show offS (dc - 1 - 1 - 1 - 1) 1 4 1 = 5; rw [offS_ne (by omega)]
 rw [e6]
 refine GL.op rfl (cR rfl (f93f _) [] rfl rfl rfl rfl fun _ _=>?_)
 refine gF [0,1,2,7,10,12,62,87,88,89,90] rfl ?_
 refine lF [0,1,2,7,10,12,60,87,88,89,90] (GK.code ?_) (hc:=(by (repeat' first | exact trivial | refine And.intro ?_ ?_) <;> (try simp only [w64,Int.reduceToNat,IntKind.bits,Nat.reduceLeDiff,Nat.min_eq_left,Int.reducePow,InI64,InI32]) <;> omega))
 refine GC.condF rfl (GL.seqR ?_)
 refine lK 1 [0,1,2,7,10,12,87,88,89,90,105] ?_ (hc:=(by (repeat' first | exact trivial | refine And.intro ?_ ?_) <;> (try simp only [w64,Int.reduceToNat,IntKind.bits,Nat.reduceLeDiff,Nat.min_eq_left,Int.reducePow,InI64,InI32]) <;> omega))
 refine GL.op rfl (cR rfl (f99t _) [] rfl rfl rfl rfl fun _ _=>?_)
 refine gF [0,1,2,7,10,12,87,88,89,90,106] rfl ?_
 refine lF [0,1,2,7,10,12,87,88,89,90,104] (GK.code ?_) (hc:=(by (repeat' first | exact trivial | refine And.intro ?_ ?_) <;> (try simp only [w64,Int.reduceToNat,IntKind.bits,Nat.reduceLeDiff,Nat.min_eq_left,Int.reducePow,InI64,InI32]) <;> omega))
 refine GC.condT rfl ?_
 refine rS [0,1,2,7,10,16,87,88,89,90] ?_ (hc:=(by (repeat' first | exact trivial | refine And.intro ?_ ?_) <;> (try simp only [w64,Int.reduceToNat,IntKind.bits,Nat.reduceLeDiff,Nat.min_eq_left,Int.reducePow,InI64,InI32]) <;> omega))
 refine GC.seq (GL.seqR ?_)
 refine lK 2 [0,1,2,7,10,16,87,88,89,90,109,110] ?_ (hc:=(by (repeat' first | exact trivial | refine And.intro ?_ ?_) <;> (try simp only [w64,Int.reduceToNat,IntKind.bits,Nat.reduceLeDiff,Nat.min_eq_left,Int.reducePow,InI64,InI32]) <;> omega))
 refine GL.op rfl (cR rfl (f96_22 _) [] rfl rfl rfl rfl fun _ _=>?_)
 refine gF [0,1,2,7,10,16,87,88,89,90,111] rfl ?_
 refine lF [0,1,2,7,10,16,87,88,89,90,111] (GK.code ?_) (hc:=(by (repeat' first | exact trivial | refine And.intro ?_ ?_) <;> (try simp only [w64,Int.reduceToNat,IntKind.bits,Nat.reduceLeDiff,Nat.min_eq_left,Int.reducePow,InI64,InI32]) <;> omega))
 refine GC.condF rfl (GC.skip (GK.code (GC.seq ?_)))
 refine rS [0,1,2,7,10,16,87,88,89,90,117] ?_ (hc:=(by (repeat' first | exact trivial | refine And.intro ?_ ?_) <;> (try simp only [w64,Int.reduceToNat,IntKind.bits,Nat.reduceLeDiff,Nat.min_eq_left,Int.reducePow,InI64,InI32]) <;> omega))
 refine GC.condF rfl (GC.skip (GK.code (GL.seqR ?_)))
 refine lK 4 [0,1,2,7,10,16,87,88,89,90,119,122] ?_ (hc:=(by (repeat' first | exact trivial | refine And.intro ?_ ?_) <;> (try simp only [w64,Int.reduceToNat,IntKind.bits,Nat.reduceLeDiff,Nat.min_eq_left,Int.reducePow,InI64,InI32]) <;> omega))
 have e7 : offS (dc - 1 - 1 - 1 - 1 - 1) 0 5 1 = 5:=by rw [offS_ne (by omega)]
 refine GL.op rfl (cR rfl (f98x _ F1 D o 4 c rn (offS (dc - 1 - 1 - 1 - 1 - 1) 0 5 1) 2 (dc - 1 - 1 - 1 - 1 - 1) dc 0 0 (by omega) g4 g3 (by rw [e7]; omega) (by decide)) [0,3,2] rfl rfl rfl rfl ?_)
 intro F2 ⟨k3,k4⟩
 refine gF [0,1,2,7,10,16,87,88,89,90] rfl ?_
 refine lF [0,1,2,7,10,16,87,88,89,90] (GK.code ?_) (hc:=(by (repeat' first | exact trivial | refine And.intro ?_ ?_) <;> (try simp only [w64,Int.reduceToNat,IntKind.bits,Nat.reduceLeDiff,Nat.min_eq_left,Int.reducePow,InI64,InI32]) <;> omega))
 refine rS [0,1,2,7,10,16,87,88,89,90] ?_ (hc:=(by (repeat' first | exact trivial | refine And.intro ?_ ?_) <;> (try simp only [w64,Int.reduceToNat,IntKind.bits,Nat.reduceLeDiff,Nat.min_eq_left,Int.reducePow,InI64,InI32]) <;> omega))
 refine rG [0,1,2,7,10,87,88,89,90] ?_ (hc:=(by (repeat' first | exact trivial | refine And.intro ?_ ?_) <;> (try simp only [w64,Int.reduceToNat,IntKind.bits,Nat.reduceLeDiff,Nat.min_eq_left,Int.reducePow,InI64,InI32]) <;> omega))
 refine GK.itr ?_
 refine GC.seq ?_
 refine rS [0,1,2,7,10,49,87,88,89,90] ?_ (hc:=(by (repeat' first | exact trivial | refine And.intro ?_ ?_) <;> (try simp only [w64,Int.reduceToNat,IntKind.bits,Nat.reduceLeDiff,Nat.min_eq_left,Int.reducePow,InI64,InI32]) <;> omega))
 refine GC.condF rfl ?_
 refine GC.exit ?_
 refine GK.code (GC.seq ?_)
 refine rS [132] ?_ (hc:=(by (repeat' first | exact trivial | refine And.intro ?_ ?_) <;> (try simp only [w64,Int.reduceToNat,IntKind.bits,Nat.reduceLeDiff,Nat.min_eq_left,Int.reducePow,InI64,InI32]) <;> omega))
 refine GC.condF rfl (GC.skip (GK.code ?_))
 refine rS [6] ?_ (hc:=(by (repeat' first | exact trivial | refine And.intro ?_ ?_) <;> (try simp only [w64,Int.reduceToNat,IntKind.bits,Nat.reduceLeDiff,Nat.min_eq_left,Int.reducePow,InI64,InI32]) <;> omega))
 refine GC.ret ?_
 refine fR (.inl rfl) rfl (by (repeat' first | exact trivial | refine And.intro ?_ ?_) <;> (try simp only [w64,Int.reduceToNat,IntKind.bits,Nat.reduceLeDiff,Nat.min_eq_left,Int.reducePow,InI64,InI32]) <;> omega) ((o,c,rn,F2)) [0,1,2,3] rfl rfl rfl rfl (⟨g3,g1,fun j hj=>by show F2 (o + j) = S j; rw [k3 j (by omega)]; have:=k2 j (by omega); rw [e5,Nat.zero_add] at this; simpa using this,fun j hj=>by have:=k4 j (by omega); rw [e7] at this; exact this⟩)
theorem f55 (μ) (F : Nat → Int) (o l c rn : Nat) (hl : l ≤ c) : Fun Tryz.prog μ 55 [.ptr 0 0] [(0,.row (bfR (.slc 1 o l c) 0 0)),(1,.row ⟨.ints .u8 F,rn,5⟩)] 2 (fun _ : Unit=>True) (fun _=>⟨.slc 1 o l c,[(0,.row (bfR (.slc 1 o l c) 0 0)),(1,.row ⟨.ints .u8 F,rn,5⟩)],2⟩):=by
 refine fE 12 Tryz.func55 fun zw zβ=>?_
 refine cF [0] ?_
 refine rS [0] ?_
 refine GC.seq (GC.draw [(0,0),(1,0),(2,0),(4,0),(5,0),(6,0),(3,1),(7,1),(8,0),(9,0)] mixed (by kernel_rfl) (by rintro _ _ _ _ ⟨_,_,_,_,h,_⟩ _; cases h) ?_)
 refine wF [2] (GK.code ?_)
 refine GC.ret ?_
 rw [show offS c (Int.toNat 0) o 1 = o from offS_zero c o 1]
 refine fR (.inl rfl) rfl (by trivial) () [0,1] rfl rfl rfl rfl (trivial)
theorem f33 (μ) (b1 o1 c1 b2 o2 c2 : Nat) (t1 : Tbl μ 12 b1 o1 4 c1 mkO shO) (t2 : Tbl μ 13 b2 o2 3 c2 mkS shO) (S D : Nat → Int) (sc dc : Nat) (hs : 4 ≤ sc) (hd : 7 ≤ dc) (hd2 : dc < 9223372036854775808) (hs2 : sc < 9223372036854775808) (d0 : D 0 = 4) (d1 : D 1 = 6) (d2 : D 2 = 144) (d3 : D 3 = 4) (d4 : D 4 = 2) (d5 : D 5 = 45) (d6 : D 6 = 33) :
  Fun Tryz.prog μ 33 [.slc 0 0 4 sc,.slc 1 0 7 dc] [(0,.row ⟨.ints .u8 S,sc,5⟩),(1,.row ⟨.ints .u8 D,dc,5⟩)] 2
  (fun x : Nat × Nat × Nat × (Nat → Int)=>x.1 + x.2.1 ≤ x.2.2.1 ∧ 6 ≤ x.2.1 ∧ (∀ j,j < 4 → x.2.2.2 (x.1 + j) = S j) ∧ ∀ j,j < 2 → x.2.2.2 (x.1 + 4 + j) = D (5 + j)) (fun x=>⟨.tup [.slc 2 x.1 6 x.2.1,.v .nilIface],[(2,.row ⟨.ints .u8 x.2.2.2,x.2.2.1,5⟩)],3⟩):=by
 refine fE 28 Tryz.func33 fun zw zβ=>?_
 refine cF [0,1,12,13,14] ?_
 refine rS [0,1,12,13,14] ?_
 refine GC.seq ?_
 refine rS [0,1,15] ?_
 refine GC.condF rfl (GC.skip (GK.code ?_))
 refine rS [0,1,6] ?_
 refine GC.seq (GL.seqR ?_)
 refine lK 3 [6,19,20,21] ?_
 refine GL.op rfl (cR rfl (f54 _ b1 o1 c1 b2 o2 c2 t1 t2 S D sc dc hs hd hd2 hs2 d0 d1 d2 d3 d4 d5 d6) [2,0,1] rfl rfl rfl rfl ?_)
 intro ⟨o,c,rn,F⟩ ⟨g1,g2,g3,g4⟩
 dsimp only at g1 g2 g3 g4 ⊢
 refine gF [6,22] rfl ?_
 refine lF [6,7] (GK.code ?_)
 refine rS [6,7,24] ?_
 refine GC.condF rfl (GC.skip (GK.code (GL.seqR ?_)))
 refine lK 1 [26] ?_
 refine GL.op rfl (cR rfl (f55 _ F o 6 c rn g2) [2,3] rfl rfl rfl rfl fun _ _=>?_)
 refine gF [27] rfl ?_
 refine lF [4,5] (GK.code ?_)
 refine GC.ret ?_
 refine fR (.inl rfl) rfl (by trivial) ((o,c,rn,F)) [0,1,3] rfl rfl rfl rfl (⟨g1,g2,g3,g4⟩)
theorem f13 (μ) (b1 o1 c1 b2 o2 c2 : Nat) (t1 : Tbl μ 12 b1 o1 4 c1 mkO shO) (t2 : Tbl μ 13 b2 o2 3 c2 mkS shO) (S D : Nat → Int) (d0 : D 0 = 4) (d1 : D 1 = 6) (d2 : D 2 = 144) (d3 : D 3 = 4) (d4 : D 4 = 2) (d5 : D 5 = 45) (d6 : D 6 = 33) :
  Fun Tryz.prog μ 13 [.slc 0 0 4 4,.slc 1 0 7 7] [(0,.row ⟨.ints .u8 S,4,5⟩),(1,.row ⟨.ints .u8 D,7,5⟩)] 2
  (fun x : Nat × Nat × Nat × (Nat → Int)=>x.1 + x.2.1 ≤ x.2.2.1 ∧ 6 ≤ x.2.1 ∧ (∀ j,j < 4 → x.2.2.2 (x.1 + j) = S j) ∧ ∀ j,j < 2 → x.2.2.2 (x.1 + 4 + j) = D (5 + j)) (fun x=>⟨.tup [.slc 2 x.1 6 x.2.1,.v (.bool true)],[(2,.row ⟨.ints .u8 x.2.2.2,x.2.2.1,5⟩)],3⟩):=by
 refine fE 21 Tryz.func13 fun zw zβ=>?_
 refine cF [0,1] ?_
 refine rS [0,1] ?_
 refine GL.seqR ?_
 refine GL.op rfl (OpW.empty (.ints .u8 fun _=>0) rfl rfl rfl rfl ?_)
 refine gF [0,1,9] rfl ?_
 refine lK 1 [1,9,10] ?_
 refine GL.op rfl (OpW.appendI (m:=4) (N:=S) rfl rfl rfl rfl rfl rfl rfl rfl rfl rfl (Nat.le_of_ble_eq_true rfl) (Nat.le_refl 0) (src_slc rfl rfl (Nat.le_of_ble_eq_true rfl) (fun j hj=>by rw [Nat.zero_add]; rfl)) (by omega) (by show (_ + _) * 1 ≤ 140737488355328; omega) rfl ?_ rfl rfl)
 intro sc S' r1 r2 r3 r4 ρ' hp
 obtain rfl:=Option.some.inj hp; clear hp
 refine gF [1,11] rfl ?_
 refine GL.op rfl (OpW.empty (.ints .u8 fun _=>0) rfl rfl rfl rfl ?_)
 refine gF [1,11,12] rfl ?_
 refine lK 1 [11,12,13] ?_
 refine GL.op rfl (OpW.appendI (m:=7) (N:=D) rfl rfl rfl rfl rfl rfl rfl rfl rfl rfl (Nat.le_of_ble_eq_true rfl) (Nat.le_refl 0) (src_slc rfl rfl (Nat.le_of_ble_eq_true rfl) (fun j hj=>by rw [Nat.zero_add]; rfl)) (by omega) (by show (_ + _) * 1 ≤ 140737488355328; omega) rfl ?_ rfl rfl)
 intro dc D' s1 s2 s3 s4 ρ' hp
 obtain rfl:=Option.some.inj hp; clear hp
 have z : ∀ j,j < 7 → D' j = D j:=fun j hj=>by have:=s4 j hj; rw [Nat.zero_add] at this; exact this
 refine gF [11,14] rfl ?_
 refine GL.op rfl (cR rfl (f33 _ b1 o1 c1 b2 o2 c2 t1 t2 S' D' sc dc (by omega) (by omega) (by omega) (by omega) ((z 0 (by decide)).trans d0) ((z 1 (by decide)).trans d1) ((z 2 (by decide)).trans d2) ((z 3 (by decide)).trans d3) ((z 4 (by decide)).trans d4) ((z 5 (by decide)).trans d5) ((z 6 (by decide)).trans d6)) [2,3] rfl rfl rfl rfl ?_)
 intro ⟨o,c,rn,F⟩ ⟨g1,g2,g3,g4⟩
 dsimp only at g1 g2 g3 g4 ⊢
 refine gF [15] rfl ?_
 refine lF [6,7] (GK.code ?_)
 refine GC.seq (GC.draw [(0,0),(1,0),(2,0),(3,0),(4,0)] mixed (by kernel_rfl) (by rintro _ _ _ _ ⟨_,_,_,_,h,_⟩ _; cases h) ?_)
 refine wF [4,5] (GK.code ?_)
 refine GC.ret ?_
 refine fR (.inl rfl) rfl (by trivial) ((o,c,rn,F)) [0,1,4] rfl rfl rfl rfl (⟨g1,g2,fun j hj=>by have h1:=r4 j hj; rw [Nat.zero_add] at h1; exact (g3 j hj).trans h1,fun j hj=>(g4 j hj).trans (z _ (by omega))⟩)
end Go.Proofs.YtebadfmnmhmfeaaGreatDoor.T
