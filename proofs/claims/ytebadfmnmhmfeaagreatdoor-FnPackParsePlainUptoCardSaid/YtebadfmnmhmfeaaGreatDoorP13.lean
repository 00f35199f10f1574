/- What the functions of the program do, one contract each (P61); each states its own conditions. -/
import Derived.Test.YtebadfmnmhmfeaaGreatDoorP12
namespace Go.Proofs.YtebadfmnmhmfeaaGreatDoor.T
open Go.Proofs.YtebadfmnmhmfeaaGreatDoor.Sx Go.RowKit
set_option maxRecDepth 20000
set_option linter.unusedSimpArgs false
set_option linter.unusedVariables false
set_option linter.unnecessarySimpa false
set_option linter.unusedSectionVars false
def obN (k : Int) (a : Option Addr) (n c : Nat) : Nat → Value
 | 0=>.int .i64 k
 | _=>.slice a n c
theorem ob_get {k : Int} {a : Option Addr} {n c : Nat} : ∀ j,j < 1 * 2 → lget [.v (.int .i64 k),.v (.slice a n c)] j = .v (obN k a n c j)
 | 0,_=>rfl
 | 1,_=>rfl
 | j + 2,h=>absurd h (by omega)
theorem Kn.up {μ F : Nat → Option Obj} {a : Option Addr} {n c : Nat} {T : Nat → Int} (h : Kn μ nF a n c T) : Kn μ F a n c T:=by
 refine ⟨?_,h.r,h.l⟩
 rcases h.h with h1 | ⟨b,o,e1,e2,e3⟩
 ·exact .inl h1
 ·exact .inr ⟨b,o,e1,e2,fun j hj=>.inl (nF_or (e3 j hj))⟩
theorem Kn.fz {μ F F' : Nat → Option Obj} {a : Option Addr} {n c b g : Nat} {r : Row} {T : Nat → Int} (h : Kn μ F a n c T) (hz : Frz F F' b g r) : Kn μ F' a n c T:=by
 refine ⟨?_,h.r,h.l⟩
 rcases h.h with h1 | ⟨b,o,e1,e2,e3⟩
 ·exact .inl h1
 ·exact .inr ⟨b,o,e1,e2,fun j hj=>(e3 j hj).imp id fun h=>(hz.2 _ _ _ h).2⟩
def Obs (μ F : Nat → Option Obj) (V : Nat → Value) (m : Nat) : Prop:=∀ j,j < m → ∃ (k : Int) (a : Option Addr) (n c : Nat) (T : Nat → Int),V (j * 2) = .int .i64 k ∧ V (j * 2 + 1) = .slice a n c ∧ Kn μ F a n c T ∧ 1 ≤ k ∧ k ≤ 4
def okE (kd : Int) (n : Nat) : Prop:=(1 ≤ kd ∧ kd ≤ 4 ∧ n ≤ 1000000) ∨ 4 < kd
def L11 (b o m cp i cap : Nat) (V : Nat → Value) (F : Nat → Option Obj) : S:=⟨[(4,.slc 1 0 i cap),(8,.v (.slice (some ⟨b,o,none⟩) m cp)),(9,.v (.int .i64 m)),(10,.v (.int .i64 i))],[(0,.fz F),(1,.row ⟨.vals V,cap * 2,52⟩)],2,[]⟩
def P11 (m : Nat) (x : (Nat → Option Obj) × Bool × Nat × (Nat → Value)) : Post:=match x.2.1 with
 | true=>⟨.tup [.slc 1 0 m x.2.2.1,.v (.bool true)],[(0,.fz x.1),(1,.row ⟨.vals x.2.2.2,x.2.2.1 * 2,52⟩)],2⟩
 | false=>⟨.tup [.v (.slice none 0 0),.v (.bool false)],[(0,.fz x.1)],1⟩
theorem f11n (μ) (F : Nat → Option Obj) : Fun Tryz.prog μ 11 [.v (.slice none 0 0)] [(0,.fz F)] 1 (fun _ : Unit=>True) (fun _=>⟨.tup [.v (.slice none 0 0),.v (.bool true)],[(0,.fz F)],1⟩):=by
 refine fE 93 Tryz.func11 fun zw zβ=>?_
 refine cF [0,41,42,43,44,47,48,49,50,51,52,53,54,57,58,59,60,61,62,63,64,65,66] ?_
 refine rS [0,41,42,43,44,47,48,49,50,51,52,53,54,57,58,59,60,61,62,63,64,65,66] ?_
 refine rS [0,4,41,42,43,44,47,48,49,50,51,52,53,54,57,58,59,60,61,62,63,64,65,66] ?_
 refine GC.seq ?_
 refine rS [4,8,9,10,41,42,43,44,47,48,49,50,51,52,53,54,57,58,59,60,61,62,63,64,65,66] ?_
 refine GC.block ?_
 refine GC.loop0 ?_
 refine rS [4,8,9,10,11,41,42,43,44,47,48,49,50,51,52,53,54,57,58,59,60,61,62,63,64,65,66] ?_
 refine GC.seq (GC.condF rfl ?_)
 refine GC.exit ?_
 refine GK.code ?_
 refine rS [2,3] ?_
 refine GC.ret ?_
 refine fR (.inl rfl) rfl (by trivial) () [0] rfl rfl rfl rfl (trivial)
set_option maxHeartbeats 16000000 in
theorem f11m (μ) (F0 : Nat → Option Obj) (b o m cp : Nat) (kd : Nat → Int) (a : Nat → Option Addr) (n c : Nat → Nat) (bs : Nat → Int) (sa : Nat → Option Addr) (sn sc : Nat → Nat) (hE : Ents μ b o m kd a n c bs sa sn sc) :
  Fun Tryz.prog μ 11 [.v (.slice (some ⟨b,o,none⟩) m cp)] [(0,.fz F0)] 1 (fun x : (Nat → Option Obj) × Bool × Nat × (Nat → Value)=>x.2.1 = true → m ≤ x.2.2.1 ∧ Obs μ x.1 x.2.2.2 m ∧ ∀ j,j < m → okE (kd j) (n j)) (P11 m):=by
 have hml:=hE.l
 refine fE 93 Tryz.func11 fun zw zβ=>?_
 refine cF [0,41,42,43,44,47,48,49,50,51,52,53,54,57,58,59,60,61,62,63,64,65,66] ?_
 refine rS [0,41,42,43,44,47,48,49,50,51,52,53,54,57,58,59,60,61,62,63,64,65,66] ?_
 refine rS [0,4,41,42,43,44,47,48,49,50,51,52,53,54,57,58,59,60,61,62,63,64,65,66] ?_
 refine GC.nilg 4 (.vals fun _=>undef) 52 rfl ?_
 refine GC.seq ?_
 refine rS [4,8,9,10,41,42,43,44,47,48,49,50,51,52,53,54,57,58,59,60,61,62,63,64,65,66] ?_
 refine GC.block ?_
 refine GC.loopE (ι:=(Nat) × (Nat) × (Nat → Value) × (Nat → Option Obj)) (fun zi=>(fun (i cap : Nat) (V : Nat → Value) (F : Nat → Option Obj)=>i ≤ m ∧ i ≤ cap ∧ Obs μ F V i ∧ ∀ j,j < i → okE (kd j) (n j)) zi.1 zi.2.1 zi.2.2.1 zi.2.2.2) (fun zi=>(fun i cap V F=>(m - i : Nat)) zi.1 zi.2.1 zi.2.2.1 zi.2.2.2) (fun zi=>(L11 b o m cp) zi.1 zi.2.1 zi.2.2.1 zi.2.2.2) ((0,0,(fun _=>undef),F0)) [0,1] (show (fun (i cap : Nat) (V : Nat → Value) (F : Nat → Option Obj)=>i ≤ m ∧ i ≤ cap ∧ Obs μ F V i ∧ ∀ j,j < i → okE (kd j) (n j)) (0) (0) ((fun _=>undef)) (F0) from ?_) (Ent.R rfl rfl rfl rfl) ?_
 ·exact ⟨Nat.zero_le _,Nat.zero_le _,fun j hj=>absurd hj (Nat.not_lt_zero _),fun j hj=>absurd hj (Nat.not_lt_zero _)⟩
 rintro ⟨i,cap,V,F⟩ hI
 change (fun (i cap : Nat) (V : Nat → Value) (F : Nat → Option Obj)=>i ≤ m ∧ i ≤ cap ∧ Obs μ F V i ∧ ∀ j,j < i → okE (kd j) (n j)) i cap V F at hI
 try dsimp only at hI
 change GC _ _ _ ((L11 b o m cp) i cap V F)
 obtain ⟨hi,hc,hO,hK⟩:=hI
 unfold L11
 refine cF [4,8,9,10,41,42,43,44,47,48,49,50,51,52,53,54,57,58,59,60,61,62,63,64,65,66] ?_
 refine rS [4,8,9,10,11,41,42,43,44,47,48,49,50,51,52,53,54,57,58,59,60,61,62,63,64,65,66] ?_
 refine GC.seq ?_
 refine GC.cond rfl (fun hlt=>?_) (fun hlt=>?_)
 ·have hlt : (i : Int) < m:=by simpa using hlt
  have hlt' : i < m:=by omega
  have he:=hE.h i hlt'
  refine GC.skip (GK.code (GC.seq (GC.block (GL.seqR ?_))))
  refine lK 2 [4,8,9,10,12,13,41,42,43,44,47,48,49,50,51,52,53,54,57,58,59,60,61,62,63,64,65,66] ?_
  refine GL.op rfl (OpW.lstep (LStep.muA (vs:=[.int .i64 (kd i),.slice (a i) (n i) (c i),.int .i64 (bs i),.slice (sa i) (sn i) (sc i)]) rfl rfl rfl rfl rfl (fun q v hq=>by show muAt μ b (o + (i : Int).toNat * 4 + q) = some v; rw [Int.toNat_natCast]; exact he.h q v hq)) rfl (gF [4,8,9,10,12,14,41,42,43,44,47,48,49,50,51,52,53,54,57,58,59,60,61,62,63,64,65,66] rfl ?_))
  refine lF [4,5,6,8,9,10,41,42,43,44,47,48,49,50,51,52,53,54,57,58,59,60,61,62,63,64,65,66] (GK.code ?_)
  refine rS [4,5,6,8,9,10,16,41,42,43,44,47,48,49,50,51,52,53,54,57,58,59,60,61,62,63,64,65,66] ?_
  refine GC.block (GC.seq ?_)
  refine rS [4,5,6,8,9,10,16,17,41,42,43,44,47,48,49,50,51,52,53,54,57,58,59,60,61,62,63,64,65,66] ?_
  refine GC.cond rfl (fun hk1=>?_) (fun hk1=>?_)
  ·have hk1 : kd i = 1:=by simpa using hk1
   refine GC.skip (GK.code ?_)
   refine GC.boolS 17 true rfl (decide_eq_true hk1) rfl ?_
   refine GC.condT rfl (GC.seq ?_)
   refine rS [4,6,8,9,10,25,41,42,43,44,47,48,49,50,51,52,53,54,57,58,59,60,61,62,63,64,65,66] ?_
   refine GC.cond rfl (fun hbig=>?_) (fun hbig=>?_)
   ·have hbig : (n i : Int) > 1000000:=by simpa using hbig
    refine rS [2,3] ?_
    refine GC.ret ?_
    refine fR (.inl rfl) rfl (by trivial) ((F,false,0,V)) [0] rfl rfl rfl rfl (fun h=>(by cases h))
   ·have hbig : ¬ ((n i : Int) > 1000000):=by simpa using hbig
    refine GC.skip (GK.code (GC.region ?_))
    refine lK 7 [8,9,10,26,32,41,42,43,44,47,48,49,50,51,52,53,54,57,58,59,60,61,62,63,64,65,66] ?_
    refine GL.op rfl (OpW.appendV (N:=obN (kd i) (a i) (n i) (c i)) (m:=1) rfl rfl rfl rfl (Nat.le_of_ble_eq_true rfl) rfl rfl rfl rfl (Nat.le_of_ble_eq_true rfl) hc (src_slc rfl rfl (Nat.le_of_ble_eq_true rfl) (fun j hj=>by rw [Nat.zero_add]; exact ob_get j hj)) (by omega) (by show (i + 1) * 32 ≤ 140737488355328; omega) rfl ?_ rfl rfl)
    intro c' V' q1 q2 q3 q4 ρ' hp
    obtain rfl:=Option.some.inj hp; clear hp
    refine gF [8,9,10,33,41,42,43,44,47,48,49,50,51,52,53,54,57,58,59,60,61,62,63,64,65,66] rfl ?_
    refine lF [4,8,9,10,41,42,43,44,47,48,49,50,51,52,53,54,57,58,59,60,61,62,63,64,65,66] ?_
    refine GK.code ?_
    refine rG [4,8,9,10,41,42,43,44,47,48,49,50,51,52,53,54,57,58,59,60,61,62,63,64,65,66] ?_
    refine GK.back (i + 1,c',V',F) [0,1] (show (fun (i cap : Nat) (V : Nat → Value) (F : Nat → Option Obj)=>i ≤ m ∧ i ≤ cap ∧ Obs μ F V i ∧ ∀ j,j < i → okE (kd j) (n j)) (i + 1) (c') (V') (F) from ?_) ?_ (Ent.R rfl rfl rfl rfl)
    ·have q3 : ∀ j,j < i * 2 → V' j = V j:=q3
     have q4 : ∀ j,j < 1 * 2 → V' (i * 2 + j) = obN (kd i) (a i) (n i) (c i) j:=q4
     refine ⟨hlt',q1,fun j hj=>?_,fun j hj=>?_⟩
     ·by_cases e : j = i
      ·subst e
       obtain ⟨T,hT⟩:=he.k
       exact ⟨kd j,a j,n j,c j,T,q4 0 (by omega),q4 1 (by omega),hT.up,by omega⟩
      ·obtain ⟨k1,a1,n1,c1,T1,w1,w2,w3,w4⟩:=hO j (by omega)
       exact ⟨k1,a1,n1,c1,T1,by rw [q3 _ (by omega)]; exact w1,by rw [q3 _ (by omega)]; exact w2,w3,w4⟩
     ·by_cases e : j = i
      ·subst e; exact .inl ⟨by omega,by omega⟩
      ·exact hK j (by omega)
    ·show m - (i + 1) < m - i; omega
  ·have hk1 : ¬ (kd i = 1):=by simpa using hk1
   refine rS [4,5,6,8,9,10,16,17,41,42,43,44,47,48,49,50,51,52,53,54,57,58,59,60,61,62,63,64,65,66] ?_
   refine GC.cond rfl (fun hk2=>?_) (fun hk2=>?_)
   ·have hk2 : kd i = 2:=by simpa using hk2
    refine GC.skip (GK.code ?_)
    refine GC.boolS 17 true rfl (decide_eq_true hk2) rfl ?_
    refine GC.condT rfl (GC.seq ?_)
    refine rS [4,6,8,9,10,25,41,42,43,44,47,48,49,50,51,52,53,54,57,58,59,60,61,62,63,64,65,66] ?_
    refine GC.cond rfl (fun hbig=>?_) (fun hbig=>?_)
    ·have hbig : (n i : Int) > 1000000:=by simpa using hbig
     refine rS [2,3] ?_
     refine GC.ret ?_
     refine fR (.inl rfl) rfl (by trivial) ((F,false,0,V)) [0] rfl rfl rfl rfl (fun h=>(by cases h))
    ·have hbig : ¬ ((n i : Int) > 1000000):=by simpa using hbig
     refine GC.skip (GK.code (GC.region ?_))
     refine lK 7 [8,9,10,26,32,41,42,43,44,47,48,49,50,51,52,53,54,57,58,59,60,61,62,63,64,65,66] ?_
     refine GL.op rfl (OpW.appendV (N:=obN (kd i) (a i) (n i) (c i)) (m:=1) rfl rfl rfl rfl (Nat.le_of_ble_eq_true rfl) rfl rfl rfl rfl (Nat.le_of_ble_eq_true rfl) hc (src_slc rfl rfl (Nat.le_of_ble_eq_true rfl) (fun j hj=>by rw [Nat.zero_add]; exact ob_get j hj)) (by omega) (by show (i + 1) * 32 ≤ 140737488355328; omega) rfl ?_ rfl rfl)
     intro c' V' q1 q2 q3 q4 ρ' hp
     obtain rfl:=Option.some.inj hp; clear hp
     refine gF [8,9,10,33,41,42,43,44,47,48,49,50,51,52,53,54,57,58,59,60,61,62,63,64,65,66] rfl ?_
     refine lF [4,8,9,10,41,42,43,44,47,48,49,50,51,52,53,54,57,58,59,60,61,62,63,64,65,66] ?_
     refine GK.code ?_
     refine rG [4,8,9,10,41,42,43,44,47,48,49,50,51,52,53,54,57,58,59,60,61,62,63,64,65,66] ?_
     refine GK.back (i + 1,c',V',F) [0,1] (show (fun (i cap : Nat) (V : Nat → Value) (F : Nat → Option Obj)=>i ≤ m ∧ i ≤ cap ∧ Obs μ F V i ∧ ∀ j,j < i → okE (kd j) (n j)) (i + 1) (c') (V') (F) from ?_) ?_ (Ent.R rfl rfl rfl rfl)
     ·have q3 : ∀ j,j < i * 2 → V' j = V j:=q3
      have q4 : ∀ j,j < 1 * 2 → V' (i * 2 + j) = obN (kd i) (a i) (n i) (c i) j:=q4
      refine ⟨hlt',q1,fun j hj=>?_,fun j hj=>?_⟩
      ·by_cases e : j = i
       ·subst e
        obtain ⟨T,hT⟩:=he.k
        exact ⟨kd j,a j,n j,c j,T,q4 0 (by omega),q4 1 (by omega),hT.up,by omega⟩
       ·obtain ⟨k1,a1,n1,c1,T1,w1,w2,w3,w4⟩:=hO j (by omega)
        exact ⟨k1,a1,n1,c1,T1,by rw [q3 _ (by omega)]; exact w1,by rw [q3 _ (by omega)]; exact w2,w3,w4⟩
      ·by_cases e : j = i
       ·subst e; exact .inl ⟨by omega,by omega⟩
       ·exact hK j (by omega)
     ·show m - (i + 1) < m - i; omega
   ·have hk2 : ¬ (kd i = 2):=by simpa using hk2
    refine rS [4,5,6,8,9,10,16,17,41,42,43,44,47,48,49,50,51,52,53,54,57,58,59,60,61,62,63,64,65,66] ?_
    refine GC.cond rfl (fun hk3=>?_) (fun hk3=>?_)
    ·have hk3 : kd i = 3:=by simpa using hk3
     refine GC.skip (GK.code ?_)
     refine GC.boolS 17 true rfl (decide_eq_true hk3) rfl ?_
     refine GC.condT rfl (GC.seq ?_)
     refine rS [4,6,8,9,10,25,41,42,43,44,47,48,49,50,51,52,53,54,57,58,59,60,61,62,63,64,65,66] ?_
     refine GC.cond rfl (fun hbig=>?_) (fun hbig=>?_)
     ·have hbig : (n i : Int) > 1000000:=by simpa using hbig
      refine rS [2,3] ?_
      refine GC.ret ?_
      refine fR (.inl rfl) rfl (by trivial) ((F,false,0,V)) [0] rfl rfl rfl rfl (fun h=>(by cases h))
     ·have hbig : ¬ ((n i : Int) > 1000000):=by simpa using hbig
      refine GC.skip (GK.code (GC.region ?_))
      refine lK 7 [8,9,10,26,32,41,42,43,44,47,48,49,50,51,52,53,54,57,58,59,60,61,62,63,64,65,66] ?_
      refine GL.op rfl (OpW.appendV (N:=obN (kd i) (a i) (n i) (c i)) (m:=1) rfl rfl rfl rfl (Nat.le_of_ble_eq_true rfl) rfl rfl rfl rfl (Nat.le_of_ble_eq_true rfl) hc (src_slc rfl rfl (Nat.le_of_ble_eq_true rfl) (fun j hj=>by rw [Nat.zero_add]; exact ob_get j hj)) (by omega) (by show (i + 1) * 32 ≤ 140737488355328; omega) rfl ?_ rfl rfl)
      intro c' V' q1 q2 q3 q4 ρ' hp
      obtain rfl:=Option.some.inj hp; clear hp
      refine gF [8,9,10,33,41,42,43,44,47,48,49,50,51,52,53,54,57,58,59,60,61,62,63,64,65,66] rfl ?_
      refine lF [4,8,9,10,41,42,43,44,47,48,49,50,51,52,53,54,57,58,59,60,61,62,63,64,65,66] ?_
      refine GK.code ?_
      refine rG [4,8,9,10,41,42,43,44,47,48,49,50,51,52,53,54,57,58,59,60,61,62,63,64,65,66] ?_
      refine GK.back (i + 1,c',V',F) [0,1] (show (fun (i cap : Nat) (V : Nat → Value) (F : Nat → Option Obj)=>i ≤ m ∧ i ≤ cap ∧ Obs μ F V i ∧ ∀ j,j < i → okE (kd j) (n j)) (i + 1) (c') (V') (F) from ?_) ?_ (Ent.R rfl rfl rfl rfl)
      ·have q3 : ∀ j,j < i * 2 → V' j = V j:=q3
       have q4 : ∀ j,j < 1 * 2 → V' (i * 2 + j) = obN (kd i) (a i) (n i) (c i) j:=q4
       refine ⟨hlt',q1,fun j hj=>?_,fun j hj=>?_⟩
       ·by_cases e : j = i
        ·subst e
         obtain ⟨T,hT⟩:=he.k
         exact ⟨kd j,a j,n j,c j,T,q4 0 (by omega),q4 1 (by omega),hT.up,by omega⟩
        ·obtain ⟨k1,a1,n1,c1,T1,w1,w2,w3,w4⟩:=hO j (by omega)
         exact ⟨k1,a1,n1,c1,T1,by rw [q3 _ (by omega)]; exact w1,by rw [q3 _ (by omega)]; exact w2,w3,w4⟩
       ·by_cases e : j = i
        ·subst e; exact .inl ⟨by omega,by omega⟩
        ·exact hK j (by omega)
      ·show m - (i + 1) < m - i; omega
    ·have hk3 : ¬ (kd i = 3):=by simpa using hk3
     refine rG [4,5,6,8,9,10,16,17,41,42,43,44,47,48,49,50,51,52,53,54,57,58,59,60,61,62,63,64,65,66] ?_
     refine GK.code ?_
     refine GC.cond rfl (fun hk4'=>?_) (fun hk4'=>?_)
     ·have hk4' : kd i = 4:=by simpa using hk4'
      refine GC.seq ?_
      refine rS [4,6,8,9,10,25,41,42,43,44,47,48,49,50,51,52,53,54,57,58,59,60,61,62,63,64,65,66] ?_
      refine GC.cond rfl (fun hbig=>?_) (fun hbig=>?_)
      ·have hbig : (n i : Int) > 1000000:=by simpa using hbig
       refine rS [2,3] ?_
       refine GC.ret ?_
       refine fR (.inl rfl) rfl (by trivial) ((F,false,0,V)) [0] rfl rfl rfl rfl (fun h=>(by cases h))
      ·have hbig : ¬ ((n i : Int) > 1000000):=by simpa using hbig
       refine GC.skip (GK.code (GC.region ?_))
       refine lK 7 [8,9,10,26,32,41,42,43,44,47,48,49,50,51,52,53,54,57,58,59,60,61,62,63,64,65,66] ?_
       refine GL.op rfl (OpW.appendV (N:=obN (kd i) (a i) (n i) (c i)) (m:=1) rfl rfl rfl rfl (Nat.le_of_ble_eq_true rfl) rfl rfl rfl rfl (Nat.le_of_ble_eq_true rfl) hc (src_slc rfl rfl (Nat.le_of_ble_eq_true rfl) (fun j hj=>by rw [Nat.zero_add]; exact ob_get j hj)) (by omega) (by show (i + 1) * 32 ≤ 140737488355328; omega) rfl ?_ rfl rfl)
       intro c' V' q1 q2 q3 q4 ρ' hp
       obtain rfl:=Option.some.inj hp; clear hp
       refine gF [8,9,10,33,41,42,43,44,47,48,49,50,51,52,53,54,57,58,59,60,61,62,63,64,65,66] rfl ?_
       refine lF [4,8,9,10,41,42,43,44,47,48,49,50,51,52,53,54,57,58,59,60,61,62,63,64,65,66] ?_
       refine GK.code ?_
       refine rG [4,8,9,10,41,42,43,44,47,48,49,50,51,52,53,54,57,58,59,60,61,62,63,64,65,66] ?_
       refine GK.back (i + 1,c',V',F) [0,1] (show (fun (i cap : Nat) (V : Nat → Value) (F : Nat → Option Obj)=>i ≤ m ∧ i ≤ cap ∧ Obs μ F V i ∧ ∀ j,j < i → okE (kd j) (n j)) (i + 1) (c') (V') (F) from ?_) ?_ (Ent.R rfl rfl rfl rfl)
       ·have q3 : ∀ j,j < i * 2 → V' j = V j:=q3
        have q4 : ∀ j,j < 1 * 2 → V' (i * 2 + j) = obN (kd i) (a i) (n i) (c i) j:=q4
        refine ⟨hlt',q1,fun j hj=>?_,fun j hj=>?_⟩
        ·by_cases e : j = i
         ·subst e
          obtain ⟨T,hT⟩:=he.k
          exact ⟨kd j,a j,n j,c j,T,q4 0 (by omega),q4 1 (by omega),hT.up,by omega⟩
         ·obtain ⟨k1,a1,n1,c1,T1,w1,w2,w3,w4⟩:=hO j (by omega)
          exact ⟨k1,a1,n1,c1,T1,by rw [q3 _ (by omega)]; exact w1,by rw [q3 _ (by omega)]; exact w2,w3,w4⟩
        ·by_cases e : j = i
         ·subst e; exact .inl ⟨by omega,by omega⟩
         ·exact hK j (by omega)
       ·show m - (i + 1) < m - i; omega
     ·have hk4' : ¬ (kd i = 4):=by simpa using hk4'
      refine GC.seq ?_
      refine rS [4,5,6,8,9,10,16,34,41,42,43,44,47,48,49,50,51,52,53,54,57,58,59,60,61,62,63,64,65,66] ?_
      refine GC.cond rfl (fun hk6=>?_) (fun hk6=>?_)
      ·have hk6 : kd i = 6:=by simpa using hk6
       refine GC.skip (GK.code ?_)
       refine GC.boolS 34 true rfl (decide_eq_true hk6) rfl ?_
       refine GC.condT rfl ?_
       rcases he.s.h with ⟨e1,e2,e3⟩ | ⟨sb,so,cp',fr,sz,ta,tn,tc,wd,e1,hsc,hst⟩
       all_goals (try rw [e1])
       rw [e2,e3]
       ·refine GC.seq ?_
        refine GC.seq (GC.draw [(0,0),(1,1),(2,0),(3,0),(4,0),(6,0),(5,1),(7,0),(8,0),(9,0),(10,0),(11,0),(12,1),(13,0),(14,0),(15,1),(16,0),(17,0),(18,0),(19,0),(20,0),(22,0),(23,0),(21,1),(24,1),(25,0),(26,0),(27,1),(28,2),(29,0),(30,0)] mixed (by kernel_rfl) (by rintro _ _ _ _ ⟨_,_,_,_,h,_⟩ _; cases h) ?_)
        refine wK 4 [4,5,6,8,9,10,40,41,42,43,44,47,48,49,50,51,52,53,54,57,58,59,60,61,62,63,64,65,66] ?_
        refine GW.spl 40 rfl rfl rfl (fun g1=>?_) (fun g1=>?_)
        ·have g1 : bs i < 0:=by simpa using g1
         refine wK 6 [4,6,8,9,10,41,42,43,44,46,47,48,49,50,51,52,53,54,57,58,59,60,61,62,63,64,65,66] ?_
         refine GW.spl 46 rfl rfl rfl (fun g2=>?_) (fun g2=>?_)
         ·refine wK 5 [4,6,8,9,10,41,42,43,44,46,47,48,49,50,51,52,53,54,57,58,59,60,61,62,63,64,65,66] ?_
          refine wK 1 [4,6,8,9,10,41,42,43,44,46,47,48,49,50,51,52,53,54,57,58,59,60,61,62,63,64,65,66] ?_
          refine wK 4 [4,6,8,9,10,41,42,43,44,47,48,49,50,51,52,53,54,56,57,58,59,60,61,62,63,64,65,66] ?_
          refine GW.spl 56 rfl rfl rfl (fun g3=>?_) (fun g3=>?_)
          ·refine wK 7 [4,6,8,9,10,41,42,43,44,47,48,49,50,51,52,53,54,56,57,58,59,60,61,62,63,64,65,66] ?_
           refine wK 1 [4,6,8,9,10,41,42,43,44,47,48,49,50,51,52,53,54,56,57,58,59,60,61,62,63,64,65,66] ?_
           refine wK 1 [4,6,8,9,10,41,42,43,44,47,48,49,50,51,52,53,54,56,57,58,59,60,61,62,63,64,65,66] ?_
           refine wF [4,6,8,9,10,41,42,43,44,47,48,49,50,51,52,53,54,57,58,59,60,61,62,63,64,65,66,67] (GK.code ?_)
           refine GC.condT rfl ?_
           refine rS [2,3] ?_
           refine GC.ret ?_
           refine fR (.inl rfl) rfl (by trivial) ((F,false,0,V)) [0] rfl rfl rfl rfl (fun h=>(by cases h))
          ·cases g3
         ·cases g2
        ·have g1 : ¬ (bs i < 0):=by simpa using g1
         refine wK 6 [4,6,8,9,10,41,42,43,44,46,47,48,49,50,51,52,53,54,57,58,59,60,61,62,63,64,65,66] ?_
         refine GW.spl 46 rfl rfl rfl (fun g2=>?_) (fun g2=>?_)
         ·have g2 : bs i ≥ (i : Int):=by simpa using g2
          refine wK 5 [4,6,8,9,10,41,42,43,44,46,47,48,49,50,51,52,53,54,57,58,59,60,61,62,63,64,65,66] ?_
          refine wK 1 [4,6,8,9,10,41,42,43,44,46,47,48,49,50,51,52,53,54,57,58,59,60,61,62,63,64,65,66] ?_
          refine wK 4 [4,6,8,9,10,41,42,43,44,47,48,49,50,51,52,53,54,56,57,58,59,60,61,62,63,64,65,66] ?_
          refine GW.spl 56 rfl rfl rfl (fun g3=>?_) (fun g3=>?_)
          ·refine wK 7 [4,6,8,9,10,41,42,43,44,47,48,49,50,51,52,53,54,56,57,58,59,60,61,62,63,64,65,66] ?_
           refine wK 1 [4,6,8,9,10,41,42,43,44,47,48,49,50,51,52,53,54,56,57,58,59,60,61,62,63,64,65,66] ?_
           refine wK 1 [4,6,8,9,10,41,42,43,44,47,48,49,50,51,52,53,54,56,57,58,59,60,61,62,63,64,65,66] ?_
           refine wF [4,6,8,9,10,41,42,43,44,47,48,49,50,51,52,53,54,57,58,59,60,61,62,63,64,65,66,67] (GK.code ?_)
           refine GC.condT rfl ?_
           refine rS [2,3] ?_
           refine GC.ret ?_
           refine fR (.inl rfl) rfl (by trivial) ((F,false,0,V)) [0] rfl rfl rfl rfl (fun h=>(by cases h))
          ·cases g3
         ·have g2 : ¬ (bs i ≥ (i : Int)):=by simpa using g2
          obtain ⟨k0,ta0,tn0,tc0,T0,hv1,hv2,hKn,hk4⟩:=hO (bs i).toNat (by omega)
          refine wK 5 [4,6,8,9,10,41,42,43,44,46,47,48,49,50,51,52,53,54,57,58,59,60,61,62,63,64,65,66] ?_
          refine GW.lstep rfl rfl (LStep.at rfl rfl rfl rfl rfl (by show 0 + (bs i).toNat * 2 + 1 < cap * 2; omega) (by show SV.v (V (0 + (bs i).toNat * 2 + 1)) = .v (.slice ta0 tn0 tc0); rw [Nat.zero_add]; exact congrArg SV.v hv2)) rfl (GW.force [4,6,8,9,10,41,42,43,44,46,47,48,49,50,51,52,53,54,57,58,59,60,61,62,63,64,65,66] rfl ?_)
          refine wK 4 [4,6,8,9,10,41,42,43,44,47,48,49,50,51,52,53,54,56,57,58,59,60,61,62,63,64,65,66] ?_
          refine GW.spl 56 rfl rfl rfl (fun g3=>?_) (fun g3=>?_)
          ·have g3 : (tn0 : Int) = 0:=by simpa using g3
           refine wK 7 [4,6,8,9,10,41,42,43,44,47,48,49,50,51,52,53,54,56,57,58,59,60,61,62,63,64,65,66] ?_
           refine wK 1 [4,6,8,9,10,41,42,43,44,47,48,49,50,51,52,53,54,56,57,58,59,60,61,62,63,64,65,66] ?_
           refine wK 1 [4,6,8,9,10,41,42,43,44,47,48,49,50,51,52,53,54,56,57,58,59,60,61,62,63,64,65,66] ?_
           refine wF [4,6,8,9,10,41,42,43,44,47,48,49,50,51,52,53,54,57,58,59,60,61,62,63,64,65,66,67] (GK.code ?_)
           refine GC.condT rfl ?_
           refine rS [2,3] ?_
           refine GC.ret ?_
           refine fR (.inl rfl) rfl (by trivial) ((F,false,0,V)) [0] rfl rfl rfl rfl (fun h=>(by cases h))
          ·have g3 : ¬ ((tn0 : Int) = 0):=by simpa using g3
           refine wK 7 [4,6,8,9,10,41,42,43,44,47,48,49,50,51,52,53,54,56,57,58,59,60,61,62,63,64,65,66] ?_
           refine GW.lstep rfl rfl (LStep.at rfl rfl rfl rfl rfl (by show 0 + (bs i).toNat * 2 + 1 < cap * 2; omega) (by show SV.v (V (0 + (bs i).toNat * 2 + 1)) = .v (.slice ta0 tn0 tc0); rw [Nat.zero_add]; exact congrArg SV.v hv2)) rfl (GW.force [4,6,8,9,10,41,42,43,44,47,48,49,50,51,52,53,54,56,57,58,59,60,61,62,63,64,65,66] rfl ?_)
           refine GW.op rfl rfl (cR rfl (f29n _ _ ta0 tn0 tc0) [] rfl rfl rfl rfl fun r hr=>?_)
           subst hr
           refine wL [4,6,8,9,10,41,42,43,44,47,48,49,50,51,52,53,54,56,57,58,59,60,61,62,63,64,65,66] rfl ?_
           refine wF [4,6,8,9,10,41,42,43,44,47,48,49,50,51,52,53,54,57,58,59,60,61,62,63,64,65,66,67] (GK.code ?_)
           refine GC.condT rfl ?_
           refine rS [2,3] ?_
           refine GC.ret ?_
           refine fR (.inl rfl) rfl (by trivial) ((F,false,0,V)) [0] rfl rfl rfl rfl (fun h=>(by cases h))
       ·refine GC.seq ?_
        refine GC.seq (GC.draw [(0,0),(1,1),(2,0),(3,0),(4,0),(6,0),(5,1),(7,0),(8,0),(9,0),(10,0),(11,0),(12,1),(13,0),(14,0),(15,1),(16,0),(17,0),(18,0),(19,0),(20,0),(22,0),(23,0),(21,1),(24,1),(25,0),(26,0),(27,1),(28,2),(29,0),(30,0)] mixed (by kernel_rfl) (by rintro _ _ _ _ ⟨_,_,_,_,h,_⟩ _; cases h) ?_)
        refine wK 4 [4,5,6,8,9,10,40,41,42,43,44,47,48,49,50,51,52,53,54,57,58,59,60,61,62,63,64,65,66] ?_
        refine GW.spl 40 rfl rfl rfl (fun g1=>?_) (fun g1=>?_)
        ·have g1 : bs i < 0:=by simpa using g1
         refine wK 6 [4,6,8,9,10,41,42,43,44,46,47,48,49,50,51,52,53,54,57,58,59,60,61,62,63,64,65,66] ?_
         refine GW.spl 46 rfl rfl rfl (fun g2=>?_) (fun g2=>?_)
         ·refine wK 5 [4,6,8,9,10,41,42,43,44,46,47,48,49,50,51,52,53,54,57,58,59,60,61,62,63,64,65,66] ?_
          refine wK 1 [4,6,8,9,10,41,42,43,44,46,47,48,49,50,51,52,53,54,57,58,59,60,61,62,63,64,65,66] ?_
          refine wK 4 [4,6,8,9,10,41,42,43,44,47,48,49,50,51,52,53,54,56,57,58,59,60,61,62,63,64,65,66] ?_
          refine GW.spl 56 rfl rfl rfl (fun g3=>?_) (fun g3=>?_)
          ·refine wK 7 [4,6,8,9,10,41,42,43,44,47,48,49,50,51,52,53,54,56,57,58,59,60,61,62,63,64,65,66] ?_
           refine wK 1 [4,6,8,9,10,41,42,43,44,47,48,49,50,51,52,53,54,56,57,58,59,60,61,62,63,64,65,66] ?_
           refine wK 1 [4,6,8,9,10,41,42,43,44,47,48,49,50,51,52,53,54,56,57,58,59,60,61,62,63,64,65,66] ?_
           refine wF [4,6,8,9,10,41,42,43,44,47,48,49,50,51,52,53,54,57,58,59,60,61,62,63,64,65,66,67] (GK.code ?_)
           refine GC.condT rfl ?_
           refine rS [2,3] ?_
           refine GC.ret ?_
           refine fR (.inl rfl) rfl (by trivial) ((F,false,0,V)) [0] rfl rfl rfl rfl (fun h=>(by cases h))
          ·cases g3
         ·cases g2
        ·have g1 : ¬ (bs i < 0):=by simpa using g1
         refine wK 6 [4,6,8,9,10,41,42,43,44,46,47,48,49,50,51,52,53,54,57,58,59,60,61,62,63,64,65,66] ?_
         refine GW.spl 46 rfl rfl rfl (fun g2=>?_) (fun g2=>?_)
         ·have g2 : bs i ≥ (i : Int):=by simpa using g2
          refine wK 5 [4,6,8,9,10,41,42,43,44,46,47,48,49,50,51,52,53,54,57,58,59,60,61,62,63,64,65,66] ?_
          refine wK 1 [4,6,8,9,10,41,42,43,44,46,47,48,49,50,51,52,53,54,57,58,59,60,61,62,63,64,65,66] ?_
          refine wK 4 [4,6,8,9,10,41,42,43,44,47,48,49,50,51,52,53,54,56,57,58,59,60,61,62,63,64,65,66] ?_
          refine GW.spl 56 rfl rfl rfl (fun g3=>?_) (fun g3=>?_)
          ·refine wK 7 [4,6,8,9,10,41,42,43,44,47,48,49,50,51,52,53,54,56,57,58,59,60,61,62,63,64,65,66] ?_
           refine wK 1 [4,6,8,9,10,41,42,43,44,47,48,49,50,51,52,53,54,56,57,58,59,60,61,62,63,64,65,66] ?_
           refine wK 1 [4,6,8,9,10,41,42,43,44,47,48,49,50,51,52,53,54,56,57,58,59,60,61,62,63,64,65,66] ?_
           refine wF [4,6,8,9,10,41,42,43,44,47,48,49,50,51,52,53,54,57,58,59,60,61,62,63,64,65,66,67] (GK.code ?_)
           refine GC.condT rfl ?_
           refine rS [2,3] ?_
           refine GC.ret ?_
           refine fR (.inl rfl) rfl (by trivial) ((F,false,0,V)) [0] rfl rfl rfl rfl (fun h=>(by cases h))
          ·cases g3
         ·have g2 : ¬ (bs i ≥ (i : Int)):=by simpa using g2
          obtain ⟨k0,ta0,tn0,tc0,T0,hv1,hv2,hKn,hk4⟩:=hO (bs i).toNat (by omega)
          refine wK 5 [4,6,8,9,10,41,42,43,44,46,47,48,49,50,51,52,53,54,57,58,59,60,61,62,63,64,65,66] ?_
          refine GW.lstep rfl rfl (LStep.at rfl rfl rfl rfl rfl (by show 0 + (bs i).toNat * 2 + 1 < cap * 2; omega) (by show SV.v (V (0 + (bs i).toNat * 2 + 1)) = .v (.slice ta0 tn0 tc0); rw [Nat.zero_add]; exact congrArg SV.v hv2)) rfl (GW.force [4,6,8,9,10,41,42,43,44,46,47,48,49,50,51,52,53,54,57,58,59,60,61,62,63,64,65,66] rfl ?_)
          refine wK 4 [4,6,8,9,10,41,42,43,44,47,48,49,50,51,52,53,54,56,57,58,59,60,61,62,63,64,65,66] ?_
          refine GW.spl 56 rfl rfl rfl (fun g3=>?_) (fun g3=>?_)
          ·have g3 : (tn0 : Int) = 0:=by simpa using g3
           refine wK 7 [4,6,8,9,10,41,42,43,44,47,48,49,50,51,52,53,54,56,57,58,59,60,61,62,63,64,65,66] ?_
           refine wK 1 [4,6,8,9,10,41,42,43,44,47,48,49,50,51,52,53,54,56,57,58,59,60,61,62,63,64,65,66] ?_
           refine wK 1 [4,6,8,9,10,41,42,43,44,47,48,49,50,51,52,53,54,56,57,58,59,60,61,62,63,64,65,66] ?_
           refine wF [4,6,8,9,10,41,42,43,44,47,48,49,50,51,52,53,54,57,58,59,60,61,62,63,64,65,66,67] (GK.code ?_)
           refine GC.condT rfl ?_
           refine rS [2,3] ?_
           refine GC.ret ?_
           refine fR (.inl rfl) rfl (by trivial) ((F,false,0,V)) [0] rfl rfl rfl rfl (fun h=>(by cases h))
          ·have g3 : ¬ ((tn0 : Int) = 0):=by simpa using g3
           refine wK 7 [4,6,8,9,10,41,42,43,44,47,48,49,50,51,52,53,54,56,57,58,59,60,61,62,63,64,65,66] ?_
           refine GW.lstep rfl rfl (LStep.at rfl rfl rfl rfl rfl (by show 0 + (bs i).toNat * 2 + 1 < cap * 2; omega) (by show SV.v (V (0 + (bs i).toNat * 2 + 1)) = .v (.slice ta0 tn0 tc0); rw [Nat.zero_add]; exact congrArg SV.v hv2)) rfl (GW.force [4,6,8,9,10,41,42,43,44,47,48,49,50,51,52,53,54,56,57,58,59,60,61,62,63,64,65,66] rfl ?_)
           refine GW.op rfl rfl (cR rfl (f29m _ sb so (sn i) (sc i) he.s.l cp' fr sz ta tn tc wd hst ta0 tn0 tc0 hKn.l) [] rfl rfl rfl rfl fun r hr=>?_)
           rcases r with _ | _
           ·refine wL [4,6,8,9,10,41,42,43,44,47,48,49,50,51,52,53,54,56,57,58,59,60,61,62,63,64,65,66] rfl ?_
            refine wF [4,6,8,9,10,41,42,43,44,47,48,49,50,51,52,53,54,57,58,59,60,61,62,63,64,65,66,67] (GK.code ?_)
            refine GC.condT rfl ?_
            refine rS [2,3] ?_
            refine GC.ret ?_
            refine fR (.inl rfl) rfl (by trivial) ((F,false,0,V)) [0] rfl rfl rfl rfl (fun h=>(by cases h))
           ·refine wL [4,6,8,9,10,41,42,43,44,47,48,49,50,51,52,53,54,56,57,58,59,60,61,62,63,64,65,66] rfl ?_
            refine wF [4,6,8,9,10,41,42,43,44,47,48,49,50,51,52,53,54,57,58,59,60,61,62,63,64,65,66,67] (GK.code ?_)
            refine GC.condF rfl ?_
            obtain ⟨hs1,hs5,hs2,hs3⟩:=hr rfl
            rcases hKn.h with ⟨_,e,_⟩ | ⟨bb,bo,rfl,hcc,hkk⟩
            ·omega
            refine GC.skip (GK.code ?_)
            refine GC.seq (GC.draw [(0,0),(1,0),(6,0),(2,1),(3,0),(4,0),(5,1),(7,1),(8,2),(9,0)] mixed (by kernel_rfl) (by rintro _ _ _ _ ⟨_,_,_,_,h,_⟩ _; cases h) ?_)
            refine wK 6 [4,6,8,9,10,41,42,43,44,47,48,49,50,51,52,53,54,57,58,59,60,61,62,63,64,65,66,72,74] ?_
            refine GW.lstep rfl rfl (LStep.at rfl rfl rfl rfl rfl (by show 0 + (bs i).toNat * 2 + 1 < cap * 2; omega) (by show SV.v (V (0 + (bs i).toNat * 2 + 1)) = .v (.slice (some ⟨bb,bo,none⟩) tn0 tc0); rw [Nat.zero_add]; exact congrArg SV.v hv2)) rfl (GW.force [4,6,8,9,10,41,42,43,44,47,48,49,50,51,52,53,54,57,58,59,60,61,62,63,64,65,66,73,74] rfl ?_)
            refine wK 1 [4,6,8,9,10,41,42,43,44,47,48,49,50,51,52,53,54,57,58,59,60,61,62,63,64,65,66,73,75] ?_
            refine GW.op rfl rfl (cR rfl (f30 _ F sb so (sn i) (sc i) hs5 cp' fr sz ta tn tc wd hst bb bo tn0 tc0 hKn.l hcc T0 hkk hKn.r hs3) [0] rfl rfl rfl rfl ?_)
            intro ⟨l,lc,G⟩ ⟨hl1,hl2,hl3,hG⟩
            dsimp only at hl1 hl2 hl3 hG ⊢
            refine wL [4,6,8,9,10,41,42,43,44,47,48,49,50,51,52,53,54,57,58,59,60,61,62,63,64,65,66,76] rfl ?_
            refine wF [4,6,7,8,9,10,41,42,43,44,47,48,49,50,51,52,53,54,57,58,59,60,61,62,63,64,65,66] (GK.code ?_)
            refine GC.seq ?_
            refine rS [4,6,7,8,9,10,41,42,43,44,47,48,49,50,51,52,53,54,57,58,59,60,61,62,63,64,65,66,79] ?_
            refine GC.cond rfl (fun hbig=>?_) (fun hbig=>?_)
            ·have hbig : (l : Int) > 1000000:=by simpa using hbig
             refine rS [2,3] ?_
             refine GC.ret ?_
             refine fR (.inl rfl) rfl (by trivial) ((F,false,0,V)) [0] rfl rfl rfl rfl (fun h=>(by cases h))
            ·have hbig : ¬ ((l : Int) > 1000000):=by simpa using hbig
             refine GC.skip (GK.code ?_)
             refine GC.freezeS 7 3 0 rfl (by omega) rfl rfl rfl rfl fun nb F' hz=>?_
             refine GC.force [4,6,7,8,9,10] rfl ?_
             refine GC.region ?_
             refine lK 6 [7,8,9,10,41,42,43,44,47,48,49,50,51,52,53,54,57,58,59,60,61,62,63,64,65,66,80,85] ?_
             refine GL.op rfl (OpW.lstep (LStep.at rfl rfl rfl rfl rfl (by show 0 + (bs i).toNat * 2 < cap * 2; omega) (by show SV.v (V (0 + (bs i).toNat * 2)) = .v (.int .i64 k0); rw [Nat.zero_add]; exact congrArg SV.v hv1)) rfl (gF [7,8,9,10,41,42,43,44,47,48,49,50,51,52,53,54,57,58,59,60,61,62,63,64,65,66,80,86] rfl ?_))
             refine lK 3 [8,9,10,41,42,43,44,47,48,49,50,51,52,53,54,57,58,59,60,61,62,63,64,65,66,80,89] ?_
             refine GL.op rfl (OpW.appendV (N:=obN (k0) (some ⟨nb,0,none⟩) (l) (lc)) (m:=1) rfl rfl rfl rfl (Nat.le_of_ble_eq_true rfl) rfl rfl rfl rfl (Nat.le_of_ble_eq_true rfl) hc (src_slc rfl rfl (Nat.le_of_ble_eq_true rfl) (fun j hj=>by rw [Nat.zero_add]; exact ob_get j hj)) (by omega) (by show (i + 1) * 32 ≤ 140737488355328; omega) rfl ?_ rfl rfl)
             intro c' V' q1 q2 q3 q4 ρ' hp
             obtain rfl:=Option.some.inj hp; clear hp
             refine gF [8,9,10,41,42,43,44,47,48,49,50,51,52,53,54,57,58,59,60,61,62,63,64,65,66,90] rfl ?_
             refine lF [4,8,9,10,41,42,43,44,47,48,49,50,51,52,53,54,57,58,59,60,61,62,63,64,65,66] ?_
             refine GK.code ?_
             refine rG [4,8,9,10,41,42,43,44,47,48,49,50,51,52,53,54,57,58,59,60,61,62,63,64,65,66] ?_
             refine GK.back (i + 1,c',V',F') [0,1] (show (fun (i cap : Nat) (V : Nat → Value) (F : Nat → Option Obj)=>i ≤ m ∧ i ≤ cap ∧ Obs μ F V i ∧ ∀ j,j < i → okE (kd j) (n j)) (i + 1) (c') (V') (F') from ?_) ?_ (Ent.R rfl rfl rfl rfl)
             ·have q3 : ∀ j,j < i * 2 → V' j = V j:=q3
              have q4 : ∀ j,j < 1 * 2 → V' (i * 2 + j) = obN k0 (some ⟨nb,0,none⟩) l lc j:=q4
              refine ⟨hlt',q1,fun j hj=>?_,fun j hj=>?_⟩
              ·by_cases e : j = i
               ·subst e
                exact ⟨k0,_,l,lc,G,q4 0 (by omega),q4 1 (by omega),⟨.inr ⟨nb,0,rfl,hl1,fun q hq=>.inr (by rw [Nat.zero_add]; exact hz.1 q _ (by show q < lc; omega) rfl)⟩,hG,by omega⟩,hk4⟩
               ·obtain ⟨k1,a1,n1,c1,T1,w1,w2,w3,w4⟩:=hO j (by omega)
                exact ⟨k1,a1,n1,c1,T1,by rw [q3 _ (by omega)]; exact w1,by rw [q3 _ (by omega)]; exact w2,w3.fz hz,w4⟩
              ·by_cases e : j = i
               ·subst e; exact .inr (by omega)
               ·exact hK j (by omega)
             ·show m - (i + 1) < m - i; omega
      ·have hk6 : ¬ (kd i = 6):=by simpa using hk6
       refine rG [4,5,6,8,9,10,34,41,42,43,44,47,48,49,50,51,52,53,54,57,58,59,60,61,62,63,64,65,66] ?_
       refine GK.code ?_
       refine GC.cond rfl (fun hk7=>?_) (fun hk7=>?_)
       ·have hk7 : kd i = 7:=by simpa using hk7
        rcases he.s.h with ⟨e1,e2,e3⟩ | ⟨sb,so,cp',fr,sz,ta,tn,tc,wd,e1,hsc,hst⟩
        all_goals (try rw [e1])
        rw [e2,e3]
        ·refine GC.seq ?_
         refine GC.seq (GC.draw [(0,0),(1,1),(2,0),(3,0),(4,0),(6,0),(5,1),(7,0),(8,0),(9,0),(10,0),(11,0),(12,1),(13,0),(14,0),(15,1),(16,0),(17,0),(18,0),(19,0),(20,0),(22,0),(23,0),(21,1),(24,1),(25,0),(26,0),(27,1),(28,2),(29,0),(30,0)] mixed (by kernel_rfl) (by rintro _ _ _ _ ⟨_,_,_,_,h,_⟩ _; cases h) ?_)
         refine wK 4 [4,5,6,8,9,10,40,41,42,43,44,47,48,49,50,51,52,53,54,57,58,59,60,61,62,63,64,65,66] ?_
         refine GW.spl 40 rfl rfl rfl (fun g1=>?_) (fun g1=>?_)
         ·have g1 : bs i < 0:=by simpa using g1
          refine wK 6 [4,6,8,9,10,41,42,43,44,46,47,48,49,50,51,52,53,54,57,58,59,60,61,62,63,64,65,66] ?_
          refine GW.spl 46 rfl rfl rfl (fun g2=>?_) (fun g2=>?_)
          ·refine wK 5 [4,6,8,9,10,41,42,43,44,46,47,48,49,50,51,52,53,54,57,58,59,60,61,62,63,64,65,66] ?_
           refine wK 1 [4,6,8,9,10,41,42,43,44,46,47,48,49,50,51,52,53,54,57,58,59,60,61,62,63,64,65,66] ?_
           refine wK 4 [4,6,8,9,10,41,42,43,44,47,48,49,50,51,52,53,54,56,57,58,59,60,61,62,63,64,65,66] ?_
           refine GW.spl 56 rfl rfl rfl (fun g3=>?_) (fun g3=>?_)
           ·refine wK 7 [4,6,8,9,10,41,42,43,44,47,48,49,50,51,52,53,54,56,57,58,59,60,61,62,63,64,65,66] ?_
            refine wK 1 [4,6,8,9,10,41,42,43,44,47,48,49,50,51,52,53,54,56,57,58,59,60,61,62,63,64,65,66] ?_
            refine wK 1 [4,6,8,9,10,41,42,43,44,47,48,49,50,51,52,53,54,56,57,58,59,60,61,62,63,64,65,66] ?_
            refine wF [4,6,8,9,10,41,42,43,44,47,48,49,50,51,52,53,54,57,58,59,60,61,62,63,64,65,66,67] (GK.code ?_)
            refine GC.condT rfl ?_
            refine rS [2,3] ?_
            refine GC.ret ?_
            refine fR (.inl rfl) rfl (by trivial) ((F,false,0,V)) [0] rfl rfl rfl rfl (fun h=>(by cases h))
           ·cases g3
          ·cases g2
         ·have g1 : ¬ (bs i < 0):=by simpa using g1
          refine wK 6 [4,6,8,9,10,41,42,43,44,46,47,48,49,50,51,52,53,54,57,58,59,60,61,62,63,64,65,66] ?_
          refine GW.spl 46 rfl rfl rfl (fun g2=>?_) (fun g2=>?_)
          ·have g2 : bs i ≥ (i : Int):=by simpa using g2
           refine wK 5 [4,6,8,9,10,41,42,43,44,46,47,48,49,50,51,52,53,54,57,58,59,60,61,62,63,64,65,66] ?_
           refine wK 1 [4,6,8,9,10,41,42,43,44,46,47,48,49,50,51,52,53,54,57,58,59,60,61,62,63,64,65,66] ?_
           refine wK 4 [4,6,8,9,10,41,42,43,44,47,48,49,50,51,52,53,54,56,57,58,59,60,61,62,63,64,65,66] ?_
           refine GW.spl 56 rfl rfl rfl (fun g3=>?_) (fun g3=>?_)
           ·refine wK 7 [4,6,8,9,10,41,42,43,44,47,48,49,50,51,52,53,54,56,57,58,59,60,61,62,63,64,65,66] ?_
            refine wK 1 [4,6,8,9,10,41,42,43,44,47,48,49,50,51,52,53,54,56,57,58,59,60,61,62,63,64,65,66] ?_
            refine wK 1 [4,6,8,9,10,41,42,43,44,47,48,49,50,51,52,53,54,56,57,58,59,60,61,62,63,64,65,66] ?_
            refine wF [4,6,8,9,10,41,42,43,44,47,48,49,50,51,52,53,54,57,58,59,60,61,62,63,64,65,66,67] (GK.code ?_)
            refine GC.condT rfl ?_
            refine rS [2,3] ?_
            refine GC.ret ?_
            refine fR (.inl rfl) rfl (by trivial) ((F,false,0,V)) [0] rfl rfl rfl rfl (fun h=>(by cases h))
           ·cases g3
          ·have g2 : ¬ (bs i ≥ (i : Int)):=by simpa using g2
           obtain ⟨k0,ta0,tn0,tc0,T0,hv1,hv2,hKn,hk4⟩:=hO (bs i).toNat (by omega)
           refine wK 5 [4,6,8,9,10,41,42,43,44,46,47,48,49,50,51,52,53,54,57,58,59,60,61,62,63,64,65,66] ?_
           refine GW.lstep rfl rfl (LStep.at rfl rfl rfl rfl rfl (by show 0 + (bs i).toNat * 2 + 1 < cap * 2; omega) (by show SV.v (V (0 + (bs i).toNat * 2 + 1)) = .v (.slice ta0 tn0 tc0); rw [Nat.zero_add]; exact congrArg SV.v hv2)) rfl (GW.force [4,6,8,9,10,41,42,43,44,46,47,48,49,50,51,52,53,54,57,58,59,60,61,62,63,64,65,66] rfl ?_)
           refine wK 4 [4,6,8,9,10,41,42,43,44,47,48,49,50,51,52,53,54,56,57,58,59,60,61,62,63,64,65,66] ?_
           refine GW.spl 56 rfl rfl rfl (fun g3=>?_) (fun g3=>?_)
           ·have g3 : (tn0 : Int) = 0:=by simpa using g3
            refine wK 7 [4,6,8,9,10,41,42,43,44,47,48,49,50,51,52,53,54,56,57,58,59,60,61,62,63,64,65,66] ?_
            refine wK 1 [4,6,8,9,10,41,42,43,44,47,48,49,50,51,52,53,54,56,57,58,59,60,61,62,63,64,65,66] ?_
            refine wK 1 [4,6,8,9,10,41,42,43,44,47,48,49,50,51,52,53,54,56,57,58,59,60,61,62,63,64,65,66] ?_
            refine wF [4,6,8,9,10,41,42,43,44,47,48,49,50,51,52,53,54,57,58,59,60,61,62,63,64,65,66,67] (GK.code ?_)
            refine GC.condT rfl ?_
            refine rS [2,3] ?_
            refine GC.ret ?_
            refine fR (.inl rfl) rfl (by trivial) ((F,false,0,V)) [0] rfl rfl rfl rfl (fun h=>(by cases h))
           ·have g3 : ¬ ((tn0 : Int) = 0):=by simpa using g3
            refine wK 7 [4,6,8,9,10,41,42,43,44,47,48,49,50,51,52,53,54,56,57,58,59,60,61,62,63,64,65,66] ?_
            refine GW.lstep rfl rfl (LStep.at rfl rfl rfl rfl rfl (by show 0 + (bs i).toNat * 2 + 1 < cap * 2; omega) (by show SV.v (V (0 + (bs i).toNat * 2 + 1)) = .v (.slice ta0 tn0 tc0); rw [Nat.zero_add]; exact congrArg SV.v hv2)) rfl (GW.force [4,6,8,9,10,41,42,43,44,47,48,49,50,51,52,53,54,56,57,58,59,60,61,62,63,64,65,66] rfl ?_)
            refine GW.op rfl rfl (cR rfl (f29n _ _ ta0 tn0 tc0) [] rfl rfl rfl rfl fun r hr=>?_)
            subst hr
            refine wL [4,6,8,9,10,41,42,43,44,47,48,49,50,51,52,53,54,56,57,58,59,60,61,62,63,64,65,66] rfl ?_
            refine wF [4,6,8,9,10,41,42,43,44,47,48,49,50,51,52,53,54,57,58,59,60,61,62,63,64,65,66,67] (GK.code ?_)
            refine GC.condT rfl ?_
            refine rS [2,3] ?_
            refine GC.ret ?_
            refine fR (.inl rfl) rfl (by trivial) ((F,false,0,V)) [0] rfl rfl rfl rfl (fun h=>(by cases h))
        ·refine GC.seq ?_
         refine GC.seq (GC.draw [(0,0),(1,1),(2,0),(3,0),(4,0),(6,0),(5,1),(7,0),(8,0),(9,0),(10,0),(11,0),(12,1),(13,0),(14,0),(15,1),(16,0),(17,0),(18,0),(19,0),(20,0),(22,0),(23,0),(21,1),(24,1),(25,0),(26,0),(27,1),(28,2),(29,0),(30,0)] mixed (by kernel_rfl) (by rintro _ _ _ _ ⟨_,_,_,_,h,_⟩ _; cases h) ?_)
         refine wK 4 [4,5,6,8,9,10,40,41,42,43,44,47,48,49,50,51,52,53,54,57,58,59,60,61,62,63,64,65,66] ?_
         refine GW.spl 40 rfl rfl rfl (fun g1=>?_) (fun g1=>?_)
         ·have g1 : bs i < 0:=by simpa using g1
          refine wK 6 [4,6,8,9,10,41,42,43,44,46,47,48,49,50,51,52,53,54,57,58,59,60,61,62,63,64,65,66] ?_
          refine GW.spl 46 rfl rfl rfl (fun g2=>?_) (fun g2=>?_)
          ·refine wK 5 [4,6,8,9,10,41,42,43,44,46,47,48,49,50,51,52,53,54,57,58,59,60,61,62,63,64,65,66] ?_
           refine wK 1 [4,6,8,9,10,41,42,43,44,46,47,48,49,50,51,52,53,54,57,58,59,60,61,62,63,64,65,66] ?_
           refine wK 4 [4,6,8,9,10,41,42,43,44,47,48,49,50,51,52,53,54,56,57,58,59,60,61,62,63,64,65,66] ?_
           refine GW.spl 56 rfl rfl rfl (fun g3=>?_) (fun g3=>?_)
           ·refine wK 7 [4,6,8,9,10,41,42,43,44,47,48,49,50,51,52,53,54,56,57,58,59,60,61,62,63,64,65,66] ?_
            refine wK 1 [4,6,8,9,10,41,42,43,44,47,48,49,50,51,52,53,54,56,57,58,59,60,61,62,63,64,65,66] ?_
            refine wK 1 [4,6,8,9,10,41,42,43,44,47,48,49,50,51,52,53,54,56,57,58,59,60,61,62,63,64,65,66] ?_
            refine wF [4,6,8,9,10,41,42,43,44,47,48,49,50,51,52,53,54,57,58,59,60,61,62,63,64,65,66,67] (GK.code ?_)
            refine GC.condT rfl ?_
            refine rS [2,3] ?_
            refine GC.ret ?_
            refine fR (.inl rfl) rfl (by trivial) ((F,false,0,V)) [0] rfl rfl rfl rfl (fun h=>(by cases h))
           ·cases g3
          ·cases g2
         ·have g1 : ¬ (bs i < 0):=by simpa using g1
          refine wK 6 [4,6,8,9,10,41,42,43,44,46,47,48,49,50,51,52,53,54,57,58,59,60,61,62,63,64,65,66] ?_
          refine GW.spl 46 rfl rfl rfl (fun g2=>?_) (fun g2=>?_)
          ·have g2 : bs i ≥ (i : Int):=by simpa using g2
           refine wK 5 [4,6,8,9,10,41,42,43,44,46,47,48,49,50,51,52,53,54,57,58,59,60,61,62,63,64,65,66] ?_
           refine wK 1 [4,6,8,9,10,41,42,43,44,46,47,48,49,50,51,52,53,54,57,58,59,60,61,62,63,64,65,66] ?_
           refine wK 4 [4,6,8,9,10,41,42,43,44,47,48,49,50,51,52,53,54,56,57,58,59,60,61,62,63,64,65,66] ?_
           refine GW.spl 56 rfl rfl rfl (fun g3=>?_) (fun g3=>?_)
           ·refine wK 7 [4,6,8,9,10,41,42,43,44,47,48,49,50,51,52,53,54,56,57,58,59,60,61,62,63,64,65,66] ?_
            refine wK 1 [4,6,8,9,10,41,42,43,44,47,48,49,50,51,52,53,54,56,57,58,59,60,61,62,63,64,65,66] ?_
            refine wK 1 [4,6,8,9,10,41,42,43,44,47,48,49,50,51,52,53,54,56,57,58,59,60,61,62,63,64,65,66] ?_
            refine wF [4,6,8,9,10,41,42,43,44,47,48,49,50,51,52,53,54,57,58,59,60,61,62,63,64,65,66,67] (GK.code ?_)
            refine GC.condT rfl ?_
            refine rS [2,3] ?_
            refine GC.ret ?_
            refine fR (.inl rfl) rfl (by trivial) ((F,false,0,V)) [0] rfl rfl rfl rfl (fun h=>(by cases h))
           ·cases g3
          ·have g2 : ¬ (bs i ≥ (i : Int)):=by simpa using g2
           obtain ⟨k0,ta0,tn0,tc0,T0,hv1,hv2,hKn,hk4⟩:=hO (bs i).toNat (by omega)
           refine wK 5 [4,6,8,9,10,41,42,43,44,46,47,48,49,50,51,52,53,54,57,58,59,60,61,62,63,64,65,66] ?_
           refine GW.lstep rfl rfl (LStep.at rfl rfl rfl rfl rfl (by show 0 + (bs i).toNat * 2 + 1 < cap * 2; omega) (by show SV.v (V (0 + (bs i).toNat * 2 + 1)) = .v (.slice ta0 tn0 tc0); rw [Nat.zero_add]; exact congrArg SV.v hv2)) rfl (GW.force [4,6,8,9,10,41,42,43,44,46,47,48,49,50,51,52,53,54,57,58,59,60,61,62,63,64,65,66] rfl ?_)
           refine wK 4 [4,6,8,9,10,41,42,43,44,47,48,49,50,51,52,53,54,56,57,58,59,60,61,62,63,64,65,66] ?_
           refine GW.spl 56 rfl rfl rfl (fun g3=>?_) (fun g3=>?_)
           ·have g3 : (tn0 : Int) = 0:=by simpa using g3
            refine wK 7 [4,6,8,9,10,41,42,43,44,47,48,49,50,51,52,53,54,56,57,58,59,60,61,62,63,64,65,66] ?_
            refine wK 1 [4,6,8,9,10,41,42,43,44,47,48,49,50,51,52,53,54,56,57,58,59,60,61,62,63,64,65,66] ?_
            refine wK 1 [4,6,8,9,10,41,42,43,44,47,48,49,50,51,52,53,54,56,57,58,59,60,61,62,63,64,65,66] ?_
            refine wF [4,6,8,9,10,41,42,43,44,47,48,49,50,51,52,53,54,57,58,59,60,61,62,63,64,65,66,67] (GK.code ?_)
            refine GC.condT rfl ?_
            refine rS [2,3] ?_
            refine GC.ret ?_
            refine fR (.inl rfl) rfl (by trivial) ((F,false,0,V)) [0] rfl rfl rfl rfl (fun h=>(by cases h))
           ·have g3 : ¬ ((tn0 : Int) = 0):=by simpa using g3
            refine wK 7 [4,6,8,9,10,41,42,43,44,47,48,49,50,51,52,53,54,56,57,58,59,60,61,62,63,64,65,66] ?_
            refine GW.lstep rfl rfl (LStep.at rfl rfl rfl rfl rfl (by show 0 + (bs i).toNat * 2 + 1 < cap * 2; omega) (by show SV.v (V (0 + (bs i).toNat * 2 + 1)) = .v (.slice ta0 tn0 tc0); rw [Nat.zero_add]; exact congrArg SV.v hv2)) rfl (GW.force [4,6,8,9,10,41,42,43,44,47,48,49,50,51,52,53,54,56,57,58,59,60,61,62,63,64,65,66] rfl ?_)
            refine GW.op rfl rfl (cR rfl (f29m _ sb so (sn i) (sc i) he.s.l cp' fr sz ta tn tc wd hst ta0 tn0 tc0 hKn.l) [] rfl rfl rfl rfl fun r hr=>?_)
            rcases r with _ | _
            ·refine wL [4,6,8,9,10,41,42,43,44,47,48,49,50,51,52,53,54,56,57,58,59,60,61,62,63,64,65,66] rfl ?_
             refine wF [4,6,8,9,10,41,42,43,44,47,48,49,50,51,52,53,54,57,58,59,60,61,62,63,64,65,66,67] (GK.code ?_)
             refine GC.condT rfl ?_
             refine rS [2,3] ?_
             refine GC.ret ?_
             refine fR (.inl rfl) rfl (by trivial) ((F,false,0,V)) [0] rfl rfl rfl rfl (fun h=>(by cases h))
            ·refine wL [4,6,8,9,10,41,42,43,44,47,48,49,50,51,52,53,54,56,57,58,59,60,61,62,63,64,65,66] rfl ?_
             refine wF [4,6,8,9,10,41,42,43,44,47,48,49,50,51,52,53,54,57,58,59,60,61,62,63,64,65,66,67] (GK.code ?_)
             refine GC.condF rfl ?_
             obtain ⟨hs1,hs5,hs2,hs3⟩:=hr rfl
             rcases hKn.h with ⟨_,e,_⟩ | ⟨bb,bo,rfl,hcc,hkk⟩
             ·omega
             refine GC.skip (GK.code ?_)
             refine GC.seq (GC.draw [(0,0),(1,0),(6,0),(2,1),(3,0),(4,0),(5,1),(7,1),(8,2),(9,0)] mixed (by kernel_rfl) (by rintro _ _ _ _ ⟨_,_,_,_,h,_⟩ _; cases h) ?_)
             refine wK 6 [4,6,8,9,10,41,42,43,44,47,48,49,50,51,52,53,54,57,58,59,60,61,62,63,64,65,66,72,74] ?_
             refine GW.lstep rfl rfl (LStep.at rfl rfl rfl rfl rfl (by show 0 + (bs i).toNat * 2 + 1 < cap * 2; omega) (by show SV.v (V (0 + (bs i).toNat * 2 + 1)) = .v (.slice (some ⟨bb,bo,none⟩) tn0 tc0); rw [Nat.zero_add]; exact congrArg SV.v hv2)) rfl (GW.force [4,6,8,9,10,41,42,43,44,47,48,49,50,51,52,53,54,57,58,59,60,61,62,63,64,65,66,73,74] rfl ?_)
             refine wK 1 [4,6,8,9,10,41,42,43,44,47,48,49,50,51,52,53,54,57,58,59,60,61,62,63,64,65,66,73,75] ?_
             refine GW.op rfl rfl (cR rfl (f30 _ F sb so (sn i) (sc i) hs5 cp' fr sz ta tn tc wd hst bb bo tn0 tc0 hKn.l hcc T0 hkk hKn.r hs3) [0] rfl rfl rfl rfl ?_)
             intro ⟨l,lc,G⟩ ⟨hl1,hl2,hl3,hG⟩
             dsimp only at hl1 hl2 hl3 hG ⊢
             refine wL [4,6,8,9,10,41,42,43,44,47,48,49,50,51,52,53,54,57,58,59,60,61,62,63,64,65,66,76] rfl ?_
             refine wF [4,6,7,8,9,10,41,42,43,44,47,48,49,50,51,52,53,54,57,58,59,60,61,62,63,64,65,66] (GK.code ?_)
             refine GC.seq ?_
             refine rS [4,6,7,8,9,10,41,42,43,44,47,48,49,50,51,52,53,54,57,58,59,60,61,62,63,64,65,66,79] ?_
             refine GC.cond rfl (fun hbig=>?_) (fun hbig=>?_)
             ·have hbig : (l : Int) > 1000000:=by simpa using hbig
              refine rS [2,3] ?_
              refine GC.ret ?_
              refine fR (.inl rfl) rfl (by trivial) ((F,false,0,V)) [0] rfl rfl rfl rfl (fun h=>(by cases h))
             ·have hbig : ¬ ((l : Int) > 1000000):=by simpa using hbig
              refine GC.skip (GK.code ?_)
              refine GC.freezeS 7 3 0 rfl (by omega) rfl rfl rfl rfl fun nb F' hz=>?_
              refine GC.force [4,6,7,8,9,10] rfl ?_
              refine GC.region ?_
              refine lK 6 [7,8,9,10,41,42,43,44,47,48,49,50,51,52,53,54,57,58,59,60,61,62,63,64,65,66,80,85] ?_
              refine GL.op rfl (OpW.lstep (LStep.at rfl rfl rfl rfl rfl (by show 0 + (bs i).toNat * 2 < cap * 2; omega) (by show SV.v (V (0 + (bs i).toNat * 2)) = .v (.int .i64 k0); rw [Nat.zero_add]; exact congrArg SV.v hv1)) rfl (gF [7,8,9,10,41,42,43,44,47,48,49,50,51,52,53,54,57,58,59,60,61,62,63,64,65,66,80,86] rfl ?_))
              refine lK 3 [8,9,10,41,42,43,44,47,48,49,50,51,52,53,54,57,58,59,60,61,62,63,64,65,66,80,89] ?_
              refine GL.op rfl (OpW.appendV (N:=obN (k0) (some ⟨nb,0,none⟩) (l) (lc)) (m:=1) rfl rfl rfl rfl (Nat.le_of_ble_eq_true rfl) rfl rfl rfl rfl (Nat.le_of_ble_eq_true rfl) hc (src_slc rfl rfl (Nat.le_of_ble_eq_true rfl) (fun j hj=>by rw [Nat.zero_add]; exact ob_get j hj)) (by omega) (by show (i + 1) * 32 ≤ 140737488355328; omega) rfl ?_ rfl rfl)
              intro c' V' q1 q2 q3 q4 ρ' hp
              obtain rfl:=Option.some.inj hp; clear hp
              refine gF [8,9,10,41,42,43,44,47,48,49,50,51,52,53,54,57,58,59,60,61,62,63,64,65,66,90] rfl ?_
              refine lF [4,8,9,10,41,42,43,44,47,48,49,50,51,52,53,54,57,58,59,60,61,62,63,64,65,66] ?_
              refine GK.code ?_
              refine rG [4,8,9,10,41,42,43,44,47,48,49,50,51,52,53,54,57,58,59,60,61,62,63,64,65,66] ?_
              refine GK.back (i + 1,c',V',F') [0,1] (show (fun (i cap : Nat) (V : Nat → Value) (F : Nat → Option Obj)=>i ≤ m ∧ i ≤ cap ∧ Obs μ F V i ∧ ∀ j,j < i → okE (kd j) (n j)) (i + 1) (c') (V') (F') from ?_) ?_ (Ent.R rfl rfl rfl rfl)
              ·have q3 : ∀ j,j < i * 2 → V' j = V j:=q3
               have q4 : ∀ j,j < 1 * 2 → V' (i * 2 + j) = obN k0 (some ⟨nb,0,none⟩) l lc j:=q4
               refine ⟨hlt',q1,fun j hj=>?_,fun j hj=>?_⟩
               ·by_cases e : j = i
                ·subst e
                 exact ⟨k0,_,l,lc,G,q4 0 (by omega),q4 1 (by omega),⟨.inr ⟨nb,0,rfl,hl1,fun q hq=>.inr (by rw [Nat.zero_add]; exact hz.1 q _ (by show q < lc; omega) rfl)⟩,hG,by omega⟩,hk4⟩
                ·obtain ⟨k1,a1,n1,c1,T1,w1,w2,w3,w4⟩:=hO j (by omega)
                 exact ⟨k1,a1,n1,c1,T1,by rw [q3 _ (by omega)]; exact w1,by rw [q3 _ (by omega)]; exact w2,w3.fz hz,w4⟩
               ·by_cases e : j = i
                ·subst e; exact .inr (by omega)
                ·exact hK j (by omega)
              ·show m - (i + 1) < m - i; omega
       ·have hk7 : ¬ (kd i = 7):=by simpa using hk7
        refine rS [2,3] ?_
        refine GC.ret ?_
        refine fR (.inl rfl) rfl (by trivial) ((F,false,0,V)) [0] rfl rfl rfl rfl (fun h=>(by cases h))
 ·have hlt : ¬ ((i : Int) < m):=by simpa using hlt
  obtain rfl : i = m:=by omega
  refine GC.exit ?_
  refine GK.code ?_
  refine rS [2,3] ?_
  refine GC.ret ?_
  refine fR (.inl rfl) rfl (by trivial) ((F,true,cap,V)) [0,1] rfl rfl rfl rfl (fun _=>⟨hc,hO,hK⟩)
end Go.Proofs.YtebadfmnmhmfeaaGreatDoor.T
