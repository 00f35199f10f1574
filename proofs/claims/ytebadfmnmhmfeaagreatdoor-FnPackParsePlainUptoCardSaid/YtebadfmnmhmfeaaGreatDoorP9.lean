/- What the functions of the program do, one contract each (P31, P32, P33, P41); each states its own conditions. -/
import Derived.Test.YtebadfmnmhmfeaaGreatDoorP8
namespace Go.Proofs.YtebadfmnmhmfeaaGreatDoor.T
open Go.Proofs.YtebadfmnmhmfeaaGreatDoor.Sx Go.RowKit
set_option maxRecDepth 20000
set_option linter.unusedSimpArgs false
set_option linter.unusedVariables false
set_option linter.unnecessarySimpa false
set_option linter.unusedSectionVars false
inductive LS where
 | a
 | b (o l c : Nat)
def lsT : LS → SV
 | .a=>.v (.slice none 0 0)
 | .b o l c=>.slc 14 o l c
def lsI (B T : Nat → Int) (pe L e : Nat) (v : SV0) (eof : Bool) : LS → Prop
 | .a=>eof = false ∧ ∀ o,o ≤ 32768 → DSt B T pe L e v.p v.D v.wr v.rd v.step v.fin eof v.cl v.ro o 0
 | .b o l c=>l ≤ c ∧ c ≤ 32768 ∧ DSt B T pe L e v.p v.D v.wr v.rd v.step v.fin eof v.cl v.ro o l
def eofW (be : Nat × Nat) : Bool → Value
 | true=>EOFv be
 | false=>.nilIface
def rvG (B : Nat → Int) (rn N cap : Nat) (off : Int) (s : RdI) (t : WI) (H : Nat → Int) (D : Row) (E : Row) : GH:=srG B rn N cap 16 off s t ++ [(11,.row D),(12,.row ⟨.vals fun i=>rle (tab 401).zero i,316,401⟩),(13,.row ⟨.lst [(.v (.int .i64 0)),(.v (.int .i64 0)),(.v (.int .i64 0)),(.v (.int .i64 0)),(.v (.int .i64 0)),(.v (.int .i64 0)),(.v (.int .i64 0)),(.v (.int .i64 0)),(.v (.int .i64 0)),(.v (.int .i64 0)),(.v (.int .i64 0)),(.v (.int .i64 0)),(.v (.int .i64 0)),(.v (.int .i64 0)),(.v (.int .i64 0)),(.v (.int .i64 0)),(.v (.int .i64 0)),(.v (.int .i64 0)),(.v (.int .i64 0))],19,402⟩),(14,.row ⟨.ints .u8 H,32768,5⟩),(15,.row E)]
def rdV (be : Nat × Nat) (B : Nat → Int) (rn N cap : Nat) (st : Int) (E : Row) (v : SV0) (eof : Bool) (i : LS) : GH :=
 rvG B rn N cap (v.p : Nat) v.s v.t v.D (dcS 0 0 v.wr v.rd v.full v.b0 v.b1 v.b2 v.b3 v.step st v.fin (.v (eofW be eof)) (lsT i) v.cl v.ro) E
structure RO where
 n : Nat
 E : Nat → Int
 v : SV0
 eof : Bool
 o : Nat
 l : Nat
 c : Nat
 er : Value
structure RoI (dl : Int) (be : Nat × Nat) (B S T D : Nat → Int) (N pe L e doff m : Nat) (x : RO) : Prop where
 hn : x.n ≤ m
 hE : ∀ j,x.E j = if doff ≤ j ∧ j < doff + x.n then T (e + (j - doff)) else D j
 hl : lsI B T pe L (e + x.n) x.v x.eof (.b x.o x.l x.c)
 hs : SrD dl B S N x.v
 her : (x.er = .nilIface ∧ 0 < x.n ∧ (x.eof = true → 0 < x.l)) ∨ (x.er = EOFv be ∧ x.eof = true ∧ x.l = 0)
theorem DSt.mv {B T : Nat → Int} {pe L e p : Nat} {H : Nat → Int} {wr rd step : Nat} {fin eof : Bool} {cl : Int} {ro o : Nat} (h : DSt B T pe L e p H wr rd step fin eof cl ro o 0) (o' : Nat) (ho : o' ≤ 32768) : DSt B T pe L e p H wr rd step fin eof cl ro o' 0 :=
 ⟨h.hr,h.hw,h.hH,fun j hj=>by omega,by omega,h.hro,h.hp,h.hm,h.he⟩
theorem f212e (μ) (B : Nat → Int) (rn N cap : Nat) (off : Int) (s : RdI) (t : WI) (H : Nat → Int) (b nb wr rd : Int) (full : Bool) (b0 b1 b2 b3 : Int) (step : Nat) (st : Int) (fin : Bool) (be : Nat × Nat) (tr : SV) (cl ro : Int) (htr : IsTr tr) (hw : 0 ≤ wr ∧ wr ≤ 32768) (hrd : 0 ≤ rd ∧ rd ≤ wr) : Fun Tryz.prog μ 212 [.ptr 11 1037] (dcG B rn N cap off s t H (dcS b nb wr rd full b0 b1 b2 b3 step st fin (.v (EOFv be)) tr cl ro)) 16
  (fun y : Int × Int × Bool=>(wr = 32768 ∧ y = (0,0,true)) ∨ (wr < 32768 ∧ y = (wr,wr,full))) (fun y=>⟨.slc 14 (offS 32768 rd.toNat 0 1) (wr.toNat - rd.toNat) (32768 - rd.toNat),dcG B rn N cap off s t H (dcS b nb y.1 y.2.1 y.2.2 b0 b1 b2 b3 step st fin (.v (EOFv be)) tr cl ro),16⟩):=by
 dsimp only [dcG,srG,List.cons_append,List.nil_append]
 rcases htr with rfl | ⟨o,l,c,rfl⟩
 all_goals
  refine fE 44 Tryz.func212 fun zw zβ=>?_
  refine cF [0] ?_
  refine rS [0] ?_
  refine GC.seq (GC.draw [(0,0),(1,0),(2,0),(4,0),(5,0),(6,0),(8,0),(9,0),(10,0),(3,1),(7,1),(11,1),(12,0),(13,0)] mixed (by kernel_rfl) (by rintro _ _ _ _ ⟨_,_,_,_,h,_⟩ _; cases h) ?_)
  refine wF [0,3] (GK.code ?_)
  refine rS [0,3] ?_
  refine GC.seq ?_
  refine GC.seq (GC.draw [(0,0),(1,0),(2,0),(4,0),(5,0),(6,0),(3,1),(7,1),(8,0),(9,0)] mixed (by kernel_rfl) (by rintro _ _ _ _ ⟨_,_,_,_,h,_⟩ _; cases h) ?_)
  refine wF [0,3,33] (GK.code ?_)
  refine GC.cond rfl (fun hq=>?_) (fun hq=>?_)
  ·have hq : wr = 32768:=by simpa using hq
   refine rS [0,3] ?_
   refine rG [3] ?_
   refine GK.code ?_
   refine rS [2] ?_
   refine GC.ret ?_
   refine fR (.inl rfl) rfl (by trivial) ((0,0,true)) [0,1,2,3,4,5,6,7,8,9,10,11,12,13,14,15] rfl rfl rfl rfl (.inl ⟨hq,rfl⟩)
  ·have hq : ¬ (wr = 32768):=by simpa using hq
   refine GC.skip (GK.code ?_)
   refine rS [2] ?_
   refine GC.ret ?_
   refine fR (.inl rfl) rfl (by trivial) ((wr,wr,full)) [0,1,2,3,4,5,6,7,8,9,10,11,12,13,14,15] rfl rfl rfl rfl (.inr ⟨by omega,rfl⟩)
theorem DSt.adv {B T : Nat → Int} {pe L e p : Nat} {H : Nat → Int} {wr rd step : Nat} {fin eof : Bool} {cl : Int} {ro o l c n : Nat} (h : DSt B T pe L e p H wr rd step fin eof cl ro o l) (hn : n ≤ l) (hc : l ≤ c) : DSt B T pe L (e + n) p H wr rd step fin eof cl ro (offS c n o 1) (l - n):=by
 have ho:=offS1_le c n o
 have h1:=h.ho
 refine ⟨h.hr,h.hw,fun j hj=>?_,fun j hj=>?_,by omega,h.hro,h.hp,?_,h.he⟩
 ·rw [h.hH j hj]; congr 1; omega
 ·rw [offS_lt (by omega),Nat.add_assoc,h.hT _ (by omega)]; congr 1; omega
 ·rw [show e + n + (l - n) + (wr - rd) = e + l + (wr - rd) from by omega]; exact h.hm
theorem rdFin {dl : Int} {be : Nat × Nat} {B S T D : Nat → Int} {N pe L e doff m : Nat} {v : SV0} {eof : Bool} {o l c : Nat} {er : Value} (hlc : l ≤ c) (hc3 : c ≤ 32768) (h : DSt B T pe L e v.p v.D v.wr v.rd v.step v.fin eof v.cl v.ro o l) (hs : SrD dl B S N v)
  (her : (er = .nilIface ∧ 0 < min l m ∧ (eof = true → 0 < l - min l m)) ∨ (er = EOFv be ∧ eof = true ∧ l - min l m = 0)) :
  RoI dl be B S T D N pe L e doff m ⟨min l m,cpI D (fun j=>v.D (o + j)) doff (min l m),v,eof,offS c (min l m) o 1,l - min l m,c - min l m,er⟩:=by
 have h2:=h.adv (n:=min l m) (c:=c) (by omega) hlc
 refine ⟨by dsimp only; omega,fun j=>?_,⟨by dsimp only; omega,by dsimp only; omega,h2⟩,hs,her⟩
 dsimp only [cpI]
 by_cases e1 : doff ≤ j ∧ j < doff + min l m
 ·rw [if_pos e1,if_pos e1,h.hT _ (by omega)]
 ·rw [if_neg e1,if_neg e1]
set_option maxHeartbeats 16000000 in
theorem f311 (μ) (dl : Int) (be : Nat × Nat) (hE : muAt μ 0 0 = some (EOFv be)) (B S T D : Nat → Int) (rn N cap pe L e doff m dcap drn dre : Nat) (d : Dat B rn N cap) (st : Int) (hpe : pe ≤ N) (v : SV0) (eof : Bool) (i : LS) (hi : lsI B T pe L e v eof i) (h : SrD dl B S N v) (hm : 0 < m) (hd : doff + m ≤ drn) (hmc : m ≤ dcap) :
  FunC Tryz.prog μ 311 [.ptr 11 0,.slc 15 doff m dcap] (rdV be B rn N cap st ⟨.ints .u8 D,drn,dre⟩ v eof i) 16 17 (RoI dl be B S T D N pe L e doff m)
  (fun x=>⟨.tup [.v (.int .i64 (x.n : Nat)),.v x.er],rdV be B rn N cap st ⟨.ints .u8 x.E,drn,dre⟩ x.v x.eof (.b x.o x.l x.c),17⟩):=by
 have hN2:=d.hN2
 have hi0:=hi
 rcases i with _ | ⟨o0,l0,c0⟩ <;> rcases eof with _ | _
 rotate_left
 ·exact absurd hi.1 (by decide)
 all_goals
  dsimp only [rdV,rvG,srG,List.cons_append,List.nil_append]
  refine fE 75 Tryz.func311 fun zw zβ=>?_
  refine cF [0,1,61,62,63,64,65,66] ?_
  refine rS [0,1,61,62,63,64,65,66] ?_
  refine GC.block ?_
  first | refine GC.loop (ι:=SV0 × Bool × LS) (fun z=>lsI B T pe L e z.1 z.2.1 z.2.2 ∧ SrD dl B S N z.1) (fun z=>mesD pe z.1.p z.1.step) (fun z=>⟨[(0,.ptr 11 0),(1,.slc 15 doff m dcap)],rdV be B rn N cap st ⟨.ints .u8 D,drn,dre⟩ z.1 z.2.1 z.2.2,17,[]⟩) (v,false,.a) ⟨hi0,h⟩ rfl ?_ | refine GC.loop (ι:=SV0 × Bool × LS) (fun z=>lsI B T pe L e z.1 z.2.1 z.2.2 ∧ SrD dl B S N z.1) (fun z=>mesD pe z.1.p z.1.step) (fun z=>⟨[(0,.ptr 11 0),(1,.slc 15 doff m dcap)],rdV be B rn N cap st ⟨.ints .u8 D,drn,dre⟩ z.1 z.2.1 z.2.2,17,[]⟩) (v,false,.b o0 l0 c0) ⟨hi0,h⟩ rfl ?_ | refine GC.loop (ι:=SV0 × Bool × LS) (fun z=>lsI B T pe L e z.1 z.2.1 z.2.2 ∧ SrD dl B S N z.1) (fun z=>mesD pe z.1.p z.1.step) (fun z=>⟨[(0,.ptr 11 0),(1,.slc 15 doff m dcap)],rdV be B rn N cap st ⟨.ints .u8 D,drn,dre⟩ z.1 z.2.1 z.2.2,17,[]⟩) (v,true,.b o0 l0 c0) ⟨hi0,h⟩ rfl ?_
  clear hi0 hi h
  rintro ⟨v,eof,i⟩ ⟨hi,hs⟩
  dsimp only at hi hs
  dsimp only [rdV,rvG,srG,List.cons_append,List.nil_append]
  rcases i with _ | ⟨o,l,c⟩
  ·obtain ⟨rfl,hi2⟩:=hi
   refine GC.force [0,1] rfl ?_
   refine cF [0,1,61,62,63,64,65,66] ?_
   refine GC.block (GC.seq ?_)
   refine rS [0,1,12,61,62,63,64,65,66] ?_
   refine GC.condF rfl (GC.skip (GK.code (GC.seq ?_)))
   refine rS [0,1,44,61,62,63,64,65,66] ?_
   refine GC.condF rfl (GC.skip (GK.code (GL.seqR ?_)))
   refine lK 5 [0,1,52,53,61,62,63,64,65,66] ?_
   refine GL.op rfl (OpW.callF rfl rfl (fstep _ dl be hE B S T rn N cap pe L e v.p v.ps v.s v.t d hs.1 hs.2 v.D v.wr v.rd v.ro 0 v.full _ _ _ _ v.step st v.fin _ v.cl (.inl rfl) hpe (hi2 0 (by decide))) [0,1,2,3,4,5,6,7,8,9,10,11,12,13,14,16] rfl rfl rfl rfl ?_)
   intro y hy ρ' hp
   obtain rfl:=Option.some.inj hp; clear hp
   rcases y with ⟨w,o2,l2⟩ | ⟨w,o2,l2⟩ | w | w
   ·obtain ⟨h1,h2,h3,h4⟩:=hy
    refine gF [0,1,61,62,63,64,65,66] rfl ?_
    refine lF [0,1,61,62,63,64,65,66] (GK.code ?_)
    refine rS [0,1,61,62,63,64,65,66,67] ?_
    refine GC.condF rfl (GC.skip ?_)
    refine GK.back ((w,false,.b o2 l2 (32768 - o2))) [0,1,2,3,4,5,6,7,8,9,10,11,12,13,14,15,16] ?_ ?_ (Ent.R rfl rfl rfl rfl)
    ·exact ⟨⟨by have:=h1.ho; omega,by omega,h1⟩,h4⟩
    ·exact h3
   ·obtain ⟨h1,h3,h4⟩:=hy
    refine gF [0,1,61,62,63,64,65,66] rfl ?_
    refine lF [0,1,61,62,63,64,65,66] (GK.code ?_)
    refine rS [0,1,61,62,63,64,65,66,67] ?_
    refine GC.cond rfl (fun hl2=>?_) (fun hl2=>?_)
    ·have hl2 : (l2 : Int) = 0:=by simpa using hl2
     obtain rfl : l2 = 0:=by omega
     have hww:=h1.he rfl
     have hw3:=h1.hw
     have h1 : ∀ o,o ≤ 32768 → DSt B T pe L e w.p w.D w.wr w.rd w.step w.fin true w.cl w.ro o 0:=fun o ho=>h1.mv o ho
     refine GC.region ?_
     refine lK 4 [0,1,61,62,63,64,65,66,68,71] ?_
     refine GL.op rfl (cR rfl (f212e _ B rn N cap _ w.s w.t w.D 0 0 w.wr w.rd w.full w.b0 w.b1 w.b2 w.b3 w.step st w.fin be _ w.cl w.ro (.inr ⟨_,_,_,rfl⟩) ⟨by omega,by omega⟩ ⟨by omega,by omega⟩) [0,1,2,3,4,5,6,7,8,9,10,11,12,13,14,16] rfl rfl rfl rfl fun y hy=>?_)
     obtain ⟨y1,y2,y3⟩:=y
     obtain ⟨hq1,hq2⟩ : (w.wr : Int) < 32768 ∧ (y1,y2,y3) = ((w.wr : Int),(w.wr : Int),w.full):=by rcases hy with ⟨h,_⟩ | h; omega; exact h
     cases hq2
     dsimp only
     refine gF [0,1,61,62,63,64,65,66,68,72] rfl ?_
     refine lF [0,1,61,62,63,64,65,66] ?_
     refine GK.back (({w with rd:=w.wr},true,.b (offS 32768 w.rd 0 1) (w.wr - w.rd) (32768 - w.rd))) [0,1,2,3,4,5,6,7,8,9,10,11,12,13,14,15,16] ?_ ?_ (Ent.R rfl rfl rfl rfl)
     ·refine ⟨⟨by omega,by omega,?_⟩,h4⟩
      rw [offS_lt (by omega),Nat.zero_add,← hww,Nat.sub_self]
      have h2:=h1 w.wr (by omega); rw [← hww] at h2; exact h2
     ·exact h3
    ·have hl2 : ¬ ((l2 : Int) = 0):=by simpa using hl2
     refine GC.skip ?_
     refine GK.back ((w,true,.b o2 l2 (32768 - o2))) [0,1,2,3,4,5,6,7,8,9,10,11,12,13,14,15,16] ?_ ?_ (Ent.R rfl rfl rfl rfl)
     ·exact ⟨⟨by have:=h1.ho; omega,by omega,h1⟩,h4⟩
     ·exact h3
   ·obtain ⟨h1,h3,h4⟩:=hy
    refine gF [0,1,61,62,63,64,65,66] rfl ?_
    refine lF [0,1,61,62,63,64,65,66] (GK.code ?_)
    refine rS [0,1,61,62,63,64,65,66,67] ?_
    refine GC.condF rfl (GC.skip ?_)
    refine GK.back ((w,false,.a)) [0,1,2,3,4,5,6,7,8,9,10,11,12,13,14,15,16] ?_ ?_ (Ent.R rfl rfl rfl rfl)
    ·exact ⟨⟨rfl,h1⟩,h4⟩
    ·exact h3
   ·obtain ⟨h1,h3,h4⟩:=hy
    refine gF [0,1,61,62,63,64,65,66] rfl ?_
    refine lF [0,1,61,62,63,64,65,66] (GK.code ?_)
    refine rS [0,1,61,62,63,64,65,66,67] ?_
    refine GC.condT rfl ?_
    have hww:=(h1 0 (by decide)).he rfl
    have hw3:=(h1 0 (by decide)).hw
    refine GC.region ?_
    refine lK 4 [0,1,61,62,63,64,65,66,68,71] ?_
    refine GL.op rfl (cR rfl (f212e _ B rn N cap _ w.s w.t w.D 0 0 w.wr w.rd w.full w.b0 w.b1 w.b2 w.b3 w.step st w.fin be _ w.cl w.ro (.inl rfl) ⟨by omega,by omega⟩ ⟨by omega,by omega⟩) [0,1,2,3,4,5,6,7,8,9,10,11,12,13,14,16] rfl rfl rfl rfl fun y hy=>?_)
    obtain ⟨y1,y2,y3⟩:=y
    obtain ⟨hq1,hq2⟩ : (w.wr : Int) < 32768 ∧ (y1,y2,y3) = ((w.wr : Int),(w.wr : Int),w.full):=by rcases hy with ⟨h,_⟩ | h; omega; exact h
    cases hq2
    dsimp only
    refine gF [0,1,61,62,63,64,65,66,68,72] rfl ?_
    refine lF [0,1,61,62,63,64,65,66] ?_
    refine GK.back (({w with rd:=w.wr},true,.b (offS 32768 w.rd 0 1) (w.wr - w.rd) (32768 - w.rd))) [0,1,2,3,4,5,6,7,8,9,10,11,12,13,14,15,16] ?_ ?_ (Ent.R rfl rfl rfl rfl)
    ·refine ⟨⟨by omega,by omega,?_⟩,h4⟩
     rw [offS_lt (by omega),Nat.zero_add,← hww,Nat.sub_self]
     have h2:=h1 w.wr (by omega); rw [← hww] at h2; exact h2
    ·exact h3
  ·rcases eof with _ | _
   refine cF [0,1,61,62,63,64,65,66] ?_
   ·obtain ⟨hlc,hc3,hi2⟩:=hi
    have ho3:=hi2.ho
    refine GC.force [0,1] rfl ?_
    refine GC.block (GC.seq ?_)
    refine rS [0,1,12,61,62,63,64,65,66] ?_
    refine GC.cond rfl (fun hl=>?_) (fun hl=>?_)
    ·have hl : (0 : Int) < (l : Int):=by simpa using hl
     refine GL.seqR ?_
     refine lK 5 [0,13,17] ?_
     refine GL.op rfl (OpW.copyI (m:=l) (N:=fun j=>v.D (o + j)) rfl rfl rfl rfl rfl rfl (by omega) (src_slc rfl rfl (by show o + l * 1 ≤ 32768; omega) (fun j _=>rfl)) rfl ?_)
     refine gF [0,18] rfl ?_
     refine lF [0,6] (GK.code ?_)
     refine rS [0,6] ?_
     refine GC.seq ?_
     refine rS [0,6,33] ?_
     refine GC.cond rfl (fun hl2=>?_) (fun hl2=>?_)
     ·have hl2 : ((l - min l m : Nat) : Int) = 0:=by simpa using hl2
      refine GC.seq (GC.draw [(0,0),(1,0),(2,0),(3,0),(5,0),(4,1),(6,0)] mixed (by kernel_rfl) (by rintro _ _ _ _ ⟨_,_,_,_,h,_⟩ _; cases h) ?_)
      refine wF [4,5] (GK.code ?_)
      refine GC.ret ?_
      refine fR (.inl rfl) rfl (by trivial) ⟨min l m,_,v,false,offS c (min l m) o 1,l - min l m,c - min l m,.nilIface⟩ [0,1,2,3,4,5,6,7,8,9,10,11,12,13,14,15,16] rfl rfl rfl rfl (rdFin hlc hc3 hi2 hs (.inl ⟨rfl,by omega,fun h=>by cases h⟩))
     ·have hl2 : ¬ (((l - min l m : Nat) : Int) = 0):=by simpa using hl2
      refine GC.skip (GK.code ?_)
      refine rS [4,5] ?_
      refine GC.ret ?_
      refine fR (.inl rfl) rfl (by trivial) ⟨min l m,_,v,false,offS c (min l m) o 1,l - min l m,c - min l m,.nilIface⟩ [0,1,2,3,4,5,6,7,8,9,10,11,12,13,14,15,16] rfl rfl rfl rfl (rdFin hlc hc3 hi2 hs (.inl ⟨rfl,by omega,fun h=>by cases h⟩))
    ·have hl : ¬ ((0 : Int) < (l : Int)):=by simpa using hl
     obtain rfl : l = 0:=by omega
     refine GC.skip (GK.code (GC.seq ?_))
     refine rS [0,1,44,61,62,63,64,65,66] ?_
     refine GC.condF rfl (GC.skip (GK.code (GL.seqR ?_)))
     refine lK 5 [0,1,52,53,61,62,63,64,65,66] ?_
     refine GL.op rfl (OpW.callF rfl rfl (fstep _ dl be hE B S T rn N cap pe L e v.p v.ps v.s v.t d hs.1 hs.2 v.D v.wr v.rd v.ro o v.full _ _ _ _ v.step st v.fin _ v.cl (.inr ⟨_,_,_,rfl⟩) hpe (hi2)) [0,1,2,3,4,5,6,7,8,9,10,11,12,13,14,16] rfl rfl rfl rfl ?_)
     intro y hy ρ' hp
     obtain rfl:=Option.some.inj hp; clear hp
     rcases y with ⟨w,o2,l2⟩ | ⟨w,o2,l2⟩ | w | w
     ·obtain ⟨h1,h2,h3,h4⟩:=hy
      refine gF [0,1,61,62,63,64,65,66] rfl ?_
      refine lF [0,1,61,62,63,64,65,66] (GK.code ?_)
      refine rS [0,1,61,62,63,64,65,66,67] ?_
      refine GC.condF rfl (GC.skip ?_)
      refine GK.back ((w,false,.b o2 l2 (32768 - o2))) [0,1,2,3,4,5,6,7,8,9,10,11,12,13,14,15,16] ?_ ?_ (Ent.R rfl rfl rfl rfl)
      ·exact ⟨⟨by have:=h1.ho; omega,by omega,h1⟩,h4⟩
      ·exact h3
     ·obtain ⟨h1,h3,h4⟩:=hy
      refine gF [0,1,61,62,63,64,65,66] rfl ?_
      refine lF [0,1,61,62,63,64,65,66] (GK.code ?_)
      refine rS [0,1,61,62,63,64,65,66,67] ?_
      refine GC.cond rfl (fun hl2=>?_) (fun hl2=>?_)
      ·have hl2 : (l2 : Int) = 0:=by simpa using hl2
       obtain rfl : l2 = 0:=by omega
       have hww:=h1.he rfl
       have hw3:=h1.hw
       have h1 : ∀ o,o ≤ 32768 → DSt B T pe L e w.p w.D w.wr w.rd w.step w.fin true w.cl w.ro o 0:=fun o ho=>h1.mv o ho
       refine GC.region ?_
       refine lK 4 [0,1,61,62,63,64,65,66,68,71] ?_
       refine GL.op rfl (cR rfl (f212e _ B rn N cap _ w.s w.t w.D 0 0 w.wr w.rd w.full w.b0 w.b1 w.b2 w.b3 w.step st w.fin be _ w.cl w.ro (.inr ⟨_,_,_,rfl⟩) ⟨by omega,by omega⟩ ⟨by omega,by omega⟩) [0,1,2,3,4,5,6,7,8,9,10,11,12,13,14,16] rfl rfl rfl rfl fun y hy=>?_)
       obtain ⟨y1,y2,y3⟩:=y
       obtain ⟨hq1,hq2⟩ : (w.wr : Int) < 32768 ∧ (y1,y2,y3) = ((w.wr : Int),(w.wr : Int),w.full):=by rcases hy with ⟨h,_⟩ | h; omega; exact h
       cases hq2
       dsimp only
       refine gF [0,1,61,62,63,64,65,66,68,72] rfl ?_
       refine lF [0,1,61,62,63,64,65,66] ?_
       refine GK.back (({w with rd:=w.wr},true,.b (offS 32768 w.rd 0 1) (w.wr - w.rd) (32768 - w.rd))) [0,1,2,3,4,5,6,7,8,9,10,11,12,13,14,15,16] ?_ ?_ (Ent.R rfl rfl rfl rfl)
       ·refine ⟨⟨by omega,by omega,?_⟩,h4⟩
        rw [offS_lt (by omega),Nat.zero_add,← hww,Nat.sub_self]
        have h2:=h1 w.wr (by omega); rw [← hww] at h2; exact h2
       ·exact h3
      ·have hl2 : ¬ ((l2 : Int) = 0):=by simpa using hl2
       refine GC.skip ?_
       refine GK.back ((w,true,.b o2 l2 (32768 - o2))) [0,1,2,3,4,5,6,7,8,9,10,11,12,13,14,15,16] ?_ ?_ (Ent.R rfl rfl rfl rfl)
       ·exact ⟨⟨by have:=h1.ho; omega,by omega,h1⟩,h4⟩
       ·exact h3
     ·obtain ⟨h1,h3,h4⟩:=hy
      refine gF [0,1,61,62,63,64,65,66] rfl ?_
      refine lF [0,1,61,62,63,64,65,66] (GK.code ?_)
      refine rS [0,1,61,62,63,64,65,66,67] ?_
      refine GC.condF rfl (GC.skip ?_)
      refine GK.back ((w,false,.b o 0 c)) [0,1,2,3,4,5,6,7,8,9,10,11,12,13,14,15,16] ?_ ?_ (Ent.R rfl rfl rfl rfl)
      ·exact ⟨⟨hlc,hc3,h1 o hi2.ho⟩,h4⟩
      ·exact h3
     ·obtain ⟨h1,h3,h4⟩:=hy
      refine gF [0,1,61,62,63,64,65,66] rfl ?_
      refine lF [0,1,61,62,63,64,65,66] (GK.code ?_)
      refine rS [0,1,61,62,63,64,65,66,67] ?_
      refine GC.condT rfl ?_
      have hww:=(h1 0 (by decide)).he rfl
      have hw3:=(h1 0 (by decide)).hw
      refine GC.region ?_
      refine lK 4 [0,1,61,62,63,64,65,66,68,71] ?_
      refine GL.op rfl (cR rfl (f212e _ B rn N cap _ w.s w.t w.D 0 0 w.wr w.rd w.full w.b0 w.b1 w.b2 w.b3 w.step st w.fin be _ w.cl w.ro (.inr ⟨_,_,_,rfl⟩) ⟨by omega,by omega⟩ ⟨by omega,by omega⟩) [0,1,2,3,4,5,6,7,8,9,10,11,12,13,14,16] rfl rfl rfl rfl fun y hy=>?_)
      obtain ⟨y1,y2,y3⟩:=y
      obtain ⟨hq1,hq2⟩ : (w.wr : Int) < 32768 ∧ (y1,y2,y3) = ((w.wr : Int),(w.wr : Int),w.full):=by rcases hy with ⟨h,_⟩ | h; omega; exact h
      cases hq2
      dsimp only
      refine gF [0,1,61,62,63,64,65,66,68,72] rfl ?_
      refine lF [0,1,61,62,63,64,65,66] ?_
      refine GK.back (({w with rd:=w.wr},true,.b (offS 32768 w.rd 0 1) (w.wr - w.rd) (32768 - w.rd))) [0,1,2,3,4,5,6,7,8,9,10,11,12,13,14,15,16] ?_ ?_ (Ent.R rfl rfl rfl rfl)
      ·refine ⟨⟨by omega,by omega,?_⟩,h4⟩
       rw [offS_lt (by omega),Nat.zero_add,← hww,Nat.sub_self]
       have h2:=h1 w.wr (by omega); rw [← hww] at h2; exact h2
      ·exact h3
   ·obtain ⟨hlc,hc3,hi2⟩:=hi
    have ho3:=hi2.ho
    refine GC.force [0,1] rfl ?_
    refine GC.block (GC.seq ?_)
    refine rS [0,1,12,61,62,63,64,65,66] ?_
    refine GC.cond rfl (fun hl=>?_) (fun hl=>?_)
    ·have hl : (0 : Int) < (l : Int):=by simpa using hl
     refine GL.seqR ?_
     refine lK 5 [0,13,17] ?_
     refine GL.op rfl (OpW.copyI (m:=l) (N:=fun j=>v.D (o + j)) rfl rfl rfl rfl rfl rfl (by omega) (src_slc rfl rfl (by show o + l * 1 ≤ 32768; omega) (fun j _=>rfl)) rfl ?_)
     refine gF [0,18] rfl ?_
     refine lF [0,6] (GK.code ?_)
     refine rS [0,6] ?_
     refine GC.seq ?_
     refine rS [0,6,33] ?_
     refine GC.cond rfl (fun hl2=>?_) (fun hl2=>?_)
     ·have hl2 : ((l - min l m : Nat) : Int) = 0:=by simpa using hl2
      refine GC.seq (GC.draw [(0,0),(1,0),(2,0),(3,0),(5,0),(4,1),(6,0)] mixed (by kernel_rfl) (by rintro _ _ _ _ ⟨_,_,_,_,h,_⟩ _; cases h) ?_)
      refine wF [4,5] (GK.code ?_)
      refine GC.ret ?_
      refine fR (.inl rfl) rfl (by trivial) ⟨min l m,_,v,true,offS c (min l m) o 1,l - min l m,c - min l m,EOFv be⟩ [0,1,2,3,4,5,6,7,8,9,10,11,12,13,14,15,16] rfl rfl rfl rfl (rdFin hlc hc3 hi2 hs (.inr ⟨rfl,rfl,by omega⟩))
     ·have hl2 : ¬ (((l - min l m : Nat) : Int) = 0):=by simpa using hl2
      refine GC.skip (GK.code ?_)
      refine rS [4,5] ?_
      refine GC.ret ?_
      refine fR (.inl rfl) rfl (by trivial) ⟨min l m,_,v,true,offS c (min l m) o 1,l - min l m,c - min l m,.nilIface⟩ [0,1,2,3,4,5,6,7,8,9,10,11,12,13,14,15,16] rfl rfl rfl rfl (rdFin hlc hc3 hi2 hs (.inl ⟨rfl,by omega,fun _=>by omega⟩))
    ·have hl : ¬ ((0 : Int) < (l : Int)):=by simpa using hl
     obtain rfl : l = 0:=by omega
     refine GC.skip (GK.code (GC.seq ?_))
     refine rS [0,1,44,61,62,63,64,65,66] ?_
     refine GC.condT rfl ?_
     refine GC.seq (GC.draw [(0,0),(1,0),(2,0),(4,0),(3,1),(5,0)] mixed (by kernel_rfl) (by rintro _ _ _ _ ⟨_,_,_,_,h,_⟩ _; cases h) ?_)
     refine wF [4,5] (GK.code ?_)
     refine GC.ret ?_
     refine fR (.inl rfl) rfl (by trivial) ⟨0,D,v,true,o,0,c,EOFv be⟩ [0,1,2,3,4,5,6,7,8,9,10,11,12,13,14,15,16] rfl rfl rfl rfl (⟨by dsimp only; omega,fun j=>by dsimp only; rw [if_neg (by omega)],⟨by dsimp only; omega,hc3,hi2⟩,hs,.inr ⟨rfl,rfl,rfl⟩⟩)
theorem or_hi {lo hi k : Nat} (h : lo < 2 ^ k) (h2 : lo + hi * 2 ^ k < 4294967296) : bitZ .or 32 (lo : Int) (w32 ((hi : Int) * 2 ^ k)) = ((lo + hi * 2 ^ k : Nat) : Int):=by
 have e : w32 ((hi : Int) * 2 ^ k) = ((hi * 2 ^ k : Nat) : Int):=by
  have : ((hi : Int) * 2 ^ k) = ((hi * 2 ^ k : Nat) : Int):=by norm_cast
  rw [this]; unfold w32; omega
 rw [e,bitZ_or (by omega) (by show (_ : Int) < 4294967296; omega) (by omega) (by show (_ : Int) < 4294967296; omega),Int.toNat_natCast,Int.toNat_natCast,Nat.or_comm]
 have:=Nat.two_pow_add_eq_or_of_lt (i:=k) (b:=lo) h hi
 rw [Nat.mul_comm] at this
 rw [← this]; congr 1; omega
def IsW (V : Nat → Value) (off x : Nat) : Prop:=x < 4294967296 ∧ V off = .int .u8 ((x / 16777216 : Nat) : Int) ∧ V (off + 1) = .int .u8 ((x / 65536 % 256 : Nat) : Int) ∧ V (off + 2) = .int .u8 ((x / 256 % 256 : Nat) : Int) ∧ V (off + 3) = .int .u8 ((x % 256 : Nat) : Int)
theorem f196 (μ) (V : Nat → Value) (x off n cap rn re : Nat) (h : IsW V off x) (hn : 4 ≤ n) (hr : off + n ≤ rn) : Fun Tryz.prog μ 196 [.agg [],.slc 0 off n cap] [(0,.row ⟨.vals V,rn,re⟩)] 1
  (fun _ : Unit=>True) (fun _=>⟨.v (.int .u32 x),[(0,.row ⟨.vals V,rn,re⟩)],1⟩):=by
 obtain ⟨hx,h0,h1,h2,h3⟩:=h
 refine fE 30 Tryz.func196 fun zw zβ=>?_
 refine cF [0,1] ?_
 refine rS [1] ?_
 refine GL.seqR ?_
 refine lK 2 [1,6] ?_
 refine GL.op rfl (OpW.lstep (LStep.at rfl rfl rfl rfl rfl (by show off + 3 * 1 < rn; omega) (congrArg SV.v h3)) rfl (gF [1] rfl ?_))
 refine lF [1] (GK.code ?_)
 refine GC.seq (GC.draw [(0,0),(1,0),(4,0),(5,0),(10,0),(11,0),(16,0),(17,0),(2,1),(3,0),(6,1),(7,0),(8,0),(9,0),(12,1),(13,0),(14,0),(15,0),(18,1),(19,0),(20,0),(21,0),(22,0)] mixed (by kernel_rfl) (by rintro _ _ _ _ ⟨_,_,_,_,h,_⟩ _; cases h) ?_)
 refine wK 8 [9,13,19,25] ?_
 refine GW.lstep rfl rfl (LStep.at rfl rfl rfl rfl rfl (by show off + 3 * 1 < rn; omega) (congrArg SV.v h3)) rfl (GW.force [10,13,19,25] rfl ?_)
 refine wK 1 [11,13,19,25] ?_
 refine GW.lstep rfl rfl (LStep.at rfl rfl rfl rfl rfl (by show off + 2 * 1 < rn; omega) (congrArg SV.v h2)) rfl (GW.force [11,14,19,25] rfl ?_)
 refine wK 3 [17,19,25] ?_
 refine GW.lstep rfl rfl (LStep.at rfl rfl rfl rfl rfl (by show off + 1 * 1 < rn; omega) (congrArg SV.v h1)) rfl (GW.force [17,20,25] rfl ?_)
 refine wK 3 [23,25] ?_
 refine GW.lstep rfl rfl (LStep.at rfl rfl rfl rfl rfl (by show off + 0 * 1 < rn; omega) (congrArg SV.v h0)) rfl (GW.force [23,26] rfl ?_)
 refine wF [4] (GK.code ?_)
 refine GC.ret ?_
 refine GK.abs 4 rfl (fun _=>rfl) fun x' hx'=>?_
 obtain rfl : x' = (x : Int):=by
  rw [hx']
  have e0 : ((x % 256 : Nat) : Int) = ((x % 256 : Nat) : Int):=rfl
  have e1:=or_hi (lo:=x % 256) (hi:=x / 256 % 256) (k:=8) (by omega) (by omega)
  have e2:=or_hi (lo:=x % 65536) (hi:=x / 65536 % 256) (k:=16) (by omega) (by omega)
  have e3:=or_hi (lo:=x % 16777216) (hi:=x / 16777216) (k:=24) (by omega) (by omega)
  have w1 : ∀ y : Nat,y < 4294967296 → w32 (y : Int) = y:=fun y hy=>by unfold w32; omega
  simp only [w1 _ (show x % 256 < 4294967296 from by omega),w1 _ (show x / 256 % 256 < 4294967296 from by omega),w1 _ (show x / 65536 % 256 < 4294967296 from by omega),w1 _ (show x / 16777216 < 4294967296 from by omega),Int.reduceToNat,IntKind.bits,Nat.reduceLeDiff,Nat.min_eq_left]
  rw [e1,show x % 256 + x / 256 % 256 * 2 ^ 8 = x % 65536 from by omega,w1 _ (by omega),e2,show x % 65536 + x / 65536 % 256 * 2 ^ 16 = x % 16777216 from by omega,w1 _ (by omega),e3,show x % 16777216 + x / 16777216 * 2 ^ 24 = x from by omega,w1 _ hx]
 refine fR (.inl rfl) rfl (by trivial) () [0] rfl rfl rfl rfl (trivial)
theorem f310 (μ) (be : Nat × Nat) (hE : muAt μ 0 0 = some (EOFv be)) (B : Nat → Int) (rn N cap : Nat) (off : Int) (s : RdI) (t : WI) (H : Nat → Int) (b nb wr rd : Int) (full : Bool) (b0 b1 b2 b3 : Int) (step : Nat) (st : Int) (fin : Bool) (o l c : Nat) (cl ro : Int) : Fun Tryz.prog μ 310 [.ptr 11 0] (dcG B rn N cap off s t H (dcS b nb wr rd full b0 b1 b2 b3 step st fin (.v (EOFv be)) (.slc 14 o l c) cl ro)) 16
  (fun _ : Unit=>True) (fun _=>⟨.v .nilIface,dcG B rn N cap off s t H (dcS b nb wr rd full b0 b1 b2 b3 step st fin (.v (EOFv be)) (.slc 14 o l c) cl ro),16⟩):=by
 dsimp only [dcG,srG,List.cons_append,List.nil_append]
 refine fE 13 Tryz.func310 fun zw zβ=>?_
 refine cF [0] ?_
 refine rS [0] ?_
 refine GC.seq ?_
 refine GC.seq (GC.draw [(0,0),(1,0),(2,0),(3,1),(4,1),(5,0)] mixed (by kernel_rfl) (by rintro _ _ _ _ ⟨_,_,_,_,h,_⟩ _; cases h) ?_)
 refine wK 4 [0,6] ?_
 refine GW.lstep rfl rfl (LStep.mu (v:=EOFv be) rfl rfl rfl rfl hE) rfl (GW.force [0,6,7] rfl ?_)
 refine GW.vstep rfl rfl (VStep.eqI (r:=true) rfl (.inl rfl) rfl (fun β u v h1 h2=>by cases h1; cases h2; exact .pe be.1 be.2 rfl rfl rfl rfl)) rfl (GW.force [0,8] rfl ?_)
 refine wF [0,8] (GK.code ?_)
 refine GC.condT rfl ?_
 refine rS [2] ?_
 refine GC.ret ?_
 refine fR (.inl rfl) rfl (by trivial) () [0,1,2,3,4,5,6,7,8,9,10,11,12,13,14,15] rfl rfl rfl rfl (trivial)
def dcZ (wr rd : Int) (full : Bool) (b0 b1 b2 b3 : Int) (step : Nat) (st : Int) (fin : Bool) (err tr : SV) (cl ro : Int) : Row:=dcR (.ifc 107 (.ptr 0 0)) (.v (.int .u32 0)) (.v (.int .u64 0)) (.ptr 13 0) (.ptr 14 0) (.slc 15 0 32768 32768) (.v (.int .i64 wr)) (.v (.int .i64 rd)) (.v (.bool full)) (.v (.int .u8 b0)) (.v (.int .u8 b1)) (.v (.int .u8 b2)) (.v (.int .u8 b3)) (.v (.func (.func step) #[] #[])) (.v (.int .i64 st)) (.v (.bool fin)) err tr (.v (.int .i64 cl)) (.v (.int .i64 ro))
def lsZ : LS → SV
 | .a=>.v (.slice none 0 0)
 | .b o l c=>.slc 15 o l c
def zrR (er : Value) (a b c d : Int) : Row:=zlR (.ifc 107 (.ptr 0 0)) (.ifc 403 (.ptr 12 0)) (.ifc 405 (.ptr 16 0)) (.v er) (.v (.int .u8 a)) (.v (.int .u8 b)) (.v (.int .u8 c)) (.v (.int .u8 d))
def zrV (be : Nat × Nat) (B : Nat → Int) (rn N cap : Nat) (st : Int) (E Z : Row) (x : Int) (v : SV0) (eof : Bool) (i : LS) : GH :=
 srG B rn N cap 18 (v.p : Nat) v.s v.t ++ [(11,.row Z),(12,.row (dcZ v.wr v.rd v.full v.b0 v.b1 v.b2 v.b3 v.step st v.fin (.v (eofW be eof)) (lsZ i) v.cl v.ro)),(13,.row ⟨.vals fun i=>rle (tab 401).zero i,316,401⟩),(14,.row ⟨.lst [(.v (.int .i64 0)),(.v (.int .i64 0)),(.v (.int .i64 0)),(.v (.int .i64 0)),(.v (.int .i64 0)),(.v (.int .i64 0)),(.v (.int .i64 0)),(.v (.int .i64 0)),(.v (.int .i64 0)),(.v (.int .i64 0)),(.v (.int .i64 0)),(.v (.int .i64 0)),(.v (.int .i64 0)),(.v (.int .i64 0)),(.v (.int .i64 0)),(.v (.int .i64 0)),(.v (.int .i64 0)),(.v (.int .i64 0)),(.v (.int .i64 0))],19,402⟩),(15,.row ⟨.ints .u8 v.D,32768,5⟩),(16,.row (adR x)),(17,.row E)]
structure ZO where
 x : RO
 a : Int
 b : Int
 c : Int
 d : Int
structure ZoI (dl : Int) (be : Nat × Nat) (B S T D : Nat → Int) (N pe L e doff m : Nat) (y : ZO) : Prop where
 hn : y.x.n ≤ m
 hE : ∀ j,y.x.E j = if doff ≤ j ∧ j < doff + y.x.n then T (e + (j - doff)) else D j
 hs : SrD dl B S N y.x.v
 her : (y.x.er = .nilIface ∧ 0 < y.x.n ∧ e + y.x.n ≤ L ∧ lsI B T pe L (e + y.x.n) y.x.v y.x.eof (.b y.x.o y.x.l y.x.c)) ∨ (y.x.er = EOFv be ∧ y.x.eof = true ∧ e + y.x.n = L ∧ y.x.v.p = pe + 4)
theorem DSt.leL {B T : Nat → Int} {pe L e p : Nat} {H : Nat → Int} {wr rd step : Nat} {fin eof : Bool} {cl : Int} {ro o l : Nat} (h : DSt B T pe L e p H wr rd step fin eof cl ro o l) : e + l ≤ L:=by
 have hm:=h.hm
 generalize hc : e + l + (wr - rd) = c at hm
 cases hm with
 | eof=>omega
 | blk hb=>have:=hb.le; omega
 | cpy m hm hd hk =>
  unfold Rst at hk
  split at hk
  ·omega
  ·have:=hk.le; omega
theorem DSt.end {B T : Nat → Int} {pe L e p : Nat} {H : Nat → Int} {wr rd step : Nat} {fin eof : Bool} {cl : Int} {ro o : Nat} (h : DSt B T pe L e p H wr rd step fin eof cl ro o 0) (he : eof = true) : e = L ∧ p = pe:=by
 have hw:=h.he he
 have hm:=h.hm
 generalize hc : e + 0 + (wr - rd) = c at hm
 subst he
 cases hm with
 | eof=>exact ⟨by omega,rfl⟩
theorem m403r : IsMeth Tryz.prog 403 "Read" 311:=fun v w=>by kernel_rfl
theorem m405w : IsMeth Tryz.prog 405 "Write" 317:=fun v w=>by kernel_rfl
theorem m405s : IsMeth Tryz.prog 405 "Sum32" 316:=fun v w=>by kernel_rfl
set_option maxHeartbeats 16000000 in
theorem f307 (μ) (dl : Int) (be : Nat × Nat) (hE : muAt μ 0 0 = some (EOFv be)) (B S T D : Nat → Int) (rn N cap pe L e doff m dcap drn dre X : Nat) (d : Dat B rn N cap) (st : Int) (hpe : pe + 4 ≤ N) (v : SV0) (eof : Bool) (i : LS) (hi : lsI B T pe L e v eof i) (h : SrD dl B S N v) (hm : 0 < m) (hd : doff + m ≤ drn) (hmc : m ≤ dcap) (hm2 : m < 1099511627776)
  (hT : ∀ j,j < L → 0 ≤ T j ∧ T j < 256) (hX : ad T L = (X : Int)) (hX2 : X < 4294967296) (h0 : B pe = ((X / 16777216 : Nat) : Int)) (h1 : B (pe + 1) = ((X / 65536 % 256 : Nat) : Int)) (h2 : B (pe + 2) = ((X / 256 % 256 : Nat) : Int)) (h3 : B (pe + 3) = ((X % 256 : Nat) : Int)) (a b c dd : Int) :
  FunC Tryz.prog μ 307 [.ptr 11 0,.slc 17 doff m dcap] (zrV be B rn N cap st ⟨.ints .u8 D,drn,dre⟩ (zrR .nilIface a b c dd) (ad T e) v eof i) 18 19 (ZoI dl be B S T D N pe L e doff m)
  (fun y=>⟨.tup [.v (.int .i64 (y.x.n : Nat)),.v y.x.er],zrV be B rn N cap st ⟨.ints .u8 y.x.E,drn,dre⟩ (zrR y.x.er y.a y.b y.c y.d) (ad T (e + y.x.n)) y.x.v y.x.eof (.b y.x.o y.x.l y.x.c),19⟩):=by
 have hN2:=d.hN2
 have hi0:=hi
 rcases i with _ | ⟨o0,l0,c0⟩ <;> rcases eof with _ | _
 rotate_left
 ·exact absurd hi.1 (by decide)
 all_goals
  dsimp only [zrV,srG,List.cons_append,List.nil_append]
  refine fE 103 Tryz.func307 fun zw zβ=>?_
  refine cF [0,1] ?_
  refine rS [0,1] ?_
  refine GC.seq ?_
  refine rS [0,1,14] ?_
  refine GC.condF rfl (GC.skip (GK.code ?_))
  refine rS [0,1] ?_
  refine GL.seqR ?_
  refine lK 6 [0,1,20,24,25] ?_
  refine GL.op rfl (OpW.invokeR rfl rfl (m403r) (f311 _ dl be hE B S T D rn N cap pe L e doff m dcap drn dre d st (by omega) v _ _ hi0 h hm hd hmc) [0,1,2,3,4,5,6,7,8,9,10,12,13,14,15,17,18] rfl rfl rfl rfl ?_)
  intro x hx
  obtain ⟨n,E,w,eof2,o2,l2,c2,er⟩:=x
  obtain ⟨hn,hEE,hl2,hs,her⟩:=hx
  dsimp only at hn hEE hl2 hs her
  have hleL:=hl2.2.2.leL
  have hoz:=offS_zero dcap doff 1
  rcases her with ⟨rfl,hn0,hlt⟩ | ⟨rfl,rfl,rfl⟩
  rcases eof2 with _ | _
  ·intro ρ' hp
   obtain rfl:=Option.some.inj hp; clear hp
   refine gF [0,1,20,26] rfl ?_
   refine lF [0,1,6] (GK.code ?_)
   refine GC.seq (GC.draw [(0,0),(1,0),(2,0),(4,0),(5,0),(6,0),(3,1),(7,0),(8,0),(9,2)] mixed (by kernel_rfl) (by rintro _ _ _ _ ⟨_,_,_,_,h,_⟩ _; cases h) ?_)
   refine wK 9 [0,6,37,39] ?_
   refine GW.op rfl rfl (iR rfl rfl (m405w) (f317 _ T E e (offS dcap 0 doff 1) ((n : Int).toNat - 0) (dcap - 0) drn (by rw [Int.toNat_natCast]; omega) (by rw [Int.toNat_natCast]; omega) (fun j hj=>by rw [Int.toNat_natCast] at hj; rw [hEE,if_pos (by omega)]; congr 1; omega) (fun j hj=>hT j (by rw [Int.toNat_natCast] at hj; omega)) (by rw [Int.toNat_natCast]; omega)) [16,17] rfl rfl rfl rfl fun _ _=>?_)
   refine wL [0,6] rfl ?_
   refine wF [0,6] (GK.code ?_)
   refine GC.seq ?_
   refine GC.seq (GC.draw [(0,0),(1,0),(2,0),(3,1),(4,1),(5,0)] mixed (by kernel_rfl) (by rintro _ _ _ _ ⟨_,_,_,_,h,_⟩ _; cases h) ?_)
   refine wK 4 [0,6,44] ?_
   refine GW.lstep rfl rfl (LStep.mu (v:=EOFv be) rfl rfl rfl rfl hE) rfl (GW.force [0,6,44,45] rfl ?_)
   refine GW.vstep rfl rfl (VStep.eqI (r:=false) rfl (.inr rfl) rfl (fun β u v h1 h2=>by cases h1; cases h2; exact .nl _ _)) rfl (GW.force [0,6,46] rfl ?_)
   refine wF [0,6,46] (GK.code ?_)
   refine GC.condT rfl ?_
   refine GC.seq (GC.draw [(0,0),(1,0),(2,0),(3,0),(5,0),(4,1),(6,0)] mixed (by kernel_rfl) (by rintro _ _ _ _ ⟨_,_,_,_,h,_⟩ _; cases h) ?_)
   refine wF [4,5] (GK.code ?_)
   refine GC.ret ?_
   refine fR (.inl rfl) rfl (by trivial) (⟨⟨n,E,w,false,o2,l2,c2,.nilIface⟩,a,b,c,dd⟩) [0,1,2,3,4,5,6,7,8,9,10,11,12,13,14,15,16,17,18] rfl rfl rfl rfl (⟨hn,hEE,hs,.inl ⟨rfl,hn0,by dsimp only; omega,hl2⟩⟩)
  ·intro ρ' hp
   obtain rfl:=Option.some.inj hp; clear hp
   refine gF [0,1,20,26] rfl ?_
   refine lF [0,1,6] (GK.code ?_)
   refine GC.seq (GC.draw [(0,0),(1,0),(2,0),(4,0),(5,0),(6,0),(3,1),(7,0),(8,0),(9,2)] mixed (by kernel_rfl) (by rintro _ _ _ _ ⟨_,_,_,_,h,_⟩ _; cases h) ?_)
   refine wK 9 [0,6,37,39] ?_
   refine GW.op rfl rfl (iR rfl rfl (m405w) (f317 _ T E e (offS dcap 0 doff 1) ((n : Int).toNat - 0) (dcap - 0) drn (by rw [Int.toNat_natCast]; omega) (by rw [Int.toNat_natCast]; omega) (fun j hj=>by rw [Int.toNat_natCast] at hj; rw [hEE,if_pos (by omega)]; congr 1; omega) (fun j hj=>hT j (by rw [Int.toNat_natCast] at hj; omega)) (by rw [Int.toNat_natCast]; omega)) [16,17] rfl rfl rfl rfl fun _ _=>?_)
   refine wL [0,6] rfl ?_
   refine wF [0,6] (GK.code ?_)
   refine GC.seq ?_
   refine GC.seq (GC.draw [(0,0),(1,0),(2,0),(3,1),(4,1),(5,0)] mixed (by kernel_rfl) (by rintro _ _ _ _ ⟨_,_,_,_,h,_⟩ _; cases h) ?_)
   refine wK 4 [0,6,44] ?_
   refine GW.lstep rfl rfl (LStep.mu (v:=EOFv be) rfl rfl rfl rfl hE) rfl (GW.force [0,6,44,45] rfl ?_)
   refine GW.vstep rfl rfl (VStep.eqI (r:=false) rfl (.inr rfl) rfl (fun β u v h1 h2=>by cases h1; cases h2; exact .nl _ _)) rfl (GW.force [0,6,46] rfl ?_)
   refine wF [0,6,46] (GK.code ?_)
   refine GC.condT rfl ?_
   refine GC.seq (GC.draw [(0,0),(1,0),(2,0),(3,0),(5,0),(4,1),(6,0)] mixed (by kernel_rfl) (by rintro _ _ _ _ ⟨_,_,_,_,h,_⟩ _; cases h) ?_)
   refine wF [4,5] (GK.code ?_)
   refine GC.ret ?_
   refine fR (.inl rfl) rfl (by trivial) (⟨⟨n,E,w,true,o2,l2,c2,.nilIface⟩,a,b,c,dd⟩) [0,1,2,3,4,5,6,7,8,9,10,11,12,13,14,15,16,17,18] rfl rfl rfl rfl (⟨hn,hEE,hs,.inl ⟨rfl,hn0,by dsimp only; omega,hl2⟩⟩)
  ·obtain ⟨hel,hwp⟩:=hl2.2.2.end rfl
   intro ρ' hp
   obtain rfl:=Option.some.inj hp; clear hp
   refine gF [0,1,20,26] rfl ?_
   refine lF [0,1,6] (GK.code ?_)
   refine GC.seq (GC.draw [(0,0),(1,0),(2,0),(4,0),(5,0),(6,0),(3,1),(7,0),(8,0),(9,2)] mixed (by kernel_rfl) (by rintro _ _ _ _ ⟨_,_,_,_,h,_⟩ _; cases h) ?_)
   refine wK 9 [0,6,37,39] ?_
   refine GW.op rfl rfl (iR rfl rfl (m405w) (f317 _ T E e (offS dcap 0 doff 1) ((n : Int).toNat - 0) (dcap - 0) drn (by rw [Int.toNat_natCast]; omega) (by rw [Int.toNat_natCast]; omega) (fun j hj=>by rw [Int.toNat_natCast] at hj; rw [hEE,if_pos (by omega)]; congr 1; omega) (fun j hj=>hT j (by rw [Int.toNat_natCast] at hj; omega)) (by rw [Int.toNat_natCast]; omega)) [16,17] rfl rfl rfl rfl fun _ _=>?_)
   refine wL [0,6] rfl ?_
   refine wF [0,6] (GK.code ?_)
   refine GC.seq ?_
   refine GC.seq (GC.draw [(0,0),(1,0),(2,0),(3,1),(4,1),(5,0)] mixed (by kernel_rfl) (by rintro _ _ _ _ ⟨_,_,_,_,h,_⟩ _; cases h) ?_)
   refine wK 4 [0,6,44] ?_
   refine GW.lstep rfl rfl (LStep.mu (v:=EOFv be) rfl rfl rfl rfl hE) rfl (GW.force [0,6,44,45] rfl ?_)
   refine GW.vstep rfl rfl (VStep.eqI (r:=true) rfl (.inr rfl) rfl (fun β u v h1 h2=>by cases h1; cases h2; exact .pe be.1 be.2 rfl rfl rfl rfl)) rfl (GW.force [0,6,46] rfl ?_)
   refine wF [0,6,46] (GK.code ?_)
   refine GC.condF rfl (GC.skip (GK.code (GC.seq ?_)))
   refine GC.seq (GC.draw [(0,0),(1,0),(2,0),(4,0),(5,0),(6,0),(7,0),(3,1),(8,2),(9,0),(10,0),(11,0),(12,0),(13,0)] mixed (by kernel_rfl) (by rintro _ _ _ _ ⟨_,_,_,_,h,_⟩ _; cases h) ?_)
   refine wK 8 [0,6,56,60] ?_
   refine GW.openP 0 11 [0,11,12,16] rfl rfl rfl (fun _=>rfl) (fun _=>rfl) rfl fun β V hV=>?_
   refine GW.op rfl rfl (cR rfl (f134v _ B S V rn N cap w.p w.ps 4 4 4 8 375 w.s w.t d hs.1 (by omega) (by decide) (by decide) (by decide)) [0,1,2,3,4,5,6,7,8,9,10,11,18] rfl rfl rfl rfl fun x hx=>?_)
   obtain ⟨D2,s',t'⟩:=x
   obtain ⟨hD,hs'⟩:=hx
   dsimp only at hD hs' ⊢
   have hV2 : ∀ j,j < 8 → Rep (anB (anOf β [0,11,12,16])) (lget [.ifc 107 (.ptr 0 0),.ifc 403 (.ptr 12 0),.ifc 405 (.ptr 16 0),.v (EOFv be),.v (.int .u8 ((X / 16777216 : Nat) : Int)),.v (.int .u8 ((X / 65536 % 256 : Nat) : Int)),.v (.int .u8 ((X / 256 % 256 : Nat) : Int)),.v (.int .u8 ((X % 256 : Nat) : Int))] j) (D2 j):=by
    intro j hj
    have hv:=hV j hj
    rw [hD]
    match j,hj,hv with
    | 0,_,hv=>exact hv
    | 1,_,hv=>exact hv
    | 2,_,hv=>exact hv
    | 3,_,hv=>exact hv
    | 4,_,hv=>rw [if_pos (by omega),hwp,show pe + (4 - 4) = pe from rfl,h0]; exact .v _
    | 5,_,hv=>rw [if_pos (by omega),hwp,show pe + (5 - 4) = pe + 1 from rfl,h1]; exact .v _
    | 6,_,hv=>rw [if_pos (by omega),hwp,show pe + (6 - 4) = pe + 2 from rfl,h2]; exact .v _
    | 7,_,hv=>rw [if_pos (by omega),hwp,show pe + (7 - 4) = pe + 3 from rfl,h3]; exact .v _
    | _ + 8,h,_=>exact absurd h (by omega)
   refine GK.closeV 11 _ hV2 rfl rfl rfl rfl rfl ?_
   refine wL [0,6,61] rfl ?_
   refine wF [0,6,8] (GK.code ?_)
   refine rS [0,6,8,65] ?_
   refine GC.condF rfl (GC.skip (GK.code ?_))
   refine GC.seq (GC.draw [(1,0),(2,0),(3,0),(4,0),(0,1),(5,2),(6,0)] mixed (by kernel_rfl) (by rintro _ _ _ _ ⟨_,_,_,_,h,_⟩ _; cases h) ?_)
   refine wK 4 [0,6,83] ?_
   refine GW.lstep rfl rfl (LStep.cellA (vs:=[]) rfl rfl rfl rfl rfl (fun _ _ _ _ j v h=>by simp at h)) rfl (GW.force [0,6,79,83] rfl ?_)
   refine GW.openP 0 11 [0,11,12,16] rfl rfl rfl (fun _=>rfl) (fun _=>rfl) rfl fun β V hV=>?_
   refine GW.op rfl rfl (cR rfl (f196 _ V X 4 4 4 8 375 ⟨hX2,rep_v (hV 4 (by decide)),rep_v (hV 5 (by decide)),rep_v (hV 6 (by decide)),rep_v (hV 7 (by decide))⟩ (by decide) (by decide)) [11] rfl rfl rfl rfl fun _ _=>?_)
   refine GK.closeV 11 _ hV rfl rfl rfl rfl rfl ?_
   refine wL [0,6,84] rfl ?_
   refine wF [0,6,9] (GK.code ?_)
   refine GC.seq (GL.seqR ?_)
   refine lK 5 [0,6,85,89] ?_
   refine GL.op rfl (iR rfl rfl (m405s) (f316 _ _) [16] rfl rfl rfl rfl fun _ _=>?_)
   refine gF [0,6,85,90] rfl ?_
   refine lF [0,6,91] (GK.code ?_)
   refine GC.cond rfl (fun hxx=>?_) (fun hxx=>?_)
   ·have hxx : ¬ (X : Int) = ad T (e + n):=by simpa using hxx
    exfalso; rw [hel,hX] at hxx; exact hxx rfl
   ·have hxx : ¬ (¬ (X : Int) = ad T (e + n)):=by simpa using hxx
    refine GC.skip (GK.code ?_)
    refine GC.seq (GC.draw [(0,0),(2,0),(1,1),(3,0)] mixed (by kernel_rfl) (by rintro _ _ _ _ ⟨_,_,_,_,h,_⟩ _; cases h) ?_)
    refine wK 2 [4] ?_
    refine GW.lstep rfl rfl (LStep.mu (v:=EOFv be) rfl rfl rfl rfl hE) rfl (GW.force [4,102] rfl ?_)
    refine wF [4,5] (GK.code ?_)
    refine GC.ret ?_
    refine fR (.inl rfl) rfl (by trivial) (⟨⟨n,E,{w with p:=w.p + 4,ps:=w.ps + 4,s:=s',t:=t'},true,o2,0,c2,EOFv be⟩,((X / 16777216 : Nat) : Int),((X / 65536 % 256 : Nat) : Int),((X / 256 % 256 : Nat) : Int),((X % 256 : Nat) : Int)⟩) [0,1,2,3,4,5,6,7,8,9,10,11,12,13,14,15,16,17,18] rfl rfl rfl rfl (⟨hn,hEE,⟨hs',by have:=hs.2; dsimp only; omega⟩,.inr ⟨rfl,rfl,hel,by dsimp only; omega⟩⟩)
theorem Abs.congr {S S' : Nat → Int} {n : Nat} {i : ShI} (h : Abs S n i) (e : ∀ j,j < n → S j = S' j) : Abs S' n i :=
 ⟨by rw [h.hs]; exact hashN_congr _ fun j hj=>e j (by omega),h.hl,h.hc,h.hr,fun j hj=>by have:=h.hl; rw [h.hg j hj]; exact e _ (by omega),h.hn⟩
def WkA (n : Nat) (i : ShI) : Prop:=∃ S,Abs S n i
theorem f281w (μ) {fe : Nat} (F : Nat → Int) (n off m cap prn : Nat) (i : ShI) (hA : WkA n i) (hr : off + m ≤ prn) (hn : n + m < 1152921504606846976) (hm : m < 1099511627776) :
  FunC Tryz.prog μ 281 [.ptr 0 0,.slc 1 off m cap] [(0,.row (shaR i.s (.slc 2 i.bo i.bl i.bc) i.long)),(1,.row ⟨.ints .u8 F,prn,fe⟩),(2,.row ⟨.ints .u8 i.G,i.brn,5⟩)] 2 3
  (fun i=>WkA (n + m) i) (fun i=>⟨.tup [.v (.int .i64 m),.v .nilIface],[(0,.row (shaR i.s (.slc 2 i.bo i.bl i.bc) i.long)),(1,.row ⟨.ints .u8 F,prn,fe⟩),(2,.row ⟨.ints .u8 i.G,i.brn,5⟩)],3⟩):=by
 obtain ⟨S,hA⟩:=hA
 have h2:=hA.congr (S':=fun j=>if j < n then S j else F (off + (j - n))) (fun j hj=>by rw [if_pos hj])
 exact (f281 μ (fun j=>if j < n then S j else F (off + (j - n))) F n off m cap prn i h2 hr (fun j hj=>by rw [if_neg (by omega)]; congr 1; omega) hn hm).map fun i hi=>⟨i,⟨_,hi⟩,rfl⟩
def mw1R (b : Nat) : Row:=⟨.lst [.slc b 0 1 1],1,156⟩
def ws1R (g : Nat) : Row:=⟨.lst [.ifc 175 (.agg [.ifc 142 (.ptr g 0)])],1,110⟩
theorem m175w : IsMethP Tryz.prog 175 142 "Write" 281:=fun v w=>by kernel_rfl
theorem f288h (μ) {fe : Nat} (F : Nat → Int) (n off m cap prn : Nat) (i : ShI) (hA : WkA n i) (hr : off + m ≤ prn) (hn : n + m < 1152921504606846976) (hm : m < 1099511627776) :
  FunC Tryz.prog μ 288 [.ptr 0 0,.slc 3 off m cap] [(0,.row (mw1R 1)),(1,.row (ws1R 2)),(2,.row (shR 4 i)),(3,.row ⟨.ints .u8 F,prn,fe⟩),(4,.row (sbR i))] 4 5
  (fun i=>WkA (n + m) i) (fun i=>⟨.tup [.v (.int .i64 m),.v .nilIface],[(0,.row (mw1R 1)),(1,.row (ws1R 2)),(2,.row (shR 4 i)),(3,.row ⟨.ints .u8 F,prn,fe⟩),(4,.row (sbR i))],5⟩):=by
 refine fE 33 Tryz.func288 fun zw zβ=>?_
 refine cF [0,1] ?_
 refine rS [0,1] ?_
 refine GC.seq ?_
 refine rS [1,11,12,13] ?_
 refine GC.block ?_
 refine GC.loopU 2 ?_
 refine rS [1,11,12,13,14] ?_
 refine GC.seq (GC.condT rfl (GC.skip (GK.code (GC.seq (GC.block ?_)))))
 refine rS [1,7,11,12,13] ?_
 refine GL.seqR ?_
 refine lK 2 [1,11,12,13,18,19] ?_
 refine GL.op rfl (OpW.invokeP rfl rfl (m175w) (f281w _ F n _ _ _ _ i hA hr hn hm) [2,3,4] rfl rfl rfl rfl ?_)
 intro i2 hA2 ρ' hp
 obtain rfl:=Option.some.inj hp; clear hp
 refine gF [1,11,12,13,20] rfl ?_
 refine lF [1,4,5,11,12,13] (GK.code ?_)
 refine GC.seq ?_
 refine rS [1,4,5,11,12,13,24] ?_
 refine GC.condF rfl (GC.skip (GK.code ?_))
 refine rS [1,4,11,12,13,28] ?_
 refine GC.cond rfl (fun hz=>?_) (fun hz=>?_)
 ·have hz : (m : Int) ≠ m:=by simpa using hz
  exact absurd rfl hz
 ·have hz : ¬ ((m : Int) ≠ m):=by simpa using hz
  refine GC.skip (GK.code ?_)
  refine rG [1,11,12,13] ?_
  refine GK.itr ?_
  refine rS [1,11,12,13,14] ?_
  refine GC.seq (GC.condF rfl ?_)
  refine GC.exit ?_
  refine GK.code ?_
  refine rS [4,5] ?_
  refine GC.ret ?_
  refine fR (.inl rfl) rfl (by trivial) i2 [0,1,2,3,4] rfl rfl rfl rfl (hA2)
def bnR (w : SV) (lim n : Int) : Row:=⟨.lst [w,.v (.int .i64 lim),.v (.int .i64 n)],3,287⟩
theorem m153w : IsMeth Tryz.prog 153 "Write" 288:=fun v w=>by kernel_rfl
theorem f296h (μ) {fe : Nat} (F : Nat → Int) (n off m cap prn lim e : Nat) (i : ShI) (hA : WkA n i) (hr : off + m ≤ prn) (hn : n + m < 1152921504606846976) (hm : m < 1099511627776) (hl : e + m ≤ lim) (hl2 : lim < 1099511627776) :
  FunC Tryz.prog μ 296 [.ptr 0 0,.slc 4 off m cap] [(0,.row (bnR (.ifc 153 (.ptr 1 0)) lim e)),(1,.row (mw1R 2)),(2,.row (ws1R 3)),(3,.row (shR 5 i)),(4,.row ⟨.ints .u8 F,prn,fe⟩),(5,.row (sbR i))] 5 6
  (fun i=>WkA (n + m) i) (fun i=>⟨.tup [.v (.int .i64 m),.v .nilIface],[(0,.row (bnR (.ifc 153 (.ptr 1 0)) lim ((e : Int) + m))),(1,.row (mw1R 2)),(2,.row (ws1R 3)),(3,.row (shR 5 i)),(4,.row ⟨.ints .u8 F,prn,fe⟩),(5,.row (sbR i))],6⟩):=by
 refine fE 85 Tryz.func296 fun zw zβ=>?_
 refine cF [0,1] ?_
 refine rS [0,1] ?_
 refine GC.seq ?_
 refine GC.seq (GC.draw [(0,0),(1,0),(2,0),(4,0),(5,0),(7,0),(8,0),(9,0),(3,1),(6,0),(10,1),(11,0)] mixed (by kernel_rfl) (by rintro _ _ _ _ ⟨_,_,_,_,h,_⟩ _; cases h) ?_)
 refine wF [0,1,23] (GK.code ?_)
 refine GC.cond rfl (fun hz=>?_) (fun hz=>?_)
 ·have hz : (lim : Int) < (e : Int) + m:=by simpa using hz
  omega
 ·have hz : ¬ ((lim : Int) < (e : Int) + m):=by simpa using hz
  refine GC.skip (GK.code (GL.seqR ?_))
  refine lK 5 [0,70,71] ?_
  refine GL.op rfl (iR rfl rfl (m153w) (f288h _ F n _ _ _ _ i hA hr hn hm) [1,2,3,4,5] rfl rfl rfl rfl fun i2 hA2=>?_)
  refine gF [0,72] rfl ?_
  refine lF [0,10,11] (GK.code ?_)
  refine rS [10,11] ?_
  refine rS [4,5] ?_
  refine GC.ret ?_
  refine fR (.inl rfl) rfl (by trivial) i2 [0,1,2,3,4,5] rfl rfl rfl rfl (hA2)
theorem f69 (μ) (hP : P10 μ) (k n : Nat) (hk : 1 ≤ k ∧ k ≤ 4) (hn : n < 2097152) : Fun Tryz.prog μ 69 [.v (.int .i8 k),.v (.int .i64 n)] [] 0 (fun x : Nat × ShI=>x.1 ≤ 64 ∧ WkA x.1 x.2) (fun x=>⟨.agg [.ifc 142 (.ptr 0 0)],shaG 0 1 x.2,2⟩):=by
 refine fE 33 Tryz.func69 fun zw zβ=>?_
 refine cF [0,1] ?_
 refine rS [0,1,4] ?_
 refine GL.seqR ?_
 refine GL.op rfl (cR rfl (f41 _) [] rfl rfl rfl rfl fun i hi=>?_)
 refine gF [0,1,4,6] rfl ?_
 refine lF [0,1,4,5] (GK.code ?_)
 refine GC.seq (GC.drawH [(0,0),(1,3),(2,0),(4,0),(5,0),(3,4),(6,2)] [3,1] [(3,0,.ifc 142 (.ptr 1 0))] mixed (by kernel_rfl) (by rintro _ _ _ _ ⟨_,_,_,_,h,_⟩ _; cases h) rfl fun β=>?_)
 refine wK 1 [0,1,4,5,8] ?_
 refine GW.held rfl rfl rfl rfl rfl rfl (.head _) ⟨⟨_,rfl,by decide,rfl⟩,rfl,trivial⟩ rfl rfl (GW.force [0,1,4,5,9] rfl ?_)
 refine wK 3 [1,4,5,10,13] ?_
 refine GW.opS rfl rfl (cR rfl (f112 _ k hk) [] rfl rfl rfl rfl ?_)
 intro ⟨m,cap,F⟩ hx
 dsimp only at hx ⊢
 refine GK.heldAnd rfl ⟨⟨_,rfl,by decide,rfl⟩,rfl,trivial⟩ (wL [1,4,5,11,13] rfl ?_)
 refine GW.op rfl rfl (iR rfl rfl (m142) (f281w _ F 0 0 m cap cap i ⟨_,hi (fun _=>0)⟩ (by omega) (by omega) (by omega)) [1,4,2] rfl rfl rfl rfl fun i2 hi2=>?_)
 refine wL [1,4,5] rfl ?_
 refine wF [1,4,5] (GK.delA rfl (GK.code ?_))
 refine GL.seqR ?_
 refine lK 3 [1,4,5,16,17] ?_
 refine GL.op rfl (OpW.convB rfl rfl rfl rfl (by decide) rfl rfl ?_)
 refine gF [1,4,5,16,18] rfl ?_
 refine GL.cvR 5 ⟨.ints .u8 fun _=>32,1,5⟩ rfl rfl rfl (fun i hi=>by have : i < 1:=hi; match i,this with | 0,_=>rfl | n + 1,h=>exact absurd h (by omega)) rfl ?_
 refine GL.op rfl (iR rfl rfl (m142) (f281w _ (fun _=>32) (0 + m) 0 1 1 1 i2 hi2 (by omega) (by omega) (by omega)) [1,5,2] rfl rfl rfl rfl fun i3 hi3=>?_)
 refine gF [1,4,5] rfl ?_
 refine lF [1,4,5] (GK.code ?_)
 refine GC.seq (GC.drawH [(0,0),(1,3),(2,0),(5,0),(6,0),(3,4),(4,4),(7,2)] [3,1] [(3,0,.ifc 142 (.ptr 1 0))] mixed (by kernel_rfl) (by rintro _ _ _ _ ⟨_,_,_,_,h,_⟩ _; cases h) rfl fun β=>?_)
 refine wK 1 [1,4,5,20] ?_
 refine GW.held rfl rfl rfl rfl rfl rfl (.head _) ⟨⟨_,rfl,by decide,rfl⟩,rfl,trivial⟩ rfl rfl (GW.force [1,4,5,21] rfl ?_)
 refine wK 3 [4,5,22,26] ?_
 refine GW.opS rfl rfl (cR rfl (f113 _ n hn hP) [] rfl rfl rfl rfl fun t ht=>?_)
 refine GK.heldAnd rfl ⟨⟨_,rfl,by decide,rfl⟩,rfl,trivial⟩ (wL [4,5,23,26] rfl ?_)
 refine GW.opS rfl rfl (OpW.bytes rfl rfl rfl rfl rfl (by omega) (fun cap2 F2 h1 h2 h3 ρ' hp=>?_) rfl)
 obtain rfl:=Option.some.inj hp; clear hp
 refine GK.heldAnd rfl ⟨⟨_,rfl,by decide,rfl⟩,rfl,trivial⟩ (wL [4,5,24,26] rfl ?_)
 refine GW.op rfl rfl (iR rfl rfl (m142) (f281w _ F2 (0 + m + 1) 0 t.size cap2 cap2 i3 hi3 (by omega) (by omega) (by omega)) [1,6,2] rfl rfl rfl rfl fun i4 hi4=>?_)
 refine wL [4,5] rfl ?_
 refine wF [4,5] (GK.delA rfl (GK.code ?_))
 refine GL.seqR ?_
 refine lK 3 [4,5,29,30] ?_
 refine GL.cvR 7 ⟨.ints .u8 fun _=>0,1,5⟩ rfl rfl rfl (fun i hi=>by have : i < 1:=hi; match i,this with | 0,_=>rfl | n + 1,h=>exact absurd h (by omega)) rfl ?_
 refine GL.op rfl (iR rfl rfl (m142) (f281w _ (fun _=>0) (0 + m + 1 + t.size) 0 1 1 1 i4 hi4 (by omega) (by omega) (by omega)) [1,7,2] rfl rfl rfl rfl fun i5 hi5=>?_)
 refine gF [4,5] rfl ?_
 refine lF [4,5] (GK.code ?_)
 refine rS [4] ?_
 refine GC.ret ?_
 refine fR (.inl rfl) rfl (by trivial) ((0 + m + 1 + t.size + 1,i5)) [1,2] rfl rfl rfl rfl (⟨by dsimp only; omega,hi5⟩)
theorem f280w (μ) (n : Nat) (i : ShI) (hA : WkA n i) (hn : n < 1099511627776) :
  Fun Tryz.prog μ 280 [.ptr 0 0,.v (.slice none 0 0)] (shaG 0 1 i) 2
  (fun d : Nat × (Nat → Int)=>20 ≤ d.1 ∧ ∀ j,j < 20 → 0 ≤ d.2 j ∧ d.2 j < 256) (fun d=>⟨.slc 2 0 20 d.1,[(0,.row (shaR i.s (.slc 1 i.bo i.bl i.bc) i.long)),(1,.row ⟨.ints .u8 i.G,i.brn,5⟩),(2,.row ⟨.ints .u8 d.2,d.1,5⟩)],3⟩):=by
 obtain ⟨S,hA⟩:=hA
 exact FunC.map (f280 μ S n i hA hn) fun d hd=>⟨d,⟨hd.1,fun j hj=>by rw [hd.2 j hj]; exact w8_lt _⟩,rfl⟩
theorem m142s : IsMeth Tryz.prog 142 "Sum" 280:=fun v w=>by kernel_rfl
theorem f76 (μ) (n : Nat) (i : ShI) (hA : WkA n i) (hn : n < 1099511627776) : Fun Tryz.prog μ 76 [.agg [.ifc 142 (.ptr 0 0)]] (shaG 0 1 i) 2
  (fun F : Nat → Int=>∀ j,j < 20 → 0 ≤ F j ∧ F j < 256) (fun F=>⟨.agg [.v (.int .u8 (F 0)),.v (.int .u8 (F 1)),.v (.int .u8 (F 2)),.v (.int .u8 (F 3)),.v (.int .u8 (F 4)),.v (.int .u8 (F 5)),.v (.int .u8 (F 6)),.v (.int .u8 (F 7)),.v (.int .u8 (F 8)),.v (.int .u8 (F 9)),.v (.int .u8 (F 10)),.v (.int .u8 (F 11)),.v (.int .u8 (F 12)),.v (.int .u8 (F 13)),.v (.int .u8 (F 14)),.v (.int .u8 (F 15)),.v (.int .u8 (F 16)),.v (.int .u8 (F 17)),.v (.int .u8 (F 18)),.v (.int .u8 (F 19))],shaG 0 1 i,2⟩):=by
 refine fE 8 Tryz.func76 fun zw zβ=>?_
 refine cF [0] ?_
 refine rS [1,2] ?_
 refine GC.cvR 3 ⟨.ints .u8 fun _=>0,20,74⟩ rfl rfl rfl (fun i hi=>by have : i < 20:=hi; match i,this with | 0,_=>rfl | 1,_=>rfl | 2,_=>rfl | 3,_=>rfl | 4,_=>rfl | 5,_=>rfl | 6,_=>rfl | 7,_=>rfl | 8,_=>rfl | 9,_=>rfl | 10,_=>rfl | 11,_=>rfl | 12,_=>rfl | 13,_=>rfl | 14,_=>rfl | 15,_=>rfl | 16,_=>rfl | 17,_=>rfl | 18,_=>rfl | 19,_=>rfl | n + 20,h=>exact absurd h (by omega)) rfl ?_
 refine GC.seq (GC.draw [(0,0),(1,0),(2,1),(3,2),(4,2)] mixed (by kernel_rfl) (by rintro _ _ _ _ ⟨_,_,_,_,h,_⟩ _; cases h) ?_)
 refine wK 3 [2,3,5] ?_
 refine GW.op rfl rfl (iR rfl rfl (m142s) (f280w _ n i hA hn) [0,1] rfl rfl rfl rfl ?_)
 intro ⟨c,F⟩ hd
 dsimp only at hd ⊢
 have hd1:=hd.1
 refine wL [2,3,6] rfl ?_
 refine GW.op rfl rfl (OpW.copyI (m:=20) (N:=F) rfl rfl rfl rfl rfl rfl (by decide) (src_slc rfl rfl (by show 0 + 20 * 1 ≤ c; omega) (fun j hj=>by rw [Nat.zero_add]; rfl)) rfl ?_)
 refine wL [2] rfl ?_
 refine wF [2] (GK.code ?_)
 refine GC.ret ?_
 refine fR (.inl rfl) rfl (by trivial) F [0,1] rfl rfl rfl rfl (hd.2)
theorem f87 (μ) (k : Nat) (hk : k < 6) : Fun Tryz.prog μ 87 [.v (.int .i8 k)] [] 0 (fun _ : Unit=>True) (fun _=>⟨.v (.bool false),[],0⟩):=by
 refine fE 9 Tryz.func87 fun zw zβ=>?_
 refine cF [0,6,7] ?_
 refine rS [0,6,7] ?_
 refine GL.seqR ?_
 refine lK 3 [0,5,6,7] ?_
 refine GL.spl 5 rfl rfl rfl (fun h7=>?_) (fun h7=>?_)
 ·have h7 : (k : Int) = 7:=by simpa using h7
  omega
 ·have h7 : ¬ ((k : Int) = 7):=by simpa using h7
  refine lF [2] (GK.code ?_)
  refine GC.ret ?_
  refine GK.boolS 2 false rfl (by rw [decide_eq_false_iff_not]; omega) rfl ?_
  refine fR (.inl rfl) rfl (by trivial) () [] rfl rfl rfl rfl (trivial)
end Go.Proofs.YtebadfmnmhmfeaaGreatDoor.T
