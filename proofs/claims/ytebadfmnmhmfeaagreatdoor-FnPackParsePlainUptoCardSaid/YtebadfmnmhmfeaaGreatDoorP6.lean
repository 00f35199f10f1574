/- What the functions of the program do, one contract each (P18, P19, P42, P44, P45); each states its own conditions. -/
import Derived.Test.YtebadfmnmhmfeaaGreatDoorP5
namespace Go.Proofs.YtebadfmnmhmfeaaGreatDoor.T
open Go.Proofs.YtebadfmnmhmfeaaGreatDoor.Sx Go.RowKit
set_option maxRecDepth 20000
set_option linter.unusedSimpArgs false
set_option linter.unusedVariables false
set_option linter.unnecessarySimpa false
set_option linter.unusedSectionVars false
theorem and8 {b : Int} {m : Nat} (hb : 0 ≤ b ∧ b < 256) (hm : m < 256) : bitZ .and 8 b m = ((b.toNat &&& m : Nat) : Int):=by
 show (((BitVec.ofInt 8 b &&& BitVec.ofInt 8 (m : Int)).toNat : Nat) : Int) = _
 rw [BitVec.toNat_and,BitVec.toNat_ofInt,BitVec.toNat_ofInt]
 have h1 : (b % ((2 ^ 8 : Nat) : Int)).toNat = b.toNat:=by omega
 have h2 : ((m : Int) % ((2 ^ 8 : Nat) : Int)).toNat = m:=by omega
 rw [h1,h2]
theorem land112 : ∀ b : Fin 256,b.val &&& 112 = b.val / 16 % 8 * 16:=by decide
theorem land128 : ∀ b : Fin 256,b.val &&& 128 = if b.val < 128 then 0 else 128:=by decide
theorem land127 : ∀ b : Fin 256,b.val &&& 127 = b.val % 128:=by decide
theorem land15 : ∀ b : Fin 256,b.val &&& 15 = b.val % 16:=by decide
theorem b112 {b : Int} (hb : 0 ≤ b ∧ b < 256) : bitZ .and 8 b 112 = b / 16 % 8 * 16:=by
 rw [show (112 : Int) = ((112 : Nat) : Int) from rfl,and8 hb (by decide)]
 have:=land112 ⟨b.toNat,by omega⟩
 dsimp only at this
 rw [this]; omega
theorem b128 {b : Int} (hb : 0 ≤ b ∧ b < 256) : bitZ .and 8 b 128 = if b < 128 then 0 else 128:=by
 rw [show (128 : Int) = ((128 : Nat) : Int) from rfl,and8 hb (by decide)]
 have:=land128 ⟨b.toNat,by omega⟩
 dsimp only at this
 rw [this]
 by_cases h : b < 128
 ·rw [if_pos (by omega),if_pos (by omega)]; rfl
 ·rw [if_neg (by omega),if_neg (by omega)]
theorem b127 {b : Int} (hb : 0 ≤ b ∧ b < 256) : bitZ .and 8 b 127 = b % 128:=by
 rw [show (127 : Int) = ((127 : Nat) : Int) from rfl,and8 hb (by decide)]
 have:=land127 ⟨b.toNat,by omega⟩
 dsimp only at this
 rw [this]; omega
theorem b15 {b : Int} (hb : 0 ≤ b ∧ b < 256) : bitZ .and 8 b 15 = b % 16:=by
 rw [show (15 : Int) = ((15 : Nat) : Int) from rfl,and8 hb (by decide)]
 have:=land15 ⟨b.toNat,by omega⟩
 dsimp only at this
 rw [this]; omega
theorem f180 (μ) (b : Int) (hb : 0 ≤ b ∧ b < 256) : Fun Tryz.prog μ 180 [.v (.int .u8 b)] [] 0 (fun _ : Unit=>True) (fun _=>⟨.v (.int .i8 (b / 16 % 8)),[],0⟩):=by
 have e1 : w8 (bitZ .and 8 b 112) / 16 = b / 16 % 8:=by rw [b112 hb]; unfold w8; omega
 have e2 : InI8 (w8 (bitZ .and 8 b 112) / 16):=by rw [e1]; unfold InI8; omega
 refine fE 7 Tryz.func180 fun zw zβ=>?_
 refine cF [0] ?_
 refine rS [0] ?_ (hc:=(by (repeat' first | exact trivial | exact e2 | refine And.intro ?_ ?_) <;> omega))
 refine rS [2] ?_ (hc:=(by (repeat' first | exact trivial | exact e2 | refine And.intro ?_ ?_) <;> omega))
 refine GC.ret ?_
 refine GK.abs 2 rfl (fun _=>rfl) fun x' hx'=>?_
 obtain rfl : x' = b / 16 % 8:=by rw [hx',← e1]; rfl
 refine fR (.inl rfl) rfl (by (repeat' first | exact trivial | exact e2 | refine And.intro ?_ ?_) <;> omega) () [] rfl rfl rfl rfl (trivial)
inductive Tl (B : Nat → Int) : Nat → Nat → Nat → Prop
 | last {p r : Nat} : r < 128 → B p = (r : Int) → Tl B p r (p + 1)
 | more {p r q : Nat} : 128 ≤ r → B p = ((r % 128 + 128 : Nat) : Int) → Tl B (p + 1) (r / 128) q → Tl B p r q
theorem Tl.lt {B : Nat → Int} {p r q : Nat} (h : Tl B p r q) : p < q:=by
 induction h with
 | last=>omega
 | more _ _ _ ih=>omega
def ohR (ty off len : Int) : Row:=⟨.lst [.v (.int .i8 ty),.v (.int .i64 off),.v (.int .i64 len),.v (.int .u8 0),.v (.int .u8 0),.v (.int .u8 0),.v (.int .u8 0),.v (.int .u8 0),.v (.int .u8 0),.v (.int .u8 0),.v (.int .u8 0),.v (.int .u8 0),.v (.int .u8 0),.v (.int .u8 0),.v (.int .u8 0),.v (.int .u8 0),.v (.int .u8 0),.v (.int .u8 0),.v (.int .u8 0),.v (.int .u8 0),.v (.int .u8 0),.v (.int .u8 0),.v (.int .u8 0),.v (.int .i64 0)],24,168⟩
def scH (B : Nat → Int) (rn N cap : Nat) (off : Int) (s : RdI) (t : WI) (v o ty hoff len : Int) : GH:=srG B rn N cap 13 off s t ++ [(11,.row (scR 0 9 10 (.ptr 12 0) v o)),(12,.row (ohR ty hoff len))]
def WL (B : Nat → Int) (rn N cap : Nat) (v o ty hoff len : Int) (off L c sh : Int) (s : RdI) (t : WI) (p r : Nat) : S:=⟨[(0,.ptr 11 0),(6,.v (.int .i64 L)),(7,.v (.int .u8 c)),(8,.v (.int .u8 sh))],scH B rn N cap off s t v o ty hoff len,14,[]⟩
structure IWL (B S : Nat → Int) (N p0 ps n q : Nat) (off L c sh : Int) (s : RdI) (t : WI) (p r : Nat) : Prop where
 ho : off = (p : Int)
 hp : p0 ≤ p ∧ p ≤ q
 hs : Sr B S N p (ps + (p - p0)) s t
 hc : 0 ≤ c ∧ c < 256
 hsh : 4 ≤ sh ∧ sh ≤ 64
 hL : ∃ l : Nat,L = (l : Int) ∧ l + r * 2 ^ sh.toNat = n
 hr : (r = 0 ∧ c < 128 ∧ p = q) ∨ (128 ≤ c ∧ 1 ≤ r ∧ Tl B p r q)
theorem pow_lt40 {r k n : Nat} (h : r * 2 ^ k ≤ n) (hr : 1 ≤ r) (hn : n < 2 ^ 40) : k < 40:=by
 have h1 : 2 ^ k ≤ r * 2 ^ k:=Nat.le_mul_of_pos_left _ hr
 exact (Nat.pow_lt_pow_iff_right (by decide : 1 < 2)).1 (Nat.lt_of_le_of_lt (Nat.le_trans h1 h) hn)
theorem pstep (l r P n : Nat) (h : l + r * P = n) : l + r % 128 * P + r / 128 * (P * 128) = n ∧ l + r % 128 * P ≤ n:=by
 have h1 : r / 128 * (P * 128) = 128 * (r / 128) * P:=by rw [Nat.mul_comm P 128,← Nat.mul_assoc,Nat.mul_comm (r / 128) 128]
 have h2 : (128 * (r / 128) + r % 128) * P = r * P:=by rw [Nat.div_add_mod]
 rw [Nat.add_mul] at h2
 omega
theorem f158 (μ) (B S : Nat → Int) (rn N cap p0 ps n q : Nat) (s0 : RdI) (t0 : WI) (v o ty hoff len b : Int) (d : Dat B rn N cap) (h : Sr B S N p0 ps s0 t0) (hb : 0 ≤ b ∧ b < 256) (hn : n < 2 ^ 40) (hq : q ≤ N)
  (hd : (n < 16 ∧ b % 16 = n ∧ b < 128 ∧ q = p0) ∨ (16 ≤ n ∧ b % 16 = ((n % 16 : Nat) : Int) ∧ 128 ≤ b ∧ Tl B p0 (n / 16) q)) :
  FunC Tryz.prog μ 158 [.ptr 11 0,.v (.int .u8 b)] (scH B rn N cap p0 s0 t0 v o ty hoff len) 13 14
  (fun x : RdI × WI=>Sr B S N q (ps + (q - p0)) x.1 x.2) (fun x=>⟨.tup [.v (.int .i64 n),.v .nilIface],scH B rn N cap q x.1 x.2 v o ty hoff len,14⟩):=by
 have e15:=b15 hb
 have e2 : InI64 (w8 (bitZ .and 8 b 15)):=by rw [e15]; unfold w8 InI64; omega
 dsimp only [scH,srG,List.cons_append,List.nil_append]
 refine fE 41 Tryz.func158 fun zw zβ=>?_
 refine cF [0,1] ?_
 refine rS [0,1] ?_ (hc:=(by (repeat' first | exact trivial | exact e2 | refine And.intro ?_ ?_) <;> omega))
 refine rS [0,1,6] ?_ (hc:=(by (repeat' first | exact trivial | exact e2 | refine And.intro ?_ ?_) <;> omega))
 refine rS [0,6,7] ?_ (hc:=(by (repeat' first | exact trivial | exact e2 | refine And.intro ?_ ?_) <;> omega))
 refine rS [0,6,7,8] ?_ (hc:=(by (repeat' first | exact trivial | exact e2 | refine And.intro ?_ ?_) <;> omega))
 refine rS [0,6,7,8] ?_ (hc:=(by (repeat' first | exact trivial | exact e2 | refine And.intro ?_ ?_) <;> omega))
 refine GC.seq (GC.block ?_)
 refine GC.loopE (ι:=(Int) × (Int) × (Int) × (Int) × (RdI) × (WI) × (Nat) × (Nat)) (fun zi=>(IWL B S N p0 ps n q) zi.1 zi.2.1 zi.2.2.1 zi.2.2.2.1 zi.2.2.2.2.1 zi.2.2.2.2.2.1 zi.2.2.2.2.2.2.1 zi.2.2.2.2.2.2.2) (fun zi=>(fun off L c sh s t p r=>((64 - sh).toNat : Nat)) zi.1 zi.2.1 zi.2.2.1 zi.2.2.2.1 zi.2.2.2.2.1 zi.2.2.2.2.2.1 zi.2.2.2.2.2.2.1 zi.2.2.2.2.2.2.2) (fun zi=>(WL B rn N cap v o ty hoff len) zi.1 zi.2.1 zi.2.2.1 zi.2.2.2.1 zi.2.2.2.2.1 zi.2.2.2.2.2.1 zi.2.2.2.2.2.2.1 zi.2.2.2.2.2.2.2) (((p0 : Int),_,b,4,s0,t0,p0,n / 16)) [0,1,2,3,4,5,6,7,8,9,10,11,12,13] (show (IWL B S N p0 ps n q) ((p0 : Int)) (_) (b) (4) (s0) (t0) (p0) (n / 16) from ?_) (Ent.R rfl rfl rfl rfl) ?_
 ·have e3 : w8 (bitZ .and 8 b 15) = b % 16:=by rw [e15]; unfold w8; omega
  refine ⟨rfl,⟨Nat.le_refl _,?_⟩,by rw [Nat.sub_self]; exact h,hb,by omega,⟨n % 16,?_,?_⟩,?_⟩
  ·rcases hd with h1 | h1
   ·omega
   ·exact Nat.le_of_lt h1.2.2.2.lt
  ·show w8 (bitZ .and 8 b 15) = _
   rw [e3]; rcases hd with h1 | h1
   ·omega
   ·omega
  ·show n % 16 + n / 16 * 2 ^ 4 = n
   omega
  ·rcases hd with h1 | h1
   ·left; exact ⟨by omega,h1.2.2.1,h1.2.2.2.symm⟩
   ·right; exact ⟨h1.2.2.1,by omega,h1.2.2.2⟩
 rintro ⟨off,L,c,sh,s,t,p,r⟩ hI
 change (IWL B S N p0 ps n q) off L c sh s t p r at hI
 have hI2:=hI
 change GC _ _ _ ((WL B rn N cap v o ty hoff len) off L c sh s t p r)
 obtain ⟨rfl,⟨hp1,hp2⟩,hs,hc,hsh,⟨l,rfl,hl⟩,hr⟩:=hI2
 have e4:=b128 hc
 unfold WL
 dsimp only [scH,srG,List.cons_append,List.nil_append]
 refine cF [0,6,7,8] ?_
 refine GC.seq ?_
 refine rS [0,6,8,16] ?_ (hc:=(by (repeat' first | exact trivial | refine And.intro ?_ ?_) <;> omega))
 refine GC.cond rfl (fun hc2=>?_) (fun hc2=>?_)
 ·have hc3 : 0 < w8 (bitZ .and 8 c 128):=of_decide_eq_true hc2
  have hc4 : 128 ≤ c:=by rw [e4] at hc3; unfold w8 at hc3; split at hc3 <;> omega
  obtain ⟨hr1,hr2,hr3⟩ : 128 ≤ c ∧ 1 ≤ r ∧ Tl B p r q:=by rcases hr with h1 | h1; exact absurd h1.2.1 (by omega); exact h1
  have hs40 : sh.toNat < 40:=pow_lt40 (Nat.le_trans (Nat.le_add_left _ _) (Nat.le_of_eq hl)) hr2 hn
  refine GC.skip (GK.code (GC.block (GC.seq ?_)))
  refine rS [0,6,8,18] ?_ (hc:=(by (repeat' first | exact trivial | refine And.intro ?_ ?_) <;> omega))
  refine GC.cond rfl (fun hc5=>?_) (fun hc5=>?_)
  ·have hc5 : 57 < sh:=by simpa using hc5
   omega
  ·have hc5 : ¬ (57 < sh):=by simpa using hc5
   have hlt:=hr3.lt
   refine GC.skip (GK.code (GC.seq (GL.seqR ?_)))
   refine lK 4 [0,6,8,24] ?_ (hc:=(by (repeat' first | exact trivial | refine And.intro ?_ ?_) <;> omega))
   refine GL.op rfl (cR rfl (f179 _ B S rn N cap p (ps + (p - p0)) s t d hs (by omega)) [0,1,2,3,4,5,6,7,8,9,10,13] rfl rfl rfl rfl fun x hx=>?_)
   obtain ⟨s',t'⟩:=x
   obtain ⟨hx1,hx2⟩:=hx
   dsimp only at hx1 hx2 ⊢
   have hbp:=d.hB p (by omega)
   have hm : w8 (bitZ .and 8 (B p) 127) = ((r % 128 : Nat) : Int):=by
    rw [b127 hbp]
    cases hr3 with
    | last h1 h2=>rw [h2]; unfold w8; omega
    | more h1 h2 h3=>rw [h2]; unfold w8; omega
   have hpw : (2 : Int) ^ min sh.toNat 64 = ((2 ^ sh.toNat : Nat) : Int):=by rw [Nat.min_eq_left (by omega)]; norm_cast
   have hpr : w8 (bitZ .and 8 (B p) 127) * 2 ^ min sh.toNat 64 = ((r % 128 * 2 ^ sh.toNat : Nat) : Int):=by rw [hm,hpw]; norm_cast
   have hst:=pstep l r (2 ^ sh.toNat) n hl
   have hn2 : n < 1099511627776:=hn
   have i1 : InI64 (w8 (bitZ .and 8 (B p) 127)):=by rw [hm]; unfold InI64; omega
   have i2 : InI64 (w8 (bitZ .and 8 (B p) 127) * 2 ^ min sh.toNat 64):=by rw [hpr]; unfold InI64; omega
   have i3 : InI64 ((l : Int) + w8 (bitZ .and 8 (B p) 127) * 2 ^ min sh.toNat 64):=by rw [hpr]; unfold InI64; omega
   refine gF [0,6,8,25] rfl ?_
   refine lF [0,6,7,8,9] (GK.code ?_) (hc:=(by (repeat' first | exact trivial | refine And.intro ?_ ?_) <;> omega))
   refine rS [0,6,7,8,9,29] ?_ (hc:=(by (repeat' first | exact trivial | refine And.intro ?_ ?_) <;> omega))
   refine GC.condF rfl (GC.skip (GK.code ?_))
   refine rS [0,6,7,8] ?_ (hc:=(by (repeat' first | exact trivial | exact i1 | exact i2 | exact i3 | refine And.intro ?_ ?_) <;> omega))
   refine rG [0,6,7,8] ?_ (hc:=(by (repeat' first | exact trivial | exact i1 | exact i2 | exact i3 | refine And.intro ?_ ?_) <;> omega))
   refine GK.back (((p : Int) + 1),((l : Int) + w8 (bitZ .and 8 (B p) 127) * 2 ^ min sh.toNat 64),(B p),w8 (sh + 7),s',t',(p + 1),(r / 128)) [0,1,2,3,4,5,6,7,8,9,10,11,12,13] (show (IWL B S N p0 ps n q) (((p : Int) + 1)) (((l : Int) + w8 (bitZ .and 8 (B p) 127) * 2 ^ min sh.toNat 64)) ((B p)) (w8 (sh + 7)) (s') (t') ((p + 1)) ((r / 128)) from ?_) ?_ (Ent.R rfl rfl rfl rfl)
   ·have e7 : (w8 (sh + 7)).toNat = sh.toNat + 7:=by unfold w8; omega
    refine ⟨rfl,⟨by omega,hlt⟩,?_,hbp,by unfold w8; omega,⟨l + r % 128 * 2 ^ sh.toNat,by rw [hpr]; norm_cast,?_⟩,?_⟩
    ·have:=hs.step d (k:=1) (by omega) hx1 hx2
     rw [show ps + (p + 1 - p0) = ps + (p - p0) + 1 from by omega]; exact this
    ·rw [e7,Nat.pow_add]; exact hst.1
    ·cases hr3 with
     | last h1 h2=>left; exact ⟨by omega,by omega,rfl⟩
     | more h1 h2 h3=>right; exact ⟨by omega,by omega,h3⟩
   ·unfold w8; dsimp only; omega
 ·have hc3 : ¬ 0 < w8 (bitZ .and 8 c 128):=of_decide_eq_false hc2
  obtain ⟨rfl,hc4,rfl⟩ : r = 0 ∧ c < 128 ∧ p = q:=by
   rcases hr with h1 | h1
   ·exact h1
   ·rw [e4,if_neg (by omega)] at hc3; exact absurd (by decide) hc3
  obtain rfl : l = n:=by omega
  refine GC.exit ?_
  refine GK.code ?_
  refine rS [4,5] ?_ (hc:=(by (repeat' first | exact trivial | exact i1 | exact i2 | exact i3 | refine And.intro ?_ ?_) <;> omega))
  refine GC.ret ?_
  refine fR (.inl rfl) rfl (by (repeat' first | exact trivial | exact i1 | exact i2 | exact i3 | refine And.intro ?_ ?_) <;> omega) ((s,t)) [0,1,2,3,4,5,6,7,8,9,10,11,12,13] rfl rfl rfl rfl (hs)
theorem f157 (μ) (B S : Nat → Int) (rn N cap p ps : Nat) (s : RdI) (t : WI) (v o ty hoff len : Int) (d : Dat B rn N cap) (h : Sr B S N p ps s t) (hp : p < N) :
  FunC Tryz.prog μ 157 [.ptr 11 0] (scH B rn N cap p s t v o ty hoff len) 13 14
  (fun x : RdI × WI=>Sr B S N (p + 1) (ps + 1) x.1 x.2) (fun x=>⟨.tup [.v (.int .i8 (B p / 16 % 8)),.v (.int .u8 (B p)),.v .nilIface],scH B rn N cap ((p + 1 : Nat) : Int) x.1 x.2 v o ty hoff len,14⟩):=by
 dsimp only [scH,srG,List.cons_append,List.nil_append]
 refine fE 23 Tryz.func157 fun zw zβ=>?_
 refine cF [0] ?_
 refine rS [0] ?_
 refine rS [0] ?_
 refine rS [0] ?_
 refine GC.seq (GL.seqR ?_)
 refine lK 4 [12] ?_
 refine GL.op rfl (cR rfl (f179 _ B S rn N cap p ps s t d h hp) [0,1,2,3,4,5,6,7,8,9,10,13] rfl rfl rfl rfl fun x hx=>?_)
 refine gF [13] rfl ?_
 refine lF [5,6] (GK.code ?_)
 refine rS [5,6,17] ?_
 refine GC.condF rfl (GC.skip (GK.code (GL.seqR ?_)))
 refine lK 1 [5,19] ?_
 refine GL.op rfl (cR rfl (f180 _ (B p) (d.hB p hp)) [] rfl rfl rfl rfl fun _ _=>?_)
 refine gF [5,20] rfl ?_
 refine lF [5,7] (GK.code ?_)
 refine rS [2,3,4] ?_
 refine GC.ret ?_
 refine fR (.inl rfl) rfl (by trivial) x [0,1,2,3,4,5,6,7,8,9,10,11,12,13] rfl rfl rfl rfl (h.step d (k:=1) (by omega) hx.1 hx.2)
structure Hd (B : Nat → Int) (p k n q : Nat) : Prop where
 hk : k < 8
 hb : (n < 16 ∧ B p = ((k * 16 + n : Nat) : Int) ∧ q = p + 1) ∨ (16 ≤ n ∧ B p = ((k * 16 + n % 16 + 128 : Nat) : Int) ∧ Tl B (p + 1) (n / 16) q)
theorem Hd.lt {B : Nat → Int} {p k n q : Nat} (h : Hd B p k n q) : p < q:=by
 rcases h.hb with h1 | h1
 ·omega
 ·have:=h1.2.2.lt; omega
theorem f138 (μ) (B S : Nat → Int) (rn N cap p ps k n q : Nat) (s : RdI) (t : WI) (v o ty hoff len : Int) (d : Dat B rn N cap) (h : Sr B S N p ps s t) (hh : Hd B p k n q) (hq : q ≤ N) (hn : n < 2 ^ 40) :
  FunC Tryz.prog μ 138 [.ptr 11 0] (scH B rn N cap p s t v o ty hoff len) 13 14
  (fun x : RdI × WI=>Sr B S N q (ps + (q - p)) x.1 x.2) (fun x=>⟨.tup [.v (.int .i8 k),.v (.int .i64 n),.v .nilIface],scH B rn N cap q x.1 x.2 v o ty hoff len,14⟩):=by
 have hlt:=hh.lt
 have hk:=hh.hk
 have hk2 : B p / 16 % 8 = (k : Int):=by rcases hh.hb with h1 | h1 <;> rw [h1.2.1] <;> omega
 have hd : (n < 16 ∧ B p % 16 = n ∧ B p < 128 ∧ q = p + 1) ∨ (16 ≤ n ∧ B p % 16 = ((n % 16 : Nat) : Int) ∧ 128 ≤ B p ∧ Tl B (p + 1) (n / 16) q):=by
  rcases hh.hb with ⟨h1,h2,h3⟩ | ⟨h1,h2,h3⟩
  ·left; rw [h2]; exact ⟨h1,by omega,by omega,h3⟩
  ·right; rw [h2]; exact ⟨h1,by omega,by omega,h3⟩
 dsimp only [scH,srG,List.cons_append,List.nil_append]
 refine fE 28 Tryz.func138 fun zw zβ=>?_
 refine cF [0] ?_
 refine rS [0] ?_
 refine GL.seqR ?_
 refine lK 1 [0,10] ?_
 refine GL.op rfl (cR rfl (f157 _ B S rn N cap p ps s t v o ty hoff len d h (by omega)) [0,1,2,3,4,5,6,7,8,9,10,11,12,13] rfl rfl rfl rfl fun x hx=>?_)
 rw [hk2]
 obtain ⟨s1,t1⟩:=x
 dsimp only at hx ⊢
 refine gF [0,11] rfl ?_
 refine lF [0,5,6,7] (GK.code ?_)
 refine GC.seq ?_
 refine rS [0,5,6,7,16] ?_
 refine GC.condF rfl (GC.skip (GK.code (GL.seqR ?_)))
 refine lK 2 [5,20,21] ?_
 refine GL.op rfl (cR rfl (f158 _ B S rn N cap (p + 1) (ps + 1) n q s1 t1 v o ty hoff len (B p) d hx (d.hB p (by omega)) hn hq hd) [0,1,2,3,4,5,6,7,8,9,10,11,12,13] rfl rfl rfl rfl fun x hx=>?_)
 refine gF [5,22] rfl ?_
 refine lF [5,7,8] (GK.code ?_)
 refine rS [2,3,4] ?_
 refine GC.ret ?_
 refine fR (.inl rfl) rfl (by trivial) x [0,1,2,3,4,5,6,7,8,9,10,11,12,13] rfl rfl rfl rfl ((by rw [show ps + (q - p) = ps + 1 + (q - (p + 1)) from by omega]; exact hx))
theorem m113 : IsMeth Tryz.prog 101 "Reset" 256:=fun v w=>by kernel_rfl
theorem f111 (μ) (B S : Nat → Int) (rn N cap p ps k n q : Nat) (s : RdI) (t : WI) (v o : Int) (d : Dat B rn N cap) (h : Sr B S N p ps s t) (hh : Hd B p k n q) (hq : q ≤ N) (hn : n < 2 ^ 40) (hk : k < 6) :
  FunC Tryz.prog μ 111 [.ptr 11 0] (scG B rn N cap p s t (.v (.pointer none)) v o) 12 13
  (fun x : RdI × WI=>Sr B S N q (ps + (q - p)) x.1 x.2) (fun x=>⟨.tup [.ptr 13 0,.v .nilIface],srG B rn N cap 12 q x.1 x.2 ++ [(11,.row (scR 0 9 10 (.ptr 13 0) v o)),(13,.row (ohR k p n))],14⟩):=by
 have hlt:=hh.lt
 dsimp only [scG,srG,List.cons_append,List.nil_append]
 refine fE 110 Tryz.func111 fun zw zβ=>?_
 refine cF [0,75,76,77,78,79,80] ?_
 refine rS [0,75,76,77,78,79,80] ?_
 refine GL.seqR ?_
 refine lK 4 [0,12,75,76,77,78,79,80] ?_
 refine GL.op rfl (cR rfl (f78 _ S B rn N cap ps p s t h.hw h.hS (by have:=h.hb; omega)) [0,1,2,3,4,5,6,7,8,9,10,12] rfl rfl rfl rfl fun t1 ht1=>?_)
 obtain ⟨q1,n1,W1,x1,sh1⟩:=t1
 obtain ⟨⟨a1,a2,a3,a4⟩,a5⟩:=ht1
 dsimp only at a1 a2 a3 a4 a5
 dsimp only
 have h2 : Sr B S N p ps s ⟨q1,n1,W1,0,sh1⟩:=⟨h.hr,⟨a1,a2,a3,a4⟩,h.hl,h.hS,h.hb,h.hp⟩
 refine gF [0,75,76,77,78,79,80] rfl ?_
 refine lF [0,75,76,77,78,79,80] (GK.code ?_)
 refine GL.seqR ?_
 refine lK 4 [0,17,75,76,77,78,79,80] ?_
 refine GL.op rfl (iR rfl rfl (m113) (f256 _ x1) [9] rfl rfl rfl rfl fun _ _=>?_)
 refine gF [0,75,76,77,78,79,80] rfl ?_
 refine lF [0,75,76,77,78,79,80] (GK.code ?_)
 refine rS [0,4,75,76,77,78,79,80] ?_
 refine rS [0,4,75,76,77,78,79,80] ?_
 refine rS [0,4,75,76,77,78,79,80] ?_
 refine GL.seqR ?_
 refine lK 5 [0,4,26,30,75,76,77,78,79,80] ?_
 refine GL.op rfl (cR rfl (f110_1 _ B rn N cap p s ⟨q1,n1,W1,0,sh1⟩) [0,1,2,3,4,5,6,7,8,9,10,12] rfl rfl rfl rfl fun _ _=>?_)
 refine gF [0,4,26,31,75,76,77,78,79,80] rfl ?_
 refine lF [0,4,5,75,76,77,78,79,80] (GK.code ?_)
 refine GC.seq ?_
 refine rS [0,4,5,37,75,76,77,78,79,80] ?_
 refine GC.condF rfl (GC.skip (GK.code (GL.seqR ?_)))
 refine lK 3 [0,4,40,41,42,75,76,77,78,79,80] ?_
 refine GL.op rfl (cR rfl (f138 _ B S rn N cap p ps k n q s ⟨q1,n1,W1,0,sh1⟩ v o 0 p 0 d h2 hh hq hn) [0,1,2,3,4,5,6,7,8,9,10,11,13,12] rfl rfl rfl rfl fun x hx=>?_)
 refine gF [0,4,40,41,43,75,76,77,78,79,80] rfl ?_
 refine lF [0,4,5,75,76,77,78,79,80] (GK.code ?_)
 refine GC.seq ?_
 refine rS [0,4,5,52,75,76,77,78,79,80] ?_
 refine GC.condF rfl (GC.skip (GK.code (GC.seq ?_)))
 refine rS [0,4,57,75,76,77,78,79,80] ?_
 refine GC.block ?_
 refine rS [0,4,57,58,75,76,77,78,79,80] ?_
 refine GC.cond rfl (fun h6=>?_) (fun h6=>?_)
 ·have h6 : (k : Int) = 6:=by simpa using h6
  omega
 ·have h6 : ¬ ((k : Int) = 6):=by simpa using h6
  refine rS [0,4,92] ?_
  refine GC.cond rfl (fun h7=>?_) (fun h7=>?_)
  ·have h7 : (k : Int) = 7:=by simpa using h7
   omega
  ·have h7 : ¬ ((k : Int) = 7):=by simpa using h7
   refine GC.skip (GK.code ?_)
   refine rS [2,3] ?_
   refine GC.ret ?_
   refine fR (.inl rfl) rfl (by trivial) x [0,1,2,3,4,5,6,7,8,9,10,11,12,13] rfl rfl rfl rfl (hx)
theorem f77 (μ) (B : Nat → Int) (rn N cap : Nat) (off : Int) (s : RdI) (t : WI) (v o : Int) : Fun Tryz.prog μ 77 [.ptr 11 0] (scG B rn N cap off s t (.v (.pointer none)) v o) 13
  (fun _ : Unit=>True) (fun _=>⟨.v .nilIface,scG B rn N cap off s t (.v (.pointer none)) v o,13⟩):=by
 dsimp only [scG,srG,List.cons_append,List.nil_append]
 refine fE 35 Tryz.func77 fun zw zβ=>?_
 refine cF [0] ?_
 refine rS [0] ?_
 refine GC.seq ?_
 refine rS [0,11] ?_
 refine GC.condT rfl ?_
 refine rS [2] ?_
 refine GC.ret ?_
 refine fR (.inl rfl) rfl (by trivial) () [0,1,2,3,4,5,6,7,8,9,10,11,12] rfl rfl rfl rfl (trivial)
theorem f109 (μ) (B : Nat → Int) (rn N cap : Nat) (off : Int) (s : RdI) (t : WI) (o : Int) : Fun Tryz.prog μ 109 [.ptr 11 0] (scG B rn N cap off s t (.v (.pointer none)) 2 o) 13
  (fun _ : Unit=>True) (fun _=>⟨.v .nilIface,scG B rn N cap off s t (.v (.pointer none)) 2 o,13⟩):=by
 dsimp only [scG,srG,List.cons_append,List.nil_append]
 refine fE 26 Tryz.func109 fun zw zβ=>?_
 refine cF [0] ?_
 refine rS [0] ?_
 refine GC.seq ?_
 refine rS [0,8] ?_
 refine GC.condF rfl (GC.skip (GK.code (GL.seqR ?_)))
 refine lK 1 [24] ?_
 refine GL.op rfl (cR rfl (f77 _ B rn N cap off s t 2 o) [0,1,2,3,4,5,6,7,8,9,10,11,12] rfl rfl rfl rfl fun _ _=>?_)
 refine gF [25] rfl ?_
 refine lF [2] (GK.code ?_)
 refine GC.ret ?_
 refine fR (.inl rfl) rfl (by trivial) () [0,1,2,3,4,5,6,7,8,9,10,11,12] rfl rfl rfl rfl (trivial)
theorem f66 (μ) (B S : Nat → Int) (rn N cap p ps k n q : Nat) (s : RdI) (t : WI) (o : Int) (d : Dat B rn N cap) (h : Sr B S N p ps s t) (hh : Hd B p k n q) (hq : q ≤ N) (hn : n < 2 ^ 40) (hk : k < 6) :
  FunC Tryz.prog μ 66 [.ptr 11 0] (scG B rn N cap p s t (.v (.pointer none)) 2 o) 12 13
  (fun x : RdI × WI=>Sr B S N q (ps + (q - p)) x.1 x.2) (fun x=>⟨.tup [.ptr 13 0,.v .nilIface],srG B rn N cap 12 q x.1 x.2 ++ [(11,.row (scR 0 9 10 (.ptr 13 0) 2 o)),(13,.row (ohR k p n))],14⟩):=by
 dsimp only [scG,srG,List.cons_append,List.nil_append]
 refine fE 37 Tryz.func66 fun zw zβ=>?_
 refine cF [0] ?_
 refine rS [0] ?_
 refine GC.seq (GL.seqR ?_)
 refine lK 1 [0,8] ?_
 refine GL.op rfl (cR rfl (f109 _ B rn N cap p s t o) [0,1,2,3,4,5,6,7,8,9,10,11,12] rfl rfl rfl rfl fun _ _=>?_)
 refine gF [0,9] rfl ?_
 refine lF [0,4] (GK.code ?_)
 refine rS [0,4,11] ?_
 refine GC.condF rfl (GC.skip (GK.code (GL.seqR ?_)))
 refine lK 4 [0,17] ?_
 refine GL.op rfl (cR rfl (f110_1 _ B rn N cap p s t) [0,1,2,3,4,5,6,7,8,9,10,12] rfl rfl rfl rfl fun _ _=>?_)
 refine gF [0,18] rfl ?_
 refine lF [0,5,6] (GK.code ?_)
 refine GC.seq ?_
 refine rS [0,5,6,22] ?_
 refine GC.condF rfl (GC.skip (GK.code (GL.seqR ?_)))
 refine lK 1 [5,25] ?_
 refine GL.op rfl (cR rfl (f111 _ B S rn N cap p ps k n q s t 2 o d h hh hq hn hk) [0,1,2,3,4,5,6,7,8,9,10,11,12] rfl rfl rfl rfl fun x hx=>?_)
 refine gF [5,26] rfl ?_
 refine lF [5,6,7] (GK.code ?_)
 refine GC.seq ?_
 refine rS [5,6,7,30] ?_
 refine GC.condF rfl (GC.skip (GK.code ?_))
 refine rS [7] ?_
 refine rS [2,3] ?_
 refine GC.ret ?_
 refine fR (.inl rfl) rfl (by trivial) x [0,1,2,3,4,5,6,7,8,9,10,11,12,13] rfl rfl rfl rfl (hx)
def agL (F : Nat → Int) : List Int:=[F 0,F 1,F 2,F 3,F 4,F 5,F 6,F 7,F 8,F 9,F 10,F 11,F 12,F 13,F 14,F 15,F 16,F 17,F 18,F 19]
def agV (F : Nat → Int) : SV:=.agg ((agL F).map fun z=>.v (.int .u8 z))
theorem agV_congr {F G : Nat → Int} (h : ∀ j,j < 20 → F j = G j) : agL F = agL G:=by
 unfold agL
 simp only [h 0 (by decide),h 1 (by decide),h 2 (by decide),h 3 (by decide),h 4 (by decide),h 5 (by decide),h 6 (by decide),h 7 (by decide),h 8 (by decide),h 9 (by decide),h 10 (by decide),h 11 (by decide),h 12 (by decide),h 13 (by decide),h 14 (by decide),h 15 (by decide),h 16 (by decide),h 17 (by decide),h 18 (by decide),h 19 (by decide)]
theorem f118h (μ) {fe : Nat} (B S D : Nat → Int) (rn N cap p ps : Nat) (s : RdI) (t : WI) (d : Dat B rn N cap) (h : Sr B S N p ps s t) (hp : p + 20 ≤ N) : FunC Tryz.prog μ 118 [.ifc 107 (.ptr 0 0),.ifc 25 (.slc 11 0 20 20)] (srG B rn N cap 12 p s t ++ [(11,.row ⟨.ints .u8 D,20,fe⟩)]) 12 13
  (fun x : (Nat → Int) × RdI × WI=>(∀ j,j < 20 → x.1 j = B (p + j)) ∧ Sr B S N (p + 20) (ps + 20) x.2.1 x.2.2)
  (fun x=>⟨.v .nilIface,srG B rn N cap 12 ((p + 20 : Nat) : Int) x.2.1 x.2.2 ++ [(11,.row ⟨.ints .u8 x.1,20,fe⟩)],13⟩):=by
 dsimp only [srG,List.cons_append,List.nil_append]
 refine fE 124 Tryz.func118 fun zw zβ=>?_
 refine cF [0,1] ?_
 refine rS [0,1] ?_
 refine GC.seq ?_
 refine rS [0,26] ?_
 refine GC.block (GL.seqR ?_)
 refine GL.vstep rfl (VStep.assertF (z:=.pointer none) rfl rfl rfl rfl (fun _=>by kernel_rfl)) rfl (GL.force [0,26,27] rfl ?_)
 refine lF [0,26,28,29] (GK.code ?_)
 refine GC.condF rfl (GL.seqR ?_)
 refine GL.vstep rfl (VStep.assertF (z:=.pointer none) rfl rfl rfl rfl (fun _=>by kernel_rfl)) rfl (GL.force [0,26,42] rfl ?_)
 refine lF [0,26,43,44] (GK.code ?_)
 refine GC.condF rfl (GL.seqR ?_)
 refine GL.vstep rfl (VStep.assertF (z:=.pointer none) rfl rfl rfl rfl (fun _=>by kernel_rfl)) rfl (GL.force [0,26,57] rfl ?_)
 refine lF [0,26,58,59] (GK.code ?_)
 refine GC.condF rfl (GL.seqR ?_)
 refine GL.vstep rfl (VStep.assertF (z:=.pointer none) rfl rfl rfl rfl (fun _=>by kernel_rfl)) rfl (GL.force [0,26,72] rfl ?_)
 refine lF [0,26,73,74] (GK.code ?_)
 refine GC.condF rfl (GL.seqR ?_)
 refine GL.vstep rfl (VStep.assertF (z:=.pointer none) rfl rfl rfl rfl (fun _=>by kernel_rfl)) rfl (GL.force [0,26,86] rfl ?_)
 refine lF [0,26,87,88] (GK.code ?_)
 refine GC.condF rfl (GL.seqR ?_)
 refine GL.vstep rfl (VStep.assertF (z:=.pointer none) rfl rfl rfl rfl (fun _=>by kernel_rfl)) rfl (GL.force [0,26,101] rfl ?_)
 refine lF [0,26,102,103] (GK.code ?_)
 refine GC.condF rfl (GL.seqR ?_)
 refine GL.vstep rfl (VStep.assertT rfl rfl rfl) rfl (GL.force [0,113] rfl ?_)
 refine lF [0,114,115] (GK.code ?_)
 refine GC.condT rfl ?_
 refine rS [0,23] ?_
 refine GL.seqR ?_
 refine lK 2 [117,118] ?_
 refine GL.op rfl (cR rfl (f134 _ B S D rn N cap p ps 0 20 20 20 s t d h hp (by decide) (by decide)) [0,1,2,3,4,5,6,7,8,9,10,11,12] rfl rfl rfl rfl ?_)
 intro ⟨D2,s2,t2⟩ hx
 dsimp only at hx ⊢
 refine gF [119] rfl ?_
 refine lF [25] (GK.code ?_)
 refine rS [4] ?_
 refine GC.ret ?_
 refine fR (.inl rfl) rfl (by trivial) ((D2,s2,t2)) [0,1,2,3,4,5,6,7,8,9,10,11,12] rfl rfl rfl rfl (⟨fun j hj=>by dsimp only; rw [hx.1,if_pos (by omega)]; rfl,hx.2⟩)
theorem f79 (μ) (B S : Nat → Int) (rn N cap p ps : Nat) (s : RdI) (t : WI) (d : Dat B rn N cap) (h : Sr B S N p ps s t) (hp : p + 20 ≤ N) : FunC Tryz.prog μ 79 [.ifc 107 (.ptr 0 0)] (srG B rn N cap 11 p s t) 11 12
  (fun x : (Nat → Int) × RdI × WI=>(∀ j,j < 20 → x.1 j = B (p + j)) ∧ Sr B S N (p + 20) (ps + 20) x.2.1 x.2.2)
  (fun x=>⟨.tup [agV x.1,.v .nilIface],srG B rn N cap 11 ((p + 20 : Nat) : Int) x.2.1 x.2.2,12⟩):=by
 dsimp only [srG,List.cons_append,List.nil_append]
 refine fE 15 Tryz.func79 fun zw zβ=>?_
 refine cF [0] ?_
 refine rS [0,2] ?_
 refine rS [0,2,4] ?_
 refine GC.cvR 13 ⟨.ints .u8 fun _=>0,20,74⟩ rfl rfl rfl (fun i hi=>by have : i < 20:=hi; match i,this with | 0,_=>rfl | 1,_=>rfl | 2,_=>rfl | 3,_=>rfl | 4,_=>rfl | 5,_=>rfl | 6,_=>rfl | 7,_=>rfl | 8,_=>rfl | 9,_=>rfl | 10,_=>rfl | 11,_=>rfl | 12,_=>rfl | 13,_=>rfl | 14,_=>rfl | 15,_=>rfl | 16,_=>rfl | 17,_=>rfl | 18,_=>rfl | 19,_=>rfl | n + 20,h=>exact absurd h (by omega)) rfl ?_
 refine GC.seq (GL.seqR ?_)
 refine lK 3 [2,4,6,8] ?_
 refine GL.op rfl (cR rfl (f118h _ B S (fun _=>0) rn N cap p ps s t d h hp) [0,1,2,3,4,5,6,7,8,9,10,13,11] rfl rfl rfl rfl ?_)
 intro ⟨F,s2,t2⟩ hx
 dsimp only at hx ⊢
 refine gF [2,4,9] rfl ?_
 refine lF [2,4,5] (GK.code ?_)
 refine rS [2,4,5,11] ?_
 refine GC.condF rfl (GC.skip (GK.code ?_))
 refine rS [2,3] ?_
 refine GC.ret ?_
 refine fR (.inl rfl) rfl (by trivial) ((F,s2,t2)) [0,1,2,3,4,5,6,7,8,9,10,11] rfl rfl rfl rfl (hx)
theorem f90 (μ) : Fun Tryz.prog μ 90 [.v (.int .i64 (20 : Nat))] [] 0 (fun _ : Unit=>True) (fun _=>⟨.v (.int .i64 40),[],0⟩):=by
 refine fE 5 Tryz.func90 fun zw zβ=>?_
 refine cF [0] ?_
 refine rS [0] ?_
 refine rS [2] ?_
 refine GC.ret ?_
 refine fR (.inl rfl) rfl (by trivial) () [] rfl rfl rfl rfl (trivial)
def W91 (F : Nat → Int) (off c1 rn fe : Nat) (i : Nat) (G : Nat → Int) : S:=⟨[(0,.slc 0 0 40 40),(1,.slc 1 off 20 c1),(5,.v (.int .i64 (2 * i : Nat))),(8,.slc 1 off 20 c1),(9,.v (.int .i64 20)),(10,.v (.int .i64 i))],[(0,.row ⟨.ints .u8 G,40,5⟩),(1,.row ⟨.ints .u8 F,rn,fe⟩)],2,[]⟩
theorem f91 (μ) {fe : Nat} (F G : Nat → Int) (off c1 rn : Nat) (hr : off + 20 ≤ rn) (hF : ∀ j,j < 20 → 0 ≤ F (off + j) ∧ F (off + j) < 256) : Fun Tryz.prog μ 91 [.slc 0 0 40 40,.slc 1 off 20 c1] [(0,.row ⟨.ints .u8 G,40,5⟩),(1,.row ⟨.ints .u8 F,rn,fe⟩)] 2
  (fun _ : Nat → Int=>True) (fun G=>⟨.v (.int .i64 40),[(0,.row ⟨.ints .u8 G,40,5⟩),(1,.row ⟨.ints .u8 F,rn,fe⟩)],2⟩):=by
 refine fE 33 Tryz.func91 fun zw zβ=>?_
 refine cF [0,1] ?_
 refine rS [0,1] ?_
 refine rS [0,1,5] ?_
 refine GC.seq ?_
 refine rS [0,1,5,8,9,10] ?_
 refine GC.block ?_
 refine GC.loopE (ι:=(Nat) × (Nat → Int)) (fun zi=>(fun i G=>i ≤ 20) zi.1 zi.2) (fun zi=>(fun i G=>(20 - i : Nat)) zi.1 zi.2) (fun zi=>(W91 F off c1 rn fe) zi.1 zi.2) ((0,G)) [0,1] (show (fun i G=>i ≤ 20) (0) (G) from ?_) (Ent.R rfl rfl rfl rfl) ?_
 ·exact Nat.zero_le _
 rintro ⟨i,G⟩ hI
 change (fun i G=>i ≤ 20) i G at hI
 try dsimp only at hI
 change GC _ _ _ ((W91 F off c1 rn fe) i G)
 unfold W91
 refine cF [0,1,5,8,9,10] ?_
 refine rS [0,1,5,8,9,10,11] ?_
 refine GC.seq ?_
 refine GC.cond rfl (fun hi=>?_) (fun hi=>?_)
 ·have hi : (i : Int) < 20:=by simpa using hi
  have hb:=hF i (by omega)
  refine GC.skip (GK.code (GC.seq (GC.block (GL.seqR ?_))))
  refine lK 1 [0,1,5,8,9,10,12] ?_ (hc:=(by (repeat' first | exact trivial | refine And.intro ?_ ?_) <;> (try simp only [ByteArray.size,List.size_toArray,List.length_cons,List.length_nil,Int.reduceToNat,IntKind.bits,Nat.reduceLeDiff,Nat.min_eq_left,Int.reducePow,Nat.reduceAdd,InI64,InI32,b15 hb,w8]) <;> omega))
  refine GL.op rfl (OpW.lstep (LStep.at rfl rfl rfl rfl rfl (by show off + (i : Int).toNat * 1 < rn; omega) (by show SV.v (.int .u8 (F (off + (i : Int).toNat * 1))) = .v (.int .u8 (F (off + i))); rw [Int.toNat_natCast,Nat.mul_one])) rfl (gF [0,1,5,8,9,10,13] rfl ?_))
  refine lF [0,1,5,7,8,9,10] (GK.code ?_) (hc:=(by (repeat' first | exact trivial | refine And.intro ?_ ?_) <;> (try simp only [ByteArray.size,List.size_toArray,List.length_cons,List.length_nil,Int.reduceToNat,IntKind.bits,Nat.reduceLeDiff,Nat.min_eq_left,Int.reducePow,Nat.reduceAdd,InI64,InI32,b15 hb,w8]) <;> omega))
  refine rS [0,1,5,7,8,9,10] ?_ (hc:=(by (repeat' first | exact trivial | refine And.intro ?_ ?_) <;> (try simp only [ByteArray.size,List.size_toArray,List.length_cons,List.length_nil,Int.reduceToNat,IntKind.bits,Nat.reduceLeDiff,Nat.min_eq_left,Int.reducePow,Nat.reduceAdd,InI64,InI32,b15 hb,w8]) <;> omega))
  refine rS [0,1,5,8,9,10] ?_ (hc:=(by (repeat' first | exact trivial | refine And.intro ?_ ?_) <;> (try simp only [ByteArray.size,List.size_toArray,List.length_cons,List.length_nil,Int.reduceToNat,IntKind.bits,Nat.reduceLeDiff,Nat.min_eq_left,Int.reducePow,Nat.reduceAdd,InI64,InI32,b15 hb,w8]) <;> omega))
  refine rG [0,1,5,8,9,10] ?_ (hc:=(by (repeat' first | exact trivial | refine And.intro ?_ ?_) <;> (try simp only [ByteArray.size,List.size_toArray,List.length_cons,List.length_nil,Int.reduceToNat,IntKind.bits,Nat.reduceLeDiff,Nat.min_eq_left,Int.reducePow,Nat.reduceAdd,InI64,InI32,b15 hb,w8]) <;> omega))
  refine GK.code ?_
  refine rG [0,1,5,8,9,10] ?_ (hc:=(by (repeat' first | exact trivial | refine And.intro ?_ ?_) <;> (try simp only [ByteArray.size,List.size_toArray,List.length_cons,List.length_nil,Int.reduceToNat,IntKind.bits,Nat.reduceLeDiff,Nat.min_eq_left,Int.reducePow,Nat.reduceAdd,InI64,InI32,b15 hb,w8]) <;> omega))
  refine GK.back (i + 1,_) [0,1] ?_ ?_ (Ent.R rfl rfl rfl rfl)
  ·show i + 1 ≤ 20; omega
  ·dsimp only; omega
 ·have hi : ¬ ((i : Int) < 20):=by simpa using hi
  obtain rfl : i = 20:=by omega
  refine GC.exit ?_
  refine GK.code ?_
  refine rS [4] ?_ (hc:=(by (repeat' first | exact trivial | refine And.intro ?_ ?_) <;> (try simp only [ByteArray.size,List.size_toArray,List.length_cons,List.length_nil,Int.reduceToNat,IntKind.bits,Nat.reduceLeDiff,Nat.min_eq_left,Int.reducePow,Nat.reduceAdd,InI64,InI32,b15 hb,w8]) <;> omega))
  refine GC.ret ?_
  refine fR (.inl rfl) rfl (by (repeat' first | exact trivial | refine And.intro ?_ ?_) <;> (try simp only [ByteArray.size,List.size_toArray,List.length_cons,List.length_nil,Int.reduceToNat,IntKind.bits,Nat.reduceLeDiff,Nat.min_eq_left,Int.reducePow,Nat.reduceAdd,InI64,InI32,b15 hb,w8]) <;> omega) G [0,1] rfl rfl rfl rfl (trivial)
theorem f50 (μ) {fe : Nat} (F : Nat → Int) (off c1 rn : Nat) (hr : off + 20 ≤ rn) (hF : ∀ j,j < 20 → 0 ≤ F (off + j) ∧ F (off + j) < 256) : Fun Tryz.prog μ 50 [.slc 0 off 20 c1] [(0,.row ⟨.ints .u8 F,rn,fe⟩)] 1
  (fun _ : ByteArray=>True) (fun t=>⟨.v (.string t),[(0,.row ⟨.ints .u8 F,rn,fe⟩)],1⟩):=by
 refine fE 13 Tryz.func50 fun zw zβ=>?_
 refine cF [0] ?_
 refine rS [0] ?_
 refine GL.seqR ?_
 refine lK 2 [0,5] ?_
 refine GL.op rfl (cR rfl (f90 _) [] rfl rfl rfl rfl fun _ _=>?_)
 refine gF [0,6] rfl ?_
 refine GL.op rfl (OpW.makeI (k:=.u8) rfl rfl rfl rfl rfl (by decide) (by decide) (by decide) (by show ((1 : Nat) : Int) * 40 ≤ 281474976710656; decide) rfl rfl rfl ?_)
 refine gF [0,7] rfl ?_
 refine lF [0,3] (GK.code ?_)
 refine GL.seqR ?_
 refine lK 2 [3,8,9] ?_
 refine GL.op rfl (cR rfl (f91 _ F (fun _=>0) off c1 rn hr hF) [1,0] rfl rfl rfl rfl fun G _=>?_)
 refine gF [3] rfl ?_
 refine lF [3] (GK.code ?_)
 refine GL.seqR ?_
 refine lK 1 [11] ?_
 refine GL.op rfl (OpW.lstep (LStep.str (n:=40) (N:=G) rfl rfl rfl rfl (slc_slice rfl) (src_slc (sz:=1) rfl rfl (by show 0 + 40 * 1 ≤ 40; decide) (fun j hj=>by rw [Nat.zero_add]; rfl))) rfl (gF [12] rfl ?_))
 refine lF [2] (GK.code ?_)
 refine GC.ret ?_
 refine fR (.inl rfl) rfl (by trivial) _ [0] rfl rfl rfl rfl (trivial)
theorem f27 (μ) (F : Nat → Int) (hF : ∀ j,j < 20 → 0 ≤ F j ∧ F j < 256) : Fun Tryz.prog μ 27 [agV F] [] 0
  (fun _ : ByteArray=>True) (fun t=>⟨.v (.string t),[],0⟩):=by
 dsimp only [agV,agL,List.map_cons,List.map_nil]
 refine fE 5 Tryz.func27 fun zw zβ=>?_
 refine cF [0] ?_
 refine rS [1] ?_
 refine GC.cvR 0 ⟨.ints .u8 F,20,74⟩ rfl rfl rfl (fun i hi=>by have : i < 20:=hi; match i,this with | 0,_=>rfl | 1,_=>rfl | 2,_=>rfl | 3,_=>rfl | 4,_=>rfl | 5,_=>rfl | 6,_=>rfl | 7,_=>rfl | 8,_=>rfl | 9,_=>rfl | 10,_=>rfl | 11,_=>rfl | 12,_=>rfl | 13,_=>rfl | 14,_=>rfl | 15,_=>rfl | 16,_=>rfl | 17,_=>rfl | 18,_=>rfl | 19,_=>rfl | n + 20,h=>exact absurd h (by omega)) rfl ?_
 refine GL.seqR ?_
 refine lK 1 [3] ?_
 refine GL.op rfl (cR rfl (f50 _ F 0 20 20 (by decide) (fun j hj=>by rw [Nat.zero_add]; exact hF j hj)) [0] rfl rfl rfl rfl fun t _=>?_)
 refine gF [4] rfl ?_
 refine lF [2] (GK.code ?_)
 refine GC.ret ?_
 refine fR (.inl rfl) rfl (by trivial) t [] rfl rfl rfl rfl (trivial)
def obR (l : SV) : Row:=⟨.lst [.mpp 1,.mpp 2,l],3,63⟩
def k64 : Value → Prop:=intKey .i64
theorem f244 (μ) (fk fs : Value → Option Value) (N : Nat → Value) (n c rn : Nat) (x : Int) : Fun Tryz.prog μ 244 [.ptr 0 0,.v (.int .u32 x)] [(0,.row (obR (.slc 3 0 n c))),(1,.pr (isMapU k64 fk)),(2,.pr (isMapU k64 fs)),(3,.row ⟨.vals N,rn,39⟩)] 4 (fun _ : Unit=>True) (fun _=>⟨.v .nilIface,[(0,.row (obR (.slc 3 0 n c))),(1,.pr (isMapU k64 fk)),(2,.pr (isMapU k64 fs)),(3,.row ⟨.vals N,rn,39⟩)],4⟩):=by
 refine fE 5 Tryz.func244 fun zw zβ=>?_
 refine cF [0,1] ?_
 refine rS [] ?_
 refine rS [4] ?_
 refine GC.ret ?_
 refine fR (.inl rfl) rfl (by trivial) () [0,1,2,3] rfl rfl rfl rfl (trivial)
theorem f243 (μ) (fk fs : Value → Option Value) (N : Nat → Value) (n c rn : Nat) (F : Nat → Int) : Fun Tryz.prog μ 243 [.ptr 0 0,agV F] [(0,.row (obR (.slc 3 0 n c))),(1,.pr (isMapU k64 fk)),(2,.pr (isMapU k64 fs)),(3,.row ⟨.vals N,rn,39⟩)] 4 (fun _ : Unit=>True) (fun _=>⟨.v .nilIface,[(0,.row (obR (.slc 3 0 n c))),(1,.pr (isMapU k64 fk)),(2,.pr (isMapU k64 fs)),(3,.row ⟨.vals N,rn,39⟩)],4⟩):=by
 dsimp only [agV,agL,List.map_cons,List.map_nil]
 refine fE 5 Tryz.func243 fun zw zβ=>?_
 refine cF [0,1] ?_
 refine rS [] ?_
 refine rS [4] ?_
 refine GC.ret ?_
 refine fR (.inl rfl) rfl (by trivial) () [0,1,2,3] rfl rfl rfl rfl (trivial)
theorem ko64 : KeyOK Tryz.prog 2 k64:=keyOK_int (by kernel_rfl)
theorem f246 (μ) (fk fs : Value → Option Value) (N : Nat → Value) (n c rn : Nat) (k sz pos : Int) : Fun Tryz.prog μ 246 [.ptr 0 0,.v (.int .i8 k),.v (.int .i64 sz),.v (.int .i64 pos)] [(0,.row (obR (.slc 3 0 n c))),(1,.pr (isMapU k64 fk)),(2,.pr (isMapU k64 fs)),(3,.row ⟨.vals N,rn,39⟩)] 4
  (fun _ : Unit=>True) (fun _=>⟨.v .nilIface,[(0,.row (obR (.slc 3 0 n c))),(1,.pr (isMapU k64 (updF fk (.int .i64 pos) (.int .i8 k)))),(2,.pr (isMapU k64 (updF fs (.int .i64 pos) (.int .i64 sz)))),(3,.row ⟨.vals N,rn,39⟩)],4⟩):=by
 refine fE 25 Tryz.func246 fun zw zβ=>?_
 refine cF [0,1,2,3] ?_
 refine rS [0,1,2,3] ?_
 refine GC.seq (GC.draw [(0,0),(1,0),(2,0),(4,0),(5,0),(6,0),(7,0),(9,0),(10,0),(11,0),(3,1),(8,1),(12,2),(13,0),(14,2),(15,2),(16,0),(17,2)] mixed (by kernel_rfl) (by rintro _ _ _ _ ⟨_,_,_,_,h,_⟩ _; cases h) ?_)
 refine wK 12 [12,13,17,18,19,20] ?_
 refine GW.op rfl rfl (OpW.mapEntry (zv:=.int .i8 0) rfl rfl ko64 rfl rfl rfl ⟨_,rfl⟩ (fun _=>by kernel_rfl) (fun _=>rfl) ?_)
 intro st1
 refine wL [12,17,18,19,20,21] rfl ?_
 refine wK 1 [12,17,18,19,20,22] ?_
 refine GW.op rfl rfl (OpW.entryStore rfl rfl rfl rfl rfl rfl ?_)
 refine wL [17,18,20] rfl ?_
 refine GW.op rfl rfl (OpW.mapEntry (zv:=.int .i64 0) rfl rfl ko64 rfl rfl rfl ⟨_,rfl⟩ (fun _=>by kernel_rfl) (fun _=>rfl) ?_)
 intro st2
 refine wL [17,20,23] rfl ?_
 refine wK 1 [17,20,24] ?_
 refine GW.op rfl rfl (OpW.entryStore rfl rfl rfl rfl rfl rfl ?_)
 refine wL [] rfl ?_
 refine wF [] (GK.code ?_)
 refine rS [8] ?_
 refine GC.ret ?_
 refine fR (.inl rfl) rfl (by trivial) () [0,1,2,3] rfl rfl rfl rfl (trivial)
def fdV (k sz pos crc : Int) (t : ByteArray) : Nat → Value
 | 0=>.int .i64 k
 | 1=>.int .i64 sz
 | 2=>.int .i64 pos
 | 3=>.int .u32 crc
 | 4=>.string t
 | _=>.slice none 0 0
theorem fd_get {k sz pos crc : Int} {t : ByteArray} : ∀ j,j < 1 * 6 → lget [.v (.int .i64 k),.v (.int .i64 sz),.v (.int .i64 pos),.v (.int .u32 crc),.v (.string t),.v (.slice none 0 0)] j = .v (fdV k sz pos crc t j)
 | 0,_=>rfl
 | 1,_=>rfl
 | 2,_=>rfl
 | 3,_=>rfl
 | 4,_=>rfl
 | 5,_=>rfl
 | j + 6,h=>absurd h (by omega)
theorem f245 (μ) (fk fs : Value → Option Value) (N : Nat → Value) (n c : Nat) (F : Nat → Int) (k : Nat) (sz pos crc : Int) (hF : ∀ j,j < 20 → 0 ≤ F j ∧ F j < 256) (hk : k < 100) (hfk : fk (.int .i64 pos) = some (.int .i8 k)) (hfs : fs (.int .i64 pos) = some (.int .i64 sz)) (hn : n ≤ c) (hn2 : n < 1000000) :
  FunC Tryz.prog μ 245 [.ptr 0 0,agV F,.v (.int .i64 pos),.v (.int .u32 crc),.v (.slice none 0 0)] [(0,.row (obR (.slc 3 0 n c))),(1,.pr (isMapU k64 fk)),(2,.pr (isMapU k64 fs)),(3,.row ⟨.vals N,c * 6,39⟩)] 3 4
  (fun x : Nat × (Nat → Value) × ByteArray=>n + 1 ≤ x.1 ∧ (∀ i,i < n * 6 → x.2.1 i = N i) ∧ ∀ j,j < 6 → x.2.1 (n * 6 + j) = fdV k sz pos crc x.2.2 j)
  (fun x=>⟨.v .nilIface,[(0,.row (obR (.slc 3 0 (n + 1) x.1))),(1,.pr (isMapU k64 fk)),(2,.pr (isMapU k64 fs)),(3,.row ⟨.vals x.2.1,x.1 * 6,39⟩)],4⟩):=by
 dsimp only [agV,agL,List.map_cons,List.map_nil]
 refine fE 45 Tryz.func245 fun zw zβ=>?_
 refine cF [0,1,2,3,4] ?_
 refine rS [0,2,3,4,6] ?_
 refine rS [0,2,3,4,6,11] ?_
 refine GC.seq ?_
 refine rS [0,2,3,4,6,11,13] ?_
 refine GC.condF rfl (GC.skip (GK.code ?_))
 refine GC.seq (GC.drawM [(0,0),(1,0),(2,0),(3,0),(4,3),(5,0),(6,0),(7,0),(8,3),(9,0),(10,3),(11,0),(12,0),(13,0),(14,0),(15,3),(16,0),(17,3),(18,0),(19,0),(22,0),(20,1),(21,4),(23,0),(24,4),(25,2),(26,0),(27,0),(28,2)] [0,1,2,3] [(0,2,.slc 3 0 n c),(0,0,.mpp 1),(0,1,.mpp 2)] [(1,isMapU k64 fk),(2,isMapU k64 fs)] mixed (by kernel_rfl) (by rintro _ _ _ _ ⟨_,_,_,_,h,_⟩ _; cases h) rfl fun β=>?_)
 refine wK 4 [0,2,3,6,11,17,20] ?_
 refine GW.heldMc rfl rfl rfl rfl rfl rfl (.head _) ⟨⟨_,rfl,Nat.le_of_ble_eq_true rfl,rfl⟩,rfl,⟨_,rfl,Nat.le_of_ble_eq_true rfl,rfl⟩,rfl,⟨_,rfl,Nat.le_of_ble_eq_true rfl,rfl⟩,rfl,trivial⟩ ⟨rfl,rfl,rfl,rfl,trivial⟩ rfl rfl (GW.force [0,2,3,6,11,17,21] rfl ?_)
 refine wK 3 [0,2,3,6,11,17,21,24] ?_
 refine GW.heldMc rfl rfl rfl rfl rfl rfl (.tail _ (.head _)) ⟨⟨_,rfl,Nat.le_of_ble_eq_true rfl,rfl⟩,rfl,⟨_,rfl,Nat.le_of_ble_eq_true rfl,rfl⟩,rfl,⟨_,rfl,Nat.le_of_ble_eq_true rfl,rfl⟩,rfl,trivial⟩ ⟨rfl,rfl,rfl,rfl,trivial⟩ rfl rfl (GW.force [0,2,3,6,11,17,21,25] rfl ?_)
 refine wK 1 [0,2,3,6,11,17,21,25,26] ?_
 refine GW.heldLk (.int .i8 k) rfl rfl rfl rfl ko64 rfl rfl rfl (.head _) (fun _ h=>h.sub) ⟨_,rfl⟩ (zv:=.int .i8 0) (fun _=>by kernel_rfl) hfk ⟨⟨_,rfl,Nat.le_of_ble_eq_true rfl,rfl⟩,rfl,⟨_,rfl,Nat.le_of_ble_eq_true rfl,rfl⟩,rfl,⟨_,rfl,Nat.le_of_ble_eq_true rfl,rfl⟩,rfl,trivial⟩ ⟨rfl,rfl,rfl,rfl,trivial⟩ rfl (GW.force [0,2,3,6,11,17,21,27] rfl ?_)
 refine wK 4 [2,3,6,11,17,21,28,31] ?_
 refine GW.heldMc rfl rfl rfl rfl rfl rfl (.tail _ (.tail _ (.head _))) ⟨⟨_,rfl,Nat.le_of_ble_eq_true rfl,rfl⟩,rfl,⟨_,rfl,Nat.le_of_ble_eq_true rfl,rfl⟩,rfl,⟨_,rfl,Nat.le_of_ble_eq_true rfl,rfl⟩,rfl,trivial⟩ ⟨rfl,rfl,rfl,rfl,trivial⟩ rfl rfl (GW.force [2,3,6,11,17,21,28,32] rfl ?_)
 refine wK 1 [2,3,6,11,17,21,28,32,33] ?_
 refine GW.heldLk (.int .i64 sz) rfl rfl rfl rfl ko64 rfl rfl rfl (.tail _ (.head _)) (fun _ h=>h.sub) ⟨_,rfl⟩ (zv:=.int .i64 0) (fun _=>by kernel_rfl) hfs ⟨⟨_,rfl,Nat.le_of_ble_eq_true rfl,rfl⟩,rfl,⟨_,rfl,Nat.le_of_ble_eq_true rfl,rfl⟩,rfl,⟨_,rfl,Nat.le_of_ble_eq_true rfl,rfl⟩,rfl,trivial⟩ ⟨rfl,rfl,rfl,rfl,trivial⟩ rfl (GW.force [2,3,6,11,17,21,28,34] rfl ?_)
 refine wK 4 [17,21,28,34,35,36,37,39] ?_
 refine GW.opS rfl rfl (cR rfl (f27 _ F hF) [] rfl rfl rfl rfl fun t _=>?_)
 refine GK.heldAndM rfl ⟨⟨_,rfl,Nat.le_of_ble_eq_true rfl,rfl⟩,rfl,⟨_,rfl,Nat.le_of_ble_eq_true rfl,rfl⟩,rfl,⟨_,rfl,Nat.le_of_ble_eq_true rfl,rfl⟩,rfl,trivial⟩ ⟨rfl,rfl,rfl,rfl,trivial⟩ (wL [17,21,28,34,35,36,38,39] rfl ?_)
 refine wK 1 [17,21,40] ?_
 refine GW.opS rfl rfl (OpW.step (Step.ofS rfl (by (repeat' first | exact trivial | refine And.intro ?_ ?_) <;> (try simp only [Int.reduceToNat,IntKind.bits,Nat.reduceLeDiff,Nat.min_eq_left,Int.reducePow,InI64,InI32]) <;> omega)) ?_)
 refine GK.heldAndM rfl ⟨⟨_,rfl,Nat.le_of_ble_eq_true rfl,rfl⟩,rfl,⟨_,rfl,Nat.le_of_ble_eq_true rfl,rfl⟩,rfl,⟨_,rfl,Nat.le_of_ble_eq_true rfl,rfl⟩,rfl,trivial⟩ ⟨rfl,rfl,rfl,rfl,trivial⟩ (wL [17,21,41] rfl ?_)
 refine GW.delA rfl ?_
 refine GW.op rfl rfl (OpW.appendV (N:=fdV k sz pos crc t) (m:=1) rfl rfl rfl rfl (Nat.le_of_ble_eq_true rfl) rfl rfl rfl rfl (Nat.le_of_ble_eq_true rfl) hn (src_slc rfl rfl (Nat.le_of_ble_eq_true rfl) (fun j hj=>by rw [Nat.zero_add]; exact fd_get j hj)) (by omega) (by show (n + 1) * 72 ≤ 140737488355328; omega) rfl ?_ rfl rfl)
 intro c' N' h1 h2 h3 h4 ρ' hp
 obtain rfl:=Option.some.inj hp; clear hp
 refine wL [17,42] rfl ?_
 refine wF [] (GK.code ?_)
 refine rS [10] ?_
 refine GC.ret ?_
 refine fR (.inl rfl) rfl (by trivial) ((c',N',t)) [0,1,2,3] rfl rfl rfl rfl (⟨h1,h3,fun j hj=>h4 j hj⟩)
end Go.Proofs.YtebadfmnmhmfeaaGreatDoor.T
