/- What the functions of the program do, one contract each (P47, P48, P35, P36H, P37); each states its own conditions. -/
import Derived.Test.YtebadfmnmhmfeaaGreatDoorP10
namespace Go.Proofs.YtebadfmnmhmfeaaGreatDoor.T
open Go.Proofs.YtebadfmnmhmfeaaGreatDoor.Sx Go.RowKit
set_option maxRecDepth 20000
set_option linter.unusedSimpArgs false
set_option linter.unusedVariables false
set_option linter.unnecessarySimpa false
set_option linter.unusedSectionVars false
def prR (cnt : Int) (oi mh mo : SV) (bu os : Nat) : Row:=⟨.lst [.v .nilIface,.ptr 11 0,.v (.int .u32 cnt),oi,mh,mo,.ptr bu 0,.v (.map none),.slc os 0 1 1],9,129⟩
def osR (ob : Nat) : Row:=⟨.lst [.ifc 59 (.ptr ob 0)],1,209⟩
def obP (a b : Nat) (l : SV) : Row:=⟨.lst [.mpp a,.mpp b,l],3,63⟩
theorem m59h : IsMeth Tryz.prog 59 "OnHeader" 244:=fun v w=>by kernel_rfl
theorem m59i : IsMeth Tryz.prog 59 "OnInflatedObjectHeader" 246:=fun v w=>by kernel_rfl
theorem m59c : IsMeth Tryz.prog 59 "OnInflatedObjectContent" 245:=fun v w=>by kernel_rfl
theorem m59f : IsMeth Tryz.prog 59 "OnFooter" 243:=fun v w=>by kernel_rfl
def kH : Value → Prop:=arrKey .u8 20
theorem f108 (μ) (fk fs : Value → Option Value) (N0 : Nat → Value) (n c : Nat) (x : Int) : FunC Tryz.prog μ 108 [.ifc 59 (.ptr 0 0),.ptr 3 0] [(0,.row (obP 1 2 (.slc 4 0 n c))),(1,.pr (isMapU k64 fk)),(2,.pr (isMapU k64 fs)),(4,.row ⟨.vals N0,c * 6,39⟩),(3,.row ⟨.lst [.v (.int .u32 x)],1,35⟩)] 5 5
  (fun _ : Unit=>True) (fun _=>⟨.v .nilIface,[(0,.row (obP 1 2 (.slc 4 0 n c))),(1,.pr (isMapU k64 fk)),(2,.pr (isMapU k64 fs)),(4,.row ⟨.vals N0,c * 6,39⟩),(3,.row ⟨.lst [.v (.int .u32 x)],1,35⟩)],5⟩):=by
 refine fE 7 Tryz.func108 fun zw zβ=>?_
 refine cF [0,1] ?_
 refine rS [0,1] ?_
 refine GL.seqR ?_
 refine lK 2 [4,5] ?_
 refine GL.op rfl (iR rfl rfl (m59h) (f244 _ fk fs N0 n c (c * 6) x) [0,1,2,4] rfl rfl rfl rfl fun _ _=>?_)
 refine gF [6] rfl ?_
 refine lF [3] (GK.code ?_)
 refine GC.ret ?_
 refine fR (.inl rfl) rfl (by trivial) () [0,1,2,3,4] rfl rfl rfl rfl (trivial)
theorem f88h (μ) (B : Nat → Int) (rn N cap : Nat) (off : Int) (s : RdI) (t : WI) (o cnt : Int) (fk fs : Value → Option Value) (N0 : Nat → Value) (n c : Nat) (x : Int) : FunC Tryz.prog μ 88 [.ptr 12 0,.fn (.func 108) [] [.ptr 18 0]] (srG B rn N cap 19 off s t ++ [(11,.row (scR 0 9 10 (.v (.pointer none)) 2 o)),(12,.row (prR cnt (.v (.slice none 0 0)) (.v (.map none)) (.v (.map none)) 13 14)),(13,.row buR),(14,.row (osR 15)),(15,.row (obP 16 17 (.slc 20 0 n c))),(16,.pr (isMapU k64 fk)),(17,.pr (isMapU k64 fs)),(20,.row ⟨.vals N0,c * 6,39⟩),(18,.row ⟨.lst [.v (.int .u32 x)],1,35⟩)]) 21 21
  (fun _ : Unit=>True) (fun _=>⟨.v .nilIface,srG B rn N cap 19 off s t ++ [(11,.row (scR 0 9 10 (.v (.pointer none)) 2 o)),(12,.row (prR cnt (.v (.slice none 0 0)) (.v (.map none)) (.v (.map none)) 13 14)),(13,.row buR),(14,.row (osR 15)),(15,.row (obP 16 17 (.slc 20 0 n c))),(16,.pr (isMapU k64 fk)),(17,.pr (isMapU k64 fs)),(20,.row ⟨.vals N0,c * 6,39⟩),(18,.row ⟨.lst [.v (.int .u32 x)],1,35⟩)],21⟩):=by
 dsimp only [srG,List.cons_append,List.nil_append]
 refine fE 24 Tryz.func88 fun zw zβ=>?_
 refine cF [0,1] ?_
 refine rS [0,1] ?_
 refine GC.seq ?_
 refine rS [1,11,12,13] ?_
 refine GC.block ?_
 refine GC.loopU 2 ?_
 refine rS [1,11,12,13,14] ?_
 refine GC.seq (GC.condT rfl (GC.skip (GK.code (GC.seq (GC.block ?_)))))
 refine rS [1,6,11,12,13] ?_
 refine GL.seqR ?_
 refine lK 2 [1,11,12,13,17,18] ?_
 refine GL.op rfl (OpW.callVR rfl rfl (f108 _ fk fs N0 n c x) [15,16,17,18,20] rfl rfl rfl rfl ?_)
 intro _ _ ρ' hp
 obtain rfl:=Option.some.inj hp; clear hp
 refine gF [1,11,12,13,19] rfl ?_
 refine lF [1,7,11,12,13] (GK.code ?_)
 refine rS [1,7,11,12,13,21] ?_
 refine GC.condF rfl (GC.skip (GK.code ?_))
 refine rG [1,11,12,13] ?_
 refine GK.itr ?_
 refine rS [1,11,12,13,14] ?_
 refine GC.seq (GC.condF rfl ?_)
 refine GC.exit ?_
 refine GK.code ?_
 refine rS [4] ?_
 refine GC.ret ?_
 refine fR (.inl rfl) rfl (by trivial) () [0,1,2,3,4,5,6,7,8,9,10,11,12,13,14,15,16,17,18,19,20] rfl rfl rfl rfl (trivial)
theorem f62 (μ) (B : Nat → Int) (rn N cap : Nat) (off : Int) (s : RdI) (t : WI) (o cnt : Int) (fk fs : Value → Option Value) (N0 : Nat → Value) (n c : Nat) (x : Int) : FunC Tryz.prog μ 62 [.ptr 12 0,.v (.int .u32 x)] (srG B rn N cap 18 off s t ++ [(11,.row (scR 0 9 10 (.v (.pointer none)) 2 o)),(12,.row (prR cnt (.v (.slice none 0 0)) (.v (.map none)) (.v (.map none)) 13 14)),(13,.row buR),(14,.row (osR 15)),(15,.row (obP 16 17 (.slc 19 0 n c))),(16,.pr (isMapU k64 fk)),(17,.pr (isMapU k64 fs)),(19,.row ⟨.vals N0,c * 6,39⟩)]) 20 20
  (fun _ : Unit=>True) (fun _=>⟨.v .nilIface,srG B rn N cap 18 off s t ++ [(11,.row (scR 0 9 10 (.v (.pointer none)) 2 o)),(12,.row (prR cnt (.v (.slice none 0 0)) (.v (.map none)) (.v (.map none)) 13 14)),(13,.row buR),(14,.row (osR 15)),(15,.row (obP 16 17 (.slc 19 0 n c))),(16,.pr (isMapU k64 fk)),(17,.pr (isMapU k64 fs)),(19,.row ⟨.vals N0,c * 6,39⟩)],20⟩):=by
 dsimp only [srG,List.cons_append,List.nil_append]
 refine fE 8 Tryz.func62 fun zw zβ=>?_
 refine cF [0,1] ?_
 refine rS [0,3] ?_
 refine GL.seqR ?_
 refine lK 2 [5,6] ?_
 refine GL.op rfl (cR rfl (f88h _ B rn N cap off s t o cnt fk fs N0 n c x) [0,1,2,3,4,5,6,7,8,9,10,11,12,13,14,15,16,17,20,18,19] rfl rfl rfl rfl fun _ _=>?_)
 refine gF [7] rfl ?_
 refine lF [4] (GK.code ?_)
 refine GC.ret ?_
 refine fR (.inl rfl) rfl (by trivial) () [0,1,2,3,4,5,6,7,8,9,10,11,12,13,14,15,16,17,18,19] rfl rfl rfl rfl (trivial)
theorem f126 (μ) (fk fs : Value → Option Value) (N0 : Nat → Value) (n c : Nat) (kd sz pos : Int) : FunC Tryz.prog μ 126 [.ifc 59 (.ptr 0 0),.ptr 3 0,.ptr 4 0,.ptr 5 0] [(0,.row (obP 1 2 (.slc 6 0 n c))),(1,.pr (isMapU k64 fk)),(2,.pr (isMapU k64 fs)),(6,.row ⟨.vals N0,c * 6,39⟩),(3,.row ⟨.lst [.v (.int .i8 kd)],1,166⟩),(4,.row ⟨.lst [.v (.int .i64 sz)],1,2⟩),(5,.row ⟨.lst [.v (.int .i64 pos)],1,2⟩)] 7 7
  (fun _ : Unit=>True) (fun _=>⟨.v .nilIface,[(0,.row (obP 1 2 (.slc 6 0 n c))),(1,.pr (isMapU k64 (updF fk (.int .i64 pos) (.int .i8 kd)))),(2,.pr (isMapU k64 (updF fs (.int .i64 pos) (.int .i64 sz)))),(6,.row ⟨.vals N0,c * 6,39⟩),(3,.row ⟨.lst [.v (.int .i8 kd)],1,166⟩),(4,.row ⟨.lst [.v (.int .i64 sz)],1,2⟩),(5,.row ⟨.lst [.v (.int .i64 pos)],1,2⟩)],7⟩):=by
 refine fE 11 Tryz.func126 fun zw zβ=>?_
 refine cF [0,1,2,3] ?_
 refine rS [0,1,2,3] ?_
 refine GL.seqR ?_
 refine lK 4 [6,7,8,9] ?_
 refine GL.op rfl (iR rfl rfl (m59i) (f246 _ fk fs N0 n c (c * 6) kd sz pos) [0,1,2,6] rfl rfl rfl rfl fun _ _=>?_)
 refine gF [10] rfl ?_
 refine lF [5] (GK.code ?_)
 refine GC.ret ?_
 refine fR (.inl rfl) rfl (by trivial) () [0,1,2,3,4,5,6] rfl rfl rfl rfl (trivial)
theorem f88i (μ) (B : Nat → Int) (rn N cap : Nat) (off : Int) (s : RdI) (t : WI) (o cnt : Int) (fh fo : Value → Option Value) (Z : Nat → Option Obj) (V : Nat → Value) (m mc : Nat) (fk fs : Value → Option Value) (N0 : Nat → Value) (n c : Nat) (kd sz pos : Int) : FunC Tryz.prog μ 88 [.ptr 12 0,.fn (.func 126) [] [.ptr 21 0,.ptr 22 0,.ptr 23 0]] (srG B rn N cap 24 off s t ++ [(11,.row (scR 0 9 10 (.v (.pointer none)) 2 o)),(12,.row (prR cnt (.slc 25 0 m mc) (.mpp 13) (.mpp 14) 16 17)),(13,.pr (isMap kH fh)),(14,.pr (isMap k64 fo)),(15,.fz Z),(25,.row ⟨.vals V,mc * 1,165⟩),(16,.row buR),(17,.row (osR 18)),(18,.row (obP 19 20 (.slc 26 0 n c))),(19,.pr (isMapU k64 fk)),(20,.pr (isMapU k64 fs)),(26,.row ⟨.vals N0,c * 6,39⟩),(21,.row ⟨.lst [.v (.int .i8 kd)],1,166⟩),(22,.row ⟨.lst [.v (.int .i64 sz)],1,2⟩),(23,.row ⟨.lst [.v (.int .i64 pos)],1,2⟩)]) 27 27
  (fun _ : Unit=>True) (fun _=>⟨.v .nilIface,srG B rn N cap 24 off s t ++ [(11,.row (scR 0 9 10 (.v (.pointer none)) 2 o)),(12,.row (prR cnt (.slc 25 0 m mc) (.mpp 13) (.mpp 14) 16 17)),(13,.pr (isMap kH fh)),(14,.pr (isMap k64 fo)),(15,.fz Z),(25,.row ⟨.vals V,mc * 1,165⟩),(16,.row buR),(17,.row (osR 18)),(18,.row (obP 19 20 (.slc 26 0 n c))),(19,.pr (isMapU k64 (updF fk (.int .i64 pos) (.int .i8 kd)))),(20,.pr (isMapU k64 (updF fs (.int .i64 pos) (.int .i64 sz)))),(26,.row ⟨.vals N0,c * 6,39⟩),(21,.row ⟨.lst [.v (.int .i8 kd)],1,166⟩),(22,.row ⟨.lst [.v (.int .i64 sz)],1,2⟩),(23,.row ⟨.lst [.v (.int .i64 pos)],1,2⟩)],27⟩):=by
 dsimp only [srG,List.cons_append,List.nil_append]
 refine fE 24 Tryz.func88 fun zw zβ=>?_
 refine cF [0,1] ?_
 refine rS [0,1] ?_
 refine GC.seq ?_
 refine rS [1,11,12,13] ?_
 refine GC.block ?_
 refine GC.loopU 2 ?_
 refine rS [1,11,12,13,14] ?_
 refine GC.seq (GC.condT rfl (GC.skip (GK.code (GC.seq (GC.block ?_)))))
 refine rS [1,6,11,12,13] ?_
 refine GL.seqR ?_
 refine lK 2 [1,11,12,13,17,18] ?_
 refine GL.op rfl (OpW.callVR rfl rfl (f126 _ fk fs N0 n c kd sz pos) [18,19,20,21,22,23,26] rfl rfl rfl rfl ?_)
 intro _ _ ρ' hp
 obtain rfl:=Option.some.inj hp; clear hp
 refine gF [1,11,12,13,19] rfl ?_
 refine lF [1,7,11,12,13] (GK.code ?_)
 refine rS [1,7,11,12,13,21] ?_
 refine GC.condF rfl (GC.skip (GK.code ?_))
 refine rG [1,11,12,13] ?_
 refine GK.itr ?_
 refine rS [1,11,12,13,14] ?_
 refine GC.seq (GC.condF rfl ?_)
 refine GC.exit ?_
 refine GK.code ?_
 refine rS [4] ?_
 refine GC.ret ?_
 refine fR (.inl rfl) rfl (by trivial) () [0,1,2,3,4,5,6,7,8,9,10,11,12,13,14,15,16,17,18,19,20,21,22,23,24,25,26] rfl rfl rfl rfl (trivial)
theorem f82 (μ) (B : Nat → Int) (rn N cap : Nat) (off : Int) (s : RdI) (t : WI) (o cnt : Int) (fh fo : Value → Option Value) (Z : Nat → Option Obj) (V : Nat → Value) (m mc : Nat) (fk fs : Value → Option Value) (N0 : Nat → Value) (n c : Nat) (kd sz pos : Int) : FunC Tryz.prog μ 82 [.ptr 12 0,.v (.int .i8 kd),.v (.int .i64 sz),.v (.int .i64 pos)] (srG B rn N cap 21 off s t ++ [(11,.row (scR 0 9 10 (.v (.pointer none)) 2 o)),(12,.row (prR cnt (.slc 22 0 m mc) (.mpp 13) (.mpp 14) 16 17)),(13,.pr (isMap kH fh)),(14,.pr (isMap k64 fo)),(15,.fz Z),(22,.row ⟨.vals V,mc * 1,165⟩),(16,.row buR),(17,.row (osR 18)),(18,.row (obP 19 20 (.slc 23 0 n c))),(19,.pr (isMapU k64 fk)),(20,.pr (isMapU k64 fs)),(23,.row ⟨.vals N0,c * 6,39⟩)]) 24 24
  (fun _ : Unit=>True) (fun _=>⟨.v .nilIface,srG B rn N cap 21 off s t ++ [(11,.row (scR 0 9 10 (.v (.pointer none)) 2 o)),(12,.row (prR cnt (.slc 22 0 m mc) (.mpp 13) (.mpp 14) 16 17)),(13,.pr (isMap kH fh)),(14,.pr (isMap k64 fo)),(15,.fz Z),(22,.row ⟨.vals V,mc * 1,165⟩),(16,.row buR),(17,.row (osR 18)),(18,.row (obP 19 20 (.slc 23 0 n c))),(19,.pr (isMapU k64 (updF fk (.int .i64 pos) (.int .i8 kd)))),(20,.pr (isMapU k64 (updF fs (.int .i64 pos) (.int .i64 sz)))),(23,.row ⟨.vals N0,c * 6,39⟩)],24⟩):=by
 dsimp only [srG,List.cons_append,List.nil_append]
 refine fE 12 Tryz.func82 fun zw zβ=>?_
 refine cF [0,1,2,3] ?_
 refine rS [0,5,6,7] ?_
 refine GL.seqR ?_
 refine lK 2 [9,10] ?_
 refine GL.op rfl (cR rfl (f88i _ B rn N cap off s t o cnt fh fo Z V m mc fk fs N0 n c kd sz pos) [0,1,2,3,4,5,6,7,8,9,10,11,12,13,14,15,16,17,18,19,20,24,25,26,21,22,23] rfl rfl rfl rfl fun _ _=>?_)
 refine gF [11] rfl ?_
 refine lF [8] (GK.code ?_)
 refine GC.ret ?_
 refine fR (.inl rfl) rfl (by trivial) () [0,1,2,3,4,5,6,7,8,9,10,11,12,13,14,15,16,17,18,19,20,21,22,23] rfl rfl rfl rfl (trivial)
theorem f127 (μ) (fk fs : Value → Option Value) (N0 : Nat → Value) (n c : Nat) (F : Nat → Int) (k : Nat) (sz pos crc : Int) (hF : ∀ j,j < 20 → 0 ≤ F j ∧ F j < 256) (hk : k < 100) (hfk : fk (.int .i64 pos) = some (.int .i8 k)) (hfs : fs (.int .i64 pos) = some (.int .i64 sz)) (hn : n ≤ c) (hn2 : n < 1000000) : FunC Tryz.prog μ 127 [.ifc 59 (.ptr 0 0),.ptr 3 0,.ptr 4 0,.ptr 5 0,.ptr 6 0] [(0,.row (obP 1 2 (.slc 7 0 n c))),(1,.pr (isMapU k64 fk)),(2,.pr (isMapU k64 fs)),(7,.row ⟨.vals N0,c * 6,39⟩),(3,.row ⟨.lst [.v (.int .u8 (F 0)),.v (.int .u8 (F 1)),.v (.int .u8 (F 2)),.v (.int .u8 (F 3)),.v (.int .u8 (F 4)),.v (.int .u8 (F 5)),.v (.int .u8 (F 6)),.v (.int .u8 (F 7)),.v (.int .u8 (F 8)),.v (.int .u8 (F 9)),.v (.int .u8 (F 10)),.v (.int .u8 (F 11)),.v (.int .u8 (F 12)),.v (.int .u8 (F 13)),.v (.int .u8 (F 14)),.v (.int .u8 (F 15)),.v (.int .u8 (F 16)),.v (.int .u8 (F 17)),.v (.int .u8 (F 18)),.v (.int .u8 (F 19))],20,74⟩),(4,.row ⟨.lst [.v (.int .i64 pos)],1,2⟩),(5,.row ⟨.lst [.v (.int .u32 crc)],1,35⟩),(6,.row ⟨.lst [.v (.slice none 0 0)],1,25⟩)] 7 8
  (fun x : Nat × (Nat → Value) × ByteArray=>n + 1 ≤ x.1 ∧ (∀ i,i < n * 6 → x.2.1 i = N0 i) ∧ ∀ j,j < 6 → x.2.1 (n * 6 + j) = fdV k sz pos crc x.2.2 j) (fun x=>⟨.v .nilIface,[(0,.row (obP 1 2 (.slc 7 0 (n + 1) x.1))),(1,.pr (isMapU k64 fk)),(2,.pr (isMapU k64 fs)),(7,.row ⟨.vals x.2.1,x.1 * 6,39⟩),(3,.row ⟨.lst [.v (.int .u8 (F 0)),.v (.int .u8 (F 1)),.v (.int .u8 (F 2)),.v (.int .u8 (F 3)),.v (.int .u8 (F 4)),.v (.int .u8 (F 5)),.v (.int .u8 (F 6)),.v (.int .u8 (F 7)),.v (.int .u8 (F 8)),.v (.int .u8 (F 9)),.v (.int .u8 (F 10)),.v (.int .u8 (F 11)),.v (.int .u8 (F 12)),.v (.int .u8 (F 13)),.v (.int .u8 (F 14)),.v (.int .u8 (F 15)),.v (.int .u8 (F 16)),.v (.int .u8 (F 17)),.v (.int .u8 (F 18)),.v (.int .u8 (F 19))],20,74⟩),(4,.row ⟨.lst [.v (.int .i64 pos)],1,2⟩),(5,.row ⟨.lst [.v (.int .u32 crc)],1,35⟩),(6,.row ⟨.lst [.v (.slice none 0 0)],1,25⟩)],8⟩):=by
 refine fE 13 Tryz.func127 fun zw zβ=>?_
 refine cF [0,1,2,3,4] ?_
 refine rS [0,1,2,3,4] ?_
 refine GL.seqR ?_
 refine lK 5 [7,8,9,10,11] ?_
 refine GL.op rfl (iR rfl rfl (m59c) (f245 _ fk fs N0 n c F k sz pos crc hF hk hfk hfs hn hn2) [0,1,2,7] rfl rfl rfl rfl ?_)
 intro ⟨c2,N2,tx⟩ hx
 refine gF [12] rfl ?_
 refine lF [6] (GK.code ?_)
 refine GC.ret ?_
 refine fR (.inl rfl) rfl (by trivial) ((c2,N2,tx)) [0,1,2,3,4,5,6,7] rfl rfl rfl rfl (hx)
theorem f88c (μ) (B : Nat → Int) (rn N cap : Nat) (off : Int) (s : RdI) (t : WI) (o cnt : Int) (fh fo : Value → Option Value) (Z : Nat → Option Obj) (V : Nat → Value) (m mc : Nat) (fk fs : Value → Option Value) (N0 : Nat → Value) (n c : Nat) (F : Nat → Int) (k : Nat) (sz pos crc : Int) (hF : ∀ j,j < 20 → 0 ≤ F j ∧ F j < 256) (hk : k < 100) (hfk : fk (.int .i64 pos) = some (.int .i8 k)) (hfs : fs (.int .i64 pos) = some (.int .i64 sz)) (hn : n ≤ c) (hn2 : n < 1000000) : FunC Tryz.prog μ 88 [.ptr 12 0,.fn (.func 127) [] [.ptr 21 0,.ptr 22 0,.ptr 23 0,.ptr 24 0]] (srG B rn N cap 25 off s t ++ [(11,.row (scR 0 9 10 (.v (.pointer none)) 2 o)),(12,.row (prR cnt (.slc 26 0 m mc) (.mpp 13) (.mpp 14) 16 17)),(13,.pr (isMap kH fh)),(14,.pr (isMap k64 fo)),(15,.fz Z),(26,.row ⟨.vals V,mc * 1,165⟩),(16,.row buR),(17,.row (osR 18)),(18,.row (obP 19 20 (.slc 27 0 n c))),(19,.pr (isMapU k64 fk)),(20,.pr (isMapU k64 fs)),(27,.row ⟨.vals N0,c * 6,39⟩),(21,.row ⟨.lst [.v (.int .u8 (F 0)),.v (.int .u8 (F 1)),.v (.int .u8 (F 2)),.v (.int .u8 (F 3)),.v (.int .u8 (F 4)),.v (.int .u8 (F 5)),.v (.int .u8 (F 6)),.v (.int .u8 (F 7)),.v (.int .u8 (F 8)),.v (.int .u8 (F 9)),.v (.int .u8 (F 10)),.v (.int .u8 (F 11)),.v (.int .u8 (F 12)),.v (.int .u8 (F 13)),.v (.int .u8 (F 14)),.v (.int .u8 (F 15)),.v (.int .u8 (F 16)),.v (.int .u8 (F 17)),.v (.int .u8 (F 18)),.v (.int .u8 (F 19))],20,74⟩),(22,.row ⟨.lst [.v (.int .i64 pos)],1,2⟩),(23,.row ⟨.lst [.v (.int .u32 crc)],1,35⟩),(24,.row ⟨.lst [.v (.slice none 0 0)],1,25⟩)]) 27 28
  (fun x : Nat × (Nat → Value) × ByteArray=>n + 1 ≤ x.1 ∧ (∀ i,i < n * 6 → x.2.1 i = N0 i) ∧ ∀ j,j < 6 → x.2.1 (n * 6 + j) = fdV k sz pos crc x.2.2 j) (fun x=>⟨.v .nilIface,srG B rn N cap 25 off s t ++ [(11,.row (scR 0 9 10 (.v (.pointer none)) 2 o)),(12,.row (prR cnt (.slc 26 0 m mc) (.mpp 13) (.mpp 14) 16 17)),(13,.pr (isMap kH fh)),(14,.pr (isMap k64 fo)),(15,.fz Z),(26,.row ⟨.vals V,mc * 1,165⟩),(16,.row buR),(17,.row (osR 18)),(18,.row (obP 19 20 (.slc 27 0 (n + 1) x.1))),(19,.pr (isMapU k64 fk)),(20,.pr (isMapU k64 fs)),(27,.row ⟨.vals x.2.1,x.1 * 6,39⟩),(21,.row ⟨.lst [.v (.int .u8 (F 0)),.v (.int .u8 (F 1)),.v (.int .u8 (F 2)),.v (.int .u8 (F 3)),.v (.int .u8 (F 4)),.v (.int .u8 (F 5)),.v (.int .u8 (F 6)),.v (.int .u8 (F 7)),.v (.int .u8 (F 8)),.v (.int .u8 (F 9)),.v (.int .u8 (F 10)),.v (.int .u8 (F 11)),.v (.int .u8 (F 12)),.v (.int .u8 (F 13)),.v (.int .u8 (F 14)),.v (.int .u8 (F 15)),.v (.int .u8 (F 16)),.v (.int .u8 (F 17)),.v (.int .u8 (F 18)),.v (.int .u8 (F 19))],20,74⟩),(22,.row ⟨.lst [.v (.int .i64 pos)],1,2⟩),(23,.row ⟨.lst [.v (.int .u32 crc)],1,35⟩),(24,.row ⟨.lst [.v (.slice none 0 0)],1,25⟩)],28⟩):=by
 dsimp only [srG,List.cons_append,List.nil_append]
 refine fE 24 Tryz.func88 fun zw zβ=>?_
 refine cF [0,1] ?_
 refine rS [0,1] ?_
 refine GC.seq ?_
 refine rS [1,11,12,13] ?_
 refine GC.block ?_
 refine GC.loopU 2 ?_
 refine rS [1,11,12,13,14] ?_
 refine GC.seq (GC.condT rfl (GC.skip (GK.code (GC.seq (GC.block ?_)))))
 refine rS [1,6,11,12,13] ?_
 refine GL.seqR ?_
 refine lK 2 [1,11,12,13,17,18] ?_
 refine GL.op rfl (OpW.callVR rfl rfl (f127 _ fk fs N0 n c F k sz pos crc hF hk hfk hfs hn hn2) [18,19,20,21,22,23,24,27] rfl rfl rfl rfl ?_)
 intro ⟨c2,N2,tx⟩ hx ρ' hp
 obtain rfl:=Option.some.inj hp; clear hp
 refine gF [1,11,12,13,19] rfl ?_
 refine lF [1,7,11,12,13] (GK.code ?_)
 refine rS [1,7,11,12,13,21] ?_
 refine GC.condF rfl (GC.skip (GK.code ?_))
 refine rG [1,11,12,13] ?_
 refine GK.itr ?_
 refine rS [1,11,12,13,14] ?_
 refine GC.seq (GC.condF rfl ?_)
 refine GC.exit ?_
 refine GK.code ?_
 refine rS [4] ?_
 refine GC.ret ?_
 refine fR (.inl rfl) rfl (by trivial) ((c2,N2,tx)) [0,1,2,3,4,5,6,7,8,9,10,11,12,13,14,15,16,17,18,19,20,21,22,23,24,25,26,27] rfl rfl rfl rfl (hx)
theorem f83 (μ) (B : Nat → Int) (rn N cap : Nat) (off : Int) (s : RdI) (t : WI) (o cnt : Int) (fh fo : Value → Option Value) (Z : Nat → Option Obj) (V : Nat → Value) (m mc : Nat) (fk fs : Value → Option Value) (N0 : Nat → Value) (n c : Nat) (F : Nat → Int) (k : Nat) (sz pos crc : Int) (hF : ∀ j,j < 20 → 0 ≤ F j ∧ F j < 256) (hk : k < 100) (hfk : fk (.int .i64 pos) = some (.int .i8 k)) (hfs : fs (.int .i64 pos) = some (.int .i64 sz)) (hn : n ≤ c) (hn2 : n < 1000000) : FunC Tryz.prog μ 83 [.ptr 12 0,.agg [.v (.int .u8 (F 0)),.v (.int .u8 (F 1)),.v (.int .u8 (F 2)),.v (.int .u8 (F 3)),.v (.int .u8 (F 4)),.v (.int .u8 (F 5)),.v (.int .u8 (F 6)),.v (.int .u8 (F 7)),.v (.int .u8 (F 8)),.v (.int .u8 (F 9)),.v (.int .u8 (F 10)),.v (.int .u8 (F 11)),.v (.int .u8 (F 12)),.v (.int .u8 (F 13)),.v (.int .u8 (F 14)),.v (.int .u8 (F 15)),.v (.int .u8 (F 16)),.v (.int .u8 (F 17)),.v (.int .u8 (F 18)),.v (.int .u8 (F 19))],.v (.int .i64 pos),.v (.int .u32 crc),.v (.slice none 0 0)] (srG B rn N cap 21 off s t ++ [(11,.row (scR 0 9 10 (.v (.pointer none)) 2 o)),(12,.row (prR cnt (.slc 22 0 m mc) (.mpp 13) (.mpp 14) 16 17)),(13,.pr (isMap kH fh)),(14,.pr (isMap k64 fo)),(15,.fz Z),(22,.row ⟨.vals V,mc * 1,165⟩),(16,.row buR),(17,.row (osR 18)),(18,.row (obP 19 20 (.slc 23 0 n c))),(19,.pr (isMapU k64 fk)),(20,.pr (isMapU k64 fs)),(23,.row ⟨.vals N0,c * 6,39⟩)]) 23 24
  (fun x : Nat × (Nat → Value) × ByteArray=>n + 1 ≤ x.1 ∧ (∀ i,i < n * 6 → x.2.1 i = N0 i) ∧ ∀ j,j < 6 → x.2.1 (n * 6 + j) = fdV k sz pos crc x.2.2 j) (fun x=>⟨.v .nilIface,srG B rn N cap 21 off s t ++ [(11,.row (scR 0 9 10 (.v (.pointer none)) 2 o)),(12,.row (prR cnt (.slc 22 0 m mc) (.mpp 13) (.mpp 14) 16 17)),(13,.pr (isMap kH fh)),(14,.pr (isMap k64 fo)),(15,.fz Z),(22,.row ⟨.vals V,mc * 1,165⟩),(16,.row buR),(17,.row (osR 18)),(18,.row (obP 19 20 (.slc 23 0 (n + 1) x.1))),(19,.pr (isMapU k64 fk)),(20,.pr (isMapU k64 fs)),(23,.row ⟨.vals x.2.1,x.1 * 6,39⟩)],24⟩):=by
 dsimp only [srG,List.cons_append,List.nil_append]
 refine fE 14 Tryz.func83 fun zw zβ=>?_
 refine cF [0,1,2,3,4] ?_
 refine rS [0,6,7,8,9] ?_
 refine GL.seqR ?_
 refine lK 2 [11,12] ?_
 refine GL.op rfl (cR rfl (f88c _ B rn N cap off s t o cnt fh fo Z V m mc fk fs N0 n c F k sz pos crc hF hk hfk hfs hn hn2) [0,1,2,3,4,5,6,7,8,9,10,11,12,13,14,15,16,17,18,19,20,24,25,26,27,21,22,23] rfl rfl rfl rfl ?_)
 intro ⟨c2,N2,tx⟩ hx
 refine gF [13] rfl ?_
 refine lF [10] (GK.code ?_)
 refine GC.ret ?_
 refine fR (.inl rfl) rfl (by trivial) ((c2,N2,tx)) [0,1,2,3,4,5,6,7,8,9,10,11,12,13,14,15,16,17,18,19,20,21,22,23] rfl rfl rfl rfl (hx)
theorem f89 (μ) (fk fs : Value → Option Value) (N0 : Nat → Value) (n c : Nat) (F : Nat → Int) : FunC Tryz.prog μ 89 [.ifc 59 (.ptr 0 0),.ptr 3 0] [(0,.row (obP 1 2 (.slc 4 0 n c))),(1,.pr (isMapU k64 fk)),(2,.pr (isMapU k64 fs)),(4,.row ⟨.vals N0,c * 6,39⟩),(3,.row ⟨.lst [.v (.int .u8 (F 0)),.v (.int .u8 (F 1)),.v (.int .u8 (F 2)),.v (.int .u8 (F 3)),.v (.int .u8 (F 4)),.v (.int .u8 (F 5)),.v (.int .u8 (F 6)),.v (.int .u8 (F 7)),.v (.int .u8 (F 8)),.v (.int .u8 (F 9)),.v (.int .u8 (F 10)),.v (.int .u8 (F 11)),.v (.int .u8 (F 12)),.v (.int .u8 (F 13)),.v (.int .u8 (F 14)),.v (.int .u8 (F 15)),.v (.int .u8 (F 16)),.v (.int .u8 (F 17)),.v (.int .u8 (F 18)),.v (.int .u8 (F 19))],20,74⟩)] 5 5
  (fun _ : Unit=>True) (fun _=>⟨.v .nilIface,[(0,.row (obP 1 2 (.slc 4 0 n c))),(1,.pr (isMapU k64 fk)),(2,.pr (isMapU k64 fs)),(4,.row ⟨.vals N0,c * 6,39⟩),(3,.row ⟨.lst [.v (.int .u8 (F 0)),.v (.int .u8 (F 1)),.v (.int .u8 (F 2)),.v (.int .u8 (F 3)),.v (.int .u8 (F 4)),.v (.int .u8 (F 5)),.v (.int .u8 (F 6)),.v (.int .u8 (F 7)),.v (.int .u8 (F 8)),.v (.int .u8 (F 9)),.v (.int .u8 (F 10)),.v (.int .u8 (F 11)),.v (.int .u8 (F 12)),.v (.int .u8 (F 13)),.v (.int .u8 (F 14)),.v (.int .u8 (F 15)),.v (.int .u8 (F 16)),.v (.int .u8 (F 17)),.v (.int .u8 (F 18)),.v (.int .u8 (F 19))],20,74⟩)],5⟩):=by
 refine fE 7 Tryz.func89 fun zw zβ=>?_
 refine cF [0,1] ?_
 refine rS [0,1] ?_
 refine GL.seqR ?_
 refine lK 2 [4,5] ?_
 refine GL.op rfl (iR rfl rfl (m59f) (f243 _ fk fs N0 n c (c * 6) F) [0,1,2,4] rfl rfl rfl rfl fun _ _=>?_)
 refine gF [6] rfl ?_
 refine lF [3] (GK.code ?_)
 refine GC.ret ?_
 refine fR (.inl rfl) rfl (by trivial) () [0,1,2,3,4] rfl rfl rfl rfl (trivial)
theorem f88f (μ) (B : Nat → Int) (rn N cap : Nat) (off : Int) (s : RdI) (t : WI) (o cnt : Int) (fh fo : Value → Option Value) (Z : Nat → Option Obj) (V : Nat → Value) (m mc : Nat) (fk fs : Value → Option Value) (N0 : Nat → Value) (n c : Nat) (F : Nat → Int) : FunC Tryz.prog μ 88 [.ptr 12 0,.fn (.func 89) [] [.ptr 21 0]] (srG B rn N cap 22 off s t ++ [(11,.row (scR 0 9 10 (.v (.pointer none)) 2 o)),(12,.row (prR cnt (.slc 23 0 m mc) (.mpp 13) (.mpp 14) 16 17)),(13,.pr (isMap kH fh)),(14,.pr (isMap k64 fo)),(15,.fz Z),(23,.row ⟨.vals V,mc * 1,165⟩),(16,.row buR),(17,.row (osR 18)),(18,.row (obP 19 20 (.slc 24 0 n c))),(19,.pr (isMapU k64 fk)),(20,.pr (isMapU k64 fs)),(24,.row ⟨.vals N0,c * 6,39⟩),(21,.row ⟨.lst [.v (.int .u8 (F 0)),.v (.int .u8 (F 1)),.v (.int .u8 (F 2)),.v (.int .u8 (F 3)),.v (.int .u8 (F 4)),.v (.int .u8 (F 5)),.v (.int .u8 (F 6)),.v (.int .u8 (F 7)),.v (.int .u8 (F 8)),.v (.int .u8 (F 9)),.v (.int .u8 (F 10)),.v (.int .u8 (F 11)),.v (.int .u8 (F 12)),.v (.int .u8 (F 13)),.v (.int .u8 (F 14)),.v (.int .u8 (F 15)),.v (.int .u8 (F 16)),.v (.int .u8 (F 17)),.v (.int .u8 (F 18)),.v (.int .u8 (F 19))],20,74⟩)]) 25 25
  (fun _ : Unit=>True) (fun _=>⟨.v .nilIface,srG B rn N cap 22 off s t ++ [(11,.row (scR 0 9 10 (.v (.pointer none)) 2 o)),(12,.row (prR cnt (.slc 23 0 m mc) (.mpp 13) (.mpp 14) 16 17)),(13,.pr (isMap kH fh)),(14,.pr (isMap k64 fo)),(15,.fz Z),(23,.row ⟨.vals V,mc * 1,165⟩),(16,.row buR),(17,.row (osR 18)),(18,.row (obP 19 20 (.slc 24 0 n c))),(19,.pr (isMapU k64 fk)),(20,.pr (isMapU k64 fs)),(24,.row ⟨.vals N0,c * 6,39⟩),(21,.row ⟨.lst [.v (.int .u8 (F 0)),.v (.int .u8 (F 1)),.v (.int .u8 (F 2)),.v (.int .u8 (F 3)),.v (.int .u8 (F 4)),.v (.int .u8 (F 5)),.v (.int .u8 (F 6)),.v (.int .u8 (F 7)),.v (.int .u8 (F 8)),.v (.int .u8 (F 9)),.v (.int .u8 (F 10)),.v (.int .u8 (F 11)),.v (.int .u8 (F 12)),.v (.int .u8 (F 13)),.v (.int .u8 (F 14)),.v (.int .u8 (F 15)),.v (.int .u8 (F 16)),.v (.int .u8 (F 17)),.v (.int .u8 (F 18)),.v (.int .u8 (F 19))],20,74⟩)],25⟩):=by
 dsimp only [srG,List.cons_append,List.nil_append]
 refine fE 24 Tryz.func88 fun zw zβ=>?_
 refine cF [0,1] ?_
 refine rS [0,1] ?_
 refine GC.seq ?_
 refine rS [1,11,12,13] ?_
 refine GC.block ?_
 refine GC.loopU 2 ?_
 refine rS [1,11,12,13,14] ?_
 refine GC.seq (GC.condT rfl (GC.skip (GK.code (GC.seq (GC.block ?_)))))
 refine rS [1,6,11,12,13] ?_
 refine GL.seqR ?_
 refine lK 2 [1,11,12,13,17,18] ?_
 refine GL.op rfl (OpW.callVR rfl rfl (f89 _ fk fs N0 n c F) [18,19,20,21,24] rfl rfl rfl rfl ?_)
 intro _ _ ρ' hp
 obtain rfl:=Option.some.inj hp; clear hp
 refine gF [1,11,12,13,19] rfl ?_
 refine lF [1,7,11,12,13] (GK.code ?_)
 refine rS [1,7,11,12,13,21] ?_
 refine GC.condF rfl (GC.skip (GK.code ?_))
 refine rG [1,11,12,13] ?_
 refine GK.itr ?_
 refine rS [1,11,12,13,14] ?_
 refine GC.seq (GC.condF rfl ?_)
 refine GC.exit ?_
 refine GK.code ?_
 refine rS [4] ?_
 refine GC.ret ?_
 refine fR (.inl rfl) rfl (by trivial) () [0,1,2,3,4,5,6,7,8,9,10,11,12,13,14,15,16,17,18,19,20,21,22,23,24] rfl rfl rfl rfl (trivial)
theorem f49 (μ) (B : Nat → Int) (rn N cap : Nat) (off : Int) (s : RdI) (t : WI) (o cnt : Int) (fh fo : Value → Option Value) (Z : Nat → Option Obj) (V : Nat → Value) (m mc : Nat) (fk fs : Value → Option Value) (N0 : Nat → Value) (n c : Nat) (F : Nat → Int) : FunC Tryz.prog μ 49 [.ptr 12 0,.agg [.v (.int .u8 (F 0)),.v (.int .u8 (F 1)),.v (.int .u8 (F 2)),.v (.int .u8 (F 3)),.v (.int .u8 (F 4)),.v (.int .u8 (F 5)),.v (.int .u8 (F 6)),.v (.int .u8 (F 7)),.v (.int .u8 (F 8)),.v (.int .u8 (F 9)),.v (.int .u8 (F 10)),.v (.int .u8 (F 11)),.v (.int .u8 (F 12)),.v (.int .u8 (F 13)),.v (.int .u8 (F 14)),.v (.int .u8 (F 15)),.v (.int .u8 (F 16)),.v (.int .u8 (F 17)),.v (.int .u8 (F 18)),.v (.int .u8 (F 19))]] (srG B rn N cap 21 off s t ++ [(11,.row (scR 0 9 10 (.v (.pointer none)) 2 o)),(12,.row (prR cnt (.slc 22 0 m mc) (.mpp 13) (.mpp 14) 16 17)),(13,.pr (isMap kH fh)),(14,.pr (isMap k64 fo)),(15,.fz Z),(22,.row ⟨.vals V,mc * 1,165⟩),(16,.row buR),(17,.row (osR 18)),(18,.row (obP 19 20 (.slc 23 0 n c))),(19,.pr (isMapU k64 fk)),(20,.pr (isMapU k64 fs)),(23,.row ⟨.vals N0,c * 6,39⟩)]) 24 24
  (fun _ : Unit=>True) (fun _=>⟨.v .nilIface,srG B rn N cap 21 off s t ++ [(11,.row (scR 0 9 10 (.v (.pointer none)) 2 o)),(12,.row (prR cnt (.slc 22 0 m mc) (.mpp 13) (.mpp 14) 16 17)),(13,.pr (isMap kH fh)),(14,.pr (isMap k64 fo)),(15,.fz Z),(22,.row ⟨.vals V,mc * 1,165⟩),(16,.row buR),(17,.row (osR 18)),(18,.row (obP 19 20 (.slc 23 0 n c))),(19,.pr (isMapU k64 fk)),(20,.pr (isMapU k64 fs)),(23,.row ⟨.vals N0,c * 6,39⟩)],24⟩):=by
 dsimp only [srG,List.cons_append,List.nil_append]
 refine fE 8 Tryz.func49 fun zw zβ=>?_
 refine cF [0,1] ?_
 refine rS [0,3] ?_
 refine GL.seqR ?_
 refine lK 2 [5,6] ?_
 refine GL.op rfl (cR rfl (f88f _ B rn N cap off s t o cnt fh fo Z V m mc fk fs N0 n c F) [0,1,2,3,4,5,6,7,8,9,10,11,12,13,14,15,16,17,18,19,20,24,21,22,23] rfl rfl rfl rfl fun _ _=>?_)
 refine gF [7] rfl ?_
 refine lF [4] (GK.code ?_)
 refine GC.ret ?_
 refine fR (.inl rfl) rfl (by trivial) () [0,1,2,3,4,5,6,7,8,9,10,11,12,13,14,15,16,17,18,19,20,21,22,23] rfl rfl rfl rfl (trivial)
theorem f40 (μ) (B : Nat → Int) (rn N cap : Nat) (off : Int) (s : RdI) (t : WI) (v o : Int) (fk fs : Value → Option Value) (N0 : Nat → Value) (n c : Nat) : Fun Tryz.prog μ 40 [.ptr 11 0,.v .nilIface,.slc 12 0 1 1] (srG B rn N cap 16 off s t ++ [(11,.row (scR 0 9 10 (.v (.pointer none)) v o)),(12,.row (osR 13)),(13,.row (obP 14 15 (.slc 17 0 n c))),(14,.pr (isMapU k64 fk)),(15,.pr (isMapU k64 fs)),(17,.row ⟨.vals N0,c * 6,39⟩)]) 18
  (fun _ : Unit=>True) (fun _=>⟨.tup [.ptr 19 0,.v .nilIface],srG B rn N cap 16 off s t ++ [(11,.row (scR 0 9 10 (.v (.pointer none)) v o)),(12,.row (osR 13)),(13,.row (obP 14 15 (.slc 17 0 n c))),(14,.pr (isMapU k64 fk)),(15,.pr (isMapU k64 fs)),(17,.row ⟨.vals N0,c * 6,39⟩),(18,.row buR),(19,.row (prR 0 (.v (.slice none 0 0)) (.v (.map none)) (.v (.map none)) 18 12))],20⟩):=by
 dsimp only [srG,List.cons_append,List.nil_append]
 refine fE 32 Tryz.func40 fun zw zβ=>?_
 refine cF [0,1,2,15,16] ?_
 refine rS [0,1,2,15,16] ?_
 refine GC.seq ?_
 refine rS [0,1,2,17] ?_
 refine GC.condF rfl (GC.skip (GK.code ?_))
 refine rS [0,1,2,8] ?_
 refine GC.seq ?_
 refine rS [0,1,2,8,23] ?_
 refine GC.condF rfl (GC.skip (GK.code (GL.seqR ?_)))
 refine lK 3 [8,25,26,27] ?_
 refine GL.op rfl (cR rfl (f56 _) [] rfl rfl rfl rfl fun _ _=>?_)
 refine gF [8,25,26,27,28] rfl ?_
 refine lF [6,7] (GK.code ?_)
 refine GC.ret ?_
 refine fR (.inl rfl) rfl (by trivial) () [0,1,2,3,4,5,6,7,8,9,10,11,12,13,14,15,16,17,18,19] rfl rfl rfl rfl (trivial)
theorem f23 (μ) (B : Nat → Int) (rn N cap : Nat) (off : Int) (s : RdI) (t : WI) (v o : Int) (fk fs : Value → Option Value) (N0 : Nat → Value) (n c : Nat) : Fun Tryz.prog μ 23 [.ptr 11 0,.slc 12 0 1 1] (srG B rn N cap 16 off s t ++ [(11,.row (scR 0 9 10 (.v (.pointer none)) v o)),(12,.row (osR 13)),(13,.row (obP 14 15 (.slc 17 0 n c))),(14,.pr (isMapU k64 fk)),(15,.pr (isMapU k64 fs)),(17,.row ⟨.vals N0,c * 6,39⟩)]) 18
  (fun _ : Unit=>True) (fun _=>⟨.tup [.ptr 19 0,.v .nilIface],srG B rn N cap 16 off s t ++ [(11,.row (scR 0 9 10 (.v (.pointer none)) v o)),(12,.row (osR 13)),(13,.row (obP 14 15 (.slc 17 0 n c))),(14,.pr (isMapU k64 fk)),(15,.pr (isMapU k64 fs)),(17,.row ⟨.vals N0,c * 6,39⟩),(18,.row buR),(19,.row (prR 0 (.v (.slice none 0 0)) (.v (.map none)) (.v (.map none)) 18 12))],20⟩):=by
 dsimp only [srG,List.cons_append,List.nil_append]
 refine fE 11 Tryz.func23 fun zw zβ=>?_
 refine cF [0,1] ?_
 refine rS [0,1] ?_
 refine GL.seqR ?_
 refine lK 2 [6,7] ?_
 refine GL.op rfl (cR rfl (f40 _ B rn N cap off s t v o fk fs N0 n c) [0,1,2,3,4,5,6,7,8,9,10,11,12,13,14,15,16,17] rfl rfl rfl rfl fun _ _=>?_)
 refine gF [8] rfl ?_
 refine lF [4,5] (GK.code ?_)
 refine GC.ret ?_
 refine fR (.inl rfl) rfl (by trivial) () [0,1,2,3,4,5,6,7,8,9,10,11,12,13,14,15,16,17,18,19] rfl rfl rfl rfl (trivial)
theorem f44 (μ) (S : Nat → Int) (B : Nat → Int) (rn N cap : Nat) (s : RdI) (t : WI) (fk fs : Value → Option Value) (N0 : Nat → Value) (n c : Nat) (M : Nat) (d : Dat B rn N cap) (h : Sr B S N 0 0 s t) (hp : 12 ≤ N) (hP : ∀ j,j < 4 → B j = packS j) (hv : w32 (be4 (B 4) (B (4 + 1)) (B (4 + 2)) (B (4 + 3))) = 2) (hM : w32 (be4 (B 8) (B (8 + 1)) (B (8 + 2)) (B (8 + 3))) = (M : Int)) (hM2 : M ≤ 40) :
  FunC Tryz.prog μ 44 [.ptr 12 0] (srG B rn N cap 18 0 s t ++ [(11,.row (scR 0 9 10 (.v (.pointer none)) 0 0)),(12,.row (prR 0 (.v (.slice none 0 0)) (.v (.map none)) (.v (.map none)) 13 14)),(13,.row buR),(14,.row (osR 15)),(15,.row (obP 16 17 (.slc 19 0 n c))),(16,.pr (isMapU k64 fk)),(17,.pr (isMapU k64 fs)),(19,.row ⟨.vals N0,c * 6,39⟩)]) 18 20
  (fun x : RdI × WI=>Sr B S N 12 12 x.1 x.2)
  (fun x=>⟨.v .nilIface,srG B rn N cap 18 12 x.1 x.2 ++ [(11,.row (scR 0 9 10 (.v (.pointer none)) 2 M)),(12,.row (prR M (.slc 22 0 0 M) (.mpp 20) (.mpp 21) 13 14)),(13,.row buR),(14,.row (osR 15)),(15,.row (obP 16 17 (.slc 19 0 n c))),(16,.pr (isMapU k64 fk)),(17,.pr (isMapU k64 fs)),(19,.row ⟨.vals N0,c * 6,39⟩),(20,.pr (isMap kH fun _=>none)),(21,.pr (isMap k64 fun _=>none)),(22,.row ⟨.vals fun _=>.pointer none,M,165⟩)],23⟩):=by
 dsimp only [srG,List.cons_append,List.nil_append]
 refine fE 50 Tryz.func44 fun zw zβ=>?_
 refine cF [0] ?_
 refine rS [0] ?_
 refine GL.seqR ?_
 refine lK 4 [0,12] ?_
 refine GL.op rfl (cR rfl (f61 _ B S rn N cap s t d h hp hP hv) [0,1,2,3,4,5,6,7,8,9,10,11,18] rfl rfl rfl rfl ?_)
 intro ⟨s1,t1⟩ hx
 rw [hM]
 refine gF [0,13] rfl ?_
 refine lF [0,4,5] (GK.code ?_)
 refine GC.seq ?_
 refine rS [0,4,5,18] ?_
 refine GC.condF rfl (GC.skip (GK.code (GC.seq (GL.seqR ?_))))
 refine lK 2 [0,4,20,21] ?_
 refine GL.op rfl (cR rfl (f62 _ B rn N cap 12 s1 t1 M 0 fk fs N0 n c M) [0,1,2,3,4,5,6,7,8,9,10,11,12,13,14,15,16,17,18,19] rfl rfl rfl rfl fun _ _=>?_)
 refine gF [0,4,22] rfl ?_
 refine lF [0,4,6] (GK.code ?_)
 refine rS [0,4,6,24] ?_
 refine GC.condF rfl (GC.skip (GK.code ?_))
 refine rS [0] ?_
 refine GL.seqR ?_
 refine lK 4 [0,33] ?_
 refine GL.op rfl (cR rfl (f63 _ M (by omega)) [] rfl rfl rfl rfl fun _ _=>?_)
 refine gF [0,34] rfl ?_
 refine lF [0,7] (GK.code ?_)
 refine GL.seqR ?_
 refine lK 2 [0,7,35,36] ?_
 refine GL.op rfl (OpW.makeMapH kH rfl rfl rfl rfl ?_)
 refine gF [0,7,35,37] rfl ?_
 refine lF [0,7] (GK.code ?_)
 refine GL.seqR ?_
 refine lK 2 [0,7,40,41] ?_
 refine GL.op rfl (OpW.makeMapH k64 rfl rfl rfl rfl ?_)
 refine gF [0,7,40,42] rfl ?_
 refine lF [0,7] (GK.code ?_)
 refine GL.seqR ?_
 refine lK 2 [45,46] ?_
 refine GL.op rfl (OpW.makeV rfl rfl rfl rfl rfl (by decide) (by omega) (by omega) (by show ((8 : Nat) : Int) * M ≤ 281474976710656; omega) rfl rfl rfl ?_)
 refine gF [45,47] rfl ?_
 refine lF [] (GK.code ?_)
 refine rS [2] ?_
 refine GC.ret ?_
 refine fR (.inl rfl) rfl (by trivial) ((s1,t1)) [0,1,2,3,4,5,6,7,8,9,10,11,12,13,14,15,16,17,18,19,20,21,22] rfl rfl rfl rfl (hx)
def zcV (be : Nat × Nat) (B : Nat → Int) (rn N cap hb : Nat) (st : Int) (Z : Row) (x : Int) (v : SV0) (eof : Bool) (i : LS) : GH :=
 srG B rn N cap hb (v.p : Nat) v.s v.t ++ [(11,.row Z),(12,.row (dcZ v.wr v.rd v.full v.b0 v.b1 v.b2 v.b3 v.step st v.fin (.v (eofW be eof)) (lsZ i) v.cl v.ro)),(13,.row ⟨.vals fun i=>rle (tab 401).zero i,316,401⟩),(14,.row ⟨.lst [(.v (.int .i64 0)),(.v (.int .i64 0)),(.v (.int .i64 0)),(.v (.int .i64 0)),(.v (.int .i64 0)),(.v (.int .i64 0)),(.v (.int .i64 0)),(.v (.int .i64 0)),(.v (.int .i64 0)),(.v (.int .i64 0)),(.v (.int .i64 0)),(.v (.int .i64 0)),(.v (.int .i64 0)),(.v (.int .i64 0)),(.v (.int .i64 0)),(.v (.int .i64 0)),(.v (.int .i64 0)),(.v (.int .i64 0)),(.v (.int .i64 0))],19,402⟩),(15,.row ⟨.ints .u8 v.D,32768,5⟩),(16,.row (adR x))]
theorem m403c : IsMeth Tryz.prog 403 "Close" 310:=fun v w=>by kernel_rfl
theorem m370c : IsMeth Tryz.prog 370 "Close" 306:=fun v w=>by kernel_rfl
theorem m370r : IsMeth Tryz.prog 370 "Read" 307:=fun v w=>by kernel_rfl
theorem m285w : IsMeth Tryz.prog 285 "Write" 296:=fun v w=>by kernel_rfl
theorem m134w : IsMeth Tryz.prog 134 "Write" 98:=fun v w=>by kernel_rfl
theorem f306e (μ) (be : Nat × Nat) (hE : muAt μ 0 0 = some (EOFv be)) (B : Nat → Int) (rn N cap : Nat) (st x : Int) (v : SV0) (o l c : Nat) (za zb zc zd : Int) :
  Fun Tryz.prog μ 306 [.ptr 11 0] (zcV be B rn N cap 17 st (zrR (EOFv be) za zb zc zd) x v true (.b o l c)) 18 (fun _ : Unit=>True)
  (fun _=>⟨.v .nilIface,zcV be B rn N cap 17 st (zrR .nilIface za zb zc zd) x v true (.b o l c),18⟩):=by
 dsimp only [zcV,srG,List.cons_append,List.nil_append]
 refine fE 32 Tryz.func306 fun zw zβ=>?_
 refine cF [0,9,10,11,12,13,14] ?_
 refine rS [0,9,10,11,12,13,14] ?_
 refine GC.seq ?_
 refine GC.seq (GC.draw [(0,0),(1,0),(2,0),(3,1),(4,0),(5,0),(6,0),(7,0),(8,0),(9,1),(10,1),(11,0),(12,0)] mixed (by kernel_rfl) (by rintro _ _ _ _ ⟨_,_,_,_,h,_⟩ _; cases h) ?_)
 refine wK 10 [0,8,12,13,14] ?_
 refine GW.lstep rfl rfl (LStep.mu (v:=EOFv be) rfl rfl rfl rfl hE) rfl (GW.force [0,8,12,13,14] rfl ?_)
 refine GW.vstep rfl rfl (VStep.eqI (r:=true) rfl (.inr rfl) rfl (fun β u v h1 h2=>by cases h1; cases h2; exact .pe be.1 be.2 rfl rfl rfl rfl)) rfl (GW.force [0,8,14] rfl ?_)
 refine wF [0,15] (GK.code ?_)
 refine GC.condF rfl (GC.skip (GK.code (GL.seqR ?_)))
 refine lK 5 [0,20,24] ?_
 refine GL.op rfl (iR rfl rfl (m403c) (f310 _ be hE B rn N cap _ v.s v.t v.D 0 0 v.wr v.rd v.full v.b0 v.b1 v.b2 v.b3 v.step st v.fin o l c v.cl v.ro) [0,1,2,3,4,5,6,7,8,9,10,12,13,14,15,17] rfl rfl rfl rfl fun _ _=>?_)
 refine gF [0,20,25] rfl ?_
 refine lF [0] (GK.code ?_)
 refine rS [2] ?_
 refine GC.ret ?_
 refine fR (.inl rfl) rfl (by trivial) () [0,1,2,3,4,5,6,7,8,9,10,11,12,13,14,15,16,17] rfl rfl rfl rfl (trivial)
theorem f306n (μ) (be : Nat × Nat) (hE : muAt μ 0 0 = some (EOFv be)) (B : Nat → Int) (rn N cap : Nat) (st x : Int) (v : SV0) (o l c : Nat) (za zb zc zd : Int) :
  Fun Tryz.prog μ 306 [.ptr 11 0] (zcV be B rn N cap 17 st (zrR .nilIface za zb zc zd) x v true (.b o l c)) 18 (fun _ : Unit=>True)
  (fun _=>⟨.v .nilIface,zcV be B rn N cap 17 st (zrR .nilIface za zb zc zd) x v true (.b o l c),18⟩):=by
 dsimp only [zcV,srG,List.cons_append,List.nil_append]
 refine fE 32 Tryz.func306 fun zw zβ=>?_
 refine cF [0,9,10,11,12,13,14] ?_
 refine rS [0,9,10,11,12,13,14] ?_
 refine GC.seq ?_
 refine GC.seq (GC.draw [(0,0),(1,0),(2,0),(3,1),(4,0),(5,0),(6,0),(7,0),(8,0),(9,1),(10,1),(11,0),(12,0)] mixed (by kernel_rfl) (by rintro _ _ _ _ ⟨_,_,_,_,h,_⟩ _; cases h) ?_)
 refine wF [0,15] (GK.code ?_)
 refine GC.condF rfl (GC.skip (GK.code (GL.seqR ?_)))
 refine lK 5 [0,20,24] ?_
 refine GL.op rfl (iR rfl rfl (m403c) (f310 _ be hE B rn N cap _ v.s v.t v.D 0 0 v.wr v.rd v.full v.b0 v.b1 v.b2 v.b3 v.step st v.fin o l c v.cl v.ro) [0,1,2,3,4,5,6,7,8,9,10,12,13,14,15,17] rfl rfl rfl rfl fun _ _=>?_)
 refine gF [0,20,25] rfl ?_
 refine lF [0] (GK.code ?_)
 refine rS [2] ?_
 refine GC.ret ?_
 refine fR (.inl rfl) rfl (by trivial) () [0,1,2,3,4,5,6,7,8,9,10,11,12,13,14,15,16,17] rfl rfl rfl rfl (trivial)
theorem f296b (μ) {fe : Nat} (F G : Nat → Int) (o l c rn off m cap prn lim e : Nat) (hl : l + m ≤ c) (hc : c < 9223372036854775808) (hr : o + c ≤ rn) (hp : off + m ≤ prn) (hm0 : 0 < m) (hle : e + m ≤ lim) (hl2 : lim < 1099511627776) (bo lr : Int) :
  Fun Tryz.prog μ 296 [.ptr 0 0,.slc 3 off m cap] [(0,.row (bnR (.ifc 134 (.ptr 1 0)) lim e)),(1,.row (bfR (.slc 2 o l c) bo lr)),(2,.row ⟨.ints .u8 F,rn,5⟩),(3,.row ⟨.ints .u8 G,prn,fe⟩)] 4
  (fun _ : Nat → Int=>True) (fun F'=>⟨.tup [.v (.int .i64 m),.v .nilIface],[(0,.row (bnR (.ifc 134 (.ptr 1 0)) lim ((e : Int) + m))),(1,.row (bfR (.slc 2 o (l + m) c) bo 0)),(2,.row ⟨.ints .u8 F',rn,5⟩),(3,.row ⟨.ints .u8 G,prn,fe⟩)],4⟩):=by
 refine fE 85 Tryz.func296 fun zw zβ=>?_
 refine cF [0,1] ?_
 refine rS [0,1] ?_
 refine GC.seq ?_
 refine GC.seq (GC.draw [(0,0),(1,0),(2,0),(4,0),(5,0),(7,0),(8,0),(9,0),(3,1),(6,0),(10,1),(11,0)] mixed (by kernel_rfl) (by rintro _ _ _ _ ⟨_,_,_,_,h,_⟩ _; cases h) ?_)
 refine wF [0,1,23] (GK.code ?_)
 refine GC.cond rfl (fun hz=>?_) (fun hz=>?_)
 ·have hz : (lim : Int) < (e : Int) + m:=by simpa using hz
  omega
 ·have hz : ¬ ((lim : Int) < (e : Int) + m):=by simpa using hz
  refine GC.skip (GK.code (GL.seqR ?_))
  refine lK 5 [0,70,71] ?_
  refine GL.op rfl (iR rfl rfl (m134w) (f98 _ F G o l c rn off m cap prn bo lr hl hc hr hp hm0) [1,2,3] rfl rfl rfl rfl fun F' _=>?_)
  refine gF [0,72] rfl ?_
  refine lF [0,10,11] (GK.code ?_)
  refine rS [10,11] ?_
  refine rS [4,5] ?_
  refine GC.ret ?_
  refine fR (.inl rfl) rfl (by trivial) (F') [0,1,2,3] rfl rfl rfl rfl (trivial)
theorem f145 (μ) : Fun Tryz.prog μ 145 [] [] 0 (fun _ : Unit=>True) (fun _=>⟨.ptr 1 0,[(0,.row ⟨.ints .u8 fun _=>0,16384,5⟩),(1,.row ⟨.lst [.slc 0 0 16384 16384],1,25⟩)],2⟩):=by
 refine fE 3 Tryz.func145 fun zw zβ=>?_
 refine cF [] ?_
 refine rS [] ?_
 refine GL.seqR ?_
 refine GL.op rfl (@OpW.makeI _ _ _ _ _ 25 5 (.const (.int .i64 16384)) (.const (.int .i64 16384)) .i64 .i64 .u8 16384 16384 [(2,.slc 0 0 16384 16384)] rfl rfl rfl rfl rfl (by decide) (by decide) (by decide) (by show ((1 : Nat) : Int) * 16384 ≤ 281474976710656; decide) rfl rfl rfl ?_)
 rw [show Int.toNat 16384 = 16384 from rfl]
 refine gF [2] rfl ?_
 refine lF [1] (GK.code ?_)
 refine rS [0] ?_
 refine GC.ret ?_
 refine fR (.inl rfl) rfl (by trivial) () [0,1] rfl rfl rfl rfl (trivial)
theorem least_some : ∀ (l : List String),l ≠ [] → (Instr.least l).isSome = true:=by
 intro l h
 cases l with
 | nil=>exact absurd rfl h
 | cons a r =>
  simp [Instr.least]
theorem hasAll_false {P : Program} {t a : Nat} {want : Array (String × TypeId)} {inf : TypeInfo} (hu : P.underlying a = some (.interface want)) (hi : P.info? t = some inf) (x : String × TypeId) (hm : x ∈ want.toList) (hn : inf.methods.any (fun m=>m.name == x.1 && m.sig == x.2) = false) : hasAll P t a = some false:=by
 unfold hasAll
 rw [hu,hi]
 simp only [Option.some.injEq,Option.isNone_eq_false_iff]
 unfold Instr.missingMethod
 have h1 : x.1 ∈ List.map (fun x=>x.fst) (List.filter (fun x=>!inf.methods.any fun m=>m.name == x.1 && m.sig == x.2) want.toList):=by
  refine List.mem_map.2 ⟨x,List.mem_filter.2 ⟨hm,?_⟩,rfl⟩
  simp only [hn,Bool.not_false]
 generalize hl : List.map (fun x=>x.fst) (List.filter (fun x=>!inf.methods.any fun m=>m.name == x.1 && m.sig == x.2) want.toList) = l at h1
 dsimp only
 rw [List.partition_eq_filter_filter]
 dsimp only
 have hor : ∀ (a b : Option String),a.isSome = true ∨ b.isSome = true → (a <|> b).isSome = true:=by
  intro a b h
  cases a with
  | none=>simpa using h
  | some _=>rfl
 refine hor _ _ ?_
 by_cases hc : x.1.contains (Char.ofNat (nat_lit 46)) = true
 ·refine .inr (least_some _ fun e=>?_)
  have e2:=List.map_eq_nil_iff.1 e
  have h3 : x.1 ∈ List.filter (fun x=>x.contains (Char.ofNat (nat_lit 46))) l:=List.mem_filter.2 ⟨h1,hc⟩
  rw [e2] at h3
  cases h3
 ·refine .inl (least_some _ fun e=>?_)
  have h3 : x.1 ∈ List.filter (not ∘ fun x=>x.contains (Char.ofNat (nat_lit 46))) l:=List.mem_filter.2 ⟨h1,by simpa using hc⟩
  rw [e] at h3
  cases h3
theorem h370w : hasAll Tryz.prog 370 357 = some false:=hasAll_false Tryz.underlying357 (inf:=Tryz.t370) (by kernel_rfl) ("WriteTo",359) (by simp) (by kernel_rfl)
theorem h285r : hasAll Tryz.prog 285 361 = some false:=hasAll_false Tryz.underlying361 (inf:=Tryz.t285) (by kernel_rfl) ("ReadFrom",255) (by simp) (by kernel_rfl)
def cbH (be : Nat × Nat) (B : Nat → Int) (rn N cap : Nat) (st : Int) (L : Nat) (E : Nat → Int) (Z : Row) (x : Int) (v : SV0) (eof : Bool) (i : LS) (e : Nat) (w : ShI) : GH :=
 zcV be B rn N cap 22 st Z x v eof i ++ [(17,.row ⟨.ints .u8 E,16384,5⟩),(18,.row (bnR (.ifc 153 (.ptr 19 0)) L e)),(19,.row (mw1R 20)),(20,.row (ws1R 21)),(21,.row (shR 23 w)),(23,.row (sbR w))]
structure cbHI (dl : Int) (n0 : Nat) (B S T : Nat → Int) (N pe L : Nat) (v : SV0) (eof : Bool) (i : LS) (e : Nat) (w : ShI) : Prop where
 hi : lsI B T pe L e v eof i
 hs : SrD dl B S N v
 he : e ≤ L
 hW : WkA (n0 + e) w
set_option maxHeartbeats 16000000 in
theorem f166H (μ) (dl : Int) (be : Nat × Nat) (hE : muAt μ 0 0 = some (EOFv be)) (B S T : Nat → Int) (rn N cap pe L X : Nat) (d : Dat B rn N cap) (st : Int) (hpe : pe + 4 ≤ N) (v : SV0) (hi : lsI B T pe L 0 v false .a) (h : SrD dl B S N v) (hL : L < 1099511627776)
  (hT : ∀ j,j < L → 0 ≤ T j ∧ T j < 256) (hX : ad T L = (X : Int)) (hX2 : X < 4294967296) (h0 : B pe = ((X / 16777216 : Nat) : Int)) (h1 : B (pe + 1) = ((X / 65536 % 256 : Nat) : Int)) (h2 : B (pe + 2) = ((X / 256 % 256 : Nat) : Int)) (h3 : B (pe + 3) = ((X % 256 : Nat) : Int)) (a b c dd : Int) (n0 : Nat) (hn0 : n0 < 1099511627776) (E0 : Nat → Int) (w0 : ShI) (hw0 : WkA (n0 + 0) w0) :
  FunC Tryz.prog μ 166 [.ifc 285 (.ptr 18 0),.ifc 370 (.ptr 11 0),.slc 17 0 16384 16384] (cbH be B rn N cap st L  E0 (zrR .nilIface a b c dd) (ad T 0) v false .a 0 w0) 22 24
  (fun y : ZO × (ShI)=>y.1.x.eof = true ∧ y.1.x.v.p = pe + 4 ∧ SrD dl B S N y.1.x.v ∧ WkA (n0 + L) y.2)
  (fun y=>⟨.tup [.v (.int .i64 (L : Nat)),.v .nilIface],cbH be B rn N cap st L  y.1.x.E (zrR (EOFv be) y.1.a y.1.b y.1.c y.1.d) (ad T L) y.1.x.v true (.b y.1.x.o y.1.x.l y.1.x.c) L y.2,24⟩):=by
 have hN2:=d.hN2
 dsimp only [cbH,zcV,srG,List.cons_append,List.nil_append]
 refine fE 115 Tryz.func166 fun zw zβ=>?_
 refine cF [0,1,2,50,51,52,53,54,55,90,91,92] ?_
 refine rS [0,1,2,6,7,50,51,52,53,54,55,90,91,92] ?_
 refine GC.seq (GL.seqR ?_)
 refine lK 1 [0,1,2,6,7,20,50,51,52,53,54,55,90,91,92] ?_
 refine GL.vstep rfl (VStep.assertIF rfl rfl h370w (fun _=>by kernel_rfl)) rfl (GL.force [0,1,2,6,7,21,50,51,52,53,54,55,90,91,92] rfl ?_)
 refine lF [0,1,2,6,7,8,9,50,51,52,53,54,55,90,91,92] (GK.code ?_)
 refine rS [0,1,2,6,7,8,24,50,51,52,53,54,55,90,91,92] ?_
 refine GC.condF rfl (GC.skip (GK.code (GC.seq (GL.seqR ?_))))
 refine lK 1 [0,1,2,6,7,31,50,51,52,53,54,55,90,91,92] ?_
 refine GL.vstep rfl (VStep.assertIF rfl rfl h285r (fun _=>by kernel_rfl)) rfl (GL.force [0,1,2,6,7,32,50,51,52,53,54,55,90,91,92] rfl ?_)
 refine lF [0,1,2,6,7,10,11,50,51,52,53,54,55,90,91,92] (GK.code ?_)
 refine rS [0,1,2,6,7,10,35,50,51,52,53,54,55,90,91,92] ?_
 refine GC.condF rfl (GC.skip (GK.code (GC.seq (GL.seqR ?_))))
 refine lK 1 [0,1,2,6,7,41,50,51,52,53,54,55,90,91,92] ?_
 refine GL.vstep rfl (VStep.eqNilS rfl (.inl rfl) rfl rfl (by decide)) rfl (GL.force [0,1,2,6,7,42,50,51,52,53,54,55,90,91,92] rfl ?_)
 refine lF [0,1,2,6,7,42,50,51,52,53,54,55,90,91,92] (GK.code ?_)
 refine GC.condF rfl (GC.skip (GK.code (GC.seq (GC.block ?_))))
 refine GC.force [0,1,2,6,7] rfl ?_
 refine GC.loop (ι:=SV0 × Bool × LS × Nat × (Nat → Int) × (ShI) × Int × Int × Int × Int) (fun z=>cbHI dl n0 B S T N pe L z.1 z.2.1 z.2.2.1 z.2.2.2.1 z.2.2.2.2.2.1) (fun z=>L - z.2.2.2.1) (fun z=>⟨[(0,.ifc 285 (.ptr 18 0)),(1,.ifc 370 (.ptr 11 0)),(2,.slc 17 0 16384 16384),(6,.v (.int .i64 (z.2.2.2.1 : Nat))),(7,.v .nilIface)],cbH be B rn N cap st L  z.2.2.2.2.1 (zrR .nilIface z.2.2.2.2.2.2.1 z.2.2.2.2.2.2.2.1 z.2.2.2.2.2.2.2.2.1 z.2.2.2.2.2.2.2.2.2) (ad T z.2.2.2.1) z.1 z.2.1 z.2.2.1 z.2.2.2.1 z.2.2.2.2.2.1,24,[]⟩) (v,false,.a,0,E0,w0,a,b,c,dd) ⟨hi,h,Nat.zero_le _,hw0⟩ rfl ?_
 clear hi h hw0
 rintro ⟨v,eof,i,e,E,w,qa,qb,qc,qd⟩ ⟨hi,hs,hel,hW⟩
 dsimp only at hi hs hel hW
 have hi0:=hi
 rcases i with _ | ⟨o0,l0,c0⟩ <;> rcases eof with _ | _
 rotate_left
 ·exact absurd hi.1 (by decide)
 all_goals
  dsimp only [cbH,zcV,srG,List.cons_append,List.nil_append]
  refine GC.force [0,1,2,6,7] rfl ?_
  refine GC.block (GL.seqR ?_)
  refine lK 2 [0,1,2,6,7,69,70,90,91,92] ?_
  refine GL.op rfl (OpW.invokeR rfl rfl (m370r) (f307 _ dl be hE B S T E rn N cap pe L e 0 16384 16384 16384 5 X d st hpe v _ _ hi0 hs (by decide) (by decide) (by decide) (by decide) hT hX hX2 h0 h1 h2 h3 qa qb qc qd) [0,1,2,3,4,5,6,7,8,9,10,11,12,13,14,15,16,17,22] rfl rfl rfl rfl ?_)
  intro y hy
  obtain ⟨⟨n,E2,w2,eof2,o2,l2,c2,er⟩,ya,yb,yc,yd⟩:=y
  obtain ⟨hn,hEE,hs2,her⟩:=hy
  dsimp only at hn hEE hs2 her
  rcases her with ⟨rfl,hn0,hle2,hl2⟩ | ⟨rfl,rfl,hle2,hp2⟩
  rcases eof2 with _ | _
  ·intro ρ' hp
   obtain rfl:=Option.some.inj hp; clear hp
   refine gF [0,1,2,6,7,71,90,91,92] rfl ?_
   refine lF [0,1,2,6,7,15,16,90,91,92] (GK.code ?_)
   refine GC.seq ?_
   refine rS [0,1,2,6,7,15,16,75,90,91,92] ?_
   refine GC.cond rfl (fun hp=>?_) (fun hp=>?_)
   ·have hp : (0 : Int) < n:=by simpa using hp
    refine GC.seq (GC.draw [(0,0),(1,0),(2,0),(3,0),(4,0),(5,0),(6,0),(7,2),(8,0),(9,0),(10,0),(11,0),(12,0)] mixed (by kernel_rfl) (by rintro _ _ _ _ ⟨_,_,_,_,h,_⟩ _; cases h) ?_)
    refine wK 5 [0,1,2,6,7,15,16,77,80,81,90,91,92] ?_
    refine GW.vstep rfl rfl (VStep.nilM rfl rfl (fun b w=>by kernel_rfl)) rfl (GW.force [0,1,2,6,7,15,16,77,80,90,91,92] rfl ?_)
    refine wK 1 [0,1,2,6,7,15,16,80,83,90,91,92] ?_
    refine GW.op rfl rfl (iR rfl rfl (m285w) (f296h _ _ (n0 + e) _ n _ 16384 L e w hW (by show offS 16384 0 0 1 + n ≤ 16384; rw [offS_zero]; omega) (by omega) (by omega) (by omega) hL) [18,19,20,21,17,23] rfl rfl rfl rfl fun i2 hW2=>?_)
    refine wL [0,1,2,6,7,15,16,84,90,91,92] rfl ?_
    refine wF [0,1,2,6,7,15,16,17,18,90,91,92] (GK.code ?_)
    refine GC.seq (GL.seqR ?_)
    refine lK 3 [0,1,2,6,7,15,16,17,18,89,90,91,92] ?_
    refine GL.spl 89 rfl rfl rfl (fun hneg=>?_) (fun hneg=>?_)
    ·have hneg : (n : Int) < 0:=by simpa using hneg
     omega
    ·have hneg : ¬ ((n : Int) < 0):=by simpa using hneg
     refine lF [0,1,2,6,7,15,16,17,18,90,91,92,93] (GK.code ?_)
     refine GC.cond rfl (fun hbig=>?_) (fun hbig=>?_)
     ·have hbig : (n : Int) < n:=by simpa using hbig
      omega
     ·have hbig : ¬ ((n : Int) < n):=by simpa using hbig
      refine GC.skip (GK.code ?_)
      refine rS [0,1,2,6,7,15,16,17,18,90,91,92] ?_
      refine GC.seq ?_
      refine rS [0,1,2,6,7,15,16,17,18,90,91,92,101] ?_
      refine GC.condF rfl (GC.skip (GK.code ?_))
      refine rS [0,1,2,6,7,16,90,91,92,105] ?_
      refine GC.cond rfl (fun hne=>?_) (fun hne=>?_)
      ·have hne : ¬ (n : Int) = n:=by simpa using hne
       exact absurd rfl hne
      ·have hne : ¬ (¬ (n : Int) = n):=by simpa using hne
       refine GC.skip (GK.code ?_)
       refine rS [0,1,2,6,7,16,90,91,92,108] ?_
       refine GC.condF rfl (GC.skip ?_)
       refine GK.back ((w2,false,.b o2 l2 c2,e + n,E2,i2,ya,yb,yc,yd)) [0,1,2,3,4,5,6,7,8,9,10,11,12,13,14,15,16,17,18,19,20,21,22,23] ?_ ?_ (Ent.R rfl rfl rfl rfl)
       ·exact ⟨hl2,hs2,hle2,by rw [Nat.add_assoc] at hW2; exact hW2⟩
       ·dsimp only; omega
   ·have hp : ¬ ((0 : Int) < n):=by simpa using hp
    omega
  ·intro ρ' hp
   obtain rfl:=Option.some.inj hp; clear hp
   refine gF [0,1,2,6,7,71,90,91,92] rfl ?_
   refine lF [0,1,2,6,7,15,16,90,91,92] (GK.code ?_)
   refine GC.seq ?_
   refine rS [0,1,2,6,7,15,16,75,90,91,92] ?_
   refine GC.cond rfl (fun hp=>?_) (fun hp=>?_)
   ·have hp : (0 : Int) < n:=by simpa using hp
    refine GC.seq (GC.draw [(0,0),(1,0),(2,0),(3,0),(4,0),(5,0),(6,0),(7,2),(8,0),(9,0),(10,0),(11,0),(12,0)] mixed (by kernel_rfl) (by rintro _ _ _ _ ⟨_,_,_,_,h,_⟩ _; cases h) ?_)
    refine wK 5 [0,1,2,6,7,15,16,77,80,81,90,91,92] ?_
    refine GW.vstep rfl rfl (VStep.nilM rfl rfl (fun b w=>by kernel_rfl)) rfl (GW.force [0,1,2,6,7,15,16,77,80,90,91,92] rfl ?_)
    refine wK 1 [0,1,2,6,7,15,16,80,83,90,91,92] ?_
    refine GW.op rfl rfl (iR rfl rfl (m285w) (f296h _ _ (n0 + e) _ n _ 16384 L e w hW (by show offS 16384 0 0 1 + n ≤ 16384; rw [offS_zero]; omega) (by omega) (by omega) (by omega) hL) [18,19,20,21,17,23] rfl rfl rfl rfl fun i2 hW2=>?_)
    refine wL [0,1,2,6,7,15,16,84,90,91,92] rfl ?_
    refine wF [0,1,2,6,7,15,16,17,18,90,91,92] (GK.code ?_)
    refine GC.seq (GL.seqR ?_)
    refine lK 3 [0,1,2,6,7,15,16,17,18,89,90,91,92] ?_
    refine GL.spl 89 rfl rfl rfl (fun hneg=>?_) (fun hneg=>?_)
    ·have hneg : (n : Int) < 0:=by simpa using hneg
     omega
    ·have hneg : ¬ ((n : Int) < 0):=by simpa using hneg
     refine lF [0,1,2,6,7,15,16,17,18,90,91,92,93] (GK.code ?_)
     refine GC.cond rfl (fun hbig=>?_) (fun hbig=>?_)
     ·have hbig : (n : Int) < n:=by simpa using hbig
      omega
     ·have hbig : ¬ ((n : Int) < n):=by simpa using hbig
      refine GC.skip (GK.code ?_)
      refine rS [0,1,2,6,7,15,16,17,18,90,91,92] ?_
      refine GC.seq ?_
      refine rS [0,1,2,6,7,15,16,17,18,90,91,92,101] ?_
      refine GC.condF rfl (GC.skip (GK.code ?_))
      refine rS [0,1,2,6,7,16,90,91,92,105] ?_
      refine GC.cond rfl (fun hne=>?_) (fun hne=>?_)
      ·have hne : ¬ (n : Int) = n:=by simpa using hne
       exact absurd rfl hne
      ·have hne : ¬ (¬ (n : Int) = n):=by simpa using hne
       refine GC.skip (GK.code ?_)
       refine rS [0,1,2,6,7,16,90,91,92,108] ?_
       refine GC.condF rfl (GC.skip ?_)
       refine GK.back ((w2,true,.b o2 l2 c2,e + n,E2,i2,ya,yb,yc,yd)) [0,1,2,3,4,5,6,7,8,9,10,11,12,13,14,15,16,17,18,19,20,21,22,23] ?_ ?_ (Ent.R rfl rfl rfl rfl)
       ·exact ⟨hl2,hs2,hle2,by rw [Nat.add_assoc] at hW2; exact hW2⟩
       ·dsimp only; omega
   ·have hp : ¬ ((0 : Int) < n):=by simpa using hp
    omega
  ·intro ρ' hp
   obtain rfl:=Option.some.inj hp; clear hp
   refine gF [0,1,2,6,7,71,90,91,92] rfl ?_
   refine lF [0,1,2,6,7,15,16,90,91,92] (GK.code ?_)
   refine GC.seq ?_
   refine rS [0,1,2,6,7,15,16,75,90,91,92] ?_
   refine GC.cond rfl (fun hp=>?_) (fun hp=>?_)
   ·have hp : (0 : Int) < n:=by simpa using hp
    refine GC.seq (GC.draw [(0,0),(1,0),(2,0),(3,0),(4,0),(5,0),(6,0),(7,2),(8,0),(9,0),(10,0),(11,0),(12,0)] mixed (by kernel_rfl) (by rintro _ _ _ _ ⟨_,_,_,_,h,_⟩ _; cases h) ?_)
    refine wK 5 [0,1,2,6,7,15,16,77,80,81,90,91,92] ?_
    refine GW.vstep rfl rfl (VStep.nilM rfl rfl (fun b w=>by kernel_rfl)) rfl (GW.force [0,1,2,6,7,15,16,77,80,90,91,92] rfl ?_)
    refine wK 1 [0,1,2,6,7,15,16,80,83,90,91,92] ?_
    refine GW.op rfl rfl (iR rfl rfl (m285w) (f296h _ _ (n0 + e) _ n _ 16384 L e w hW (by show offS 16384 0 0 1 + n ≤ 16384; rw [offS_zero]; omega) (by omega) (by omega) (by omega) hL) [18,19,20,21,17,23] rfl rfl rfl rfl fun i2 hW2=>?_)
    refine wL [0,1,2,6,7,15,16,84,90,91,92] rfl ?_
    refine wF [0,1,2,6,7,15,16,17,18,90,91,92] (GK.code ?_)
    refine GC.seq (GL.seqR ?_)
    refine lK 3 [0,1,2,6,7,15,16,17,18,89,90,91,92] ?_
    refine GL.spl 89 rfl rfl rfl (fun hneg=>?_) (fun hneg=>?_)
    ·have hneg : (n : Int) < 0:=by simpa using hneg
     omega
    ·have hneg : ¬ ((n : Int) < 0):=by simpa using hneg
     refine lF [0,1,2,6,7,15,16,17,18,90,91,92,93] (GK.code ?_)
     refine GC.cond rfl (fun hbig=>?_) (fun hbig=>?_)
     ·have hbig : (n : Int) < n:=by simpa using hbig
      omega
     ·have hbig : ¬ ((n : Int) < n):=by simpa using hbig
      refine GC.skip (GK.code ?_)
      refine rS [0,1,2,6,7,15,16,17,18,90,91,92] ?_
      refine GC.seq ?_
      refine rS [0,1,2,6,7,15,16,17,18,90,91,92,101] ?_
      refine GC.condF rfl (GC.skip (GK.code ?_))
      refine rS [0,1,2,6,7,16,90,91,92,105] ?_
      refine GC.cond rfl (fun hne=>?_) (fun hne=>?_)
      ·have hne : ¬ (n : Int) = n:=by simpa using hne
       exact absurd rfl hne
      ·have hne : ¬ (¬ (n : Int) = n):=by simpa using hne
       refine GC.skip (GK.code ?_)
       refine rS [0,1,2,6,7,16,90,91,92,108] ?_
       refine GC.condT rfl ?_
       obtain rfl : L = e + n:=by omega
       refine GC.seq (GL.seqR ?_)
       refine lK 1 [6,7,16,109] ?_
       refine GL.op rfl (OpW.lstep (LStep.mu (v:=EOFv be) rfl rfl rfl rfl hE) rfl (gF [6,7,16,109,110] rfl ?_))
       refine GL.vstep rfl (VStep.eqI (r:=true) rfl (.inr rfl) rfl (fun β u v h1 h2=>by cases h1; cases h2; exact .pe be.1 be.2 rfl rfl rfl rfl)) rfl (GL.force [6,7,16,111] rfl ?_)
       refine lF [6,7,16,111] (GK.code ?_)
       refine GC.condF rfl (GC.skip (GK.code ?_))
       refine GC.exit ?_
       refine GK.code ?_
       refine rS [6,7] ?_
       refine GC.ret ?_
       refine fR (.inl rfl) rfl (by trivial) ((⟨⟨n,E2,w2,true,o2,l2,c2,EOFv be⟩,ya,yb,yc,yd⟩,i2)) [0,1,2,3,4,5,6,7,8,9,10,11,12,13,14,15,16,17,18,19,20,21,22,23] rfl rfl rfl rfl (⟨rfl,hp2,hs2,by rw [Nat.add_assoc] at hW2; exact hW2⟩)
   ·have hp : ¬ ((0 : Int) < n):=by simpa using hp
    obtain rfl : n = 0:=by omega
    obtain rfl : L = e:=by omega
    refine GC.skip (GK.code ?_)
    refine rS [0,1,2,6,7,16,90,91,92,108] ?_
    refine GC.condT rfl (GC.seq (GL.seqR ?_))
    refine lK 1 [6,7,16,109] ?_
    refine GL.op rfl (OpW.lstep (LStep.mu (v:=EOFv be) rfl rfl rfl rfl hE) rfl (gF [6,7,16,109,110] rfl ?_))
    refine GL.vstep rfl (VStep.eqI (r:=true) rfl (.inr rfl) rfl (fun β u v h1 h2=>by cases h1; cases h2; exact .pe be.1 be.2 rfl rfl rfl rfl)) rfl (GL.force [6,7,16,111] rfl ?_)
    refine lF [6,7,16,111] (GK.code ?_)
    refine GC.condF rfl (GC.skip (GK.code ?_))
    refine GC.exit ?_
    refine GK.code ?_
    refine rS [6,7] ?_
    refine GC.ret ?_
    refine fR (.inl rfl) rfl (by trivial) ((⟨⟨0,E2,w2,true,o2,l2,c2,EOFv be⟩,ya,yb,yc,yd⟩,w)) [0,1,2,3,4,5,6,7,8,9,10,11,12,13,14,15,16,17,18,19,20,21,22,23] rfl rfl rfl rfl (⟨rfl,hp2,hs2,hW⟩)
theorem f147b (μ) (E : Nat → Int) : Fun Tryz.prog μ 147 [.ptr 0 0] [(0,.row ⟨.lst [.slc 1 0 16384 16384],1,25⟩),(1,.row ⟨.ints .u8 E,16384,5⟩)] 2 (fun _ : Unit=>True) (fun _=>⟨.tup [],[(0,.row ⟨.lst [.slc 1 0 16384 16384],1,25⟩),(1,.row ⟨.ints .u8 E,16384,5⟩)],2⟩):=by
 refine fE 2 Tryz.func147 fun zw zβ=>?_
 refine cF [0] ?_
 refine GC.skip ?_
 refine fR (.inr rfl) rfl (by trivial) () [0,1] rfl rfl rfl rfl (trivial)
theorem f120 (μ) (be : Nat × Nat) (hE : muAt μ 0 0 = some (EOFv be)) (B : Nat → Int) (rn N cap : Nat) (st x : Int) (v : SV0) (o l c : Nat) (za zb zc zd : Int) :
  FunD Tryz.prog μ 120 [.ifc 370 (.ptr 11 0),.ptr 18 0] (zcV be B rn N cap 17 st (zrR (EOFv be) za zb zc zd) x v true (.b o l c) ++ [(18,.row ⟨.lst [.v .nilIface],1,66⟩)]) 19 19 (fun _ : Unit=>True)
  (fun _=>⟨.tup [],zcV be B rn N cap 17 st (zrR .nilIface za zb zc zd) x v true (.b o l c) ++ [(18,.row ⟨.lst [.v .nilIface],1,66⟩)],19⟩):=by
 dsimp only [zcV,srG,List.cons_append,List.nil_append]
 refine FunD.enter (T:=tab) (ok:=tabOK) (n:=18) Tryz.func120 rfl rfl rfl rfl fun zw zβ=>?_
 refine cF [0,1,10,11,12,13] ?_
 refine GL.seqR ?_
 refine lK 1 [1,5,10,11,12,13] ?_
 refine GL.op rfl (iR rfl rfl (m370c) (f306e _ be hE B rn N cap st x v o l c za zb zc zd) [0,1,2,3,4,5,6,7,8,9,10,11,12,13,14,15,16,17] rfl rfl rfl rfl fun _ _=>?_)
 refine gF [1,6,10,11,12,13] rfl ?_
 refine lF [1,4,10,11,12,13] (GK.code ?_)
 refine rS [1,4,14] ?_
 refine GC.condF rfl (GC.skip ?_)
 refine fR (.inr rfl) rfl (by trivial) () [0,1,2,3,4,5,6,7,8,9,10,11,12,13,14,15,16,17,18] rfl rfl rfl rfl (trivial)
theorem f144 (μ) (be : Nat × Nat) (hE : muAt μ 0 0 = some (EOFv be)) (B : Nat → Int) (rn N cap : Nat) (st x : Int) (v : SV0) (o l c : Nat) (za zb zc zd : Int) :
  FunD Tryz.prog μ 144 [.agg [.ifc 370 (.ptr 11 0)]] (zcV be B rn N cap 17 st (zrR .nilIface za zb zc zd) x v true (.b o l c)) 18 18 (fun _ : Unit=>True)
  (fun _=>⟨.tup [],zcV be B rn N cap 17 st (zrR .nilIface za zb zc zd) x v true (.b o l c),18⟩):=by
 dsimp only [zcV,srG,List.cons_append,List.nil_append]
 refine FunD.enter (T:=tab) (ok:=tabOK) (n:=8) Tryz.func144 rfl rfl rfl rfl fun zw zβ=>?_
 refine cF [0] ?_
 refine rS [1] ?_
 refine rS [1,4] ?_
 refine GC.condT rfl (GC.region ?_)
 refine lK 2 [6] ?_
 refine GL.op rfl (iR rfl rfl (m370c) (f306n _ be hE B rn N cap st x v o l c za zb zc zd) [0,1,2,3,4,5,6,7,8,9,10,11,12,13,14,15,16,17] rfl rfl rfl rfl fun _ _=>?_)
 refine gF [] rfl ?_
 refine lF [] ?_
 refine fR (.inr rfl) rfl (by trivial) () [0,1,2,3,4,5,6,7,8,9,10,11,12,13,14,15,16,17] rfl rfl rfl rfl (trivial)
structure Zs (B T : Nat → Int) (N p L pe : Nat) : Prop where
 h0 : B p = 120
 h1 : B (p + 1) = 1
 hb : Blk B T (p + 2) 0 pe L
 hp : pe + 4 ≤ N
 hT : ∀ j,j < L → 0 ≤ T j ∧ T j < 256
 hL : L < 1099511627776
 hX : ∃ X : Nat,ad T L = (X : Int) ∧ X < 4294967296 ∧ B pe = ((X / 16777216 : Nat) : Int) ∧ B (pe + 1) = ((X / 65536 % 256 : Nat) : Int) ∧ B (pe + 2) = ((X / 256 % 256 : Nat) : Int) ∧ B (pe + 3) = ((X % 256 : Nat) : Int)
theorem Zs.ini {B T : Nat → Int} {N p L pe : Nat} (z : Zs B T N p L pe) (D : Nat → Int) (s : RdI) (t : WI) (ps : Nat) : lsI B T pe L 0 ⟨D,s,t,p + 2,ps,0,0,false,0,0,0,0,203,false,0,0⟩ false .a:=by
 have:=z.hb.le
 exact ⟨rfl,fun o ho=>⟨Nat.le_refl _,by dsimp only; omega,fun j hj=>absurd hj (Nat.not_lt_zero _),fun j hj=>absurd hj (Nat.not_lt_zero _),ho,Nat.zero_le _,by dsimp only; omega,.blk z.hb,fun h=>by cases h⟩⟩
end Go.Proofs.YtebadfmnmhmfeaaGreatDoor.T
