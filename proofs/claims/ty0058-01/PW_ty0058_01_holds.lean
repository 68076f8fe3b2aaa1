import PyProof.Rows.All
import Wide.All
import OpenK.AllK
import Wide.FinOn
import Lean
import PySem.Challenge.RW_ty0058_01
set_option Elab.async false
set_option compiler.extract_closed false
set_option hygiene false
section
open PySem PySem.W PyProof.Rows
set_option maxRecDepth 100000
set_option maxHeartbeats 8000000
namespace Mine
abbrev pw : Program := PySem.Challenge.pw_ty0058_01
noncomputable def topSt (i : Nat) : Stmt := pw.main.body.getD i (.Pass ⟨0, 0, 0, 0⟩)
noncomputable def mthSt (i : Nat) : Stmt := match topSt 7 with
  | .ClassDef _ _ _ b _ _ _ _ _ _ _ => b.getD i (.Pass ⟨0, 0, 0, 0⟩)
  | s => s
noncomputable def aP : Stmt → Arguments
  | .FunctionDef _ a _ _ _ _ _ _ _ _ => a
  | _ => ⟨[], [], none, [], [], none, []⟩
noncomputable def aB : Stmt → List Stmt
  | .FunctionDef _ _ b _ _ _ _ _ _ _ => b
  | _ => []
noncomputable def aS : Stmt → Scope
  | .FunctionDef _ _ _ _ _ _ s _ _ _ => s
  | _ => { kind := .module, names := [], isGenerator := false, isCoroutine := false }
noncomputable def initP : { x : Arguments // aP (mthSt 0) = x } := by apply Subtype.mk; (conv => lhs; whnf)
noncomputable def initB : { x : List Stmt // aB (mthSt 0) = x } := by apply Subtype.mk; (conv => lhs; whnf)
noncomputable def initS : { x : Scope // aS (mthSt 0) = x } := by apply Subtype.mk; (conv => lhs; whnf)
noncomputable def convP : { x : Arguments // aP (mthSt 1) = x } := by apply Subtype.mk; (conv => lhs; whnf)
noncomputable def convB : { x : List Stmt // aB (mthSt 1) = x } := by apply Subtype.mk; (conv => lhs; whnf)
noncomputable def convS : { x : Scope // aS (mthSt 1) = x } := by apply Subtype.mk; (conv => lhs; whnf)
noncomputable def lenP : { x : Arguments // aP (mthSt 2) = x } := by apply Subtype.mk; (conv => lhs; whnf)
noncomputable def lenB : { x : List Stmt // aB (mthSt 2) = x } := by apply Subtype.mk; (conv => lhs; whnf)
noncomputable def lenS : { x : Scope // aS (mthSt 2) = x } := by apply Subtype.mk; (conv => lhs; whnf)
noncomputable def hasP : { x : Arguments // aP (mthSt 6) = x } := by apply Subtype.mk; (conv => lhs; whnf)
noncomputable def hasB : { x : List Stmt // aB (mthSt 6) = x } := by apply Subtype.mk; (conv => lhs; whnf)
noncomputable def hasS : { x : Scope // aS (mthSt 6) = x } := by apply Subtype.mk; (conv => lhs; whnf)
noncomputable def getallP : { x : Arguments // aP (mthSt 7) = x } := by apply Subtype.mk; (conv => lhs; whnf)
noncomputable def getallB : { x : List Stmt // aB (mthSt 7) = x } := by apply Subtype.mk; (conv => lhs; whnf)
noncomputable def getallS : { x : Scope // aS (mthSt 7) = x } := by apply Subtype.mk; (conv => lhs; whnf)
noncomputable def getP : { x : Arguments // aP (mthSt 8) = x } := by apply Subtype.mk; (conv => lhs; whnf)
noncomputable def getB : { x : List Stmt // aB (mthSt 8) = x } := by apply Subtype.mk; (conv => lhs; whnf)
noncomputable def getS : { x : Scope // aS (mthSt 8) = x } := by apply Subtype.mk; (conv => lhs; whnf)
noncomputable def itemsP : { x : Arguments // aP (mthSt 11) = x } := by apply Subtype.mk; (conv => lhs; whnf)
noncomputable def itemsB : { x : List Stmt // aB (mthSt 11) = x } := by apply Subtype.mk; (conv => lhs; whnf)
noncomputable def itemsS : { x : Scope // aS (mthSt 11) = x } := by apply Subtype.mk; (conv => lhs; whnf)
noncomputable def addhP : { x : Arguments // aP (mthSt 16) = x } := by apply Subtype.mk; (conv => lhs; whnf)
noncomputable def addhB : { x : List Stmt // aB (mthSt 16) = x } := by apply Subtype.mk; (conv => lhs; whnf)
noncomputable def addhS : { x : Scope // aS (mthSt 16) = x } := by apply Subtype.mk; (conv => lhs; whnf)
noncomputable def hlsP : { x : Arguments // aP (topSt 12) = x } := by apply Subtype.mk; (conv => lhs; whnf)
noncomputable def hlsB : { x : List Stmt // aB (topSt 12) = x } := by apply Subtype.mk; (conv => lhs; whnf)
noncomputable def hlsS : { x : Scope // aS (topSt 12) = x } := by apply Subtype.mk; (conv => lhs; whnf)
noncomputable def rgbLP : { x : Arguments // aP (topSt 13) = x } := by apply Subtype.mk; (conv => lhs; whnf)
noncomputable def rgbLB : { x : List Stmt // aB (topSt 13) = x } := by apply Subtype.mk; (conv => lhs; whnf)
noncomputable def rgbLS : { x : Scope // aS (topSt 13) = x } := by apply Subtype.mk; (conv => lhs; whnf)
noncomputable def vvP : { x : Arguments // aP (topSt 14) = x } := by apply Subtype.mk; (conv => lhs; whnf)
noncomputable def vvB : { x : List Stmt // aB (topSt 14) = x } := by apply Subtype.mk; (conv => lhs; whnf)
noncomputable def vvS : { x : Scope // aS (topSt 14) = x } := by apply Subtype.mk; (conv => lhs; whnf)
noncomputable def hsvP : { x : Arguments // aP (topSt 15) = x } := by apply Subtype.mk; (conv => lhs; whnf)
noncomputable def hsvB : { x : List Stmt // aB (topSt 15) = x } := by apply Subtype.mk; (conv => lhs; whnf)
noncomputable def hsvS : { x : Scope // aS (topSt 15) = x } := by apply Subtype.mk; (conv => lhs; whnf)
noncomputable def rgbVP : { x : Arguments // aP (topSt 16) = x } := by apply Subtype.mk; (conv => lhs; whnf)
noncomputable def rgbVB : { x : List Stmt // aB (topSt 16) = x } := by apply Subtype.mk; (conv => lhs; whnf)
noncomputable def rgbVS : { x : Scope // aS (topSt 16) = x } := by apply Subtype.mk; (conv => lhs; whnf)
noncomputable def addP : { x : Arguments // aP (topSt 18) = x } := by apply Subtype.mk; (conv => lhs; whnf)
noncomputable def addB : { x : List Stmt // aB (topSt 18) = x } := by apply Subtype.mk; (conv => lhs; whnf)
noncomputable def addS : { x : Scope // aS (topSt 18) = x } := by apply Subtype.mk; (conv => lhs; whnf)
noncomputable def andP : { x : Arguments // aP (topSt 19) = x } := by apply Subtype.mk; (conv => lhs; whnf)
noncomputable def andB : { x : List Stmt // aB (topSt 19) = x } := by apply Subtype.mk; (conv => lhs; whnf)
noncomputable def andS : { x : Scope // aS (topSt 19) = x } := by apply Subtype.mk; (conv => lhs; whnf)
noncomputable def lshP : { x : Arguments // aP (topSt 20) = x } := by apply Subtype.mk; (conv => lhs; whnf)
noncomputable def lshB : { x : List Stmt // aB (topSt 20) = x } := by apply Subtype.mk; (conv => lhs; whnf)
noncomputable def lshS : { x : Scope // aS (topSt 20) = x } := by apply Subtype.mk; (conv => lhs; whnf)
noncomputable def modP : { x : Arguments // aP (topSt 21) = x } := by apply Subtype.mk; (conv => lhs; whnf)
noncomputable def modB : { x : List Stmt // aB (topSt 21) = x } := by apply Subtype.mk; (conv => lhs; whnf)
noncomputable def modS : { x : Scope // aS (topSt 21) = x } := by apply Subtype.mk; (conv => lhs; whnf)
noncomputable def mulP : { x : Arguments // aP (topSt 22) = x } := by apply Subtype.mk; (conv => lhs; whnf)
noncomputable def mulB : { x : List Stmt // aB (topSt 22) = x } := by apply Subtype.mk; (conv => lhs; whnf)
noncomputable def mulS : { x : Scope // aS (topSt 22) = x } := by apply Subtype.mk; (conv => lhs; whnf)
noncomputable def orP : { x : Arguments // aP (topSt 23) = x } := by apply Subtype.mk; (conv => lhs; whnf)
noncomputable def orB : { x : List Stmt // aB (topSt 23) = x } := by apply Subtype.mk; (conv => lhs; whnf)
noncomputable def orS : { x : Scope // aS (topSt 23) = x } := by apply Subtype.mk; (conv => lhs; whnf)
noncomputable def rshP : { x : Arguments // aP (topSt 24) = x } := by apply Subtype.mk; (conv => lhs; whnf)
noncomputable def rshB : { x : List Stmt // aB (topSt 24) = x } := by apply Subtype.mk; (conv => lhs; whnf)
noncomputable def rshS : { x : Scope // aS (topSt 24) = x } := by apply Subtype.mk; (conv => lhs; whnf)
noncomputable def divP : { x : Arguments // aP (topSt 25) = x } := by apply Subtype.mk; (conv => lhs; whnf)
noncomputable def divB : { x : List Stmt // aB (topSt 25) = x } := by apply Subtype.mk; (conv => lhs; whnf)
noncomputable def divS : { x : Scope // aS (topSt 25) = x } := by apply Subtype.mk; (conv => lhs; whnf)
noncomputable def contP : { x : Arguments // aP (topSt 26) = x } := by apply Subtype.mk; (conv => lhs; whnf)
noncomputable def contB : { x : List Stmt // aB (topSt 26) = x } := by apply Subtype.mk; (conv => lhs; whnf)
noncomputable def contS : { x : Scope // aS (topSt 26) = x } := by apply Subtype.mk; (conv => lhs; whnf)
noncomputable def lhintP : { x : Arguments // aP (topSt 27) = x } := by apply Subtype.mk; (conv => lhs; whnf)
noncomputable def lhintB : { x : List Stmt // aB (topSt 27) = x } := by apply Subtype.mk; (conv => lhs; whnf)
noncomputable def lhintS : { x : Scope // aS (topSt 27) = x } := by apply Subtype.mk; (conv => lhs; whnf)
noncomputable def numP : { x : Arguments // aP (topSt 29) = x } := by apply Subtype.mk; (conv => lhs; whnf)
noncomputable def numB : { x : List Stmt // aB (topSt 29) = x } := by apply Subtype.mk; (conv => lhs; whnf)
noncomputable def numS : { x : Scope // aS (topSt 29) = x } := by apply Subtype.mk; (conv => lhs; whnf)
noncomputable def huesP : { x : Arguments // aP (topSt 30) = x } := by apply Subtype.mk; (conv => lhs; whnf)
noncomputable def huesB : { x : List Stmt // aB (topSt 30) = x } := by apply Subtype.mk; (conv => lhs; whnf)
noncomputable def huesS : { x : Scope // aS (topSt 30) = x } := by apply Subtype.mk; (conv => lhs; whnf)
noncomputable def partsP : { x : Arguments // aP (topSt 31) = x } := by apply Subtype.mk; (conv => lhs; whnf)
noncomputable def partsB : { x : List Stmt // aB (topSt 31) = x } := by apply Subtype.mk; (conv => lhs; whnf)
noncomputable def partsS : { x : Scope // aS (topSt 31) = x } := by apply Subtype.mk; (conv => lhs; whnf)
noncomputable def turnedP : { x : Arguments // aP (topSt 32) = x } := by apply Subtype.mk; (conv => lhs; whnf)
noncomputable def turnedB : { x : List Stmt // aB (topSt 32) = x } := by apply Subtype.mk; (conv => lhs; whnf)
noncomputable def turnedS : { x : Scope // aS (topSt 32) = x } := by apply Subtype.mk; (conv => lhs; whnf)
noncomputable def toldP : { x : Arguments // aP (topSt 33) = x } := by apply Subtype.mk; (conv => lhs; whnf)
noncomputable def toldB : { x : List Stmt // aB (topSt 33) = x } := by apply Subtype.mk; (conv => lhs; whnf)
noncomputable def toldS : { x : Scope // aS (topSt 33) = x } := by apply Subtype.mk; (conv => lhs; whnf)
noncomputable def filledP : { x : Arguments // aP (topSt 34) = x } := by apply Subtype.mk; (conv => lhs; whnf)
noncomputable def filledB : { x : List Stmt // aB (topSt 34) = x } := by apply Subtype.mk; (conv => lhs; whnf)
noncomputable def filledS : { x : Scope // aS (topSt 34) = x } := by apply Subtype.mk; (conv => lhs; whnf)
noncomputable def lawP : { x : Arguments // aP (topSt 35) = x } := by apply Subtype.mk; (conv => lhs; whnf)
noncomputable def lawB : { x : List Stmt // aB (topSt 35) = x } := by apply Subtype.mk; (conv => lhs; whnf)
noncomputable def lawS : { x : Scope // aS (topSt 35) = x } := by apply Subtype.mk; (conv => lhs; whnf)
noncomputable def o3 (P : Params) : Obj := ⟨.type "dict", none, .dict [⟨PyData.keyHash P (Str.ofString "__name__"), .str (Str.ofString "__name__") 165, .str (Str.ofString "law_ty0058_01") 723⟩, ⟨PyData.keyHash P (Str.ofString "__doc__"), .str (Str.ofString "__doc__") 166, .none⟩, ⟨PyData.keyHash P (Str.ofString "__package__"), .str (Str.ofString "__package__") 167, .none⟩, ⟨PyData.keyHash P (Str.ofString "__loader__"), .str (Str.ofString "__loader__") 168, .builtin "__main__.__loader__#opaque"⟩, ⟨PyData.keyHash P (Str.ofString "__spec__"), .str (Str.ofString "__spec__") 169, .none⟩, ⟨PyData.keyHash P (Str.ofString "__annotations__"), .str (Str.ofString "__annotations__") 170, .ref 6⟩, ⟨PyData.keyHash P (Str.ofString "__builtins__"), .str (Str.ofString "__builtins__") 171, .ref 4⟩, ⟨PyData.keyHash P (Str.ofString "__file__"), .str (Str.ofString "__file__") 173, .str (Str.ofString "/claim/cut.py") 172⟩, ⟨PyData.keyHash P (Str.ofString "__cached__"), .str (Str.ofString "__cached__") 174, .none⟩, ⟨PyData.keyHash P (Str.ofString "_sre"), .str (Str.ofString "_sre") 275, .ref 12⟩, ⟨PyData.keyHash P (Str.ofString "_wall"), .str (Str.ofString "_wall") 288, .ref 38⟩, ⟨PyData.keyHash P (Str.ofString "tspecials"), .str (Str.ofString "tspecials") 324, .ref 43⟩, ⟨PyData.keyHash P (Str.ofString "_name_disallowed_re"), .str (Str.ofString "_name_disallowed_re") 350, .ref 48⟩, ⟨PyData.keyHash P (Str.ofString "_value_disallowed_re"), .str (Str.ofString "_value_disallowed_re") 384, .ref 53⟩, ⟨PyData.keyHash P (Str.ofString "_formatparam"), .str (Str.ofString "_formatparam") 394, .ref 61⟩, ⟨PyData.keyHash P (Str.ofString "Headers"), .str (Str.ofString "Headers") 551, .ref 182⟩, ⟨PyData.keyHash P (Str.ofString "ONE_THIRD"), .str (Str.ofString "ONE_THIRD") 557, .float 4599676419421066581 556⟩, ⟨PyData.keyHash P (Str.ofString "ONE_SIXTH"), .str (Str.ofString "ONE_SIXTH") 561, .float 4595172819793696085 560⟩, ⟨PyData.keyHash P (Str.ofString "TWO_THIRD"), .str (Str.ofString "TWO_THIRD") 565, .float 4604180019048437077 564⟩, ⟨PyData.keyHash P (Str.ofString "rgb_to_hls"), .str (Str.ofString "rgb_to_hls") 584, .ref 193⟩, ⟨PyData.keyHash P (Str.ofString "hls_to_rgb"), .str (Str.ofString "hls_to_rgb") 595, .ref 200⟩, ⟨PyData.keyHash P (Str.ofString "_v"), .str (Str.ofString "_v") 604, .ref 207⟩, ⟨PyData.keyHash P (Str.ofString "rgb_to_hsv"), .str (Str.ofString "rgb_to_hsv") 622, .ref 214⟩, ⟨PyData.keyHash P (Str.ofString "hsv_to_rgb"), .str (Str.ofString "hsv_to_rgb") 636, .ref 221⟩, ⟨PyData.keyHash P (Str.ofString "add"), .str (Str.ofString "add") 646, .ref 228⟩, ⟨PyData.keyHash P (Str.ofString "and_"), .str (Str.ofString "and_") 654, .ref 235⟩, ⟨PyData.keyHash P (Str.ofString "lshift"), .str (Str.ofString "lshift") 662, .ref 242⟩, ⟨PyData.keyHash P (Str.ofString "mod"), .str (Str.ofString "mod") 670, .ref 249⟩, ⟨PyData.keyHash P (Str.ofString "mul"), .str (Str.ofString "mul") 678, .ref 256⟩, ⟨PyData.keyHash P (Str.ofString "or_"), .str (Str.ofString "or_") 686, .ref 263⟩, ⟨PyData.keyHash P (Str.ofString "rshift"), .str (Str.ofString "rshift") 694, .ref 270⟩, ⟨PyData.keyHash P (Str.ofString "truediv"), .str (Str.ofString "truediv") 702, .ref 277⟩, ⟨PyData.keyHash P (Str.ofString "contains"), .str (Str.ofString "contains") 710, .ref 284⟩, ⟨PyData.keyHash P (Str.ofString "length_hint"), .str (Str.ofString "length_hint") 722, .ref 292⟩, ⟨PyData.keyHash P (Str.ofString "_law_number"), .str (Str.ofString "_law_number") 734, .ref 299⟩, ⟨PyData.keyHash P (Str.ofString "_law_hues"), .str (Str.ofString "_law_hues") 749, .ref 306⟩, ⟨PyData.keyHash P (Str.ofString "_law_parts"), .str (Str.ofString "_law_parts") 762, .ref 313⟩, ⟨PyData.keyHash P (Str.ofString "_law_turned"), .str (Str.ofString "_law_turned") 768, .ref 318⟩, ⟨PyData.keyHash P (Str.ofString "_law_told"), .str (Str.ofString "_law_told") 774, .ref 323⟩, ⟨PyData.keyHash P (Str.ofString "_law_filled"), .str (Str.ofString "_law_filled") 780, .ref 328⟩, ⟨PyData.keyHash P (Str.ofString "law"), .str (Str.ofString "law") 786, .ref 333⟩].toArray 41, #[]⟩
noncomputable def o47 : Obj := ⟨.type "tuple", none, .seq [.int (14) 0, .int (10) 0, .int (4) 0, .int (1) 0, .int (1) 0, .int (22) 0, .int (0) 0, .int (31) 0, .int (16) 0, .int (127) 0, .int (0) 0, .int (13) 0, .int (7) 0, .int (22) 0, .int (0) 0, .int (31) 0, .int (16) 0, .int (127) 0, .int (0) 0, .int (1) 0].toArray 0, #[]⟩
noncomputable def o48 : Obj := ⟨.type "re.Pattern", none, .fields [.str (Str.ofString "[\\x00-\\x1F\\x7F]") 326, .int (32) 349, .int (0) 0, .none, .none, .ref 47, .int (0) 0].toArray, #[]⟩
noncomputable def o52 : Obj := ⟨.type "tuple", none, .seq [.int (14) 0, .int (14) 0, .int (4) 0, .int (1) 0, .int (1) 0, .int (9) 0, .int (4294966783) 0, .int (0) 0, .int (0) 0, .int (2147483648) 0, .int (0) 0, .int (0) 0, .int (0) 0, .int (0) 0, .int (0) 0, .int (13) 0, .int (11) 0, .int (9) 0, .int (4294966783) 0, .int (0) 0, .int (0) 0, .int (2147483648) 0, .int (0) 0, .int (0) 0, .int (0) 0, .int (0) 0, .int (0) 0, .int (1) 0].toArray 0, #[]⟩
noncomputable def o53 : Obj := ⟨.type "re.Pattern", none, .fields [.str (Str.ofString "[\\x00-\\x08\\x0A-\\x1F\\x7F]") 352, .int (32) 383, .int (0) 0, .none, .none, .ref 52, .int (0) 0].toArray, #[]⟩
noncomputable def o69 : Obj := ⟨.type "tuple", none, .seq [.none].toArray 0, #[]⟩
noncomputable def o75 : Obj := ⟨.type "code", none, .fields [.str (Str.ofString "__init__") 407, .str (Str.ofString "Headers.__init__") 408, .str (Str.ofString "/claim/cut.py") 409, .int (20) 0, .int (2) 0, .int (0) 0, .int (0) 0, .int (3) 0, .ref 70, .bool true, .int (276) 0, .ref 71, .none, .ref 72, .ref 73, .ref 74, .int (414) 0, .int (20) 0, .str (Str.ofString "/claim/cut.py") 415].toArray, #[]⟩
noncomputable def o76 : Obj := ⟨.type "function", none, .func (fnOf (Str.ofString "__init__") (Str.ofString "Headers.__init__") initP.1 initB.1 initS.1 (.ref 69) (.none) (.none) (.str (Str.ofString "cpy313.wsgiref.headers") 289) none (.ref 75) (.none)), #[]⟩
noncomputable def o82 : Obj := ⟨.type "code", none, .fields [.str (Str.ofString "_convert_string_type") 417, .str (Str.ofString "Headers._convert_string_type") 418, .str (Str.ofString "/claim/cut.py") 419, .int (30) 0, .int (2) 0, .int (0) 0, .int (1) 0, .int (3) 0, .ref 77, .bool true, .int (276) 0, .ref 78, .none, .ref 79, .ref 80, .ref 81, .int (424) 0, .int (30) 0, .str (Str.ofString "/claim/cut.py") 425].toArray, #[]⟩
noncomputable def o83 : Obj := ⟨.type "function", none, .func (fnOf (Str.ofString "_convert_string_type") (Str.ofString "Headers._convert_string_type") convP.1 convB.1 convS.1 (.none) (.none) (.none) (.str (Str.ofString "cpy313.wsgiref.headers") 289) none (.ref 82) (.none)), #[]⟩
noncomputable def o89 : Obj := ⟨.type "code", none, .fields [.str (Str.ofString "__len__") 427, .str (Str.ofString "Headers.__len__") 428, .str (Str.ofString "/claim/cut.py") 429, .int (38) 0, .int (1) 0, .int (0) 0, .int (0) 0, .int (3) 0, .ref 84, .bool true, .int (276) 0, .ref 85, .none, .ref 86, .ref 87, .ref 88, .int (431) 0, .int (38) 0, .str (Str.ofString "/claim/cut.py") 432].toArray, #[]⟩
noncomputable def o90 : Obj := ⟨.type "function", none, .func (fnOf (Str.ofString "__len__") (Str.ofString "Headers.__len__") lenP.1 lenB.1 lenS.1 (.none) (.none) (.none) (.str (Str.ofString "cpy313.wsgiref.headers") 289) none (.ref 89) (.none)), #[]⟩
noncomputable def o115 : Obj := ⟨.type "code", none, .fields [.str (Str.ofString "__contains__") 457, .str (Str.ofString "Headers.__contains__") 458, .str (Str.ofString "/claim/cut.py") 459, .int (52) 0, .int (2) 0, .int (0) 0, .int (0) 0, .int (3) 0, .ref 110, .bool true, .int (276) 0, .ref 111, .none, .ref 112, .ref 113, .ref 114, .int (462) 0, .int (52) 0, .str (Str.ofString "/claim/cut.py") 463].toArray, #[]⟩
noncomputable def o116 : Obj := ⟨.type "function", none, .func (fnOf (Str.ofString "__contains__") (Str.ofString "Headers.__contains__") hasP.1 hasB.1 hasS.1 (.none) (.none) (.none) (.str (Str.ofString "cpy313.wsgiref.headers") 289) none (.ref 115) (.none)), #[]⟩
noncomputable def o120 : Obj := ⟨.type "code", none, .fields [.str (Str.ofString "get_all") 465, .str (Str.ofString "Headers.get_all") 466, .str (Str.ofString "/claim/cut.py") 467, .int (55) 0, .int (2) 0, .int (0) 0, .int (0) 0, .int (3) 0, .ref 117, .bool true, .int (276) 0, .ref 118, .none, .none, .none, .ref 119, .int (468) 0, .int (55) 0, .str (Str.ofString "/claim/cut.py") 469].toArray, #[]⟩
noncomputable def o121 : Obj := ⟨.type "function", none, .func (fnOf (Str.ofString "get_all") (Str.ofString "Headers.get_all") getallP.1 getallB.1 getallS.1 (.none) (.none) (.none) (.str (Str.ofString "cpy313.wsgiref.headers") 289) none (.ref 120) (.none)), #[]⟩
noncomputable def o122 : Obj := ⟨.type "tuple", none, .seq [.none].toArray 0, #[]⟩
noncomputable def o128 : Obj := ⟨.type "code", none, .fields [.str (Str.ofString "get") 471, .str (Str.ofString "Headers.get") 472, .str (Str.ofString "/claim/cut.py") 473, .int (59) 0, .int (3) 0, .int (0) 0, .int (0) 0, .int (3) 0, .ref 123, .bool true, .int (276) 0, .ref 124, .none, .ref 125, .ref 126, .ref 127, .int (479) 0, .int (59) 0, .str (Str.ofString "/claim/cut.py") 480].toArray, #[]⟩
noncomputable def o129 : Obj := ⟨.type "function", none, .func (fnOf (Str.ofString "get") (Str.ofString "Headers.get") getP.1 getB.1 getS.1 (.ref 122) (.none) (.none) (.str (Str.ofString "cpy313.wsgiref.headers") 289) none (.ref 128) (.none)), #[]⟩
noncomputable def o145 : Obj := ⟨.type "code", none, .fields [.str (Str.ofString "items") 494, .str (Str.ofString "Headers.items") 495, .str (Str.ofString "/claim/cut.py") 496, .int (72) 0, .int (1) 0, .int (0) 0, .int (0) 0, .int (3) 0, .ref 140, .bool true, .int (276) 0, .ref 141, .none, .ref 142, .ref 143, .ref 144, .int (498) 0, .int (72) 0, .str (Str.ofString "/claim/cut.py") 499].toArray, #[]⟩
noncomputable def o146 : Obj := ⟨.type "function", none, .func (fnOf (Str.ofString "items") (Str.ofString "Headers.items") itemsP.1 itemsB.1 itemsS.1 (.none) (.none) (.none) (.str (Str.ofString "cpy313.wsgiref.headers") 289) none (.ref 145) (.none)), #[]⟩
noncomputable def o178 : Obj := ⟨.type "code", none, .fields [.str (Str.ofString "add_header") 530, .str (Str.ofString "Headers.add_header") 531, .str (Str.ofString "/claim/cut.py") 532, .int (87) 0, .int (3) 0, .int (0) 0, .int (0) 0, .int (11) 0, .ref 173, .bool true, .int (276) 0, .ref 174, .none, .ref 175, .ref 176, .ref 177, .int (540) 0, .int (87) 0, .str (Str.ofString "/claim/cut.py") 541].toArray, #[]⟩
noncomputable def o179 : Obj := ⟨.type "function", none, .func (fnOf (Str.ofString "add_header") (Str.ofString "Headers.add_header") addhP.1 addhB.1 addhS.1 (.none) (.none) (.none) (.str (Str.ofString "cpy313.wsgiref.headers") 289) none (.ref 178) (.none)), #[]⟩
noncomputable def o181 (P : Params) : Obj := ⟨.type "dict", none, .dict [⟨PyData.keyHash P (Str.ofString "__module__"), .str (Str.ofString "__module__") 402, .str (Str.ofString "cpy313.wsgiref.headers") 289⟩, ⟨PyData.keyHash P (Str.ofString "__firstlineno__"), .str (Str.ofString "__firstlineno__") 406, .int (18) 405⟩, ⟨PyData.keyHash P (Str.ofString "__init__"), .str (Str.ofString "__init__") 416, .ref 76⟩, ⟨PyData.keyHash P (Str.ofString "_convert_string_type"), .str (Str.ofString "_convert_string_type") 426, .ref 83⟩, ⟨PyData.keyHash P (Str.ofString "__len__"), .str (Str.ofString "__len__") 433, .ref 90⟩, ⟨PyData.keyHash P (Str.ofString "__setitem__"), .str (Str.ofString "__setitem__") 442, .ref 97⟩, ⟨PyData.keyHash P (Str.ofString "__delitem__"), .str (Str.ofString "__delitem__") 448, .ref 102⟩, ⟨PyData.keyHash P (Str.ofString "__getitem__"), .str (Str.ofString "__getitem__") 456, .ref 109⟩, ⟨PyData.keyHash P (Str.ofString "__contains__"), .str (Str.ofString "__contains__") 464, .ref 116⟩, ⟨PyData.keyHash P (Str.ofString "get_all"), .str (Str.ofString "get_all") 470, .ref 121⟩, ⟨PyData.keyHash P (Str.ofString "get"), .str (Str.ofString "get") 481, .ref 129⟩, ⟨PyData.keyHash P (Str.ofString "keys"), .str (Str.ofString "keys") 487, .ref 134⟩, ⟨PyData.keyHash P (Str.ofString "values"), .str (Str.ofString "values") 493, .ref 139⟩, ⟨PyData.keyHash P (Str.ofString "items"), .str (Str.ofString "items") 500, .ref 146⟩, ⟨PyData.keyHash P (Str.ofString "__repr__"), .str (Str.ofString "__repr__") 507, .ref 153⟩, ⟨PyData.keyHash P (Str.ofString "__str__"), .str (Str.ofString "__str__") 513, .ref 158⟩, ⟨PyData.keyHash P (Str.ofString "__bytes__"), .str (Str.ofString "__bytes__") 520, .ref 165⟩, ⟨PyData.keyHash P (Str.ofString "setdefault"), .str (Str.ofString "setdefault") 529, .ref 172⟩, ⟨PyData.keyHash P (Str.ofString "add_header"), .str (Str.ofString "add_header") 542, .ref 179⟩, ⟨PyData.keyHash P (Str.ofString "__static_attributes__"), .str (Str.ofString "__static_attributes__") 544, .ref 180⟩, ⟨PyData.keyHash P (Str.ofString "__dict__"), .str (Str.ofString "__dict__") 546, .ref 183⟩, ⟨PyData.keyHash P (Str.ofString "__weakref__"), .str (Str.ofString "__weakref__") 548, .ref 184⟩, ⟨PyData.keyHash P (Str.ofString "__doc__"), .str (Str.ofString "__doc__") 549, .none⟩].toArray 4, #[]⟩
noncomputable def o182 : Obj := ⟨.type "type", none, .cls ⟨(Str.ofString "Headers"), [.type "object"], [.ref 182, .type "object"], 181, (Str.ofString "Headers"), true, [], [], false, none, false⟩, #[none, none, some (.str (Str.ofString "Headers") 395), some (.str (Str.ofString "Headers") 403), some (.builtin "object.__new__"), some (.bool true)]⟩
noncomputable def o192 : Obj := ⟨.type "code", none, .fields [.str (Str.ofString "rgb_to_hls") 566, .str (Str.ofString "rgb_to_hls") 567, .str (Str.ofString "/claim/cut.py") 568, .int (104) 0, .int (3) 0, .int (0) 0, .int (0) 0, .int (3) 0, .ref 187, .bool true, .int (276) 0, .ref 188, .none, .ref 189, .ref 190, .ref 191, .int (582) 0, .int (104) 0, .str (Str.ofString "/claim/cut.py") 583].toArray, #[]⟩
noncomputable def o193 : Obj := ⟨.type "function", none, .func (fnOf (Str.ofString "rgb_to_hls") (Str.ofString "rgb_to_hls") hlsP.1 hlsB.1 hlsS.1 (.none) (.none) (.none) (.str (Str.ofString "cpy313.colorsys") 552) none (.ref 192) (.none)), #[]⟩
noncomputable def o199 : Obj := ⟨.type "code", none, .fields [.str (Str.ofString "hls_to_rgb") 585, .str (Str.ofString "hls_to_rgb") 586, .str (Str.ofString "/claim/cut.py") 587, .int (127) 0, .int (3) 0, .int (0) 0, .int (0) 0, .int (3) 0, .ref 194, .bool true, .int (276) 0, .ref 195, .none, .ref 196, .ref 197, .ref 198, .int (593) 0, .int (127) 0, .str (Str.ofString "/claim/cut.py") 594].toArray, #[]⟩
noncomputable def o200 : Obj := ⟨.type "function", none, .func (fnOf (Str.ofString "hls_to_rgb") (Str.ofString "hls_to_rgb") rgbLP.1 rgbLB.1 rgbLS.1 (.none) (.none) (.none) (.str (Str.ofString "cpy313.colorsys") 552) none (.ref 199) (.none)), #[]⟩
noncomputable def o206 : Obj := ⟨.type "code", none, .fields [.str (Str.ofString "_v") 596, .str (Str.ofString "_v") 597, .str (Str.ofString "/claim/cut.py") 598, .int (136) 0, .int (3) 0, .int (0) 0, .int (0) 0, .int (3) 0, .ref 201, .bool true, .int (276) 0, .ref 202, .none, .ref 203, .ref 204, .ref 205, .int (602) 0, .int (136) 0, .str (Str.ofString "/claim/cut.py") 603].toArray, #[]⟩
noncomputable def o207 : Obj := ⟨.type "function", none, .func (fnOf (Str.ofString "_v") (Str.ofString "_v") vvP.1 vvB.1 vvS.1 (.none) (.none) (.none) (.str (Str.ofString "cpy313.colorsys") 552) none (.ref 206) (.none)), #[]⟩
noncomputable def o213 : Obj := ⟨.type "code", none, .fields [.str (Str.ofString "rgb_to_hsv") 605, .str (Str.ofString "rgb_to_hsv") 606, .str (Str.ofString "/claim/cut.py") 607, .int (145) 0, .int (3) 0, .int (0) 0, .int (0) 0, .int (3) 0, .ref 208, .bool true, .int (276) 0, .ref 209, .none, .ref 210, .ref 211, .ref 212, .int (620) 0, .int (145) 0, .str (Str.ofString "/claim/cut.py") 621].toArray, #[]⟩
noncomputable def o214 : Obj := ⟨.type "function", none, .func (fnOf (Str.ofString "rgb_to_hsv") (Str.ofString "rgb_to_hsv") hsvP.1 hsvB.1 hsvS.1 (.none) (.none) (.none) (.str (Str.ofString "cpy313.colorsys") 552) none (.ref 213) (.none)), #[]⟩
noncomputable def o220 : Obj := ⟨.type "code", none, .fields [.str (Str.ofString "hsv_to_rgb") 623, .str (Str.ofString "hsv_to_rgb") 624, .str (Str.ofString "/claim/cut.py") 625, .int (164) 0, .int (3) 0, .int (0) 0, .int (0) 0, .int (3) 0, .ref 215, .bool true, .int (276) 0, .ref 216, .none, .ref 217, .ref 218, .ref 219, .int (634) 0, .int (164) 0, .str (Str.ofString "/claim/cut.py") 635].toArray, #[]⟩
noncomputable def o221 : Obj := ⟨.type "function", none, .func (fnOf (Str.ofString "hsv_to_rgb") (Str.ofString "hsv_to_rgb") rgbVP.1 rgbVB.1 rgbVS.1 (.none) (.none) (.none) (.str (Str.ofString "cpy313.colorsys") 552) none (.ref 220) (.none)), #[]⟩
noncomputable def o227 : Obj := ⟨.type "code", none, .fields [.str (Str.ofString "add") 639, .str (Str.ofString "add") 640, .str (Str.ofString "/claim/cut.py") 641, .int (186) 0, .int (2) 0, .int (0) 0, .int (0) 0, .int (3) 0, .ref 222, .bool true, .int (276) 0, .ref 223, .none, .ref 224, .ref 225, .ref 226, .int (644) 0, .int (186) 0, .str (Str.ofString "/claim/cut.py") 645].toArray, #[]⟩
noncomputable def o228 : Obj := ⟨.type "function", none, .func (fnOf (Str.ofString "add") (Str.ofString "add") addP.1 addB.1 addS.1 (.none) (.none) (.none) (.str (Str.ofString "cpy313.operator") 637) none (.ref 227) (.none)), #[]⟩
noncomputable def o234 : Obj := ⟨.type "code", none, .fields [.str (Str.ofString "and_") 647, .str (Str.ofString "and_") 648, .str (Str.ofString "/claim/cut.py") 649, .int (188) 0, .int (2) 0, .int (0) 0, .int (0) 0, .int (3) 0, .ref 229, .bool true, .int (276) 0, .ref 230, .none, .ref 231, .ref 232, .ref 233, .int (652) 0, .int (188) 0, .str (Str.ofString "/claim/cut.py") 653].toArray, #[]⟩
noncomputable def o235 : Obj := ⟨.type "function", none, .func (fnOf (Str.ofString "and_") (Str.ofString "and_") andP.1 andB.1 andS.1 (.none) (.none) (.none) (.str (Str.ofString "cpy313.operator") 637) none (.ref 234) (.none)), #[]⟩
noncomputable def o241 : Obj := ⟨.type "code", none, .fields [.str (Str.ofString "lshift") 655, .str (Str.ofString "lshift") 656, .str (Str.ofString "/claim/cut.py") 657, .int (190) 0, .int (2) 0, .int (0) 0, .int (0) 0, .int (3) 0, .ref 236, .bool true, .int (276) 0, .ref 237, .none, .ref 238, .ref 239, .ref 240, .int (660) 0, .int (190) 0, .str (Str.ofString "/claim/cut.py") 661].toArray, #[]⟩
noncomputable def o242 : Obj := ⟨.type "function", none, .func (fnOf (Str.ofString "lshift") (Str.ofString "lshift") lshP.1 lshB.1 lshS.1 (.none) (.none) (.none) (.str (Str.ofString "cpy313.operator") 637) none (.ref 241) (.none)), #[]⟩
noncomputable def o248 : Obj := ⟨.type "code", none, .fields [.str (Str.ofString "mod") 663, .str (Str.ofString "mod") 664, .str (Str.ofString "/claim/cut.py") 665, .int (192) 0, .int (2) 0, .int (0) 0, .int (0) 0, .int (3) 0, .ref 243, .bool true, .int (276) 0, .ref 244, .none, .ref 245, .ref 246, .ref 247, .int (668) 0, .int (192) 0, .str (Str.ofString "/claim/cut.py") 669].toArray, #[]⟩
noncomputable def o249 : Obj := ⟨.type "function", none, .func (fnOf (Str.ofString "mod") (Str.ofString "mod") modP.1 modB.1 modS.1 (.none) (.none) (.none) (.str (Str.ofString "cpy313.operator") 637) none (.ref 248) (.none)), #[]⟩
noncomputable def o255 : Obj := ⟨.type "code", none, .fields [.str (Str.ofString "mul") 671, .str (Str.ofString "mul") 672, .str (Str.ofString "/claim/cut.py") 673, .int (194) 0, .int (2) 0, .int (0) 0, .int (0) 0, .int (3) 0, .ref 250, .bool true, .int (276) 0, .ref 251, .none, .ref 252, .ref 253, .ref 254, .int (676) 0, .int (194) 0, .str (Str.ofString "/claim/cut.py") 677].toArray, #[]⟩
noncomputable def o256 : Obj := ⟨.type "function", none, .func (fnOf (Str.ofString "mul") (Str.ofString "mul") mulP.1 mulB.1 mulS.1 (.none) (.none) (.none) (.str (Str.ofString "cpy313.operator") 637) none (.ref 255) (.none)), #[]⟩
noncomputable def o262 : Obj := ⟨.type "code", none, .fields [.str (Str.ofString "or_") 679, .str (Str.ofString "or_") 680, .str (Str.ofString "/claim/cut.py") 681, .int (196) 0, .int (2) 0, .int (0) 0, .int (0) 0, .int (3) 0, .ref 257, .bool true, .int (276) 0, .ref 258, .none, .ref 259, .ref 260, .ref 261, .int (684) 0, .int (196) 0, .str (Str.ofString "/claim/cut.py") 685].toArray, #[]⟩
noncomputable def o263 : Obj := ⟨.type "function", none, .func (fnOf (Str.ofString "or_") (Str.ofString "or_") orP.1 orB.1 orS.1 (.none) (.none) (.none) (.str (Str.ofString "cpy313.operator") 637) none (.ref 262) (.none)), #[]⟩
noncomputable def o269 : Obj := ⟨.type "code", none, .fields [.str (Str.ofString "rshift") 687, .str (Str.ofString "rshift") 688, .str (Str.ofString "/claim/cut.py") 689, .int (198) 0, .int (2) 0, .int (0) 0, .int (0) 0, .int (3) 0, .ref 264, .bool true, .int (276) 0, .ref 265, .none, .ref 266, .ref 267, .ref 268, .int (692) 0, .int (198) 0, .str (Str.ofString "/claim/cut.py") 693].toArray, #[]⟩
noncomputable def o270 : Obj := ⟨.type "function", none, .func (fnOf (Str.ofString "rshift") (Str.ofString "rshift") rshP.1 rshB.1 rshS.1 (.none) (.none) (.none) (.str (Str.ofString "cpy313.operator") 637) none (.ref 269) (.none)), #[]⟩
noncomputable def o276 : Obj := ⟨.type "code", none, .fields [.str (Str.ofString "truediv") 695, .str (Str.ofString "truediv") 696, .str (Str.ofString "/claim/cut.py") 697, .int (200) 0, .int (2) 0, .int (0) 0, .int (0) 0, .int (3) 0, .ref 271, .bool true, .int (276) 0, .ref 272, .none, .ref 273, .ref 274, .ref 275, .int (700) 0, .int (200) 0, .str (Str.ofString "/claim/cut.py") 701].toArray, #[]⟩
noncomputable def o277 : Obj := ⟨.type "function", none, .func (fnOf (Str.ofString "truediv") (Str.ofString "truediv") divP.1 divB.1 divS.1 (.none) (.none) (.none) (.str (Str.ofString "cpy313.operator") 637) none (.ref 276) (.none)), #[]⟩
noncomputable def o283 : Obj := ⟨.type "code", none, .fields [.str (Str.ofString "contains") 703, .str (Str.ofString "contains") 704, .str (Str.ofString "/claim/cut.py") 705, .int (202) 0, .int (2) 0, .int (0) 0, .int (0) 0, .int (3) 0, .ref 278, .bool true, .int (276) 0, .ref 279, .none, .ref 280, .ref 281, .ref 282, .int (708) 0, .int (202) 0, .str (Str.ofString "/claim/cut.py") 709].toArray, #[]⟩
noncomputable def o284 : Obj := ⟨.type "function", none, .func (fnOf (Str.ofString "contains") (Str.ofString "contains") contP.1 contB.1 contS.1 (.none) (.none) (.none) (.str (Str.ofString "cpy313.operator") 637) none (.ref 283) (.none)), #[]⟩
noncomputable def o285 : Obj := ⟨.type "tuple", none, .seq [.int (0) 711].toArray 0, #[]⟩
noncomputable def o291 : Obj := ⟨.type "code", none, .fields [.str (Str.ofString "length_hint") 712, .str (Str.ofString "length_hint") 713, .str (Str.ofString "/claim/cut.py") 714, .int (204) 0, .int (2) 0, .int (0) 0, .int (0) 0, .int (3) 0, .ref 286, .bool true, .int (276) 0, .ref 287, .none, .ref 288, .ref 289, .ref 290, .int (720) 0, .int (204) 0, .str (Str.ofString "/claim/cut.py") 721].toArray, #[]⟩
noncomputable def o292 : Obj := ⟨.type "function", none, .func (fnOf (Str.ofString "length_hint") (Str.ofString "length_hint") lhintP.1 lhintB.1 lhintS.1 (.ref 285) (.none) (.none) (.str (Str.ofString "cpy313.operator") 637) none (.ref 291) (.none)), #[]⟩
noncomputable def o298 : Obj := ⟨.type "code", none, .fields [.str (Str.ofString "_law_number") 725, .str (Str.ofString "_law_number") 726, .str (Str.ofString "/claim/cut.py") 727, .int (230) 0, .int (2) 0, .int (0) 0, .int (0) 0, .int (3) 0, .ref 293, .bool true, .int (276) 0, .ref 294, .none, .ref 295, .ref 296, .ref 297, .int (732) 0, .int (230) 0, .str (Str.ofString "/claim/cut.py") 733].toArray, #[]⟩
noncomputable def o299 : Obj := ⟨.type "function", none, .func (fnOf (Str.ofString "_law_number") (Str.ofString "_law_number") numP.1 numB.1 numS.1 (.none) (.none) (.none) (.str (Str.ofString "law_ty0058_01") 723) none (.ref 298) (.none)), #[]⟩
noncomputable def o305 : Obj := ⟨.type "code", none, .fields [.str (Str.ofString "_law_hues") 735, .str (Str.ofString "_law_hues") 736, .str (Str.ofString "/claim/cut.py") 737, .int (234) 0, .int (3) 0, .int (0) 0, .int (0) 0, .int (3) 0, .ref 300, .bool true, .int (276) 0, .ref 301, .none, .ref 302, .ref 303, .ref 304, .int (747) 0, .int (234) 0, .str (Str.ofString "/claim/cut.py") 748].toArray, #[]⟩
noncomputable def o306 : Obj := ⟨.type "function", none, .func (fnOf (Str.ofString "_law_hues") (Str.ofString "_law_hues") huesP.1 huesB.1 huesS.1 (.none) (.none) (.none) (.str (Str.ofString "law_ty0058_01") 723) none (.ref 305) (.none)), #[]⟩
noncomputable def o312 : Obj := ⟨.type "code", none, .fields [.str (Str.ofString "_law_parts") 750, .str (Str.ofString "_law_parts") 751, .str (Str.ofString "/claim/cut.py") 752, .int (241) 0, .int (4) 0, .int (0) 0, .int (0) 0, .int (3) 0, .ref 307, .bool true, .int (276) 0, .ref 308, .none, .ref 309, .ref 310, .ref 311, .int (760) 0, .int (241) 0, .str (Str.ofString "/claim/cut.py") 761].toArray, #[]⟩
noncomputable def o313 : Obj := ⟨.type "function", none, .func (fnOf (Str.ofString "_law_parts") (Str.ofString "_law_parts") partsP.1 partsB.1 partsS.1 (.none) (.none) (.none) (.str (Str.ofString "law_ty0058_01") 723) none (.ref 312) (.none)), #[]⟩
noncomputable def o317 : Obj := ⟨.type "code", none, .fields [.str (Str.ofString "_law_turned") 763, .str (Str.ofString "_law_turned") 764, .str (Str.ofString "/claim/cut.py") 765, .int (248) 0, .int (4) 0, .int (0) 0, .int (0) 0, .int (3) 0, .ref 314, .bool true, .int (276) 0, .ref 315, .none, .none, .none, .ref 316, .int (766) 0, .int (248) 0, .str (Str.ofString "/claim/cut.py") 767].toArray, #[]⟩
noncomputable def o318 : Obj := ⟨.type "function", none, .func (fnOf (Str.ofString "_law_turned") (Str.ofString "_law_turned") turnedP.1 turnedB.1 turnedS.1 (.none) (.none) (.none) (.str (Str.ofString "law_ty0058_01") 723) none (.ref 317) (.none)), #[]⟩
noncomputable def o322 : Obj := ⟨.type "code", none, .fields [.str (Str.ofString "_law_told") 769, .str (Str.ofString "_law_told") 770, .str (Str.ofString "/claim/cut.py") 771, .int (257) 0, .int (3) 0, .int (0) 0, .int (0) 0, .int (3) 0, .ref 319, .bool true, .int (276) 0, .ref 320, .none, .none, .none, .ref 321, .int (772) 0, .int (257) 0, .str (Str.ofString "/claim/cut.py") 773].toArray, #[]⟩
noncomputable def o323 : Obj := ⟨.type "function", none, .func (fnOf (Str.ofString "_law_told") (Str.ofString "_law_told") toldP.1 toldB.1 toldS.1 (.none) (.none) (.none) (.str (Str.ofString "law_ty0058_01") 723) none (.ref 322) (.none)), #[]⟩
noncomputable def o327 : Obj := ⟨.type "code", none, .fields [.str (Str.ofString "_law_filled") 775, .str (Str.ofString "_law_filled") 776, .str (Str.ofString "/claim/cut.py") 777, .int (261) 0, .int (3) 0, .int (0) 0, .int (0) 0, .int (3) 0, .ref 324, .bool true, .int (276) 0, .ref 325, .none, .none, .none, .ref 326, .int (778) 0, .int (261) 0, .str (Str.ofString "/claim/cut.py") 779].toArray, #[]⟩
noncomputable def o328 : Obj := ⟨.type "function", none, .func (fnOf (Str.ofString "_law_filled") (Str.ofString "_law_filled") filledP.1 filledB.1 filledS.1 (.none) (.none) (.none) (.str (Str.ofString "law_ty0058_01") 723) none (.ref 327) (.none)), #[]⟩
noncomputable def o332 : Obj := ⟨.type "code", none, .fields [.str (Str.ofString "law") 781, .str (Str.ofString "law") 782, .str (Str.ofString "/claim/cut.py") 783, .int (263) 0, .int (1) 0, .int (0) 0, .int (0) 0, .int (3) 0, .ref 329, .bool true, .int (276) 0, .ref 330, .none, .none, .none, .ref 331, .int (784) 0, .int (263) 0, .str (Str.ofString "/claim/cut.py") 785].toArray, #[]⟩
noncomputable def o333 : Obj := ⟨.type "function", none, .func (fnOf (Str.ofString "law") (Str.ofString "law") lawP.1 lawB.1 lawS.1 (.none) (.none) (.none) (.str (Str.ofString "law_ty0058_01") 723) none (.ref 332) (.none)), #[]⟩
noncomputable def K : Params → Frag := fun P => (nat_lit 3, o3 P) :: (nat_lit 47, o47) :: (nat_lit 48, o48) :: (nat_lit 52, o52) :: (nat_lit 53, o53) :: (nat_lit 69, o69) :: (nat_lit 75, o75) :: (nat_lit 76, o76) :: (nat_lit 82, o82) :: (nat_lit 83, o83) :: (nat_lit 89, o89) :: (nat_lit 90, o90) :: (nat_lit 115, o115) :: (nat_lit 116, o116) :: (nat_lit 120, o120) :: (nat_lit 121, o121) :: (nat_lit 122, o122) :: (nat_lit 128, o128) :: (nat_lit 129, o129) :: (nat_lit 145, o145) :: (nat_lit 146, o146) :: (nat_lit 178, o178) :: (nat_lit 179, o179) :: (nat_lit 181, o181 P) :: (nat_lit 182, o182) :: (nat_lit 192, o192) :: (nat_lit 193, o193) :: (nat_lit 199, o199) :: (nat_lit 200, o200) :: (nat_lit 206, o206) :: (nat_lit 207, o207) :: (nat_lit 213, o213) :: (nat_lit 214, o214) :: (nat_lit 220, o220) :: (nat_lit 221, o221) :: (nat_lit 227, o227) :: (nat_lit 228, o228) :: (nat_lit 234, o234) :: (nat_lit 235, o235) :: (nat_lit 241, o241) :: (nat_lit 242, o242) :: (nat_lit 248, o248) :: (nat_lit 249, o249) :: (nat_lit 255, o255) :: (nat_lit 256, o256) :: (nat_lit 262, o262) :: (nat_lit 263, o263) :: (nat_lit 269, o269) :: (nat_lit 270, o270) :: (nat_lit 276, o276) :: (nat_lit 277, o277) :: (nat_lit 283, o283) :: (nat_lit 284, o284) :: (nat_lit 285, o285) :: (nat_lit 291, o291) :: (nat_lit 292, o292) :: (nat_lit 298, o298) :: (nat_lit 299, o299) :: (nat_lit 305, o305) :: (nat_lit 306, o306) :: (nat_lit 312, o312) :: (nat_lit 313, o313) :: (nat_lit 317, o317) :: (nat_lit 318, o318) :: (nat_lit 322, o322) :: (nat_lit 323, o323) :: (nat_lit 327, o327) :: (nat_lit 328, o328) :: (nat_lit 332, o332) :: (nat_lit 333, o333) :: []
noncomputable def KA : List Nat := 3 :: 47 :: 48 :: 52 :: 53 :: 69 :: 75 :: 76 :: 82 :: 83 :: 89 :: 90 :: 115 :: 116 :: 120 :: 121 :: 122 :: 128 :: 129 :: 145 :: 146 :: 178 :: 179 :: 181 :: 182 :: 192 :: 193 :: 199 :: 200 :: 206 :: 207 :: 213 :: 214 :: 220 :: 221 :: 227 :: 228 :: 234 :: 235 :: 241 :: 242 :: 248 :: 249 :: 255 :: 256 :: 262 :: 263 :: 269 :: 270 :: 276 :: 277 :: 283 :: 284 :: 285 :: 291 :: 292 :: 298 :: 299 :: 305 :: 306 :: 312 :: 313 :: 317 :: 318 :: 322 :: 323 :: 327 :: 328 :: 332 :: 333 :: []
theorem KA_eq : ∀ P, KA = (K P).map (·.1) := fun _ => rfl

abbrev rw0 : OpenLaw := PySem.Challenge.rw_ty0058_01
noncomputable def q0 : Program := view pw [0, 35]
noncomputable def loose0 : List Str := ["_wall", "tspecials", "_name_disallowed_re", "_value_disallowed_re", "_formatparam", "Headers", "ONE_THIRD", "ONE_SIXTH", "TWO_THIRD", "rgb_to_hls", "hls_to_rgb", "_v", "rgb_to_hsv", "hsv_to_rgb", "add", "and_", "lshift", "mod", "mul", "or_", "rshift", "truediv", "contains", "length_hint", "_law_number", "_law_hues", "_law_parts", "_law_turned", "_law_told", "_law_filled"].map Str.ofString
noncomputable def hk0 : Hook := kHook K KA KA_eq
end Mine
end
section
open PySem PySem.W PyProof.Rows
set_option maxRecDepth 100000
set_option maxHeartbeats 8000000
namespace Mine
theorem left0 : LeftO rw0.row.prog q0 loose0 (fun s => xlAt q0 [] s && recOk (RowW.records rw0.row.toRowW) s) hk0.obs hk0.val 4000 := by
  intro w
  unfold openEnds fencedOpening topFrom
  rw [PySem.W.Fast.te14364793385576792824, PySem.W.Fast.te4187177175401517315, PySem.W.Fast.te5923862056798008813, PySem.W.Fast.te14082659384304107361, PySem.W.Fast.te10274390034422433532, PySem.W.Fast.te14289696077712309145]
  kernel_rfl
end Mine
end
section
open PySem PySem.W PyProof.Rows
set_option maxRecDepth 100000
set_option maxHeartbeats 8000000
namespace Mine
theorem said0 : rw0.wellSaid = true := by
  unfold OpenLaw.wellSaid OpenRow.wellSaid OpenRow.partSaid looksOpen
  repeat' (with_reducible refine look_both ?_ ?_)
  all_goals (
    (try rw [PySem.W.Fast.te8326940854005059898]); (try rw [PySem.W.Fast.te17119622794617984870]); (try rw [PySem.W.Fast.te8179353310426384613]); (try rw [PySem.W.Fast.te9558739934217749035]); (try rw [PySem.W.Fast.te16286561074155671207]); (try rw [PySem.W.Fast.te10501279942588096481])
    (try rw [PySem.W.Fast.te11788848310118352699]); (try rw [PySem.W.Fast.te9807087744658564304]); (try rw [PySem.W.Fast.te12862048085361865435]); (try rw [PySem.W.Fast.te8377067652309620493]); (try rw [PySem.W.Fast.te18344453789297297638]); (try rw [PySem.W.Fast.te14412699480532031325]); (try rw [PySem.W.Fast.te5923862056798008813]); (try rw [PySem.W.Fast.te13343964577679436407]); (try rw [PySem.W.Fast.te13582783067957832011])
    (try rw [PySem.W.Fast.te10792542408131684335]); (try rw [PySem.W.Fast.te12749700546528644094]); (try rw [PySem.W.Fast.te17868728402115742887]); (try rw [PySem.W.Fast.te6984425678791042302]); (try rw [PySem.W.Fast.te482687673346738481]); (try rw [PySem.W.Fast.named_eq]); (try rw [PySem.W.Fast.sDec_eq])
    exact (by decide +kernel))
end Mine
end
section
open PySem PySem.W PySem.Calls PyProof.Rows
set_option maxRecDepth 100000
set_option maxHeartbeats 8000000
namespace Mine
/-- the state of a caller -/
noncomputable abbrev Ar (dp un : Nat) (gd : Option (List Code)) (env : Env) (outer : List Env) : Around := { handled := none, depth := dp, frames := some (env :: outer), guards := gd, units := un }

theorem less {n j : Nat} (h : j < n) : n + 1 - (j + 1) < n + 1 - j := Nat.sub_lt_sub_left (Nat.lt_succ_of_lt h) (Nat.lt_succ_self j)
theorem offs (k x : Nat) : @Ne Nat x (x + (k + 1)) := Nat.ne_of_lt (Nat.lt_add_of_pos_right (Nat.succ_pos k))
theorem room0 {a b l : Nat} (h : a + b < l) : a < l := Nat.lt_of_le_of_lt (Nat.le_add_right a b) h
theorem room1 {a b c l : Nat} (h : a + b < l) (e : Nat.ble c b = true) : a + c < l := Nat.lt_of_le_of_lt (Nat.add_le_add_left (Nat.le_of_ble_eq_true e) a) h
theorem room2 {a b c d l : Nat} (h : a + b < l) (e : Nat.ble (c + d) b = true) : a + c + d < l := by
  rw [Nat.add_assoc]; exact room1 h e
/-- the end of a body that keeps all that stood before it -/
noncomputable def PEnd (g : Heap) (L' : Addr) (s₀ : Shared) (post : Value → List (Addr × Obj) → Prop) (v : Value) (s' : Shared) : Prop :=
  ∃ m' new h' tk, s' = { s₀ with heap := h', toks := tk } ∧ Fr g L' h' m' ∧ News g L' h' new ∧ post v new

/-- what a call that writes nothing old does, for any caller -/
noncomputable def Pure (w : World) (d : Nat) (f : Addr) (vs : List Value) (kw : List (Str × Value)) (pre : Heap → Prop) (post : Value → List (Addr × Obj) → Prop) : Prop :=
  ∀ (dp un : Nat) (gd : Option (List Code)) (env : Env) (outer : List Env) (A₀ : Around) (base h₀ : Heap) (L : Addr) (m : Str → Option Value) (news : List (Addr × Obj)) (s : Shared) (Q E : Value → Shared → Prop)
    (p : Program) (loose : List Str) (mean : ExcName → Option Value) (mg mb : Str → Option Value),
    Below A₀ base outer h₀ → Fr h₀ L s.heap m → (K w.params).In h₀ → News h₀ L s.heap news → Top p loose mean mg mb h₀ → env.frame = some L → env.scope.kind = .function →
    dp + d < recursionLimit → un + 10 * d < cLine → pre s.heap →
    (∀ r new h' tk', post r new → Fr h₀ L h' m → News h₀ L h' (new ++ news) → (∀ b o, s.heap.get? b = some o → h'.get? b = some o) → (∀ p ∈ new, s.heap.get? p.1 = none) → Q r { s with heap := h', toks := tk' }) →
    wpAny (model rw0.row.prog w) (Ar dp un gd env outer) (call (.ref f) vs kw) Q E s

theorem code_pure {w : World} {A₀ A : Around} {E : Value → Shared → Prop} {s : Shared} {base h₀ : Heap} {outer : List Env} {L : Addr} {m : Str → Option Value} {env : Env} {news : List (Addr × Obj)} {K : Frag}
    {p : Program} {loose : List Str} {mean : ExcName → Option Value} {mg mb : Str → Option Value} {Q : Value → Shared → Prop} {name qual : Str} {params : Arguments} {body : List Stmt} {scope : Scope} {dV kV doc pm cdv ct oc : Value} {an od : Option Addr} {osl : Array (Option Value)} {f : Addr} {vs : List Value} {kw : List (Str × Value)} {binds : List (Str × Value)}
    {prog : Program} (post : Value → List (Addr × Obj) → Prop)
    (B : Below A₀ base outer h₀) (F : Fr h₀ L s.heap m) (X₀ : K.In h₀) (N : News h₀ L s.heap news) (T : Top p loose mean mg mb h₀) (hA : A.frames = some (env :: outer)) (hf : env.frame = some L) (hke : env.scope.kind = .function)
    (ho : K.lookup f = some ⟨oc, od, .func (fnOf name qual params body scope dV kV doc pm an cdv ct), osl⟩) (hcd : codeIn K cdv qual = true) (hroom : A.depth < recursionLimit)
    (hbind : BindsTo s (fnOf name qual params body scope dV kV doc pm an cdv ct) ⟨vs, kw⟩ binds) (hloc : ∀ y ∈ binds, scope.names.lookup y.1 = some .local)
    (hco : scope.isCoroutine = false) (hgen : scope.isGenerator = false) (hk : scope.kind = .function) (hcell : ∀ x ∈ scope.names, x.2 ≠ .cell)
    (k : ∀ r new h' tk', post r new → Fr h₀ L h' m → News h₀ L h' (new ++ news) → (∀ b o, s.heap.get? b = some o → h'.get? b = some o) → (∀ p ∈ new, s.heap.get? p.1 = none) → Q r { s with heap := h', toks := tk' })
    (h : ∀ g L' h₁, (∀ b o, s.heap.get? b = some o → g.get? b = some o) → Fr g L' h₁ (fun y => binds.reverse.lookup y) → News g L' h₁ [] → Below A base (env :: outer) g → K.In g → Top p loose mean mg mb g →
      wpAny (model prog w) (A.deeper (envOf qual scope L' f cdv)) (execs body (envOf qual scope L' f cdv))
        (fun fl s' => PEnd g L' s post (match fl with | .ret v => v | _ => .none) s') (fun _ _ => False) { s with heap := h₁, toks := s.toks + binds.length }) :
    wpAny (model prog w) A (call (.ref f) vs kw) Q E s := by
  refine wpAny_call (code_defG B F X₀ News.nil T hA hf hke ho hcd hroom hbind hloc (fun g L' h₁ FG F' N' B' X' T' G => ?_) hco hgen hk hcell)
  refine wpAny_mono (h g L' h₁ (fun b o e => G b o e (by simp)) F' N' B' X' T') (fun fl s' hp => ?_) (fun _ _ x => x.elim)
  obtain ⟨m', new, h', tk, rfl, F₁, N₁, hpost⟩ := hp
  refine ⟨L', m', new, F₁, N₁, fun F₂ N₂ => ?_⟩
  have hk' : ∀ b o, s.heap.get? b = some o → h'.get? b = some o := fun b o e => F₁.keep b o (G b o e (by simp))
  refine k _ new h' tk hpost F₂ (fun q hq => ?_) hk' (fun q hq => ?_)
  · rcases List.mem_append.mp hq with hq | hq
    · exact N₂ q hq
    · exact ⟨hk' _ _ (N q hq).1, (N q hq).2⟩
  · cases e : s.heap.get? q.1 with
    | none => rfl
    | some o => have := (N₁ q hq).2.2; rw [G _ _ e (by simp)] at this; cases this

theorem pend_one {g : Heap} {L' : Addr} {s₀ : Shared} {post : Value → List (Addr × Obj) → Prop} {h' : Heap} {tk : Nat} {m' : Str → Option Value} {news : List (Addr × Obj)} {l : Addr} {o : Obj}
    (F : Fr g L' h' m') (N : News g L' h' news) (hm : (l, o) ∈ news) (hp : post (.ref l) [(l, o)]) : PEnd g L' s₀ post (.ref l) { s₀ with heap := h', toks := tk } :=
  ⟨m', _, h', tk, rfl, F, fun p hp => by rw [List.mem_singleton.mp hp]; exact N _ hm, hp⟩
theorem pend_val {g : Heap} {L' : Addr} {s₀ : Shared} {post : Value → List (Addr × Obj) → Prop} {h' : Heap} {tk : Nat} {m' : Str → Option Value} {v : Value}
    (F : Fr g L' h' m') (hp : post v []) : PEnd g L' s₀ post v { s₀ with heap := h', toks := tk } :=
  ⟨m', _, h', tk, rfl, F, News.nil, hp⟩
theorem fill (w : World) (h : Heap) (X : (K w.params).In h) (e : rw0.foot = 7) : (K w.params).In h ∧ rw0.foot = 7 := by
  k_fill
  exact ⟨X, e⟩
end Mine
end
theorem Mine.reset1 : True := by first | walk1 | trivial
section
open PySem PySem.W PySem.Calls PyProof.Rows
set_option maxRecDepth 100000
set_option maxHeartbeats 8000000
namespace Mine

noncomputable def fmax2 (x y : UInt64) : UInt64 := if (Float64.cmp x y == some .lt) = true then y else x
noncomputable def fmin2 (x y : UInt64) : UInt64 := if (Float64.cmp y x == some .lt) = true then y else x

section
open PySem.Flt
variable {prog : Program} {w : World} {A : Around} {E : Value → Shared → Prop} {s : Shared} {h₀ : Heap} {L : Addr} {m : Str → Option Value} {news : List (Addr × Obj)}
theorem max_three_ff {a b c : UInt64} {t u x : Tok} {Q : Value → Shared → Prop} (hh : A.handled = none) (F : Fr h₀ L s.heap m) (N : News h₀ L s.heap news)
    (h : ∀ h' tk v, Fr h₀ L h' m → News h₀ L h' news → Q (.float (fmax2 (fmax2 a b) c) v) { s with heap := h', toks := tk }) :
    wpAny (model prog w) A (call (.builtin "max") [.float a t, .float b u, .float c x]) Q E s := by
  have hT : (s.heap.push { cls := .type "tuple", data := .seq #[.float a t, .float b u, .float c x] }).IsTuple s.heap.objs.size #[.float a t, .float b u, .float c x] := ⟨_, Heap.get?_push_size _ rfl, rfl, 0, rfl⟩
  refine call_max_three (wpAny_pyIter_tuple hT ?_)
  have hsz : (s.heap.push { cls := .type "tuple", data := .seq #[.float a t, .float b u, .float c x] }).objs.size = s.heap.objs.size + 1 := Heap.size_push ..
  refine ⟨_, [_, s.heap.objs.size], [_], _, _, _, _, rfl, Walks.tuple (A := A.in1) hh _ s.heap.objs.size (by rw [hsz]; exact Nat.ne_of_lt (Nat.lt_succ_self _)) #[.float a t, .float b u, .float c x],
    ⟨⟨_, Heap.get?_push_size _ rfl, rfl, rfl⟩, hT.push _⟩, fun d hd => ?_, by simp, cmpOf_gt #[.float a t, .float b u, .float c x] (by simp [NumV.float]), fun v h' tk hP hk => ?_⟩
  · show d < ((s.heap.push _).push _).objs.size
    rw [Heap.size_push, hsz]
    rcases List.mem_cons.mp hd with rfl | hd
    · rw [hsz]; exact Nat.lt_succ_self _
    · rcases List.mem_cons.mp hd with rfl | hd
      · exact Nat.lt_succ_of_lt (Nat.lt_succ_self _)
      · cases hd
  · have hold : ∀ d o, s.heap.get? d = some o → h'.get? d = some o := fun d o e => by
      refine hk d o (fun hm => ?_) (Heap.get?_push_of_some _ (Heap.get?_push_of_some _ e))
      rcases List.mem_cons.mp hm with e1 | hm
      · have := Heap.lt_size e; rw [e1, hsz] at this; exact Nat.lt_irrefl _ (Nat.lt_of_succ_lt this)
      · cases hm
    have hv : ∃ y, v = .float (fmax2 (fmax2 a b) c) y := by
      cases hb : (Float64.cmp a b == some .lt) <;> cases hc : (Float64.cmp b c == some .lt) <;> cases hd : (Float64.cmp a c == some .lt) <;> simp [argBest, ltV, hb, hc, hd] at hP <;> simp [fmax2, hb, hc, hd, ← hP]
    obtain ⟨y, rfl⟩ := hv
    exact h h' tk y (F.grownK hold) (N.grown hold)
end

section
open PySem.Flt
variable {prog : Program} {w : World} {A : Around} {E : Value → Shared → Prop} {s : Shared} {h₀ : Heap} {L : Addr} {m : Str → Option Value} {news : List (Addr × Obj)}
theorem min_three_ff {a b c : UInt64} {t u x : Tok} {Q : Value → Shared → Prop} (hh : A.handled = none) (F : Fr h₀ L s.heap m) (N : News h₀ L s.heap news)
    (h : ∀ h' tk v, Fr h₀ L h' m → News h₀ L h' news → Q (.float (fmin2 (fmin2 a b) c) v) { s with heap := h', toks := tk }) :
    wpAny (model prog w) A (call (.builtin "min") [.float a t, .float b u, .float c x]) Q E s := by
  have hT : (s.heap.push { cls := .type "tuple", data := .seq #[.float a t, .float b u, .float c x] }).IsTuple s.heap.objs.size #[.float a t, .float b u, .float c x] := ⟨_, Heap.get?_push_size _ rfl, rfl, 0, rfl⟩
  refine call_min_three (wpAny_pyIter_tuple hT ?_)
  have hsz : (s.heap.push { cls := .type "tuple", data := .seq #[.float a t, .float b u, .float c x] }).objs.size = s.heap.objs.size + 1 := Heap.size_push ..
  refine ⟨_, [_, s.heap.objs.size], [_], _, _, _, _, rfl, Walks.tuple (A := A.in1) hh _ s.heap.objs.size (by rw [hsz]; exact Nat.ne_of_lt (Nat.lt_succ_self _)) #[.float a t, .float b u, .float c x],
    ⟨⟨_, Heap.get?_push_size _ rfl, rfl, rfl⟩, hT.push _⟩, fun d hd => ?_, by simp, cmpOf_lt #[.float a t, .float b u, .float c x] (by simp [NumV.float]), fun v h' tk hP hk => ?_⟩
  · show d < ((s.heap.push _).push _).objs.size
    rw [Heap.size_push, hsz]
    rcases List.mem_cons.mp hd with rfl | hd
    · rw [hsz]; exact Nat.lt_succ_self _
    · rcases List.mem_cons.mp hd with rfl | hd
      · exact Nat.lt_succ_of_lt (Nat.lt_succ_self _)
      · cases hd
  · have hold : ∀ d o, s.heap.get? d = some o → h'.get? d = some o := fun d o e => by
      refine hk d o (fun hm => ?_) (Heap.get?_push_of_some _ (Heap.get?_push_of_some _ e))
      rcases List.mem_cons.mp hm with e1 | hm
      · have := Heap.lt_size e; rw [e1, hsz] at this; exact Nat.lt_irrefl _ (Nat.lt_of_succ_lt this)
      · cases hm
    have hv : ∃ y, v = .float (fmin2 (fmin2 a b) c) y := by
      cases hb : (Float64.cmp b a == some .lt) <;> cases hc : (Float64.cmp c b == some .lt) <;> cases hd : (Float64.cmp c a == some .lt) <;> simp [argBest, ltV, hb, hc, hd] at hP <;> simp [fmin2, hb, hc, hd, ← hP]
    obtain ⟨y, rfl⟩ := hv
    exact h h' tk y (F.grownK hold) (N.grown hold)
end

noncomputable abbrev fOne : UInt64 := 4607182418800017408
noncomputable abbrev fTwo : UInt64 := 4611686018427387904
noncomputable abbrev fFour : UInt64 := 4616189618054758400
noncomputable abbrev fSix : UInt64 := 4618441417868443648
noncomputable abbrev fHalf : UInt64 := 4602678819172646912
noncomputable abbrev fThird : UInt64 := 4599676419421066581
noncomputable abbrev fSixth : UInt64 := 4595172819793696085
noncomputable abbrev fTwoThird : UInt64 := 4604180019048437077
open Float64 in
/-- the hue's turn, of the largest and the least part -/
noncomputable def hueF (r g b M m : UInt64) : UInt64 :=
  (divmod (div (if (cmp r M == some .eq) = true then sub (div (sub M b) (sub M m)) (div (sub M g) (sub M m))
    else if (cmp g M == some .eq) = true then sub (add fTwo (div (sub M r) (sub M m))) (div (sub M b) (sub M m))
    else sub (add fFour (div (sub M g) (sub M m))) (div (sub M r) (sub M m))) fSix) fOne).snd
noncomputable abbrev max3F (r g b : UInt64) : UInt64 := fmax2 (fmax2 r g) b
noncomputable abbrev min3F (r g b : UInt64) : UInt64 := fmin2 (fmin2 r g) b
open Float64 in
noncomputable def hlsF (r g b : UInt64) : UInt64 × UInt64 × UInt64 :=
  if (cmp (min3F r g b) (max3F r g b) == some .eq) = true then (0, div (add (max3F r g b) (min3F r g b)) fTwo, 0)
  else (hueF r g b (max3F r g b) (min3F r g b), div (add (max3F r g b) (min3F r g b)) fTwo,
    if (cmp (div (add (max3F r g b) (min3F r g b)) fTwo) fHalf == some .lt || cmp (div (add (max3F r g b) (min3F r g b)) fTwo) fHalf == some .eq) = true then div (sub (max3F r g b) (min3F r g b)) (add (max3F r g b) (min3F r g b))
    else div (sub (max3F r g b) (min3F r g b)) (sub (sub fTwo (max3F r g b)) (min3F r g b)))
open Float64 in
noncomputable def hsvF (r g b : UInt64) : UInt64 × UInt64 × UInt64 :=
  if (cmp (min3F r g b) (max3F r g b) == some .eq) = true then (0, 0, max3F r g b)
  else (hueF r g b (max3F r g b) (min3F r g b), div (sub (max3F r g b) (min3F r g b)) (max3F r g b), max3F r g b)
open Float64 in
noncomputable def vvF (m1 m2 hue : UInt64) : UInt64 :=
  if (cmp (divmod hue fOne).snd fSixth == some .lt) = true then add m1 (mul (mul (sub m2 m1) (divmod hue fOne).snd) fSix)
  else if (cmp (divmod hue fOne).snd fHalf == some .lt) = true then m2
  else if (cmp (divmod hue fOne).snd fTwoThird == some .lt) = true then add m1 (mul (mul (sub m2 m1) (sub fTwoThird (divmod hue fOne).snd)) fSix)
  else m1
open Float64 in
noncomputable def rgbVF (h s v : UInt64) : UInt64 × UInt64 × UInt64 :=
  if (cmp s 0 == some .eq) = true then (v, v, v)
  else if (Flt.toInt truncOf (mul h fSix)).fmod 6 = 0 then (v, mul v (sub fOne (mul s (sub fOne (sub (mul h fSix) (ofInt (Flt.toInt truncOf (mul h fSix))))))), mul v (sub fOne s))
  else if (Flt.toInt truncOf (mul h fSix)).fmod 6 = 1 then (mul v (sub fOne (mul s (sub (mul h fSix) (ofInt (Flt.toInt truncOf (mul h fSix)))))), v, mul v (sub fOne s))
  else if (Flt.toInt truncOf (mul h fSix)).fmod 6 = 2 then (mul v (sub fOne s), v, mul v (sub fOne (mul s (sub fOne (sub (mul h fSix) (ofInt (Flt.toInt truncOf (mul h fSix))))))))
  else if (Flt.toInt truncOf (mul h fSix)).fmod 6 = 3 then (mul v (sub fOne s), mul v (sub fOne (mul s (sub (mul h fSix) (ofInt (Flt.toInt truncOf (mul h fSix)))))), v)
  else if (Flt.toInt truncOf (mul h fSix)).fmod 6 = 4 then (mul v (sub fOne (mul s (sub fOne (sub (mul h fSix) (ofInt (Flt.toInt truncOf (mul h fSix))))))), mul v (sub fOne s), v)
  else (v, mul v (sub fOne s), mul v (sub fOne (mul s (sub (mul h fSix) (ofInt (Flt.toInt truncOf (mul h fSix)))))))
open Float64 in
noncomputable def lightM2 (l s : UInt64) : UInt64 := if (cmp l fHalf == some .lt || cmp l fHalf == some .eq) = true then mul l (add fOne s) else sub (add l s) (mul l s)
open Float64 in
noncomputable def rgbLF (h l s : UInt64) : UInt64 × UInt64 × UInt64 :=
  if (cmp s 0 == some .eq) = true then (l, l, l)
  else (vvF (sub (mul fTwo l) (lightM2 l s)) (lightM2 l s) (add h fThird), vvF (sub (mul fTwo l) (lightM2 l s)) (lightM2 l s) h, vvF (sub (mul fTwo l) (lightM2 l s)) (lightM2 l s) (sub h fThird))
noncomputable abbrev tup3 (x : UInt64) (t : Tok) (y : UInt64) (u : Tok) (z : UInt64) (v : Tok) : Obj := { cls := .type "tuple", data := .seq #[.float x t, .float y u, .float z v] }
noncomputable abbrev Post3 (f : UInt64 × UInt64 × UInt64) : Value → List (Addr × Obj) → Prop := fun r new => ∃ l t1 t2 t3, r = .ref l ∧ new = [(l, tup3 f.1 t1 f.2.1 t2 f.2.2 t3)]
theorem post3 {l : Addr} {x y z : UInt64} {t u v : Tok} {f : UInt64 × UInt64 × UInt64} (e : f = (x, y, z)) : Post3 f (.ref l) [(l, tup3 x t y u z v)] := by
  subst e; exact ⟨l, t, u, v, rfl, rfl⟩
theorem not_nan {x : UInt64} (h : Float64.isFinite x = true) : Float64.isNaN x = false := by
  unfold Float64.isFinite at h; unfold Float64.isNaN
  cases hd : Float64.decode x <;> rw [hd] at h <;> simp_all
theorem not_inf {x : UInt64} (h : Float64.isFinite x = true) : Float64.isInf x = false := by
  unfold Float64.isFinite at h; unfold Float64.isInf
  cases hd : Float64.decode x <;> rw [hd] at h <;> simp_all
theorem not_over {n : Nat} (h : n < 100) (h2 : 2 ^ 1024 - 2 ^ 970 ≤ n) : False := absurd (Nat.lt_of_lt_of_le h (Nat.le_trans (by decide +kernel) h2)) (Nat.lt_irrefl _)
end Mine
end
section
open PySem PySem.W PySem.Calls PyProof.Rows
set_option maxRecDepth 100000
set_option maxHeartbeats 8000000
namespace Mine
section
variable {prog : Program} {w : World} {A : Around} {E : Value → Shared → Prop} {s : Shared} {h₀ : Heap} {L : Addr} {m : Str → Option Value} {env : Env} {news : List (Addr × Obj)} {α : Type}

noncomputable def SrcAt (prog : Program) (w : World) (A : Around) {α : Type} (as : List α) (proj : Value → α) (Ok : Value → Prop) (xv : Value) (s₁ : Shared) : Prop :=
  ∀ (Q : Value → Shared → Prop) (E : Value → Shared → Prop), (∀ I fp wr P St h₂ tk₂, Walks prog w A I fp wr as.length P St → St 0 h₂ → (∀ b ∈ fp, b < h₂.objs.size) → (∀ b ∈ wr, s₁.heap.objs.size ≤ b) →
    (∀ b o, s₁.heap.get? b = some o → h₂.get? b = some o) → s₁.heap.objs.size ≤ h₂.objs.size → (∀ i v, P i v → as[i]? = some (proj v) ∧ Ok v) → Q (.ref I) { s₁ with heap := h₂, toks := tk₂ }) → wpAny (model prog w) A (pyIter xv) Q E s₁

theorem src_list {vs : List Value} {ax : Addr} {proj : Value → α} {Ok : Value → Prop} (hh : A.handled = none) (hl : s.heap.IsList ax vs.toArray) (ok : ∀ v ∈ vs, Ok v) : SrcAt prog w A (vs.map proj) proj Ok (.ref ax) s := by
  intro Q E k
  have hlt : ax < s.heap.objs.size := by obtain ⟨_, e, _⟩ := hl; exact Heap.lt_size e
  refine wpAny_pyIter_list hl ?_
  have W := Walks.list (prog := prog) (w := w) (A := A) hh s.heap.objs.size ax (Nat.ne_of_lt hlt) vs.toArray
  have hlen : vs.toArray.size = (vs.map proj).length := by simp
  rw [hlen] at W
  refine k s.heap.objs.size [s.heap.objs.size, ax] [s.heap.objs.size] _ _ _ s.toks W ⟨⟨_, Heap.get?_push_size _ rfl, rfl, rfl⟩, hl.push _⟩ ?_ (by simp) (fun b o e => Heap.get?_push_of_some _ e) (by rw [Heap.size_push]; exact Nat.le_succ _) ?_
  · intro b hb
    rw [Heap.size_push]
    rcases List.mem_cons.mp hb with rfl | hb
    · exact Nat.lt_succ_self _
    · rw [List.mem_singleton.mp hb]; exact Nat.lt_succ_of_lt hlt
  · intro i v hP
    have hP' : vs[i]? = some v := by simpa using hP
    exact ⟨by simp [hP'], ok v (List.mem_of_getElem? hP')⟩

/-- a word that no line of the walk opens -/
noncomputable def Opq (P : Prop) : Prop := P
noncomputable abbrev testsOf (ifs : List Expr) (cenv : Env) : Sem Bool := forIn ifs true fun c r => if r = true then do let ok ← isTrue c cenv (eval c cenv); pure (ForInStep.yield ok) else pure (ForInStep.yield r)

theorem paired_map {proj : Value → α} {p : α → Bool} {G : α → Value → Prop} : ∀ {vs : List Value} {ys : List Value}, Paired (fun v y => G (proj v) y) (vs.filter fun v => p (proj v)) ys → Paired G ((vs.map proj).filter p) ys := by
  intro vs
  have key : ∀ (l : List Value) (ys : List Value), Paired (fun v y => G (proj v) y) l ys → Paired G (l.map proj) ys := by
    intro l ys h
    induction h with
    | nil => exact .nil
    | cons a _ ih => exact .cons a ih
  intro ys h
  have := key _ _ h
  rwa [show (vs.filter fun v => p (proj v)).map proj = (vs.map proj).filter p from by rw [List.filter_map]; rfl] at this

theorem map_of_places {proj : Value → α} {as : List α} {vs : List Value} (hlen : vs.length = as.length) (h : ∀ (j : Nat) (v : Value), vs[j]? = some v → as[j]? = some (proj v)) : vs.map proj = as := by
  refine List.ext_getElem? fun j => ?_
  rw [List.getElem?_map]
  cases e : vs[j]? with
  | none =>
    have : as.length ≤ j := by rw [← hlen]; exact List.getElem?_eq_none_iff.mp e
    rw [List.getElem?_eq_none this]; rfl
  | some v => rw [h j v e]; rfl

theorem comp_eval {as : List α} {proj : Value → α} {Ok : Value → Prop} (p : α → Bool) (G : α → Value → Prop) {elt iter : Expr} {x : Str} {px : Pos} {ifs : List Expr} {scope : Scope} {cl : List (Str × Addr)} {pos : Pos} {Q : Value → Shared → Prop}
    (hclos : closureFor scope env = pure cl) (hcell : ∀ y ∈ scope.names, y.2 ≠ .cell) (hkind : scope.kind = .function)
    (hnames : ∀ y ∈ scope.names, y.2 = .local → scope.names.lookup y.1 = some .local) (hx : scope.names.lookup x = some .local)
    (h : wpAny (model prog w) A (eval iter env) (fun xv s₁ => Opq (∃ h₁ tk₁, s₁ = { s with heap := h₁, toks := tk₁ } ∧ Fr h₀ L h₁ m ∧ News h₀ L h₁ news ∧ as.length ≤ sizeLine ∧ SrcAt prog w A as proj Ok xv s₁ ∧
      (∀ C v s₂ m₂ E', s₁.heap.objs.size ≤ C → proj v ∈ as → Ok v → s₂.heap.Ns C m₂ → m₂ x = some v → (∀ b o, s₁.heap.get? b = some o → s₂.heap.get? b = some o) →
        wpAny (model prog w) A (testsOf ifs (compEnvC scope cl C env)) (fun ok s₃ => Opq (ok = p (proj v) ∧ Keeps s₂ s₃)) E' s₂) ∧
      (∀ C v s₂ m₂ E', s₁.heap.objs.size ≤ C → proj v ∈ as → Ok v → p (proj v) = true → s₂.heap.Ns C m₂ → m₂ x = some v → (∀ b o, s₁.heap.get? b = some o → s₂.heap.get? b = some o) →
        wpAny (model prog w) A (eval elt (compEnvC scope cl C env)) (fun y s₃ => Opq (G (proj v) y ∧ Keeps s₂ s₃)) E' s₂) ∧
      (∀ D ys n h' tk, Fr h₀ L h' m → News h₀ L h' ((D, listOf ys n) :: news) → s₁.heap.get? D = none → (∀ b o, s₁.heap.get? b = some o → h'.get? b = some o) → Paired G (as.filter p) ys.toList → Q (.ref D) { s with heap := h', toks := tk }))) E s)
    (hs : ∀ x, foldedSetIterable iter env x = pure x := by intro _; rfl) :
    wpAny (model prog w) A (eval (.ListComp elt [⟨.Name x px, iter, ifs, 0⟩] scope pos) env) Q E s := by
  refine wpAny_ListComp_free (fun v => p (proj v)) (fun v y => G (proj v) y) hclos hcell hkind hnames hx (wpAny_mono h (fun xv s₁ hq => ?_) fun _ _ e => e) hs
  obtain ⟨h₁, tk₁, rfl, F, N, hsz, S, htests, helt, hdone⟩ := hq
  refine S _ _ fun I fp wr P St h₂ tk₂ W hst hfp hwr hkeep hle hP => ?_
  have nw : ∀ {b o}, h₁.get? b = some o → b ∉ wr := fun e hb => absurd (Heap.lt_size e) (Nat.not_lt.mpr (hwr _ hb))
  have up : ∀ {s₃ : Heap}, (∀ b o, b ∉ wr → h₂.get? b = some o → s₃.get? b = some o) → ∀ b o, h₁.get? b = some o → s₃.get? b = some o := fun hk b o e => hk b o (nw e) (hkeep b o e)
  refine ⟨I, fp, wr, as.length, P, St, rfl, W, hsz, hst, hfp, ⟨?_, ?_⟩, ?_⟩
  · intro C i v s₃ m₃ E' hC hPv hn hm hk _
    exact htests C v s₃ m₃ E' (Nat.le_trans hle hC) (List.mem_of_getElem? (hP i v hPv).1) (hP i v hPv).2 hn hm (up hk)
  · intro C i v s₃ m₃ E' hC hPv hpv hn hm hk _
    exact helt C v s₃ m₃ E' (Nat.le_trans hle hC) (List.mem_of_getElem? (hP i v hPv).1) (hP i v hPv).2 hpv hn hm (up hk)
  · intro D h' tk ys vs hD hl hpl hlen hPl hF hk
    obtain ⟨n, hn⟩ := hpl
    have hmap := map_of_places (proj := proj) hlen fun j v e => (hP j v (hPl j v e)).1
    have hD1 : h₁.get? D = none := by
      cases e : h₁.get? D with
      | none => rfl
      | some o => have e2 := hkeep D o e; rw [hD] at e2; cases e2
    have F' := F.keeps (up hk)
    have N' : News h₀ L h' news := N.grown (up hk)
    refine hdone D ys n h' tk F' (fun q hq => ?_) hD1 (up hk) (hmap ▸ paired_map hF)
    rcases List.mem_cons.mp hq with rfl | hq
    · refine ⟨hn, fun e => ?_, ?_⟩
      · obtain ⟨o, _, _, ho, _⟩ := F.ns
        rw [← e, hD1] at ho; cases ho
      · cases e : h₀.get? D with
        | none => rfl
        | some o => have := F.keep D o e; rw [hD1] at this; cases this
    · exact N' q hq
theorem src_id {vs : List Value} {ax : Addr} {Ok : Value → Prop} (hh : A.handled = none) (hl : s.heap.IsList ax vs.toArray) (ok : ∀ v ∈ vs, Ok v) : SrcAt prog w A vs id Ok (.ref ax) s := by
  have h := src_list (prog := prog) (w := w) (proj := id) hh hl ok
  rwa [List.map_id] at h
theorem src_tup {vs : Array Value} {ax : Addr} {Ok : Value → Prop} (hh : A.handled = none) (hl : s.heap.IsTuple ax vs) (ok : ∀ v ∈ vs.toList, Ok v) : SrcAt prog w A vs.toList id Ok (.ref ax) s := by
  intro Q E k
  have hlt : ax < s.heap.objs.size := by obtain ⟨_, e, _⟩ := hl; exact Heap.lt_size e
  refine wpAny_pyIter_tuple hl ?_
  have W := Walks.tuple (prog := prog) (w := w) (A := A) hh s.heap.objs.size ax (Nat.ne_of_lt hlt) vs
  have hlen : vs.size = vs.toList.length := by simp
  rw [hlen] at W
  refine k s.heap.objs.size [s.heap.objs.size, ax] [s.heap.objs.size] _ _ _ s.toks W ⟨⟨_, Heap.get?_push_size _ rfl, rfl, rfl⟩, hl.push _⟩ ?_ (by simp) (fun b o e => Heap.get?_push_of_some _ e) (by rw [Heap.size_push]; exact Nat.le_succ _) ?_
  · intro b hb
    rw [Heap.size_push]
    rcases List.mem_cons.mp hb with rfl | hb
    · exact Nat.lt_succ_self _
    · rw [List.mem_singleton.mp hb]; exact Nat.lt_succ_of_lt hlt
  · intro i v hP
    have hP' : vs.toList[i]? = some v := by simpa using hP
    exact ⟨hP', ok v (List.mem_of_getElem? hP')⟩
theorem keeps_refl (s : Shared) : Keeps s s := ⟨s.heap, s.toks, rfl, fun _ _ e => e⟩
theorem tests_nil {cenv : Env} {s₂ : Shared} {E' : Value → Shared → Prop} : wpAny (model prog w) A (testsOf [] cenv) (fun ok s₃ => Opq (ok = true ∧ Keeps s₂ s₃)) E' s₂ := wpAny_pure ⟨rfl, keeps_refl _⟩
end
noncomputable abbrev frI (k : Int) : UInt64 := Float64.ofFrac (decide (k < 0) != decide ((16 : Int) < 0)) k.natAbs (Int.natAbs 16)
noncomputable abbrev r16 (x : UInt64) : Int := Flt.toInt Float64.truncOf (Float64.add (Float64.mul x (Float64.ofInt 16)) 4602678819172646912)
noncomputable abbrev ok16 (x : UInt64) : Bool := Float64.isFinite (Float64.add (Float64.mul x (Float64.ofInt 16)) 4602678819172646912)
theorem paired3i {r g b : UInt64} {t1 t2 t3 : Tok} {ys : Array Value} (h : Paired (fun a y => ∃ k t u, a = Value.float k t ∧ y = Value.int (r16 k) u) [.float r t1, .float g t2, .float b t3] ys.toList) :
    ∃ u1 u2 u3, ys = #[.int (r16 r) u1, .int (r16 g) u2, .int (r16 b) u3] := by
  obtain ⟨l⟩ := ys
  cases h with
  | cons h1 h =>
    cases h with
    | cons h2 h =>
      cases h with
      | cons h3 h =>
        cases h
        obtain ⟨_, _, u1, e1, rfl⟩ := h1
        obtain ⟨_, _, u2, e2, rfl⟩ := h2
        obtain ⟨_, _, u3, e3, rfl⟩ := h3
        cases e1; cases e2; cases e3
        exact ⟨u1, u2, u3, rfl⟩
theorem paired3 {r g b : Int} {t1 t2 t3 : Tok} {ys : Array Value} (h : Paired (fun a y => ∃ k t u, a = Value.int k t ∧ y = Value.float (frI k) u) [.int r t1, .int g t2, .int b t3] ys.toList) :
    ∃ u1 u2 u3, ys = #[.float (frI r) u1, .float (frI g) u2, .float (frI b) u3] := by
  obtain ⟨l⟩ := ys
  cases h with
  | cons h1 h =>
    cases h with
    | cons h2 h =>
      cases h with
      | cons h3 h =>
        cases h
        obtain ⟨_, _, u1, e1, rfl⟩ := h1
        obtain ⟨_, _, u2, e2, rfl⟩ := h2
        obtain ⟨_, _, u3, e3, rfl⟩ := h3
        cases e1; cases e2; cases e3
        exact ⟨u1, u2, u3, rfl⟩
end Mine
end
theorem Mine.reset2 : True := by first | walk1 | trivial
section
open PySem PySem.W PySem.Calls PyProof.Rows
set_option maxRecDepth 100000
set_option maxHeartbeats 8000000
namespace Mine
/-- what a call does that may write the objects of `led` alone -/
noncomputable def Does (w : World) (d : Nat) (f : Addr) (vs : List Value) (kw : List (Str × Value)) (led : List (Addr × Obj)) (pre : Heap → Prop) (post : Value → List (Addr × Obj) → Prop) : Prop :=
  ∀ (dp un : Nat) (gd : Option (List Code)) (env : Env) (outer : List Env) (A₀ : Around) (base h₀ : Heap) (L : Addr) (m : Str → Option Value) (s : Shared) (Q E : Value → Shared → Prop)
    (p : Program) (loose : List Str) (mean : ExcName → Option Value) (mg mb : Str → Option Value),
    Below A₀ base outer h₀ → Fr h₀ L s.heap m → (K w.params).In h₀ → News h₀ L s.heap led → Top p loose mean mg mb h₀ → env.frame = some L → env.scope.kind = .function →
    dp + d < recursionLimit → un + 10 * d < cLine → pre s.heap →
    (∀ r fin h' tk', post r fin → Fr h₀ L h' m → News h₀ L h' fin → (∀ b o, b ∉ led.map (·.1) → s.heap.get? b = some o → h'.get? b = some o) → (∀ p ∈ fin, p.1 ∈ led.map (·.1) ∨ s.heap.get? p.1 = none) → Q r { s with heap := h', toks := tk' }) →
    wpAny (model rw0.row.prog w) (Ar dp un gd env outer) (call (.ref f) vs kw) Q E s

section
variable {w : World} {A₀ A : Around} {E : Value → Shared → Prop} {s : Shared} {base h₀ : Heap} {outer : List Env} {L : Addr} {m : Str → Option Value} {env : Env} {led : List (Addr × Obj)} {K : Frag}
    {p : Program} {loose : List Str} {mean : ExcName → Option Value} {mg mb : Str → Option Value} {Q : Value → Shared → Prop} {name qual : Str} {params : Arguments} {body : List Stmt} {scope : Scope} {dV kV doc pm cdv ct oc : Value} {an od : Option Addr} {osl : Array (Option Value)} {f : Addr} {vs : List Value} {kw : List (Str × Value)} {binds : List (Str × Value)}
    {prog : Program}
theorem code_led (post : Value → List (Addr × Obj) → Prop)
    (B : Below A₀ base outer h₀) (F : Fr h₀ L s.heap m) (X₀ : K.In h₀) (N : News h₀ L s.heap led) (T : Top p loose mean mg mb h₀) (hA : A.frames = some (env :: outer)) (hf : env.frame = some L) (hke : env.scope.kind = .function)
    (ho : K.lookup f = some ⟨oc, od, .func (fnOf name qual params body scope dV kV doc pm an cdv ct), osl⟩) (hcd : codeIn K cdv qual = true) (hroom : A.depth < recursionLimit)
    (hbind : BindsTo s (fnOf name qual params body scope dV kV doc pm an cdv ct) ⟨vs, kw⟩ binds) (hloc : ∀ y ∈ binds, scope.names.lookup y.1 = some .local)
    (hco : scope.isCoroutine = false) (hgen : scope.isGenerator = false) (hk : scope.kind = .function) (hcell : ∀ x ∈ scope.names, x.2 ≠ .cell)
    (k : ∀ r fin h' tk', post r fin → Fr h₀ L h' m → News h₀ L h' fin → (∀ b o, b ∉ led.map (·.1) → s.heap.get? b = some o → h'.get? b = some o) → (∀ p ∈ fin, p.1 ∈ led.map (·.1) ∨ s.heap.get? p.1 = none) → Q r { s with heap := h', toks := tk' })
    (h : ∀ g L' h₁, (∀ b o, b ∉ led.map (·.1) → s.heap.get? b = some o → g.get? b = some o) → Fr g L' h₁ (fun y => binds.reverse.lookup y) → News g L' h₁ led → Below A base (env :: outer) g → K.In g → Top p loose mean mg mb g →
      wpAny (model prog w) (A.deeper (envOf qual scope L' f cdv)) (execs body (envOf qual scope L' f cdv))
        (fun fl s' => PEnd g L' s post (match fl with | .ret v => v | _ => .none) s') (fun _ _ => False) { s with heap := h₁, toks := s.toks + binds.length }) :
    wpAny (model prog w) A (call (.ref f) vs kw) Q E s := by
  refine wpAny_call (code_defG B F X₀ N T hA hf hke ho hcd hroom hbind hloc (fun g L' h₁ FG F' N' B' X' T' G => ?_) hco hgen hk hcell)
  have G' : ∀ b o, b ∉ led.map (·.1) → s.heap.get? b = some o → g.get? b = some o := fun b o n e => G b o e n
  refine wpAny_mono (h g L' h₁ G' F' N' B' X' T') (fun fl s' hp => ?_) (fun _ _ x => x.elim)
  obtain ⟨m', new, h', tk, rfl, F₁, N₁, hpost⟩ := hp
  refine ⟨L', m', new, F₁, N₁, fun F₂ N₂ => ?_⟩
  refine k _ new h' tk hpost F₂ N₂ (fun b o n e => F₁.keep b o (G' b o n e)) (fun q hq => ?_)
  by_cases hm : q.1 ∈ led.map (·.1)
  · exact .inl hm
  · refine .inr ?_
    cases e : s.heap.get? q.1 with
    | none => rfl
    | some o => have := (N₁ q hq).2.2; rw [G' _ _ hm e] at this; cases this

/-- the same, of a def one of whose names is kept in a cell -/
theorem code_ledC (post : Value → List (Addr × Obj) → Prop)
    (B : Below A₀ base outer h₀) (F : Fr h₀ L s.heap m) (X₀ : K.In h₀) (N : News h₀ L s.heap led) (T : Top p loose mean mg mb h₀) (hA : A.frames = some (env :: outer)) (hf : env.frame = some L) (hke : env.scope.kind = .function)
    (ho : K.lookup f = some ⟨oc, od, .func (fnOf name qual params body scope dV kV doc pm an cdv ct), osl⟩) (hcd : codeIn K cdv qual = true) (hroom : A.depth < recursionLimit)
    (hbind : BindsTo s (fnOf name qual params body scope dV kV doc pm an cdv ct) ⟨vs, kw⟩ binds) (hkind : (binds.all fun y => scope.names.lookup y.1 == some .local || scope.names.lookup y.1 == some .cell) = true)
    (hnd : ((cellsFrom 0 scope.names []).map (·.1)).Nodup)
    (hco : scope.isCoroutine = false) (hgen : scope.isGenerator = false) (hk : scope.kind = .function)
    (k : ∀ r fin h' tk', post r fin → Fr h₀ L h' m → News h₀ L h' fin → (∀ b o, b ∉ led.map (·.1) → s.heap.get? b = some o → h'.get? b = some o) → (∀ p ∈ fin, p.1 ∈ led.map (·.1) ∨ s.heap.get? p.1 = none) → Q r { s with heap := h', toks := tk' })
    (h : ∀ g L' h₁ tk cells, (∀ b o, b ∉ led.map (·.1) → s.heap.get? b = some o → g.get? b = some o) → Fr g L' h₁ (bindL (envOfC qual scope L' f cdv).kindOf binds fun _ => none) → News g L' h₁ (cells ++ led) →
      CellsAre (bindC (envOfC qual scope L' f cdv).kindOf binds fun _ => none) (cellsFrom (L' + 1) scope.names []) cells → Below A base (env :: outer) g → K.In g → Top p loose mean mg mb g → (∀ q ∈ led, q.1 < L') →
      wpAny (model prog w) (A.deeper (envOfC qual scope L' f cdv)) (execs body (envOfC qual scope L' f cdv))
        (fun fl s' => PEnd g L' s post (match fl with | .ret v => v | _ => .none) s') (fun _ _ => False) { s with heap := h₁, toks := tk }) :
    wpAny (model prog w) A (call (.ref f) vs kw) Q E s := by
  obtain ⟨FG, BG, st, lv⟩ := groundX (R := fun r s' => match r with | .ok (.ret v) => Q v s' | .ok _ => False | .error e => E e s') B F N hA hf hke
  have G' : ∀ b o, b ∉ led.map (·.1) → s.heap.get? b = some o → (hideAll s.heap (led.map (·.1))).get? b = some o := fun b o n e => hideAll_get _ e n
  refine wpAny_call (codeAny_call_function hroom ((X₀.keeps F.keep) _ _ ho) rfl hco hgen rfl (codeRec_of (X₀.keeps F.keep) hcd) (hbind _ _ _ _ (wpAny_newFunctionEnv_cells hk (kindsX hkind _) fun env' he s' x => ?_)))
  subst he
  refine ⟨(T.nolimit.keeps F.keep).keeps x.toInCall.keep, codeAny_func ?_⟩
  obtain ⟨h₁, tk, rfl, _⟩ := x.done
  have up := x.toInCall.keep
  obtain ⟨cells, NC, Y⟩ := Cl.news (h₀ := s.heap) (Nat.le_refl _) fun n c hm => ⟨x.cell n c (lookup_of_mem_nodup (cellsFrom_names scope.names 0 (s.heap.objs.size + 1) [] [] rfl ▸ hnd) hm), x.above n c hm⟩
  have Nall : News (hideAll s.heap (led.map (·.1))) s.heap.objs.size h₁ (cells ++ led) := by
    intro q hq
    rcases List.mem_append.mp hq with hq | hq
    · have z := NC q hq
      refine ⟨z.1, z.2.1, ?_⟩
      cases e : (hideAll s.heap (led.map (·.1))).get? q.1 with
      | none => rfl
      | some o => have := of_hideAll _ e; rw [z.2.2] at this; cases this
    · exact ⟨up _ _ (N q hq).1, Nat.ne_of_lt (Heap.lt_size (N q hq).1), hideAll_none _ (List.mem_map_of_mem hq)⟩
  refine wpAny_mono (h _ s.heap.objs.size h₁ tk cells G' ⟨x.toInCall.ns, fun b o e => up b o (of_hideAll _ e), Nat.le_of_eq (hideAll_size _ _)⟩ Nall Y BG (X₀.keeps st) (T.keeps st) (fun q hq => Heap.lt_size (N q hq).1)) (fun fl s' hp => ?_) (fun _ _ y => y.elim)
  obtain ⟨m', new, h', tk', rfl, F₁, N₁, hpost⟩ := hp
  refine lv _ _ ⟨_, m', new, F₁, N₁, fun F₂ N₂ => ?_⟩
  refine k _ new h' tk' hpost F₂ N₂ (fun b o n e => F₁.keep b o (G' b o n e)) (fun q hq => ?_)
  by_cases hm : q.1 ∈ led.map (·.1)
  · exact .inl hm
  · refine .inr ?_
    cases e : s.heap.get? q.1 with
    | none => rfl
    | some o => have := (N₁ q hq).2.2; rw [G' _ _ hm e] at this; cases this
end
end Mine
end
section
open PySem PySem.W PySem.Calls PyProof.Rows
set_option maxRecDepth 100000
set_option maxHeartbeats 8000000
namespace Mine
theorem pend_led {g : Heap} {L' : Addr} {s₀ : Shared} {post : Value → List (Addr × Obj) → Prop} {h' : Heap} {tk : Nat} {m' : Str → Option Value} {v : Value} {fin : List (Addr × Obj)}
    (F : Fr g L' h' m') (N : News g L' h' fin) (hp : post v fin) : PEnd g L' s₀ post v { s₀ with heap := h', toks := tk } := ⟨m', _, h', tk, rfl, F, N, hp⟩
theorem call_kw {M : Model} {A : Around} {f : Value} {vs : List Value} {kw kw' : List (Str × Value)} {Q E : Value → Shared → Prop} {s : Shared} (e : kw = kw') (h : wpAny M A (call f vs kw') Q E s) : wpAny M A (call f vs kw) Q E s := e ▸ h
section
variable {prog : Program} {w : World} {A : Around} {E : Value → Shared → Prop} {s : Shared} {env : Env} {h₀ : Heap} {target : Expr} {body : List Stmt} {Q : Flow → Shared → Prop}
/-- a loop over a list of any length, by an invariant over the items that are left -/
theorem items_inv {ws : List (Addr × String)} {keep : List (Addr × Obj)} (J : List Itm → (Str → Option Value) → List (Addr × Obj) → Prop)
    (step : ∀ a r m n, J (a :: r) m n → ∀ v h tk, a.Is v h → Fr h₀ env.locals h m → AllObj ws (fun its => News h₀ env.locals h (its ++ n) →
      wpAny (model prog w) A (assign target env v) (fun _ s₂ => wpAny (model prog w) A (execs body env) (UnrPostW h₀ env.locals { s with heap := h, toks := tk } its (fun m' n' => SubL keep n' ∧ J r m' n') Q) E s₂) E { s with heap := h, toks := tk }))
    (fin : ∀ m n, J [] m n → ∀ h tk, Fr h₀ env.locals h m → News h₀ env.locals h n → Q .next { s with heap := h, toks := tk }) :
    ∀ (xs : List Itm) (m : Str → Option Value) (n : List (Addr × Obj)), J xs m n → ItemsRest prog w A E h₀ env target body Q s ws keep xs m n := by
  intro xs
  induction xs with
  | nil => exact fun m n hJ => fin m n hJ
  | cons a r ih =>
    intro m n hJ v h tk hv F
    have mono : ∀ (ws : List (Addr × String)) {k k' : List (Addr × Obj) → Prop}, (∀ its, k its → k' its) → AllObj ws k → AllObj ws k' := by
      intro ws
      induction ws with
      | nil => exact fun h x => h _ x
      | cons w ws ihw => exact fun h x o ho => ihw (fun its => h _) (x o ho)
    refine mono ws (fun its x N => ?_) (step a r m n hJ v h tk hv F)
    refine wpAny_mono (x N) (fun _ s₂ h₂ => wpAny_mono h₂ (fun f s₃ p => ?_) fun _ _ e => e) fun _ _ e => e
    cases f with
    | ret v => exact p
    | brk => exact p
    | next => obtain ⟨h', tk', m', n', e, F', N', hn, hk, hj⟩ := p; exact ⟨h', tk', m', n', e, F', N', hn, hk, ih m' n' hj⟩
    | cont => obtain ⟨h', tk', m', n', e, F', N', hn, hk, hj⟩ := p; exact ⟨h', tk', m', n', e, F', N', hn, hk, ih m' n' hj⟩
end
/-- a frame's map, with one name's value written out -/
theorem fr_fix {h₀ h : Heap} {L : Addr} {m : Str → Option Value} (F : Fr h₀ L h m) (x : Str) (v : Option Value) (e : m x = v) : Fr h₀ L h (fun y => if y = x then v else m y) := by
  have : (fun y => if y = x then v else m y) = m := by funext y; split <;> simp_all
  rw [this]; exact F
/-- a row of the table: the tuple's address, the name and the value -/
structure Rw where
  a : Addr
  k : Str
  tk : Tok
  v : Str
  tv : Tok
noncomputable abbrev tup2 (k : Str) (tk : Tok) (v : Str) (tv : Tok) : Obj := { cls := .type "tuple", data := .seq #[.str k tk, .str v tv] }
noncomputable def Rw.ent (r : Rw) : Addr × Obj := (r.a, tup2 r.k r.tk r.v r.tv)
noncomputable def Rw.ref (r : Rw) : Value := .ref r.a
/-- the table's own objects -/
noncomputable abbrev tblO (tb dx lh : Addr) (hs : Int) (tk₀ : Tok) (nd n : Nat) (rows : List Rw) : List (Addr × Obj) :=
  (tb, instObj 182 dx) :: (dx, dictOf [⟨hs, .str (Str.ofString "_headers") tk₀, .ref lh⟩] nd) :: (lh, listOf (rows.map Rw.ref).toArray n) :: rows.map Rw.ent
/-- what get answers: the first row's value whose name is the same in small letters -/
noncomputable def getRes (rows : List Rw) (nm : Str) : Value := match rows.find? (fun r => Txt.lower r.k == Txt.lower nm) with | some r => .str r.v r.tv | none => .none
theorem getRes_hit {rows pre rest : List Rw} {q : Rw} {nm : Str} (e : rows = pre ++ q :: rest) (h : ∀ r ∈ pre, Txt.lower r.k ≠ Txt.lower nm) (hq : (Txt.lower q.k == Txt.lower nm) = true) : getRes rows nm = .str q.v q.tv := by
  have : rows.find? (fun r => Txt.lower r.k == Txt.lower nm) = some q := by
    rw [e, List.find?_append, List.find?_eq_none.mpr (by intro r hr; simp [h r hr]), List.find?_cons, hq]; rfl
  unfold getRes; rw [this]
theorem getRes_none {rows : List Rw} {nm : Str} (h : ∀ r ∈ rows, Txt.lower r.k ≠ Txt.lower nm) : getRes rows nm = .none := by
  have : rows.find? (fun r => Txt.lower r.k == Txt.lower nm) = none := List.find?_eq_none.mpr (by intro r hr; simp [h r hr])
  unfold getRes; rw [this]
/-- what a call does that writes nothing old, and that reads the objects of `led` in the caller's own ledger -/
noncomputable def Reads (w : World) (d : Nat) (f : Addr) (vs : List Value) (kw : List (Str × Value)) (led : List (Addr × Obj)) (post : Value → List (Addr × Obj) → Prop) : Prop :=
  ∀ (dp un : Nat) (gd : Option (List Code)) (env : Env) (outer : List Env) (A₀ : Around) (base h₀ : Heap) (L : Addr) (m : Str → Option Value) (big : List (Addr × Obj)) (s : Shared) (Q E : Value → Shared → Prop)
    (p : Program) (loose : List Str) (mean : ExcName → Option Value) (mg mb : Str → Option Value),
    Below A₀ base outer h₀ → Fr h₀ L s.heap m → (K w.params).In h₀ → News h₀ L s.heap big → (∀ q ∈ led, q ∈ big) → Top p loose mean mg mb h₀ → env.frame = some L → env.scope.kind = .function →
    dp + d < recursionLimit → un + 10 * d < cLine →
    (∀ r new h' tk', post r new → Fr h₀ L h' m → News h₀ L h' (new ++ big) → (∀ b o, s.heap.get? b = some o → h'.get? b = some o) → (∀ p ∈ new, p.1 ∈ led.map (·.1) ∨ s.heap.get? p.1 = none) → Q r { s with heap := h', toks := tk' }) →
    wpAny (model rw0.row.prog w) (Ar dp un gd env outer) (call (.ref f) vs kw) Q E s
theorem Does.reads {w : World} {d : Nat} {f : Addr} {vs : List Value} {kw : List (Str × Value)} {led : List (Addr × Obj)} {post : Value → List (Addr × Obj) → Prop}
    (D : Does w d f vs kw led (fun _ => True) (fun r fin => ∃ new, post r new ∧ fin = new ++ led)) : Reads w d f vs kw led post := by
  intro dp un gd env outer A₀ base h₀ L m big s Q E p loose mean mg mb B F X N hsub T hf hk hdp hun k
  refine D dp un gd env outer A₀ base h₀ L m s Q E p loose mean mg mb B F X (fun q hq => N q (hsub q hq)) T hf hk hdp hun trivial ?_
  rintro r fin h' tk' ⟨new, hp, rfl⟩ F' N' hkeep hnew
  have keep : ∀ b o, s.heap.get? b = some o → h'.get? b = some o := by
    intro b o e
    by_cases hb : b ∈ led.map (·.1)
    · obtain ⟨q, hq, rfl⟩ := List.mem_map.mp hb
      have h1 := (N q (hsub q hq)).1
      rw [e] at h1
      rw [Option.some.inj h1]
      exact (N' q (List.mem_append_right _ hq)).1
    · exact hkeep b o hb e
  refine k r new h' tk' hp F' (fun q hq => ?_) keep (fun q hq => hnew q (List.mem_append_left _ hq))
  rcases List.mem_append.mp hq with hq | hq
  · exact N' q (List.mem_append_left _ hq)
  · exact ⟨keep _ _ (N q hq).1, (N q hq).2⟩
/-- a marker: the table that the lines speak of -/
noncomputable def TM (tb dx lh : Addr) (hs : Int) (tk₀ : Tok) (nd n : Nat) (rows : List Rw) : Prop := tb = tb ∧ dx = dx ∧ lh = lh ∧ hs = hs ∧ tk₀ = tk₀ ∧ nd = nd ∧ n = n ∧ rows = rows
theorem tm (tb dx lh : Addr) (hs : Int) (tk₀ : Tok) (nd n : Nat) (rows : List Rw) : TM tb dx lh hs tk₀ nd n rows := ⟨rfl, rfl, rfl, rfl, rfl, rfl, rfl, rfl⟩
theorem TM.with {tb dx lh : Addr} {hs : Int} {tk₀ : Tok} {nd n : Nat} {rows : List Rw} {P : Addr → Addr → Addr → Int → Tok → Nat → Nat → List Rw → Prop} (_ : TM tb dx lh hs tk₀ nd n rows) (h : P tb dx lh hs tk₀ nd n rows) : P tb dx lh hs tk₀ nd n rows := h
end Mine
end
section
open PySem PySem.W PySem.Calls PyProof.Rows
namespace Mine
abbrev Tm := Lean.TSyntax `term
abbrev Tc := Lean.TSyntax `tactic
def vF : Lean.MacroM Tm := `(Value.float _ _)
def vI : Lean.MacroM Tm := `(Value.int _ _)
def vR : Lean.MacroM Tm := `(Value.ref _)
def vS : Lean.MacroM Tm := `(Value.str _ _)
def vB : Lean.MacroM Tm := `(Value.bool _)
def vK (n : Nat) : Lean.MacroM Tm := `(Value.int $(Lean.quote n) _)
def vAny : Lean.MacroM Tm := `(_)
def vL (l : List (Lean.MacroM Tm)) : Lean.MacroM Tm := do
  let xs := (← l.mapM id).toArray
  `([$xs,*])
def pSkip : Nat → Lean.MacroM Tc := fun _ => `(tactic| skip)
def pNews : Nat → Lean.MacroM Tc := fun _ => `(tactic| (with_reducible rename News _ _ _ _ => nOld))
def pTM : Nat → Lean.MacroM Tc := fun _ => `(tactic| (rename TM _ _ _ _ _ _ _ _ => tM))
def pKw (b : Lean.MacroM Tm) : Nat → Lean.MacroM Tc := fun _ => do
  `(tactic| (refine call_kw (kw' := [(Str.ofString "name", Value.bool $(← b))]) (by first | rfl | with_unfolding_all rfl) ?_))
def oCase (i : Nat) : Lean.MacroM Tc := match i with
  | 0 => `(tactic| (case za => walk_at "fact"))
  | 1 => `(tactic| (case zb => walk_at "fact"))
  | 2 => `(tactic| (case zc => walk_at "fact"))
  | 3 => `(tactic| (case zd => walk_at "fact"))
  | 4 => `(tactic| (case ze => walk_at "fact"))
  | _ => `(tactic| (case zf => walk_at "fact"))
def aCase (i : Nat) : Lean.MacroM Tc := match i with
  | 0 => `(tactic| (case za => assumption))
  | 1 => `(tactic| (case zb => assumption))
  | 2 => `(tactic| (case zc => assumption))
  | 3 => `(tactic| (case zd => assumption))
  | 4 => `(tactic| (case ze => assumption))
  | _ => `(tactic| (case zf => assumption))
def hole (i : Nat) : Lean.MacroM Tm := match i with
  | 0 => `(?za)
  | 1 => `(?zb)
  | 2 => `(?zc)
  | 3 => `(?zd)
  | 4 => `(?ze)
  | _ => `(?zf)
def cs (l : List (Lean.MacroM Tc)) : Lean.MacroM Tc := do
  let xs := (← l.mapM id).toArray
  if xs.isEmpty then `(tactic| skip) else `(tactic| ($[$xs:tactic]*))
def cpList : Lean.MacroM Tc := `(tactic| (case cp => exact Heap.IsList.at (by assumption) (fun o e => Fr.keep (by assumption) _ o e)))
def cpGet : Lean.MacroM Tc := `(tactic| (case cp => exact (News.get (by with_reducible assumption) (by k_mem))))
def cpTwo : Lean.MacroM Tc := `(tactic| (case cp => exact ⟨News.isList (by with_reducible assumption) (by k_mem), News.isList (by with_reducible assumption) (by k_mem)⟩))
def sp (f : Lean.Name) (l : List (Lean.MacroM Tm)) : Lean.MacroM Tm := do
  let xs := (← l.mapM id).toArray
  `(($(Lean.mkCIdent f) $xs*))
def spT (f : Lean.Name) (l : List (Lean.MacroM Tm)) : Lean.MacroM Tm := do
  let xs := (← l.mapM id).toArray
  `(($(Lean.mkCIdent f) tM $xs*))
def tlT : Lean.MacroM Tm := `(trivial)
def tlC : Lean.MacroM Tm := `(?cp)
def obA : Lean.MacroM Tc := `(tactic| (obtain ⟨e1', t', e2'⟩ := hpost'))
def obB : Lean.MacroM Tc := `(tactic| (obtain ⟨e1', e2'⟩ := hpost'))
def obC : Lean.MacroM Tc := `(tactic| (obtain ⟨l', t1', t2', t3', e1', e2'⟩ := hpost'))
def obD : Lean.MacroM Tc := `(tactic| (obtain ⟨l', u1', u2', u3', n', e1', e2'⟩ := hpost'))
def obE : Lean.MacroM Tc := `(tactic| (obtain ⟨l', n2', e1', e2'⟩ := hpost'))
def obF : Lean.MacroM Tc := `(tactic| (obtain ⟨⟨t', e1'⟩, e2'⟩ := hpost'))
def obG : Lean.MacroM Tc := `(tactic| (obtain ⟨a', fv', n', e1', e2', i'⟩ := hpost'))
def fnA : Lean.MacroM Tc := `(tactic| (subst e1'; subst e2'; (try simp only [List.nil_append] at N'); clear hfr' hkp'; (try dsimp only)))
def fnB : Lean.MacroM Tc := `(tactic| (subst e1'; subst e2'; (try simp only [List.nil_append] at N'); clear hfr'; (try dsimp only)))
def fnD : Lean.MacroM Tc := `(tactic| (subst e1'; subst e2'; (simp only [List.cons_append, List.nil_append, tup3] at N'); clear hfr'; (try dsimp only)))
def fnF : Lean.MacroM Tc := `(tactic| (subst e1'; subst e2'; (simp only [List.cons_append, List.nil_append] at N'); clear hfr' hkp' nOld; (try dsimp only)))
def useP (n : Nat) (a : Lean.MacroM Tm) (pre : Nat → Lean.MacroM Tc) (s tl : Lean.MacroM Tm) (cs ob fin : Lean.MacroM Tc) : Lean.MacroM Tc := do
  `(tactic| ((with_reducible show wpAny _ _ (call (Value.ref $(Lean.quote n)) $(← a) _) _ _ _); $(← pre n); k_dflt (refine' $(← s) _ _ _ _ _ _ _ _ _ _ _ _ _ _ _ _ _ _ _ ?cB ?cF ?cX ?cN ?cT ?cf ?ck ?cd ?cu $(← tl) ?_; $(← cs); (case cB => assumption); (case cF => assumption); (case cX => assumption); (case cN => first | assumption | exact News.nil); (case cT => assumption); (case cf => exact rfl); (case ck => exact rfl); (case cd => walk_at "room"); (case cu => walk_at "room")); intro r' new' h' tk' hpost' F' N' hkp' hfr'; $(← ob); $(← fin)))
def csOld : Lean.MacroM Tc := `(tactic| (case cS => first | exact fun _ h => h | assumption))
def useR (n : Nat) (a : Lean.MacroM Tm) (pre : Nat → Lean.MacroM Tc) (s : Lean.MacroM Tm) (cS cs ob fin : Lean.MacroM Tc) : Lean.MacroM Tc := do
  `(tactic| ((with_reducible show wpAny _ _ (call (Value.ref $(Lean.quote n)) $(← a) _) _ _ _); $(← pre n); k_dflt (refine' $(← s) _ _ _ _ _ _ _ _ _ _ _ _ _ _ _ _ _ _ _ ?cB ?cF ?cX ?cN ?cS ?cT ?cf ?ck ?cd ?cu ?_; (case cB => assumption); (case cF => assumption); (case cX => assumption); (case cN => assumption); $(← cS); (case cT => assumption); $(← cs); (case cf => exact rfl); (case ck => exact rfl); (case cd => walk_at "room"); (case cu => walk_at "room")); intro r' new' h' tk' hpost' F' N' hkp' hfr'; $(← ob); $(← fin)))
end Mine
end
section
section
open PySem PySem.W PySem.Calls PyProof.Rows
namespace Mine
section
local macro_rules | `(tactic| walk_at "fact") => `(tactic| first | exact ⟨by assumption, by assumption⟩ | assumption | omega)
local macro_rules | `(tactic| walk_at "room") => `(tactic| first | (refine room1 (by assumption) ?_; exact rfl) | (refine room2 (by assumption) ?_; exact rfl) | exact room0 (by assumption) | ktr_room | ktr_units)
local macro_rules | `(tactic| k_room) => `(tactic| walk_at "room")
local macro_rules | `(tactic| k_units) => `(tactic| walk_at "room")
local macro_rules | `(tactic| walk_at "end val") => `(tactic| ((try dsimp only); exact pend_val (by assumption) ⟨rfl, _, rfl⟩))
local macro_rules | `(tactic| walk_at "call builtin:max") => `(tactic| (k_here; (with_reducible show wpAny _ _ (call (Value.builtin "max") [Value.float _ _, Value.float _ _, Value.float _ _]) _ _ _); (with_unfolding_all refine' max_three_ff ?k0 ?k1 ?k2 ?_; (case k0 => exact rfl); (case k1 => k_asm); (case k2 => k_asm)); intro h' tk' v' F' N'))
local macro_rules | `(tactic| walk_at "call builtin:min") => `(tactic| (k_here; (with_reducible show wpAny _ _ (call (Value.builtin "min") [Value.float _ _, Value.float _ _, Value.float _ _]) _ _ _); (with_unfolding_all refine' min_three_ff ?k0 ?k1 ?k2 ?_; (case k0 => exact rfl); (case k1 => k_asm); (case k2 => k_asm)); intro h' tk' v' F' N'))
local macro_rules | `(tactic| walk_at "steps to a comprehension") => `(tactic| repeat' ((fail_if_success (with_reducible show wpAny _ _ (eval (PySem.Expr.ListComp _ _ _ _) _) _ _ _)); (fail_if_success (with_reducible show wpAny _ _ (exec (PySem.Stmt.Assign _ (PySem.Expr.ListComp _ _ _ _) _) _) _ _ _)); (first | (k_unfold; (try dsimp only)) | (k_end; kc_close) | walk1 | (dsimp only; walk1) | (leave1; walk_say "STEP leave1"; (try dsimp only)))))
section
open PySem PySem.W PySem.Calls PyProof.Rows
set_option maxRecDepth 100000
set_option maxHeartbeats 8000000
theorem fillC1 (w : World) (h : Heap) (X : (K w.params).In h) (e : rw0.foot = 7) : (K w.params).In h ∧ rw0.foot = 7 := by
  k_fill
  exact ⟨X, e⟩

noncomputable def pmin (a b : Int) : Int := if b < a then b else a
noncomputable def pmax (a b : Int) : Int := if b > a then b else a
noncomputable def partI (hue unit white side corner : Int) : Int :=
  white + unit * pmax 0 (pmin side (2 * side - pmin ((hue - corner).fmod (6 * side)) (6 * side - (hue - corner).fmod (6 * side))))
noncomputable def stGet (l : List Stmt) (i : Nat) : Stmt := (l[i]?).getD (.Pass ⟨0, 0, 0, 0⟩)
noncomputable def forBody : Stmt → List Stmt | .For _ _ b _ _ => b | _ => []
noncomputable def partsT : { x : List Stmt // forBody (stGet partsB.1 1) = x } := by apply Subtype.mk; (conv => lhs; whnf)
theorem parts_turn (w : World) {dp un : Nat} {gd : Option (List Code)} {env : Env} {outer : List Env} {base g h₁ : Heap} {L' : Addr} {s : Shared} {tk : Nat} {Q : Flow → Shared → Prop}
    {p : Program} {loose : List Str} {mean : ExcName → Option Value} {mg mb : Str → Option Value} {m : Str → Option Value} {hue unit white side corner : Int} {t1 t2 t3 t4 t5 : Tok} {i d l : Addr} {o1 o2 : Obj} {ys : Array Value} {n : Nat}
    (B : Below (Ar dp un gd env outer) base (env :: outer) g) (X : (K w.params).In g) (T : Top p loose mean mg mb g) (hdp : dp + 2 < recursionLimit) (hun : un + 10 * 2 < cLine)
    (h1 : 0 ≤ hue ∧ hue < 18) (h2 : 1 ≤ unit ∧ unit ≤ 3) (h3 : 0 ≤ white ∧ white ≤ 6) (h4 : 1 ≤ side ∧ side ≤ 3) (h5 : 0 ≤ corner ∧ corner ≤ 4 * side)
    (F : Fr g L' h₁ m) (m1 : m (Str.ofString "hue") = some (.int hue t1)) (m2 : m (Str.ofString "unit") = some (.int unit t2)) (m3 : m (Str.ofString "white") = some (.int white t3)) (m4 : m (Str.ofString "side") = some (.int side t4)) (m5 : m (Str.ofString "parts") = some (.ref l)) (m6 : m (Str.ofString "corner") = some (.int corner t5))
    (N : News g L' h₁ [(i, o1), (d, o2), (l, listOf ys n)]) (n1 : @Ne Nat i l) (n2 : @Ne Nat d l) (hy : ys.size ≤ 3)
    (k : ∀ (m' : Str → Option Value) h' tk' u n', Fr g L' h' (fun y => if y = Str.ofString "parts" then some (.ref l) else if y = Str.ofString "side" then some (.int side t4) else if y = Str.ofString "white" then some (.int white t3) else if y = Str.ofString "unit" then some (.int unit t2) else if y = Str.ofString "hue" then some (.int hue t1) else m' y) → News g L' h' [(i, o1), (d, o2), (l, listOf (ys.push (.int (partI hue unit white side corner) u)) n')] → Q .next { s with heap := h', toks := tk' }) :
    wpAny (model rw0.row.prog w) ((Ar dp un gd env outer).deeper (envOf (Str.ofString "_law_parts") partsS.1 L' 313 (.ref 312))) (execs partsT.1 (envOf (Str.ofString "_law_parts") partsS.1 L' 313 (.ref 312))) Q (fun _ _ => False) { s with heap := h₁, toks := tk } := by
  have F1 := fr_fix F (Str.ofString "hue") _ m1
  have F2 := fr_fix F1 (Str.ofString "unit") _ m2
  have F3 := fr_fix F2 (Str.ofString "white") _ m3
  have F4 := fr_fix F3 (Str.ofString "side") _ m4
  have F5 := fr_fix F4 (Str.ofString "parts") _ m5
  have F6 := fr_fix F5 (Str.ofString "corner") _ m6
  clear F F1 F2 F3 F4 F5
  obtain ⟨h1a, h1b⟩ := h1
  obtain ⟨h2a, h2b⟩ := h2
  obtain ⟨h3a, h3b⟩ := h3
  obtain ⟨h4a, h4b⟩ := h4
  obtain ⟨h5a, h5b⟩ := h5
  dsimp only [partsS, partsT]
  k_steps
  (rename News _ _ _ _ => N9)
  (rename Fr _ _ _ _ => F9)
  have G1 := fr_fix F9 (Str.ofString "hue") (some (.int hue t1)) (by rfl)
  have G2 := fr_fix G1 (Str.ofString "unit") (some (.int unit t2)) (by rfl)
  have G3 := fr_fix G2 (Str.ofString "white") (some (.int white t3)) (by rfl)
  have G4 := fr_fix G3 (Str.ofString "side") (some (.int side t4)) (by rfl)
  have G5 := fr_fix G4 (Str.ofString "parts") (some (.ref l)) (by rfl)
  exact k _ _ _ _ _ G5 N9
local macro_rules | `(tactic| walk_at "execs cons") => `(tactic| ((with_reducible show wpAny _ _ (execs (List.cons (Stmt.Assign (List.cons (Expr.Name (Str.ofString "way") _) List.nil) _ _) (List.cons _ (List.cons _ List.nil))) _) _ _ _); k_dflt ((with_unfolding_all refine' parts_turn _ (by assumption) (by assumption) (by assumption) (by assumption) (by assumption) ?y1 ?y2 ?y3 ?y4 ?y5 (by assumption) ?b1 ?b2 ?b3 ?b4 ?b5 ?b6 (by assumption) ?bn ?bd ?bz ?_); (case b1 => exact rfl); (case b2 => exact rfl); (case b3 => exact rfl); (case b4 => exact rfl); (case b5 => exact rfl); (case b6 => exact rfl); (case y1 => exact ⟨by assumption, by assumption⟩); (case y2 => exact ⟨by assumption, by assumption⟩); (case y3 => exact ⟨by assumption, by assumption⟩); (case y4 => exact ⟨by assumption, by assumption⟩); (case y5 => exact ⟨by omega, by omega⟩); (case bz => exact Nat.le_of_ble_eq_true rfl); (case bn => k_ne); (case bd => k_ne)); intro m' h' tk' u n' F' N'; (try k_sweep)))
theorem parts_spec (w : World) (hue unit white side : Int) (t1 t2 t3 t4 : Tok) (h1 : 0 ≤ hue ∧ hue < 18) (h2 : 1 ≤ unit ∧ unit ≤ 3) (h3 : 0 ≤ white ∧ white ≤ 6) (h4 : 1 ≤ side ∧ side ≤ 3) : Pure w 2 313 [.int hue t1, .int unit t2, .int white t3, .int side t4] [] (fun _ => True) (fun r new => ∃ l u1 u2 u3 n, r = .ref l ∧ new = [(l, listOf #[.int (partI hue unit white side 0) u1, .int (partI hue unit white side (2 * side)) u2, .int (partI hue unit white side (4 * side)) u3] n)]) := by
  intro dp un gd env outer A₀ base h₀ L m news s Q E p loose mean mg mb B F X N T hf hk hdp hun hpre k
  k_dflt (refine' code_pure (binds := [(Str.ofString "hue", .int hue t1), (Str.ofString "unit", .int unit t2), (Str.ofString "white", .int white t3), (Str.ofString "side", .int side t4)]) _ ?k1 ?k2 ?k3 ?k4 ?k5 ?kA ?kF ?kK ?k6 ?k7 ?k8 ?k9 ?kB ?c2 ?c3 ?c4 ?c5 ?kk ?_; (case kA => exact rfl); (case kF => assumption); (case kK => assumption); (case k1 => assumption); (case k2 => assumption); (case k3 => assumption); (case k4 => assumption); (case k5 => assumption); (case k6 => k_is); (case k7 => k_is); (case k8 => walk_at "room"); (case k9 => first | exact BindsTo.of_eq rfl | exact binds_K (by k_in) rfl (by k_is) rfl rfl rfl); (case kB => exact locs rfl); (case c2 => exact rfl); (case c3 => exact rfl); (case c4 => exact rfl); (case c5 => decide); (case kk => assumption))
  clear k B F X N T hf
  intro g' L' h' hkeep' F' N' B' X' T'
  dsimp only [partsB, partsS, partsP, List.reverse_cons, List.reverse_nil, List.nil_append, List.cons_append]
  obtain ⟨h1a, h1b⟩ := h1
  obtain ⟨h2a, h2b⟩ := h2
  obtain ⟨h3a, h3b⟩ := h3
  obtain ⟨h4a, h4b⟩ := h4
  k_steps
  refine pend_one (by assumption) (by assumption) (by k_mem) ⟨_, _, _, _, _, rfl, rfl⟩

end
theorem reset3 : True := by first | walk1 | trivial
section
open PySem PySem.W PySem.Calls PyProof.Rows
set_option maxRecDepth 100000
set_option maxHeartbeats 8000000
theorem fillC2 (w : World) (h : Heap) (X : (K w.params).In h) (e : rw0.foot = 7) : (K w.params).In h ∧ rw0.foot = 7 := by
  k_fill
  exact ⟨X, e⟩
theorem or_spec (w : World) (a b : Int) (t u : Tok)  : Pure w 2 263 [.int a t, .int b u] [] (fun _ => True) (fun r new => new = [] ∧ ∃ t, r = .int (Builtin.bitOr a b) t) := by
  intro dp un gd env outer A₀ base h₀ L m news s Q E p loose mean mg mb B F X N T hf hk hdp hun hpre k
  k_dflt (refine' code_pure (binds := [(Str.ofString "a", .int a t), (Str.ofString "b", .int b u)]) _ ?k1 ?k2 ?k3 ?k4 ?k5 ?kA ?kF ?kK ?k6 ?k7 ?k8 ?k9 ?kB ?c2 ?c3 ?c4 ?c5 ?kk ?_; (case kA => exact rfl); (case kF => assumption); (case kK => assumption); (case k1 => assumption); (case k2 => assumption); (case k3 => assumption); (case k4 => assumption); (case k5 => assumption); (case k6 => k_is); (case k7 => k_is); (case k8 => walk_at "room"); (case k9 => first | exact BindsTo.of_eq rfl | exact binds_K (by k_in) rfl (by k_is) rfl rfl rfl); (case kB => exact locs rfl); (case c2 => exact rfl); (case c3 => exact rfl); (case c4 => exact rfl); (case c5 => decide); (case kk => assumption))
  clear k B F X N T hf
  intro g' L' h' hkeep' F' N' B' X' T'
  dsimp only [orB, orS, orP, List.reverse_cons, List.reverse_nil, List.nil_append, List.cons_append]
  k_steps
  all_goals first
    | walk_at "end val"
    | (simp_all; done)
theorem and_spec (w : World) (a b : Int) (t u : Tok)  : Pure w 2 235 [.int a t, .int b u] [] (fun _ => True) (fun r new => new = [] ∧ ∃ t, r = .int (Builtin.bitAnd a b) t) := by
  intro dp un gd env outer A₀ base h₀ L m news s Q E p loose mean mg mb B F X N T hf hk hdp hun hpre k
  k_dflt (refine' code_pure (binds := [(Str.ofString "a", .int a t), (Str.ofString "b", .int b u)]) _ ?k1 ?k2 ?k3 ?k4 ?k5 ?kA ?kF ?kK ?k6 ?k7 ?k8 ?k9 ?kB ?c2 ?c3 ?c4 ?c5 ?kk ?_; (case kA => exact rfl); (case kF => assumption); (case kK => assumption); (case k1 => assumption); (case k2 => assumption); (case k3 => assumption); (case k4 => assumption); (case k5 => assumption); (case k6 => k_is); (case k7 => k_is); (case k8 => walk_at "room"); (case k9 => first | exact BindsTo.of_eq rfl | exact binds_K (by k_in) rfl (by k_is) rfl rfl rfl); (case kB => exact locs rfl); (case c2 => exact rfl); (case c3 => exact rfl); (case c4 => exact rfl); (case c5 => decide); (case kk => assumption))
  clear k B F X N T hf
  intro g' L' h' hkeep' F' N' B' X' T'
  dsimp only [andB, andS, andP, List.reverse_cons, List.reverse_nil, List.nil_append, List.cons_append]
  k_steps
  all_goals first
    | walk_at "end val"
    | (simp_all; done)
theorem lsh_spec (w : World) (a b : Int) (t u : Tok) (ha : 0 ≤ a ∧ a < 2 ^ 20) (hb : 0 ≤ b ∧ b < 20) : Pure w 2 242 [.int a t, .int b u] [] (fun _ => True) (fun r new => new = [] ∧ ∃ t, r = .int (a * 2 ^ b.toNat) t) := by
  intro dp un gd env outer A₀ base h₀ L m news s Q E p loose mean mg mb B F X N T hf hk hdp hun hpre k
  k_dflt (refine' code_pure (binds := [(Str.ofString "a", .int a t), (Str.ofString "b", .int b u)]) _ ?k1 ?k2 ?k3 ?k4 ?k5 ?kA ?kF ?kK ?k6 ?k7 ?k8 ?k9 ?kB ?c2 ?c3 ?c4 ?c5 ?kk ?_; (case kA => exact rfl); (case kF => assumption); (case kK => assumption); (case k1 => assumption); (case k2 => assumption); (case k3 => assumption); (case k4 => assumption); (case k5 => assumption); (case k6 => k_is); (case k7 => k_is); (case k8 => walk_at "room"); (case k9 => first | exact BindsTo.of_eq rfl | exact binds_K (by k_in) rfl (by k_is) rfl rfl rfl); (case kB => exact locs rfl); (case c2 => exact rfl); (case c3 => exact rfl); (case c4 => exact rfl); (case c5 => decide); (case kk => assumption))
  clear k B F X N T hf
  intro g' L' h' hkeep' F' N' B' X' T'
  dsimp only [lshB, lshS, lshP, List.reverse_cons, List.reverse_nil, List.nil_append, List.cons_append]
  k_steps
  all_goals first
    | walk_at "end val"
    | (simp_all; done)
theorem rsh_spec (w : World) (a b : Int) (t u : Tok) (ha : 0 ≤ a ∧ a < 2 ^ 20) (hb : 0 ≤ b ∧ b < 20) : Pure w 2 270 [.int a t, .int b u] [] (fun _ => True) (fun r new => new = [] ∧ ∃ t, r = .int (a.fdiv (2 ^ b.toNat)) t) := by
  intro dp un gd env outer A₀ base h₀ L m news s Q E p loose mean mg mb B F X N T hf hk hdp hun hpre k
  k_dflt (refine' code_pure (binds := [(Str.ofString "a", .int a t), (Str.ofString "b", .int b u)]) _ ?k1 ?k2 ?k3 ?k4 ?k5 ?kA ?kF ?kK ?k6 ?k7 ?k8 ?k9 ?kB ?c2 ?c3 ?c4 ?c5 ?kk ?_; (case kA => exact rfl); (case kF => assumption); (case kK => assumption); (case k1 => assumption); (case k2 => assumption); (case k3 => assumption); (case k4 => assumption); (case k5 => assumption); (case k6 => k_is); (case k7 => k_is); (case k8 => walk_at "room"); (case k9 => first | exact BindsTo.of_eq rfl | exact binds_K (by k_in) rfl (by k_is) rfl rfl rfl); (case kB => exact locs rfl); (case c2 => exact rfl); (case c3 => exact rfl); (case c4 => exact rfl); (case c5 => decide); (case kk => assumption))
  clear k B F X N T hf
  intro g' L' h' hkeep' F' N' B' X' T'
  dsimp only [rshB, rshS, rshP, List.reverse_cons, List.reverse_nil, List.nil_append, List.cons_append]
  k_steps
  all_goals first
    | walk_at "end val"
    | (simp_all; done)
theorem mod_spec (w : World) (a b : Int) (t u : Tok) (hb : 0 < b ∧ b < 20) : Pure w 2 249 [.int a t, .int b u] [] (fun _ => True) (fun r new => new = [] ∧ ∃ t, r = .int (a.fmod b) t) := by
  intro dp un gd env outer A₀ base h₀ L m news s Q E p loose mean mg mb B F X N T hf hk hdp hun hpre k
  k_dflt (refine' code_pure (binds := [(Str.ofString "a", .int a t), (Str.ofString "b", .int b u)]) _ ?k1 ?k2 ?k3 ?k4 ?k5 ?kA ?kF ?kK ?k6 ?k7 ?k8 ?k9 ?kB ?c2 ?c3 ?c4 ?c5 ?kk ?_; (case kA => exact rfl); (case kF => assumption); (case kK => assumption); (case k1 => assumption); (case k2 => assumption); (case k3 => assumption); (case k4 => assumption); (case k5 => assumption); (case k6 => k_is); (case k7 => k_is); (case k8 => walk_at "room"); (case k9 => first | exact BindsTo.of_eq rfl | exact binds_K (by k_in) rfl (by k_is) rfl rfl rfl); (case kB => exact locs rfl); (case c2 => exact rfl); (case c3 => exact rfl); (case c4 => exact rfl); (case c5 => decide); (case kk => assumption))
  clear k B F X N T hf
  intro g' L' h' hkeep' F' N' B' X' T'
  dsimp only [modB, modS, modP, List.reverse_cons, List.reverse_nil, List.nil_append, List.cons_append]
  k_steps
  all_goals first
    | walk_at "end val"
    | (simp_all; done)
theorem mul_spec (w : World) (a b : Int) (t u : Tok) (ha : 0 ≤ a ∧ a < 2 ^ 20) (hb : 0 ≤ b ∧ b < 20) : Pure w 2 256 [.int a t, .int b u] [] (fun _ => True) (fun r new => new = [] ∧ ∃ t, r = .int (a * b) t) := by
  intro dp un gd env outer A₀ base h₀ L m news s Q E p loose mean mg mb B F X N T hf hk hdp hun hpre k
  k_dflt (refine' code_pure (binds := [(Str.ofString "a", .int a t), (Str.ofString "b", .int b u)]) _ ?k1 ?k2 ?k3 ?k4 ?k5 ?kA ?kF ?kK ?k6 ?k7 ?k8 ?k9 ?kB ?c2 ?c3 ?c4 ?c5 ?kk ?_; (case kA => exact rfl); (case kF => assumption); (case kK => assumption); (case k1 => assumption); (case k2 => assumption); (case k3 => assumption); (case k4 => assumption); (case k5 => assumption); (case k6 => k_is); (case k7 => k_is); (case k8 => walk_at "room"); (case k9 => first | exact BindsTo.of_eq rfl | exact binds_K (by k_in) rfl (by k_is) rfl rfl rfl); (case kB => exact locs rfl); (case c2 => exact rfl); (case c3 => exact rfl); (case c4 => exact rfl); (case c5 => decide); (case kk => assumption))
  clear k B F X N T hf
  intro g' L' h' hkeep' F' N' B' X' T'
  dsimp only [mulB, mulS, mulP, List.reverse_cons, List.reverse_nil, List.nil_append, List.cons_append]
  k_steps
  all_goals first
    | walk_at "end val"
    | (simp_all; done)
theorem add_spec (w : World) (a b : UInt64) (t u : Tok)  : Pure w 2 228 [.float a t, .float b u] [] (fun _ => True) (fun r new => new = [] ∧ ∃ t, r = .float (Float64.add a b) t) := by
  intro dp un gd env outer A₀ base h₀ L m news s Q E p loose mean mg mb B F X N T hf hk hdp hun hpre k
  k_dflt (refine' code_pure (binds := [(Str.ofString "a", .float a t), (Str.ofString "b", .float b u)]) _ ?k1 ?k2 ?k3 ?k4 ?k5 ?kA ?kF ?kK ?k6 ?k7 ?k8 ?k9 ?kB ?c2 ?c3 ?c4 ?c5 ?kk ?_; (case kA => exact rfl); (case kF => assumption); (case kK => assumption); (case k1 => assumption); (case k2 => assumption); (case k3 => assumption); (case k4 => assumption); (case k5 => assumption); (case k6 => k_is); (case k7 => k_is); (case k8 => walk_at "room"); (case k9 => first | exact BindsTo.of_eq rfl | exact binds_K (by k_in) rfl (by k_is) rfl rfl rfl); (case kB => exact locs rfl); (case c2 => exact rfl); (case c3 => exact rfl); (case c4 => exact rfl); (case c5 => decide); (case kk => assumption))
  clear k B F X N T hf
  intro g' L' h' hkeep' F' N' B' X' T'
  dsimp only [addB, addS, addP, List.reverse_cons, List.reverse_nil, List.nil_append, List.cons_append]
  k_steps
  all_goals first
    | walk_at "end val"
    | (simp_all; done)
theorem div_spec (w : World) (a b : Int) (t u : Tok) (ha : 0 ≤ a ∧ a < 1000) (hb : 0 < b ∧ b < 1000) : Pure w 2 277 [.int a t, .int b u] [] (fun _ => True) (fun r new => new = [] ∧ ∃ t, r = .float (Float64.ofFrac (decide (a < 0) != decide (b < 0)) a.natAbs b.natAbs) t) := by
  intro dp un gd env outer A₀ base h₀ L m news s Q E p loose mean mg mb B F X N T hf hk hdp hun hpre k
  k_dflt (refine' code_pure (binds := [(Str.ofString "a", .int a t), (Str.ofString "b", .int b u)]) _ ?k1 ?k2 ?k3 ?k4 ?k5 ?kA ?kF ?kK ?k6 ?k7 ?k8 ?k9 ?kB ?c2 ?c3 ?c4 ?c5 ?kk ?_; (case kA => exact rfl); (case kF => assumption); (case kK => assumption); (case k1 => assumption); (case k2 => assumption); (case k3 => assumption); (case k4 => assumption); (case k5 => assumption); (case k6 => k_is); (case k7 => k_is); (case k8 => walk_at "room"); (case k9 => first | exact BindsTo.of_eq rfl | exact binds_K (by k_in) rfl (by k_is) rfl rfl rfl); (case kB => exact locs rfl); (case c2 => exact rfl); (case c3 => exact rfl); (case c4 => exact rfl); (case c5 => decide); (case kk => assumption))
  clear k B F X N T hf
  intro g' L' h' hkeep' F' N' B' X' T'
  dsimp only [divB, divS, divP, List.reverse_cons, List.reverse_nil, List.nil_append, List.cons_append]
  k_steps
  all_goals first
    | walk_at "end val"
    | (simp_all; done)

end
theorem reset4 : True := by first | walk1 | trivial
section
open PySem PySem.W PySem.Calls PyProof.Rows
set_option maxRecDepth 100000
set_option maxHeartbeats 8000000
theorem fillC3a (w : World) (h : Heap) (X : (K w.params).In h) (e : rw0.foot = 7) : (K w.params).In h ∧ rw0.foot = 7 := by
  k_fill
  exact ⟨X, e⟩
theorem vv_spec (w : World) (a b c : UInt64) (t u v : Tok)  : Pure w 2 207 [.float a t, .float b u, .float c v] [] (fun _ => True) (fun r new => new = [] ∧ ∃ t, r = .float (vvF a b c) t) := by
  intro dp un gd env outer A₀ base h₀ L m news s Q E p loose mean mg mb B F X N T hf hk hdp hun hpre k
  k_dflt (refine' code_pure (binds := [(Str.ofString "m1", .float a t), (Str.ofString "m2", .float b u), (Str.ofString "hue", .float c v)]) _ ?k1 ?k2 ?k3 ?k4 ?k5 ?kA ?kF ?kK ?k6 ?k7 ?k8 ?k9 ?kB ?c2 ?c3 ?c4 ?c5 ?kk ?_; (case kA => exact rfl); (case kF => assumption); (case kK => assumption); (case k1 => assumption); (case k2 => assumption); (case k3 => assumption); (case k4 => assumption); (case k5 => assumption); (case k6 => k_is); (case k7 => k_is); (case k8 => walk_at "room"); (case k9 => first | exact BindsTo.of_eq rfl | exact binds_K (by k_in) rfl (by k_is) rfl rfl rfl); (case kB => exact locs rfl); (case c2 => exact rfl); (case c3 => exact rfl); (case c4 => exact rfl); (case c5 => decide); (case kk => assumption))
  clear k B F X N T hf
  intro g' L' h' hkeep' F' N' B' X' T'
  dsimp only [vvB, vvS, vvP, List.reverse_cons, List.reverse_nil, List.nil_append, List.cons_append]
  k_steps
  all_goals (try dsimp only)
  all_goals (refine pend_val (by assumption) ⟨rfl, ?_⟩; (try simp only [vvF, *, ↓reduceIte, Bool.false_eq_true, Int.reduceEq]); exact ⟨_, rfl⟩)

end
theorem reset5 : True := by first | walk1 | trivial
section
open PySem PySem.W PySem.Calls PyProof.Rows
set_option maxRecDepth 100000
set_option maxHeartbeats 8000000
theorem fillC3b (w : World) (h : Heap) (X : (K w.params).In h) (e : rw0.foot = 7) : (K w.params).In h ∧ rw0.foot = 7 := by
  k_fill
  exact ⟨X, e⟩
theorem six_six {x : Int} (h : 0 ≤ x ∧ x < 6) (n0 : ¬ x = 0) (n1 : ¬ x = 1) (n2 : ¬ x = 2) (n3 : ¬ x = 3) (n4 : ¬ x = 4) (n5 : ¬ x = 5) : False := by
  obtain ⟨n, rfl⟩ := Int.eq_ofNat_of_zero_le h.1
  have h2 : n < 6 := Int.ofNat_lt.mp h.2
  rcases n with _ | _ | _ | _ | _ | _ | n
  · exact n0 rfl
  · exact n1 rfl
  · exact n2 rfl
  · exact n3 rfl
  · exact n4 rfl
  · exact n5 rfl
  · exact absurd (Nat.le_trans (Nat.le_add_left 7 n) h2) (by decide)
theorem rgbV_spec (w : World) (a b c : UInt64) (t u v : Tok) (hfin : Float64.isFinite (Float64.mul a fSix) = true) (hi : (Flt.toInt Float64.truncOf (Float64.mul a fSix)).natAbs < 100) : Pure w 2 221 [.float a t, .float b u, .float c v] [] (fun _ => True) (Post3 (rgbVF a b c)) := by
  intro dp un gd env outer A₀ base h₀ L m news s Q E p loose mean mg mb B F X N T hf hk hdp hun hpre k
  k_dflt (refine' code_pure (binds := [(Str.ofString "h", .float a t), (Str.ofString "s", .float b u), (Str.ofString "v", .float c v)]) _ ?k1 ?k2 ?k3 ?k4 ?k5 ?kA ?kF ?kK ?k6 ?k7 ?k8 ?k9 ?kB ?c2 ?c3 ?c4 ?c5 ?kk ?_; (case kA => exact rfl); (case kF => assumption); (case kK => assumption); (case k1 => assumption); (case k2 => assumption); (case k3 => assumption); (case k4 => assumption); (case k5 => assumption); (case k6 => k_is); (case k7 => k_is); (case k8 => walk_at "room"); (case k9 => first | exact BindsTo.of_eq rfl | exact binds_K (by k_in) rfl (by k_is) rfl rfl rfl); (case kB => exact locs rfl); (case c2 => exact rfl); (case c3 => exact rfl); (case c4 => exact rfl); (case c5 => decide); (case kk => assumption))
  clear k B F X N T hf
  intro g' L' h' hkeep' F' N' B' X' T'
  dsimp only [rgbVB, rgbVS, rgbVP, List.reverse_cons, List.reverse_nil, List.nil_append, List.cons_append]
  have hnn := not_nan hfin
  have hni := not_inf hfin
  have hr : 0 ≤ (Flt.toInt Float64.truncOf (Float64.mul a 4618441417868443648)).fmod 6 ∧ (Flt.toInt Float64.truncOf (Float64.mul a 4618441417868443648)).fmod 6 < 6 := ⟨Int.fmod_nonneg_of_pos _ (by decide), Int.fmod_lt_of_pos _ (by decide)⟩
  k_steps
  all_goals (try dsimp only)
  all_goals first
    | (refine pend_one (by assumption) (by assumption) (by k_mem) (post3 ?_); simp only [rgbVF, hueF, *, ↓reduceIte, Bool.false_eq_true, Int.reduceEq])
    | (exact not_over ‹_› ‹_›)
    | (exact (six_six hr (by assumption) (by assumption) (by assumption) (by assumption) (by assumption) (by assumption)).elim)
    | (exfalso; omega)
    | (simp_all only [Bool.false_eq_true, Bool.true_eq_false])
    | skip
  all_goals trace_state

end
theorem reset6 : True := by first | walk1 | trivial
section
open PySem PySem.W PySem.Calls PyProof.Rows
set_option maxRecDepth 100000
set_option maxHeartbeats 8000000
theorem fillC3c (w : World) (h : Heap) (X : (K w.params).In h) (e : rw0.foot = 7) : (K w.params).In h ∧ rw0.foot = 7 := by
  k_fill
  exact ⟨X, e⟩
theorem hsv_spec (w : World) (a b c : UInt64) (t u v : Tok) (hz1 : Float64.isZero (max3F a b c) = false) (hz2 : Float64.isZero (Float64.sub (max3F a b c) (min3F a b c)) = false) : Pure w 2 214 [.float a t, .float b u, .float c v] [] (fun _ => True) (Post3 (hsvF a b c)) := by
  intro dp un gd env outer A₀ base h₀ L m news s Q E p loose mean mg mb B F X N T hf hk hdp hun hpre k
  k_dflt (refine' code_pure (binds := [(Str.ofString "r", .float a t), (Str.ofString "g", .float b u), (Str.ofString "b", .float c v)]) _ ?k1 ?k2 ?k3 ?k4 ?k5 ?kA ?kF ?kK ?k6 ?k7 ?k8 ?k9 ?kB ?c2 ?c3 ?c4 ?c5 ?kk ?_; (case kA => exact rfl); (case kF => assumption); (case kK => assumption); (case k1 => assumption); (case k2 => assumption); (case k3 => assumption); (case k4 => assumption); (case k5 => assumption); (case k6 => k_is); (case k7 => k_is); (case k8 => walk_at "room"); (case k9 => first | exact BindsTo.of_eq rfl | exact binds_K (by k_in) rfl (by k_is) rfl rfl rfl); (case kB => exact locs rfl); (case c2 => exact rfl); (case c3 => exact rfl); (case c4 => exact rfl); (case c5 => decide); (case kk => assumption))
  clear k B F X N T hf
  intro g' L' h' hkeep' F' N' B' X' T'
  dsimp only [hsvB, hsvS, hsvP, List.reverse_cons, List.reverse_nil, List.nil_append, List.cons_append]
  k_steps
  all_goals (try dsimp only)
  all_goals first
    | (refine pend_one (by assumption) (by assumption) (by k_mem) (post3 ?_); simp only [hsvF, hueF, *, ↓reduceIte, Bool.false_eq_true, Int.reduceEq])
    | (exact not_over ‹_› ‹_›)
    | (exfalso; omega)
    | (simp_all only [Bool.false_eq_true, Bool.true_eq_false])
    | skip
  all_goals trace_state

end
theorem reset7 : True := by first | walk1 | trivial
section
open PySem PySem.W PySem.Calls PyProof.Rows
set_option maxRecDepth 100000
set_option maxHeartbeats 8000000
theorem fillC3d (w : World) (h : Heap) (X : (K w.params).In h) (e : rw0.foot = 7) : (K w.params).In h ∧ rw0.foot = 7 := by
  k_fill
  exact ⟨X, e⟩
theorem hls_spec (w : World) (a b c : UInt64) (t u v : Tok) (hz1 : Float64.isZero (Float64.add (max3F a b c) (min3F a b c)) = false) (hz2 : Float64.isZero (Float64.sub (max3F a b c) (min3F a b c)) = false) (hz3 : Float64.isZero (Float64.sub (Float64.sub fTwo (max3F a b c)) (min3F a b c)) = false) : Pure w 2 193 [.float a t, .float b u, .float c v] [] (fun _ => True) (Post3 (hlsF a b c)) := by
  intro dp un gd env outer A₀ base h₀ L m news s Q E p loose mean mg mb B F X N T hf hk hdp hun hpre k
  k_dflt (refine' code_pure (binds := [(Str.ofString "r", .float a t), (Str.ofString "g", .float b u), (Str.ofString "b", .float c v)]) _ ?k1 ?k2 ?k3 ?k4 ?k5 ?kA ?kF ?kK ?k6 ?k7 ?k8 ?k9 ?kB ?c2 ?c3 ?c4 ?c5 ?kk ?_; (case kA => exact rfl); (case kF => assumption); (case kK => assumption); (case k1 => assumption); (case k2 => assumption); (case k3 => assumption); (case k4 => assumption); (case k5 => assumption); (case k6 => k_is); (case k7 => k_is); (case k8 => walk_at "room"); (case k9 => first | exact BindsTo.of_eq rfl | exact binds_K (by k_in) rfl (by k_is) rfl rfl rfl); (case kB => exact locs rfl); (case c2 => exact rfl); (case c3 => exact rfl); (case c4 => exact rfl); (case c5 => decide); (case kk => assumption))
  clear k B F X N T hf
  intro g' L' h' hkeep' F' N' B' X' T'
  dsimp only [hlsB, hlsS, hlsP, List.reverse_cons, List.reverse_nil, List.nil_append, List.cons_append]
  k_steps
  all_goals (try dsimp only)
  all_goals first
    | (refine pend_one (by assumption) (by assumption) (by k_mem) (post3 ?_); simp only [hlsF, hueF, *, ↓reduceIte, Bool.false_eq_true, Int.reduceEq])
    | (exact not_over ‹_› ‹_›)
    | (exfalso; omega)
    | (simp_all only [Bool.false_eq_true, Bool.true_eq_false])
    | skip
  all_goals trace_state

end
theorem reset8 : True := by first | walk1 | trivial
section
open PySem PySem.W PySem.Calls PyProof.Rows
set_option maxRecDepth 100000
set_option maxHeartbeats 8000000
theorem fillC4 (w : World) (h : Heap) (X : (K w.params).In h) (e : rw0.foot = 7) : (K w.params).In h ∧ rw0.foot = 7 := by
  k_fill
  exact ⟨X, e⟩
local macro_rules | `(tactic| walk_at "call ref") => useP 207 (vL [vF, vF, vF]) pSkip (sp ``vv_spec [vAny, vAny, vAny, vAny, vAny, vAny, vAny]) tlT (cs []) obA fnB
theorem rgbL_spec (w : World) (a b c : UInt64) (t u v : Tok)  : Pure w 4 200 [.float a t, .float b u, .float c v] [] (fun _ => True) (Post3 (rgbLF a b c)) := by
  intro dp un gd env outer A₀ base h₀ L m news s Q E p loose mean mg mb B F X N T hf hk hdp hun hpre k
  k_dflt (refine' code_pure (binds := [(Str.ofString "h", .float a t), (Str.ofString "l", .float b u), (Str.ofString "s", .float c v)]) _ ?k1 ?k2 ?k3 ?k4 ?k5 ?kA ?kF ?kK ?k6 ?k7 ?k8 ?k9 ?kB ?c2 ?c3 ?c4 ?c5 ?kk ?_; (case kA => exact rfl); (case kF => assumption); (case kK => assumption); (case k1 => assumption); (case k2 => assumption); (case k3 => assumption); (case k4 => assumption); (case k5 => assumption); (case k6 => k_is); (case k7 => k_is); (case k8 => walk_at "room"); (case k9 => first | exact BindsTo.of_eq rfl | exact binds_K (by k_in) rfl (by k_is) rfl rfl rfl); (case kB => exact locs rfl); (case c2 => exact rfl); (case c3 => exact rfl); (case c4 => exact rfl); (case c5 => decide); (case kk => assumption))
  clear k B F X N T hf
  intro g' L' h' hkeep' F' N' B' X' T'
  dsimp only [rgbLB, rgbLS, rgbLP, List.reverse_cons, List.reverse_nil, List.nil_append, List.cons_append]
  k_steps
  all_goals (try dsimp only)
  all_goals first
    | (refine pend_one (by assumption) (by assumption) (by k_mem) (post3 ?_); simp only [rgbLF, lightM2, *, ↓reduceIte, Bool.false_eq_true])
    | skip
  all_goals trace_state

end
theorem reset9 : True := by first | walk1 | trivial
section
open PySem PySem.W PySem.Calls PyProof.Rows
set_option maxRecDepth 100000
set_option maxHeartbeats 8000000
theorem fillC5 (w : World) (h : Heap) (X : (K w.params).In h) (e : rw0.foot = 7) : (K w.params).In h ∧ rw0.foot = 7 := by
  k_fill
  exact ⟨X, e⟩
local macro_rules | `(tactic| walk_at "call ref") => useP 277 (vL [vI, vI]) pSkip (sp ``div_spec [vAny, vAny, vAny, vAny, vAny, hole 0, hole 1]) tlT (cs [oCase 0, oCase 1]) obA fnB
local macro_rules | `(tactic| walk_at "call ref") => useP 249 (vL [vI, vI]) pSkip (sp ``mod_spec [vAny, vAny, vAny, vAny, vAny, hole 0]) tlT (cs [oCase 0]) obA fnB
local macro_rules | `(tactic| walk_at "call ref") => useP 193 (vL [vF, vF, vF]) pSkip (sp ``hls_spec [vAny, vAny, vAny, vAny, vAny, vAny, vAny, hole 0, hole 1, hole 2]) tlT (cs [aCase 0, aCase 1, aCase 2]) obC fnD
local macro_rules | `(tactic| walk_at "call ref") => useP 214 (vL [vF, vF, vF]) pSkip (sp ``hsv_spec [vAny, vAny, vAny, vAny, vAny, vAny, vAny, hole 0, hole 1]) tlT (cs [aCase 0, aCase 1]) obC fnD

theorem toldhls_spec (w : World) (l : Addr) (r g b : Int) (t1 t2 t3 tw : Tok) (n : Nat) (wheel : Int) (hr : 0 ≤ r ∧ r ≤ 15) (hg : 0 ≤ g ∧ g ≤ 15) (hb : 0 ≤ b ∧ b ≤ 15) (hw : 6 ≤ wheel ∧ wheel ≤ 18) (hz1 : Float64.isZero (Float64.add (max3F (frI r) (frI g) (frI b)) (min3F (frI r) (frI g) (frI b))) = false) (hz2 : Float64.isZero (Float64.sub (max3F (frI r) (frI g) (frI b)) (min3F (frI r) (frI g) (frI b))) = false) (hz3 : Float64.isZero (Float64.sub (Float64.sub fTwo (max3F (frI r) (frI g) (frI b))) (min3F (frI r) (frI g) (frI b))) = false)
    (hfin : Float64.isFinite (Float64.add (Float64.mul (hlsF (frI r) (frI g) (frI b)).1 (Float64.ofInt wheel)) 4602678819172646912) = true) :
    Pure w 6 323 [.ref l, .int wheel tw, .bool true] [] (fun h => h.get? l = some (listOf #[.int r t1, .int g t2, .int b t3] n)) (fun r' new => new = [] ∧ ∃ t, r' = .int ((Flt.toInt Float64.truncOf (Float64.add (Float64.mul (hlsF (frI r) (frI g) (frI b)).1 (Float64.ofInt wheel)) 4602678819172646912)).fmod wheel) t) := by
  intro dp un gd env outer A₀ base h₀ L m news s Q E p loose mean mg mb B F X N T hf hk hdp hun hpre k
  k_dflt (refine' code_pure (binds := [(Str.ofString "parts", .ref l), (Str.ofString "wheel", .int wheel tw), (Str.ofString "by_light", .bool true)]) _ ?k1 ?k2 ?k3 ?k4 ?k5 ?kA ?kF ?kK ?k6 ?k7 ?k8 ?k9 ?kB ?c2 ?c3 ?c4 ?c5 ?kk ?_; (case kA => exact rfl); (case kF => assumption); (case kK => assumption); (case k1 => assumption); (case k2 => assumption); (case k3 => assumption); (case k4 => assumption); (case k5 => assumption); (case k6 => k_is); (case k7 => k_is); (case k8 => walk_at "room"); (case k9 => first | exact BindsTo.of_eq rfl | exact binds_K (by k_in) rfl (by k_is) rfl rfl rfl); (case kB => exact locs rfl); (case c2 => exact rfl); (case c3 => exact rfl); (case c4 => exact rfl); (case c5 => decide); (case kk => assumption))
  clear k B F X N T hf
  intro g' L' h' hkeep' F' N' B' X' T'
  dsimp only [toldB, toldS, toldP, List.reverse_cons, List.reverse_nil, List.nil_append, List.cons_append]

  have hl' : g'.IsList l [.int r t1, .int g t2, .int b t3].toArray := ⟨_, hkeep' _ _ hpre, rfl, n, rfl⟩
  have hnn := not_nan hfin
  have hni := not_inf hfin
  iterate 2 (all_goals (try (first | (k_unfold; (try dsimp only)) | (k_end; kc_close) | walk1 | (dsimp only; walk1) | (leave1; walk_say "STEP leave1"; (try dsimp only)))))
  k_dflt (refine' comp_eval (h₀ := g') (L := L') (news := []) (proj := id) (as := [.int r t1, .int g t2, .int b t3]) (Ok := fun _ => True) (fun _ => true) (fun a y => ∃ k t u, a = Value.int k t ∧ y = Value.float (frI k) u) ?hclos ?hcell ?hkind ?hnames ?hx ?h ?hs; (case hclos => with_unfolding_all rfl); (case hcell => decide); (case hkind => with_unfolding_all rfl); (case hnames => decide); (case hx => with_unfolding_all rfl); (case hs => intro _; with_unfolding_all rfl))
  case h =>
    k_steps
    (rename Fr _ _ _ _ => Fc)
    refine ⟨_, _, rfl, Fc, by assumption, Nat.le_of_ble_eq_true rfl, src_id rfl (hl'.at fun o e => Fc.keep _ o e) (fun _ _ => trivial), fun _ _ _ _ _ _ _ _ _ _ _ => tests_nil, ?elt, ?done⟩
    case elt =>
      intro C v s₂ m₂ E' hC hv _ _ hn hm hkc
      (have Fc2 := Fr.keeps Fc hkc)
      clear Fc
      have hv' : ∃ k t, v = Value.int k t ∧ 0 ≤ k ∧ k ≤ 15 := by
        rcases List.mem_cons.mp hv with e | hv
        · exact ⟨_, _, e, hr⟩
        rcases List.mem_cons.mp hv with e | hv
        · exact ⟨_, _, e, hg⟩
        exact ⟨_, _, List.mem_singleton.mp hv, hb⟩
      obtain ⟨k, t, rfl, hk0, hk1⟩ := hv'
      k_steps
      exact ⟨⟨_, _, _, rfl, rfl⟩, _, _, rfl, by assumption⟩
    case done =>
      intro D ys n h' tk F3 N3 hD hk3 hP
      obtain ⟨u1, u2, u3, rfl⟩ := paired3 hP
      clear hP hk3 Fc
      k_steps
      walk_at "end val"

theorem toldhsv_spec (w : World) (l : Addr) (r g b : Int) (t1 t2 t3 tw : Tok) (n : Nat) (wheel : Int) (hr : 0 ≤ r ∧ r ≤ 15) (hg : 0 ≤ g ∧ g ≤ 15) (hb : 0 ≤ b ∧ b ≤ 15) (hw : 6 ≤ wheel ∧ wheel ≤ 18) (hz1 : Float64.isZero (max3F (frI r) (frI g) (frI b)) = false) (hz2 : Float64.isZero (Float64.sub (max3F (frI r) (frI g) (frI b)) (min3F (frI r) (frI g) (frI b))) = false)
    (hfin : Float64.isFinite (Float64.add (Float64.mul (hsvF (frI r) (frI g) (frI b)).1 (Float64.ofInt wheel)) 4602678819172646912) = true) :
    Pure w 6 323 [.ref l, .int wheel tw, .bool false] [] (fun h => h.get? l = some (listOf #[.int r t1, .int g t2, .int b t3] n)) (fun r' new => new = [] ∧ ∃ t, r' = .int ((Flt.toInt Float64.truncOf (Float64.add (Float64.mul (hsvF (frI r) (frI g) (frI b)).1 (Float64.ofInt wheel)) 4602678819172646912)).fmod wheel) t) := by
  intro dp un gd env outer A₀ base h₀ L m news s Q E p loose mean mg mb B F X N T hf hk hdp hun hpre k
  k_dflt (refine' code_pure (binds := [(Str.ofString "parts", .ref l), (Str.ofString "wheel", .int wheel tw), (Str.ofString "by_light", .bool false)]) _ ?k1 ?k2 ?k3 ?k4 ?k5 ?kA ?kF ?kK ?k6 ?k7 ?k8 ?k9 ?kB ?c2 ?c3 ?c4 ?c5 ?kk ?_; (case kA => exact rfl); (case kF => assumption); (case kK => assumption); (case k1 => assumption); (case k2 => assumption); (case k3 => assumption); (case k4 => assumption); (case k5 => assumption); (case k6 => k_is); (case k7 => k_is); (case k8 => walk_at "room"); (case k9 => first | exact BindsTo.of_eq rfl | exact binds_K (by k_in) rfl (by k_is) rfl rfl rfl); (case kB => exact locs rfl); (case c2 => exact rfl); (case c3 => exact rfl); (case c4 => exact rfl); (case c5 => decide); (case kk => assumption))
  clear k B F X N T hf
  intro g' L' h' hkeep' F' N' B' X' T'
  dsimp only [toldB, toldS, toldP, List.reverse_cons, List.reverse_nil, List.nil_append, List.cons_append]

  have hl' : g'.IsList l [.int r t1, .int g t2, .int b t3].toArray := ⟨_, hkeep' _ _ hpre, rfl, n, rfl⟩
  have hnn := not_nan hfin
  have hni := not_inf hfin
  iterate 2 (all_goals (try (first | (k_unfold; (try dsimp only)) | (k_end; kc_close) | walk1 | (dsimp only; walk1) | (leave1; walk_say "STEP leave1"; (try dsimp only)))))
  k_dflt (refine' comp_eval (h₀ := g') (L := L') (news := []) (proj := id) (as := [.int r t1, .int g t2, .int b t3]) (Ok := fun _ => True) (fun _ => true) (fun a y => ∃ k t u, a = Value.int k t ∧ y = Value.float (frI k) u) ?hclos ?hcell ?hkind ?hnames ?hx ?h ?hs; (case hclos => with_unfolding_all rfl); (case hcell => decide); (case hkind => with_unfolding_all rfl); (case hnames => decide); (case hx => with_unfolding_all rfl); (case hs => intro _; with_unfolding_all rfl))
  case h =>
    k_steps
    (rename Fr _ _ _ _ => Fc)
    refine ⟨_, _, rfl, Fc, by assumption, Nat.le_of_ble_eq_true rfl, src_id rfl (hl'.at fun o e => Fc.keep _ o e) (fun _ _ => trivial), fun _ _ _ _ _ _ _ _ _ _ _ => tests_nil, ?elt, ?done⟩
    case elt =>
      intro C v s₂ m₂ E' hC hv _ _ hn hm hkc
      (have Fc2 := Fr.keeps Fc hkc)
      clear Fc
      have hv' : ∃ k t, v = Value.int k t ∧ 0 ≤ k ∧ k ≤ 15 := by
        rcases List.mem_cons.mp hv with e | hv
        · exact ⟨_, _, e, hr⟩
        rcases List.mem_cons.mp hv with e | hv
        · exact ⟨_, _, e, hg⟩
        exact ⟨_, _, List.mem_singleton.mp hv, hb⟩
      obtain ⟨k, t, rfl, hk0, hk1⟩ := hv'
      k_steps
      exact ⟨⟨_, _, _, rfl, rfl⟩, _, _, rfl, by assumption⟩
    case done =>
      intro D ys n h' tk F3 N3 hD hk3 hP
      obtain ⟨u1, u2, u3, rfl⟩ := paired3 hP
      clear hP hk3 Fc
      k_steps
      walk_at "end val"

end
theorem reset10 : True := by first | walk1 | trivial
section
open PySem PySem.W PySem.Calls PyProof.Rows
set_option maxRecDepth 100000
set_option maxHeartbeats 8000000
theorem fillC6 (w : World) (h : Heap) (X : (K w.params).In h) (e : rw0.foot = 7) : (K w.params).In h ∧ rw0.foot = 7 := by
  k_fill
  exact ⟨X, e⟩
local macro_rules | `(tactic| walk_at "call ref") => useP 277 (vL [vI, vI]) pSkip (sp ``div_spec [vAny, vAny, vAny, vAny, vAny, hole 0, hole 1]) tlT (cs [oCase 0, oCase 1]) obA fnB
local macro_rules | `(tactic| walk_at "call ref") => useP 228 (vL [vF, vF]) pSkip (sp ``add_spec [vAny, vAny, vAny, vAny, vAny]) tlT (cs []) obA fnB
local macro_rules | `(tactic| walk_at "call ref") => useP 193 (vL [vF, vF, vF]) pSkip (sp ``hls_spec [vAny, vAny, vAny, vAny, vAny, vAny, vAny, hole 0, hole 1, hole 2]) tlT (cs [aCase 0, aCase 1, aCase 2]) obC fnD
local macro_rules | `(tactic| walk_at "call ref") => useP 214 (vL [vF, vF, vF]) pSkip (sp ``hsv_spec [vAny, vAny, vAny, vAny, vAny, vAny, vAny, hole 0, hole 1]) tlT (cs [aCase 0, aCase 1]) obC fnD
local macro_rules | `(tactic| walk_at "call ref") => useP 200 (vL [vF, vF, vF]) pSkip (sp ``rgbL_spec [vAny, vAny, vAny, vAny, vAny, vAny, vAny]) tlT (cs []) obC fnD
local macro_rules | `(tactic| walk_at "call ref") => useP 221 (vL [vF, vF, vF]) pSkip (sp ``rgbV_spec [vAny, vAny, vAny, vAny, vAny, vAny, vAny, hole 0, hole 1]) tlT (cs [aCase 0, aCase 1]) obC fnD

theorem turnedhls_spec (w : World) (l : Addr) (r g b : Int) (t1 t2 t3 tw : Tok) (n : Nat) (wheel way : Int) (ty : Tok) (hy : 0 ≤ way ∧ way < 18) (hr : 0 ≤ r ∧ r ≤ 15) (hg : 0 ≤ g ∧ g ≤ 15) (hb : 0 ≤ b ∧ b ≤ 15) (hw : 6 ≤ wheel ∧ wheel ≤ 18) (hz1 : Float64.isZero (Float64.add (max3F (frI r) (frI g) (frI b)) (min3F (frI r) (frI g) (frI b))) = false) (hz2 : Float64.isZero (Float64.sub (max3F (frI r) (frI g) (frI b)) (min3F (frI r) (frI g) (frI b))) = false) (hz3 : Float64.isZero (Float64.sub (Float64.sub fTwo (max3F (frI r) (frI g) (frI b))) (min3F (frI r) (frI g) (frI b))) = false)
    (ok1 : ok16 (rgbLF (Float64.add (hlsF (frI r) (frI g) (frI b)).1 (Float64.ofFrac (decide (way < 0) != decide (wheel < 0)) way.natAbs wheel.natAbs)) (hlsF (frI r) (frI g) (frI b)).2.1 (hlsF (frI r) (frI g) (frI b)).2.2).1 = true) (ok2 : ok16 (rgbLF (Float64.add (hlsF (frI r) (frI g) (frI b)).1 (Float64.ofFrac (decide (way < 0) != decide (wheel < 0)) way.natAbs wheel.natAbs)) (hlsF (frI r) (frI g) (frI b)).2.1 (hlsF (frI r) (frI g) (frI b)).2.2).2.1 = true) (ok3 : ok16 (rgbLF (Float64.add (hlsF (frI r) (frI g) (frI b)).1 (Float64.ofFrac (decide (way < 0) != decide (wheel < 0)) way.natAbs wheel.natAbs)) (hlsF (frI r) (frI g) (frI b)).2.1 (hlsF (frI r) (frI g) (frI b)).2.2).2.2 = true) :
    Pure w 10 318 [.ref l, .int way ty, .int wheel tw, .bool true] [] (fun h => h.get? l = some (listOf #[.int r t1, .int g t2, .int b t3] n)) (fun r' new => ∃ l' u1 u2 u3 n', r' = .ref l' ∧ new = [(l', listOf #[.int (r16 (rgbLF (Float64.add (hlsF (frI r) (frI g) (frI b)).1 (Float64.ofFrac (decide (way < 0) != decide (wheel < 0)) way.natAbs wheel.natAbs)) (hlsF (frI r) (frI g) (frI b)).2.1 (hlsF (frI r) (frI g) (frI b)).2.2).1) u1, .int (r16 (rgbLF (Float64.add (hlsF (frI r) (frI g) (frI b)).1 (Float64.ofFrac (decide (way < 0) != decide (wheel < 0)) way.natAbs wheel.natAbs)) (hlsF (frI r) (frI g) (frI b)).2.1 (hlsF (frI r) (frI g) (frI b)).2.2).2.1) u2, .int (r16 (rgbLF (Float64.add (hlsF (frI r) (frI g) (frI b)).1 (Float64.ofFrac (decide (way < 0) != decide (wheel < 0)) way.natAbs wheel.natAbs)) (hlsF (frI r) (frI g) (frI b)).2.1 (hlsF (frI r) (frI g) (frI b)).2.2).2.2) u3] n')]) := by
  intro dp un gd env outer A₀ base h₀ L m news s Q E p loose mean mg mb B F X N T hf hk hdp hun hpre k
  k_dflt (refine' code_pure (binds := [(Str.ofString "parts", .ref l), (Str.ofString "way", .int way ty), (Str.ofString "wheel", .int wheel tw), (Str.ofString "by_light", .bool true)]) _ ?k1 ?k2 ?k3 ?k4 ?k5 ?kA ?kF ?kK ?k6 ?k7 ?k8 ?k9 ?kB ?c2 ?c3 ?c4 ?c5 ?kk ?_; (case kA => exact rfl); (case kF => assumption); (case kK => assumption); (case k1 => assumption); (case k2 => assumption); (case k3 => assumption); (case k4 => assumption); (case k5 => assumption); (case k6 => k_is); (case k7 => k_is); (case k8 => walk_at "room"); (case k9 => first | exact BindsTo.of_eq rfl | exact binds_K (by k_in) rfl (by k_is) rfl rfl rfl); (case kB => exact locs rfl); (case c2 => exact rfl); (case c3 => exact rfl); (case c4 => exact rfl); (case c5 => decide); (case kk => assumption))
  clear k B F X N T hf
  intro g' L' h' hkeep' F' N' B' X' T'
  dsimp only [turnedB, turnedS, turnedP, List.reverse_cons, List.reverse_nil, List.nil_append, List.cons_append]

  have hl' : g'.IsList l [.int r t1, .int g t2, .int b t3].toArray := ⟨_, hkeep' _ _ hpre, rfl, n, rfl⟩
  iterate 2 (all_goals (try (first | (k_unfold; (try dsimp only)) | (k_end; kc_close) | walk1 | (dsimp only; walk1) | (leave1; walk_say "STEP leave1"; (try dsimp only)))))
  k_dflt (refine' comp_eval (h₀ := g') (L := L') (news := []) (proj := id) (as := [.int r t1, .int g t2, .int b t3]) (Ok := fun _ => True) (fun _ => true) (fun a y => ∃ k t u, a = Value.int k t ∧ y = Value.float (frI k) u) ?hclos ?hcell ?hkind ?hnames ?hx ?h ?hs; (case hclos => with_unfolding_all rfl); (case hcell => decide); (case hkind => with_unfolding_all rfl); (case hnames => decide); (case hx => with_unfolding_all rfl); (case hs => intro _; with_unfolding_all rfl))
  case h =>
    k_steps
    (rename Fr _ _ _ _ => Fc)
    refine ⟨_, _, rfl, Fc, by assumption, Nat.le_of_ble_eq_true rfl, src_id rfl (hl'.at fun o e => Fc.keep _ o e) (fun _ _ => trivial), fun _ _ _ _ _ _ _ _ _ _ _ => tests_nil, ?elt, ?done⟩
    case elt =>
      intro C v s₂ m₂ E' hC hv _ _ hn hm hkc
      (have Fc2 := Fr.keeps Fc hkc)
      clear Fc
      have hv' : ∃ k t, v = Value.int k t ∧ 0 ≤ k ∧ k ≤ 15 := by
        rcases List.mem_cons.mp hv with e | hv
        · exact ⟨_, _, e, hr⟩
        rcases List.mem_cons.mp hv with e | hv
        · exact ⟨_, _, e, hg⟩
        exact ⟨_, _, List.mem_singleton.mp hv, hb⟩
      obtain ⟨k, t, rfl, hk0, hk1⟩ := hv'
      k_steps
      exact ⟨⟨_, _, _, rfl, rfl⟩, _, _, rfl, by assumption⟩
    case done =>
      intro D ys n h' tk F3 N3 hD hk3 hP
      obtain ⟨u1, u2, u3, rfl⟩ := paired3 hP
      clear hP hk3 Fc
      walk_at "steps to a comprehension"
      (rename Fr _ _ _ _ => F9)
      (rename News _ _ _ _ => N9)
      k_dflt (refine' comp_eval (h₀ := g') (L := L') (proj := id) (Ok := fun _ => True) (fun _ => true) (fun a y => ∃ k t u, a = Value.float k t ∧ y = Value.int (r16 k) u) ?hclos ?hcell ?hkind ?hnames ?hx ?h ?hs; (case hclos => with_unfolding_all rfl); (case hcell => decide); (case hkind => with_unfolding_all rfl); (case hnames => decide); (case hx => with_unfolding_all rfl); (case hs => intro _; with_unfolding_all rfl))
      case h =>
        k_steps
        refine ⟨_, _, rfl, F9, N9, Nat.le_of_ble_eq_true rfl, src_tup rfl ⟨_, (N9 _ (by k_mem)).1, rfl, _, rfl⟩ (fun _ _ => trivial), fun _ _ _ _ _ _ _ _ _ _ _ => tests_nil, ?elt, ?done⟩
        case elt =>
          intro C v s₂ m₂ E' hC hv _ _ hn hm hkc
          (have Fc2 := Fr.keeps F9 hkc)
          clear F9 N9
          have hv' : ∃ k t, v = Value.float k t ∧ ok16 k = true := by
            rcases List.mem_cons.mp hv with e | hv
            · exact ⟨_, _, e, ok1⟩
            rcases List.mem_cons.mp hv with e | hv
            · exact ⟨_, _, e, ok2⟩
            exact ⟨_, _, List.mem_singleton.mp hv, ok3⟩
          obtain ⟨k, t, rfl, hk9⟩ := hv'
          have hnn := not_nan hk9
          have hni := not_inf hk9
          k_steps
          exact ⟨⟨_, _, _, rfl, rfl⟩, _, _, rfl, fun _ _ e => e⟩
        case done =>
          intro D ys n h' tk F3 N3 hD hk3 hP
          obtain ⟨u1, u2, u3, rfl⟩ := paired3i hP
          k_steps
          exact pend_one F3 N3 (.head _) ⟨_, _, _, _, _, rfl, rfl⟩

end
theorem reset11 : True := by first | walk1 | trivial
section
open PySem PySem.W PySem.Calls PyProof.Rows
set_option maxRecDepth 100000
set_option maxHeartbeats 8000000
theorem fillC7 (w : World) (h : Heap) (X : (K w.params).In h) (e : rw0.foot = 7) : (K w.params).In h ∧ rw0.foot = 7 := by
  k_fill
  exact ⟨X, e⟩
local macro_rules | `(tactic| walk_at "call ref") => useP 277 (vL [vI, vI]) pSkip (sp ``div_spec [vAny, vAny, vAny, vAny, vAny, hole 0, hole 1]) tlT (cs [oCase 0, oCase 1]) obA fnB
local macro_rules | `(tactic| walk_at "call ref") => useP 228 (vL [vF, vF]) pSkip (sp ``add_spec [vAny, vAny, vAny, vAny, vAny]) tlT (cs []) obA fnB
local macro_rules | `(tactic| walk_at "call ref") => useP 193 (vL [vF, vF, vF]) pSkip (sp ``hls_spec [vAny, vAny, vAny, vAny, vAny, vAny, vAny, hole 0, hole 1, hole 2]) tlT (cs [aCase 0, aCase 1, aCase 2]) obC fnD
local macro_rules | `(tactic| walk_at "call ref") => useP 214 (vL [vF, vF, vF]) pSkip (sp ``hsv_spec [vAny, vAny, vAny, vAny, vAny, vAny, vAny, hole 0, hole 1]) tlT (cs [aCase 0, aCase 1]) obC fnD
local macro_rules | `(tactic| walk_at "call ref") => useP 200 (vL [vF, vF, vF]) pSkip (sp ``rgbL_spec [vAny, vAny, vAny, vAny, vAny, vAny, vAny]) tlT (cs []) obC fnD
local macro_rules | `(tactic| walk_at "call ref") => useP 221 (vL [vF, vF, vF]) pSkip (sp ``rgbV_spec [vAny, vAny, vAny, vAny, vAny, vAny, vAny, hole 0, hole 1]) tlT (cs [aCase 0, aCase 1]) obC fnD

theorem turnedhsv_spec (w : World) (l : Addr) (r g b : Int) (t1 t2 t3 tw : Tok) (n : Nat) (wheel way : Int) (ty : Tok) (hy : 0 ≤ way ∧ way < 18) (hr : 0 ≤ r ∧ r ≤ 15) (hg : 0 ≤ g ∧ g ≤ 15) (hb : 0 ≤ b ∧ b ≤ 15) (hw : 6 ≤ wheel ∧ wheel ≤ 18) (hz1 : Float64.isZero (max3F (frI r) (frI g) (frI b)) = false) (hz2 : Float64.isZero (Float64.sub (max3F (frI r) (frI g) (frI b)) (min3F (frI r) (frI g) (frI b))) = false) (hfin : Float64.isFinite (Float64.mul (Float64.add (hsvF (frI r) (frI g) (frI b)).1 (Float64.ofFrac (decide (way < 0) != decide (wheel < 0)) way.natAbs wheel.natAbs)) fSix) = true) (hi : (Flt.toInt Float64.truncOf (Float64.mul (Float64.add (hsvF (frI r) (frI g) (frI b)).1 (Float64.ofFrac (decide (way < 0) != decide (wheel < 0)) way.natAbs wheel.natAbs)) fSix)).natAbs < 100)
    (ok1 : ok16 (rgbVF (Float64.add (hsvF (frI r) (frI g) (frI b)).1 (Float64.ofFrac (decide (way < 0) != decide (wheel < 0)) way.natAbs wheel.natAbs)) (hsvF (frI r) (frI g) (frI b)).2.1 (hsvF (frI r) (frI g) (frI b)).2.2).1 = true) (ok2 : ok16 (rgbVF (Float64.add (hsvF (frI r) (frI g) (frI b)).1 (Float64.ofFrac (decide (way < 0) != decide (wheel < 0)) way.natAbs wheel.natAbs)) (hsvF (frI r) (frI g) (frI b)).2.1 (hsvF (frI r) (frI g) (frI b)).2.2).2.1 = true) (ok3 : ok16 (rgbVF (Float64.add (hsvF (frI r) (frI g) (frI b)).1 (Float64.ofFrac (decide (way < 0) != decide (wheel < 0)) way.natAbs wheel.natAbs)) (hsvF (frI r) (frI g) (frI b)).2.1 (hsvF (frI r) (frI g) (frI b)).2.2).2.2 = true) :
    Pure w 10 318 [.ref l, .int way ty, .int wheel tw, .bool false] [] (fun h => h.get? l = some (listOf #[.int r t1, .int g t2, .int b t3] n)) (fun r' new => ∃ l' u1 u2 u3 n', r' = .ref l' ∧ new = [(l', listOf #[.int (r16 (rgbVF (Float64.add (hsvF (frI r) (frI g) (frI b)).1 (Float64.ofFrac (decide (way < 0) != decide (wheel < 0)) way.natAbs wheel.natAbs)) (hsvF (frI r) (frI g) (frI b)).2.1 (hsvF (frI r) (frI g) (frI b)).2.2).1) u1, .int (r16 (rgbVF (Float64.add (hsvF (frI r) (frI g) (frI b)).1 (Float64.ofFrac (decide (way < 0) != decide (wheel < 0)) way.natAbs wheel.natAbs)) (hsvF (frI r) (frI g) (frI b)).2.1 (hsvF (frI r) (frI g) (frI b)).2.2).2.1) u2, .int (r16 (rgbVF (Float64.add (hsvF (frI r) (frI g) (frI b)).1 (Float64.ofFrac (decide (way < 0) != decide (wheel < 0)) way.natAbs wheel.natAbs)) (hsvF (frI r) (frI g) (frI b)).2.1 (hsvF (frI r) (frI g) (frI b)).2.2).2.2) u3] n')]) := by
  intro dp un gd env outer A₀ base h₀ L m news s Q E p loose mean mg mb B F X N T hf hk hdp hun hpre k
  k_dflt (refine' code_pure (binds := [(Str.ofString "parts", .ref l), (Str.ofString "way", .int way ty), (Str.ofString "wheel", .int wheel tw), (Str.ofString "by_light", .bool false)]) _ ?k1 ?k2 ?k3 ?k4 ?k5 ?kA ?kF ?kK ?k6 ?k7 ?k8 ?k9 ?kB ?c2 ?c3 ?c4 ?c5 ?kk ?_; (case kA => exact rfl); (case kF => assumption); (case kK => assumption); (case k1 => assumption); (case k2 => assumption); (case k3 => assumption); (case k4 => assumption); (case k5 => assumption); (case k6 => k_is); (case k7 => k_is); (case k8 => walk_at "room"); (case k9 => first | exact BindsTo.of_eq rfl | exact binds_K (by k_in) rfl (by k_is) rfl rfl rfl); (case kB => exact locs rfl); (case c2 => exact rfl); (case c3 => exact rfl); (case c4 => exact rfl); (case c5 => decide); (case kk => assumption))
  clear k B F X N T hf
  intro g' L' h' hkeep' F' N' B' X' T'
  dsimp only [turnedB, turnedS, turnedP, List.reverse_cons, List.reverse_nil, List.nil_append, List.cons_append]

  have hl' : g'.IsList l [.int r t1, .int g t2, .int b t3].toArray := ⟨_, hkeep' _ _ hpre, rfl, n, rfl⟩
  iterate 2 (all_goals (try (first | (k_unfold; (try dsimp only)) | (k_end; kc_close) | walk1 | (dsimp only; walk1) | (leave1; walk_say "STEP leave1"; (try dsimp only)))))
  k_dflt (refine' comp_eval (h₀ := g') (L := L') (news := []) (proj := id) (as := [.int r t1, .int g t2, .int b t3]) (Ok := fun _ => True) (fun _ => true) (fun a y => ∃ k t u, a = Value.int k t ∧ y = Value.float (frI k) u) ?hclos ?hcell ?hkind ?hnames ?hx ?h ?hs; (case hclos => with_unfolding_all rfl); (case hcell => decide); (case hkind => with_unfolding_all rfl); (case hnames => decide); (case hx => with_unfolding_all rfl); (case hs => intro _; with_unfolding_all rfl))
  case h =>
    k_steps
    (rename Fr _ _ _ _ => Fc)
    refine ⟨_, _, rfl, Fc, by assumption, Nat.le_of_ble_eq_true rfl, src_id rfl (hl'.at fun o e => Fc.keep _ o e) (fun _ _ => trivial), fun _ _ _ _ _ _ _ _ _ _ _ => tests_nil, ?elt, ?done⟩
    case elt =>
      intro C v s₂ m₂ E' hC hv _ _ hn hm hkc
      (have Fc2 := Fr.keeps Fc hkc)
      clear Fc
      have hv' : ∃ k t, v = Value.int k t ∧ 0 ≤ k ∧ k ≤ 15 := by
        rcases List.mem_cons.mp hv with e | hv
        · exact ⟨_, _, e, hr⟩
        rcases List.mem_cons.mp hv with e | hv
        · exact ⟨_, _, e, hg⟩
        exact ⟨_, _, List.mem_singleton.mp hv, hb⟩
      obtain ⟨k, t, rfl, hk0, hk1⟩ := hv'
      k_steps
      exact ⟨⟨_, _, _, rfl, rfl⟩, _, _, rfl, by assumption⟩
    case done =>
      intro D ys n h' tk F3 N3 hD hk3 hP
      obtain ⟨u1, u2, u3, rfl⟩ := paired3 hP
      clear hP hk3 Fc
      walk_at "steps to a comprehension"
      (rename Fr _ _ _ _ => F9)
      (rename News _ _ _ _ => N9)
      k_dflt (refine' comp_eval (h₀ := g') (L := L') (proj := id) (Ok := fun _ => True) (fun _ => true) (fun a y => ∃ k t u, a = Value.float k t ∧ y = Value.int (r16 k) u) ?hclos ?hcell ?hkind ?hnames ?hx ?h ?hs; (case hclos => with_unfolding_all rfl); (case hcell => decide); (case hkind => with_unfolding_all rfl); (case hnames => decide); (case hx => with_unfolding_all rfl); (case hs => intro _; with_unfolding_all rfl))
      case h =>
        k_steps
        refine ⟨_, _, rfl, F9, N9, Nat.le_of_ble_eq_true rfl, src_tup rfl ⟨_, (N9 _ (by k_mem)).1, rfl, _, rfl⟩ (fun _ _ => trivial), fun _ _ _ _ _ _ _ _ _ _ _ => tests_nil, ?elt, ?done⟩
        case elt =>
          intro C v s₂ m₂ E' hC hv _ _ hn hm hkc
          (have Fc2 := Fr.keeps F9 hkc)
          clear F9 N9
          have hv' : ∃ k t, v = Value.float k t ∧ ok16 k = true := by
            rcases List.mem_cons.mp hv with e | hv
            · exact ⟨_, _, e, ok1⟩
            rcases List.mem_cons.mp hv with e | hv
            · exact ⟨_, _, e, ok2⟩
            exact ⟨_, _, List.mem_singleton.mp hv, ok3⟩
          obtain ⟨k, t, rfl, hk9⟩ := hv'
          have hnn := not_nan hk9
          have hni := not_inf hk9
          k_steps
          exact ⟨⟨_, _, _, rfl, rfl⟩, _, _, rfl, fun _ _ e => e⟩
        case done =>
          intro D ys n h' tk F3 N3 hD hk3 hP
          obtain ⟨u1, u2, u3, rfl⟩ := paired3i hP
          k_steps
          exact pend_one F3 N3 (.head _) ⟨_, _, _, _, _, rfl, rfl⟩

end
theorem reset12 : True := by first | walk1 | trivial
section
open PySem PySem.W PySem.Calls PyProof.Rows PySem.Builtin PySem.Builtin.Re
set_option maxRecDepth 100000
set_option maxHeartbeats 8000000
theorem slot_re_search : Slot "re.Pattern" "search" "re.Pattern.search" :=
  .of (owner := "re.Pattern") (n := "search") (by rw [typeLookup_type, builtinLookup_eq_fast]; kernel_rfl) (by decide +kernel) (by decide +kernel) (by decide +kernel)
    (by first | exact .inl (by decide +kernel) | exact .inr (by decide +kernel)) (by rw [isSubtype_type]; kernel_rfl)
theorem type_re_search : typeOf (.builtin "re.Pattern.search") = pure (.type "method_descriptor") := by show builtinType _ = _; rw [builtinType_eq_fast]; kernel_rfl
theorem entry_re_search : entryFor table "re.Pattern.search" = some Builtin.«re.Pattern.search» := entryFor_of_tree (by kernel_rfl)
theorem args_re_search (a b : Value) : argsOk "re.Pattern.search" ⟨[a, b], []⟩ := by
  unfold argsOk; kernel_rfl
theorem plainAttrs_re : PlainAttrs "re.Pattern" :=
  ⟨⟨"object.__getattribute__", by rw [typeLookup_type, builtinLookup_eq_fast]; kernel_rfl, by decide +kernel⟩, by rw [typeLookup_type, builtinLookup_eq_fast]; kernel_rfl⟩

section
variable {prog : Program} {w : World} {A : Around} {E : Value → Shared → Prop} {s : Shared}
theorem loop_same {β : Type} {f : β → PUnit → Sem (ForInStep PUnit)} {l : List β} {Q : PUnit → Shared → Prop} (hf : ∀ i (Q' : ForInStep PUnit → Shared → Prop), Q' (.yield ⟨⟩) s → wpAny (model prog w) A (f i ⟨⟩) Q' E s) (h : Q ⟨⟩ s) :
    wpAny (model prog w) A (forIn l PUnit.unit f) Q E s := by
  induction l with
  | nil => exact wpAny_pure h
  | cons a r ih =>
    rw [List.forIn_cons]
    exact wpAny_bind (hf a _ ih)

/-- no sign of the text is let in by the first set -/
noncomputable def Refused (code text : Array Nat) : Prop := ∀ (i : Nat) (seen : Sre.Seen), i < text.size → ∃ seen', Sre.inSet code (text.getD i 0) code.size 5 true seen = .ok (false, seen')

theorem admitted_none {m : Sre.M} (hr : Refused m.code m.text) (hl : m.lim = m.text.size) : ∀ (fuel i : Nat) (seen : Sre.Seen), ∃ seen', Sre.M.admitted m fuel i seen = .ok (none, seen') := by
  intro fuel
  induction fuel with
  | zero => intro i seen; exact ⟨seen, rfl⟩
  | succ f ih =>
    intro i seen
    unfold Sre.M.admitted
    by_cases hi : i ≥ m.lim
    · rw [if_pos hi]; exact ⟨seen, rfl⟩
    · rw [if_neg hi]
      obtain ⟨seen', e⟩ := hr i seen (by omega)
      rw [e]
      exact ih (i + 1) seen'

theorem drive_failed {m : Sre.M} {Q : Option Sre.M → Shared → Prop} (hf : m.frames = []) (ho : m.outcome = none) (ha : m.answer = some false) (h : Q none s) :
    wpAny (model prog w) A (reRunToEnd m) Q E s := by
  have hstep : m.step = { m with outcome := some .failed } := by
    unfold Sre.M.step
    rw [ho, ha, hf]
    rfl
  have hrun : m.runFor reTurnSteps = { m with outcome := some .failed } := by
    show Sre.M.runFor (3 + 1) m = _
    unfold Sre.M.runFor
    rw [ho]
    show Sre.M.runFor (2 + 1) m.step = _
    rw [hstep]
    unfold Sre.M.runFor
    rfl
  have hdrive : reDrive (2 ^ 64) m = pure { m with outcome := some .failed } := by
    show reDrive ((2 ^ 64 - 1) + 1) m = _
    unfold reDrive
    simp only [hrun]
    rfl
  unfold reRunToEnd
  rw [hdrive]
  refine wpAny_bind (wpAny_pure ?_)
  refine wpAny_bind (loop_same (fun i Q' hq => ?_) ?_)
  · dsimp only
    split
    · exact wpAny_bind (wpAny_rule (wpAny_pure hq))
    · exact wpAny_pure hq
  · exact wpAny_pure h

theorem named_eq (v : Str) (t : Tok) : reNamed "re.Pattern.search" "search" ["string", "pos", "endpos"] 1 [.str v t] [] = pure [some (.str v t), none, none] := rfl

theorem attempt_failed {m : Sre.M} (hr : Refused m.code m.text) (hl : m.lim = m.text.size) (hfs : m.hasFirstSet = true) (hf : m.frames = []) (ho : m.outcome = none) (i : Nat) (first : Bool) :
    (m.attemptFrom i first).frames = [] ∧ (m.attemptFrom i first).outcome = none ∧ (m.attemptFrom i first).answer = some false := by
  unfold Sre.M.attemptFrom
  rw [hfs]
  obtain ⟨seen', e⟩ := admitted_none hr hl (m.lim + 1 - i) i m.seen
  rw [e]
  exact ⟨hf, ho, rfl⟩
theorem forSearch_failed {code text : Array Nat} (hr : Refused code text) (hfs : ((match Sre.ops[code.getD 0 0]? with | some .INFO => true | _ => false) && code.getD 2 0 == 4) = true) :
    (Sre.forSearch code text 0 0 text.size false).frames = [] ∧ (Sre.forSearch code text 0 0 text.size false).outcome = none ∧ (Sre.forSearch code text 0 0 text.size false).answer = some false := by
  unfold Sre.forSearch
  dsimp only
  split
  · exact ⟨rfl, rfl, rfl⟩
  · refine attempt_failed ?_ ?_ ?_ ?_ ?_ 0 true
    · exact hr
    · rfl
    · exact hfs
    · rfl
    · rfl

theorem call_search {a c : Addr} {pat : Value} {f tf t0 t6 n : Nat} {fl : Int} {sl sl' : Array (Option Value)} {cc : Value} {cd : Option Addr} {items : Array Value} {v : Str} {t : Tok} {Q : Value → Shared → Prop}
    (hp : s.heap.get? a = some ⟨.type "re.Pattern", none, .fields #[pat, .int fl tf, .int 0 t0, .none, .none, .ref c, .int 0 t6], sl⟩) (hc : s.heap.get? c = some ⟨cc, cd, .seq items n, sl'⟩)
    (hr : Refused ((items.map reRawOf).map Int.toNat) v.cps)
    (hfs : ((match Sre.ops[((items.map reRawOf).map Int.toNat).getD 0 0]? with | some .INFO => true | _ => false) && ((items.map reRawOf).map Int.toNat).getD 2 0 == 4) = true)
    (hsz : v.cps.size < 2 ^ 63) (h : Q .none s) : wpAny (model prog w) A (call (.builtin "re.Pattern.search") [.ref a, .str v t]) Q E s := by
  refine wpAny_call_entry slot_re_search ⟨_, hp, rfl⟩ entry_re_search ?_ (args_re_search _ _)
  unfold Builtin.«re.Pattern.search»
  refine wpAny_bind ?_
  unfold reTarget
  dsimp only
  rw [named_eq]
  refine wpAny_bind (wpAny_pure ?_)
  refine wpAny_bind (wpAny_pure ?_)
  refine wpAny_bind (wpAny_pure ?_)
  unfold fieldsOf
  refine wpAny_bind (wpAny_bind (wpAny_load hp (wpAny_pure ?_)))
  refine wpAny_bind (wpAny_of_eq (show reTextOf (.str v t) = pure (v.cps, 0) from rfl) ?_)
  dsimp only
  split
  · rename_i hc'; exact (Bool.false_ne_true hc').elim
  split
  · rename_i hc'; exact (Bool.false_ne_true hc').elim
  refine wpAny_bind (wpAny_of_eq (show reNoCollectionInside (.str v t) 0 = pure () from rfl) ?_)
  refine wpAny_bind ?_
  show wpAny _ _ (reRawItems (.ref c)) _ _ _
  unfold reRawItems
  refine wpAny_bind ?_
  unfold seqItems?
  refine wpAny_bind (wpAny_load hc (wpAny_pure (wpAny_pure (wpAny_pure ?_))))
  dsimp only
  unfold reAnswer
  have hl : Min.min ((2 : Int) ^ 63 - 1).toNat v.cps.size = v.cps.size := by
    have e : ((2 : Int) ^ 63 - 1).toNat = 2 ^ 63 - 1 := by decide
    rw [e]; omega
  rw [hl]
  obtain ⟨e1, e2, e3⟩ := forSearch_failed hr hfs
  refine wpAny_bind (drive_failed e1 e2 e3 ?_)
  exact wpAny_pure ⟨.none, rfl, h⟩
end

noncomputable def codeN : Array Nat := #[14, 10, 4, 1, 1, 22, 0, 31, 16, 127, 0, 13, 7, 22, 0, 31, 16, 127, 0, 1]
noncomputable def codeV : Array Nat := #[14, 14, 4, 1, 1, 9, 4294966783, 0, 0, 2147483648, 0, 0, 0, 0, 0, 13, 11, 9, 4294966783, 0, 0, 2147483648, 0, 0, 0, 0, 0, 1]
/-- plain signs: neither control signs nor beyond ASCII -/
noncomputable def Fine (v : Str) : Prop := ∀ (i : Nat), i < v.cps.size → 32 ≤ v.cps.getD i 0 ∧ v.cps.getD i 0 < 127
theorem refusedN {v : Str} (h : Fine v) : Refused codeN v.cps := by
  intro i seen hi
  obtain ⟨h1, h2⟩ := h i hi
  generalize v.cps.getD i 0 = c at h1 h2
  refine ⟨((seen.add 22).add 16).add 0, ?_⟩
  have e1 : (decide (0 ≤ c) && decide (c ≤ 31)) = false := by simp; omega
  have e2 : (c == 127) = false := by simp; omega
  show Sre.inSet codeN c (19 + 1) 5 true seen = _
  show (if (decide (0 ≤ c) && decide (c ≤ 31)) = true then _ else Sre.inSet codeN c (18 + 1) 8 true _) = _
  rw [e1, if_neg Bool.false_ne_true]
  show (if (c == 127) = true then _ else Sre.inSet codeN c (17 + 1) 10 true _) = _
  rw [e2, if_neg Bool.false_ne_true]
  rfl
theorem bitsV : ∀ c, c < 127 → 32 ≤ c → (decide (c < 256) && (codeV.getD (5 + (1 + c / 32)) 0).testBit (c % 32)) = false := by decide +kernel
theorem refusedV {v : Str} (h : Fine v) : Refused codeV v.cps := by
  intro i seen hi
  obtain ⟨h1, h2⟩ := h i hi
  generalize v.cps.getD i 0 = c at h1 h2
  refine ⟨(seen.add 9).add 0, ?_⟩
  have e1 := bitsV c h2 h1
  show Sre.inSet codeV c (27 + 1) 5 true seen = _
  show (if (decide (c < 256) && (codeV.getD (5 + (1 + c / 32)) 0).testBit (c % 32)) = true then _ else Sre.inSet codeV c (26 + 1) 14 true _) = _
  rw [e1, if_neg Bool.false_ne_true]
  rfl

end
section
open PySem PySem.W PySem.Calls PyProof.Rows
set_option maxRecDepth 100000
set_option maxHeartbeats 8000000
theorem fillC8 (w : World) (h : Heap) (X : (K w.params).In h) (e : rw0.foot = 7) : (K w.params).In h ∧ rw0.foot = 7 := by
  k_fill
  exact ⟨X, e⟩

theorem codeN_eq : (([.int (14) 0, .int (10) 0, .int (4) 0, .int (1) 0, .int (1) 0, .int (22) 0, .int (0) 0, .int (31) 0, .int (16) 0, .int (127) 0, .int (0) 0, .int (13) 0, .int (7) 0, .int (22) 0, .int (0) 0, .int (31) 0, .int (16) 0, .int (127) 0, .int (0) 0, .int (1) 0].toArray : Array Value).map Builtin.Re.reRawOf).map Int.toNat = codeN := by decide +kernel
theorem codeV_eq : (([.int (14) 0, .int (14) 0, .int (4) 0, .int (1) 0, .int (1) 0, .int (9) 0, .int (4294966783) 0, .int (0) 0, .int (0) 0, .int (2147483648) 0, .int (0) 0, .int (0) 0, .int (0) 0, .int (0) 0, .int (0) 0, .int (13) 0, .int (11) 0, .int (9) 0, .int (4294966783) 0, .int (0) 0, .int (0) 0, .int (2147483648) 0, .int (0) 0, .int (0) 0, .int (0) 0, .int (0) 0, .int (0) 0, .int (1) 0].toArray : Array Value).map Builtin.Re.reRawOf).map Int.toNat = codeV := by decide +kernel
section
variable {prog : Program} {w : World} {A : Around} {E : Value → Shared → Prop} {s : Shared}
theorem at48 {h : Heap} (X : (K w.params).In h) : h.get? 48 = some o48 := X 48 o48 rfl
theorem at53 {h : Heap} (X : (K w.params).In h) : h.get? 53 = some o53 := X 53 o53 rfl
theorem at47 {h : Heap} (X : (K w.params).In h) : h.get? 47 = some o47 := X 47 o47 rfl
theorem at52 {h : Heap} (X : (K w.params).In h) : h.get? 52 = some o52 := X 52 o52 rfl
theorem getMethod48 {M : Model} {pl : Sem Bool} {Q : Value × List Value → Shared → Prop} (X : (K w.params).In s.heap) (h : Q (.builtin "re.Pattern.search", [.ref 48]) s) : wpAny M A (getMethod (.ref 48) (Str.ofString "search") pl) Q E s :=
  getMethod_builtin ⟨_, at48 X, rfl⟩ plainAttrs_re slot_re_search type_re_search (fun a e => by cases e; exact ⟨_, at48 X, rfl⟩) h
theorem getMethod53 {M : Model} {pl : Sem Bool} {Q : Value × List Value → Shared → Prop} (X : (K w.params).In s.heap) (h : Q (.builtin "re.Pattern.search", [.ref 53]) s) : wpAny M A (getMethod (.ref 53) (Str.ofString "search") pl) Q E s :=
  getMethod_builtin ⟨_, at53 X, rfl⟩ plainAttrs_re slot_re_search type_re_search (fun a e => by cases e; exact ⟨_, at53 X, rfl⟩) h
theorem search48 {v : Str} {t : Tok} {Q : Value → Shared → Prop} (X : (K w.params).In s.heap) (hv : Fine v) (hs : v.cps.size < 2 ^ 63) (h : Q .none s) : wpAny (model prog w) A (call (.builtin "re.Pattern.search") [.ref 48, .str v t]) Q E s :=
  call_search (f := 0) (at48 X) (at47 X) (by rw [codeN_eq]; exact refusedN hv) (by rw [codeN_eq]; rfl) hs h
theorem search53 {v : Str} {t : Tok} {Q : Value → Shared → Prop} (X : (K w.params).In s.heap) (hv : Fine v) (hs : v.cps.size < 2 ^ 63) (h : Q .none s) : wpAny (model prog w) A (call (.builtin "re.Pattern.search") [.ref 53, .str v t]) Q E s :=
  call_search (f := 0) (at53 X) (at52 X) (by rw [codeV_eq]; exact refusedV hv) (by rw [codeV_eq]; rfl) hs h
end
local macro_rules | `(tactic| walk_at "getMethod ref") => `(tactic| ((with_reducible show wpAny _ _ (getMethod (Value.ref 48) (Str.ofString "search") _) _ _ _); (refine getMethod48 (by k_in) ?_)))
local macro_rules | `(tactic| walk_at "call builtin:re.Pattern.search") => `(tactic| ((with_reducible show wpAny _ _ (call (Value.builtin "re.Pattern.search") [Value.ref 48, Value.str _ _] _) _ _ _); (refine search48 (by k_in) (by assumption) (by assumption) ?_)))
local macro_rules | `(tactic| walk_at "getMethod ref") => `(tactic| ((with_reducible show wpAny _ _ (getMethod (Value.ref 53) (Str.ofString "search") _) _ _ _); (refine getMethod53 (by k_in) ?_)))
local macro_rules | `(tactic| walk_at "call builtin:re.Pattern.search") => `(tactic| ((with_reducible show wpAny _ _ (call (Value.builtin "re.Pattern.search") [Value.ref 53, Value.str _ _] _) _ _ _); (refine search53 (by k_in) (by assumption) (by assumption) ?_)))

theorem convN_spec (w : World) (tb : Addr) (v : Str) (t : Tok) (hfine : Fine v) (hs : v.cps.size < 2 ^ 63) : Pure w 3 83 [.ref tb, .str v t] [(Str.ofString "name", .bool true)] (fun _ => True) (fun r new => new = [] ∧ r = .str v t) := by
  intro dp un gd env outer A₀ base h₀ L m news s Q E p loose mean mg mb B F X N T hf hk hdp hun hpre k
  k_dflt (refine' code_pure (binds := [(Str.ofString "self", .ref tb), (Str.ofString "value", .str v t), (Str.ofString "name", .bool true)]) _ ?k1 ?k2 ?k3 ?k4 ?k5 ?kA ?kF ?kK ?k6 ?k7 ?k8 ?k9 ?kB ?c2 ?c3 ?c4 ?c5 ?kk ?_; (case kA => exact rfl); (case kF => assumption); (case kK => assumption); (case k1 => assumption); (case k2 => assumption); (case k3 => assumption); (case k4 => assumption); (case k5 => assumption); (case k6 => k_is); (case k7 => k_is); (case k8 => walk_at "room"); (case k9 => first | exact BindsTo.of_eq rfl | exact binds_K (by k_in) rfl (by k_is) rfl rfl rfl); (case kB => exact locs rfl); (case c2 => exact rfl); (case c3 => exact rfl); (case c4 => exact rfl); (case c5 => decide); (case kk => assumption))
  clear k B F X N T hf
  intro g' L' h' hkeep' F' N' B' X' T'
  dsimp only [convB, convS, convP, List.reverse_cons, List.reverse_nil, List.nil_append, List.cons_append]

  k_steps
  all_goals (try dsimp only)
  all_goals exact pend_val (by assumption) ⟨rfl, rfl⟩

theorem convV_spec (w : World) (tb : Addr) (v : Str) (t : Tok) (hfine : Fine v) (hs : v.cps.size < 2 ^ 63) : Pure w 3 83 [.ref tb, .str v t] [(Str.ofString "name", .bool false)] (fun _ => True) (fun r new => new = [] ∧ r = .str v t) := by
  intro dp un gd env outer A₀ base h₀ L m news s Q E p loose mean mg mb B F X N T hf hk hdp hun hpre k
  k_dflt (refine' code_pure (binds := [(Str.ofString "self", .ref tb), (Str.ofString "value", .str v t), (Str.ofString "name", .bool false)]) _ ?k1 ?k2 ?k3 ?k4 ?k5 ?kA ?kF ?kK ?k6 ?k7 ?k8 ?k9 ?kB ?c2 ?c3 ?c4 ?c5 ?kk ?_; (case kA => exact rfl); (case kF => assumption); (case kK => assumption); (case k1 => assumption); (case k2 => assumption); (case k3 => assumption); (case k4 => assumption); (case k5 => assumption); (case k6 => k_is); (case k7 => k_is); (case k8 => walk_at "room"); (case k9 => first | exact BindsTo.of_eq rfl | exact binds_K (by k_in) rfl (by k_is) rfl rfl rfl); (case kB => exact locs rfl); (case c2 => exact rfl); (case c3 => exact rfl); (case c4 => exact rfl); (case c5 => decide); (case kk => assumption))
  clear k B F X N T hf
  intro g' L' h' hkeep' F' N' B' X' T'
  dsimp only [convB, convS, convP, List.reverse_cons, List.reverse_nil, List.nil_append, List.cons_append]

  k_steps
  all_goals (try dsimp only)
  all_goals exact pend_val (by assumption) ⟨rfl, rfl⟩

end
theorem reset13 : True := by first | walk1 | trivial
section
open PySem PySem.W PySem.Calls PyProof.Rows
set_option maxRecDepth 100000
set_option maxHeartbeats 8000000
theorem fillC10a (w : World) (h : Heap) (X : (K w.params).In h) (e : rw0.foot = 7) : (K w.params).In h ∧ rw0.foot = 7 := by
  k_fill
  exact ⟨X, e⟩
theorem len_spec (w : World) (tb dx lh : Addr) (hs : Int) (tk₀ : Tok) (nd n : Nat) (rows : List Rw) (hsz : rows.length < 2 ^ 20) : Does w 2 90 [.ref tb] [] (tblO tb dx lh hs tk₀ nd n rows) (fun _ => True) (fun r fin => ∃ new, ((∃ t, r = .int rows.length t) ∧ new = []) ∧ fin = new ++ tblO tb dx lh hs tk₀ nd n rows) := by
  intro dp un gd env outer A₀ base h₀ L m s Q E p loose mean mg mb B F X N T hf hk hdp hun hpre k
  k_dflt (refine' code_led (binds := [(Str.ofString "self", .ref tb)]) _ ?k1 ?k2 ?k3 ?k4 ?k5 ?kA ?kF ?kK ?k6 ?k7 ?k8 ?k9 ?kB ?c2 ?c3 ?c4 ?c5 ?kk ?_; (case kA => exact rfl); (case kF => assumption); (case kK => assumption); (case k1 => assumption); (case k2 => assumption); (case k3 => assumption); (case k4 => assumption); (case k5 => assumption); (case k6 => k_is); (case k7 => k_is); (case k8 => walk_at "room"); (case k9 => first | exact BindsTo.of_eq rfl | exact binds_K (by k_in) rfl (by k_is) rfl rfl rfl); (case kB => exact locs rfl); (case c2 => exact rfl); (case c3 => exact rfl); (case c4 => exact rfl); (case c5 => decide); (case kk => assumption))
  clear k B F X N T hf
  intro g' L' h' hkeep' F' N' B' X' T'
  dsimp only [lenB, lenS, lenP, List.reverse_cons, List.reverse_nil, List.nil_append, List.cons_append]
  dsimp only [tblO] at N'
  have hs2 : (rows.map Rw.ref).toArray.size < 2 ^ 20 := by simpa using hsz
  have hTM := tm tb dx lh hs tk₀ nd n rows
  k_steps
  have hlen : (rows.map Rw.ref).toArray.size = rows.length := by simp
  refine pend_led (by assumption) (by assumption) ⟨[], ⟨⟨_, congrArg (fun k : Nat => Value.int (k : Int) _) hlen⟩, rfl⟩, rfl⟩
theorem lenR {w : World} {tb dx lh : Addr} {hs : Int} {tk₀ : Tok} {nd n : Nat} {rows : List Rw} (_ : TM tb dx lh hs tk₀ nd n rows) (hsz : rows.length < 2 ^ 20) :
    Reads w 2 90 [.ref tb] [] (tblO tb dx lh hs tk₀ nd n rows) (fun r new => (∃ t, r = .int rows.length t) ∧ new = []) := (len_spec w tb dx lh hs tk₀ nd n rows hsz).reads

end
theorem reset14 : True := by first | walk1 | trivial
section
open PySem PySem.W PySem.Calls PyProof.Rows
set_option maxRecDepth 100000
set_option maxHeartbeats 8000000
theorem fillC10b (w : World) (h : Heap) (X : (K w.params).In h) (e : rw0.foot = 7) : (K w.params).In h ∧ rw0.foot = 7 := by
  k_fill
  exact ⟨X, e⟩
theorem items_spec (w : World) (tb dx lh : Addr) (hs : Int) (tk₀ : Tok) (nd n : Nat) (rows : List Rw) (hsz : rows.length < 2 ^ 20) : Does w 2 146 [.ref tb] [] (tblO tb dx lh hs tk₀ nd n rows) (fun _ => True) (fun r fin => ∃ new, (∃ l n2, r = .ref l ∧ new = [(l, listOf (rows.map Rw.ref).toArray n2)]) ∧ fin = new ++ tblO tb dx lh hs tk₀ nd n rows) := by
  intro dp un gd env outer A₀ base h₀ L m s Q E p loose mean mg mb B F X N T hf hk hdp hun hpre k
  k_dflt (refine' code_led (binds := [(Str.ofString "self", .ref tb)]) _ ?k1 ?k2 ?k3 ?k4 ?k5 ?kA ?kF ?kK ?k6 ?k7 ?k8 ?k9 ?kB ?c2 ?c3 ?c4 ?c5 ?kk ?_; (case kA => exact rfl); (case kF => assumption); (case kK => assumption); (case k1 => assumption); (case k2 => assumption); (case k3 => assumption); (case k4 => assumption); (case k5 => assumption); (case k6 => k_is); (case k7 => k_is); (case k8 => walk_at "room"); (case k9 => first | exact BindsTo.of_eq rfl | exact binds_K (by k_in) rfl (by k_is) rfl rfl rfl); (case kB => exact locs rfl); (case c2 => exact rfl); (case c3 => exact rfl); (case c4 => exact rfl); (case c5 => decide); (case kk => assumption))
  clear k B F X N T hf
  intro g' L' h' hkeep' F' N' B' X' T'
  dsimp only [itemsB, itemsS, itemsP, List.reverse_cons, List.reverse_nil, List.nil_append, List.cons_append]
  dsimp only [tblO] at N'
  have hs2 : (rows.map Rw.ref).toArray.size < 2 ^ 20 := by simpa using hsz
  have hTM := tm tb dx lh hs tk₀ nd n rows
  k_steps
  rename Fr _ _ _ _ => F9
  rename News _ _ _ _ => N9
  rw [slicePick_all] at N9
  exact pend_led F9 N9 ⟨[_], ⟨_, _, rfl, rfl⟩, rfl⟩
theorem itemsR {w : World} {tb dx lh : Addr} {hs : Int} {tk₀ : Tok} {nd n : Nat} {rows : List Rw} (_ : TM tb dx lh hs tk₀ nd n rows) (hsz : rows.length < 2 ^ 20) :
    Reads w 2 146 [.ref tb] [] (tblO tb dx lh hs tk₀ nd n rows) (fun r new => ∃ l n2, r = .ref l ∧ new = [(l, listOf (rows.map Rw.ref).toArray n2)]) := (items_spec w tb dx lh hs tk₀ nd n rows hsz).reads

end
theorem reset15 : True := by first | walk1 | trivial
section
open PySem PySem.W PySem.Calls PyProof.Rows
set_option maxRecDepth 100000
set_option maxHeartbeats 8000000
theorem fillC11 (w : World) (h : Heap) (X : (K w.params).In h) (e : rw0.foot = 7) : (K w.params).In h ∧ rw0.foot = 7 := by
  k_fill
  exact ⟨X, e⟩
local macro_rules | `(tactic| walk_at "call ref") => useP 83 vAny (pKw `(true)) (sp ``convN_spec [vAny, vAny, vAny, vAny, hole 0, hole 1]) tlT (cs [aCase 0, aCase 1]) obB fnA
local macro_rules | `(tactic| walk_at "call builtin:str.lower") => `(tactic| ((show wpAny _ _ (call (Value.builtin "str.lower") [Value.str _ _]) _ _ _); (refine SCL.lower (by assumption) ?_); intro _))
local macro_rules | `(tactic| walk_at "exec For Tuple Attribute cons nil") => `(tactic| (k_here; (rename Fr _ _ _ _ => lF'); (with_unfolding_all refine' For_turns lF' ?_; k_whole)))
local macro_rules | `(tactic| walk_at "pyIter ref") => `(tactic| (k_here; (with_reducible show wpAny _ _ (pyIter (Value.ref _)) (fun it s₂ => TurnsAt _ _ _ _ _ _ _ _ _ it s₂) _ _); (refine iter_listTurns (vs := List.map Rw.ref _) rfl (by assumption) (by assumption) (by k_mem) rfl rfl ?_)))
theorem get_spec (w : World) (tb dx lh : Addr) (hs : Int) (tk₀ : Tok) (nd n : Nat) (rows : List Rw) (nm : Str) (tn : Tok) (hsz : rows.length < 2 ^ 20) (hkl : ∀ r ∈ rows, r.k.length ≤ 5592405) (hnl : nm.length ≤ 5592405) (hlf : Fine (Txt.lower nm)) (hls : (Txt.lower nm).cps.size < 2 ^ 63) : Does w 6 129 [.ref tb, .str nm tn] [] (tblO tb dx lh hs tk₀ nd n rows) (fun _ => True) (fun r fin => ∃ new, (r = getRes rows nm ∧ new = []) ∧ fin = new ++ tblO tb dx lh hs tk₀ nd n rows) := by
  intro dp un gd env outer A₀ base h₀ L m s Q E p loose mean mg mb B F X N T hf hk hdp hun hpre k
  k_dflt (refine' code_led (binds := [(Str.ofString "self", .ref tb), (Str.ofString "name", .str nm tn), (Str.ofString "default", .none)]) _ ?k1 ?k2 ?k3 ?k4 ?k5 ?kA ?kF ?kK ?k6 ?k7 ?k8 ?k9 ?kB ?c2 ?c3 ?c4 ?c5 ?kk ?_; (case kA => exact rfl); (case kF => assumption); (case kK => assumption); (case k1 => assumption); (case k2 => assumption); (case k3 => assumption); (case k4 => assumption); (case k5 => assumption); (case k6 => k_is); (case k7 => k_is); (case k8 => walk_at "room"); (case k9 => first | exact BindsTo.of_eq rfl | exact binds_K (by k_in) rfl (by k_is) rfl rfl rfl); (case kB => exact locs rfl); (case c2 => exact rfl); (case c3 => exact rfl); (case c4 => exact rfl); (case c5 => decide); (case kk => assumption))
  clear k B F X N T hf
  intro g' L' h' hkeep' F' N' B' X' T'
  dsimp only [getB, getS, getP, List.reverse_cons, List.reverse_nil, List.nil_append, List.cons_append]
  dsimp only [tblO] at N'
  k_steps
  rename_i I hI
  refine items_inv (fun xs m nn => ∃ pre rest tkn, rows = pre ++ rest ∧ xs = (rest.map Rw.ref).map Itm.val ∧ m (Str.ofString "name") = some (.str (Txt.lower nm) tkn) ∧ m (Str.ofString "default") = some .none ∧ nn = tblO tb dx lh hs tk₀ nd n rows ∧ ∀ r ∈ pre, Txt.lower r.k ≠ Txt.lower nm) ?step ?fin _ _ _ ⟨[], rows, _, rfl, rfl, rfl, rfl, rfl, by simp⟩
  · ((repeat ((rename Fr _ _ _ _ => fOld); clear fOld)); (repeat ((rename News _ _ _ _ => nOld); clear nOld)))
    dsimp only
    rintro a r m nn ⟨pre, rest, tkn, e1, e2, e3, e4, e5, e6⟩ v h tk hv F
    cases rest with
    | nil => cases e2
    | cons q rest =>
      obtain ⟨rfl, rfl⟩ := List.cons.inj e2
      have hv' : v = .ref q.a := hv
      subst hv'
      refine AllObj.cons (fun o hc => AllObj.nil (fun N => ?_))
      subst e5
      have hq : q ∈ rows := by rw [e1]; simp
      have hql := hkl q hq
      have N' : News g' L' h ((q.a, tup2 q.k q.tk q.v q.tv) :: (I, o) :: tblO tb dx lh hs tk₀ nd n rows) := fun p hp => by
        rcases List.mem_cons.mp hp with e | hp
        · rw [e]; exact N _ (by simp only [List.cons_append, List.nil_append, List.mem_cons, List.mem_map]; right; right; right; right; exact ⟨q, hq, rfl⟩)
        · exact N _ hp
      clear N
      have F1 := fr_fix F _ _ e3
      have F2 := fr_fix F1 (Str.ofString "default") _ e4
      clear F F1
      dsimp only [tblO] at N'
      k_steps
      · rename_i F3 N3 tk3 ha heq
        exact pend_led F3 (fun p hp => N3 p (List.mem_cons_of_mem _ (List.mem_cons_of_mem _ hp))) ⟨[], ⟨(getRes_hit e1 e6 heq).symm, rfl⟩, rfl⟩
      · rename_i F3 N3 tk3 ha heq
        refine ⟨_, _, _, tblO tb dx lh hs tk₀ nd n rows, rfl, F3, fun p hp => N3 p (List.mem_cons_of_mem _ hp), fun p hp r hr => ?_, ⟨by simp, trivial⟩, pre ++ [q], rest, tkn, by rw [e1]; simp, rfl, rfl, rfl, rfl, ?_⟩
        · rw [List.mem_singleton.mp hr]; exact Nat.ne_of_lt (hI p hp)
        · intro r hr
          rcases List.mem_append.mp hr with hr | hr
          · exact e6 r hr
          · rw [List.mem_singleton.mp hr]; simpa using heq
  · ((repeat ((rename Fr _ _ _ _ => fOld); clear fOld)); (repeat ((rename News _ _ _ _ => nOld); clear nOld)))
    dsimp only
    rintro m nn ⟨pre, rest, tkn, e1, e2, e3, e4, e5, e6⟩ h tk F N'
    subst e5
    have F1 := fr_fix F _ _ e4
    clear F
    dsimp only [tblO] at N'
    k_steps
    have e7 : rest = [] := by cases rest with | nil => rfl | cons q r => cases e2
    refine pend_led F1 N' ⟨[], ⟨(getRes_none fun r hr => e6 r ?_).symm, rfl⟩, rfl⟩
    rw [e1, e7, List.append_nil] at hr
    exact hr
theorem getR {w : World} {tb dx lh : Addr} {hs : Int} {tk₀ : Tok} {nd n : Nat} {rows : List Rw} (_ : TM tb dx lh hs tk₀ nd n rows) {nm : Str} {tn : Tok} (hsz : rows.length < 2 ^ 20) (hkl : ∀ r ∈ rows, r.k.length ≤ 5592405) (hnl : nm.length ≤ 5592405) (hlf : Fine (Txt.lower nm)) (hls : (Txt.lower nm).cps.size < 2 ^ 63) :
    Reads w 6 129 [.ref tb, .str nm tn] [] (tblO tb dx lh hs tk₀ nd n rows) (fun r new => r = getRes rows nm ∧ new = []) := (get_spec w tb dx lh hs tk₀ nd n rows nm tn hsz hkl hnl hlf hls).reads

end
theorem reset16 : True := by first | walk1 | trivial
section
open PySem PySem.W PySem.Calls PyProof.Rows
set_option maxRecDepth 100000
set_option maxHeartbeats 8000000
theorem fillC12 (w : World) (h : Heap) (X : (K w.params).In h) (e : rw0.foot = 7) : (K w.params).In h ∧ rw0.foot = 7 := by
  k_fill
  exact ⟨X, e⟩
theorem news_drop2 {h₀ h : Heap} {L : Addr} {a b : Addr × Obj} {r : List (Addr × Obj)} (N : News h₀ L h (a :: b :: r)) : News h₀ L h (a :: r) := fun p hp => N p (by rcases List.mem_cons.mp hp with e | hp; exact e ▸ .head _; exact .tail _ (.tail _ hp))
local macro_rules | `(tactic| walk_at "call ref") => useP 83 vAny (pKw `(true)) (sp ``convN_spec [vAny, vAny, vAny, vAny, hole 0, hole 1]) tlT (cs [aCase 0, aCase 1]) obB fnA
local macro_rules | `(tactic| walk_at "call ref") => useP 83 vAny (pKw `(false)) (sp ``convV_spec [vAny, vAny, vAny, vAny, hole 0, hole 1]) tlT (cs [aCase 0, aCase 1]) obB fnA
local macro_rules | `(tactic| walk_at "call builtin:str.lower") => `(tactic| ((show wpAny _ _ (call (Value.builtin "str.lower") [Value.str _ _]) _ _ _); (refine SCL.lower (by assumption) ?_); intro _))
local macro_rules | `(tactic| k_all) => `(tactic| assumption)
local macro_rules | `(tactic| walk_at "call builtin:str.join") => `(tactic| ((with_reducible show wpAny _ _ (call (Value.builtin _) [Value.str _ _, Value.ref _]) _ _ _); k_dflt (refine' join_list (ys := [_]) ?kl (StrsAre.cons _ _ StrsAre.nil) ?kz ?_; (case kl => exact News.isList (by assumption) (by k_mem)); (case kz => (simp only [List.map_cons, List.map_nil, List.sum_cons, List.sum_nil, List.length_cons, List.length_nil]; (have hs2 : (Str.ofString "; ").length = 2 := by decide +kernel); omega))); intro _ _))
local macro_rules | `(tactic| walk_at "call builtin:list.append") => `(tactic| (k_here; (with_reducible show wpAny _ _ (call (Value.builtin _) [Value.ref _, _]) _ _ _); k_dflt (refine' append_K ?k1 ?k2 ?k3 ?_ ?z; (case k1 => k_asm); (case k2 => k_asm); (case k3 => k_upd); (case z => rw [sizeLine_eq]; omega); k_whole); intro h' F' N'; (try k_sweep)))

theorem addh_use {w : World} {tb dx lh : Addr} {hs : Int} {tk₀ : Tok} {nd n : Nat} {its : Array Value} {rest : List (Addr × Obj)} {nm v : Str} {tn tv : Tok} (hsz : its.size < 2 ^ 20) (hn1 : Fine nm) (hn2 : nm.cps.size < 2 ^ 63) (hv1 : Fine v) (hv2 : v.cps.size < 2 ^ 63) (hvl : v.length ≤ 1000)
   {fa : Addr} {cd : Value} {dp un : Nat} {gd : Option (List Code)} {outer : List Env} {A₀ : Around} {base h₀ : Heap} {L : Addr} {m : Str → Option Value} {s : Shared} {Q E : Value → Shared → Prop}
    {p : Program} {loose : List Str} {mean : ExcName → Option Value} {mg mb : Str → Option Value} (B : Below A₀ base outer h₀) (F : Fr h₀ L s.heap m) (X : (K w.params).In h₀) (N : News h₀ L s.heap ((tb, instObj 182 dx) :: (dx, dictOf [⟨hs, .str (Str.ofString "_headers") tk₀, .ref lh⟩] nd) :: (lh, listOf its n) :: rest)) (T : Top p loose mean mg mb h₀)
    (htl : @Ne Nat tb lh) (hdl : @Ne Nat dx lh) (hrl : ∀ p ∈ rest, p.1 ≠ lh) (hdp : dp + 10 < recursionLimit) (hun : un + 100 < cLine)
    (k : ∀ a n2 tn tv h' tk', Fr h₀ L h' m → News h₀ L h' ((a, tup2 nm tn v tv) :: (tb, instObj 182 dx) :: (dx, dictOf [⟨hs, .str (Str.ofString "_headers") tk₀, .ref lh⟩] nd) :: (lh, listOf (its.push (.ref a)) n2) :: rest) → Q .none { s with heap := h', toks := tk' }) :
    wpAny (model rw0.row.prog w) (Ar dp un gd (envOfC (Str.ofString "law") lawS.1 L fa cd) outer) (call (.ref 179) [.ref tb, .str nm tn, .str v tv]) Q E s := by
  k_steps
  (rename News _ _ _ _ => N9)
  have N10 := news_drop2 N9
  clear N9
  k_steps
  (rename Fr _ _ _ _ => F8)
  (rename News _ _ _ _ => N8)
  exact k _ _ _ _ _ _ F8 (news_drop2 (news_drop2 N8))

end
theorem reset17 : True := by first | walk1 | trivial
section
open PySem PySem.W PySem.Calls PyProof.Rows
set_option maxRecDepth 100000
set_option maxHeartbeats 8000000
theorem fillC13a (w : World) (h : Heap) (X : (K w.params).In h) (e : rw0.foot = 7) : (K w.params).In h ∧ rw0.foot = 7 := by
  k_fill
  exact ⟨X, e⟩
local macro_rules | `(tactic| walk_at "call ref") => useR 129 (vL [vR, vS]) pTM (spT ``getR [hole 0, hole 1, hole 2, hole 3, hole 4]) csOld (cs [aCase 0, aCase 1, aCase 2, aCase 3, aCase 4]) obB fnB
theorem getRes_or (rows : List Rw) (nm : Str) : (∃ v t, getRes rows nm = .str v t ∧ (rows.any fun r => Txt.lower r.k == Txt.lower nm) = true) ∨ (getRes rows nm = .none ∧ (rows.any fun r => Txt.lower r.k == Txt.lower nm) = false) := by
  unfold getRes
  cases e : rows.find? (fun r => Txt.lower r.k == Txt.lower nm) with
  | some q => exact .inl ⟨q.v, q.tv, rfl, List.any_eq_true.mpr ⟨q, List.mem_of_find?_eq_some e, by simpa using List.find?_some e⟩⟩
  | none => exact .inr ⟨rfl, by rw [List.any_eq_false]; intro x hx; exact List.find?_eq_none.mp e x hx⟩
theorem has_spec (w : World) (tb dx lh : Addr) (hs : Int) (tk₀ : Tok) (nd n : Nat) (rows : List Rw) (nm : Str) (tn : Tok) (hsz : rows.length < 2 ^ 20) (hkl : ∀ r ∈ rows, r.k.length ≤ 5592405) (hnl : nm.length ≤ 5592405) (hlf : Fine (Txt.lower nm)) (hls : (Txt.lower nm).cps.size < 2 ^ 63) : Does w 8 116 [.ref tb, .str nm tn] [] (tblO tb dx lh hs tk₀ nd n rows) (fun _ => True) (fun r fin => ∃ new, (r = .bool (rows.any fun r => Txt.lower r.k == Txt.lower nm) ∧ new = []) ∧ fin = new ++ tblO tb dx lh hs tk₀ nd n rows) := by
  intro dp un gd env outer A₀ base h₀ L m s Q E p loose mean mg mb B F X N T hf hk hdp hun hpre k
  k_dflt (refine' code_led (binds := [(Str.ofString "self", .ref tb), (Str.ofString "name", .str nm tn)]) _ ?k1 ?k2 ?k3 ?k4 ?k5 ?kA ?kF ?kK ?k6 ?k7 ?k8 ?k9 ?kB ?c2 ?c3 ?c4 ?c5 ?kk ?_; (case kA => exact rfl); (case kF => assumption); (case kK => assumption); (case k1 => assumption); (case k2 => assumption); (case k3 => assumption); (case k4 => assumption); (case k5 => assumption); (case k6 => k_is); (case k7 => k_is); (case k8 => walk_at "room"); (case k9 => first | exact BindsTo.of_eq rfl | exact binds_K (by k_in) rfl (by k_is) rfl rfl rfl); (case kB => exact locs rfl); (case c2 => exact rfl); (case c3 => exact rfl); (case c4 => exact rfl); (case c5 => decide); (case kk => assumption))
  clear k B F X N T hf
  intro g' L' h' hkeep' F' N' B' X' T'
  dsimp only [hasB, hasS, hasP, List.reverse_cons, List.reverse_nil, List.nil_append, List.cons_append]
  dsimp only [tblO] at N'
  have hs2 : (rows.map Rw.ref).toArray.size < 2 ^ 20 := by simpa using hsz
  have hTM := tm tb dx lh hs tk₀ nd n rows
  k_steps
  rcases getRes_or rows nm with ⟨v, t, e, ea⟩ | ⟨e, ea⟩
  · rw [e, ea]
    k_steps
    exact pend_led (by assumption) (by assumption) ⟨[], ⟨rfl, rfl⟩, rfl⟩
  · rw [e, ea]
    k_steps
    exact pend_led (by assumption) (by assumption) ⟨[], ⟨rfl, rfl⟩, rfl⟩
theorem hasR {w : World} {tb dx lh : Addr} {hs : Int} {tk₀ : Tok} {nd n : Nat} {rows : List Rw} (_ : TM tb dx lh hs tk₀ nd n rows) {nm : Str} {tn : Tok} (hsz : rows.length < 2 ^ 20) (hkl : ∀ r ∈ rows, r.k.length ≤ 5592405) (hnl : nm.length ≤ 5592405) (hlf : Fine (Txt.lower nm)) (hls : (Txt.lower nm).cps.size < 2 ^ 63) :
    Reads w 8 116 [.ref tb, .str nm tn] [] (tblO tb dx lh hs tk₀ nd n rows) (fun r new => r = .bool (rows.any fun r => Txt.lower r.k == Txt.lower nm) ∧ new = []) := (has_spec w tb dx lh hs tk₀ nd n rows nm tn hsz hkl hnl hlf hls).reads

end
theorem reset18 : True := by first | walk1 | trivial
section
open PySem PySem.W PySem.Calls PyProof.Rows
set_option maxRecDepth 100000
set_option maxHeartbeats 8000000
theorem fillC13b (w : World) (h : Heap) (X : (K w.params).In h) (e : rw0.foot = 7) : (K w.params).In h ∧ rw0.foot = 7 := by
  k_fill
  exact ⟨X, e⟩
/-- the test of get_all's comprehension, by a row's address -/
noncomputable def rowTest (rows : List Rw) (low : Str) : Value → Bool
  | .ref a => match rows.find? (fun q => q.a == a) with
    | some q => Txt.lower q.k == low
    | none => false
  | _ => false
theorem rows_uniq {h₀ h : Heap} {L : Addr} {big : List (Addr × Obj)} {rows : List Rw} (N : News h₀ L h big) (hs : ∀ q ∈ rows, q.ent ∈ big) : ∀ q ∈ rows, ∀ q' ∈ rows, q.a = q'.a → q = q' := by
  intro q hq q' hq' e
  have h1 := (N _ (hs q hq)).1
  have h2 := (N _ (hs q' hq')).1
  simp only [Rw.ent] at h1 h2
  rw [e, h2] at h1
  obtain ⟨a, k, tk, v, tv⟩ := q
  obtain ⟨a', k', tk', v', tv'⟩ := q'
  simp only [tup2, Option.some.injEq, Obj.mk.injEq, Data.seq.injEq] at h1
  have h3 := h1
  simp at h3
  obtain ⟨⟨h4, h5⟩, h6, h7⟩ := h3
  have e' : a = a' := e
  subst h4; subst h5; subst h6; subst h7; subst e'
  rfl
theorem rowTest_at {rows : List Rw} {low : Str} (hU : ∀ q ∈ rows, ∀ q' ∈ rows, q.a = q'.a → q = q') {q : Rw} (hq : q ∈ rows) : rowTest rows low (.ref q.a) = (Txt.lower q.k == low) := by
  unfold rowTest
  cases e : rows.find? (fun r => r.a == q.a) with
  | none => exact absurd (List.find?_eq_none.mp e q hq) (by simp)
  | some r =>
    have h1 := List.find?_some e
    have h2 := hU r (List.mem_of_find?_eq_some e) q hq (by simpa using h1)
    subst h2
    show (match rows.find? (fun q' => q'.a == r.a) with | some q => Txt.lower q.k == low | none => false) = _
    rw [e]
theorem paired_rows {rows : List Rw} {low : Str} (hU : ∀ q ∈ rows, ∀ q' ∈ rows, q.a = q'.a → q = q') : ∀ (l : List Rw) (ys : List Value), (∀ q ∈ l, q ∈ rows) →
    Paired (fun a y => ∃ q ∈ rows, a = Rw.ref q ∧ y = Value.str q.v q.tv) ((l.map Rw.ref).filter (rowTest rows low)) ys → ys = (l.filter fun q => Txt.lower q.k == low).map fun q => Value.str q.v q.tv := by
  intro l
  induction l with
  | nil => intro ys _ h; cases h; rfl
  | cons q l ih =>
    intro ys hl h
    have hq := hl q (.head _)
    have ht : rowTest rows low (Rw.ref q) = (Txt.lower q.k == low) := rowTest_at hU hq
    rw [List.map_cons, List.filter_cons] at h
    rw [List.filter_cons]
    cases e : (Txt.lower q.k == low) with
    | true =>
      rw [ht, e, if_pos rfl] at h
      cases h with
      | cons h1 h2 =>
        obtain ⟨r, hr, er, rfl⟩ := h1
        have : q = r := hU q hq r hr (by simpa [Rw.ref] using er)
        subst this
        rw [if_pos rfl, List.map_cons, ih _ (fun x hx => hl x (.tail _ hx)) h2]
    | false =>
      rw [ht, e, if_neg (by simp)] at h
      rw [if_neg (by simp)]
      exact ih _ (fun x hx => hl x (.tail _ hx)) h
local macro_rules | `(tactic| walk_at "call ref") => useP 83 vAny (pKw `(true)) (sp ``convN_spec [vAny, vAny, vAny, vAny, hole 0, hole 1]) tlT (cs [aCase 0, aCase 1]) obB fnA
local macro_rules | `(tactic| walk_at "call builtin:str.lower") => `(tactic| ((show wpAny _ _ (call (Value.builtin "str.lower") [Value.str _ _]) _ _ _); (refine SCL.lower (by assumption) ?_); intro _))
local macro_rules | `(tactic| k_all) => `(tactic| (intro pK hpK; have hlK := (by assumption : ∀ p ∈ List.map Rw.ent _, @LT.lt Nat _ p.1 _) pK hpK; k_ne))
theorem getall_spec (w : World) (tb dx lh : Addr) (hs : Int) (tk₀ : Tok) (nd n : Nat) (rows : List Rw) (nm : Str) (tn : Tok) (hsz : rows.length < 2 ^ 20) (hkl : ∀ r ∈ rows, r.k.length ≤ 5592405) (hnl : nm.length ≤ 5592405) (hlf : Fine (Txt.lower nm)) (hls : (Txt.lower nm).cps.size < 2 ^ 63) : Does w 6 121 [.ref tb, .str nm tn] [] (tblO tb dx lh hs tk₀ nd n rows) (fun _ => True) (fun r fin => ∃ new, (∃ l n2, r = .ref l ∧ new = [(l, listOf ((rows.filter fun q => Txt.lower q.k == Txt.lower nm).map fun q => Value.str q.v q.tv).toArray n2)]) ∧ fin = new ++ tblO tb dx lh hs tk₀ nd n rows) := by
  intro dp un gd env outer A₀ base h₀ L m s Q E p loose mean mg mb B F X N T hf hk hdp hun hpre k
  k_dflt (refine' code_ledC (binds := [(Str.ofString "self", .ref tb), (Str.ofString "name", .str nm tn)]) _ ?k1 ?k2 ?k3 ?k4 ?k5 ?kA ?kF ?kK ?k6 ?k7 ?k8 ?k9 ?kB ?kD ?c2 ?c3 ?c4 ?kk ?_; (case kA => exact rfl); (case kF => assumption); (case kK => assumption); (case k1 => assumption); (case k2 => assumption); (case k3 => assumption); (case k4 => assumption); (case k5 => assumption); (case k6 => k_is); (case k7 => k_is); (case k8 => walk_at "room"); (case k9 => first | exact BindsTo.of_eq rfl | exact binds_K (by k_in) rfl (by k_is) rfl rfl rfl); (case kB => exact rfl); (case kD => decide +kernel); (case c2 => exact rfl); (case c3 => exact rfl); (case c4 => exact rfl); (case kk => assumption))
  clear k B F X N T hf
  intro g' L' h' tk' cells' hkeep' F' N' Y' B' X' T' l1
  dsimp only [getallB, getallS, getallP, List.reverse_cons, List.reverse_nil, List.nil_append, List.cons_append]
  k_cells Y'
  dsimp only [List.cons_append, List.nil_append] at N'
  obtain ⟨lt1, lt2, lt3, lt4⟩ := allLt_of l1
  have ltR : ∀ p ∈ List.map Rw.ent rows, @LT.lt Nat _ p.1 L' := fun p hp => l1 p (by simp [hp])
  dsimp only [tblO, List.cons_append, List.nil_append] at N'
  walk_at "steps to a comprehension"
  rename_i oc Fc Nc dc
  have hin : ∀ q ∈ rows, q.ent ∈ List.map Rw.ent rows := fun q hq => List.mem_map_of_mem hq
  have hU : ∀ q ∈ rows, ∀ q' ∈ rows, q.a = q'.a → q = q' := rows_uniq Nc (fun q hq => .tail _ (.tail _ (.tail _ (.tail _ (hin q hq)))))
  k_dflt (refine' comp_eval (h₀ := g') (L := L') (m := bindL (envOfC (Str.ofString "Headers.get_all") getallS.1 L' 121 (.ref 120)).kindOf [(Str.ofString "self", .ref tb), (Str.ofString "name", .str nm tn)] fun _ => none) (news := (L' + 1, oc) :: tblO tb dx lh hs tk₀ nd n rows) (proj := id) (as := rows.map Rw.ref) (Ok := fun _ => True) (rowTest rows (Txt.lower nm)) (fun a y => ∃ q ∈ rows, a = Rw.ref q ∧ y = Value.str q.v q.tv) ?hclos ?hcell ?hkind ?hnames ?hx ?h ?hs; (case hclos => with_unfolding_all rfl); (case hcell => decide); (case hkind => with_unfolding_all rfl); (case hnames => decide); (case hx => with_unfolding_all rfl); (case hs => intro _; with_unfolding_all rfl))
  case h =>
    k_steps
    refine ⟨_, _, rfl, Fc, Nc, ?sz, src_id rfl ⟨listOf (rows.map Rw.ref).toArray n, (Nc (lh, listOf (rows.map Rw.ref).toArray n) (.tail _ (.tail _ (.tail _ (.head _))))).1, rfl, _, rfl⟩ (fun _ _ => trivial), ?tst, ?elt, ?done⟩
    case sz => rw [List.length_map, sizeLine_eq]; omega
    case tst =>
      intro C v s₂ m₂ E' hC hv _ hn hm hkc
      obtain ⟨q, hq, hqv⟩ := List.mem_map.mp hv
      have hqv' : v = Value.ref q.a := hqv.symm
      subst hqv'
      have hql := hkl q hq
      have Fc2 := Fr.keeps Fc hkc
      have N2 : News g' L' s₂.heap _ := News.grown Nc hkc
      have N3 : News g' L' s₂.heap ((q.a, tup2 q.k q.tk q.v q.tv) :: _) := fun p hp => by
        rcases List.mem_cons.mp hp with e | hp
        · rw [e]; exact N2 (q.a, tup2 q.k q.tk q.v q.tv) (.tail _ (.tail _ (.tail _ (.tail _ (hin q hq)))))
        · exact N2 _ hp
      clear Fc Nc N2
      k_steps
      exact ⟨(rowTest_at hU hq).symm, _, _, rfl, fun _ _ e => e⟩
    case elt =>
      intro C v s₂ m₂ E' hC hv _ _ hn hm hkc
      obtain ⟨q, hq, hqv⟩ := List.mem_map.mp hv
      have hqv' : v = Value.ref q.a := hqv.symm
      subst hqv'
      have Fc2 := Fr.keeps Fc hkc
      have N2 : News g' L' s₂.heap _ := News.grown Nc hkc
      have N3 : News g' L' s₂.heap ((q.a, tup2 q.k q.tk q.v q.tv) :: _) := fun p hp => by
        rcases List.mem_cons.mp hp with e | hp
        · rw [e]; exact N2 (q.a, tup2 q.k q.tk q.v q.tv) (.tail _ (.tail _ (.tail _ (.tail _ (hin q hq)))))
        · exact N2 _ hp
      clear Fc Nc N2
      k_steps
      exact ⟨⟨q, hq, rfl, rfl⟩, _, _, rfl, fun _ _ e => e⟩
    case done =>
      intro D ys n9 h9 tk9 F9 N9 hD hk9 hP
      obtain ⟨ys⟩ := ys
      have hys := paired_rows hU rows ys (fun _ h => h) hP
      subst hys
      clear Fc Nc hk9 hP
      refine pend_led F9 (fun p hp => N9 p ?_) ⟨[_], ⟨D, n9, rfl, rfl⟩, rfl⟩
      rcases List.mem_cons.mp hp with e | hp
      · rw [e]; exact .head _
      · exact .tail _ (.tail _ hp)
theorem getallR {w : World} {tb dx lh : Addr} {hs : Int} {tk₀ : Tok} {nd n : Nat} {rows : List Rw} (_ : TM tb dx lh hs tk₀ nd n rows) {nm : Str} {tn : Tok} (hsz : rows.length < 2 ^ 20) (hkl : ∀ r ∈ rows, r.k.length ≤ 5592405) (hnl : nm.length ≤ 5592405) (hlf : Fine (Txt.lower nm)) (hls : (Txt.lower nm).cps.size < 2 ^ 63) :
    Reads w 6 121 [.ref tb, .str nm tn] [] (tblO tb dx lh hs tk₀ nd n rows) (fun r new => ∃ l n2, r = .ref l ∧ new = [(l, listOf ((rows.filter fun q => Txt.lower q.k == Txt.lower nm).map fun q => Value.str q.v q.tv).toArray n2)]) := (getall_spec w tb dx lh hs tk₀ nd n rows nm tn hsz hkl hnl hlf hls).reads

end
theorem reset19 : True := by first | walk1 | trivial
section
open PySem PySem.W PySem.Calls PyProof.Rows
set_option maxRecDepth 100000
set_option maxHeartbeats 8000000
theorem fillC14a (w : World) (h : Heap) (X : (K w.params).In h) (e : rw0.foot = 7) : (K w.params).In h ∧ rw0.foot = 7 := by
  k_fill
  exact ⟨X, e⟩
local macro_rules | `(tactic| walk_at "call ref") => useR 116 (vL [vR, vS]) pTM (spT ``hasR [hole 0, hole 1, hole 2, hole 3, hole 4]) csOld (cs [aCase 0, aCase 1, aCase 2, aCase 3, aCase 4]) obB fnB
theorem cont_spec (w : World) (tb dx lh : Addr) (hs : Int) (tk₀ : Tok) (nd n : Nat) (rows : List Rw) (nm : Str) (tn : Tok) (hsz : rows.length < 2 ^ 20) (hkl : ∀ r ∈ rows, r.k.length ≤ 5592405) (hnl : nm.length ≤ 5592405) (hlf : Fine (Txt.lower nm)) (hls : (Txt.lower nm).cps.size < 2 ^ 63) : Does w 10 284 [.ref tb, .str nm tn] [] (tblO tb dx lh hs tk₀ nd n rows) (fun _ => True) (fun r fin => ∃ new, (r = .bool (rows.any fun r => Txt.lower r.k == Txt.lower nm) ∧ new = []) ∧ fin = new ++ tblO tb dx lh hs tk₀ nd n rows) := by
  intro dp un gd env outer A₀ base h₀ L m s Q E p loose mean mg mb B F X N T hf hk hdp hun hpre k
  k_dflt (refine' code_led (binds := [(Str.ofString "a", .ref tb), (Str.ofString "b", .str nm tn)]) _ ?k1 ?k2 ?k3 ?k4 ?k5 ?kA ?kF ?kK ?k6 ?k7 ?k8 ?k9 ?kB ?c2 ?c3 ?c4 ?c5 ?kk ?_; (case kA => exact rfl); (case kF => assumption); (case kK => assumption); (case k1 => assumption); (case k2 => assumption); (case k3 => assumption); (case k4 => assumption); (case k5 => assumption); (case k6 => k_is); (case k7 => k_is); (case k8 => walk_at "room"); (case k9 => first | exact BindsTo.of_eq rfl | exact binds_K (by k_in) rfl (by k_is) rfl rfl rfl); (case kB => exact locs rfl); (case c2 => exact rfl); (case c3 => exact rfl); (case c4 => exact rfl); (case c5 => decide); (case kk => assumption))
  clear k B F X N T hf
  intro g' L' h' hkeep' F' N' B' X' T'
  dsimp only [contB, contS, contP, List.reverse_cons, List.reverse_nil, List.nil_append, List.cons_append]
  dsimp only [tblO] at N'
  have hs2 : (rows.map Rw.ref).toArray.size < 2 ^ 20 := by simpa using hsz
  have hTM := tm tb dx lh hs tk₀ nd n rows
  k_steps
  exact pend_led (by assumption) (by assumption) ⟨[], ⟨rfl, rfl⟩, rfl⟩
theorem contR {w : World} {tb dx lh : Addr} {hs : Int} {tk₀ : Tok} {nd n : Nat} {rows : List Rw} (_ : TM tb dx lh hs tk₀ nd n rows) {nm : Str} {tn : Tok} (hsz : rows.length < 2 ^ 20) (hkl : ∀ r ∈ rows, r.k.length ≤ 5592405) (hnl : nm.length ≤ 5592405) (hlf : Fine (Txt.lower nm)) (hls : (Txt.lower nm).cps.size < 2 ^ 63) :
    Reads w 10 284 [.ref tb, .str nm tn] [] (tblO tb dx lh hs tk₀ nd n rows) (fun r new => r = .bool (rows.any fun r => Txt.lower r.k == Txt.lower nm) ∧ new = []) := (cont_spec w tb dx lh hs tk₀ nd n rows nm tn hsz hkl hnl hlf hls).reads

end
theorem reset20 : True := by first | walk1 | trivial
section
open PySem PySem.W PySem.Calls PyProof.Rows
set_option maxRecDepth 100000
set_option maxHeartbeats 8000000
theorem fillC14b (w : World) (h : Heap) (X : (K w.params).In h) (e : rw0.foot = 7) : (K w.params).In h ∧ rw0.foot = 7 := by
  k_fill
  exact ⟨X, e⟩
local macro_rules | `(tactic| walk_at "call ref") => useR 90 (vL [vR]) pTM (spT ``lenR [hole 0]) csOld (cs [aCase 0]) obF fnB
theorem lhint_spec (w : World) (tb dx lh : Addr) (hs : Int) (tk₀ : Tok) (nd n : Nat) (rows : List Rw) (hsz : rows.length < 2 ^ 20) : Does w 6 292 [.ref tb] [] (tblO tb dx lh hs tk₀ nd n rows) (fun _ => True) (fun r fin => ∃ new, ((∃ t, r = .int rows.length t) ∧ new = []) ∧ fin = new ++ tblO tb dx lh hs tk₀ nd n rows) := by
  intro dp un gd env outer A₀ base h₀ L m s Q E p loose mean mg mb B F X N T hf hk hdp hun hpre k
  k_dflt (refine' code_led (binds := [(Str.ofString "obj", .ref tb), (Str.ofString "default", .int 0 711)]) _ ?k1 ?k2 ?k3 ?k4 ?k5 ?kA ?kF ?kK ?k6 ?k7 ?k8 ?k9 ?kB ?c2 ?c3 ?c4 ?c5 ?kk ?_; (case kA => exact rfl); (case kF => assumption); (case kK => assumption); (case k1 => assumption); (case k2 => assumption); (case k3 => assumption); (case k4 => assumption); (case k5 => assumption); (case k6 => k_is); (case k7 => k_is); (case k8 => walk_at "room"); (case k9 => first | exact BindsTo.of_eq rfl | exact binds_K (by k_in) rfl (by k_is) rfl rfl rfl); (case kB => exact locs rfl); (case c2 => exact rfl); (case c3 => exact rfl); (case c4 => exact rfl); (case c5 => decide); (case kk => assumption))
  clear k B F X N T hf
  intro g' L' h' hkeep' F' N' B' X' T'
  dsimp only [lhintB, lhintS, lhintP, List.reverse_cons, List.reverse_nil, List.nil_append, List.cons_append]
  dsimp only [tblO] at N'
  have hs2 : (rows.map Rw.ref).toArray.size < 2 ^ 20 := by simpa using hsz
  have hTM := tm tb dx lh hs tk₀ nd n rows
  k_steps
  refine ⟨⟨by omega, by omega⟩, ?_⟩
  k_steps
  exact pend_led (by assumption) (by assumption) ⟨[], ⟨⟨_, rfl⟩, rfl⟩, rfl⟩
theorem lhintR {w : World} {tb dx lh : Addr} {hs : Int} {tk₀ : Tok} {nd n : Nat} {rows : List Rw} (_ : TM tb dx lh hs tk₀ nd n rows) (hsz : rows.length < 2 ^ 20) :
    Reads w 6 292 [.ref tb] [] (tblO tb dx lh hs tk₀ nd n rows) (fun r new => (∃ t, r = .int rows.length t) ∧ new = []) := (lhint_spec w tb dx lh hs tk₀ nd n rows hsz).reads

end
theorem reset21 : True := by first | walk1 | trivial
section
open PySem PySem.W PySem.Calls PyProof.Rows
set_option maxRecDepth 100000
set_option maxHeartbeats 8000000
theorem fillC15 (w : World) (h : Heap) (X : (K w.params).In h) (e : rw0.foot = 7) : (K w.params).In h ∧ rw0.foot = 7 := by
  k_fill
  exact ⟨X, e⟩
local macro_rules | `(tactic| walk_at "subscriptTail Name Name ref int") => `(tactic| ((with_reducible show wpAny _ _ (subscriptTail _ _ (Value.ref _) (Value.int _ _)) _ _ _); (rename IntsAre _ _ => iA); (rename Heap.IsList _ _ _ => iL); (rename Fr _ _ _ _ => iF); k_dflt (refine' item_list_ints (iL.at fun o e => iF.keep _ o e) iA ?a ?b ?c ?_; (case a => decide); (case b => omega); (case c => decide)); intro _))
theorem num0_spec (w : World) (scp : Addr) (vs : List Value) (ns : List Int) (tp : Tok) (hi : IntsAre vs ns) (hsz : ns.length ≤ 63)  : Pure w 2 299 [.ref scp, .int 0 tp] [] (fun h => h.IsList scp vs.toArray) (fun r new => new = [] ∧ ∃ t, r = .int ((ns.getD 0 0 + 16).fmod 1000000) t) := by
  intro dp un gd env outer A₀ base h₀ L m news s Q E p loose mean mg mb B F X N T hf hk hdp hun hpre k
  k_dflt (refine' code_pure (binds := [(Str.ofString "script", .ref scp), (Str.ofString "place", .int 0 tp)]) _ ?k1 ?k2 ?k3 ?k4 ?k5 ?kA ?kF ?kK ?k6 ?k7 ?k8 ?k9 ?kB ?c2 ?c3 ?c4 ?c5 ?kk ?_; (case kA => exact rfl); (case kF => assumption); (case kK => assumption); (case k1 => assumption); (case k2 => assumption); (case k3 => assumption); (case k4 => assumption); (case k5 => assumption); (case k6 => k_is); (case k7 => k_is); (case k8 => walk_at "room"); (case k9 => first | exact BindsTo.of_eq rfl | exact binds_K (by k_in) rfl (by k_is) rfl rfl rfl); (case kB => exact locs rfl); (case c2 => exact rfl); (case c3 => exact rfl); (case c4 => exact rfl); (case c5 => decide); (case kk => assumption))
  clear k B F X N T hf
  intro g' L' h' hkeep' F' N' B' X' T'
  dsimp only [numB, numS, numP, List.reverse_cons, List.reverse_nil, List.nil_append, List.cons_append]
  have hlen : vs.toArray.size = ns.length := by simp [hi.length]
  have hl : g'.IsList scp vs.toArray := hpre.at fun o e => hkeep' _ _ e
  k_steps
  · exact pend_val (by assumption) ⟨rfl, _, rfl⟩
  · have hge : ns.length ≤ 0 := by omega
    have e0 : ns.getD 0 0 = 0 := by rw [List.getD_eq_getElem?_getD, List.getElem?_eq_none hge]; rfl
    exact pend_val (by assumption) ⟨rfl, _, congrArg (fun k : Int => Value.int ((k + 16).fmod 1000000) _) e0.symm⟩
theorem num1_spec (w : World) (scp : Addr) (vs : List Value) (ns : List Int) (tp : Tok) (hi : IntsAre vs ns) (hsz : ns.length ≤ 63)  : Pure w 2 299 [.ref scp, .int 1 tp] [] (fun h => h.IsList scp vs.toArray) (fun r new => new = [] ∧ ∃ t, r = .int ((ns.getD 1 0 + 2041).fmod 1000000) t) := by
  intro dp un gd env outer A₀ base h₀ L m news s Q E p loose mean mg mb B F X N T hf hk hdp hun hpre k
  k_dflt (refine' code_pure (binds := [(Str.ofString "script", .ref scp), (Str.ofString "place", .int 1 tp)]) _ ?k1 ?k2 ?k3 ?k4 ?k5 ?kA ?kF ?kK ?k6 ?k7 ?k8 ?k9 ?kB ?c2 ?c3 ?c4 ?c5 ?kk ?_; (case kA => exact rfl); (case kF => assumption); (case kK => assumption); (case k1 => assumption); (case k2 => assumption); (case k3 => assumption); (case k4 => assumption); (case k5 => assumption); (case k6 => k_is); (case k7 => k_is); (case k8 => walk_at "room"); (case k9 => first | exact BindsTo.of_eq rfl | exact binds_K (by k_in) rfl (by k_is) rfl rfl rfl); (case kB => exact locs rfl); (case c2 => exact rfl); (case c3 => exact rfl); (case c4 => exact rfl); (case c5 => decide); (case kk => assumption))
  clear k B F X N T hf
  intro g' L' h' hkeep' F' N' B' X' T'
  dsimp only [numB, numS, numP, List.reverse_cons, List.reverse_nil, List.nil_append, List.cons_append]
  have hlen : vs.toArray.size = ns.length := by simp [hi.length]
  have hl : g'.IsList scp vs.toArray := hpre.at fun o e => hkeep' _ _ e
  k_steps
  · exact pend_val (by assumption) ⟨rfl, _, rfl⟩
  · have hge : ns.length ≤ 1 := by omega
    have e0 : ns.getD 1 0 = 0 := by rw [List.getD_eq_getElem?_getD, List.getElem?_eq_none hge]; rfl
    exact pend_val (by assumption) ⟨rfl, _, congrArg (fun k : Int => Value.int ((k + 2041).fmod 1000000) _) e0.symm⟩
theorem num2_spec (w : World) (scp : Addr) (vs : List Value) (ns : List Int) (tp : Tok) (hi : IntsAre vs ns) (hsz : ns.length ≤ 63)  : Pure w 2 299 [.ref scp, .int 2 tp] [] (fun h => h.IsList scp vs.toArray) (fun r new => new = [] ∧ ∃ t, r = .int ((ns.getD 2 0 + 324).fmod 1000000) t) := by
  intro dp un gd env outer A₀ base h₀ L m news s Q E p loose mean mg mb B F X N T hf hk hdp hun hpre k
  k_dflt (refine' code_pure (binds := [(Str.ofString "script", .ref scp), (Str.ofString "place", .int 2 tp)]) _ ?k1 ?k2 ?k3 ?k4 ?k5 ?kA ?kF ?kK ?k6 ?k7 ?k8 ?k9 ?kB ?c2 ?c3 ?c4 ?c5 ?kk ?_; (case kA => exact rfl); (case kF => assumption); (case kK => assumption); (case k1 => assumption); (case k2 => assumption); (case k3 => assumption); (case k4 => assumption); (case k5 => assumption); (case k6 => k_is); (case k7 => k_is); (case k8 => walk_at "room"); (case k9 => first | exact BindsTo.of_eq rfl | exact binds_K (by k_in) rfl (by k_is) rfl rfl rfl); (case kB => exact locs rfl); (case c2 => exact rfl); (case c3 => exact rfl); (case c4 => exact rfl); (case c5 => decide); (case kk => assumption))
  clear k B F X N T hf
  intro g' L' h' hkeep' F' N' B' X' T'
  dsimp only [numB, numS, numP, List.reverse_cons, List.reverse_nil, List.nil_append, List.cons_append]
  have hlen : vs.toArray.size = ns.length := by simp [hi.length]
  have hl : g'.IsList scp vs.toArray := hpre.at fun o e => hkeep' _ _ e
  k_steps
  · exact pend_val (by assumption) ⟨rfl, _, rfl⟩
  · have hge : ns.length ≤ 2 := by omega
    have e0 : ns.getD 2 0 = 0 := by rw [List.getD_eq_getElem?_getD, List.getElem?_eq_none hge]; rfl
    exact pend_val (by assumption) ⟨rfl, _, congrArg (fun k : Int => Value.int ((k + 324).fmod 1000000) _) e0.symm⟩

end
theorem reset22 : True := by first | walk1 | trivial
section
open PySem PySem.W PySem.Calls PyProof.Rows
set_option maxRecDepth 100000
set_option maxHeartbeats 8000000
theorem fillC16 (w : World) (h : Heap) (X : (K w.params).In h) (e : rw0.foot = 7) : (K w.params).In h ∧ rw0.foot = 7 := by
  k_fill
  exact ⟨X, e⟩
structure Bx (P : Prop) : Prop where
  un : P
theorem opq_of {P : Prop} (h : Bx P) : P := h.un
/-- which hues are found, from the k-th on -/
noncomputable def huesGo (picks : Int) : Nat → List Int → List Int → List Int
  | _, [], fs => fs
  | k, h :: hs, fs => huesGo picks (k + 1) hs (if (Builtin.bitAnd (picks.fdiv (2 ^ (k : Int).toNat)) 1 != 0 && !(fs.any (· == h))) = true then fs ++ [h] else fs)
local macro_rules | `(tactic| walk_at "exec For Tuple Call cons nil") => `(tactic| (k_here; (rename Fr _ _ _ _ => lF'); (with_unfolding_all refine' For_turns lF' ?_; k_whole)))
local macro_rules | `(tactic| walk_at "call type:enumerate") => `(tactic| (k_here; (with_reducible show wpAny _ _ (call (Value.type _) [Value.ref _]) (fun xv s₁ => wpAny _ _ (pyIter xv) (fun it s₂ => TurnsAt _ _ _ _ _ _ _ _ _ it s₂) _ s₁) _ _); (rename Fr _ _ _ _ => lF'); (rename News _ _ _ _ => lN'); k_dflt (refine' ktu_enum (vs := [_, _, _, _]) rfl lF' lN' ?km ?kc ?kd ?kx ?_; (case km => k_mem); (case kc => exact rfl); (case kd => exact rfl); (case kx => exact rfl))))
local macro_rules | `(tactic| walk_at "ItemsRest") => `(tactic| (refine opq_of ?_))
local macro_rules | `(tactic| walk_at "compareOp NotIn int ref") => `(tactic| ((with_reducible rename IntsAre _ _ => iA); (refine notin_list_ints (News.isList (by assumption) (by k_mem)) iA ?_)))
theorem huesGo_in {P : Int} {k : Nat} {h : Int} {hs fs : List Int} (a : Builtin.bitAnd (P.fdiv (2 ^ (k : Int).toNat)) 1 ≠ 0) (b : (fs.any fun x => x == h) = true) : huesGo P k (h :: hs) fs = huesGo P (k + 1) hs fs := by
  simp only [huesGo, b, bne_iff_ne.mpr a, Bool.not_true, Bool.and_false, Bool.false_eq_true, if_false]
theorem huesGo_add {P : Int} {k : Nat} {h : Int} {hs fs : List Int} (a : Builtin.bitAnd (P.fdiv (2 ^ (k : Int).toNat)) 1 ≠ 0) (b : (fs.any fun x => x == h) = false) : huesGo P k (h :: hs) fs = huesGo P (k + 1) hs (fs ++ [h]) := by
  simp only [huesGo, b, bne_iff_ne.mpr a, Bool.not_false, Bool.and_true, if_true]
theorem huesGo_no {P : Int} {k : Nat} {h : Int} {hs fs : List Int} (a : Builtin.bitAnd (P.fdiv (2 ^ (k : Int).toNat)) 1 = 0) : huesGo P k (h :: hs) fs = huesGo P (k + 1) hs fs := by
  simp only [huesGo, a, bne_self_eq_false, Bool.false_and, Bool.false_eq_true, if_false]
theorem with_obj {g h : Heap} {L a : Addr} {o : Obj} {r : List (Addr × Obj)} {P : Prop} (_ : News g L h ((a, o) :: r)) (k : ∀ lo, lo = o → P) : P := k o rfl
theorem push_ta {vs : List Value} {v : Value} : vs.toArray.push v = (vs ++ [v]).toArray := by simp
theorem ints_snoc {vs : List Value} {ns : List Int} {k : Int} {t : Tok} (i : IntsAre vs ns) : IntsAre (vs ++ [.int k t]) (ns ++ [k]) := by
  induction i with
  | nil => exact .cons _ _ .nil
  | cons k t i ih => exact .cons _ _ ih
noncomputable def huesOf (x step wheel : Int) : List Int := huesGo (1 + (x.fdiv (wheel ^ Int.toNat 2)).fmod 15) 0 [x.fmod wheel, (x.fmod wheel + step).fmod wheel, (x.fdiv wheel).fmod wheel, ((x.fdiv wheel).fmod wheel + step).fmod wheel] []
local macro_rules | `(tactic| walk_at "binaryOp FloorDiv int int") => `(tactic| (with_reducible refine floordiv_int (by assumption) ?_ (Or.inl (PyProof.noPylong_small (by omega)))))
local macro_rules | `(tactic| walk_at "call builtin:list.append") => `(tactic| (k_here; (with_reducible show wpAny _ _ (call (Value.builtin _) [Value.ref _, _]) _ _ _); k_dflt (refine' append_K ?k1 ?k2 ?k3 ?_ ?z; (case k1 => k_asm); (case k2 => k_asm); (case k3 => k_upd); (case z => rw [sizeLine_eq]; omega); k_whole); intro h' F' N'; (try k_sweep)))
inductive HuesJ (x step wheel : Int) (l0 l1 I : Addr) (lo : Obj) (xs : List Itm) (m : Str → Option Value) (nn : List (Addr × Obj)) : Prop
  | mk (k : Nat) (rest : List Value) (hs : List Int) (fv : List Value) (fs : List Int) (fn : Nat) (tp : Tok) (tx : Addr) (tt : Obj) (q0 : IntsAre rest hs) (q1 : IntsAre fv fs) (q2 : xs = enumItems k rest) (q3 : m (Str.ofString "picks") = some (.int (1 + (x.fdiv (wheel ^ Int.toNat 2)).fmod 15) tp)) (q4 : m (Str.ofString "found") = some (.ref l0)) (q5 : nn = [(l1, lo), (l0, listOf fv.toArray fn), (tx, tt)]) (q6 : fs.length + rest.length ≤ 4) (q7 : k + rest.length ≤ 4) (q8 : huesGo (1 + (x.fdiv (wheel ^ Int.toNat 2)).fmod 15) k hs fs = huesOf x step wheel) (q9 : @LT.lt Nat _ l0 I) (q10 : @LT.lt Nat _ l1 I) (q11 : @LT.lt Nat _ l0 l1) (q12 : @LT.lt Nat _ tx l0) : HuesJ x step wheel l0 l1 I lo xs m nn
theorem nm1 {h₀ h : Heap} {L a : Addr} {x : Obj} {r : List (Addr × Obj)} (_ : News h₀ L h ((a, x) :: r)) : ∃ a' : Addr, a' = a := ⟨a, rfl⟩
theorem nm2 {h₀ h : Heap} {L a b : Addr} {x y : Obj} {r : List (Addr × Obj)} (_ : News h₀ L h ((a, x) :: (b, y) :: r)) : ∃ a' b' : Addr, a' = a ∧ b' = b := ⟨a, b, rfl, rfl⟩
theorem hues_spec (w : World) (x step wheel : Int) (tx ts tw : Tok) (h0 : 0 ≤ x) (h1 : x < 1000000) (hs : 0 ≤ step) (hs2 : step ≤ 17) (hw : 6 ≤ wheel) (hw2 : wheel ≤ 18)  : Pure w 2 306 [.int x tx, .int step ts, .int wheel tw] [] (fun _ => True) (fun r new => ∃ a fv n, r = .ref a ∧ new = [(a, listOf fv.toArray n)] ∧ IntsAre fv (huesOf x step wheel)) := by
  intro dp un gd env outer A₀ base h₀ L m news s Q E p loose mean mg mb B F X N T hf hk hdp hun hpre k
  k_dflt (refine' code_pure (binds := [(Str.ofString "x", .int x tx), (Str.ofString "step", .int step ts), (Str.ofString "wheel", .int wheel tw)]) _ ?k1 ?k2 ?k3 ?k4 ?k5 ?kA ?kF ?kK ?k6 ?k7 ?k8 ?k9 ?kB ?c2 ?c3 ?c4 ?c5 ?kk ?_; (case kA => exact rfl); (case kF => assumption); (case kK => assumption); (case k1 => assumption); (case k2 => assumption); (case k3 => assumption); (case k4 => assumption); (case k5 => assumption); (case k6 => k_is); (case k7 => k_is); (case k8 => walk_at "room"); (case k9 => first | exact BindsTo.of_eq rfl | exact binds_K (by k_in) rfl (by k_is) rfl rfl rfl); (case kB => exact locs rfl); (case c2 => exact rfl); (case c3 => exact rfl); (case c4 => exact rfl); (case c5 => decide); (case kk => assumption))
  clear k B F X N T hf
  intro g' L' h' hkeep' F' N' B' X' T'
  dsimp only [huesB, huesS, huesP, List.reverse_cons, List.reverse_nil, List.nil_append, List.cons_append]
  have hw3 : 36 ≤ wheel ^ Int.toNat 2 := by show 36 ≤ wheel ^ 2; rw [Int.pow_succ, Int.pow_succ, Int.pow_zero, Int.one_mul]; have := Int.mul_le_mul hw hw (by decide) (by omega : (0:Int) ≤ wheel); omega
  have hw5 : wheel ^ Int.toNat 2 ≤ 324 := by show wheel ^ 2 ≤ 324; rw [Int.pow_succ, Int.pow_succ, Int.pow_zero, Int.one_mul]; have := Int.mul_le_mul hw2 hw2 (by omega) (by decide : (0:Int) ≤ 18); omega
  have hw4 : wheel ^ Int.toNat 2 ≠ 0 := by omega
  k_steps
  rename_i I hI
  constructor
  have hp1 : 1 ≤ 1 + (x.fdiv (wheel ^ Int.toNat 2)).fmod 15 ∧ 1 + (x.fdiv (wheel ^ Int.toNat 2)).fmod 15 ≤ 15 := by
    have a := Int.fmod_nonneg_of_pos (x.fdiv (wheel ^ Int.toNat 2)) (show (0:Int) < 15 by decide)
    have b := Int.fmod_lt_of_pos (x.fdiv (wheel ^ Int.toNat 2)) (show (0:Int) < 15 by decide)
    omega
  (rename News _ _ _ _ => lN)
  obtain ⟨l1, l0, rfl, rfl⟩ := nm2 lN
  (rename _ < l1 ∧ _ < l1 => q12)
  (rename _ < l0 => q01)
  obtain ⟨q12, q02⟩ := q12
  refine with_obj lN fun lo hlo => ?_
  refine items_inv (HuesJ x step wheel l0 l1 I lo) ?step ?fin _ _ _ ⟨0, [_, _, _, _], _, [], [], 0, _, _, _, .cons _ _ (.cons _ _ (.cons _ _ (.cons _ _ .nil))), .nil, rfl, rfl, rfl, by rw [hlo], by simp, by simp, rfl, hI _ (.tail _ (.head _)), hI _ (.head _), q12, q01⟩
  · ((repeat ((rename Fr _ _ _ _ => fOld); clear fOld)); (repeat ((rename News _ _ _ _ => nOld); clear nOld)))
    try dsimp only
    rintro a r m nn ⟨k, rest, hs, fv, fs, fn, tp, tx, tt, i1, i2, e1, e2, e3, e4, z1, z2, e5, lt0, lt1, lt2, lt3⟩ v h tk hv F
    cases i1 with
    | nil => cases e1
    | cons k' t' i1 =>
      rename_i rest hs
      obtain ⟨rfl, rfl⟩ := List.cons.inj e1
      obtain ⟨T, t, rfl, hT⟩ := hv
      refine AllObj.cons (fun o1 hc1 => AllObj.cons (fun o2 hc2 => AllObj.nil (fun N => ?_)))
      subst e4
      have F1 := fr_fix F _ _ e2
      have F2 := fr_fix F1 (Str.ofString "found") _ e3
      clear F F1
      simp only [List.length_cons] at z1 z2
      have hk4 : (k : Int) ≤ 3 := by omega
      have hk0 : (0 : Int) ≤ (k : Int) := by omega
      have n1 : @Ne Nat (I + 1) l0 := by omega
      have n2 : @Ne Nat I l0 := by omega
      have n3 : @Ne Nat l1 l0 := by omega
      have n4 : @Ne Nat tx l0 := by omega
      have n5 : fv.toArray.size ≤ 3 := by have := i2.length; simp; omega
      dsimp only [List.cons_append, List.nil_append] at N
      have ap : ∀ (o : Obj), ∀ p ∈ [(l1, lo), (l0, o), (tx, tt)], ∀ q ∈ [(I + 1, o1), (I, o2)], p.1 ≠ q.1 := by
        intro o p hp q hq
        simp only [List.mem_cons, List.not_mem_nil, or_false] at hp hq
        have aux : ∀ a b : Nat, a < b → @Ne Nat a b := fun a b h => Nat.ne_of_lt h
        rcases hp with rfl | rfl | rfl <;> rcases hq with rfl | rfl <;> exact aux _ _ (by omega)
      k_steps
      · (rename Fr _ _ _ _ => F3); (rename News _ _ _ _ => N3); (rename Builtin.bitAnd _ _ ≠ _ => hb); (rename List.any _ _ = true => hn)
        exact ⟨_, _, _, [(l1, lo), (l0, listOf fv.toArray fn), (tx, tt)], rfl, F3, N3, ap _, ⟨by rw [← hlo]; exact .head _, trivial⟩, k + 1, rest, hs, fv, fs, fn, tp, tx, tt, i1, i2, rfl, rfl, rfl, rfl, by omega, by omega, by rw [← huesGo_in hb hn]; exact e5, lt0, lt1, lt2, lt3⟩
      · (rename Fr _ _ _ _ => F3); (rename News _ _ _ _ => N3); (rename Builtin.bitAnd _ _ ≠ _ => hb); (rename List.any _ _ = false => hn)
        rw [push_ta] at N3
        exact ⟨_, _, _, [(l1, lo), (l0, listOf (fv ++ [Value.int k' t']).toArray (fn + 1)), (tx, tt)], rfl, F3, N3, ap _, ⟨by rw [← hlo]; exact .head _, trivial⟩, k + 1, rest, hs, fv ++ [Value.int k' t'], fs ++ [k'], fn + 1, tp, tx, tt, i1, ints_snoc i2, rfl, rfl, rfl, rfl, by rw [List.length_append]; simp only [List.length_cons, List.length_nil]; omega, by omega, by rw [← huesGo_add hb hn]; exact e5, lt0, lt1, lt2, lt3⟩
      · (rename Fr _ _ _ _ => F3); (rename News _ _ _ _ => N3); (rename Builtin.bitAnd _ _ = _ => hb)
        exact ⟨_, _, _, [(l1, lo), (l0, listOf fv.toArray fn), (tx, tt)], rfl, F3, N3, ap _, ⟨by rw [← hlo]; exact .head _, trivial⟩, k + 1, rest, hs, fv, fs, fn, tp, tx, tt, i1, i2, rfl, rfl, rfl, rfl, by omega, by omega, by rw [← huesGo_no hb]; exact e5, lt0, lt1, lt2, lt3⟩
  · ((repeat ((rename Fr _ _ _ _ => fOld); clear fOld)); (repeat ((rename News _ _ _ _ => nOld); clear nOld)))
    try dsimp only
    rintro m nn ⟨k, rest, hs, fv, fs, fn, tp, tx, tt, i1, i2, e1, e2, e3, e4, z1, z2, e5, lt0, lt1, lt2, lt3⟩ h tk F N
    subst e4
    have F2 := fr_fix F (Str.ofString "found") _ e3
    clear F
    k_steps
    cases rest with
    | cons q r => cases e1
    | nil =>
      cases i1
      refine pend_led F2 (fun p hp => N p ?_) ⟨l0, fv, fn, rfl, rfl, ?_⟩
      · rw [List.mem_singleton.mp hp]; exact .tail _ (.head _)
      · rw [← e5]; exact i2

end
theorem reset23 : True := by first | walk1 | trivial
section
open PySem PySem.W PySem.Calls PyProof.Rows
set_option maxRecDepth 100000
set_option maxHeartbeats 8000000
section
variable {prog : Program} {w : World} {A : Around} {E : Value → Shared → Prop} {R : Result → Shared → Prop} {s : Shared} {elt i1 i2 : Expr} {x y : Str} {px py : Pos} {scope : Scope} {pos : Pos}
noncomputable abbrev setC (elt i1 i2 : Expr) (x y : Str) (px py : Pos) (scope : Scope) (pos : Pos) : Expr := .SetComp elt [⟨.Name x px, i1, [], 0⟩, ⟨.Name y py, i2, [], 0⟩] scope pos
theorem setStart0 {it acc : Value} {env : Env}
    (h0 : codeAny (model prog w) A (.compLoop (setC elt i1 i2 x y px py scope pos) 0 it acc env) R s)
    (h : wpAny (model prog w) A (pyIter it) (fun it' s' => codeAny (model prog w) A (.compLoop (setC elt i1 i2 x y px py scope pos) 0 it' acc env) R s') (notedBy (model prog w) A env fun x s' => R (.error x) s') s) :
    codeAny (model prog w) A (.compStart (setC elt i1 i2 x y px py scope pos) 0 it acc env) R s := by
  refine codeAny_of_tree ?_
  show wpAny _ _ ((compStart (setC elt i1 i2 x y px py scope pos) 0 it acc env).onRaise (fun x => do noteFrame x env; standAt theWindowsPlace)) _ _ s
  refine wpAny_notedAt ?_
  unfold compStart
  show wpAny _ _ (ask >>= _) _ _ s
  refine wpAny_bind (wpAny_askSetting (wpAny_ite ?_))
  split
  · first
      | exact wpAny_bind (wpAny_pure (wpAny_pure (And.intro rfl h0)))
      | exact wpAny_pure (And.intro rfl h0)
  · refine wpAny_bind (wpAny_rule ?_)
    show wpAny _ _ (standAt i1.pos >>= _) _ _ s
    exact wpAny_bind (wpAny_standAt (wpAny_bind (wpAny_mono h (fun it' s' h' => wpAny_pure (And.intro rfl h')) fun _ _ x => x)))
theorem setStart1 {it acc : Value} {env : Env}
    (h0 : codeAny (model prog w) A (.compLoop (setC elt i1 i2 x y px py scope pos) 1 it acc env) R s)
    (h : wpAny (model prog w) A (pyIter it) (fun it' s' => codeAny (model prog w) A (.compLoop (setC elt i1 i2 x y px py scope pos) 1 it' acc env) R s') (notedBy (model prog w) A env fun x s' => R (.error x) s') s) :
    codeAny (model prog w) A (.compStart (setC elt i1 i2 x y px py scope pos) 1 it acc env) R s := by
  refine codeAny_of_tree ?_
  show wpAny _ _ ((compStart (setC elt i1 i2 x y px py scope pos) 1 it acc env).onRaise (fun x => do noteFrame x env; standAt theWindowsPlace)) _ _ s
  refine wpAny_notedAt ?_
  unfold compStart
  show wpAny _ _ (ask >>= _) _ _ s
  refine wpAny_bind (wpAny_askSetting (wpAny_ite ?_))
  split
  · first
      | exact wpAny_bind (wpAny_pure (wpAny_pure (And.intro rfl h0)))
      | exact wpAny_pure (And.intro rfl h0)
  · refine wpAny_bind (wpAny_rule ?_)
    show wpAny _ _ (standAt i2.pos >>= _) _ _ s
    exact wpAny_bind (wpAny_standAt (wpAny_bind (wpAny_mono h (fun it' s' h' => wpAny_pure (And.intro rfl h')) fun _ _ x => x)))
theorem setTurn0 (it acc : Value) (env : Env) :
    compTurn (setC elt i1 i2 x y px py scope pos) 0 it acc env = (standAt i1.pos >>= fun _ => pyNext it >>= fun r => match r with
      | none => pure (.done .next)
      | some v => letOwnedTupleGo (.Name x px) it v >>= fun _ => assign (.Name x px) env v >>= fun _ =>
        eval i2 env >>= fun xv => standAt i2.pos >>= fun _ => foldedSetIterable i2 env xv >>= fun xv => holding [xv] (pyIter xv) >>= fun it2 => runOwn (.compStart (setC elt i1 i2 x y px py scope pos) 1 it2 acc env) env >>= fun _ =>
          again (.compLoop (setC elt i1 i2 x y px py scope pos) 0 it acc env)) := by rfl
theorem setTurn1 (it acc : Value) (env : Env) :
    compTurn (setC elt i1 i2 x y px py scope pos) 1 it acc env = (standAt i2.pos >>= fun _ => pyNext it >>= fun r => match r with
      | none => pure (.done .next)
      | some v => letOwnedTupleGo (.Name y py) it v >>= fun _ => assign (.Name y py) env v >>= fun _ =>
        (eval elt env >>= fun xv => standAt elt.pos >>= fun _ => call (.builtin "set.add") [acc, xv] >>= fun _ => pure ()) >>= fun _ =>
          again (.compLoop (setC elt i1 i2 x y px py scope pos) 1 it acc env)) := by rfl
theorem setOf_at {h h' : Heap} {a : Addr} {K : Type} [DecidableEq K] {knd : KeyKind prog w K} {S : K → Bool} {n : Nat} (hS : h.SetOf knd a S n) (e : ∀ o, h.get? a = some o → h'.get? a = some o) : h'.SetOf knd a S n :=
  let ⟨o, es, ep, t, ho, r⟩ := hS; ⟨o, es, ep, t, e _ ho, r⟩
noncomputable def innerS (f : Int → Int) (σ : List Int) (ks : List Int) : List Int := ks.foldl (fun σ b => step_dedup σ (f b)) σ
theorem innerS_len (f : Int → Int) : ∀ (ks σ : List Int), (innerS f σ ks).length ≤ σ.length + ks.length
  | [], σ => Nat.le_refl _
  | k :: ks, σ => by
    have h := innerS_len f ks (step_dedup σ (f k))
    have e : (step_dedup σ (f k)).length ≤ σ.length + 1 := by rw [step_length]; split <;> omega
    show (innerS f (step_dedup σ (f k)) ks).length ≤ _
    rw [List.length_cons]; omega
theorem innerS_snoc (f : Int → Int) (σ ks : List Int) (k : Int) : innerS f σ (ks ++ [k]) = step_dedup (innerS f σ ks) (f k) := by
  unfold innerS; rw [List.foldl_append]; rfl
theorem take_at {ks : List Int} {j : Nat} {b : Int} (h : ks[j]? = some b) : ks.take (j + 1) = ks.take j ++ [b] := by
  rw [List.take_add_one, h]; rfl
theorem setInner {env : Env} {m : Str → Option Value} {C D I l : Addr} {a : Int} {ta : Tok} {vk : List Value} {ks σ : List Int} (f : Int → Int)
    (hh : A.handled = none) (hC : env.locals = C) (hy : env.kindOf y = some .local) (hp : (env.scope.kind == .class || (env.scope.kind == .module && env.locals != env.globals)) = false) (hxy : x ≠ y)
    (hDC : D ≠ C) (hIC : I ≠ C) (hID : I ≠ D) (hlC : l ≠ C) (hlD : l ≠ D) (hlI : l ≠ I)
    (hn : s.heap.Ns C m) (hmx : m x = some (.int a ta)) (hk : IntsAre vk ks) (hit : s.heap.IsListIter I l 0) (hl : s.heap.IsList l vk.toArray)
    (hS : s.heap.SetOf (intKind prog w) D (fun k => σ.any (· == k)) σ.length) (hroom : σ.length + ks.length + 1 < scanBound)
    (helt : ∀ s₂ m₂ b u E', s₂.heap.Ns C m₂ → m₂ x = some (.int a ta) → m₂ y = some (.int b u) → b ∈ ks → (∀ c o, c ≠ C → c ≠ D → c ≠ I → s.heap.get? c = some o → s₂.heap.get? c = some o) →
      wpAny (model prog w) A (eval elt env) (fun v s₃ => (∃ t, v = .int (f b) t) ∧ Keeps s₂ s₃) E' s₂)
    (hR : ∀ h' tk m', h'.Ns C m' → h'.SetOf (intKind prog w) D (fun k => (innerS f σ ks).any (· == k)) (innerS f σ ks).length → (∀ c o, c ≠ C → c ≠ D → c ≠ I → s.heap.get? c = some o → h'.get? c = some o) → R (.ok .next) { s with heap := h', toks := tk }) :
    codeAny (model prog w) A (.compLoop (setC elt i1 i2 x y px py scope pos) 1 (.ref I) (.ref D) env) R s := by
  subst hC
  refine codeAny_loop rfl (fun n s' => ∃ h tk m' j, s' = { s with heap := h, toks := tk } ∧ h.Ns env.locals m' ∧ m' x = some (.int a ta) ∧ h.IsListIter I l j ∧ h.SetOf (intKind prog w) D (fun k => (innerS f σ (ks.take j)).any (· == k)) (innerS f σ (ks.take j)).length ∧ j ≤ ks.length ∧ n = ks.length + 1 - j ∧ (∀ c o, c ≠ env.locals → c ≠ D → c ≠ I → s.heap.get? c = some o → h.get? c = some o)) ?_ (ks.length + 1)
    ⟨s.heap, s.toks, m, 0, rfl, hn, hmx, hit, hS, Nat.zero_le _, rfl, fun _ _ _ _ _ e => e⟩
  rintro n s' ⟨h, tk, m', j, rfl, hn', hmx', hit', hS', hj, rfl, hkeep⟩
  show wpAny _ _ ((compTurn (setC elt i1 i2 x y px py scope pos) 1 (.ref I) (.ref D) env).onRaise (fun x => do noteFrame x env; theTreesLotGoes x)) _ _ _
  refine wpAny_noted ?_
  rw [setTurn1]
  have hl' : h.IsList l vk.toArray := hl.at fun o e => hkeep l o hlC hlD hlI e
  have hlen := hk.length
  by_cases hlt : j < ks.length
  · obtain ⟨b, hb⟩ : ∃ b, ks[j]? = some b := ⟨ks[j], List.getElem?_eq_getElem hlt⟩
    obtain ⟨u, hu⟩ := hk.get j b hb
    refine wpAny_bind (wpAny_standAt (wpAny_bind (wpAny_pyNext_list_item hit' hl' (x := .int b u) (by simpa using hu) fun h₁ hit₁ hs₁ => ?_)))
    refine wpAny_bind (wpAny_of_eq (by rfl) ?_)
    refine wpAny_bind (wpAny_assign_Name (wpAny_storeName_local hy (hn'.sameBut hs₁ (Ne.symm hIC)) (fun h₂ hn₂ hs₂ => ?_) hp))
    have up₂ : ∀ c o, c ≠ env.locals → c ≠ I → h.get? c = some o → h₂.get? c = some o := fun c o c1 c2 e => hs₂.extBut c o c1 (hs₁.extBut c o c2 e)
    refine wpAny_bind (wpAny_bind (wpAny_mono (helt _ _ b u _ hn₂ (by simp [hxy, hmx']) (by simp) (List.mem_of_getElem? hb) fun c o c1 c2 c3 e => up₂ c o c1 c3 (hkeep c o c1 c2 c3 e)) (fun v s₃ h₃ => ?_) fun _ _ e => e))
    obtain ⟨⟨t, rfl⟩, h₃, tk₃, rfl, hk₃⟩ := h₃
    have hlenj := innerS_len f (ks.take j) σ
    rw [List.length_take] at hlenj
    refine wpAny_bind (wpAny_standAt (wpAny_bind (call_set_add (knd := intKind prog w) (intKind_is _ _ _ _) rfl (setOf_at hS' fun o e => hk₃ _ o (up₂ D o hDC (Ne.symm hID) e)) (Nat.lt_of_le_of_lt (Nat.add_le_add_right (Nat.le_trans hlenj (Nat.add_le_add_left (Nat.min_le_right _ _) _)) 1) hroom) fun h₄ hs₄ hS₄ => ?_)))
    refine wpAny_pure (wpAny_pure ⟨rfl, ks.length + 1 - (j + 1), less hlt, h₄, tk₃ + 1, _, j + 1, rfl, (hn₂.keeps hk₃).sameBut hs₄ (Ne.symm hDC), by simp [hxy, hmx'], ((hit₁.extBut hs₂.extBut hIC).at fun o e => hk₃ _ o e).extBut hs₄.extBut hID, ?_, hlt, rfl, fun c o c1 c2 c3 e => hs₄.extBut c o c2 (hk₃ c o (up₂ c o c1 c3 (hkeep c o c1 c2 c3 e)))⟩)
    rw [take_at hb, innerS_snoc]
    exact SetOf_congr hS₄ (fun k => by rw [step_any]) (by rw [step_length])
  · have e : j = ks.length := by omega
    subst e
    refine wpAny_bind (wpAny_standAt (wpAny_bind (wpAny_pyNext_list_end hh hit' hl' (by simp [hlen]) fun h₁ he₁ => ?_)))
    rw [List.take_length] at hS'
    exact wpAny_pure (hR h₁ tk m' (hn'.at' fun o e => he₁ _ o (Ne.symm hIC) e) (setOf_at hS' fun o e => he₁ _ o (Ne.symm hID) e) fun c o c1 c2 c3 e => he₁ c o c3 (hkeep c o c1 c2 c3 e))
noncomputable def outerS (f : Int → Int → Int) (as ks : List Int) : List Int := as.foldl (fun σ a => innerS (f a) σ ks) []
theorem outerS_snoc (f : Int → Int → Int) (as ks : List Int) (a : Int) : outerS f (as ++ [a]) ks = innerS (f a) (outerS f as ks) ks := by
  unfold outerS; rw [List.foldl_append]; rfl
theorem outerS_len (f : Int → Int → Int) (as ks : List Int) : ∀ i, i ≤ as.length → (outerS f (as.take i) ks).length ≤ i * ks.length
  | 0, _ => by simp [outerS]
  | i + 1, hi => by
    have ih := outerS_len f as ks i (by omega)
    rw [take_at (List.getElem?_eq_getElem hi), outerS_snoc]
    have := innerS_len (f as[i]) ks (outerS f (as.take i) ks)
    rw [Nat.add_mul, Nat.one_mul]; omega
theorem setOuter {env : Env} {m : Str → Option Value} {C D I l l' : Addr} {va vk : List Value} {as ks : List Int} (f : Int → Int → Int)
    (hh : A.handled = none) (hC : env.locals = C) (hx : env.kindOf x = some .local) (hy : env.kindOf y = some .local) (hp : (env.scope.kind == .class || (env.scope.kind == .module && env.locals != env.globals)) = false) (hxy : x ≠ y)
    (hDC : D ≠ C) (hIC : I ≠ C) (hID : I ≠ D) (hlC : l ≠ C) (hlD : l ≠ D) (hlI : l ≠ I) (hkC : l' ≠ C) (hkD : l' ≠ D) (hkI : l' ≠ I)
    (hn : s.heap.Ns C m) (ha : IntsAre va as) (hk : IntsAre vk ks) (hit : s.heap.IsListIter I l 0) (hl : s.heap.IsList l va.toArray) (hlk : s.heap.IsList l' vk.toArray)
    (hS : s.heap.SetOf (intKind prog w) D (fun _ => false) 0) (hroom : ∀ i, i ≤ as.length → i * ks.length + ks.length + 1 < scanBound)
    (hfs : ∀ v, foldedSetIterable i2 env v = pure v)
    (hiter : ∀ s₂ m₂ E', s₂.heap.Ns C m₂ → (∀ c o, c ≠ C → c ≠ D → c ≠ I → s.heap.get? c = some o → s₂.heap.get? c = some o) →
      wpAny (model prog w) A (eval i2 env) (fun v s₃ => v = .ref l' ∧ Keeps s₂ s₃) E' s₂)
    (helt : ∀ s₂ m₂ a t b u E', s₂.heap.Ns C m₂ → m₂ x = some (.int a t) → m₂ y = some (.int b u) → a ∈ as → b ∈ ks → (∀ c o, c ≠ C → c ≠ D → c ≠ I → s.heap.get? c = some o → s₂.heap.get? c = some o) →
      wpAny (model prog w) A (eval elt env) (fun v s₃ => (∃ t, v = .int (f a b) t) ∧ Keeps s₂ s₃) E' s₂)
    (hR : ∀ h' tk m', h'.Ns C m' → h'.SetOf (intKind prog w) D (fun k => (outerS f as ks).any (· == k)) (outerS f as ks).length → (∀ c o, c ≠ C → c ≠ D → c ≠ I → s.heap.get? c = some o → h'.get? c = some o) → R (.ok .next) { s with heap := h', toks := tk }) :
    codeAny (model prog w) A (.compLoop (setC elt i1 i2 x y px py scope pos) 0 (.ref I) (.ref D) env) R s := by
  subst hC
  refine codeAny_loop rfl (fun n s' => ∃ h tk m' j, s' = { s with heap := h, toks := tk } ∧ h.Ns env.locals m' ∧ h.IsListIter I l j ∧ h.SetOf (intKind prog w) D (fun k => (outerS f (as.take j) ks).any (· == k)) (outerS f (as.take j) ks).length ∧ j ≤ as.length ∧ n = as.length + 1 - j ∧ (∀ c o, c ≠ env.locals → c ≠ D → c ≠ I → s.heap.get? c = some o → h.get? c = some o)) ?_ (as.length + 1)
    ⟨s.heap, s.toks, m, 0, rfl, hn, hit, SetOf_congr hS (fun k => by rfl) rfl, Nat.zero_le _, rfl, fun _ _ _ _ _ e => e⟩
  rintro n s' ⟨h, tk, m', j, rfl, hn', hit', hS', hj, rfl, hkeep⟩
  show wpAny _ _ ((compTurn (setC elt i1 i2 x y px py scope pos) 0 (.ref I) (.ref D) env).onRaise (fun x => do noteFrame x env; theTreesLotGoes x)) _ _ _
  refine wpAny_noted ?_
  rw [setTurn0]
  have hl' : h.IsList l va.toArray := hl.at fun o e => hkeep l o hlC hlD hlI e
  have hlk' : h.IsList l' vk.toArray := hlk.at fun o e => hkeep l' o hkC hkD hkI e
  have hlen := ha.length
  by_cases hlt : j < as.length
  · obtain ⟨a, hb⟩ : ∃ a, as[j]? = some a := ⟨as[j], List.getElem?_eq_getElem hlt⟩
    obtain ⟨t, hu⟩ := ha.get j a hb
    refine wpAny_bind (wpAny_standAt (wpAny_bind (wpAny_pyNext_list_item hit' hl' (x := .int a t) (by simpa using hu) fun h₁ hit₁ hs₁ => ?_)))
    refine wpAny_bind (wpAny_of_eq (by rfl) ?_)
    refine wpAny_bind (wpAny_assign_Name (wpAny_storeName_local hx (hn'.sameBut hs₁ (Ne.symm hIC)) (fun h₂ hn₂ hs₂ => ?_) hp))
    have up₂ : ∀ c o, c ≠ env.locals → c ≠ I → h.get? c = some o → h₂.get? c = some o := fun c o c1 c2 e => hs₂.extBut c o c1 (hs₁.extBut c o c2 e)
    refine wpAny_bind (wpAny_mono (hiter _ _ _ hn₂ fun c o c1 c2 c3 e => up₂ c o c1 c3 (hkeep c o c1 c2 c3 e)) (fun v s₃ h₃ => ?_) fun _ _ e => e)
    obtain ⟨rfl, h₃, tk₃, rfl, hk₃⟩ := h₃
    refine wpAny_bind (wpAny_standAt (wpAny_bind (wpAny_of_eq (hfs _) (wpAny_bind (wpAny_holding ?_)))))
    have up₃ : ∀ c o, c ≠ env.locals → c ≠ I → h.get? c = some o → h₃.get? c = some o := fun c o c1 c2 e => hk₃ c o (up₂ c o c1 c2 e)
    have hlk₃ : h₃.IsList l' vk.toArray := hlk'.at fun o e => up₃ _ o hkC hkI e
    refine wpAny_pyIter_list hlk₃ ?_
    have lt_of : ∀ {c o}, h₃.get? c = some o → c < h₃.objs.size := fun e => Heap.lt_size e
    have hnC : env.locals ≠ h₃.objs.size := by
      obtain ⟨o, _, _, ho, _⟩ := hn₂.keeps hk₃
      exact Nat.ne_of_lt (Heap.lt_size ho)
    have hnD : D ≠ h₃.objs.size := by
      obtain ⟨o, _, _, _, ho, _⟩ := hS'
      exact Nat.ne_of_lt (Heap.lt_size (up₃ _ _ hDC (Ne.symm hID) ho))
    have hit₃ : h₃.IsListIter I l (j + 1) := (hit₁.extBut hs₂.extBut hIC).at fun o e => hk₃ _ o e
    have hnI : I ≠ h₃.objs.size := by
      obtain ⟨o, ho, _⟩ := hit₃
      exact Nat.ne_of_lt (Heap.lt_size ho)
    have hnk : l' ≠ h₃.objs.size := by
      obtain ⟨o, ho, _⟩ := hlk₃
      exact Nat.ne_of_lt (Heap.lt_size ho)
    have hup : ∀ c o, h₃.get? c = some o → (h₃.push { cls := .type "list_iterator", data := .fields #[.ref l', .int 0 0] }).get? c = some o := fun c o e => Heap.get?_push_of_some _ e
    have hroomj := hroom j hj
    have hlenj := outerS_len f as ks j hj
    have inner : codeAny (model prog w) A (.compLoop (setC elt i1 i2 x y px py scope pos) 1 (.ref h₃.objs.size) (.ref D) env) (fun r s' => match r with | .ok _ => (Code.compLoop (setC elt i1 i2 x y px py scope pos) 0 (.ref I) (.ref D) env = Code.compLoop (setC elt i1 i2 x y px py scope pos) 0 (.ref I) (.ref D) env ∧ ∃ m, m < as.length + 1 - j ∧ (∃ h tk m' j, s' = { s with heap := h, toks := tk } ∧ h.Ns env.locals m' ∧ h.IsListIter I l j ∧ h.SetOf (intKind prog w) D (fun k => (outerS f (as.take j) ks).any (· == k)) (outerS f (as.take j) ks).length ∧ j ≤ as.length ∧ m = as.length + 1 - j ∧ (∀ c o, c ≠ env.locals → c ≠ D → c ≠ I → s.heap.get? c = some o → h.get? c = some o))) | .error e => cameBackBy (model prog w) A env (notedBy (model prog w) A env fun e s' => R (.error e) s') e s')
        { s with heap := h₃.push { cls := .type "list_iterator", data := .fields #[.ref l', .int 0 0] }, toks := tk₃ } := by
      refine setInner (f a) (m := fun z => if z = x then some (.int a t) else m' z) (a := a) (ta := t) (l := l') (vk := vk) (σ := outerS f (as.take j) ks) hh rfl hy hp hxy hDC (Ne.symm hnC) (Ne.symm hnD) hkC hkD hnk ((hn₂.keeps hk₃).at' fun o e => hup _ o e) (by simp) hk ⟨_, Heap.get?_push_size _ rfl, rfl, rfl⟩ (hlk₃.at fun o e => hup _ o e) (setOf_at hS' fun o e => hup _ o (up₃ _ o hDC (Ne.symm hID) e)) (by omega) ?_ ?_
      · intro s₂ m₂ b u E' hn' hmx hmy hb' hkp
        refine helt s₂ m₂ a t b u E' hn' hmx hmy (List.mem_of_getElem? hb) hb' fun c o c1 c2 c3 e => ?_
        have e1 := up₃ c o c1 c3 (hkeep c o c1 c2 c3 e)
        exact hkp c o c1 c2 (Nat.ne_of_lt (lt_of e1)) (hup c o e1)
      · intro h₄ tk₄ m₄ hn₄ hS₄ hk₄
        refine ⟨rfl, as.length + 1 - (j + 1), less hlt, h₄, tk₄, m₄, j + 1, rfl, hn₄, hit₃.at fun o e => hk₄ _ o hIC hID hnI (hup _ o e), ?_, hlt, rfl, fun c o c1 c2 c3 e => ?_⟩
        · rw [take_at hb, outerS_snoc]; exact hS₄
        · have e1 := up₃ c o c1 c3 (hkeep c o c1 c2 c3 e)
          exact hk₄ c o c1 c2 (Nat.ne_of_lt (lt_of e1)) (hup c o e1)
    refine wpAny_bind (wpAny_runOwn (codeAny_mono (setStart1 inner (wpAny_pyIter_listiter (l := l') (i := 0) ⟨_, Heap.get?_push_size _ rfl, rfl, rfl⟩ inner)) fun r s' hr => ?_))
    cases r with
    | ok fl => exact wpAny_pure hr
    | error e => exact hr
  · have e : j = as.length := by omega
    subst e
    refine wpAny_bind (wpAny_standAt (wpAny_bind (wpAny_pyNext_list_end hh hit' hl' (by simp [hlen]) fun h₁ he₁ => ?_)))
    rw [List.take_length] at hS'
    exact wpAny_pure (hR h₁ tk m' (hn'.at' fun o e => he₁ _ o (Ne.symm hIC) e) (setOf_at hS' fun o e => he₁ _ o (Ne.symm hID) e) fun c o c1 c2 c3 e => he₁ c o c3 (hkeep c o c1 c2 c3 e))
theorem setcomp_eval {h₀ : Heap} {L : Addr} {m : Str → Option Value} {env : Env} {news : List (Addr × Obj)} {l l' : Addr} {va vk : List Value} {as ks : List Int} {cl : List (Str × Addr)} {Q : Value → Shared → Prop} (f : Int → Int → Int)
    (hh : A.handled = none) (hclos : closureFor scope env = pure cl) (hcell : ∀ z ∈ scope.names, z.2 ≠ .cell) (hkind : scope.kind = .function)
    (hnames : ∀ z ∈ scope.names, z.2 = .local → scope.names.lookup z.1 = some .local) (hx : scope.names.lookup x = some .local) (hy : scope.names.lookup y = some .local) (hxy : x ≠ y)
    (ha : IntsAre va as) (hk : IntsAre vk ks) (hroom : ∀ i, i ≤ as.length → i * ks.length + ks.length + 1 < scanBound)
    (h : wpAny (model prog w) A (eval i1 env) (fun xv s₁ => Opq (∃ h₁ tk₁, s₁ = { s with heap := h₁, toks := tk₁ } ∧ xv = .ref l ∧ Fr h₀ L h₁ m ∧ News h₀ L h₁ news ∧ h₁.IsList l va.toArray ∧ h₁.IsList l' vk.toArray ∧
      (∀ C s₂ m₂ E', s₁.heap.objs.size ≤ C → s₂.heap.Ns C m₂ → (∀ b o, s₁.heap.get? b = some o → s₂.heap.get? b = some o) →
        wpAny (model prog w) A (eval i2 (compEnvC scope cl C env)) (fun v s₃ => Opq (v = .ref l' ∧ Keeps s₂ s₃)) E' s₂) ∧
      (∀ C s₂ m₂ a t b u E', s₁.heap.objs.size ≤ C → s₂.heap.Ns C m₂ → m₂ x = some (.int a t) → m₂ y = some (.int b u) → a ∈ as → b ∈ ks → (∀ b o, s₁.heap.get? b = some o → s₂.heap.get? b = some o) →
        wpAny (model prog w) A (eval elt (compEnvC scope cl C env)) (fun v s₃ => Opq ((∃ t, v = .int (f a b) t) ∧ Keeps s₂ s₃)) E' s₂) ∧
      (∀ D o h' tk, Fr h₀ L h' m → News h₀ L h' ((D, o) :: news) → o.SetObjOf (intKind prog w) (fun k => (outerS f as ks).any (· == k)) (outerS f as ks).length → Q (.ref D) { s with heap := h', toks := tk }))) E s)
    (hs1 : ∀ v, foldedSetIterable i1 env v = pure v := by intro _; rfl) (hs2 : ∀ e v, foldedSetIterable i2 e v = pure v := by intro _ _; rfl) :
    wpAny (model prog w) A (eval (setC elt i1 i2 x y px py scope pos) env) Q E s := by
  show wpAny _ A (comprehension (setC elt i1 i2 x y px py scope pos) scope env _ (newSet (.type "set")) false (eval i1 env)) Q E s
  refine wpAny_comprehension_free (use := none) rfl hs1 hclos hkind hnames (wpAny_mono h (fun xv s₁ hq => ?_) fun _ _ e => e)
  obtain ⟨h₁, tk₁, rfl, rfl, F, N, hl, hlk, hiter, helt, hdone⟩ := hq
  refine wpAny_pyIter_list hl (wpAny_newSet_of (knd := intKind prog w) fun led hS => wpAny_newFunctionEnv hcell (by intro y hy; simp at hy) (fun h₂ hns₂ hsb₂ => ?_) hkind)
  dsimp only at hns₂ hsb₂ hS hiter helt ⊢
  generalize hp1 : h₁.push { cls := .type "list_iterator", data := .fields #[.ref l, .int 0 0] } = H1 at hns₂ hsb₂ hS ⊢
  generalize hp2 : H1.push { cls := .type "set", dict := none, data := .set #[] 0 (.fresh 0 0 led) } = H2 at hns₂ hsb₂ hS ⊢
  have z1 : H1.objs.size = h₁.objs.size + 1 := by rw [← hp1, Heap.size_push]
  have z2 : H2.objs.size = h₁.objs.size + 2 := by rw [← hp2, Heap.size_push, z1]
  have up : ∀ b o, H2.get? b = some o → h₂.get? b = some o := fun b o e => hsb₂.extBut b o (Nat.ne_of_lt (Heap.lt_size e)) (Heap.get?_push_of_some _ e)
  have up1 : ∀ b o, H1.get? b = some o → h₂.get? b = some o := fun b o e => up b o (hp2 ▸ Heap.get?_push_of_some _ e)
  have up0 : ∀ b o, h₁.get? b = some o → h₂.get? b = some o := fun b o e => up1 b o (hp1 ▸ Heap.get?_push_of_some _ e)
  have n1 : ∀ {b : Addr} {o}, h₁.get? b = some o → b ≠ h₁.objs.size ∧ b ≠ H1.objs.size ∧ b ≠ H2.objs.size := fun e => by
    have : @LT.lt Nat _ _ _ := Heap.lt_size e
    exact ⟨Nat.ne_of_lt this, by rw [z1]; exact Nat.ne_of_lt (by omega), by rw [z2]; exact Nat.ne_of_lt (by omega)⟩
  have old : ∀ {h' : Heap}, (∀ c o, c ≠ H2.objs.size → c ≠ H1.objs.size → c ≠ h₁.objs.size → h₂.get? c = some o → h'.get? c = some o) → ∀ b o, h₁.get? b = some o → h'.get? b = some o :=
    fun hkp b o e => hkp b o (n1 e).2.2 (n1 e).2.1 (n1 e).1 (up0 b o e)
  have hIl : h₂.IsListIter h₁.objs.size l 0 := ⟨_, up1 _ _ (hp1 ▸ Heap.get?_push_size _ rfl), rfl, rfl⟩
  have fresh : ∀ a, h₁.objs.size ≤ a → h₁.get? a = none := fun a ha => by
    cases e : h₁.get? a with
    | none => rfl
    | some o' => exact absurd (Heap.lt_size e) (Nat.not_lt.mpr ha)
  have loop : ∀ s₃ : Shared, s₃ = { s with heap := h₂, toks := tk₁ + ([] : List (Str × Value)).length } →
      codeAny (model prog w) A (.compLoop (setC elt i1 i2 x y px py scope pos) 0 (.ref h₁.objs.size) (.ref H1.objs.size) (compEnvC scope cl H2.objs.size env))
        (compPost (model prog w) A E none Q (.ref H1.objs.size) H2.objs.size) s₃ := by
    rintro s₃ rfl
    obtain ⟨ol, hol, _⟩ := id hl
    obtain ⟨ok, hok, _⟩ := id hlk
    refine setOuter (env := compEnvC scope cl H2.objs.size env) (m := fun z => ([] : List (Str × Value)).reverse.lookup z) (l := l) (l' := l') (va := va) (vk := vk) f hh rfl (lookup_relabel_local hx) (lookup_relabel_local hy) (by simp [compEnvC, relabel, hkind]) hxy
      (Nat.ne_of_lt (show H1.objs.size < H2.objs.size by omega)) (Nat.ne_of_lt (show h₁.objs.size < H2.objs.size by omega)) (Nat.ne_of_lt (show h₁.objs.size < H1.objs.size by omega)) (n1 hol).2.2 (n1 hol).2.1 (n1 hol).1 (n1 hok).2.2 (n1 hok).2.1 (n1 hok).1
      hns₂ ha hk hIl (hl.at fun o e => up0 _ o e) (hlk.at fun o e => up0 _ o e) (setOf_at hS fun o e => up _ o e) hroom (hs2 _) ?_ ?_ ?_
    · intro s₂ m₂ E' hn hkp
      exact hiter _ s₂ m₂ E' (by rw [z2]; omega) hn (old hkp)
    · intro s₂ m₂ a t b u E' hn hmx hmy ha' hb' hkp
      exact helt _ s₂ m₂ a t b u E' (by rw [z2]; omega) hn hmx hmy ha' hb' (old hkp)
    · intro h' tk m' hn' hS' hkp
      refine ⟨m', hn', fun h₃ hs₃ => ?_⟩
      obtain ⟨o, ho, hso⟩ := PySem.Heap.SetOf.objOf hS'
      have hne : H1.objs.size ≠ H2.objs.size := by rw [z1, z2]; exact Nat.ne_of_lt (Nat.lt_succ_self _)
      have up3 : ∀ b o, h₁.get? b = some o → h₃.get? b = some o := fun b o e => hs₃.extBut b o (n1 e).2.2 (old hkp b o e)
      refine hdone _ o h₃ tk (F.keeps up3) (fun q hq => ?_) hso
      rcases List.mem_cons.mp hq with rfl | hq
      · refine ⟨hs₃.extBut _ _ hne ho, fun e => ?_, ?_⟩
        · obtain ⟨o, _, _, ho, _⟩ := F.ns
          rw [← e, fresh _ (by rw [z1]; omega)] at ho; cases ho
        · cases e : h₀.get? H1.objs.size with
          | none => rfl
          | some o => have := F.keep _ o e; rw [fresh _ (by rw [z1]; omega)] at this; cases this
      · exact (N.grown up3) q hq
  exact setStart0 (loop _ rfl) (wpAny_pyIter_listiter hIl (loop _ rfl))
end

end
section
open PySem PySem.W PySem.Calls PyProof.Rows
set_option maxRecDepth 100000
set_option maxHeartbeats 8000000
theorem fillC17 (w : World) (h : Heap) (X : (K w.params).In h) (e : rw0.foot = 7) : (K w.params).In h ∧ rw0.foot = 7 := by
  k_fill
  exact ⟨X, e⟩
structure Bxs (P : Prop) : Prop where
  un : P
local macro_rules | `(tactic| walk_at "eval SetComp") => `(tactic| (refine Bxs.un ?_))
theorem filled_spec (w : World) (hu ke : Addr) (va vk : List Value) (as ks : List Int) (wh : Int) (tw : Tok) (ha : IntsAre va as) (hk : IntsAre vk ks) (hla : as.length ≤ 4) (hlk : ks.length ≤ 18) (hw : 6 ≤ wh)  : Does w 2 328 [.ref hu, .ref ke, .int wh tw] [] [] (fun h => h.IsList hu va.toArray ∧ h.IsList ke vk.toArray) (fun r fin => fin = [] ∧ ∃ t, r = .int ((outerS (fun a b => (a + b).fmod wh) as ks).length : Nat) t) := by
  intro dp un gd env outer A₀ base h₀ L m s Q E p loose mean mg mb B F X N T hf hk hdp hun hpre k
  k_dflt (refine' code_ledC (binds := [(Str.ofString "hues", .ref hu), (Str.ofString "kept", .ref ke), (Str.ofString "wheel", .int wh tw)]) _ ?k1 ?k2 ?k3 ?k4 ?k5 ?kA ?kF ?kK ?k6 ?k7 ?k8 ?k9 ?kB ?kD ?c2 ?c3 ?c4 ?kk ?_; (case kA => exact rfl); (case kF => assumption); (case kK => assumption); (case k1 => assumption); (case k2 => assumption); (case k3 => assumption); (case k4 => assumption); (case k5 => assumption); (case k6 => k_is); (case k7 => k_is); (case k8 => walk_at "room"); (case k9 => first | exact BindsTo.of_eq rfl | exact binds_K (by k_in) rfl (by k_is) rfl rfl rfl); (case kB => exact rfl); (case kD => decide +kernel); (case c2 => exact rfl); (case c3 => exact rfl); (case c4 => exact rfl); (case kk => assumption))
  clear k B F X N T hf
  intro g' L' h' tk' cells' hkeep' F' N' Y' B' X' T' l1
  dsimp only [filledB, filledS, filledP, List.reverse_cons, List.reverse_nil, List.nil_append, List.cons_append]
  k_cells Y'
  dsimp only [List.cons_append, List.nil_append] at N'
  walk_at "steps to a comprehension"
  constructor
  rename_i o2 o1 d2 d1
  have keepg : ∀ b o, s.heap.get? b = some o → h'.get? b = some o := fun b o e => F'.keep b o (hkeep' b o (by simp) e)
  k_dflt (refine' setcomp_eval (h₀ := g') (L := L') (m := bindL (envOfC (Str.ofString "_law_filled") filledS.1 L' 328 (.ref 327)).kindOf [(Str.ofString "hues", .ref hu), (Str.ofString "kept", .ref ke), (Str.ofString "wheel", .int wh tw)] fun _ => none) (news := [(L' + 1 + 1, o2), (L' + 1, o1)]) (l := hu) (l' := ke) (va := va) (vk := vk) (as := as) (ks := ks) (fun a b => (a + b).fmod wh) ?hh ?hclos ?hcell ?hkind ?hnames ?hx ?hy ?hxy ?ha ?hk ?hroom ?h ?hs1 ?hs2; (case hh => with_unfolding_all rfl); (case hclos => with_unfolding_all rfl); (case hcell => decide); (case hkind => with_unfolding_all rfl); (case hnames => decide); (case hx => with_unfolding_all rfl); (case hy => with_unfolding_all rfl); (case hxy => decide); (case ha => assumption); (case hk => assumption); (case hs1 => intro _; with_unfolding_all rfl); (case hs2 => intro _ _; with_unfolding_all rfl))
  case hroom =>
    intro i hi
    have h1 : i * ks.length ≤ 4 * 18 := Nat.mul_le_mul (by omega) hlk
    show _ < 4096
    omega
  case h =>
    k_steps
    refine ⟨_, _, rfl, rfl, F', N', hpre.1.at fun o e => keepg _ o e, hpre.2.at fun o e => keepg _ o e, ?it, ?elt, ?done⟩
    case it =>
      intro C s₂ m₂ E' hC hn hkc
      have Fc2 := Fr.keeps F' hkc
      have N2 : News g' L' s₂.heap _ := News.grown N' hkc
      clear F' N'
      k_steps
      exact ⟨rfl, _, _, rfl, fun _ _ e => e⟩
    case elt =>
      intro C s₂ m₂ a t b u E' hC hn hmx hmy ha' hb' hkc
      have Fc2 := Fr.keeps F' hkc
      have N2 : News g' L' s₂.heap _ := News.grown N' hkc
      clear F' N'
      k_steps
      exact ⟨⟨_, rfl⟩, _, _, rfl, fun _ _ e => e⟩
    case done =>
      intro D o n9 tk9 F9 N9 hso
      clear F' N'
      k_steps
      have hz : (outerS (fun a b => (a + b).fmod wh) as ks).length ≤ 72 := by
        have h1 := outerS_len (fun a b => (a + b).fmod wh) as ks as.length (Nat.le_refl _)
        rw [List.take_length] at h1
        have h2 : as.length * ks.length ≤ 4 * 18 := Nat.mul_le_mul hla hlk
        omega
      have N10 : News g' L' n9 [(D, o)] := fun p hp => N9 p (by rw [List.mem_singleton.mp hp]; exact .head _)
      k_dflt (refine' kse_len (knd := PySem.intKind _ _) N10 ?U hso ?z ?_; (case U => k_updF); (case z => omega))
      exact pend_led (fin := []) F9 (fun p hp => by cases hp) ⟨rfl, _, rfl⟩

end
theorem reset24 : True := by first | walk1 | trivial
section
open PySem PySem.W PySem.Calls PyProof.Rows
set_option maxRecDepth 100000
set_option maxHeartbeats 8000000
theorem fillC21 (w : World) (h : Heap) (X : (K w.params).In h) (e : rw0.foot = 7) : (K w.params).In h ∧ rw0.foot = 7 := by
  k_fill
  exact ⟨X, e⟩
noncomputable abbrev txt3 (a b c : Int) : Str := Str.ofString (toString a) ++ Str.ofString " " ++ Str.ofString (toString b) ++ Str.ofString " " ++ Str.ofString (toString c)
section
variable {prog : Program} {w : World} {A : Around} {E : Value → Shared → Prop} {s : Shared} {t u v x : Tok} {Q : Value → Shared → Prop} {D L : Addr} {n : Nat} {h₀ : Heap} {news : List (Addr × Obj)} {a b c : Int}
theorem fmt3 (ha : 0 ≤ a ∧ a ≤ 15) (hb : 0 ≤ b ∧ b ≤ 15) (hc : 0 ≤ c ∧ c ≤ 15) (N : News h₀ L s.heap news) (hm : (D, ({ cls := .type "tuple", data := .seq #[.int a t, .int b u, .int c v] n } : Obj)) ∈ news)
    (h : ∀ t' k, Q (.str (txt3 a b c) t') { s with toks := k }) : wpAny (model prog w) A (binaryOp .Mod (.str (Str.ofString "%d %d %d") x) (.ref D)) Q E s := by
  obtain ⟨ha0, ha1⟩ := ha
  obtain ⟨hb0, hb1⟩ := hb
  obtain ⟨hc0, hc1⟩ := hc
  k_dflt (refine' KPt.mod_tuple N hm ?kptF ?kptm ?_; (case kptF => kpt_eq); (case kptm => kpt_run))
  exact h
end
theorem pmin_le (a b : Int) : pmin a b ≤ a ∧ pmin a b ≤ b := by unfold pmin; split <;> omega
theorem pmax_rng {a b c : Int} (h1 : a ≤ c) (h2 : b ≤ c) : a ≤ pmax a b ∧ pmax a b ≤ c := by unfold pmax; split <;> omega
theorem part_rng {hue unit white side corner : Int} (hu : 1 ≤ unit ∧ unit ≤ 3) (hwh : 0 ≤ white ∧ white ≤ 6) (hs : 1 ≤ side ∧ side ≤ 3) : 0 ≤ partI hue unit white side corner ∧ partI hue unit white side corner ≤ 15 := by
  unfold partI
  have h1 := pmin_le side (2 * side - pmin ((hue - corner).fmod (6 * side)) (6 * side - (hue - corner).fmod (6 * side)))
  have h2 := pmax_rng (show (0:Int) ≤ 3 by decide) (Int.le_trans h1.1 hs.2)
  generalize pmax 0 (pmin side (2 * side - pmin ((hue - corner).fmod (6 * side)) (6 * side - (hue - corner).fmod (6 * side)))) = z at h2
  have : unit = 1 ∨ unit = 2 ∨ unit = 3 := by omega
  rcases this with rfl | rfl | rfl <;> omega

end
theorem reset25 : True := by first | walk1 | trivial
section
open PySem PySem.W PySem.Calls PyProof.Rows
set_option maxRecDepth 100000
set_option maxHeartbeats 8000000
noncomputable abbrev chr1 (n : Nat) : Str := ⟨#[n]⟩
noncomputable def fineL (l : List Nat) : Bool := l.all fun x => decide (32 ≤ x) && decide (x < 127)
theorem fine_of {s : Str} (h : fineL s.cps.toList = true) : Fine s := by
  intro i hi
  have hm : s.cps[i] ∈ s.cps.toList := by simp
  have := List.all_eq_true.mp h _ hm
  simp only [Bool.and_eq_true, decide_eq_true_eq] at this
  rw [Array.getD_eq_getD_getElem?, Array.getElem?_eq_getElem hi]
  exact this
theorem fineL_app {a b : List Nat} (ha : fineL a = true) (hb : fineL b = true) : fineL (a ++ b) = true := by
  unfold fineL at *; rw [List.all_append, ha, hb]; rfl
theorem num_txt : ∀ n : Fin 16, fineL (Str.ofString (toString ((n.val : Nat) : Int))).cps.toList = true ∧ (Str.ofString (toString ((n.val : Nat) : Int))).cps.toList.length ≤ 2 := by decide +kernel
theorem num_txt' {a : Int} (h : 0 ≤ a ∧ a ≤ 15) : fineL (Str.ofString (toString a)).cps.toList = true ∧ (Str.ofString (toString a)).cps.toList.length ≤ 2 := by
  obtain ⟨n, rfl⟩ := Int.eq_ofNat_of_zero_le h.1
  have := num_txt ⟨n, by omega⟩
  exact this
theorem sp_txt : fineL (Str.ofString " ").cps.toList = true ∧ (Str.ofString " ").cps.toList.length ≤ 1 := by decide +kernel
theorem app_cps (a b : Str) : (a ++ b).cps.toList = a.cps.toList ++ b.cps.toList := by show (a.cps ++ b.cps).toList = _; simp
theorem txt3_ok {a b c : Int} (ha : 0 ≤ a ∧ a ≤ 15) (hb : 0 ≤ b ∧ b ≤ 15) (hc : 0 ≤ c ∧ c ≤ 15) : Fine (txt3 a b c) ∧ (txt3 a b c).length ≤ 8 := by
  obtain ⟨a1, a2⟩ := num_txt' ha
  obtain ⟨b1, b2⟩ := num_txt' hb
  obtain ⟨c1, c2⟩ := num_txt' hc
  obtain ⟨s1, s2⟩ := sp_txt
  constructor
  · apply fine_of
    simp only [txt3, app_cps]
    exact fineL_app (fineL_app (fineL_app (fineL_app a1 s1) b1) s1) c1
  · show (txt3 a b c).cps.size ≤ 8
    rw [← Array.length_toList]
    simp only [txt3, app_cps, List.length_append]
    exact Nat.add_le_add (Nat.add_le_add (Nat.add_le_add (Nat.add_le_add a2 s2) b2) s2) c2
theorem chr1_ok {n : Nat} (h1 : 32 ≤ n) (h2 : n < 127) : Fine (chr1 n) := by
  apply fine_of
  simp [fineL, h1, h2]

end
section
open PySem PySem.W PySem.Calls PyProof.Rows
set_option maxRecDepth 100000
set_option maxHeartbeats 8000000
theorem low_all : ∀ n : Fin 18, (Txt.lower (chr1 (65 + n.val))).cps = #[97 + n.val] ∧ (Txt.lower (chr1 (97 + n.val))).cps = #[97 + n.val] := by decide +kernel
theorem low_ok {a : Int} (h0 : 0 ≤ a) (h1 : a < 18) : Txt.lower (chr1 (65 + a).toNat) = chr1 (97 + a).toNat ∧ Txt.lower (chr1 (97 + a).toNat) = chr1 (97 + a).toNat := by
  obtain ⟨n, rfl⟩ := Int.eq_ofNat_of_zero_le h0
  have h := low_all ⟨n, Int.ofNat_lt.mp h1⟩
  have e1 : (65 + (n : Int)).toNat = 65 + n := rfl
  have e2 : (97 + (n : Int)).toNat = 97 + n := rfl
  rw [e1, e2]
  exact ⟨congrArg Str.mk h.1, congrArg Str.mk h.2⟩
theorem low_fine {a : Int} (h0 : 0 ≤ a) (h1 : a < 18) : Fine (Txt.lower (chr1 (65 + a).toNat)) ∧ Fine (Txt.lower (chr1 (97 + a).toNat)) ∧ (Txt.lower (chr1 (65 + a).toNat)).cps.size < 2 ^ 63 ∧ (Txt.lower (chr1 (97 + a).toNat)).cps.size < 2 ^ 63 := by
  obtain ⟨e1, e2⟩ := low_ok h0 h1
  rw [e1, e2]
  exact ⟨chr1_ok (by omega) (by omega), chr1_ok (by omega) (by omega), (show (1:Nat) < 2 ^ 63 by decide), (show (1:Nat) < 2 ^ 63 by decide)⟩
theorem chr1_len (n : Nat) : (chr1 n).length ≤ 5592405 := (show (1:Nat) ≤ 5592405 by decide)

end
section
open PySem PySem.W PyProof.Rows
set_option maxRecDepth 100000
set_option maxHeartbeats 8000000
/-- go on with a number that is first reckoned out -/
noncomputable def fc (x : UInt64) (f : UInt64 → Bool) : Bool := Nat.rec (motive := fun _ => Bool) (f (UInt64.ofNat 0)) (fun n _ => f (UInt64.ofNat (Nat.succ n))) x.toNat
theorem fc_eq (x : UInt64) (f : UInt64 → Bool) : fc x f = f x := by
  have h : ∀ n : Nat, Nat.rec (motive := fun _ => Bool) (f (UInt64.ofNat 0)) (fun n _ => f (UInt64.ofNat (Nat.succ n))) n = f (UInt64.ofNat n) := fun n => by cases n <;> rfl
  unfold fc
  rw [h, UInt64.ofNat_toNat]
noncomputable def HT : List (List Nat) := [[0, 4595172819793696085, 4599676419421066581, 4602678819172646912, 4604180019048437077, 4605681218924227243], [0, 4590669220166325589, 4595172819793696085, 4598175219545276416, 4599676419421066581, 4601177619296856747, 4602678819172646912, 4603429419110541995, 4604180019048437077, 4604930618986332160, 4605681218924227243, 4606431818862122325], [0, 4588167220373341981, 4592670820000712477, 4595172819793696085, 4597174419628082973, 4598675619503873137, 4599676419421066581, 4600677219338260025, 4601678019255453468, 4602678819172646912, 4603179219131243633, 4603679619089840356, 4604180019048437077, 4604680419007033799, 4605180818965630521, 4605681218924227243, 4606181618882823964, 4606682018841420686]]
noncomputable def AT : List (List (List (List Nat))) := [[[[4599676419421066580, 4599676419421066581], [0], [4604180019048437078]], [[4602678819172646908, 4602678819172646912], [4595172819793696080, 4595172819793696085, 4595172819793696088], [4605681218924227242, 4605681218924227243, 4605681218924227244]], [[4604180019048437076, 4604180019048437077, 4604180019048437078], [4599676419421066580, 4599676419421066581, 4599676419421066584], [0, 4372995238176751616]], [[4605681218924227242], [4602678819172646912], [4595172819793696086, 4595172819793696088]], [[0], [4604180019048437077, 4604180019048437078], [4599676419421066581, 4599676419421066584]], [[4595172819793696080, 4595172819793696088], [4605681218924227242, 4605681218924227243], [4602678819172646911, 4602678819172646912]]], [[[4599676419421066580, 4599676419421066581], [0], [4604180019048437078]], [[4601177619296856744, 4601177619296856746, 4601177619296856748], [4590669220166325584, 4590669220166325589, 4590669220166325600], [4604930618986332160, 4604930618986332162]], [[4602678819172646908, 4602678819172646912], [4595172819793696080, 4595172819793696085, 4595172819793696088], [4605681218924227242, 4605681218924227243, 4605681218924227244]], [[4603429419110541994], [4598175219545276416], [4606431818862122326]], [[4604180019048437076, 4604180019048437077, 4604180019048437078], [4599676419421066580, 4599676419421066581, 4599676419421066584], [0, 4372995238176751616]], [[4604930618986332158, 4604930618986332160], [4601177619296856744, 4601177619296856746, 4601177619296856747, 4601177619296856748], [4590669220166325584, 4590669220166325588, 4590669220166325592, 4590669220166325600]], [[4605681218924227242], [4602678819172646912], [4595172819793696086, 4595172819793696088]], [[4606431818862122324, 4606431818862122326], [4603429419110541994, 4603429419110541995, 4603429419110541996], [4598175219545276414, 4598175219545276416, 4598175219545276417, 4598175219545276420]], [[0, 4607182418800017406], [4604180019048437076, 4604180019048437077, 4604180019048437078], [4599676419421066580, 4599676419421066581, 4599676419421066583, 4599676419421066584]], [[4590669220166325584, 4590669220166325600], [4604930618986332160], [4601177619296856747, 4601177619296856748]], [[4595172819793696080, 4595172819793696088], [4605681218924227242, 4605681218924227243], [4602678819172646911, 4602678819172646912]], [[4598175219545276416], [4606431818862122325, 4606431818862122326], [4603429419110541994, 4603429419110541996]]], [[[4599676419421066580, 4599676419421066581], [0, 4607182418800017407], [4604180019048437076, 4604180019048437078]], [[4600677219338260020, 4600677219338260024, 4600677219338260025], [4588167220373341952, 4588167220373341980, 4588167220373341981, 4588167220373341984], [4604680419007033798, 4604680419007033799, 4604680419007033800]], [[4601678019255453468], [4592670820000712476, 4592670820000712477, 4592670820000712480], [4605180818965630521, 4605180818965630522]], [[4602678819172646908, 4602678819172646912], [4595172819793696080, 4595172819793696085, 4595172819793696086, 4595172819793696088], [4605681218924227242, 4605681218924227243, 4605681218924227244]], [[4603179219131243632, 4603179219131243634], [4597174419628082968, 4597174419628082972, 4597174419628082973, 4597174419628082976], [4606181618882823964, 4606181618882823965, 4606181618882823966]], [[4603679619089840354, 4603679619089840355, 4603679619089840356], [4598675619503873136, 4598675619503873137, 4598675619503873138], [4606682018841420686]], [[4604180019048437076, 4604180019048437077, 4604180019048437078], [4599676419421066580, 4599676419421066581, 4599676419421066582, 4599676419421066584], [0, 4363988038922010624, 4372995238176751616, 4607182418800017408]], [[4604680419007033798, 4604680419007033799], [4600677219338260024, 4600677219338260025], [4588167220373341976, 4588167220373341984]], [[4605180818965630518, 4605180818965630520, 4605180818965630521, 4605180818965630522], [4601678019255453464, 4601678019255453468, 4601678019255453469, 4601678019255453472], [4592670820000712464, 4592670820000712476, 4592670820000712480, 4592670820000712496]], [[4605681218924227242], [4602678819172646911, 4602678819172646912], [4595172819793696084, 4595172819793696086, 4595172819793696088]], [[4606181618882823962, 4606181618882823964], [4603179219131243632, 4603179219131243633, 4603179219131243634], [4597174419628082968, 4597174419628082970, 4597174419628082974, 4597174419628082976]], [[4606682018841420686], [4603679619089840355, 4603679619089840356], [4598675619503873137, 4598675619503873139, 4598675619503873140]], [[0, 4607182418800017406], [4604180019048437076, 4604180019048437077, 4604180019048437078], [4599676419421066579, 4599676419421066580, 4599676419421066581, 4599676419421066583, 4599676419421066584]], [[4588167220373341952, 4588167220373341984, 4588167220373342016], [4604680419007033798, 4604680419007033799, 4604680419007033800], [4600677219338260023, 4600677219338260025, 4600677219338260027, 4600677219338260028]], [[4592670820000712464, 4592670820000712480], [4605180818965630520, 4605180818965630521], [4601678019255453467, 4601678019255453468, 4601678019255453469]], [[4595172819793696080, 4595172819793696088], [4605681218924227242, 4605681218924227243], [4602678819172646911, 4602678819172646912]], [[4597174419628082968, 4597174419628082976], [4606181618882823964, 4606181618882823965], [4603179219131243634]], [[4598675619503873136, 4598675619503873140], [4606682018841420686, 4606682018841420687], [4603679619089840356]]]]
noncomputable def BT : List (List (List (Nat × Nat))) := [[[(0, 0)], [(0, 4607182418800017400), (1, 0)], [(2, 0)], [(3, 0)], [(4, 0)], [(5, 0)]], [[(0, 0)], [(0, 4602678819172646912), (0, 4602678819172646920)], [(0, 4607182418800017400), (1, 0)], [(1, 4602678819172646912)], [(2, 0)], [(2, 4602678819172646912)], [(3, 0)], [(3, 4602678819172646904), (3, 4602678819172646912)], [(4, 0)], [(4, 4602678819172646912)], [(5, 0)], [(5, 4602678819172646912)]], [[(0, 0), (5, 4607182418800017400)], [(0, 4599676419421066560), (0, 4599676419421066581), (0, 4599676419421066582), (0, 4599676419421066592)], [(0, 4604180019048437077), (0, 4604180019048437078), (0, 4604180019048437080)], [(0, 4607182418800017400), (1, 0)], [(1, 4599676419421066560), (1, 4599676419421066580), (1, 4599676419421066584), (1, 4599676419421066592)], [(1, 4604180019048437072), (1, 4604180019048437076), (1, 4604180019048437078)], [(1, 4607182418800017404), (2, 0)], [(2, 4599676419421066560), (2, 4599676419421066576), (2, 4599676419421066584)], [(2, 4604180019048437056), (2, 4604180019048437072), (2, 4604180019048437076), (2, 4604180019048437080), (2, 4604180019048437088)], [(2, 4607182418800017404), (3, 0)], [(3, 4599676419421066560), (3, 4599676419421066576), (3, 4599676419421066584), (3, 4599676419421066592)], [(3, 4604180019048437072), (3, 4604180019048437080), (3, 4604180019048437088)], [(3, 4607182418800017400), (4, 0)], [(4, 4599676419421066560), (4, 4599676419421066576), (4, 4599676419421066592)], [(4, 4604180019048437072), (4, 4604180019048437080)], [(5, 0)], [(5, 4599676419421066560), (5, 4599676419421066576), (5, 4599676419421066592)], [(5, 4604180019048437072), (5, 4604180019048437080)]]]
noncomputable def HV (s hue : Nat) : UInt64 := UInt64.ofNat ((HT.getD (s - 1) []).getD hue 0)
noncomputable def AV (s due c : Nat) : List Nat := ((AT.getD (s - 1) []).getD due []).getD c []
noncomputable def BV (s due : Nat) : List (Nat × Nat) := (BT.getD (s - 1) []).getD due []
noncomputable def pN (hue u w s c : Nat) : Int := partI (hue : Int) (u : Int) (w : Int) (s : Int) (c : Int)
open Float64
noncomputable def hueC (r g b M m : UInt64) (k : UInt64 → Bool) : Bool :=
  fc (sub M m) fun rg => fc (div (sub M r) rg) fun rc => fc (div (sub M g) rg) fun gc => fc (div (sub M b) rg) fun bc =>
    fc (if (cmp r M == some .eq) = true then sub bc gc else if (cmp g M == some .eq) = true then sub (add fTwo rc) bc else sub (add fFour gc) rc) fun h => fc (divmod (div h fSix) fOne).snd k
theorem hueC_eq (r g b M m : UInt64) (k : UInt64 → Bool) : hueC r g b M m k = k (hueF r g b M m) := by
  unfold hueC; simp only [fc_eq]; rfl
noncomputable def t1 (s hue u w : Nat) : Bool :=
  fc (frI (pN hue u w s 0)) fun r => fc (frI (pN hue u w s (2 * s))) fun g => fc (frI (pN hue u w s (4 * s))) fun b => fc (frI ((w + u * s : Nat) : Int)) fun M => fc (frI ((w : Nat) : Int)) fun m =>
    max3F r g b == M && min3F r g b == m && hueC r g b M m fun h => h == HV s hue
noncomputable def t4 (s u w : Nat) : Bool :=
  fc (frI ((w + u * s : Nat) : Int)) fun M => fc (frI ((w : Nat) : Int)) fun m => !isZero (add M m) && !isZero (sub M m) && !isZero (sub (sub fTwo M) m) && !isZero M && !(cmp m M == some .eq)
noncomputable def fwF (s way : Nat) : UInt64 := ofFrac false way (6 * s)
noncomputable def t2 (s hue way : Nat) : Bool :=
  fc (add (HV s hue) (fwF s way)) fun x =>
    (fc (divmod (add x fThird) fOne).snd fun q => (AV s ((hue + way) % (6 * s)) 0).any fun n => n == q.toNat) && (fc (divmod x fOne).snd fun q => (AV s ((hue + way) % (6 * s)) 1).any fun n => n == q.toNat) && (fc (divmod (sub x fThird) fOne).snd fun q => (AV s ((hue + way) % (6 * s)) 2).any fun n => n == q.toNat)
noncomputable def outC (x : UInt64) (p : Int) : Bool := fc x fun x => fc (add (mul x (ofInt 16)) 4602678819172646912) fun z => isFinite z && Flt.toInt truncOf z == p
theorem outC_eq (x : UInt64) (p : Int) : outC x p = (ok16 x && (r16 x == p)) := by unfold outC; simp only [fc_eq]
noncomputable def vvQ (m1 m2 q : UInt64) : UInt64 :=
  if (cmp q fSixth == some .lt) = true then add m1 (mul (mul (sub m2 m1) q) fSix)
  else if (cmp q fHalf == some .lt) = true then m2
  else if (cmp q fTwoThird == some .lt) = true then add m1 (mul (mul (sub m2 m1) (sub fTwoThird q)) fSix)
  else m1
theorem vvF_eq (m1 m2 hue : UInt64) : vvF m1 m2 hue = vvQ m1 m2 (divmod hue fOne).snd := rfl
noncomputable def litF (M m : UInt64) : UInt64 := div (add M m) fTwo
noncomputable def satL (M m : UInt64) : UInt64 := if (cmp (div (add M m) fTwo) fHalf == some .lt || cmp (div (add M m) fTwo) fHalf == some .eq) = true then div (sub M m) (add M m) else div (sub M m) (sub (sub fTwo M) m)
noncomputable def t3 (s u w : Nat) : Bool :=
  fc (frI ((w + u * s : Nat) : Int)) fun M => fc (frI ((w : Nat) : Int)) fun m => fc (litF M m) fun l => fc (satL M m) fun sat => !(cmp sat 0 == some .eq) && fc (lightM2 l sat) fun m2 => fc (sub (mul fTwo l) m2) fun m1 =>
    (List.range (6 * s)).all fun due => (List.range 3).all fun c => (AV s due c).all fun q => outC (vvQ m1 m2 (UInt64.ofNat q)) (pN due u w s (2 * s * c))
noncomputable def t5 (s hue way : Nat) : Bool :=
  fc (mul (add (HV s hue) (fwF s way)) fSix) fun y => isFinite y && decide ((Flt.toInt truncOf y).natAbs < 100) && fc (sub y (ofInt (Flt.toInt truncOf y))) fun f => (BV s ((hue + way) % (6 * s))).any fun p => ((p.1 : Int) == (Flt.toInt truncOf y).fmod 6) && p.2 == f.toNat
noncomputable def rgbVQ (s v : UInt64) (i : Int) (f : UInt64) : UInt64 × UInt64 × UInt64 :=
  if i = 0 then (v, mul v (sub fOne (mul s (sub fOne f))), mul v (sub fOne s))
  else if i = 1 then (mul v (sub fOne (mul s f)), v, mul v (sub fOne s))
  else if i = 2 then (mul v (sub fOne s), v, mul v (sub fOne (mul s (sub fOne f))))
  else if i = 3 then (mul v (sub fOne s), mul v (sub fOne (mul s f)), v)
  else if i = 4 then (mul v (sub fOne (mul s (sub fOne f))), mul v (sub fOne s), v)
  else (v, mul v (sub fOne s), mul v (sub fOne (mul s f)))
theorem rgbVF_eq (h s v : UInt64) (hs : (cmp s 0 == some .eq) = false) : rgbVF h s v = rgbVQ s v ((Flt.toInt truncOf (mul h fSix)).fmod 6) (sub (mul h fSix) (ofInt (Flt.toInt truncOf (mul h fSix)))) := by
  unfold rgbVF rgbVQ
  rw [if_neg (by rw [hs]; exact Bool.false_ne_true)]
noncomputable def t6 (s u w : Nat) : Bool :=
  fc (frI ((w + u * s : Nat) : Int)) fun M => fc (frI ((w : Nat) : Int)) fun m => fc (div (sub M m) M) fun sat => !(cmp sat 0 == some .eq) && 
    (List.range (6 * s)).all fun due => (BV s due).all fun p => outC (rgbVQ sat M p.1 (UInt64.ofNat p.2)).1 (pN due u w s 0) && outC (rgbVQ sat M p.1 (UInt64.ofNat p.2)).2.1 (pN due u w s (2 * s)) && outC (rgbVQ sat M p.1 (UInt64.ofNat p.2)).2.2 (pN due u w s (4 * s))
noncomputable def t7 (s hue : Nat) : Bool := fc (add (mul (HV s hue) (ofInt ((6 * s : Nat) : Int))) 4602678819172646912) fun z => isFinite z && (Flt.toInt truncOf z).fmod ((6 * s : Nat) : Int) == (hue : Int)
noncomputable def uws (f : Nat → Nat → Bool) : Bool := (List.range 3).all fun u => (List.range 7).all fun w => f (u + 1) w
noncomputable def uw (f : Nat → Nat → Bool) (u : Nat) : Bool := (List.range 7).all fun w => f u w
theorem uws_of {f : Nat → Nat → Bool} (a : uw f 1 = true) (b : uw f 2 = true) (c : uw f 3 = true) : uws f = true := by
  show (uw f 1 && (uw f 2 && (uw f 3 && true))) = true
  rw [a, b, c]; rfl
noncomputable def hws (s : Nat) (f : Nat → Nat → Bool) : Bool := (List.range (6 * s)).all fun hue => (List.range (6 * s)).all fun way => f hue way
theorem T1_1 : ((List.range 6).all fun hue => uws fun u w => t1 1 hue u w) = true := by decide +kernel
theorem T2_1 : (hws 1 fun hue way => t2 1 hue way) = true := by decide +kernel
theorem T3_1 : (uws fun u w => t3 1 u w) = true := by decide +kernel
theorem T4_1 : (uws fun u w => t4 1 u w) = true := by decide +kernel
theorem T5_1 : (hws 1 fun hue way => t5 1 hue way) = true := by decide +kernel
theorem T6_1 : (uws fun u w => t6 1 u w) = true := by decide +kernel
theorem T7_1 : ((List.range 6).all fun hue => t7 1 hue) = true := by decide +kernel
theorem T1_2 : ((List.range 12).all fun hue => uws fun u w => t1 2 hue u w) = true := by decide +kernel
theorem T2_2 : (hws 2 fun hue way => t2 2 hue way) = true := by decide +kernel
theorem T3_2 : (uws fun u w => t3 2 u w) = true := uws_of (by decide +kernel) (by decide +kernel) (by decide +kernel)
theorem T4_2 : (uws fun u w => t4 2 u w) = true := by decide +kernel
theorem T5_2 : (hws 2 fun hue way => t5 2 hue way) = true := by decide +kernel
theorem T6_2 : (uws fun u w => t6 2 u w) = true := uws_of (by decide +kernel) (by decide +kernel) (by decide +kernel)
theorem T7_2 : ((List.range 12).all fun hue => t7 2 hue) = true := by decide +kernel
theorem T1_3 : ((List.range 18).all fun hue => uws fun u w => t1 3 hue u w) = true := by decide +kernel
theorem T2_3 : (hws 3 fun hue way => t2 3 hue way) = true := by decide +kernel
theorem T3_3 : (uws fun u w => t3 3 u w) = true := uws_of (by decide +kernel) (by decide +kernel) (by decide +kernel)
theorem T4_3 : (uws fun u w => t4 3 u w) = true := by decide +kernel
theorem T5_3 : (hws 3 fun hue way => t5 3 hue way) = true := by decide +kernel
theorem T6_3 : (uws fun u w => t6 3 u w) = true := uws_of (by decide +kernel) (by decide +kernel) (by decide +kernel)
theorem T7_3 : ((List.range 18).all fun hue => t7 3 hue) = true := by decide +kernel

end
section
open PySem PySem.W PyProof.Rows
set_option maxRecDepth 100000
set_option maxHeartbeats 8000000
open Float64
theorem uws_at {f : Nat → Nat → Bool} (h : uws f = true) {u w : Nat} (h1 : 1 ≤ u) (h2 : u ≤ 3) (h3 : w < 7) : f u w = true := by
  have a := List.all_eq_true.mp h (u - 1) (List.mem_range.mpr (by omega))
  have b := List.all_eq_true.mp a w (List.mem_range.mpr h3)
  rwa [show u - 1 + 1 = u by omega] at b
theorem hws_at {s : Nat} {f : Nat → Nat → Bool} (h : hws s f = true) {a b : Nat} (h1 : a < 6 * s) (h2 : b < 6 * s) : f a b = true :=
  List.all_eq_true.mp (List.all_eq_true.mp h a (List.mem_range.mpr h1)) b (List.mem_range.mpr h2)
theorem any_nat {l : List Nat} {q : UInt64} (h : (l.any fun n => n == q.toNat) = true) : ∃ n ∈ l, q = UInt64.ofNat n := by
  obtain ⟨n, hn, e⟩ := List.any_eq_true.mp h
  exact ⟨n, hn, by rw [show n = q.toNat by simpa using e, UInt64.ofNat_toNat]⟩
theorem out_of {x : UInt64} {p : Int} (h : outC x p = true) : ok16 x = true ∧ r16 x = p := by
  rw [outC_eq, Bool.and_eq_true, beq_iff_eq] at h; exact h
section
variable {s hue u w way : Nat} (hs : s = 1 ∨ s = 2 ∨ s = 3) (hh : hue < 6 * s) (h1 : 1 ≤ u) (h2 : u ≤ 3) (hw : w < 7) (hy : way < 6 * s)
include hs
theorem t1_at (hh : hue < 6 * s) (h1 : 1 ≤ u) (h2 : u ≤ 3) (hw : w < 7) : t1 s hue u w = true := by
  rcases hs with rfl | rfl | rfl
  · exact uws_at (List.all_eq_true.mp T1_1 hue (List.mem_range.mpr hh)) h1 h2 hw
  · exact uws_at (List.all_eq_true.mp T1_2 hue (List.mem_range.mpr hh)) h1 h2 hw
  · exact uws_at (List.all_eq_true.mp T1_3 hue (List.mem_range.mpr hh)) h1 h2 hw
theorem t2_at (hh : hue < 6 * s) (hy : way < 6 * s) : t2 s hue way = true := by
  rcases hs with rfl | rfl | rfl
  · exact hws_at T2_1 hh hy
  · exact hws_at T2_2 hh hy
  · exact hws_at T2_3 hh hy
theorem t3_at (h1 : 1 ≤ u) (h2 : u ≤ 3) (hw : w < 7) : t3 s u w = true := by
  rcases hs with rfl | rfl | rfl
  · exact uws_at T3_1 h1 h2 hw
  · exact uws_at T3_2 h1 h2 hw
  · exact uws_at T3_3 h1 h2 hw
theorem t4_at (h1 : 1 ≤ u) (h2 : u ≤ 3) (hw : w < 7) : t4 s u w = true := by
  rcases hs with rfl | rfl | rfl
  · exact uws_at T4_1 h1 h2 hw
  · exact uws_at T4_2 h1 h2 hw
  · exact uws_at T4_3 h1 h2 hw
theorem t5_at (hh : hue < 6 * s) (hy : way < 6 * s) : t5 s hue way = true := by
  rcases hs with rfl | rfl | rfl
  · exact hws_at T5_1 hh hy
  · exact hws_at T5_2 hh hy
  · exact hws_at T5_3 hh hy
theorem t6_at (h1 : 1 ≤ u) (h2 : u ≤ 3) (hw : w < 7) : t6 s u w = true := by
  rcases hs with rfl | rfl | rfl
  · exact uws_at T6_1 h1 h2 hw
  · exact uws_at T6_2 h1 h2 hw
  · exact uws_at T6_3 h1 h2 hw
theorem t7_at (hh : hue < 6 * s) : t7 s hue = true := by
  rcases hs with rfl | rfl | rfl
  · exact List.all_eq_true.mp T7_1 hue (List.mem_range.mpr hh)
  · exact List.all_eq_true.mp T7_2 hue (List.mem_range.mpr hh)
  · exact List.all_eq_true.mp T7_3 hue (List.mem_range.mpr hh)
noncomputable abbrev rF (s hue u w : Nat) : UInt64 := frI (pN hue u w s 0)
noncomputable abbrev gF (s hue u w : Nat) : UInt64 := frI (pN hue u w s (2 * s))
noncomputable abbrev bF (s hue u w : Nat) : UInt64 := frI (pN hue u w s (4 * s))
noncomputable abbrev MF (s u w : Nat) : UInt64 := frI ((w + u * s : Nat) : Int)
noncomputable abbrev mF (w : Nat) : UInt64 := frI ((w : Nat) : Int)
theorem col1 (hh : hue < 6 * s) (h1 : 1 ≤ u) (h2 : u ≤ 3) (hw : w < 7) : max3F (rF s hue u w) (gF s hue u w) (bF s hue u w) = MF s u w ∧ min3F (rF s hue u w) (gF s hue u w) (bF s hue u w) = mF w ∧ hueF (rF s hue u w) (gF s hue u w) (bF s hue u w) (MF s u w) (mF w) = HV s hue := by
  have h := t1_at hs hh h1 h2 hw
  unfold t1 at h
  simp only [fc_eq, hueC_eq, Bool.and_eq_true, beq_iff_eq] at h
  exact ⟨h.1.1, h.1.2, h.2⟩
theorem col4 (h1 : 1 ≤ u) (h2 : u ≤ 3) (hw : w < 7) : isZero (add (MF s u w) (mF w)) = false ∧ isZero (sub (MF s u w) (mF w)) = false ∧ isZero (sub (sub fTwo (MF s u w)) (mF w)) = false ∧ isZero (MF s u w) = false ∧ (cmp (mF w) (MF s u w) == some .eq) = false := by
  have h := t4_at hs h1 h2 hw
  unfold t4 at h
  simp only [fc_eq, Bool.and_eq_true, Bool.not_eq_true'] at h
  exact ⟨h.1.1.1.1, h.1.1.1.2, h.1.1.2, h.1.2, h.2⟩
theorem hls_is (hh : hue < 6 * s) (h1 : 1 ≤ u) (h2 : u ≤ 3) (hw : w < 7) : hlsF (rF s hue u w) (gF s hue u w) (bF s hue u w) = (HV s hue, litF (MF s u w) (mF w), satL (MF s u w) (mF w)) := by
  obtain ⟨e1, e2, e3⟩ := col1 hs hh h1 h2 hw
  obtain ⟨_, _, _, _, f⟩ := col4 hs h1 h2 hw
  unfold hlsF
  rw [e1, e2, if_neg (by rw [f]; exact Bool.false_ne_true), e3]
  rfl
theorem hsv_is (hh : hue < 6 * s) (h1 : 1 ≤ u) (h2 : u ≤ 3) (hw : w < 7) : hsvF (rF s hue u w) (gF s hue u w) (bF s hue u w) = (HV s hue, div (sub (MF s u w) (mF w)) (MF s u w), MF s u w) := by
  obtain ⟨e1, e2, e3⟩ := col1 hs hh h1 h2 hw
  obtain ⟨_, _, _, _, f⟩ := col4 hs h1 h2 hw
  unfold hsvF
  rw [e1, e2, if_neg (by rw [f]; exact Bool.false_ne_true), e3]
theorem hls_turn (hh : hue < 6 * s) (hy : way < 6 * s) (h1 : 1 ≤ u) (h2 : u ≤ 3) (hw : w < 7) :
    (ok16 (rgbLF (add (HV s hue) (fwF s way)) (litF (MF s u w) (mF w)) (satL (MF s u w) (mF w))).1 = true ∧ r16 (rgbLF (add (HV s hue) (fwF s way)) (litF (MF s u w) (mF w)) (satL (MF s u w) (mF w))).1 = pN ((hue + way) % (6 * s)) u w s 0) ∧
    (ok16 (rgbLF (add (HV s hue) (fwF s way)) (litF (MF s u w) (mF w)) (satL (MF s u w) (mF w))).2.1 = true ∧ r16 (rgbLF (add (HV s hue) (fwF s way)) (litF (MF s u w) (mF w)) (satL (MF s u w) (mF w))).2.1 = pN ((hue + way) % (6 * s)) u w s (2 * s)) ∧
    (ok16 (rgbLF (add (HV s hue) (fwF s way)) (litF (MF s u w) (mF w)) (satL (MF s u w) (mF w))).2.2 = true ∧ r16 (rgbLF (add (HV s hue) (fwF s way)) (litF (MF s u w) (mF w)) (satL (MF s u w) (mF w))).2.2 = pN ((hue + way) % (6 * s)) u w s (4 * s)) := by
  have a := t2_at hs hh hy
  unfold t2 at a
  simp only [fc_eq, Bool.and_eq_true] at a
  obtain ⟨q0, m0, e0⟩ := any_nat a.1.1
  obtain ⟨q1, m1, e1⟩ := any_nat a.1.2
  obtain ⟨q2, m2, e2⟩ := any_nat a.2
  have b := t3_at hs h1 h2 hw
  unfold t3 at b
  simp only [fc_eq, Bool.and_eq_true, Bool.not_eq_true'] at b
  obtain ⟨b0, b1⟩ := b
  have due : (hue + way) % (6 * s) < 6 * s := Nat.mod_lt _ (by omega)
  have c := List.all_eq_true.mp b1 _ (List.mem_range.mpr due)
  have c0 := out_of (List.all_eq_true.mp (List.all_eq_true.mp c 0 (by decide)) _ m0)
  have c1 := out_of (List.all_eq_true.mp (List.all_eq_true.mp c 1 (by decide)) _ m1)
  have c2 := out_of (List.all_eq_true.mp (List.all_eq_true.mp c 2 (by decide)) _ m2)
  unfold rgbLF
  rw [if_neg (by rw [b0]; exact Bool.false_ne_true)]
  simp only [vvF_eq]
  rw [e0, e1, e2]
  rw [show 2 * s * 0 = 0 by omega] at c0
  rw [show 2 * s * 1 = 2 * s by omega] at c1
  rw [show 2 * s * 2 = 4 * s by omega] at c2
  exact ⟨c0, c1, c2⟩
theorem hsv_turn (hh : hue < 6 * s) (hy : way < 6 * s) (h1 : 1 ≤ u) (h2 : u ≤ 3) (hw : w < 7) :
    isFinite (mul (add (HV s hue) (fwF s way)) fSix) = true ∧ (Flt.toInt truncOf (mul (add (HV s hue) (fwF s way)) fSix)).natAbs < 100 ∧
    (ok16 (rgbVF (add (HV s hue) (fwF s way)) (div (sub (MF s u w) (mF w)) (MF s u w)) (MF s u w)).1 = true ∧ r16 (rgbVF (add (HV s hue) (fwF s way)) (div (sub (MF s u w) (mF w)) (MF s u w)) (MF s u w)).1 = pN ((hue + way) % (6 * s)) u w s 0) ∧
    (ok16 (rgbVF (add (HV s hue) (fwF s way)) (div (sub (MF s u w) (mF w)) (MF s u w)) (MF s u w)).2.1 = true ∧ r16 (rgbVF (add (HV s hue) (fwF s way)) (div (sub (MF s u w) (mF w)) (MF s u w)) (MF s u w)).2.1 = pN ((hue + way) % (6 * s)) u w s (2 * s)) ∧
    (ok16 (rgbVF (add (HV s hue) (fwF s way)) (div (sub (MF s u w) (mF w)) (MF s u w)) (MF s u w)).2.2 = true ∧ r16 (rgbVF (add (HV s hue) (fwF s way)) (div (sub (MF s u w) (mF w)) (MF s u w)) (MF s u w)).2.2 = pN ((hue + way) % (6 * s)) u w s (4 * s)) := by
  have a := t5_at hs hh hy
  unfold t5 at a
  simp only [fc_eq, Bool.and_eq_true, decide_eq_true_eq] at a
  obtain ⟨⟨a1, a2⟩, a3⟩ := a
  obtain ⟨p, hp, e⟩ := List.any_eq_true.mp a3
  simp only [Bool.and_eq_true, beq_iff_eq] at e
  have b := t6_at hs h1 h2 hw
  unfold t6 at b
  simp only [fc_eq, Bool.and_eq_true, Bool.not_eq_true'] at b
  obtain ⟨b0, b1⟩ := b
  have due : (hue + way) % (6 * s) < 6 * s := Nat.mod_lt _ (by omega)
  have c := List.all_eq_true.mp (List.all_eq_true.mp b1 _ (List.mem_range.mpr due)) p hp
  simp only [Bool.and_eq_true] at c
  rw [rgbVF_eq _ _ _ b0, ← e.1]
  have e3 : sub (mul (add (HV s hue) (fwF s way)) fSix) (ofInt (Flt.toInt truncOf (mul (add (HV s hue) (fwF s way)) fSix))) = UInt64.ofNat p.2 := by rw [e.2, UInt64.ofNat_toNat]
  rw [e3]
  exact ⟨a1, a2, out_of c.1.1, out_of c.1.2, out_of c.2⟩
end

end
section
open PySem PySem.W PySem.Calls PyProof.Rows
set_option maxRecDepth 100000
set_option maxHeartbeats 8000000
noncomputable abbrev parts3 (hue unit white side : Int) (u1 u2 u3 : Tok) (n : Nat) : Obj := listOf #[.int (partI hue unit white side 0) u1, .int (partI hue unit white side (2 * side)) u2, .int (partI hue unit white side (4 * side)) u3] n
theorem pN0 (h u w s : Nat) : pN h u w s 0 = partI (h : Int) (u : Int) (w : Int) (s : Int) 0 := rfl
theorem pN2 (h u w s : Nat) : pN h u w s (2 * s) = partI (h : Int) (u : Int) (w : Int) (s : Int) (2 * (s : Int)) := by unfold pN; rw [Int.natCast_mul]; rfl
theorem pN4 (h u w s : Nat) : pN h u w s (4 * s) = partI (h : Int) (u : Int) (w : Int) (s : Int) (4 * (s : Int)) := by unfold pN; rw [Int.natCast_mul]; rfl
theorem due_eq (h y s : Nat) : ((h : Int) + (y : Int)).fmod (6 * (s : Int)) = (((h + y) % (6 * s) : Nat) : Int) := by
  rw [Int.fmod_eq_emod_of_nonneg _ (by omega), Int.natCast_emod, Int.natCast_add, Int.natCast_mul]; rfl
theorem fw_eq (y s : Nat) : Float64.ofFrac (decide ((y : Int) < 0) != decide (6 * (s : Int) < 0)) (y : Int).natAbs (6 * (s : Int)).natAbs = fwF s y := by
  have e1 : decide ((y : Int) < 0) = false := by simp
  have e2 : decide (6 * (s : Int) < 0) = false := decide_eq_false (by omega)
  have e3 : (6 * (s : Int)).natAbs = 6 * s := rfl
  rw [e1, e2, e3]; rfl
theorem pN_rng (h u w s c : Nat) (h1 : 1 ≤ u) (h2 : u ≤ 3) (hw : w < 7) (hs : s = 1 ∨ s = 2 ∨ s = 3) : 0 ≤ pN h u w s c ∧ pN h u w s c ≤ 15 := part_rng ⟨by omega, by omega⟩ ⟨by omega, by omega⟩ ⟨by omega, by omega⟩
theorem turnC (w : World) {side wheel hue unit white way : Int} (b : Bool) {l : Addr} {t1 t2 t3 ty tw : Tok} {n : Nat} (hs : 1 ≤ side ∧ side ≤ 3) (hW : 6 * side = wheel) (hh : 0 ≤ hue ∧ hue < wheel) (hu : 1 ≤ unit ∧ unit ≤ 3) (hwh : 0 ≤ white ∧ white ≤ 6) (hway : 0 ≤ way ∧ way < wheel) :
    Pure w 10 318 [.ref l, .int way ty, .int wheel tw, .bool b] [] (fun h => h.get? l = some (parts3 hue unit white side t1 t2 t3 n)) (fun r new => ∃ l' u1 u2 u3 n', r = .ref l' ∧ new = [(l', parts3 ((hue + way).fmod wheel) unit white side u1 u2 u3 n')]) := by
  subst hW
  obtain ⟨s, rfl⟩ := Int.eq_ofNat_of_zero_le (show 0 ≤ side by omega)
  obtain ⟨h, rfl⟩ := Int.eq_ofNat_of_zero_le hh.1
  obtain ⟨u, rfl⟩ := Int.eq_ofNat_of_zero_le (show 0 ≤ unit by omega)
  obtain ⟨wt, rfl⟩ := Int.eq_ofNat_of_zero_le hwh.1
  obtain ⟨y, rfl⟩ := Int.eq_ofNat_of_zero_le hway.1
  have s3 : s = 1 ∨ s = 2 ∨ s = 3 := by omega
  have a1 : h < 6 * s := by omega
  have a2 : y < 6 * s := by omega
  have a3 : 1 ≤ u := by omega
  have a4 : u ≤ 3 := by omega
  have a5 : wt < 7 := by omega
  obtain ⟨e1, e2, e3⟩ := col1 s3 a1 a3 a4 a5
  obtain ⟨z1, z2, z3, z4, z5⟩ := col4 s3 a3 a4 a5
  have rng := fun c => pN_rng h u wt s c a3 a4 a5 s3
  cases b with
  | true =>
    have hl := hls_is s3 a1 a3 a4 a5
    obtain ⟨⟨p1, p2⟩, ⟨p3, p4⟩, ⟨p5, p6⟩⟩ := hls_turn s3 a1 a2 a3 a4 a5
    have T := turnedhls_spec w l (pN h u wt s 0) (pN h u wt s (2 * s)) (pN h u wt s (4 * s)) t1 t2 t3 tw n (6 * (s : Int)) (y : Int) ty ⟨by omega, by omega⟩ (rng _) (rng _) (rng _) ⟨by omega, by omega⟩ (by rw [e1, e2]; exact z1) (by rw [e1, e2]; exact z2) (by rw [e1, e2]; exact z3) (by rw [hl, fw_eq]; exact p1) (by rw [hl, fw_eq]; exact p3) (by rw [hl, fw_eq]; exact p5)
    rw [hl, fw_eq, p2, p4, p6] at T
    simp only [pN0, pN2, pN4] at T
    rw [due_eq]
    exact T
  | false =>
    have hl := hsv_is s3 a1 a3 a4 a5
    obtain ⟨f1, f2, ⟨p1, p2⟩, ⟨p3, p4⟩, ⟨p5, p6⟩⟩ := hsv_turn s3 a1 a2 a3 a4 a5
    have T := turnedhsv_spec w l (pN h u wt s 0) (pN h u wt s (2 * s)) (pN h u wt s (4 * s)) t1 t2 t3 tw n (6 * (s : Int)) (y : Int) ty ⟨by omega, by omega⟩ (rng _) (rng _) (rng _) ⟨by omega, by omega⟩ (by rw [e1]; exact z4) (by rw [e1, e2]; exact z2) (by rw [hl, fw_eq]; exact f1) (by rw [hl, fw_eq]; exact f2) (by rw [hl, fw_eq]; exact p1) (by rw [hl, fw_eq]; exact p3) (by rw [hl, fw_eq]; exact p5)
    rw [hl, fw_eq, p2, p4, p6] at T
    simp only [pN0, pN2, pN4] at T
    rw [due_eq]
    exact T
theorem toldC (w : World) {side wheel due unit white : Int} (b : Bool) {l : Addr} {t1 t2 t3 tw : Tok} {n : Nat} (hs : 1 ≤ side ∧ side ≤ 3) (hW : 6 * side = wheel) (hh : 0 ≤ due ∧ due < wheel) (hu : 1 ≤ unit ∧ unit ≤ 3) (hwh : 0 ≤ white ∧ white ≤ 6) :
    Pure w 6 323 [.ref l, .int wheel tw, .bool b] [] (fun h => h.get? l = some (parts3 due unit white side t1 t2 t3 n)) (fun r new => new = [] ∧ ∃ t, r = .int due t) := by
  subst hW
  obtain ⟨s, rfl⟩ := Int.eq_ofNat_of_zero_le (show 0 ≤ side by omega)
  obtain ⟨h, rfl⟩ := Int.eq_ofNat_of_zero_le hh.1
  obtain ⟨u, rfl⟩ := Int.eq_ofNat_of_zero_le (show 0 ≤ unit by omega)
  obtain ⟨wt, rfl⟩ := Int.eq_ofNat_of_zero_le hwh.1
  have s3 : s = 1 ∨ s = 2 ∨ s = 3 := by omega
  have a1 : h < 6 * s := by omega
  have a3 : 1 ≤ u := by omega
  have a4 : u ≤ 3 := by omega
  have a5 : wt < 7 := by omega
  obtain ⟨e1, e2, e3⟩ := col1 s3 a1 a3 a4 a5
  obtain ⟨z1, z2, z3, z4, z5⟩ := col4 s3 a3 a4 a5
  have rng := fun c => pN_rng h u wt s c a3 a4 a5 s3
  have q := t7_at s3 a1
  unfold t7 at q
  simp only [fc_eq, Bool.and_eq_true, beq_iff_eq] at q
  rw [Int.natCast_mul] at q
  obtain ⟨q1, q2⟩ := q
  cases b with
  | true =>
    have hl := hls_is s3 a1 a3 a4 a5
    have T := toldhls_spec w l (pN h u wt s 0) (pN h u wt s (2 * s)) (pN h u wt s (4 * s)) t1 t2 t3 tw n (6 * (s : Int)) (rng _) (rng _) (rng _) ⟨by omega, by omega⟩ (by rw [e1, e2]; exact z1) (by rw [e1, e2]; exact z2) (by rw [e1, e2]; exact z3) (by rw [hl]; exact q1)
    rw [hl, show ((Flt.toInt Float64.truncOf (Float64.add (Float64.mul (HV s h) (Float64.ofInt (6 * (s : Int)))) 4602678819172646912)).fmod (6 * (s : Int))) = (h : Int) from q2] at T
    simp only [pN0, pN2, pN4] at T
    exact T
  | false =>
    have hl := hsv_is s3 a1 a3 a4 a5
    have T := toldhsv_spec w l (pN h u wt s 0) (pN h u wt s (2 * s)) (pN h u wt s (4 * s)) t1 t2 t3 tw n (6 * (s : Int)) (rng _) (rng _) (rng _) ⟨by omega, by omega⟩ (by rw [e1]; exact z4) (by rw [e1, e2]; exact z2) (by rw [hl]; exact q1)
    rw [hl, show ((Flt.toInt Float64.truncOf (Float64.add (Float64.mul (HV s h) (Float64.ofInt (6 * (s : Int)))) 4602678819172646912)).fmod (6 * (s : Int))) = (h : Int) from q2] at T
    simp only [pN0, pN2, pN4] at T
    exact T
noncomputable def outF : { x : Stmt // stGet lawB.1 10 = x } := by apply Subtype.mk; (conv => lhs; whnf)
noncomputable def inF : { x : Stmt // stGet (forBody outF.1) 2 = x } := by apply Subtype.mk; (conv => lhs; whnf)
noncomputable def inB : { x : List Stmt // forBody inF.1 = x } := by apply Subtype.mk; (conv => lhs; whnf)
noncomputable def outB : { x : List Stmt // forBody outF.1 = x } := by apply Subtype.mk; (conv => lhs; whnf)
noncomputable def lastB : { x : List Stmt // lawB.1.drop 11 = x } := by apply Subtype.mk; (conv => lhs; whnf)

end
section
open PySem PySem.W PySem.Calls PyProof.Rows
set_option maxRecDepth 100000
set_option maxHeartbeats 8000000
theorem fillC20 (w : World) (h : Heap) (X : (K w.params).In h) (e : rw0.foot = 7) : (K w.params).In h ∧ rw0.foot = 7 := by
  k_fill
  exact ⟨X, e⟩
noncomputable def AllNe (a : Addr) : List (Addr × Obj) → Prop
  | [] => True
  | (b, _) :: r => @Ne Nat b a ∧ AllNe a r
theorem ne_new {h₀ h : Heap} {L a : Addr} {news : List (Addr × Obj)} (N : News h₀ L h news) (e : h.get? a = none) : AllNe a news := by
  induction news with
  | nil => trivial
  | cons p r ih =>
    obtain ⟨b, o⟩ := p
    refine ⟨fun hb => ?_, ih fun q hq => N q (.tail _ hq)⟩
    have h1 := (N (b, o) (.head _)).1
    have hb' : b = a := hb
    rw [hb', e] at h1; cases h1
theorem news_swap {h₀ h : Heap} {L : Addr} {x y : Addr × Obj} {r : List (Addr × Obj)} (N : News h₀ L h (x :: y :: r)) : News h₀ L h (y :: x :: r) := fun p hp => N p (by
  rcases List.mem_cons.mp hp with e | hp
  · rw [e]; exact .tail _ (.head _)
  · rcases List.mem_cons.mp hp with e | hp
    · rw [e]; exact .head _
    · exact .tail _ (.tail _ hp))
theorem news_drop3 {h₀ h : Heap} {L : Addr} {x y z : Addr × Obj} {r : List (Addr × Obj)} (N : News h₀ L h (x :: y :: z :: r)) : News h₀ L h (x :: r) := fun p hp => N p (by
  rcases List.mem_cons.mp hp with e | hp
  · rw [e]; exact .head _
  · exact .tail _ (.tail _ (.tail _ hp)))
theorem ne_cls {h₀ h : Heap} {L a b : Addr} {o o' : Obj} {news : List (Addr × Obj)} (N : News h₀ L h news) (h1 : (a, o) ∈ news) (h2 : (b, o') ∈ news) (hc : o.cls ≠ o'.cls) : @Ne Nat a b := fun e => by
  have e1 := (N _ h1).1
  have e2 := (N _ h2).1
  have e' : a = b := e
  simp only at e1 e2
  rw [e', e2] at e1
  exact hc (congrArg Obj.cls (Option.some.inj e1)).symm
theorem ne_data {h₀ h : Heap} {L a b : Addr} {o o' : Obj} {news : List (Addr × Obj)} (N : News h₀ L h news) (h1 : (a, o) ∈ news) (h2 : (b, o') ∈ news) (hc : o.data ≠ o'.data) : @Ne Nat a b := fun e => by
  have e1 := (N _ h1).1
  have e2 := (N _ h2).1
  have e' : a = b := e
  simp only at e1 e2
  rw [e', e2] at e1
  exact hc (congrArg Obj.data (Option.some.inj e1)).symm
def fnE : Lean.MacroM Tc := `(tactic| (subst e1'; subst e2'; (simp only [List.cons_append, List.nil_append] at N'); (have lt' := ne_new nOld (hfr' _ List.mem_cons_self)); (simp only [AllNe, and_true] at lt'); clear hfr' hkp' nOld; (try dsimp only)))
local macro_rules | `(tactic| walk_at "call ref") => useP 313 (vL [vI, vI, vI, vI]) pNews (sp ``parts_spec [vAny, vAny, vAny, vAny, vAny, vAny, vAny, vAny, vAny, hole 0, hole 1, hole 2, hole 3]) tlT (cs [oCase 0, oCase 1, oCase 2, oCase 3]) obD fnE
local macro_rules | `(tactic| walk_at "call ref") => useP 318 (vL [vR, vI, vI, vB]) pNews (sp ``turnC [vAny, vAny, hole 0, hole 1, hole 2, hole 3, hole 4, hole 5]) tlC (cs [cpGet, aCase 1, oCase 0, oCase 2, oCase 3, oCase 4, oCase 5]) obD fnE
local macro_rules | `(tactic| walk_at "call ref") => useP 323 (vL [vR, vI, vB]) pSkip (sp ``toldC [vAny, vAny, hole 0, hole 1, hole 2, hole 3, hole 4]) tlC (cs [cpGet, aCase 1, oCase 0, oCase 2, oCase 3, oCase 4]) obA fnA
local macro_rules | `(tactic| walk_at "call ref") => useP 242 (vL [vI, vI]) pSkip (sp ``lsh_spec [vAny, vAny, vAny, vAny, vAny, hole 0, hole 1]) tlT (cs [oCase 0, oCase 1]) obA fnA
local macro_rules | `(tactic| walk_at "call ref") => useP 263 (vL [vI, vI]) pSkip (sp ``or_spec [vAny, vAny, vAny, vAny, vAny]) tlT (cs []) obA fnA
local macro_rules | `(tactic| walk_at "binaryOp FloorDiv int int") => `(tactic| (with_reducible refine floordiv_int (by assumption) ?_ (Or.inl (PyProof.noPylong_small (by omega)))))
local macro_rules | `(tactic| walk_at "call builtin:list.append") => `(tactic| ((with_reducible show wpAny _ _ (call (Value.builtin "list.append") _) _ _ _); (refine opq_of ?_)))
local macro_rules | `(tactic| k_ne) => `(tactic| (refine neN ?_; (try dsimp only); first | (with_reducible assumption) | exact Ne.symm (by with_reducible assumption)))
section
variable {prog : Program} {w : World} {A : Around} {E : Value → Shared → Prop} {s : Shared} {a b c : Int} {t u : Tok} {Q : Value → Shared → Prop}
theorem add_to (e : a + b = c) (h : Q (.int c s.toks) { s with toks := s.toks + 1 }) : wpAny (model prog w) A (binaryOp .Add (.int a t) (.int b u)) Q E s := PyProof.Rows.add_int (e ▸ h)
theorem mul_to (e : a * b = c) (h : Q (.int c s.toks) { s with toks := s.toks + 1 }) (hm : IntMulOk a b) : wpAny (model prog w) A (binaryOp .Mult (.int a t) (.int b u)) Q E s := PyProof.Rows.mul_int (e ▸ h) hm
theorem mod_to (e : a.fmod b = c) (hb : b ≠ 0) (h : Q (.int c s.toks) { s with toks := s.toks + 1 }) : wpAny (model prog w) A (binaryOp .Mod (.int a t) (.int b u)) Q E s := PyProof.Rows.mod_int hb (e ▸ h)
end
local macro_rules | `(tactic| k_all) => `(tactic| assumption)
local macro_rules | `(tactic| walk_at "call ref") => `(tactic| ((with_reducible show wpAny _ _ (call (Value.ref 179) _ _) _ _ _); (refine opq_of ?_)))
local macro_rules | `(tactic| walk_at "binaryOp Mod str ref") => `(tactic| (k_here; (with_reducible show wpAny _ _ (binaryOp Operator.Mod (Value.str _ _) (Value.ref _)) _ _ _); k_dflt (refine' fmt3 ?ha ?hb ?hc ?hN ?hm ?_; (case hN => k_asm); (case hm => k_mem); (case ha => exact part_rng (by assumption) (by assumption) (by assumption)); (case hb => exact part_rng (by assumption) (by assumption) (by assumption)); (case hc => exact part_rng (by assumption) (by assumption) (by assumption))); intro _ _))
/-- the name and the text of a turn -/
noncomputable def nameOf (odd : Bool) (due : Int) : Str := chr1 ((if odd then 65 else 97) + due).toNat
noncomputable def textOf (due unit white side : Int) : Str := txt3 (partI due unit white side 0) (partI due unit white side (2 * side)) (partI due unit white side (4 * side))
theorem turn_body (w : World) {fa : Addr} {cd : Value} {dp un : Nat} {gd : Option (List Code)} {outer : List Env} {A₀ : Around} {base h₀ h₁ : Heap} {L : Addr} {s : Shared} {tk : Nat} {Q : Flow → Shared → Prop}
    {p : Program} {loose : List Str} {mean : ExcName → Option Value} {mg mb : Str → Option Value} {m : Str → Option Value}
    (B : Below A₀ base outer h₀) (X : (K w.params).In h₀) (T : Top p loose mean mg mb h₀) (hdp : dp + 20 < recursionLimit) (hun : un + 200 < cLine) (F : Fr h₀ L h₁ m)
    {side wheel hue unit white way kk jj bits : Int} {t1 t2 t3 t4 t5 t6 t7 t8 t9 : Tok} {tb dx lh rl : Addr} {hs : Int} {tk₀ : Tok} {nd n rn : Nat} {its rws : Array Value} {o1 o2 o4 o5 o6 : Obj} {rest : List (Addr × Obj)}
    (mk : m (Str.ofString "k") = some (.int kk t1)) (mj : m (Str.ofString "j") = some (.int jj t2)) (my : m (Str.ofString "way") = some (.int way t3)) (mu : m (Str.ofString "unit") = some (.int unit t4)) (mw : m (Str.ofString "white") = some (.int white t5)) (mr : m (Str.ofString "row") = some (.ref rl))
    (d1 : o1.data = .cell (some (.int side t6))) (d2 : o2.data = .cell (some (.int wheel t7))) (d4 : o4.data = .cell (some (.ref tb))) (d5 : o5.data = .cell (some (.int bits t8))) (d6 : o6.data = .cell (some (.int hue t9)))
    (hsd : 1 ≤ side ∧ side ≤ 3) (hW : 6 * side = wheel) (hh : 0 ≤ hue ∧ hue < wheel) (hu : 1 ≤ unit ∧ unit ≤ 3) (hwh : 0 ≤ white ∧ white ≤ 6) (hway : 0 ≤ way ∧ way < wheel) (hk0 : 0 ≤ kk ∧ kk ≤ 3) (hj0 : 0 ≤ jj ∧ jj ≤ 3)
    (hsz : its.size < 2 ^ 19) (hrz : rws.size < 2 ^ 19)
    (N : News h₀ L h₁ ((tb, instObj 182 dx) :: (dx, dictOf [⟨hs, .str (Str.ofString "_headers") tk₀, .ref lh⟩] nd) :: (lh, listOf its n) :: (rl, listOf rws rn) :: (L + 1 + 1 + 1 + 1 + 1, o5) :: (L + 1, o1) :: (L + 1 + 1, o2) :: (L + 1 + 1 + 1 + 1, o4) :: (L + 1 + 1 + 1 + 1 + 1 + 1, o6) :: rest))
    (n1 : @Ne Nat tb lh) (n2 : @Ne Nat dx lh) (n3 : @Ne Nat rl lh) (n4 : @Ne Nat tb rl) (n5 : @Ne Nat dx rl) 
    (c1 : @Ne Nat lh (L + 1)) (c2 : @Ne Nat lh (L + 1 + 1)) (c4 : @Ne Nat lh (L + 1 + 1 + 1 + 1)) (c5 : @Ne Nat lh (L + 1 + 1 + 1 + 1 + 1)) (c6 : @Ne Nat lh (L + 1 + 1 + 1 + 1 + 1 + 1))
    (e1 : @Ne Nat rl (L + 1)) (e2 : @Ne Nat rl (L + 1 + 1)) (e4 : @Ne Nat rl (L + 1 + 1 + 1 + 1)) (e5 : @Ne Nat rl (L + 1 + 1 + 1 + 1 + 1)) (e6 : @Ne Nat rl (L + 1 + 1 + 1 + 1 + 1 + 1)) (f1 : @Ne Nat tb (L + 1 + 1 + 1 + 1 + 1)) (f2 : @Ne Nat dx (L + 1 + 1 + 1 + 1 + 1))
    (r1 : ∀ p ∈ rest, p.1 ≠ lh) (r2 : ∀ p ∈ rest, p.1 ≠ rl) (r3 : ∀ p ∈ rest, p.1 ≠ L + 1 + 1 + 1 + 1 + 1)
    (k : ∀ m' h' tk' a b n2 rn2 o5' tn tv tn2 tv2 t, Fr h₀ L h' m' → (∀ z, z ∉ [(Str.ofString "odd"), (Str.ofString "size"), (Str.ofString "turned"), (Str.ofString "due")] → m' z = m z) → o5'.data = .cell (some (.int (Builtin.bitOr bits (1 * 2 ^ ((hue + way).fmod wheel).toNat)) t)) →
      News h₀ L h' ((a, tup2 (nameOf ((kk + jj).fmod 2 == 1) ((hue + way).fmod wheel)) tn (textOf ((hue + way).fmod wheel) unit white side) tv) :: (b, tup2 (nameOf ((kk + jj).fmod 2 == 1) ((hue + way).fmod wheel)) tn2 (textOf ((hue + way).fmod wheel) unit white side) tv2) :: (tb, instObj 182 dx) :: (dx, dictOf [⟨hs, .str (Str.ofString "_headers") tk₀, .ref lh⟩] nd) :: (lh, listOf (its.push (.ref a)) n2) :: (rl, listOf (rws.push (.ref b)) rn2) :: (L + 1 + 1 + 1 + 1 + 1, o5') :: (L + 1, o1) :: (L + 1 + 1, o2) :: (L + 1 + 1 + 1 + 1, o4) :: (L + 1 + 1 + 1 + 1 + 1 + 1, o6) :: rest) → Q .next { s with heap := h', toks := tk' }) :
    wpAny (model rw0.row.prog w) (Ar dp un gd (envOfC (Str.ofString "law") lawS.1 L fa cd) outer) (execs inB.1 (envOfC (Str.ofString "law") lawS.1 L fa cd)) Q (fun _ _ => False) { s with heap := h₁, toks := tk } := by
  have F1 := fr_fix F (Str.ofString "k") _ mk
  have F2 := fr_fix F1 (Str.ofString "j") _ mj
  have F3 := fr_fix F2 (Str.ofString "way") _ my
  have F4 := fr_fix F3 (Str.ofString "unit") _ mu
  have F5 := fr_fix F4 (Str.ofString "white") _ mw
  have F6 := fr_fix F5 (Str.ofString "row") _ mr
  clear F F1 F2 F3 F4 F5
  have hd0 := Int.fmod_nonneg_of_pos (hue + way) (show (0:Int) < wheel by omega)
  have hd1 := Int.fmod_lt_of_pos (hue + way) (show (0:Int) < wheel by omega)
  have hd18 : (hue + way).fmod wheel < 18 := by omega
  have hu18 : 0 ≤ hue ∧ hue < 18 := by omega
  have htx := txt3_ok (part_rng (hue := (hue + way).fmod wheel) (corner := 0) hu hwh hsd) (part_rng (hue := (hue + way).fmod wheel) (corner := 2 * side) hu hwh hsd) (part_rng (hue := (hue + way).fmod wheel) (corner := 4 * side) hu hwh hsd)
  have hrl : ∀ p ∈ (rl, listOf rws rn) :: (L + 1 + 1 + 1 + 1 + 1, o5) :: (L + 1, o1) :: (L + 1 + 1, o2) :: (L + 1 + 1 + 1 + 1, o4) :: (L + 1 + 1 + 1 + 1 + 1 + 1, o6) :: rest, p.1 ≠ lh :=
    List.forall_mem_cons.2 ⟨n3, List.forall_mem_cons.2 ⟨Ne.symm c5, List.forall_mem_cons.2 ⟨Ne.symm c1, List.forall_mem_cons.2 ⟨Ne.symm c2, List.forall_mem_cons.2 ⟨Ne.symm c4, List.forall_mem_cons.2 ⟨Ne.symm c6, r1⟩⟩⟩⟩⟩⟩
  have hcr : ∀ p ∈ (L + 1 + 1 + 1 + 1 + 1, o5) :: (L + 1, o1) :: (L + 1 + 1, o2) :: (L + 1 + 1 + 1 + 1, o4) :: (L + 1 + 1 + 1 + 1 + 1 + 1, o6) :: rest, p.1 ≠ rl :=
    List.forall_mem_cons.2 ⟨Ne.symm e5, List.forall_mem_cons.2 ⟨Ne.symm e1, List.forall_mem_cons.2 ⟨Ne.symm e2, List.forall_mem_cons.2 ⟨Ne.symm e4, List.forall_mem_cons.2 ⟨Ne.symm e6, r2⟩⟩⟩⟩⟩
  have hrz' : rws.size ≤ sizeLine := by rw [sizeLine_eq]; omega
  dsimp only [lawS, inB]
  k_steps
  all_goals constructor
  all_goals (rename News _ _ _ _ => N9)
  all_goals (rename Fr _ _ _ _ => F9)
  all_goals (have N10 : News h₀ L _ ((tb, instObj 182 dx) :: (dx, dictOf [⟨hs, .str (Str.ofString "_headers") tk₀, .ref lh⟩] nd) :: (lh, listOf its n) :: (rl, listOf rws rn) :: (L + 1 + 1 + 1 + 1 + 1, o5) :: (L + 1, o1) :: (L + 1 + 1, o2) :: (L + 1 + 1 + 1 + 1, o4) :: (L + 1 + 1 + 1 + 1 + 1 + 1, o6) :: rest) := fun p hp => N9 p (.tail _ (.tail _ (.tail _ hp))))
  all_goals (refine addh_use (Nat.lt_of_lt_of_le hsz (by decide)) (chr1_ok (by omega) (by omega)) (show (1:Nat) < 2 ^ 63 by decide) htx.1 (Nat.lt_of_le_of_lt htx.2 (by decide)) (Nat.le_trans htx.2 (by decide)) B F9 X N10 T n1 n2 hrl (by omega) (by omega) ?_)
  all_goals clear N9 N10 F9
  all_goals intro a n2' tn tv h9 tk9 F9 N9
  all_goals (have ha1 := ne_cls (b := rl) N9 (.head _) (.tail _ (.tail _ (.tail _ (.tail _ (.head _))))) (show Value.type "tuple" ≠ Value.type "list" by decide))
  all_goals (have ha2 := ne_data (b := L + 1 + 1 + 1 + 1 + 1) N9 (.head _) (.tail _ (.tail _ (.tail _ (.tail _ (.tail _ (.head _)))))) (by rw [d5]; exact fun e => nomatch e))
  all_goals k_steps
  all_goals constructor
  all_goals (rename News _ _ _ _ => N8)
  all_goals (rename Fr _ _ _ _ => F8)
  all_goals (have N7 := news_drop3 N8)
  all_goals (have hb1 := ne_cls (b := rl) N7 (.head _) (.tail _ (.tail _ (.tail _ (.tail _ (.tail _ (.head _)))))) (show Value.type "tuple" ≠ Value.type "list" by decide))
  all_goals (have hb2 := ne_data (b := L + 1 + 1 + 1 + 1 + 1) N7 (.head _) (.tail _ (.tail _ (.tail _ (.tail _ (.tail _ (.tail _ (.head _))))))) (by rw [d5]; exact fun e => nomatch e))
  all_goals (refine append_K F8 N7 (Upd.tail hb1 (Upd.tail ha1 (Upd.tail n4 (Upd.tail n5 (Upd.tail (Ne.symm n3) (Upd.head hcr)))))) (fun h7 F7 N6 => ?_) hrz')
  all_goals clear N8 F8 N7
  all_goals k_steps
  all_goals (rename News _ _ _ _ => N5)
  all_goals (rename Fr _ _ _ _ => F5)
  all_goals (rename _ = Data.cell (some (Value.int (Builtin.bitOr _ _) _)) => d9)
  · rename (kk + jj).fmod 2 = 1 => hc
    have hn : nameOf ((kk + jj).fmod 2 == 1) ((hue + way).fmod wheel) = chr1 (65 + (hue + way).fmod wheel).toNat := by unfold nameOf; rw [hc]; rfl
    rw [hn] at k
    refine k _ _ _ a _ _ _ _ _ _ _ _ _ F5 ?_ d9 (news_swap N5)
    · intro z hz
      simp only [List.mem_cons, not_or, List.not_mem_nil, not_false_eq_true, and_true] at hz
      obtain ⟨z1, z2, z3, z4⟩ := hz
      dsimp only
      rw [if_neg z4, if_neg z3, if_neg z2, if_neg z1]
      split
      · rename_i e; rw [e, mr]
      split
      · rename_i e; rw [e, mw]
      split
      · rename_i e; rw [e, mu]
      split
      · rename_i e; rw [e, my]
      split
      · rename_i e; rw [e, mj]
      split
      · rename_i e; rw [e, mk]
      rfl
  · rename (kk + jj).fmod 2 ≠ 1 => hc
    have hn : nameOf ((kk + jj).fmod 2 == 1) ((hue + way).fmod wheel) = chr1 (97 + (hue + way).fmod wheel).toNat := by unfold nameOf; rw [beq_eq_false_iff_ne.mpr hc]; rfl
    rw [hn] at k
    refine k _ _ _ a _ _ _ _ _ _ _ _ _ F5 ?_ d9 (news_swap N5)
    · intro z hz
      simp only [List.mem_cons, not_or, List.not_mem_nil, not_false_eq_true, and_true] at hz
      obtain ⟨z1, z2, z3, z4⟩ := hz
      dsimp only
      rw [if_neg z4, if_neg z3, if_neg z2, if_neg z1]
      split
      · rename_i e; rw [e, mr]
      split
      · rename_i e; rw [e, mw]
      split
      · rename_i e; rw [e, mu]
      split
      · rename_i e; rw [e, my]
      split
      · rename_i e; rw [e, mj]
      split
      · rename_i e; rw [e, mk]
      rfl

end
theorem reset26 : True := by first | walk1 | trivial
section
open PySem PySem.W PySem.Calls PyProof.Rows
set_option maxRecDepth 100000
set_option maxHeartbeats 8000000
theorem fillC23 (w : World) (h : Heap) (X : (K w.params).In h) (e : rw0.foot = 7) : (K w.params).In h ∧ rw0.foot = 7 := by
  k_fill
  exact ⟨X, e⟩
local macro_rules | `(tactic| walk_at "exec For Tuple Call cons nil") => `(tactic| (k_here; (rename Fr _ _ _ _ => lF'); (with_unfolding_all refine' For_turns lF' ?_; k_whole)))
local macro_rules | `(tactic| walk_at "call type:enumerate") => `(tactic| (k_here; (with_reducible show wpAny _ _ (call (Value.type _) [Value.ref _]) (fun xv s₁ => wpAny _ _ (pyIter xv) (fun it s₂ => TurnsAt _ _ _ _ _ _ _ _ _ it s₂) _ s₁) _ _); (rename Fr _ _ _ _ => lF'); (rename News _ _ _ _ => lN'); k_dflt (refine' ktu_enum rfl lF' lN' ?km ?kc ?kd rfl ?_; (case km => k_mem); (case kc => exact rfl); (case kd => exact rfl))))
local macro_rules | `(tactic| walk_at "ItemsRest") => `(tactic| (refine opq_of ?_))
local macro_rules | `(tactic| walk_at "execs cons") => `(tactic| (refine opq_of ?_))
local macro_rules | `(tactic| k_ne) => `(tactic| (refine neN ?_; (try dsimp only); first | (with_reducible assumption) | exact Ne.symm (by with_reducible assumption)))
local macro_rules | `(tactic| k_all) => `(tactic| assumption)
noncomputable def Rw.kv (r : Rw) : Str × Str := (r.k, r.v)
noncomputable def innerL (side wheel unit white hue kk : Int) : Nat → List Int → List (Str × Str)
  | _, [] => []
  | j, way :: r => (nameOf ((kk + (j : Int)).fmod 2 == 1) ((hue + way).fmod wheel), textOf ((hue + way).fmod wheel) unit white side) :: innerL side wheel unit white hue kk (j + 1) r
noncomputable def innerBits (wheel hue : Int) : Int → List Int → Int
  | b, [] => b
  | b, way :: r => innerBits wheel hue (Builtin.bitOr b (1 * 2 ^ ((hue + way).fmod wheel).toNat)) r
theorem news_mid {h₀ h : Heap} {L : Addr} {X A R : List (Addr × Obj)} (N : News h₀ L h (X ++ (A ++ R))) : News h₀ L h (A ++ (X ++ R)) := fun p hp => N p (by
  simp only [List.mem_append] at hp ⊢; rcases hp with h | h | h <;> simp [h])
theorem news_perm1 {h₀ h : Heap} {L : Addr} {X A I B F T : List (Addr × Obj)} (N : News h₀ L h (X ++ (A ++ (I ++ (B ++ (F ++ T)))))) : News h₀ L h (I ++ (A ++ (B ++ (F ++ (X ++ T))))) := fun p hp => N p (by
  simp only [List.mem_append] at hp ⊢; rcases hp with h | h | h | h | h | h <;> simp [h])
theorem ne_tup {h₀ h : Heap} {L b : Addr} {o' : Obj} {news tups : List (Addr × Obj)} (N : News h₀ L h news) (ht : ∀ p ∈ tups, p.2.cls = .type "tuple" ∧ ∃ xs k, p.2.data = .seq xs k) (hs : ∀ p ∈ tups, p ∈ news) (h2 : (b, o') ∈ news) (hc : o'.cls ≠ .type "tuple") : ∀ p ∈ tups, p.1 ≠ b := fun p hp =>
  ne_cls N (o := p.2) (hs p hp) h2 (by rw [(ht p hp).1]; exact fun e => hc e.symm)
theorem ne_tupC {h₀ h : Heap} {L b : Addr} {o' : Obj} {v : Option Value} {news tups : List (Addr × Obj)} (N : News h₀ L h news) (ht : ∀ p ∈ tups, p.2.cls = .type "tuple" ∧ ∃ xs k, p.2.data = .seq xs k) (hs : ∀ p ∈ tups, p ∈ news) (h2 : (b, o') ∈ news) (hc : o'.data = .cell v) : ∀ p ∈ tups, p.1 ≠ b := fun p hp =>
  ne_data N (o := p.2) (hs p hp) h2 (by obtain ⟨_, xs, k, e⟩ := ht p hp; rw [e, hc]; exact fun e => nomatch e)
theorem push_rw {R : List Rw} {a : Addr} (q : Rw) (e : q.a = a) : (R.map Rw.ref).toArray.push (.ref a) = ((R ++ [q]).map Rw.ref).toArray := by subst e; simp [Rw.ref]
theorem ap_lt {I : Addr} {o1 o2 : Obj} {p : Addr × Obj} (h : @LT.lt Nat _ p.1 I) : ∀ q ∈ [(I + 1, o1), (I, o2)], p.1 ≠ q.1 := by
  intro q hq
  rcases List.mem_cons.mp hq with e | hq
  · rw [e]; exact Nat.ne_of_lt (Nat.lt_succ_of_lt h)
  · rw [List.mem_singleton.mp hq]; exact Nat.ne_of_lt h
theorem forall_app {P : Addr × Obj → Prop} {a b : List (Addr × Obj)} (ha : ∀ p ∈ a, P p) (hb : ∀ p ∈ b, P p) : ∀ p ∈ a ++ b, P p := fun p hp => (List.mem_append.mp hp).elim (ha p) (hb p)
inductive InnerJ (side wheel hue unit white kk bits : Int) (bs : List Int) (m : Str → Option Value) (tb dx lh rl bl L : Addr) (hs : Int) (tk₀ : Tok) (nd bn : Nat) (rows rows2 : List Rw) (o1 o2 o3 o4 o6 : Obj) (bv : List Value) (fixed tups : List (Addr × Obj)) (xs : List Itm) (m' : Str → Option Value) (nn : List (Addr × Obj)) : Prop
  | mk (j : Nat) (rest : List Value) (restI : List Int) (bt : Int) (t : Tok) (rows' rows2' : List Rw) (n' rn' : Nat) (o5' : Obj) (tups' : List (Addr × Obj)) (q0 : IntsAre rest restI) (q1 : xs = enumItems j rest) (q2 : (∀ z, z ∉ [(Str.ofString "j"), (Str.ofString "way"), (Str.ofString "odd"), (Str.ofString "size"), (Str.ofString "turned"), (Str.ofString "due")] → m' z = m z)) (q3 : nn = (tb, instObj 182 dx) :: (dx, dictOf [⟨hs, .str (Str.ofString "_headers") tk₀, .ref lh⟩] nd) :: (lh, listOf (rows'.map Rw.ref).toArray n') :: (rl, listOf (rows2'.map Rw.ref).toArray rn') :: (L + 1 + 1 + 1 + 1 + 1, o5') :: (L + 1, o1) :: (L + 1 + 1, o2) :: (L + 1 + 1 + 1 + 1, o4) :: (L + 1 + 1 + 1 + 1 + 1 + 1, o6) :: (L + 1 + 1 + 1, o3) :: (bl, listOf bv.toArray bn) :: (fixed ++ tups')) (q4 : o5'.data = .cell (some (.int bt t))) (q5 : innerBits wheel hue bt restI = innerBits wheel hue bits bs) (q6 : (∀ p ∈ tups', p.2.cls = .type "tuple" ∧ ∃ xs k, p.2.data = .seq xs k)) (q7 : (∀ r ∈ rows', r.ent ∈ tups')) (q8 : (∀ r ∈ rows2', r.ent ∈ tups')) (q9 : tups ⊆ tups') (q10 : rows'.map Rw.kv ++ innerL side wheel unit white hue kk j restI = rows.map Rw.kv ++ innerL side wheel unit white hue kk 0 bs) (q11 : rows2'.map Rw.kv ++ innerL side wheel unit white hue kk j restI = rows2.map Rw.kv ++ innerL side wheel unit white hue kk 0 bs) (q12 : (∀ x ∈ restI, 0 ≤ x ∧ x < wheel)) (q13 : j + rest.length ≤ 4) (q14 : rows'.length + rest.length ≤ 104) (q15 : rows2'.length + rest.length ≤ 104) : InnerJ side wheel hue unit white kk bits bs m tb dx lh rl bl L hs tk₀ nd bn rows rows2 o1 o2 o3 o4 o6 bv fixed tups xs m' nn
theorem inner_loop (w : World) {fa : Addr} {cd : Value} {dp un : Nat} {gd : Option (List Code)} {outer : List Env} {A₀ : Around} {base h₀ h₁ : Heap} {L : Addr} {s : Shared} {tk : Nat} {Q : Flow → Shared → Prop}
    {p : Program} {loose : List Str} {mean : ExcName → Option Value} {mg mb : Str → Option Value} {m : Str → Option Value}
    (B : Below A₀ base outer h₀) (X : (K w.params).In h₀) (T : Top p loose mean mg mb h₀) (hdp : dp + 20 < recursionLimit) (hun : un + 200 < cLine) (F : Fr h₀ L h₁ m)
    {side wheel hue unit white kk bits : Int} {t1 t4 t5 t6 t7 t8 t9 : Tok} {tb dx lh rl bl : Addr} {hs : Int} {tk₀ : Tok} {nd n rn bn : Nat} {rows rows2 : List Rw} {o1 o2 o3 o4 o5 o6 : Obj} {bv : List Value} {bs : List Int} {fixed tups : List (Addr × Obj)}
    (mk : m (Str.ofString "k") = some (.int kk t1)) (mu : m (Str.ofString "unit") = some (.int unit t4)) (mw : m (Str.ofString "white") = some (.int white t5)) (mr : m (Str.ofString "row") = some (.ref rl))
    (d1 : o1.data = .cell (some (.int side t6))) (d2 : o2.data = .cell (some (.int wheel t7))) (d3 : o3.data = .cell (some (.ref bl))) (d4 : o4.data = .cell (some (.ref tb))) (d5 : o5.data = .cell (some (.int bits t8))) (d6 : o6.data = .cell (some (.int hue t9)))
    (hsd : 1 ≤ side ∧ side ≤ 3) (hW : 6 * side = wheel) (hh : 0 ≤ hue ∧ hue < wheel) (hu : 1 ≤ unit ∧ unit ≤ 3) (hwh : 0 ≤ white ∧ white ≤ 6) (hk0 : 0 ≤ kk ∧ kk ≤ 3)
    (hbv : IntsAre bv bs) (hbs : ∀ x ∈ bs, 0 ≤ x ∧ x < wheel) (hbl : bs.length ≤ 4)
    (hsz : rows.length ≤ 100) (hrz : rows2.length ≤ 100)
    (N : News h₀ L h₁ ((tb, instObj 182 dx) :: (dx, dictOf [⟨hs, .str (Str.ofString "_headers") tk₀, .ref lh⟩] nd) :: (lh, listOf (rows.map Rw.ref).toArray n) :: (rl, listOf (rows2.map Rw.ref).toArray rn) :: (L + 1 + 1 + 1 + 1 + 1, o5) :: (L + 1, o1) :: (L + 1 + 1, o2) :: (L + 1 + 1 + 1 + 1, o4) :: (L + 1 + 1 + 1 + 1 + 1 + 1, o6) :: (L + 1 + 1 + 1, o3) :: (bl, listOf bv.toArray bn) :: (fixed ++ tups)))
    (n1 : @Ne Nat tb lh) (n2 : @Ne Nat dx lh) (n3 : @Ne Nat rl lh) (n4 : @Ne Nat tb rl) (n5 : @Ne Nat dx rl) (n6 : @Ne Nat bl lh) (n7 : @Ne Nat bl rl)
    (c1 : @Ne Nat lh (L + 1)) (c2 : @Ne Nat lh (L + 1 + 1)) (c3 : @Ne Nat lh (L + 1 + 1 + 1)) (c4 : @Ne Nat lh (L + 1 + 1 + 1 + 1)) (c5 : @Ne Nat lh (L + 1 + 1 + 1 + 1 + 1)) (c6 : @Ne Nat lh (L + 1 + 1 + 1 + 1 + 1 + 1))
    (e1 : @Ne Nat rl (L + 1)) (e2 : @Ne Nat rl (L + 1 + 1)) (e3 : @Ne Nat rl (L + 1 + 1 + 1)) (e4 : @Ne Nat rl (L + 1 + 1 + 1 + 1)) (e5 : @Ne Nat rl (L + 1 + 1 + 1 + 1 + 1)) (e6 : @Ne Nat rl (L + 1 + 1 + 1 + 1 + 1 + 1)) (f1 : @Ne Nat tb (L + 1 + 1 + 1 + 1 + 1)) (f2 : @Ne Nat dx (L + 1 + 1 + 1 + 1 + 1)) (f3 : @Ne Nat bl (L + 1 + 1 + 1 + 1 + 1))
    (c35 : @Ne Nat (L + 1 + 1 + 1) (L + 1 + 1 + 1 + 1 + 1)) (r1 : ∀ p ∈ fixed, p.1 ≠ lh) (r2 : ∀ p ∈ fixed, p.1 ≠ rl) (r3 : ∀ p ∈ fixed, p.1 ≠ L + 1 + 1 + 1 + 1 + 1)
    (ht : ∀ p ∈ tups, p.2.cls = .type "tuple" ∧ ∃ xs k, p.2.data = .seq xs k) (hr1 : ∀ r ∈ rows, r.ent ∈ tups) (hr2 : ∀ r ∈ rows2, r.ent ∈ tups)
    (k : ∀ m' h' tk' (rows' rows2' : List Rw) n' rn' o5' tups' t, Fr h₀ L h' m' → (∀ z, z ∉ [(Str.ofString "j"), (Str.ofString "way"), (Str.ofString "odd"), (Str.ofString "size"), (Str.ofString "turned"), (Str.ofString "due")] → m' z = m z) → o5'.data = .cell (some (.int (innerBits wheel hue bits bs) t)) →
      News h₀ L h' ((tb, instObj 182 dx) :: (dx, dictOf [⟨hs, .str (Str.ofString "_headers") tk₀, .ref lh⟩] nd) :: (lh, listOf (rows'.map Rw.ref).toArray n') :: (rl, listOf (rows2'.map Rw.ref).toArray rn') :: (L + 1 + 1 + 1 + 1 + 1, o5') :: (L + 1, o1) :: (L + 1 + 1, o2) :: (L + 1 + 1 + 1 + 1, o4) :: (L + 1 + 1 + 1 + 1 + 1 + 1, o6) :: (L + 1 + 1 + 1, o3) :: (bl, listOf bv.toArray bn) :: (fixed ++ tups')) → (∀ p ∈ tups', p.2.cls = .type "tuple" ∧ ∃ xs k, p.2.data = .seq xs k) → (∀ r ∈ rows', r.ent ∈ tups') → (∀ r ∈ rows2', r.ent ∈ tups') → tups ⊆ tups' →
      rows'.map Rw.kv = rows.map Rw.kv ++ innerL side wheel unit white hue kk 0 bs → rows2'.map Rw.kv = rows2.map Rw.kv ++ innerL side wheel unit white hue kk 0 bs → Q .next { s with heap := h', toks := tk' }) :
    wpAny (model rw0.row.prog w) (Ar dp un gd (envOfC (Str.ofString "law") lawS.1 L fa cd) outer) (exec inF.1 (envOfC (Str.ofString "law") lawS.1 L fa cd)) Q (fun _ _ => False) { s with heap := h₁, toks := tk } := by
  dsimp only [lawS, inF]
  k_steps
  constructor
  rename_i I hI
  refine items_inv (InnerJ side wheel hue unit white kk bits bs m tb dx lh rl bl L hs tk₀ nd bn rows rows2 o1 o2 o3 o4 o6 bv fixed tups) ?step ?fin _ _ _
    ⟨0, bv, bs, bits, t8, rows, rows2, n, rn, o5, tups, hbv, rfl, fun _ _ => rfl, rfl, d5, rfl, ht, hr1, hr2, fun _ h => h, rfl, rfl, hbs, by have := hbv.length; omega, by have := hbv.length; omega, by have := hbv.length; omega⟩
  · ((repeat ((rename Fr _ _ _ _ => fOld); clear fOld)); (repeat ((rename News _ _ _ _ => nOld); clear nOld)))
    try dsimp only
    rintro a r m' nn ⟨j, rest, restI, bt, t, rows', rows2', n', rn', o5', tups', i1, u1, u3, u4, d5', g1, ht', hr1', hr2', hsub, g2, g3, hb', z1, z2, z3⟩ v h tk hv F
    cases i1 with
    | nil => cases u1
    | cons way t' i1 =>
      rename_i rest restI
      obtain ⟨rfl, rfl⟩ := List.cons.inj u1
      obtain ⟨T', t2', rfl, hT⟩ := hv
      refine AllObj.cons (fun q1 hc1 => AllObj.cons (fun q2 hc2 => AllObj.nil (fun N => ?_)))
      subst u4
      simp only [List.length_cons] at z1 z2 z3
      have hway := hb' way (.head _)
      have mk' := (u3 (Str.ofString "k") (by decide)).trans mk
      have mu' := (u3 (Str.ofString "unit") (by decide)).trans mu
      have mw' := (u3 (Str.ofString "white") (by decide)).trans mw
      have mr' := (u3 (Str.ofString "row") (by decide)).trans mr
      k_steps
      constructor
      (rename Fr _ _ _ _ => F2)
      (rename News _ _ _ _ => N2)
      dsimp only [List.cons_append, List.nil_append] at N2
      have hI1 : ∀ p ∈ fixed, @LT.lt Nat _ p.1 I := fun p hp => hI p (by simp [hp])
      have llh : @LT.lt Nat _ lh I := hI (lh, _) (by k_mem)
      have lrl : @LT.lt Nat _ rl I := hI (rl, _) (by k_mem)
      have l5 : @LT.lt Nat _ (L + 1 + 1 + 1 + 1 + 1) I := hI (L + 1 + 1 + 1 + 1 + 1, _) (by k_mem)
      have x1 := ne_tup N2 ht' (fun p hp => by simp [hp]) (b := lh) (by k_mem) (show Value.type "list" ≠ Value.type "tuple" by decide)
      have x2 := ne_tup N2 ht' (fun p hp => by simp [hp]) (b := rl) (by k_mem) (show Value.type "list" ≠ Value.type "tuple" by decide)
      have x3 := ne_tupC N2 ht' (fun p hp => by simp [hp]) (b := L + 1 + 1 + 1 + 1 + 1) (by k_mem) d5'
      have N3 := news_mid (X := [_, _]) (A := [_, _, _, _, _, _, _, _, _]) N2
      dsimp only [List.cons_append, List.nil_append] at N3
      with_unfolding_all refine turn_body w B X T hdp hun F2 mk' rfl rfl mu' mw' mr' d1 d2 d4 d5' d6 hsd hW hh hu hwh hway hk0 ⟨Int.natCast_nonneg j, by omega⟩ (by simp; omega) (by simp; omega) N3 n1 n2 n3 n4 n5 c1 c2 c4 c5 c6 e1 e2 e4 e5 e6 f1 f2 (List.forall_mem_cons.2 ⟨Nat.ne_of_gt (Nat.lt_succ_of_lt llh), List.forall_mem_cons.2 ⟨Nat.ne_of_gt llh, List.forall_mem_cons.2 ⟨Ne.symm c3, List.forall_mem_cons.2 ⟨n6, forall_app r1 x1⟩⟩⟩⟩) (List.forall_mem_cons.2 ⟨Nat.ne_of_gt (Nat.lt_succ_of_lt lrl), List.forall_mem_cons.2 ⟨Nat.ne_of_gt lrl, List.forall_mem_cons.2 ⟨Ne.symm e3, List.forall_mem_cons.2 ⟨n7, forall_app r2 x2⟩⟩⟩⟩) (List.forall_mem_cons.2 ⟨Nat.ne_of_gt (Nat.lt_succ_of_lt l5), List.forall_mem_cons.2 ⟨Nat.ne_of_gt l5, List.forall_mem_cons.2 ⟨c35, List.forall_mem_cons.2 ⟨f3, forall_app r3 x3⟩⟩⟩⟩) ?_
      intro m2 h2 tk2 a b n2 rn2 o5'' tn tv tn2 tv2 t3 F3 hm2 d5'' N4
      have N5 := news_perm1 (X := [_, _]) (A := [_, _, _, _, _, _, _, _, _]) (I := [_, _]) (B := [_, _]) (F := fixed) (T := tups') N4
      dsimp only [List.cons_append, List.nil_append] at N5
      rw [push_rw (a := a) ⟨a, nameOf ((kk + (j : Int)).fmod 2 == 1) ((hue + way).fmod wheel), tn, textOf ((hue + way).fmod wheel) unit white side, tv⟩ rfl, push_rw (a := b) ⟨b, nameOf ((kk + (j : Int)).fmod 2 == 1) ((hue + way).fmod wheel), tn2, textOf ((hue + way).fmod wheel) unit white side, tv2⟩ rfl] at N5
      have ht'' : ∀ p ∈ (a, tup2 (nameOf ((kk + (j : Int)).fmod 2 == 1) ((hue + way).fmod wheel)) tn (textOf ((hue + way).fmod wheel) unit white side) tv) :: (b, tup2 (nameOf ((kk + (j : Int)).fmod 2 == 1) ((hue + way).fmod wheel)) tn2 (textOf ((hue + way).fmod wheel) unit white side) tv2) :: tups', p.2.cls = .type "tuple" ∧ ∃ xs k, p.2.data = .seq xs k :=
        List.forall_mem_cons.2 ⟨⟨rfl, _, _, rfl⟩, List.forall_mem_cons.2 ⟨⟨rfl, _, _, rfl⟩, ht'⟩⟩
      have ya := ne_tup N5 ht'' (fun p hp => by simp only [List.mem_cons, List.mem_append] at hp ⊢; rcases hp with e | e | e <;> simp [e]) (b := I + 1) (o' := q1) (.head _) (by rw [hc1]; exact show Value.type "enumerate" ≠ Value.type "tuple" by decide)
      have yb := ne_tup N5 ht'' (fun p hp => by simp only [List.mem_cons, List.mem_append] at hp ⊢; rcases hp with e | e | e <;> simp [e]) (b := I) (o' := q2) (.tail _ (.head _)) (by rw [hc2]; exact show Value.type "list_iterator" ≠ Value.type "tuple" by decide)
      have hta : ∀ p ∈ (a, tup2 (nameOf ((kk + (j : Int)).fmod 2 == 1) ((hue + way).fmod wheel)) tn (textOf ((hue + way).fmod wheel) unit white side) tv) :: (b, tup2 (nameOf ((kk + (j : Int)).fmod 2 == 1) ((hue + way).fmod wheel)) tn2 (textOf ((hue + way).fmod wheel) unit white side) tv2) :: tups', ∀ q ∈ [(I + 1, q1), (I, q2)], p.1 ≠ q.1 := fun p hp q hq => by
        rcases List.mem_cons.mp hq with e | hq
        · rw [e]; exact ya p hp
        · rw [List.mem_singleton.mp hq]; exact yb p hp
      refine ⟨h2, tk2, m2, _, rfl, F3, N5, List.forall_mem_cons.2 ⟨ap_lt (hI (tb, _) (by k_mem)), List.forall_mem_cons.2 ⟨ap_lt (hI (dx, _) (by k_mem)), List.forall_mem_cons.2 ⟨ap_lt llh, List.forall_mem_cons.2 ⟨ap_lt lrl, List.forall_mem_cons.2 ⟨ap_lt l5, List.forall_mem_cons.2 ⟨ap_lt (hI (L + 1, _) (by k_mem)), List.forall_mem_cons.2 ⟨ap_lt (hI (L + 1 + 1, _) (by k_mem)), List.forall_mem_cons.2 ⟨ap_lt (hI (L + 1 + 1 + 1 + 1, _) (by k_mem)), List.forall_mem_cons.2 ⟨ap_lt (hI (L + 1 + 1 + 1 + 1 + 1 + 1, _) (by k_mem)), List.forall_mem_cons.2 ⟨ap_lt (hI (L + 1 + 1 + 1, _) (by k_mem)), List.forall_mem_cons.2 ⟨ap_lt (hI (bl, _) (by k_mem)), forall_app (fun p hp => ap_lt (hI1 p hp)) hta⟩⟩⟩⟩⟩⟩⟩⟩⟩⟩⟩, ⟨by k_mem, trivial⟩, j + 1, rest, restI, _, t3, rows' ++ [_], rows2' ++ [_], n2, rn2, o5'', _, i1, rfl, ?_, rfl, d5'', g1, ht'', ?_, ?_, fun p hp => .tail _ (.tail _ (hsub hp)), ?_, ?_, fun x hx => hb' x (.tail _ hx), by omega, by rw [List.length_append]; simp only [List.length_cons, List.length_nil]; omega, by rw [List.length_append]; simp only [List.length_cons, List.length_nil]; omega⟩
      · intro z hz
        rw [hm2 z (fun hz' => hz (by simp only [List.mem_cons, List.not_mem_nil, or_false] at hz' ⊢; rcases hz' with e | e | e | e <;> simp [e]))]
        have hz2 := hz
        simp only [List.mem_cons, not_or] at hz2
        rw [if_neg hz2.2.1, if_neg hz2.1]
        exact u3 z hz
      · intro r hr
        rcases List.mem_append.mp hr with hr | hr
        · exact .tail _ (.tail _ (hr1' r hr))
        · rw [List.mem_singleton.mp hr]; exact .head _
      · intro r hr
        rcases List.mem_append.mp hr with hr | hr
        · exact .tail _ (.tail _ (hr2' r hr))
        · rw [List.mem_singleton.mp hr]; exact .tail _ (.head _)
      · rw [List.map_append, List.append_assoc]; exact g2
      · rw [List.map_append, List.append_assoc]; exact g3
  · ((repeat ((rename Fr _ _ _ _ => fOld); clear fOld)); (repeat ((rename News _ _ _ _ => nOld); clear nOld)))
    try dsimp only
    rintro m' nn ⟨j, rest, restI, bt, t, rows', rows2', n', rn', o5', tups', i1, u1, u3, u4, d5', g1, ht', hr1', hr2', hsub, g2, g3, hb', z1, z2, z3⟩ h tk F N
    cases rest with
    | cons q r => cases u1
    | nil =>
      cases i1
      subst u4
      rw [show innerL side wheel unit white hue kk j [] = [] from rfl, List.append_nil] at g2 g3
      exact k m' h tk rows' rows2' n' rn' o5' tups' t F u3 (by rw [← g1]; exact d5') N ht' hr1' hr2' hsub g2 g3

end
theorem reset27 : True := by first | walk1 | trivial
section
open PySem PySem.W PySem.Calls PyProof.Rows
set_option maxRecDepth 100000
set_option maxHeartbeats 8000000
theorem fillC24 (w : World) (h : Heap) (X : (K w.params).In h) (e : rw0.foot = 7) : (K w.params).In h ∧ rw0.foot = 7 := by
  k_fill
  exact ⟨X, e⟩
local macro_rules | `(tactic| walk_at "for first") => `(tactic| (k_here; (rename Fr _ _ _ _ => lF'); (with_unfolding_all refine' For_turns lF' ?_; k_whole)))
local macro_rules | `(tactic| walk_at "call type:enumerate") => `(tactic| (k_here; (with_reducible show wpAny _ _ (call (Value.type _) [Value.ref _]) (fun xv s₁ => wpAny _ _ (pyIter xv) (fun it s₂ => TurnsAt _ _ _ _ _ _ _ _ _ it s₂) _ s₁) _ _); (rename Fr _ _ _ _ => lF'); (rename News _ _ _ _ => lN'); k_dflt (refine' ktu_enum rfl lF' lN' ?km ?kc ?kd rfl ?_; (case km => k_mem); (case kc => exact rfl); (case kd => exact rfl))))
local macro_rules | `(tactic| walk_at "ItemsRest") => `(tactic| (refine opq_of ?_))
local macro_rules | `(tactic| walk_at "exec For Tuple Call cons nil") => `(tactic| (refine opq_of ?_))
local macro_rules | `(tactic| walk_at "call builtin:list.append") => `(tactic| ((with_reducible show wpAny _ _ (call (Value.builtin "list.append") _) _ _ _); (refine opq_of ?_)))
local macro_rules | `(tactic| walk_at "binaryOp FloorDiv int int") => `(tactic| (with_reducible refine floordiv_int (by assumption) ?_ (Or.inl (PyProof.noPylong_small (by omega)))))
local macro_rules | `(tactic| k_ne) => `(tactic| (refine neN ?_; (try dsimp only); first | (with_reducible assumption) | exact Ne.symm (by with_reducible assumption)))
local macro_rules | `(tactic| k_all) => `(tactic| assumption)
/-- a shade: the tuple of a hue, its unit and its white -/
structure Sh where
  a : Addr
  h : Int
  u : Int
  w : Int
  t1 : Tok
  t2 : Tok
  t3 : Tok
noncomputable abbrev tup3i (h u w : Int) (t1 t2 t3 : Tok) : Obj := { cls := .type "tuple", data := .seq #[.int h t1, .int u t2, .int w t3] }
noncomputable def Sh.ref (r : Sh) : Value := .ref r.a
noncomputable def Sh.ent (r : Sh) : Addr × Obj := (r.a, tup3i r.h r.u r.w r.t1 r.t2 r.t3)
noncomputable def Sh.tr (r : Sh) : Int × Int × Int := (r.h, r.u, r.w)
noncomputable def unitOf (d : Int) (k : Nat) : Int := 1 + (d + (k : Int)).fmod 3
noncomputable def whiteOf (d : Int) (k : Nat) : Int := (d.fdiv 5 + (k : Int)).fmod 7
noncomputable def outerL (side wheel d : Int) (bs : List Int) : Nat → List Int → List (Str × Str)
  | _, [] => []
  | k, hue :: r => innerL side wheel (unitOf d k) (whiteOf d k) hue k 0 bs ++ outerL side wheel d bs (k + 1) r
noncomputable def outerB (wheel : Int) (bs : List Int) : Int → List Int → Int
  | b, [] => b
  | b, hue :: r => outerB wheel bs (innerBits wheel hue b bs) r
noncomputable def shadesL (d : Int) : Nat → List Int → List (Int × Int × Int)
  | _, [] => []
  | k, hue :: r => (hue, unitOf d k, whiteOf d k) :: shadesL d (k + 1) r
theorem innerL_len (side wheel unit white hue kk : Int) : ∀ (bs : List Int) (j : Nat), (innerL side wheel unit white hue kk j bs).length = bs.length
  | [], _ => rfl
  | _ :: r, j => congrArg (· + 1) (innerL_len side wheel unit white hue kk r (j + 1))
theorem push_sh {R : List Sh} {a : Addr} (q : Sh) (e : q.a = a) : (R.map Sh.ref).toArray.push (.ref a) = ((R ++ [q]).map Sh.ref).toArray := by subst e; simp [Sh.ref]
theorem news_perm2 {h₀ h : Heap} {L : Addr} {X A I B F T : List (Addr × Obj)} (N : News h₀ L h (X ++ (I ++ (A ++ (B ++ (F ++ T)))))) : News h₀ L h (A ++ ((I ++ (B ++ F)) ++ (X ++ T))) := fun p hp => N p (by
  simp only [List.mem_append] at hp ⊢; rcases hp with h | (h | h | h) | h | h <;> simp [h])
theorem news_perm3 {h₀ h : Heap} {L : Addr} {A I B F T : List (Addr × Obj)} (N : News h₀ L h (A ++ ((I ++ (B ++ F)) ++ T))) : News h₀ L h (I ++ (A ++ (B ++ (F ++ T)))) := fun p hp => N p (by
  simp only [List.mem_append] at hp ⊢; rcases hp with h | h | h | h | h <;> simp [h])
theorem cells_ne (L : Nat) : (@Ne Nat (L + 1) (L + 1 + 1 + 1 + 1 + 1 + 1) ∧ @Ne Nat (L + 1 + 1) (L + 1 + 1 + 1 + 1 + 1 + 1) ∧ @Ne Nat (L + 1 + 1 + 1) (L + 1 + 1 + 1 + 1 + 1 + 1) ∧ @Ne Nat (L + 1 + 1 + 1 + 1) (L + 1 + 1 + 1 + 1 + 1 + 1) ∧ @Ne Nat (L + 1 + 1 + 1 + 1 + 1) (L + 1 + 1 + 1 + 1 + 1 + 1)) ∧ @Ne Nat (L + 1 + 1 + 1) (L + 1 + 1 + 1 + 1 + 1) := ⟨⟨offs 4 (L + 1), offs 3 (L + 1 + 1), offs 2 (L + 1 + 1 + 1), offs 1 (L + 1 + 1 + 1 + 1), offs 0 (L + 1 + 1 + 1 + 1 + 1)⟩, offs 1 (L + 1 + 1 + 1)⟩
inductive OuterJ (side wheel d bits : Int) (as bs : List Int) (m : Str → Option Value) (tb dx lh rl bl sl fl L : Addr) (hs : Int) (tk₀ : Tok) (nd bn fn : Nat) (rows rows2 : List Rw) (shs : List Sh) (o1 o2 o3 o4 : Obj) (bv fv : List Value) (fixed : List (Addr × Obj)) (xs : List Itm) (m' : Str → Option Value) (nn : List (Addr × Obj)) : Prop
  | mk (kk : Nat) (rest : List Value) (restI : List Int) (bt : Int) (t : Tok) (rows' rows2' : List Rw) (shs' : List Sh) (n' rn' sn' : Nat) (o5' o6' : Obj) (v6' : Option Value) (tups' : List (Addr × Obj)) (q0 : IntsAre rest restI) (q1 : xs = enumItems kk rest) (q2 : (∀ z, z ∉ [(Str.ofString "k"), (Str.ofString "unit"), (Str.ofString "white"), (Str.ofString "j"), (Str.ofString "way"), (Str.ofString "odd"), (Str.ofString "size"), (Str.ofString "turned"), (Str.ofString "due")] → m' z = m z)) (q3 : nn = (tb, instObj 182 dx) :: (dx, dictOf [⟨hs, .str (Str.ofString "_headers") tk₀, .ref lh⟩] nd) :: (lh, listOf (rows'.map Rw.ref).toArray n') :: (rl, listOf (rows2'.map Rw.ref).toArray rn') :: (L + 1 + 1 + 1 + 1 + 1, o5') :: (L + 1, o1) :: (L + 1 + 1, o2) :: (L + 1 + 1 + 1 + 1, o4) :: (L + 1 + 1 + 1 + 1 + 1 + 1, o6') :: (L + 1 + 1 + 1, o3) :: (bl, listOf bv.toArray bn) :: (sl, listOf (shs'.map Sh.ref).toArray sn') :: (fl, listOf fv.toArray fn) :: (fixed ++ tups')) (q4 : o5'.data = .cell (some (.int bt t))) (q5 : o6'.data = .cell v6') (q6 : outerB wheel bs bt restI = outerB wheel bs bits as) (q7 : (∀ p ∈ tups', p.2.cls = .type "tuple" ∧ ∃ xs k, p.2.data = .seq xs k)) (q8 : (∀ r ∈ rows', r.ent ∈ tups')) (q9 : (∀ r ∈ rows2', r.ent ∈ tups')) (q10 : (∀ r ∈ shs', r.ent ∈ tups')) (q11 : rows'.map Rw.kv ++ outerL side wheel d bs kk restI = rows.map Rw.kv ++ outerL side wheel d bs 0 as) (q12 : rows2'.map Rw.kv ++ outerL side wheel d bs kk restI = rows2.map Rw.kv ++ outerL side wheel d bs 0 as) (q13 : shs'.map Sh.tr ++ shadesL d kk restI = shs.map Sh.tr ++ shadesL d 0 as) (q14 : (∀ x ∈ restI, 0 ≤ x ∧ x < wheel)) (q15 : kk + rest.length ≤ 4) (q16 : rows'.length ≤ 4 * kk) (q17 : rows2'.length ≤ 4 * kk) (q18 : shs'.length ≤ kk) : OuterJ side wheel d bits as bs m tb dx lh rl bl sl fl L hs tk₀ nd bn fn rows rows2 shs o1 o2 o3 o4 bv fv fixed xs m' nn
theorem outer_loop (w : World) {fa : Addr} {cd : Value} {dp un : Nat} {gd : Option (List Code)} {outer : List Env} {A₀ : Around} {base h₀ h₁ : Heap} {L : Addr} {s : Shared} {tk : Nat} {Q : Flow → Shared → Prop}
    {p : Program} {loose : List Str} {mean : ExcName → Option Value} {mg mb : Str → Option Value} {m : Str → Option Value}
    (B : Below A₀ base outer h₀) (X : (K w.params).In h₀) (T : Top p loose mean mg mb h₀) (hdp : dp + 20 < recursionLimit) (hun : un + 200 < cLine) (F : Fr h₀ L h₁ m)
    {side wheel d bits : Int} {t6 t7 t8 td : Tok} {tb dx lh rl bl sl fl : Addr} {hs : Int} {tk₀ : Tok} {nd n rn bn sn fn : Nat} {rows rows2 : List Rw} {shs : List Sh} {o1 o2 o3 o4 o5 o6 : Obj} {v6 : Option Value} {bv fv : List Value} {as bs : List Int} {fixed tups : List (Addr × Obj)}
    (md : m (Str.ofString "drawn") = some (.int d td)) (mf : m (Str.ofString "first") = some (.ref fl)) (mr : m (Str.ofString "row") = some (.ref rl)) (ms : m (Str.ofString "shades") = some (.ref sl))
    (d1 : o1.data = .cell (some (.int side t6))) (d2 : o2.data = .cell (some (.int wheel t7))) (d3 : o3.data = .cell (some (.ref bl))) (d4 : o4.data = .cell (some (.ref tb))) (d5 : o5.data = .cell (some (.int bits t8))) (d6 : o6.data = .cell v6)
    (hsd : 1 ≤ side ∧ side ≤ 3) (hW : 6 * side = wheel) (hd0 : 0 ≤ d) (hd1 : d < 1000000)
    (hbv : IntsAre bv bs) (hbs : ∀ x ∈ bs, 0 ≤ x ∧ x < wheel) (hbl : bs.length ≤ 4) (hfv : IntsAre fv as) (has : ∀ x ∈ as, 0 ≤ x ∧ x < wheel) (hal : as.length ≤ 4)
    (hsz : rows.length ≤ 0) (hrz : rows2.length ≤ 0) (hshz : shs.length ≤ 0)
    (N : News h₀ L h₁ ((tb, instObj 182 dx) :: (dx, dictOf [⟨hs, .str (Str.ofString "_headers") tk₀, .ref lh⟩] nd) :: (lh, listOf (rows.map Rw.ref).toArray n) :: (rl, listOf (rows2.map Rw.ref).toArray rn) :: (L + 1 + 1 + 1 + 1 + 1, o5) :: (L + 1, o1) :: (L + 1 + 1, o2) :: (L + 1 + 1 + 1 + 1, o4) :: (L + 1 + 1 + 1 + 1 + 1 + 1, o6) :: (L + 1 + 1 + 1, o3) :: (bl, listOf bv.toArray bn) :: (sl, listOf (shs.map Sh.ref).toArray sn) :: (fl, listOf fv.toArray fn) :: (fixed ++ tups)))
    (n1 : @Ne Nat tb lh) (n2 : @Ne Nat dx lh) (n3 : @Ne Nat rl lh) (n4 : @Ne Nat tb rl) (n5 : @Ne Nat dx rl) (n6 : @Ne Nat bl lh) (n7 : @Ne Nat bl rl) (n8 : @Ne Nat fl lh) (n9 : @Ne Nat fl rl) (n10 : @Ne Nat sl lh) (n11 : @Ne Nat sl rl) (n12 : @Ne Nat tb sl) (n13 : @Ne Nat dx sl) (n14 : @Ne Nat lh sl) (n15 : @Ne Nat rl sl) (n16 : @Ne Nat bl sl) (n17 : @Ne Nat fl sl) (c1 : @Ne Nat lh (L + 1)) (c2 : @Ne Nat lh (L + 1 + 1)) (c3 : @Ne Nat lh (L + 1 + 1 + 1)) (c4 : @Ne Nat lh (L + 1 + 1 + 1 + 1)) (c5 : @Ne Nat lh (L + 1 + 1 + 1 + 1 + 1)) (c6 : @Ne Nat lh (L + 1 + 1 + 1 + 1 + 1 + 1)) (e1 : @Ne Nat rl (L + 1)) (e2 : @Ne Nat rl (L + 1 + 1)) (e3 : @Ne Nat rl (L + 1 + 1 + 1)) (e4 : @Ne Nat rl (L + 1 + 1 + 1 + 1)) (e5 : @Ne Nat rl (L + 1 + 1 + 1 + 1 + 1)) (e6 : @Ne Nat rl (L + 1 + 1 + 1 + 1 + 1 + 1)) (g1 : @Ne Nat sl (L + 1)) (g2 : @Ne Nat sl (L + 1 + 1)) (g3 : @Ne Nat sl (L + 1 + 1 + 1)) (g4 : @Ne Nat sl (L + 1 + 1 + 1 + 1)) (g5 : @Ne Nat sl (L + 1 + 1 + 1 + 1 + 1)) (g6 : @Ne Nat sl (L + 1 + 1 + 1 + 1 + 1 + 1)) (f1 : @Ne Nat tb (L + 1 + 1 + 1 + 1 + 1)) (f2 : @Ne Nat dx (L + 1 + 1 + 1 + 1 + 1)) (f3 : @Ne Nat bl (L + 1 + 1 + 1 + 1 + 1)) (f4 : @Ne Nat fl (L + 1 + 1 + 1 + 1 + 1)) (h1 : @Ne Nat tb (L + 1 + 1 + 1 + 1 + 1 + 1)) (h2 : @Ne Nat dx (L + 1 + 1 + 1 + 1 + 1 + 1)) (h3 : @Ne Nat bl (L + 1 + 1 + 1 + 1 + 1 + 1)) (h4 : @Ne Nat fl (L + 1 + 1 + 1 + 1 + 1 + 1))
    (r1 : ∀ p ∈ fixed, p.1 ≠ lh) (r2 : ∀ p ∈ fixed, p.1 ≠ rl) (r3 : ∀ p ∈ fixed, p.1 ≠ L + 1 + 1 + 1 + 1 + 1) (r4 : ∀ p ∈ fixed, p.1 ≠ sl) (r5 : ∀ p ∈ fixed, p.1 ≠ L + 1 + 1 + 1 + 1 + 1 + 1)
    (ht : ∀ p ∈ tups, p.2.cls = .type "tuple" ∧ ∃ xs k, p.2.data = .seq xs k) (hr1 : ∀ r ∈ rows, r.ent ∈ tups) (hr2 : ∀ r ∈ rows2, r.ent ∈ tups) (hr3 : ∀ r ∈ shs, r.ent ∈ tups)
    (k : ∀ m' h' tk' (rows' rows2' : List Rw) (shs' : List Sh) n' rn' sn' o5' o6' v6' tups' t, Fr h₀ L h' m' → (∀ z, z ∉ [(Str.ofString "k"), (Str.ofString "unit"), (Str.ofString "white"), (Str.ofString "j"), (Str.ofString "way"), (Str.ofString "odd"), (Str.ofString "size"), (Str.ofString "turned"), (Str.ofString "due")] → m' z = m z) → o5'.data = .cell (some (.int (outerB wheel bs bits as) t)) → o6'.data = .cell v6' →
      News h₀ L h' ((tb, instObj 182 dx) :: (dx, dictOf [⟨hs, .str (Str.ofString "_headers") tk₀, .ref lh⟩] nd) :: (lh, listOf (rows'.map Rw.ref).toArray n') :: (rl, listOf (rows2'.map Rw.ref).toArray rn') :: (L + 1 + 1 + 1 + 1 + 1, o5') :: (L + 1, o1) :: (L + 1 + 1, o2) :: (L + 1 + 1 + 1 + 1, o4) :: (L + 1 + 1 + 1 + 1 + 1 + 1, o6') :: (L + 1 + 1 + 1, o3) :: (bl, listOf bv.toArray bn) :: (sl, listOf (shs'.map Sh.ref).toArray sn') :: (fl, listOf fv.toArray fn) :: (fixed ++ tups')) → (∀ p ∈ tups', p.2.cls = .type "tuple" ∧ ∃ xs k, p.2.data = .seq xs k) → (∀ r ∈ rows', r.ent ∈ tups') → (∀ r ∈ rows2', r.ent ∈ tups') → (∀ r ∈ shs', r.ent ∈ tups') →
      rows'.map Rw.kv = rows.map Rw.kv ++ outerL side wheel d bs 0 as → rows2'.map Rw.kv = rows2.map Rw.kv ++ outerL side wheel d bs 0 as → shs'.map Sh.tr = shs.map Sh.tr ++ shadesL d 0 as → Q .next { s with heap := h', toks := tk' }) :
    wpAny (model rw0.row.prog w) (Ar dp un gd (envOfC (Str.ofString "law") lawS.1 L fa cd) outer) (exec outF.1 (envOfC (Str.ofString "law") lawS.1 L fa cd)) Q (fun _ _ => False) { s with heap := h₁, toks := tk } := by
  dsimp only [lawS, outF]
  obtain ⟨⟨k1, k2, k3, k4, k5⟩, k35⟩ := cells_ne L
  have F1 := fr_fix F (Str.ofString "first") _ mf
  clear F
  have F := F1
  clear F1
  walk_at "for first"
  k_steps
  constructor
  rename_i I hI
  refine items_inv (OuterJ side wheel d bits as bs m tb dx lh rl bl sl fl L hs tk₀ nd bn fn rows rows2 shs o1 o2 o3 o4 bv fv fixed) ?step ?fin _ _ _
    ⟨0, fv, as, bits, t8, rows, rows2, shs, n, rn, sn, o5, o6, v6, tups, hfv, rfl, fun z _ => by
      split
      · rename_i e; rw [e, mf]
      · rfl, rfl, d5, d6, rfl, ht, hr1, hr2, hr3, rfl, rfl, rfl, has, by have := hfv.length; omega, by omega, by omega, by omega⟩
  · ((repeat ((rename Fr _ _ _ _ => fOld); clear fOld)); (repeat ((rename News _ _ _ _ => nOld); clear nOld)))
    try dsimp only
    rintro a r m' nn ⟨kk, rest, restI, bt, t, rows', rows2', shs', n', rn', sn', o5', o6', v6', tups', i1, u1, u3, u4, d5', d6', q1, ht', hr1', hr2', hr3', q2, q3, q4, ha', z1, z2, z3, z4⟩ v h tk hv F
    cases i1 with
    | nil => cases u1
    | cons hue t' i1 =>
      rename_i rest restI
      obtain ⟨rfl, rfl⟩ := List.cons.inj u1
      obtain ⟨T', t2', rfl, hT⟩ := hv
      refine AllObj.cons (fun w1 hc1 => AllObj.cons (fun w2 hc2 => AllObj.nil (fun N => ?_)))
      subst u4
      simp only [List.length_cons] at z1
      have hhue := ha' hue (.head _)
      have F1 := fr_fix F (Str.ofString "drawn") _ ((u3 (Str.ofString "drawn") (by decide)).trans md)
      have F2 := fr_fix F1 (Str.ofString "shades") _ ((u3 (Str.ofString "shades") (by decide)).trans ms)
      clear F F1
      dsimp only [List.cons_append, List.nil_append] at N
      have x6 := forall_app r5 (ne_tupC N ht' (fun p hp => by simp [hp]) (b := L + 1 + 1 + 1 + 1 + 1 + 1) (by k_mem) d6')
      have l6 : @LT.lt Nat _ (L + 1 + 1 + 1 + 1 + 1 + 1) I := hI (L + 1 + 1 + 1 + 1 + 1 + 1, _) (by k_mem)
      have y1 : @Ne Nat (I + 1) (L + 1 + 1 + 1 + 1 + 1 + 1) := Nat.ne_of_gt (Nat.lt_succ_of_lt l6)
      have hI1 : ∀ p ∈ fixed, @LT.lt Nat _ p.1 I := fun p hp => hI p (by simp [hp])
      have llh : @LT.lt Nat _ lh I := hI (lh, _) (by k_mem)
      have lrl : @LT.lt Nat _ rl I := hI (rl, _) (by k_mem)
      have lsl : @LT.lt Nat _ sl I := hI (sl, _) (by k_mem)
      have l5 : @LT.lt Nat _ (L + 1 + 1 + 1 + 1 + 1) I := hI (L + 1 + 1 + 1 + 1 + 1, _) (by k_mem)
      have y3 : @Ne Nat (I + 1) sl := Nat.ne_of_gt (Nat.lt_succ_of_lt lsl)
      have y4 : @Ne Nat I sl := Nat.ne_of_gt lsl
      have xsl := ne_tup N ht' (fun p hp => by simp [hp]) (b := sl) (by k_mem) (show Value.type "list" ≠ Value.type "tuple" by decide)
      have hshz' : (shs'.map Sh.ref).toArray.size ≤ sizeLine := by rw [sizeLine_eq]; simp; omega
      have hrl : rows'.length ≤ 100 := by omega
      have hrl2 : rows2'.length ≤ 100 := by omega
      have hk3 : (kk : Int) ≤ 3 := by omega
      have hu0 := Int.fmod_nonneg_of_pos (d + (kk : Int)) (show (0:Int) < 3 by decide)
      have hu1 := Int.fmod_lt_of_pos (d + (kk : Int)) (show (0:Int) < 3 by decide)
      have hv0 := Int.fmod_nonneg_of_pos (d.fdiv 5 + (kk : Int)) (show (0:Int) < 7 by decide)
      have hv1 := Int.fmod_lt_of_pos (d.fdiv 5 + (kk : Int)) (show (0:Int) < 7 by decide)
      have hu : 1 ≤ (1 + (d + (kk : Int)).fmod 3) ∧ (1 + (d + (kk : Int)).fmod 3) ≤ 3 := by omega
      have hwh : 0 ≤ ((d.fdiv 5 + (kk : Int)).fmod 7) ∧ ((d.fdiv 5 + (kk : Int)).fmod 7) ≤ 6 := by omega
      have y2 : @Ne Nat I (L + 1 + 1 + 1 + 1 + 1 + 1) := Nat.ne_of_gt l6
      k_steps
      constructor
      (rename Fr _ _ _ _ => F2)
      (rename News _ _ _ _ => N2)
      rename_i D hDo lD
      (rename Obj => o6n)
      (rename _ = Data.cell (some (Value.int hue _)) => d6'')
      obtain ⟨ta, tc, N7⟩ : ∃ ta tc : Tok, News h₀ L hDo ((D, tup3i hue (1 + (d + (kk : Int)).fmod 3) ((d.fdiv 5 + (kk : Int)).fmod 7) t' ta tc) :: (I + 1, w1) :: (I, w2) :: (tb, instObj 182 dx) :: (dx, dictOf [⟨hs, .str (Str.ofString "_headers") tk₀, .ref lh⟩] nd) :: (lh, listOf (rows'.map Rw.ref).toArray n') :: (rl, listOf (rows2'.map Rw.ref).toArray rn') :: (L + 1 + 1 + 1 + 1 + 1, o5') :: (L + 1, o1) :: (L + 1 + 1, o2) :: (L + 1 + 1 + 1 + 1, o4) :: (L + 1 + 1 + 1 + 1 + 1 + 1, o6n) :: (L + 1 + 1 + 1, o3) :: (bl, listOf bv.toArray bn) :: (sl, listOf (shs'.map Sh.ref).toArray sn') :: (fl, listOf fv.toArray fn) :: (fixed ++ tups')) := ⟨_, _, news_drop2 N2⟩
      have hb1 := ne_cls (b := sl) N7 (.head _) (by k_mem) (show Value.type "tuple" ≠ Value.type "list" by decide)
      refine append_K F2 N7 (Upd.tail hb1 (Upd.tail y3 (Upd.tail y4 (Upd.tail n12 (Upd.tail n13 (Upd.tail n14 (Upd.tail n15 (Upd.tail (Ne.symm g5) (Upd.tail (Ne.symm g1) (Upd.tail (Ne.symm g2) (Upd.tail (Ne.symm g4) (Upd.tail (Ne.symm g6) (Upd.tail (Ne.symm g3) (Upd.tail n16 (Upd.head (List.forall_mem_cons.2 ⟨n17, forall_app r4 xsl⟩)))))))))))))))) (fun h7 F7 N6 => ?_) hshz'
      clear N7 N2 F2
      k_steps
      constructor
      (rename Fr _ _ _ _ => F9)
      (rename News _ _ _ _ => N9)
      have N10 := news_perm2 (X := [_]) (I := [_, _]) (A := [_, _, _, _, _, _, _, _, _, _, _]) (B := [_, _]) (F := fixed) (T := tups') N9
      dsimp only [List.cons_append, List.nil_append] at N10
      with_unfolding_all refine inner_loop w B X T hdp hun F9 rfl rfl rfl (show m' (Str.ofString "row") = _ from (u3 (Str.ofString "row") (by decide)).trans mr) d1 d2 d3 d4 d5' d6'' hsd hW hhue hu hwh ⟨Int.natCast_nonneg _, hk3⟩ hbv hbs hbl hrl hrl2 N10 n1 n2 n3 n4 n5 n6 n7 c1 c2 c3 c4 c5 c6 e1 e2 e3 e4 e5 e6 f1 f2 f3 k35 (List.forall_mem_cons.2 ⟨Nat.ne_of_gt (Nat.lt_succ_of_lt llh), List.forall_mem_cons.2 ⟨Nat.ne_of_gt llh, List.forall_mem_cons.2 ⟨n10, List.forall_mem_cons.2 ⟨n8, r1⟩⟩⟩⟩) (List.forall_mem_cons.2 ⟨Nat.ne_of_gt (Nat.lt_succ_of_lt lrl), List.forall_mem_cons.2 ⟨Nat.ne_of_gt lrl, List.forall_mem_cons.2 ⟨n11, List.forall_mem_cons.2 ⟨n9, r2⟩⟩⟩⟩) (List.forall_mem_cons.2 ⟨Nat.ne_of_gt (Nat.lt_succ_of_lt l5), List.forall_mem_cons.2 ⟨Nat.ne_of_gt l5, List.forall_mem_cons.2 ⟨g5, List.forall_mem_cons.2 ⟨f4, r3⟩⟩⟩⟩) (List.forall_mem_cons.2 ⟨⟨rfl, _, _, rfl⟩, ht'⟩) (fun r hr => .tail _ (hr1' r hr)) (fun r hr => .tail _ (hr2' r hr)) ?_
      intro m2 h2 tk2 rows'' rows2'' n2' rn2 o5'' tups'' t3 F3 hm2 d5'' N11 ht'' hr1'' hr2'' hsub p2 p3
      have N12 := news_perm3 (A := [_, _, _, _, _, _, _, _, _, _, _]) (I := [_, _]) (B := [_, _]) (F := fixed) (T := tups'') N11
      dsimp only [List.cons_append, List.nil_append] at N12
      rw [push_sh (a := D) ⟨D, hue, (1 + (d + (kk : Int)).fmod 3), ((d.fdiv 5 + (kk : Int)).fmod 7), t', ta, tc⟩ rfl] at N12
      have ya := ne_tup N12 ht'' (fun p hp => by simp [hp]) (b := I + 1) (o' := w1) (.head _) (by rw [hc1]; exact show Value.type "enumerate" ≠ Value.type "tuple" by decide)
      have yb := ne_tup N12 ht'' (fun p hp => by simp [hp]) (b := I) (o' := w2) (.tail _ (.head _)) (by rw [hc2]; exact show Value.type "list_iterator" ≠ Value.type "tuple" by decide)
      have hta : ∀ p ∈ tups'', ∀ q ∈ [(I + 1, w1), (I, w2)], p.1 ≠ q.1 := fun p hp q hq => by
        rcases List.mem_cons.mp hq with e | hq
        · rw [e]; exact ya p hp
        · rw [List.mem_singleton.mp hq]; exact yb p hp
      have hl2 := congrArg List.length p2
      have hl3 := congrArg List.length p3
      simp only [List.length_map, List.length_append, innerL_len] at hl2 hl3
      k_steps
      refine ⟨h2, _, m2, _, rfl, F3, N12, List.forall_mem_cons.2 ⟨ap_lt (hI (tb, _) (by k_mem)), List.forall_mem_cons.2 ⟨ap_lt (hI (dx, _) (by k_mem)), List.forall_mem_cons.2 ⟨ap_lt llh, List.forall_mem_cons.2 ⟨ap_lt lrl, List.forall_mem_cons.2 ⟨ap_lt l5, List.forall_mem_cons.2 ⟨ap_lt (hI (L + 1, _) (by k_mem)), List.forall_mem_cons.2 ⟨ap_lt (hI (L + 1 + 1, _) (by k_mem)), List.forall_mem_cons.2 ⟨ap_lt (hI (L + 1 + 1 + 1 + 1, _) (by k_mem)), List.forall_mem_cons.2 ⟨ap_lt l6, List.forall_mem_cons.2 ⟨ap_lt (hI (L + 1 + 1 + 1, _) (by k_mem)), List.forall_mem_cons.2 ⟨ap_lt (hI (bl, _) (by k_mem)), List.forall_mem_cons.2 ⟨ap_lt lsl, List.forall_mem_cons.2 ⟨ap_lt (hI (fl, _) (by k_mem)), forall_app (fun p hp => ap_lt (hI1 p hp)) hta⟩⟩⟩⟩⟩⟩⟩⟩⟩⟩⟩⟩⟩, ⟨by k_mem, trivial⟩, kk + 1, rest, restI, _, t3, rows'', rows2'', shs' ++ [_], n2', rn2, sn' + 1, o5'', _, _, tups'', i1, rfl, ?_, rfl, d5'', d6'', q1, ht'', hr1'', hr2'', ?_, ?_, ?_, ?_, fun x hx => ha' x (.tail _ hx), by omega, by omega, by omega, by rw [List.length_append]; simp only [List.length_cons, List.length_nil]; omega⟩
      · intro z hz
        rw [hm2 z (fun hz' => hz (by simp only [List.mem_cons, List.not_mem_nil, or_false] at hz' ⊢; rcases hz' with e | e | e | e | e | e <;> simp [e]))]
        have hz2 := hz
        simp only [List.mem_cons, not_or] at hz2
        dsimp only
        rw [if_neg hz2.2.1, if_neg hz2.2.2.1, if_neg hz2.1]
        split
        · rename_i e; rw [e, ms]
        split
        · rename_i e; rw [e, md]
        exact u3 z hz
      · intro r hr
        rcases List.mem_append.mp hr with hr | hr
        · exact hsub (.tail _ (hr3' r hr))
        · rw [List.mem_singleton.mp hr]; exact hsub (.head _)
      · rw [p2, List.append_assoc]; exact q2
      · rw [p3, List.append_assoc]; exact q3
      · rw [List.map_append, List.append_assoc]; exact q4
  · ((repeat ((rename Fr _ _ _ _ => fOld); clear fOld)); (repeat ((rename News _ _ _ _ => nOld); clear nOld)))
    try dsimp only
    rintro m' nn ⟨kk, rest, restI, bt, t, rows', rows2', shs', n', rn', sn', o5', o6', v6', tups', i1, u1, u3, u4, d5', d6', q1, ht', hr1', hr2', hr3', q2, q3, q4, ha', z1, z2, z3, z4⟩ h tk F N
    cases rest with
    | cons q r => cases u1
    | nil =>
      cases i1
      subst u4
      rw [show outerL side wheel d bs kk [] = [] from rfl, List.append_nil] at q2 q3
      rw [show shadesL d kk [] = [] from rfl, List.append_nil] at q4
      exact k m' h tk rows' rows2' shs' n' rn' sn' o5' o6' v6' tups' t F u3 (by rw [← q1]; exact d5') d6' N ht' hr1' hr2' hr3' q2 q3 q4

end
theorem reset28 : True := by first | walk1 | trivial
section
open PySem PySem.W PySem.Calls PyProof.Rows
set_option maxRecDepth 100000
set_option maxHeartbeats 8000000
noncomputable def pairD (p : Str × Str) : PyData := .tuple [.str p.1, .str p.2]
theorem lay_pairs : ∀ l : List (Str × Str), (∀ p ∈ l, PyData.strOk p.1 = true ∧ PyData.strOk p.2 = true) → PyData.canLayAll0 (l.map pairD) = true
  | [], _ => rfl
  | p :: r, h => by
    have h1 := h p (.head _)
    simp [PyData.canLayAll0, PyData.canLay0, pairD, lay_pairs r fun q hq => h q (.tail _ hq), h1.1, h1.2]
theorem depth_pairs : ∀ l : List (Str × Str), PyData.depthAll (l.map pairD) ≤ 1
  | [] => by simp [PyData.depthAll]
  | _ :: r => by
    have := depth_pairs r
    simp only [List.map_cons, PyData.depthAll, PyData.depth, pairD]
    exact Nat.max_le.mpr ⟨by decide, this⟩
theorem shaped_pairs (l : List (Str × Str)) (h : ∀ p ∈ l, PyData.strOk p.1 = true ∧ PyData.strOk p.2 = true) : SeqAt.shaped (.list (l.map pairD)) = true := by
  have := depth_pairs l
  simp only [SeqAt.shaped, PyData.canLay0, PyData.depth, lay_pairs l h, Bool.true_and]
  exact decide_eq_true (by omega)
theorem eqv_pairs : ∀ l : List (Str × Str), PyData.eqvAll (l.map pairD) (l.map pairD) = true
  | [] => rfl
  | _ :: r => by simp [PyData.eqvAll, PyData.eqv, pairD, eqv_pairs r]
theorem lay_strs : ∀ l : List Str, (∀ p ∈ l, PyData.strOk p = true) → PyData.canLayAll0 (l.map PyData.str) = true
  | [], _ => rfl
  | p :: r, h => by simp [PyData.canLayAll0, PyData.canLay0, lay_strs r fun q hq => h q (.tail _ hq), h p (.head _)]
theorem depth_strs : ∀ l : List Str, PyData.depthAll (l.map PyData.str) ≤ 0
  | [] => by simp [PyData.depthAll]
  | _ :: r => by
    have := depth_strs r
    simp only [List.map_cons, PyData.depthAll, PyData.depth]
    omega
theorem shaped_strs (l : List Str) (h : ∀ p ∈ l, PyData.strOk p = true) : SeqAt.shaped (.list (l.map PyData.str)) = true := by
  have := depth_strs l
  simp only [SeqAt.shaped, PyData.canLay0, PyData.depth, lay_strs l h, Bool.true_and]
  exact decide_eq_true (by omega)
theorem eqv_strs : ∀ l : List Str, PyData.eqvAll (l.map PyData.str) (l.map PyData.str) = true
  | [] => rfl
  | _ :: r => by simp [PyData.eqvAll, PyData.eqv, eqv_strs r]
theorem reads_rows {h₀ h : Heap} {L : Addr} {big : List (Addr × Obj)} (N : News h₀ L h big) : ∀ (rows : List Rw), (∀ r ∈ rows, r.ent ∈ big) → ∃ as, ReadsAll h (rows.map Rw.ref) ((rows.map Rw.kv).map pairD) as
  | [], _ => ⟨_, .nil⟩
  | r :: rows, hs => by
    obtain ⟨as, ha⟩ := reads_rows N rows fun q hq => hs q (.tail _ hq)
    have e := (N _ (hs r (.head _))).1
    exact ⟨_, .cons (reads_tuple_at e rfl rfl (.cons (.str _ _) (.cons (.str _ _) .nil))) ha⟩
section
variable {prog : Program} {w : World} {A : Around} {E : Value → Shared → Prop} {s : Shared} {Q : Value → Shared → Prop} {h₀ : Heap} {L : Addr} {big : List (Addr × Obj)}
theorem ne_rows {a b : Addr} {n n2 : Nat} {rows rows2 : List Rw} (N : News h₀ L s.heap big) (ha : (a, listOf (rows.map Rw.ref).toArray n) ∈ big) (hb : (b, listOf (rows2.map Rw.ref).toArray n2) ∈ big)
    (h1 : ∀ r ∈ rows, r.ent ∈ big) (h2 : ∀ r ∈ rows2, r.ent ∈ big) (e : rows.map Rw.kv = rows2.map Rw.kv) (hok : ∀ p ∈ rows.map Rw.kv, PyData.strOk p.1 = true ∧ PyData.strOk p.2 = true) (hu : A.units + 64 < cLine) (h : Q (.bool false) s) : wpAny (model prog w) A (compareOp .NotEq (.ref a) (.ref b)) Q E s := by
  obtain ⟨as, r1⟩ := reads_rows N rows h1
  obtain ⟨bs, r2⟩ := reads_rows N rows2 h2
  rw [← e] at r2
  refine ne_dataH (da := .list ((rows.map Rw.kv).map pairD)) (db := .list ((rows.map Rw.kv).map pairD)) (reads_list_at (N.get ha) rfl rfl r1) (reads_list_at (N.get hb) rfl rfl r2) (shaped_pairs _ hok) (shaped_pairs _ hok) hu ?_
  simp only [PyData.eqv, eqv_pairs]
  exact h
theorem carried_strs : ∀ {vs : List Value} {l : List Str}, StrsAre vs l → CarriedAll vs (l.map PyData.str)
  | _, _, .nil => .nil
  | _, _, .cons _ _ r => .cons (.str _ _) (carried_strs r)
theorem ne_strs {a b : Addr} {vs us : List Value} {l : List Str} (ha : s.heap.IsList a vs.toArray) (hb : s.heap.IsList b us.toArray) (h1 : StrsAre vs l) (h2 : StrsAre us l) (hok : ∀ p ∈ l, PyData.strOk p = true) (hu : A.units + 64 < cLine) (h : Q (.bool false) s) :
    wpAny (model prog w) A (compareOp .NotEq (.ref a) (.ref b)) Q E s := by
  refine ne_dataH (reads_newData ha (carried_strs h1)) (reads_newData hb (carried_strs h2)) (shaped_strs _ hok) (shaped_strs _ hok) hu ?_
  simp only [PyData.eqv, eqv_strs]
  exact h
end

end
section
open PySem PySem.W PySem.Calls PyProof.Rows
set_option maxRecDepth 100000
set_option maxHeartbeats 8000000
section
variable {prog : Program} {w : World} {A : Around} {E : Value → Shared → Prop} {R : Result → Shared → Prop} {s : Shared} {elt iter : Expr} {ifs : List Expr} {x y z : Str} {px py pz pt : Pos} {kt : Nat} {scope : Scope} {pos : Pos}
theorem tup3_loop {env : Env} {m : Str → Option Value} {C D I l : Addr} {shs : List Sh} (p : Sh → Bool) (G : Sh → Value → Prop)
    (hh : A.handled = none) (hC : env.locals = C) (hx : env.kindOf x = some .local) (hy : env.kindOf y = some .local) (hz : env.kindOf z = some .local) (hp : (env.scope.kind == .class || (env.scope.kind == .module && env.locals != env.globals)) = false)
    (hxy : x ≠ y) (hxz : x ≠ z) (hyz : y ≠ z)
    (hDC : D ≠ C) (hIC : I ≠ C) (hID : I ≠ D) (hlC : l ≠ C) (hlD : l ≠ D) (hlI : l ≠ I) (hsz : shs.length ≤ sizeLine)
    (hn : s.heap.Ns C m) (hit : s.heap.IsListIter I l 0) (hl : s.heap.IsList l (shs.map Sh.ref).toArray) (hacc : s.heap.PlainList D #[])
    (hT : ∀ r ∈ shs, s.heap.get? r.a = some (tup3i r.h r.u r.w r.t1 r.t2 r.t3) ∧ r.a ≠ C ∧ r.a ≠ D ∧ r.a ≠ I)
    (htests : ∀ s₂ m₂ r E', r ∈ shs → s₂.heap.Ns C m₂ → m₂ x = some (.int r.h r.t1) → m₂ y = some (.int r.u r.t2) → m₂ z = some (.int r.w r.t3) → (∀ c o, c ≠ C → c ≠ D → c ≠ I → s.heap.get? c = some o → s₂.heap.get? c = some o) →
      wpAny (model prog w) A (testsOf ifs env) (fun ok s₃ => ok = p r ∧ Keeps s₂ s₃) E' s₂)
    (helt : ∀ s₂ m₂ r E', r ∈ shs → p r = true → s₂.heap.Ns C m₂ → m₂ x = some (.int r.h r.t1) → m₂ y = some (.int r.u r.t2) → m₂ z = some (.int r.w r.t3) → (∀ c o, c ≠ C → c ≠ D → c ≠ I → s.heap.get? c = some o → s₂.heap.get? c = some o) →
      wpAny (model prog w) A (eval elt env) (fun v s₃ => G r v ∧ Keeps s₂ s₃) E' s₂)
    (hR : ∀ h' tk m' ys, h'.Ns C m' → h'.PlainList D ys → Paired G (shs.filter p) ys.toList → (∀ c o, c ≠ C → c ≠ D → c ≠ I → s.heap.get? c = some o → h'.get? c = some o) → R (.ok .next) { s with heap := h', toks := tk }) :
    codeAny (model prog w) A (.compLoop (.ListComp elt [⟨.Tuple [.Name x px, .Name y py, .Name z pz] kt pt, iter, ifs, 0⟩] scope pos) 0 (.ref I) (.ref D) env) R s := by
  subst hC
  refine codeAny_loop rfl (fun n s' => ∃ h tk m' j ys, s' = { s with heap := h, toks := tk } ∧ h.Ns env.locals m' ∧ h.IsListIter I l j ∧ h.PlainList D ys ∧ Paired G ((shs.take j).filter p) ys.toList ∧ j ≤ shs.length ∧ n = shs.length + 1 - j ∧ (∀ c o, c ≠ env.locals → c ≠ D → c ≠ I → s.heap.get? c = some o → h.get? c = some o)) ?_ (shs.length + 1)
    ⟨s.heap, s.toks, m, 0, #[], rfl, hn, hit, hacc, .nil, Nat.zero_le _, rfl, fun _ _ _ _ _ e => e⟩
  rintro n s' ⟨h, tk, m', j, ys, rfl, hn', hit', hacc', hP, hj, rfl, hkeep⟩
  show wpAny _ _ ((compTurn (.ListComp elt [⟨.Tuple [.Name x px, .Name y py, .Name z pz] kt pt, iter, ifs, 0⟩] scope pos) 0 (.ref I) (.ref D) env).onRaise (fun x => do noteFrame x env; theTreesLotGoes x)) _ _ _
  refine wpAny_noted ?_
  rw [compTurn_list]
  have hl' : h.IsList l (shs.map Sh.ref).toArray := hl.at fun o e => hkeep l o hlC hlD hlI e
  by_cases hlt : j < shs.length
  · obtain ⟨r, hr⟩ : ∃ r, shs[j]? = some r := ⟨shs[j], List.getElem?_eq_getElem hlt⟩
    have hrm := List.mem_of_getElem? hr
    obtain ⟨ht, htC, htD, htI⟩ := hT r hrm
    refine wpAny_bind (wpAny_standAt (wpAny_bind (wpAny_pyNext_list_item hit' hl' (x := Sh.ref r) (by simp [hr]) fun h₁ hit₁ hs₁ => ?_)))
    refine wpAny_bind (wpAny_letOwnedTupleGo_listiter hit₁ ?_)
    have ht₁ : h₁.get? r.a = some (tup3i r.h r.u r.w r.t1 r.t2 r.t3) := hs₁.extBut _ _ htI (hkeep _ _ htC htD htI ht)
    have hn₁ := hn'.sameBut hs₁ (Ne.symm hIC)
    refine wpAny_bind (wpAny_assign_Tuple hh (items := #[.int r.h r.t1, .int r.u r.t2, .int r.w r.t3]) ⟨_, ht₁, rfl, _, rfl⟩ rfl rfl fun h₂ hs₂ => ?_)
    have up₂ : ∀ c o, h₁.get? c = some o → h₂.get? c = some o := fun c o e => hs₂ c o (Nat.ne_of_lt (Heap.lt_size e)) e
    have hn₂ := hn₁.at' fun o e => up₂ _ o e
    refine wpAny_assignInOrder_more (wpAny_assign_Name (wpAny_storeName_local hx hn₂ (fun h₃ hn₃ hs₃ => ?_) hp))
    refine wpAny_assignInOrder_more (wpAny_assign_Name (wpAny_storeName_local hy hn₃ (fun h₄ hn₄ hs₄ => ?_) hp))
    refine wpAny_assignInOrder_more (wpAny_assign_Name (wpAny_storeName_local hz hn₄ (fun h₅ hn₅ hs₅ => ?_) hp))
    refine wpAny_assignInOrder_none ?_
    have up₅ : ∀ c o, c ≠ env.locals → c ≠ I → h.get? c = some o → h₅.get? c = some o := fun c o c1 c2 e => hs₅.extBut c o c1 (hs₄.extBut c o c1 (hs₃.extBut c o c1 (up₂ c o (hs₁.extBut c o c2 e))))
    have upI : ∀ o, h₁.get? I = some o → h₅.get? I = some o := fun o e => hs₅.extBut I o hIC (hs₄.extBut I o hIC (hs₃.extBut I o hIC (up₂ I o e)))
    refine wpAny_bind (wpAny_mono (htests _ _ r _ hrm hn₅ (by simp [hxy, hxz]) (by simp [hyz]) (by simp) fun c o c1 c2 c3 e => up₅ c o c1 c3 (hkeep c o c1 c2 c3 e)) (fun ok s₆ h₆ => ?_) fun _ _ e => e)
    obtain ⟨rfl, h₆, tk₆, rfl, hk₆⟩ := h₆
    have hn₆ := hn₅.at' fun o e => hk₆ _ o e
    have take1 : shs.take (j + 1) = shs.take j ++ [r] := by rw [List.take_add_one, hr]; rfl
    have hit₆ : h₆.IsListIter I l (j + 1) := hit₁.at fun o e => hk₆ _ o (upI o e)
    cases hpr : p r with
    | false =>
      refine wpAny_pure ⟨rfl, shs.length + 1 - (j + 1), less hlt, h₆, tk₆, _, j + 1, ys, rfl, hn₆, hit₆, hacc'.at fun o e => hk₆ _ o (up₅ D o hDC (Ne.symm hID) e), ?_, hlt, rfl, fun c o c1 c2 c3 e => hk₆ c o (up₅ c o c1 c3 (hkeep c o c1 c2 c3 e))⟩
      rw [take1, List.filter_append]; simpa [hpr] using hP
    | true =>
      refine wpAny_bind (wpAny_bind (wpAny_mono (helt _ _ r _ hrm hpr hn₆ (by simp [hxy, hxz]) (by simp [hyz]) (by simp) fun c o c1 c2 c3 e => hk₆ c o (up₅ c o c1 c3 (hkeep c o c1 c2 c3 e))) (fun v s₇ h₇ => ?_) fun _ _ e => e))
      obtain ⟨hG, h₇, tk₇, rfl, hk₇⟩ := h₇
      have hys : ys.size ≤ sizeLine := by
        have e1 := hP.length
        have e2 : ((shs.take j).filter p).length ≤ (shs.take j).length := List.length_filter_le _ _
        have e3 : (shs.take j).length ≤ shs.length := by rw [List.length_take]; exact Nat.min_le_right _ _
        exact Nat.le_trans (Nat.le_of_eq e1.symm) (Nat.le_trans e2 (Nat.le_trans e3 hsz))
      refine wpAny_bind (wpAny_list_append_plain (hsz := hys) (hacc'.at fun o e => hk₇ _ o (hk₆ _ o (up₅ D o hDC (Ne.symm hID) e))) fun h₈ hl₈ hs₈ => ?_)
      refine wpAny_pure (wpAny_pure ⟨rfl, shs.length + 1 - (j + 1), less hlt, h₈, tk₇, _, j + 1, ys.push v, rfl, (hn₆.at' fun o e => hk₇ _ o e).sameBut hs₈ (Ne.symm hDC), (hit₆.at fun o e => hk₇ _ o e).extBut hs₈.extBut hID, hl₈, ?_, hlt, rfl, fun c o c1 c2 c3 e => hs₈.extBut c o c2 (hk₇ c o (hk₆ c o (up₅ c o c1 c3 (hkeep c o c1 c2 c3 e))))⟩)
      rw [take1, List.filter_append]
      simpa [hpr] using Paired.snoc hP hG
  · have e : j = shs.length := by omega
    subst e
    refine wpAny_bind (wpAny_standAt (wpAny_bind (wpAny_pyNext_list_end hh hit' hl' (by simp) fun h₁ he₁ => ?_)))
    rw [List.take_length] at hP
    exact wpAny_pure (hR h₁ tk m' ys (hn'.at' fun o e => he₁ _ o (Ne.symm hIC) e) (hacc'.at fun o e => he₁ _ o (Ne.symm hID) e) hP fun c o c1 c2 c3 e => he₁ c o c3 (hkeep c o c1 c2 c3 e))
theorem tup3_assign {h₀ : Heap} {L : Addr} {m : Str → Option Value} {env : Env} {news : List (Addr × Obj)} {shs : List Sh} {cl : List (Str × Addr)} {yv : Str} {pv spos : Pos} {Q : Flow → Shared → Prop} (p : Sh → Bool) (G : Sh → Value → Prop)
    (hsw : swapsWith (.ListComp elt [⟨.Tuple [.Name x px, .Name y py, .Name z pz] kt pt, iter, ifs, 0⟩] scope pos) (some (.Name yv pv)) spos.line env = pure true) (hL : env.locals = L)
    (hh : A.handled = none) (hclos : closureFor scope env = pure cl) (hcell : ∀ z ∈ scope.names, z.2 ≠ .cell) (hkind : scope.kind = .function)
    (hnames : ∀ z ∈ scope.names, z.2 = .local → scope.names.lookup z.1 = some .local) (hx : scope.names.lookup x = some .local) (hy : scope.names.lookup y = some .local) (hz : scope.names.lookup z = some .local)
    (hxy : x ≠ y) (hxz : x ≠ z) (hyz : y ≠ z) (hyv : env.kindOf yv = some .local) (hp : (env.scope.kind == .class || (env.scope.kind == .module && env.locals != env.globals)) = false) (hsz : shs.length ≤ sizeLine)
    (h : wpAny (model prog w) A (eval iter env) (fun xv s₁ => Bx (∃ l, xv = .ref l ∧ Fr h₀ L s₁.heap m ∧ News h₀ L s₁.heap news ∧ s₁.heap.IsList l (shs.map Sh.ref).toArray ∧ (∀ r ∈ shs, s₁.heap.get? r.a = some (tup3i r.h r.u r.w r.t1 r.t2 r.t3)) ∧
      (∀ C s₂ m₂ r E', s₁.heap.objs.size ≤ C → r ∈ shs → s₂.heap.Ns C m₂ → m₂ x = some (.int r.h r.t1) → m₂ y = some (.int r.u r.t2) → m₂ z = some (.int r.w r.t3) → (∀ b o, s₁.heap.get? b = some o → s₂.heap.get? b = some o) →
        wpAny (model prog w) A (testsOf ifs (compEnvC scope cl C env)) (fun ok s₃ => ok = p r ∧ Keeps s₂ s₃) E' s₂) ∧
      (∀ C s₂ m₂ r E', s₁.heap.objs.size ≤ C → r ∈ shs → p r = true → s₂.heap.Ns C m₂ → m₂ x = some (.int r.h r.t1) → m₂ y = some (.int r.u r.t2) → m₂ z = some (.int r.w r.t3) → (∀ b o, s₁.heap.get? b = some o → s₂.heap.get? b = some o) →
        wpAny (model prog w) A (eval elt (compEnvC scope cl C env)) (fun v s₃ => G r v ∧ Keeps s₂ s₃) E' s₂) ∧
      (∀ D ys n h' tk, Fr h₀ L h' (fun z => if z = yv then some (.ref D) else m z) → News h₀ L h' ((D, listOf ys n) :: news) → Paired G (shs.filter p) ys.toList → Q .next { s₁ with heap := h', toks := tk }))) E s)
    (hs : ∀ v, foldedSetIterable iter env v = pure v := by intro _; rfl) :
    wpAny (model prog w) A (exec (.Assign [.Name yv pv] (.ListComp elt [⟨.Tuple [.Name x px, .Name y py, .Name z pz] kt pt, iter, ifs, 0⟩] scope pos) spos) env) Q E s := by
  subst hL
  rw [exec_Assign_Name_used _ _ _ _ hsw]
  refine wpAny_bind (wpAny_standAt (wpAny_bind ?_))
  show wpAny _ A (do let _ ← comprehension (.ListComp elt [⟨.Tuple [.Name x px, .Name y py, .Name z pz] kt pt, iter, ifs, 0⟩] scope pos) scope env _ (newList []) false (eval iter env) (some (assign (.Name yv pv) env))) _ _ s
  refine wpAny_bind (wpAny_mono (wpAny_comprehension_free (use := some (assign (.Name yv pv) env)) (Q := fun _ s' => Q .next s') rfl hs hclos hkind hnames
    (wpAny_mono h (fun xv s₁ hq => ?_) fun _ _ e => e)) (fun _ s' hq => wpAny_pure (wpAny_pure hq)) fun _ _ e => e)
  obtain ⟨l, rfl, F, N, hl, hT, htests, helt, hdone⟩ := hq.un
  refine wpAny_pyIter_list hl (wpAny_newObj_type (wpAny_newFunctionEnv hcell (by intro y hy; simp at hy) (fun h₂ hns₂ hsb₂ => ?_) hkind))
  dsimp only at hns₂ hsb₂ ⊢
  generalize hp1 : s₁.heap.push { cls := .type "list_iterator", data := .fields #[.ref l, .int 0 0] } = H1 at hns₂ hsb₂ ⊢
  generalize hp2 : H1.push { cls := .type "list", dict := none, data := .seq ([] : List Value).toArray } = H2 at hns₂ hsb₂ ⊢
  have z1 : H1.objs.size = s₁.heap.objs.size + 1 := by rw [← hp1, Heap.size_push]
  have z2 : H2.objs.size = s₁.heap.objs.size + 2 := by rw [← hp2, Heap.size_push, z1]
  have up : ∀ b o, H2.get? b = some o → h₂.get? b = some o := fun b o e => hsb₂.extBut b o (Nat.ne_of_lt (Heap.lt_size e)) (Heap.get?_push_of_some _ e)
  have up1 : ∀ b o, H1.get? b = some o → h₂.get? b = some o := fun b o e => up b o (hp2 ▸ Heap.get?_push_of_some _ e)
  have up0 : ∀ b o, s₁.heap.get? b = some o → h₂.get? b = some o := fun b o e => up1 b o (hp1 ▸ Heap.get?_push_of_some _ e)
  have n1 : ∀ {b : Addr} {o}, s₁.heap.get? b = some o → b ≠ s₁.heap.objs.size ∧ b ≠ H1.objs.size ∧ b ≠ H2.objs.size := fun e => by
    have : @LT.lt Nat _ _ _ := Heap.lt_size e
    exact ⟨Nat.ne_of_lt this, by rw [z1]; exact Nat.ne_of_lt (by omega), by rw [z2]; exact Nat.ne_of_lt (by omega)⟩
  have old : ∀ {h' : Heap}, (∀ c o, c ≠ H2.objs.size → c ≠ H1.objs.size → c ≠ s₁.heap.objs.size → h₂.get? c = some o → h'.get? c = some o) → ∀ b o, s₁.heap.get? b = some o → h'.get? b = some o :=
    fun hkp b o e => hkp b o (n1 e).2.2 (n1 e).2.1 (n1 e).1 (up0 b o e)
  have hIl : h₂.IsListIter s₁.heap.objs.size l 0 := ⟨_, up1 _ _ (hp1 ▸ Heap.get?_push_size _ rfl), rfl, rfl⟩
  have fresh : ∀ a, s₁.heap.objs.size ≤ a → s₁.heap.get? a = none := fun a ha => by
    cases e : s₁.heap.get? a with
    | none => rfl
    | some o' => exact absurd (Heap.lt_size e) (Nat.not_lt.mpr ha)
  have hne : H1.objs.size ≠ H2.objs.size := by rw [z1, z2]; exact Nat.ne_of_lt (Nat.lt_succ_self _)
  have loop : ∀ s₃ : Shared, s₃ = { s₁ with heap := h₂, toks := s₁.toks + ([] : List (Str × Value)).length } →
      codeAny (model prog w) A (.compLoop (.ListComp elt [⟨.Tuple [.Name x px, .Name y py, .Name z pz] kt pt, iter, ifs, 0⟩] scope pos) 0 (.ref s₁.heap.objs.size) (.ref H1.objs.size) (compEnvC scope cl H2.objs.size env))
        (compPost (model prog w) A E (some (assign (.Name yv pv) env)) (fun _ s' => Q .next s') (.ref H1.objs.size) H2.objs.size) s₃ := by
    rintro s₃ rfl
    obtain ⟨ol, hol, _⟩ := id hl
    refine tup3_loop (env := compEnvC scope cl H2.objs.size env) (m := fun z => ([] : List (Str × Value)).reverse.lookup z) (l := l) p G hh rfl (lookup_relabel_local hx) (lookup_relabel_local hy) (lookup_relabel_local hz) (by simp [compEnvC, relabel, hkind]) hxy hxz hyz
      hne (Nat.ne_of_lt (show s₁.heap.objs.size < H2.objs.size by omega)) (Nat.ne_of_lt (show s₁.heap.objs.size < H1.objs.size by omega)) (n1 hol).2.2 (n1 hol).2.1 (n1 hol).1 hsz
      hns₂ hIl (hl.at fun o e => up0 _ o e) ⟨_, up _ _ (hp2 ▸ Heap.get?_push_size _ rfl)⟩ (fun r hr => ⟨up0 _ _ (hT r hr), (n1 (hT r hr)).2.2, (n1 (hT r hr)).2.1, (n1 (hT r hr)).1⟩) ?_ ?_ ?_
    · intro s₂ m₂ r E' hr hn h1 h2 h3 hkp
      exact htests _ s₂ m₂ r E' (by rw [z2]; omega) hr hn h1 h2 h3 (old hkp)
    · intro s₂ m₂ r E' hr hpr hn h1 h2 h3 hkp
      exact helt _ s₂ m₂ r E' (by rw [z2]; omega) hr hpr hn h1 h2 h3 (old hkp)
    · intro h' tk m' ys hn' hpl hP hkp
      have up3 := old hkp
      have hLs : env.locals < s₁.heap.objs.size := F.ns.lt
      have hLn : h'.Ns env.locals m := F.ns.at' fun o e => up3 _ o e
      show wpAny _ A (assign (.Name yv pv) env (.ref H1.objs.size)) _ _ _
      refine wpAny_assign_Name (wpAny_storeName_local hyv hLn (fun h₄ hn₄ hs₄ => ?_) hp)
      have hLC : env.locals ≠ H2.objs.size := by rw [z2]; exact Nat.ne_of_lt (Nat.lt_of_lt_of_le hLs (Nat.le_add_right _ _))
      have hLD : env.locals ≠ H1.objs.size := by rw [z1]; exact Nat.ne_of_lt (Nat.lt_succ_of_lt hLs)
      refine ⟨m', hn'.sameBut hs₄ (Ne.symm hLC), fun h₅ hs₅ => ?_⟩
      obtain ⟨n, hn5⟩ := hpl
      have keep : ∀ b o, b ≠ env.locals → s₁.heap.get? b = some o → h₅.get? b = some o := fun b o hb e => hs₅.extBut b o (n1 e).2.2 (hs₄.extBut b o hb (up3 b o e))
      refine hdone H1.objs.size ys n h₅ _ ⟨hn₄.sameBut hs₅ hLC, fun b o e => keep b o (Nat.ne_of_lt (Nat.lt_of_lt_of_le (Heap.lt_size e) F.above)) (F.keep b o e), F.above⟩ (fun q hq => ?_) hP
      rcases List.mem_cons.mp hq with rfl | hq
      · refine ⟨hs₅.extBut _ _ hne (hs₄.extBut _ _ (Ne.symm hLD) hn5), Ne.symm hLD, ?_⟩
        cases e : h₀.get? H1.objs.size with
        | none => rfl
        | some o => have := F.keep _ o e; rw [fresh _ (by rw [z1]; omega)] at this; cases this
      · exact ⟨keep _ _ (N q hq).2.1 (N q hq).1, (N q hq).2⟩
  exact codeAny_compStart_list (loop _ rfl) (wpAny_pyIter_listiter hIl (loop _ rfl))
end

end
section
open PySem PySem.W PySem.Calls PyProof.Rows
set_option maxRecDepth 100000
set_option maxHeartbeats 8000000
theorem fillC26 (w : World) (h : Heap) (X : (K w.params).In h) (e : rw0.foot = 7) : (K w.params).In h ∧ rw0.foot = 7 := by
  k_fill
  exact ⟨X, e⟩
noncomputable def KF (g h : Heap) : Prop := ∀ b o, g.get? b = some o → h.get? b = some o
theorem KF.trans {g h h' : Heap} (a : KF g h) (b : ∀ c o, h.get? c = some o → h'.get? c = some o) : KF g h' := fun c o e => b c o (a c o e)
theorem nsKeep {h h' : Heap} {a : Addr} {m : Str → Option Value} (n : h.Ns a m) (k : ∀ b o, h.get? b = some o → h'.get? b = some o) : h'.Ns a m := n.at' fun o e => k _ o e
theorem call_vs {M : Model} {A : Around} {f : Value} {vs vs' : List Value} {kw : List (Str × Value)} {Q E : Value → Shared → Prop} {s : Shared} (e : vs = vs') (h : wpAny M A (call f vs' kw) Q E s) : wpAny M A (call f vs kw) Q E s := e ▸ h
theorem tbl_sub {tb dx lh : Addr} {hs : Int} {tk₀ : Tok} {nd n : Nat} {rows : List Rw} {big : List (Addr × Obj)} (h1 : (tb, instObj 182 dx) ∈ big) (h2 : (dx, dictOf [⟨hs, .str (Str.ofString "_headers") tk₀, .ref lh⟩] nd) ∈ big) (h3 : (lh, listOf (rows.map Rw.ref).toArray n) ∈ big) (h4 : ∀ r ∈ rows, r.ent ∈ big) :
    ∀ q ∈ tblO tb dx lh hs tk₀ nd n rows, q ∈ big := by
  intro q hq
  rcases List.mem_cons.mp hq with e | hq
  · rw [e]; exact h1
  rcases List.mem_cons.mp hq with e | hq
  · rw [e]; exact h2
  rcases List.mem_cons.mp hq with e | hq
  · rw [e]; exact h3
  obtain ⟨r, hr, rfl⟩ := List.mem_map.mp hq
  exact h4 r hr
theorem rows_in {rows : List Rw} {tups big : List (Addr × Obj)} (h : ∀ r ∈ rows, r.ent ∈ tups) (hs : ∀ p ∈ tups, p ∈ big) : ∀ r ∈ rows, r.ent ∈ big := fun r hr => hs _ (h r hr)
theorem fr_name {h₀ h : Heap} {L : Addr} {m : Str → Option Value} (F : Fr h₀ L h m) : ∃ m', Fr h₀ L h m' ∧ m' = m := ⟨m, F, rfl⟩
theorem wpAny_bx {α : Type} {M : Model} {A : Around} {E : Value → Shared → Prop} {s : Shared} {t : Sem α} {Q : α → Shared → Prop} (h : wpAny M A t (fun a s' => Bx (Q a s')) E s) : wpAny M A t Q E s := wpAny_mono h (fun _ _ x => x.un) fun _ _ e => e
theorem rng_facts {side wheel : Int} (hsd : 1 ≤ side ∧ side ≤ 3) (hW : 6 * side = wheel) : Builtin.Range.small 0 wheel 1 = true ∧ Builtin.Range.rangeSize 0 wheel 1 = ((wheel.toNat : Nat) : Int) ∧ wheel.toNat ≤ sizeLine := by
  have : side = 1 ∨ side = 2 ∨ side = 3 := by omega
  rcases this with rfl | rfl | rfl <;> subst hW <;> decide +kernel
theorem rng_mem {wheel a : Int} (h0 : 0 ≤ wheel) (h : a ∈ rangeInts 0 1 wheel.toNat) : 0 ≤ a ∧ a < wheel := by
  unfold rangeInts at h
  obtain ⟨i, hi, rfl⟩ := List.mem_map.mp h
  have := List.mem_range.mp hi
  rw [Int.mul_one, Int.zero_add]
  have e := Int.ofNat_lt.mpr this
  rw [Int.toNat_of_nonneg h0] at e
  exact ⟨Int.natCast_nonneg i, e⟩
theorem ints_of {vs : List Value} {l : List Int} (h : CarriedAll vs (l.map PyData.int)) : IntsAre vs l := by
  have := CarriedAll.intsOf (f := fun a => a) (as := l) h
  rwa [List.map_id'] at this
theorem new_entry {h₀ h : Heap} {L D : Addr} {m : Str → Option Value} {news : List (Addr × Obj)} {ys : List Value} (F : Fr h₀ L h m) (N : News h₀ L h news) (hD : h₀.get? D = none) (x : NewPlain h news D ys.toArray) : ∃ n, News h₀ L h ((D, listOf ys.toArray n) :: news) := by
  obtain ⟨⟨n, e⟩, _⟩ := id x
  exact ⟨n, List.forall_mem_cons.2 ⟨⟨e, x.ne_locals F, hD⟩, N⟩⟩
theorem filledP_ (w : World) {hu ke : Addr} {va vk : List Value} {as ks : List Int} {wh : Int} {tw : Tok} (ha : IntsAre va as) (hk : IntsAre vk ks) (hla : as.length ≤ 4) (hlk : ks.length ≤ 18) (hw : 6 ≤ wh) :
    Pure w 2 328 [.ref hu, .ref ke, .int wh tw] [] (fun h => h.IsList hu va.toArray ∧ h.IsList ke vk.toArray) (fun r new => new = [] ∧ ∃ t, r = .int ((outerS (fun a b => (a + b).fmod wh) as ks).length : Nat) t) := by
  intro dp un gd env outer A₀ base h₀ L m news s Q E p loose mean mg mb B F X N T hf hk' hdp hun hpre k
  refine filled_spec w hu ke va vk as ks wh tw ha hk hla hlk hw dp un gd env outer A₀ base h₀ L m s Q E p loose mean mg mb B F X News.nil T hf hk' hdp hun hpre ?_
  intro r fin h' tk' hp F' N' hkeep hnew
  have keep : ∀ b o, s.heap.get? b = some o → h'.get? b = some o := fun b o e => hkeep b o (by simp) e
  obtain ⟨rfl, hp⟩ := hp
  exact k r [] h' tk' ⟨rfl, hp⟩ F' (News.grown N keep) keep (fun p hp => by cases hp)
noncomputable def keepP (bits wheel turn : Int) : Bool := Builtin.bitOr (Builtin.bitAnd (bits * 2 ^ turn.toNat) (1 * 2 ^ wheel.toNat - 1)) (bits.fdiv (2 ^ (wheel - turn).toNat)) == bits
noncomputable def sumP (rows : List Rw) (hue : Int) : Bool := rows.any fun r => Txt.lower r.k == Txt.lower (chr1 (65 + hue).toNat)
noncomputable def sumsI (rows : List Rw) (wheel : Int) : List Int := (rangeInts 0 1 wheel.toNat).filter (sumP rows)
noncomputable def keptI (bits wheel : Int) : List Int := (rangeInts 0 1 wheel.toNat).filter (keepP bits wheel)
noncomputable def leastI (as bs : List Int) (bits wheel : Int) : Int := ((outerS (fun a b => (a + b).fmod wheel) as (keptI bits wheel)).length : Nat) + ((outerS (fun a b => (a + b).fmod wheel) bs (keptI bits wheel)).length : Nat) - ((keptI bits wheel).length : Nat)
theorem cells_ne7 (L : Nat) : @Ne Nat (L + 1) (L + 1 + 1 + 1 + 1 + 1 + 1 + 1) ∧ @Ne Nat (L + 1 + 1) (L + 1 + 1 + 1 + 1 + 1 + 1 + 1) ∧ @Ne Nat (L + 1 + 1 + 1) (L + 1 + 1 + 1 + 1 + 1 + 1 + 1) ∧ @Ne Nat (L + 1 + 1 + 1 + 1) (L + 1 + 1 + 1 + 1 + 1 + 1 + 1) ∧ @Ne Nat (L + 1 + 1 + 1 + 1 + 1) (L + 1 + 1 + 1 + 1 + 1 + 1 + 1) ∧ @Ne Nat (L + 1 + 1 + 1 + 1 + 1 + 1) (L + 1 + 1 + 1 + 1 + 1 + 1 + 1) := ⟨offs 5 (L + 1), offs 4 (L + 1 + 1), offs 3 (L + 1 + 1 + 1), offs 2 (L + 1 + 1 + 1 + 1), offs 1 (L + 1 + 1 + 1 + 1 + 1), offs 0 (L + 1 + 1 + 1 + 1 + 1 + 1)⟩

end
theorem reset29 : True := by first | walk1 | trivial
section
open PySem PySem.W PySem.Calls PyProof.Rows
set_option maxRecDepth 100000
set_option maxHeartbeats 8000000
theorem fillC29 (w : World) (h : Heap) (X : (K w.params).In h) (e : rw0.foot = 7) : (K w.params).In h ∧ rw0.foot = 7 := by
  k_fill
  exact ⟨X, e⟩
local macro_rules | `(tactic| walk_at "for first") => `(tactic| (k_here; (rename Fr _ _ _ _ => lF'); (with_unfolding_all refine' For_turns lF' ?_; k_whole)))
local macro_rules | `(tactic| walk_at "pyIter ref") => `(tactic| (k_here; (with_reducible show wpAny _ _ (pyIter (Value.ref _)) (fun it s₂ => TurnsAt _ _ _ _ _ _ _ _ _ it s₂) _ _); (rename Fr _ _ _ _ => lF'); (rename News _ _ _ _ => lN'); (k_dflt (refine' iter_listTurns rfl lF' lN' ?km ?kc ?kd ?_; (case km => k_mem); (case kc => exact rfl); (case kd => exact rfl)))))
local macro_rules | `(tactic| walk_at "pyIter ref") => `(tactic| (k_here; (with_reducible show wpAny _ _ (pyIter (Value.ref _)) (fun it s₂ => TurnsAt _ _ _ _ _ _ _ _ _ it s₂) _ _); (rename Fr _ _ _ _ => lF'); (rename News _ _ _ _ => lN'); (k_dflt (refine' iter_tupTurns (vs := [_, _]) rfl lF' lN' ?km ?kc ?kd ?_; (case km => k_mem); (case kc => exact rfl); (case kd => exact rfl)))))
local macro_rules | `(tactic| walk_at "ItemsRest") => `(tactic| (refine opq_of ?_))
local macro_rules | `(tactic| walk_at "compareOp NotEq ref ref") => `(tactic| (k_here; (with_reducible show wpAny _ _ (compareOp CmpOp.NotEq (Value.ref _) (Value.ref _)) _ _ _); k_dflt (refine' ne_strs ?ha ?hb ?h1 ?h2 ?hok ?hu ?_; (case ha => exact News.isList (by with_reducible assumption) (by k_mem)); (case hb => exact News.isList (by with_reducible assumption) (by k_mem)); (case h1 => assumption); (case h2 => assumption); (case hok => assumption); (case hu => ktr_units))))
def pVs (a : Lean.MacroM Tm) : Nat → Lean.MacroM Tc := fun n => do
  `(tactic| ((try (refine' call_vs (vs' := [Value.ref _]) ?kv ?_; (case kv => with_unfolding_all rfl))); (with_reducible show wpAny _ _ (call (Value.ref $(Lean.quote n)) $(← a) _) _ _ _); (with_reducible rename News _ _ _ _ => nOld); (rename TM _ _ _ _ _ _ _ _ => tM)))
def csTbl : Lean.MacroM Tc := `(tactic| (case cS => exact tbl_sub (by k_mem) (by k_mem) (by k_mem) (rows_in (by with_reducible assumption) (by intro p hp; repeat (first | exact hp | refine List.Mem.tail _ ?_)))))
local macro_rules | `(tactic| walk_at "call ref") => useR 121 vAny (pVs (vL [vR, vS])) (spT ``getallR [hole 0, hole 1, hole 2, hole 3, hole 4]) csTbl (cs [aCase 0, aCase 1, aCase 2, aCase 3, aCase 4]) obE fnF
local macro_rules | `(tactic| k_ne) => `(tactic| (refine neN ?_; (try dsimp only); first | (with_reducible assumption) | exact Ne.symm (by with_reducible assumption)))
local macro_rules | `(tactic| k_all) => `(tactic| assumption)
theorem strs_len : ∀ {vs : List Value} {ls : List Str}, StrsAre vs ls → vs.length = ls.length
  | _, _, .nil => rfl
  | _, _, .cons _ _ r => congrArg (· + 1) (strs_len r)
theorem len_strs {prog : Program} {w : World} {A : Around} {E : Value → Shared → Prop} {s : Shared} {Q : Value → Shared → Prop} {l : Addr} {vs : List Value} {ls : List Str} (hl : s.heap.IsList l vs.toArray) (hi : StrsAre vs ls) (hb : ls.length ≤ 1000)
    (h : Q (.int (ls.length : Nat) (s.toks + 1)) { s with toks := s.toks + 1 + 1 }) : wpAny (model prog w) A (call (.builtin "len") [.ref l]) Q E s := by
  have e : vs.toArray.size = ls.length := by simp [strs_len hi]
  exact PyProof.Rows.len_list hl (by rw [e]; omega) (by rw [e]; exact h)
local macro_rules | `(tactic| walk_at "call builtin:len") => `(tactic| (k_here; (with_reducible show wpAny _ _ (call (Value.builtin "len") [Value.ref _]) _ _ _); k_dflt (refine' len_strs ?hl ?hi ?hb ?_; (case hl => exact News.isList (by with_reducible assumption) (by k_mem)); (case hi => assumption); (case hb => assumption))))
theorem tup_of {prog : Program} {w : World} {A : Around} {E : Value → Shared → Prop} {s : Shared} {Q : Value → Shared → Prop} {h₀ : Heap} {L l : Addr} {m : Str → Option Value} {news : List (Addr × Obj)} {items : Array Value} {n : Nat} (F : Fr h₀ L s.heap m) (N : News h₀ L s.heap news) (hm : (l, listOf items n) ∈ news) (hsz : items.size ≤ sizeLine)
    (h : ∀ D h', Fr h₀ L h' m → News h₀ L h' ((D, { cls := .type "tuple", data := .seq items }) :: news) → (∀ b o, s.heap.get? b = some o → h'.get? b = some o) → Q (.ref D) { s with heap := h' }) : wpAny (model prog w) A (call (.type "tuple") [.ref l]) Q E s := by
  refine call_tuple_list (hsz := hsz) (N.isList hm) fun h' hk => ?_
  have up : ∀ b o, s.heap.get? b = some o → (h'.push { cls := .type "tuple", data := .seq items }).get? b = some o := fun b o e => Heap.get?_push_of_some _ (hk b o e)
  have hL : @LT.lt Nat _ L h'.objs.size := by obtain ⟨o, _, _, ho, _⟩ := F.ns; exact Heap.lt_size (hk _ _ ho)
  refine h _ _ (F.keeps up) (List.forall_mem_cons.2 ⟨⟨Heap.get?_push_size _ rfl, Nat.ne_of_gt hL, ?_⟩, N.grown up⟩) up
  cases e : h₀.get? h'.objs.size with
  | none => rfl
  | some o => exact absurd (Nat.lt_trans (Nat.lt_of_lt_of_le (Heap.lt_size e) F.above) hL) (Nat.lt_irrefl _)
local macro_rules | `(tactic| walk_at "call type:tuple") => `(tactic| (k_here; (with_reducible show wpAny _ _ (call (Value.type _) [Value.ref _]) _ _ _); k_dflt (refine' tup_of ?k1 ?k2 ?k3 ?k4 ?_; (case k1 => k_asm); (case k2 => k_asm); (case k3 => k_mem); (case k4 => exact Nat.le_of_ble_eq_true rfl)); intro D' h' F' N' hkp'; (try (have hnN' := nsKeep (by assumption) hkp')); (try (have hkf' := KF.trans (by assumption) hkp')); clear hkp'))
local macro_rules | `(tactic| walk_at "compareOp In int ref") => `(tactic| (k_here; (refine' in_list_ints ?hl ?hi ?_; (case hl => exact News.isList (by with_reducible assumption) (by k_mem)); (case hi => assumption))))
def fnG : Lean.MacroM Tc := `(tactic| (subst e1'; subst e2'; (simp only [List.cons_append, List.nil_append] at N'); (have lt' := ne_new nOld (hfr' _ List.mem_cons_self)); (simp only [AllNe, and_true] at lt'); (try (have hnN' := nsKeep (by assumption) hkp')); (try (have hkf' := KF.trans (by assumption) hkp')); clear hfr' hkp' nOld; (try dsimp only)))
local macro_rules | `(tactic| walk_at "call ref") => useP 313 (vL [vI, vI, vI, vI]) pNews (sp ``parts_spec [vAny, vAny, vAny, vAny, vAny, vAny, vAny, vAny, vAny, hole 0, hole 1, hole 2, hole 3]) tlT (cs [oCase 0, oCase 1, oCase 2, oCase 3]) obD fnG
local macro_rules | `(tactic| walk_at "binaryOp Mod str ref") => `(tactic| (k_here; (with_reducible show wpAny _ _ (binaryOp Operator.Mod (Value.str _ _) (Value.ref _)) _ _ _); k_dflt (refine' fmt3 ?ha ?hb ?hc ?hN ?hm ?_; (case hN => k_asm); (case hm => k_mem); (case ha => exact part_rng (by assumption) (by assumption) (by assumption)); (case hb => exact part_rng (by assumption) (by assumption) (by assumption)); (case hc => exact part_rng (by assumption) (by assumption) (by assumption))); intro _ _))
noncomputable def sumF : { x : Stmt // stGet lastB.1 8 = x } := by apply Subtype.mk; (conv => lhs; whnf)
noncomputable def shP (bs : List Int) (wheel hue : Int) (r : Sh) : Bool := bs.any (· == (hue - r.h).fmod wheel)
noncomputable def textsI (shs : List Sh) (bs : List Int) (wheel side hue : Int) : List Str := (shs.filter (shP bs wheel hue)).map fun r => textOf hue r.u r.w side
noncomputable def foundI (rows : List Rw) (hue : Int) : List Str := (rows.filter fun q => Txt.lower q.k == chr1 (97 + hue).toNat).map fun q => q.v
noncomputable def sumT (shs : List Sh) (bs : List Int) (wheel side : Int) : List Int → Int
  | [] => 0
  | h :: r => 2 * ((textsI shs bs wheel side h).length : Int) + sumT shs bs wheel side r
theorem sh_in {rows : List Sh} {tups big : List (Addr × Obj)} (h : ∀ r ∈ rows, r.ent ∈ tups) (hs : ∀ p ∈ tups, p ∈ big) : ∀ r ∈ rows, r.ent ∈ big := fun r hr => hs _ (h r hr)
theorem end_sum {a b c t r : Int} (h1 : b + (2 * c + r) = t) (h2 : a + 0 = b + (c + (c + 0))) : a + r = t := by omega
noncomputable def addLN (LN : Int) : List Int → Int
  | [] => 0
  | _ :: r => LN + addLN LN r
theorem ap1 {I : Addr} {o1 : Obj} {p : Addr × Obj} (h : @LT.lt Nat _ p.1 I) : ∀ q ∈ [(I, o1)], p.1 ≠ q.1 := fun q hq => by rw [List.mem_singleton.mp hq]; exact Nat.ne_of_lt h
theorem strs_rows : ∀ (l : List Rw), StrsAre (l.map fun q => Value.str q.v q.tv) (l.map fun q => q.v)
  | [] => .nil
  | q :: r => .cons _ _ (strs_rows r)
theorem strs_paired {shs : List Sh} {g : Sh → Str} : ∀ {l : List Sh} {ys : List Value}, Paired (fun r v => ∃ t, v = Value.str (g r) t) l ys → StrsAre ys (l.map g)
  | _, _, .nil => .nil
  | _, _, .cons h r => by obtain ⟨t, rfl⟩ := h; exact .cons _ _ (strs_paired (shs := shs) r)
inductive SizeJ (side wheel hue tv : Int) (bs : List Int) (mG : Str → Option Value) (Dt D I tb dx lh bl sl D2 L : Addr) (hs : Int) (tk₀ : Tok) (nd n bn sn nk2 nd2 : Nat) (rows : List Rw) (shs : List Sh) (lo w1 o1 o2 o3 o4 o6n : Obj) (ysl bv ys2 : List Value) (tups : List (Addr × Obj)) (xs : List Itm) (m2 : Str → Option Value) (nn : List (Addr × Obj)) : Prop
  | mk (rs : List Value) (rI : List Int) (tv2 : Int) (t2 : Tok) (q0 : IntsAre rs rI) (q1 : xs = rs.map Itm.val) (q2 : (∀ z ∈ rI, z = 65 ∨ z = 97)) (q3 : (∀ z, z ∉ [(Str.ofString "told"), (Str.ofString "size"), (Str.ofString "found")] → m2 z = mG z)) (q4 : m2 (Str.ofString "told") = some (.int tv2 t2)) (q5 : nn = (Dt, lo) :: (D, listOf ⟨ysl⟩ nd2) :: (I, w1) :: (tb, instObj 182 dx) :: (dx, dictOf [⟨hs, .str (Str.ofString "_headers") tk₀, .ref lh⟩] nd) :: (lh, listOf (rows.map Rw.ref).toArray n) :: (L + 1, o1) :: (L + 1 + 1, o2) :: (L + 1 + 1 + 1 + 1, o4) :: (L + 1 + 1 + 1 + 1 + 1 + 1, o6n) :: (L + 1 + 1 + 1, o3) :: (bl, listOf bv.toArray bn) :: (sl, listOf (shs.map Sh.ref).toArray sn) :: (D2, listOf ys2.toArray nk2) :: tups) (q6 : tv2 + addLN ((textsI shs bs wheel side hue).length : Int) rI = tv + (((textsI shs bs wheel side hue).length : Int) + (((textsI shs bs wheel side hue).length : Int) + 0))) : SizeJ side wheel hue tv bs mG Dt D I tb dx lh bl sl D2 L hs tk₀ nd n bn sn nk2 nd2 rows shs lo w1 o1 o2 o3 o4 o6n ysl bv ys2 tups xs m2 nn
inductive SumsJ (side wheel told : Int) (bs S : List Int) (m : Str → Option Value) (tb dx lh bl sl D2 L : Addr) (hs : Int) (tk₀ : Tok) (nd n bn sn nk2 : Nat) (rows : List Rw) (shs : List Sh) (o1 o2 o3 o4 : Obj) (bv ys2 : List Value) (tups : List (Addr × Obj)) (xs : List Itm) (m' : Str → Option Value) (nn : List (Addr × Obj)) : Prop
  | mk (rest : List Value) (restI : List Int) (tv : Int) (t : Tok) (o6' : Obj) (v6' : Option Value) (q0 : IntsAre rest restI) (q1 : xs = rest.map Itm.val) (q2 : (∀ z, z ∉ [(Str.ofString "told"), (Str.ofString "texts"), (Str.ofString "size"), (Str.ofString "found")] → m' z = m z)) (q3 : m' (Str.ofString "told") = some (.int tv t)) (q4 : o6'.data = .cell v6') (q5 : nn = (tb, instObj 182 dx) :: (dx, dictOf [⟨hs, .str (Str.ofString "_headers") tk₀, .ref lh⟩] nd) :: (lh, listOf (rows.map Rw.ref).toArray n) :: (L + 1, o1) :: (L + 1 + 1, o2) :: (L + 1 + 1 + 1 + 1, o4) :: (L + 1 + 1 + 1 + 1 + 1 + 1, o6') :: (L + 1 + 1 + 1, o3) :: (bl, listOf bv.toArray bn) :: (sl, listOf (shs.map Sh.ref).toArray sn) :: (D2, listOf ys2.toArray nk2) :: tups) (q6 : tv + sumT shs bs wheel side restI = told + sumT shs bs wheel side S) (q7 : (∀ h ∈ restI, h ∈ S)) : SumsJ side wheel told bs S m tb dx lh bl sl D2 L hs tk₀ nd n bn sn nk2 rows shs o1 o2 o3 o4 bv ys2 tups xs m' nn
theorem sums_loop (w : World) {fa : Addr} {cd : Value} {dp un : Nat} {gd : Option (List Code)} {outer : List Env} {A₀ : Around} {base h₀ h₁ : Heap} {L : Addr} {s : Shared} {tk : Nat} {Q : Flow → Shared → Prop}
    {p : Program} {loose : List Str} {mean : ExcName → Option Value} {mg mb : Str → Option Value} {m : Str → Option Value}
    (B : Below A₀ base outer h₀) (X : (K w.params).In h₀) (T : Top p loose mean mg mb h₀) (hdp : dp + 20 < recursionLimit) (hun : un + 200 < cLine) (F : Fr h₀ L h₁ m)
    {side wheel both told : Int} {t6 t7 tb0 tt0 : Tok} {tb dx lh bl sl D2 : Addr} {hs : Int} {tk₀ : Tok} {nd n bn sn nk2 : Nat} {rows : List Rw} {shs : List Sh} {o1 o2 o3 o4 o6 : Obj} {v6 : Option Value} {bv ys2 : List Value} {bs S : List Int} {tups : List (Addr × Obj)}
    (mq : m (Str.ofString "sums") = some (.ref D2)) (ms : m (Str.ofString "shades") = some (.ref sl)) (mb0 : m (Str.ofString "both") = some (.int both tb0)) (mt : m (Str.ofString "told") = some (.int told tt0))
    (d1 : o1.data = .cell (some (.int side t6))) (d2 : o2.data = .cell (some (.int wheel t7))) (d3 : o3.data = .cell (some (.ref bl))) (d4 : o4.data = .cell (some (.ref tb))) (d6 : o6.data = .cell v6)
    (hsd : 1 ≤ side ∧ side ≤ 3) (hW : 6 * side = wheel) (hw : 6 ≤ wheel ∧ wheel ≤ 18) (hbo : 0 ≤ both ∧ both ≤ 8)
    (hbv : IntsAre bv bs) (iS : IntsAre ys2 S) (hS : ∀ x ∈ S, 0 ≤ x ∧ x < wheel) (hSl : S.length ≤ 18) (hshl : shs.length ≤ 4) (hshr : ∀ r ∈ shs, (1 ≤ r.u ∧ r.u ≤ 3) ∧ (0 ≤ r.w ∧ r.w ≤ 6) ∧ (0 ≤ r.h ∧ r.h < wheel))
    (N : News h₀ L h₁ ((tb, instObj 182 dx) :: (dx, dictOf [⟨hs, .str (Str.ofString "_headers") tk₀, .ref lh⟩] nd) :: (lh, listOf (rows.map Rw.ref).toArray n) :: (L + 1, o1) :: (L + 1 + 1, o2) :: (L + 1 + 1 + 1 + 1, o4) :: (L + 1 + 1 + 1 + 1 + 1 + 1, o6) :: (L + 1 + 1 + 1, o3) :: (bl, listOf bv.toArray bn) :: (sl, listOf (shs.map Sh.ref).toArray sn) :: (D2, listOf ys2.toArray nk2) :: tups))
    (z0 : @Ne Nat tb (L + 1 + 1 + 1 + 1 + 1 + 1)) (z1 : @Ne Nat dx (L + 1 + 1 + 1 + 1 + 1 + 1)) (z2 : @Ne Nat lh (L + 1 + 1 + 1 + 1 + 1 + 1)) (z3 : @Ne Nat bl (L + 1 + 1 + 1 + 1 + 1 + 1)) (z4 : @Ne Nat sl (L + 1 + 1 + 1 + 1 + 1 + 1)) (z5 : @Ne Nat D2 (L + 1 + 1 + 1 + 1 + 1 + 1))
    (ht : ∀ p ∈ tups, p.2.cls = .type "tuple" ∧ ∃ xs k, p.2.data = .seq xs k) (hr1 : ∀ r ∈ rows, r.ent ∈ tups) (hr3 : ∀ r ∈ shs, r.ent ∈ tups)
    (hsz : rows.length < 2 ^ 20) (hkl : ∀ r ∈ rows, r.k.length ≤ 5592405)
    (hfit : ∀ h ∈ S, foundI rows h = textsI shs bs wheel side h) (hmany : ∀ h ∈ S, 1 ≤ (textsI shs bs wheel side h).length ∧ both - (S.length : Int) ≤ ((textsI shs bs wheel side h).length : Int)) (hok : ∀ h ∈ S, ∀ p ∈ textsI shs bs wheel side h, PyData.strOk p = true)
    (k : ∀ m' h' tk' o6' v6' t, Fr h₀ L h' m' → (∀ z, z ∉ [(Str.ofString "told"), (Str.ofString "texts"), (Str.ofString "size"), (Str.ofString "found")] → m' z = m z) → m' (Str.ofString "told") = some (.int (told + sumT shs bs wheel side S) t) → o6'.data = .cell v6' → News h₀ L h' ((tb, instObj 182 dx) :: (dx, dictOf [⟨hs, .str (Str.ofString "_headers") tk₀, .ref lh⟩] nd) :: (lh, listOf (rows.map Rw.ref).toArray n) :: (L + 1, o1) :: (L + 1 + 1, o2) :: (L + 1 + 1 + 1 + 1, o4) :: (L + 1 + 1 + 1 + 1 + 1 + 1, o6') :: (L + 1 + 1 + 1, o3) :: (bl, listOf bv.toArray bn) :: (sl, listOf (shs.map Sh.ref).toArray sn) :: (D2, listOf ys2.toArray nk2) :: tups) → Q .next { s with heap := h', toks := tk' }) :
    wpAny (model rw0.row.prog w) (Ar dp un gd (envOfC (Str.ofString "law") lawS.1 L fa cd) outer) (exec sumF.1 (envOfC (Str.ofString "law") lawS.1 L fa cd)) Q (fun _ _ => False) { s with heap := h₁, toks := tk } := by
  dsimp only [lawS, sumF]
  obtain ⟨k1, k2, k3, k4, k5⟩ := (cells_ne L).1
  have F := fr_fix F (Str.ofString "sums") _ mq
  walk_at "for first"
  k_steps
  constructor
  rename_i I hI
  refine items_inv (SumsJ side wheel told bs S m tb dx lh bl sl D2 L hs tk₀ nd n bn sn nk2 rows shs o1 o2 o3 o4 bv ys2 tups) ?step ?fin _ _ _
    ⟨ys2, S, told, tt0, o6, v6, iS, rfl, fun z _ => by
      split
      · rename_i e; rw [e, mq]
      · rfl, mt, d6, rfl, rfl, fun _ h => h⟩
  · ((repeat ((rename Fr _ _ _ _ => fOld); clear fOld)); (repeat ((rename News _ _ _ _ => nOld); clear nOld)))
    try dsimp only
    rintro a r m' nn ⟨rest, restI, tv, t, o6', v6', i1, u1, u3, u5, d6', u4, q1, q2⟩ v h tk hv F
    cases i1 with
    | nil => cases u1
    | cons hue t' i1 =>
      rename_i rest restI
      obtain ⟨rfl, rfl⟩ := List.cons.inj u1
      have hv' : v = Value.int hue t' := hv
      subst hv'
      refine AllObj.cons (fun w1 hc1 => AllObj.nil (fun N => ?_))
      subst u4
      have hhS := q2 hue (.head _)
      have hhue := hS hue hhS
      have F1 := fr_fix F (Str.ofString "sums") _ ((u3 (Str.ofString "sums") (by decide)).trans mq)
      have F2 := fr_fix F1 (Str.ofString "shades") _ ((u3 (Str.ofString "shades") (by decide)).trans ms)
      have F3 := fr_fix F2 (Str.ofString "both") _ ((u3 (Str.ofString "both") (by decide)).trans mb0)
      have F4 := fr_fix F3 (Str.ofString "told") _ u5
      clear F F1 F2 F3
      dsimp only [List.cons_append, List.nil_append] at N
      have x6 := ne_tupC N ht (fun p hp => by simp [hp]) (b := L + 1 + 1 + 1 + 1 + 1 + 1) (by k_mem) d6'
      have l6 : @LT.lt Nat _ (L + 1 + 1 + 1 + 1 + 1 + 1) I := hI (L + 1 + 1 + 1 + 1 + 1 + 1, _) (by k_mem)
      have y2 : @Ne Nat I (L + 1 + 1 + 1 + 1 + 1 + 1) := Nat.ne_of_gt l6
      walk_at "steps to a comprehension"
      (rename News _ _ _ _ => Na)
      (rename Fr _ _ _ _ => Fa)
      (rename Obj => o6n)
      (rename _ = Data.cell (some (Value.int hue _)) => d6n)
      obtain ⟨mA, FA, eA⟩ := fr_name Fa
      clear Fa
      have mq1 : mA (Str.ofString "sums") = some (.ref D2) := by rw [eA]; rfl
      have ms1 : mA (Str.ofString "shades") = some (.ref sl) := by rw [eA]; rfl
      have mb1 : mA (Str.ofString "both") = some (.int both tb0) := by rw [eA]; rfl
      have mt1 : mA (Str.ofString "told") = some (.int tv t) := by rw [eA]; rfl
      have hmA : ∀ z, z ∉ [(Str.ofString "told"), (Str.ofString "texts"), (Str.ofString "size"), (Str.ofString "found")] → mA z = m z := by
        intro z hz
        have hz2 := hz
        simp only [List.mem_cons, not_or] at hz2
        rw [eA]
        dsimp only
        rw [if_neg hz2.1]
        split
        · rename_i e; rw [e, mb0]
        split
        · rename_i e; rw [e, ms]
        split
        · rename_i e; rw [e, mq]
        exact u3 z hz
      clear eA
      k_dflt (refine' tup3_assign (h₀ := h₀) (L := L) (m := mA) (news := (I, w1) :: (tb, instObj 182 dx) :: (dx, dictOf [⟨hs, .str (Str.ofString "_headers") tk₀, .ref lh⟩] nd) :: (lh, listOf (rows.map Rw.ref).toArray n) :: (L + 1, o1) :: (L + 1 + 1, o2) :: (L + 1 + 1 + 1 + 1, o4) :: (L + 1 + 1 + 1 + 1 + 1 + 1, o6n) :: (L + 1 + 1 + 1, o3) :: (bl, listOf bv.toArray bn) :: (sl, listOf (shs.map Sh.ref).toArray sn) :: (D2, listOf ys2.toArray nk2) :: tups) (shs := shs) (shP bs wheel hue) (fun r v => ∃ t, v = Value.str (textOf hue r.u r.w side) t) ?hsw ?hL ?hh ?hclos ?hcell ?hkind ?hnames ?hx ?hy ?hz ?hxy ?hxz ?hyz ?hyv ?hp ?hsz ?h ?hs; (case hsw => with_unfolding_all rfl); (case hL => with_unfolding_all rfl); (case hh => with_unfolding_all rfl); (case hclos => with_unfolding_all rfl); (case hcell => decide); (case hkind => with_unfolding_all rfl); (case hnames => decide); (case hx => with_unfolding_all rfl); (case hy => with_unfolding_all rfl); (case hz => with_unfolding_all rfl); (case hxy => decide); (case hxz => decide); (case hyz => decide); (case hyv => with_unfolding_all rfl); (case hp => with_unfolding_all rfl); (case hsz => rw [sizeLine_eq]; omega); (case hs => intro _; with_unfolding_all rfl))
      have FA1 := fr_fix FA (Str.ofString "shades") _ ms1
      k_steps
      constructor
      refine ⟨sl, rfl, FA, Na, News.isList Na (by k_mem), fun r hr => (Na _ (sh_in hr3 (by intro p hp; repeat (first | exact hp | refine List.Mem.tail _ ?_)) r hr)).1, ?tst, ?elt, ?done⟩
      case tst =>
        intro C s₂ m₂ r E' hC hr hn hm1 hm2 hm3 hkc
        have Fc2 := Fr.keeps FA hkc
        have Nc2 : News h₀ L s₂.heap _ := News.grown Na hkc
        have hkf : KF s₂.heap s₂.heap := fun _ _ e => e
        clear FA FA1 Na
        k_steps
        exact ⟨_, _, rfl, fun _ _ e => e⟩
      case elt =>
        intro C s₂ m₂ r E' hC hr hpr hn hm1 hm2 hm3 hkc
        have Fc2 := Fr.keeps FA hkc
        have Nc2 : News h₀ L s₂.heap _ := News.grown Na hkc
        have hkf : KF s₂.heap s₂.heap := fun _ _ e => e
        obtain ⟨hrr1, hrr2, hrr3⟩ := hshr r hr
        clear FA FA1 Na
        k_steps
        exact ⟨_, _, rfl, (by assumption : KF _ _)⟩
      case done =>
        intro D ys nd2 h9 tk9 F9 N9 hP
        obtain ⟨ysl⟩ := ys
        have hst : StrsAre ysl (textsI shs bs wheel side hue) := strs_paired (shs := shs) hP
        have h18 : hue < 18 := by omega
        obtain ⟨lw1, lw2⟩ := low_ok hhue.1 h18
        obtain ⟨lf1, lf2, lf3, lf4⟩ := low_fine hhue.1 h18
        have ln1 := chr1_len (65 + hue).toNat
        have ln2 := chr1_len (97 + hue).toNat
        have hs65 : StrsAre (List.map (fun q => Value.str q.v q.tv) (List.filter (fun q => Txt.lower q.k == Txt.lower (chr1 (65 + hue).toNat)) rows)) (textsI shs bs wheel side hue) := by rw [lw1, ← hfit hue hhS]; exact strs_rows _
        have hs97 : StrsAre (List.map (fun q => Value.str q.v q.tv) (List.filter (fun q => Txt.lower q.k == Txt.lower (chr1 (97 + hue).toNat)) rows)) (textsI shs bs wheel side hue) := by rw [lw2, ← hfit hue hhS]; exact strs_rows _
        have hokh := hok hue hhS
        have hLN : (textsI shs bs wheel side hue).length ≤ 1000 := by unfold textsI; rw [List.length_map]; exact Nat.le_trans (List.length_filter_le _ _) (by omega)
        obtain ⟨hm1, hm2⟩ := hmany hue hhS
        have G1 := fr_fix F9 (Str.ofString "sums") _ mq1
        have G2 := fr_fix G1 (Str.ofString "both") _ mb1
        have G3 := fr_fix G2 (Str.ofString "told") _ mt1
        clear F9 G1 G2 FA FA1 Na hP
        k_steps
        constructor
        rename_i J hJ
        (rename News _ _ _ _ => lN2)
        obtain ⟨Dt, rfl⟩ := nm1 lN2
        (rename Fr _ _ _ _ => Fe)
        obtain ⟨mG, FG, eG⟩ := fr_name Fe
        clear Fe
        have mq2 : mG (Str.ofString "sums") = some (.ref D2) := by rw [eG]; rfl
        have mb2 : mG (Str.ofString "both") = some (.int both tb0) := by rw [eG]; rfl
        have mt2 : mG (Str.ofString "told") = some (.int tv t) := by rw [eG]; rfl
        have mx2 : mG (Str.ofString "texts") = some (.ref D) := by rw [eG]; rfl
        refine with_obj lN2 fun lo hlo => ?_
        refine items_inv (SizeJ side wheel hue tv bs mG Dt D I tb dx lh bl sl D2 L hs tk₀ nd n bn sn nk2 nd2 rows shs lo w1 o1 o2 o3 o4 o6n ysl bv ys2 tups) ?step2 ?fin2 _ _ _
          ⟨[_, _], [65, 97], tv, t, .cons _ _ (.cons _ _ .nil), rfl, by intro z hz; simpa using hz, fun _ _ => by rw [eG], rfl, by rw [hlo], rfl⟩
        · ((repeat ((rename Fr _ _ _ _ => fOld); clear fOld)); (repeat ((rename News _ _ _ _ => nOld); clear nOld)))
          try dsimp only
          rintro a r m2 nn ⟨rs, rI, tv2, t2, j1, w1', w2', w3', w4', w5', w6'⟩ v h tk hv F
          cases j1 with
          | nil => cases w1'
          | cons sz t3 j1 =>
            rename_i rs rI
            obtain ⟨rfl, rfl⟩ := List.cons.inj w1'
            have hv' : v = Value.int sz t3 := hv
            subst hv'
            refine AllObj.cons (fun w9 hc9 => AllObj.nil (fun N => ?_))
            subst w5'
            have hsz2 := w2' sz (.head _)
            have gf1 : Fine (Txt.lower (chr1 (sz + hue).toNat)) := by rcases hsz2 with rfl | rfl; exact lf1; exact lf2
            have gf2 : (Txt.lower (chr1 (sz + hue).toNat)).cps.size < 2 ^ 63 := by rcases hsz2 with rfl | rfl; exact lf3; exact lf4
            have gf3 := chr1_len (sz + hue).toNat
            have gS : StrsAre (List.map (fun q => Value.str q.v q.tv) (List.filter (fun q => Txt.lower q.k == Txt.lower (chr1 (sz + hue).toNat)) rows)) (textsI shs bs wheel side hue) := by rcases hsz2 with rfl | rfl; exact hs65; exact hs97
            have gsz : 65 ≤ sz ∧ sz ≤ 97 := by rcases hsz2 with e | e <;> rw [e] <;> decide
            clear hs65 hs97 lf1 lf2 lf3 lf4 ln1 ln2 hsz2
            have F1 := fr_fix F (Str.ofString "sums") _ ((w3' (Str.ofString "sums") (by decide)).trans mq2)
            have F2 := fr_fix F1 (Str.ofString "both") _ ((w3' (Str.ofString "both") (by decide)).trans mb2)
            have F3 := fr_fix F2 (Str.ofString "texts") _ ((w3' (Str.ofString "texts") (by decide)).trans mx2)
            have F4 := fr_fix F3 (Str.ofString "told") _ w4'
            clear F F1 F2 F3
            have hTM := tm tb dx lh hs tk₀ nd n rows
            dsimp only [List.cons_append, List.nil_append] at N
            k_steps
            (rename Fr _ _ _ _ => Fz)
            (rename News _ _ _ _ => Nz)
            refine ⟨_, _, _, (Dt, lo) :: (D, listOf ⟨ysl⟩ nd2) :: (I, w1) :: (tb, instObj 182 dx) :: (dx, dictOf [⟨hs, .str (Str.ofString "_headers") tk₀, .ref lh⟩] nd) :: (lh, listOf (rows.map Rw.ref).toArray n) :: (L + 1, o1) :: (L + 1 + 1, o2) :: (L + 1 + 1 + 1 + 1, o4) :: (L + 1 + 1 + 1 + 1 + 1 + 1, o6n) :: (L + 1 + 1 + 1, o3) :: (bl, listOf bv.toArray bn) :: (sl, listOf (shs.map Sh.ref).toArray sn) :: (D2, listOf ys2.toArray nk2) :: tups, rfl, Fz, fun p hp => Nz p (.tail _ hp), fun p hp q hq => ?_, ⟨by rw [← hlo]; exact .head _, trivial⟩, rs, rI, _, _, j1, rfl, fun z hz => w2' z (.tail _ hz), ?_, rfl, rfl, ?_⟩
            · rw [List.mem_singleton.mp hq]
              exact Nat.ne_of_lt (hJ p (by rw [← hlo]; exact hp))
            · intro z hz
              have hz2 := hz
              simp only [List.mem_cons, not_or, List.not_mem_nil, not_false_eq_true, and_true] at hz2
              obtain ⟨y1', y2', y3'⟩ := hz2
              dsimp only
              rw [if_neg y1', if_neg y3', if_neg y2', if_neg y1']
              split
              · rename_i e; rw [e, mx2]
              split
              · rename_i e; rw [e, mb2]
              split
              · rename_i e; rw [e, mq2]
              exact w3' z hz
            · have e9 : addLN ((textsI shs bs wheel side hue).length : Int) (sz :: rI) = ((textsI shs bs wheel side hue).length : Int) + addLN ((textsI shs bs wheel side hue).length : Int) rI := rfl
              rw [e9] at w6'
              exact (Int.add_assoc _ _ _).trans w6'
        · ((repeat ((rename Fr _ _ _ _ => fOld); clear fOld)); (repeat ((rename News _ _ _ _ => nOld); clear nOld)))
          try dsimp only
          rintro m2 nn ⟨rs, rI, tv2, t2, j1, w1', w2', w3', w4', w5', w6'⟩ h tk F N
          cases rs with
          | cons q r => cases w1'
          | nil =>
            cases j1
            subst w5'
            k_steps
            refine ⟨_, _, m2, _, rfl, F, fun p hp => N p (.tail _ (.tail _ hp)), List.forall_mem_cons.2 ⟨ap1 (hI (tb, _) (by k_mem)), List.forall_mem_cons.2 ⟨ap1 (hI (dx, _) (by k_mem)), List.forall_mem_cons.2 ⟨ap1 (hI (lh, _) (by k_mem)), List.forall_mem_cons.2 ⟨ap1 (hI (L + 1, _) (by k_mem)), List.forall_mem_cons.2 ⟨ap1 (hI (L + 1 + 1, _) (by k_mem)), List.forall_mem_cons.2 ⟨ap1 (hI (L + 1 + 1 + 1 + 1, _) (by k_mem)), List.forall_mem_cons.2 ⟨ap1 l6, List.forall_mem_cons.2 ⟨ap1 (hI (L + 1 + 1 + 1, _) (by k_mem)), List.forall_mem_cons.2 ⟨ap1 (hI (bl, _) (by k_mem)), List.forall_mem_cons.2 ⟨ap1 (hI (sl, _) (by k_mem)), List.forall_mem_cons.2 ⟨ap1 (hI (D2, _) (by k_mem)), fun p hp => ap1 (hI p (by simp [hp]))⟩⟩⟩⟩⟩⟩⟩⟩⟩⟩⟩, ⟨by k_mem, trivial⟩, rest, restI, tv2, t2, o6n, _, i1, rfl, ?_, w4', d6n, rfl, ?_, fun z hz => q2 z (.tail _ hz)⟩
            · intro z hz
              have hz2 := hz
              simp only [List.mem_cons, not_or, List.not_mem_nil, not_false_eq_true, and_true] at hz2
              obtain ⟨y1', y2', y3', y4'⟩ := hz2
              rw [w3' z (by simp only [List.mem_cons, not_or, List.not_mem_nil, not_false_eq_true, and_true]; exact ⟨y1', y3', y4'⟩), eG]
              dsimp only
              rw [if_neg y1']
              split
              · rename_i e; rw [e, mb0]
              split
              · rename_i e; rw [e, mq]
              exact hmA z hz
            · have e9 : sumT shs bs wheel side (hue :: restI) = 2 * ((textsI shs bs wheel side hue).length : Int) + sumT shs bs wheel side restI := rfl
              have e8 : addLN ((textsI shs bs wheel side hue).length : Int) [] = 0 := rfl
              rw [e9] at q1
              rw [e8] at w6'
              exact end_sum q1 w6'
  · ((repeat ((rename Fr _ _ _ _ => fOld); clear fOld)); (repeat ((rename News _ _ _ _ => nOld); clear nOld)))
    try dsimp only
    rintro m' nn ⟨rest, restI, tv, t, o6', v6', i1, u1, u3, u5, d6', u4, q1, q2⟩ h tk F N
    cases rest with
    | cons q r => cases u1
    | nil =>
      cases i1
      subst u4
      have e9 : sumT shs bs wheel side [] = 0 := rfl
      rw [e9, Int.add_zero] at q1
      exact k m' h tk o6' v6' t F u3 (by rw [← q1]; exact u5) d6' N

end
theorem reset30 : True := by first | walk1 | trivial
section
open PySem PySem.W PySem.Calls PyProof.Rows
set_option maxRecDepth 100000
set_option maxHeartbeats 8000000
theorem fillC30 (w : World) (h : Heap) (X : (K w.params).In h) (e : rw0.foot = 7) : (K w.params).In h ∧ rw0.foot = 7 := by
  k_fill
  exact ⟨X, e⟩
local macro_rules | `(tactic| walk_at "steps to a for") => `(tactic| repeat' ((fail_if_success (with_reducible show wpAny _ _ (exec (PySem.Stmt.For _ _ _ _ _) _) _ _ _)); (first | (k_unfold; (try dsimp only)) | (k_end; kc_close) | walk1 | (dsimp only; walk1) | (leave1; walk_say "STEP leave1"; (try dsimp only)))))
def fnC : Lean.MacroM Tc := `(tactic| (subst e1'; subst e2'; (try simp only [List.nil_append] at N'); (try (have hnN' := nsKeep (by assumption) hkp')); (try (have hkf' := KF.trans (by assumption) hkp')); clear hfr' hkp'; (try dsimp only)))
local macro_rules | `(tactic| walk_at "call ref") => useR 284 vAny (pVs (vL [vR, vS])) (spT ``contR [hole 0, hole 1, hole 2, hole 3, hole 4]) csTbl (cs [aCase 0, aCase 1, aCase 2, aCase 3, aCase 4]) obB fnC
local macro_rules | `(tactic| walk_at "call ref") => useP 328 (vL [vR, vR, vI]) pSkip (sp ``filledP_ [vAny, hole 0, hole 1, hole 2, hole 3, hole 4]) tlC (cs [cpTwo, aCase 0, aCase 1, aCase 2, aCase 3, oCase 4]) obA fnA
local macro_rules | `(tactic| walk_at "call ref") => useR 146 vAny (pVs (vL [vR])) (spT ``itemsR [hole 0]) csTbl (cs [aCase 0]) obE fnF
local macro_rules | `(tactic| walk_at "call ref") => useR 292 vAny (pVs (vL [vR])) (spT ``lhintR [hole 0]) csTbl (cs [aCase 0]) obF fnA
local macro_rules | `(tactic| walk_at "call ref") => useP 256 (vL [vI, vI]) pSkip (sp ``mul_spec [vAny, vAny, vAny, vAny, vAny, hole 0, hole 1]) tlT (cs [oCase 0, oCase 1]) obA fnA
local macro_rules | `(tactic| walk_at "call ref") => useP 242 (vL [vI, vI]) pSkip (sp ``lsh_spec [vAny, vAny, vAny, vAny, vAny, hole 0, hole 1]) tlT (cs [oCase 0, oCase 1]) obA fnC
local macro_rules | `(tactic| walk_at "call ref") => useP 270 (vL [vI, vI]) pSkip (sp ``rsh_spec [vAny, vAny, vAny, vAny, vAny, hole 0, hole 1]) tlT (cs [oCase 0, oCase 1]) obA fnC
local macro_rules | `(tactic| walk_at "call ref") => useP 263 (vL [vI, vI]) pSkip (sp ``or_spec [vAny, vAny, vAny, vAny, vAny]) tlT (cs []) obA fnC
local macro_rules | `(tactic| walk_at "call ref") => useP 235 (vL [vI, vI]) pSkip (sp ``and_spec [vAny, vAny, vAny, vAny, vAny]) tlT (cs []) obA fnC
local macro_rules | `(tactic| walk_at "compareOp NotEq ref ref") => `(tactic| (refine opq_of ?_))
local macro_rules | `(tactic| k_ne) => `(tactic| (refine neN ?_; (try dsimp only); first | (with_reducible assumption) | exact Ne.symm (by with_reducible assumption)))
local macro_rules | `(tactic| k_all) => `(tactic| assumption)
theorem last_part (w : World) {fa : Addr} {cd : Value} {dp un : Nat} {gd : Option (List Code)} {outer : List Env} {A₀ : Around} {base h₀ h₁ : Heap} {L : Addr} {s : Shared} {tk : Nat} {Q : Flow → Shared → Prop}
    {p : Program} {loose : List Str} {mean : ExcName → Option Value} {mg mb : Str → Option Value} {m : Str → Option Value}
    (B : Below A₀ base outer h₀) (X : (K w.params).In h₀) (T : Top p loose mean mg mb h₀) (hdp : dp + 20 < recursionLimit) (hun : un + 200 < cLine) (F : Fr h₀ L h₁ m)
    {side wheel bits : Int} {t6 t7 t8 : Tok} {tb dx lh rl bl sl fl : Addr} {hs : Int} {tk₀ : Tok} {nd n rn bn sn fn : Nat} {rows rows2 : List Rw} {shs : List Sh} {o1 o2 o3 o4 o5 o6 o7 : Obj} {v6 v7 : Option Value} {bv fv : List Value} {as bs : List Int} {tups : List (Addr × Obj)}
    (mf : m (Str.ofString "first") = some (.ref fl)) (mr : m (Str.ofString "row") = some (.ref rl)) (ms : m (Str.ofString "shades") = some (.ref sl))
    (d1 : o1.data = .cell (some (.int side t6))) (d2 : o2.data = .cell (some (.int wheel t7))) (d3 : o3.data = .cell (some (.ref bl))) (d4 : o4.data = .cell (some (.ref tb))) (d5 : o5.data = .cell (some (.int bits t8))) (d6 : o6.data = .cell v6) (d7 : o7.data = .cell v7)
    (hsd : 1 ≤ side ∧ side ≤ 3) (hW : 6 * side = wheel) (hw : 6 ≤ wheel ∧ wheel ≤ 18) (hb0 : 0 ≤ bits ∧ bits < 2 ^ 18)
    (hbv : IntsAre bv bs) (hbs : ∀ x ∈ bs, 0 ≤ x ∧ x < wheel) (hbl : bs.length ≤ 4) (hfv : IntsAre fv as) (has : ∀ x ∈ as, 0 ≤ x ∧ x < wheel) (hal : as.length ≤ 4)
    (N : News h₀ L h₁ ((tb, instObj 182 dx) :: (dx, dictOf [⟨hs, .str (Str.ofString "_headers") tk₀, .ref lh⟩] nd) :: (lh, listOf (rows.map Rw.ref).toArray n) :: (rl, listOf (rows2.map Rw.ref).toArray rn) :: (L + 1 + 1 + 1 + 1 + 1, o5) :: (L + 1, o1) :: (L + 1 + 1, o2) :: (L + 1 + 1 + 1 + 1, o4) :: (L + 1 + 1 + 1 + 1 + 1 + 1, o6) :: (L + 1 + 1 + 1, o3) :: (bl, listOf bv.toArray bn) :: (sl, listOf (shs.map Sh.ref).toArray sn) :: (fl, listOf fv.toArray fn) :: (L + 1 + 1 + 1 + 1 + 1 + 1 + 1, o7) :: tups))
    (z06 : @Ne Nat tb (L + 1 + 1 + 1 + 1 + 1 + 1)) (z07 : @Ne Nat tb (L + 1 + 1 + 1 + 1 + 1 + 1 + 1)) (z16 : @Ne Nat dx (L + 1 + 1 + 1 + 1 + 1 + 1)) (z17 : @Ne Nat dx (L + 1 + 1 + 1 + 1 + 1 + 1 + 1)) (z26 : @Ne Nat lh (L + 1 + 1 + 1 + 1 + 1 + 1)) (z27 : @Ne Nat lh (L + 1 + 1 + 1 + 1 + 1 + 1 + 1)) (z36 : @Ne Nat rl (L + 1 + 1 + 1 + 1 + 1 + 1)) (z37 : @Ne Nat rl (L + 1 + 1 + 1 + 1 + 1 + 1 + 1)) (z46 : @Ne Nat bl (L + 1 + 1 + 1 + 1 + 1 + 1)) (z47 : @Ne Nat bl (L + 1 + 1 + 1 + 1 + 1 + 1 + 1)) (z56 : @Ne Nat sl (L + 1 + 1 + 1 + 1 + 1 + 1)) (z57 : @Ne Nat sl (L + 1 + 1 + 1 + 1 + 1 + 1 + 1)) (z66 : @Ne Nat fl (L + 1 + 1 + 1 + 1 + 1 + 1)) (z67 : @Ne Nat fl (L + 1 + 1 + 1 + 1 + 1 + 1 + 1))
    (ht : ∀ p ∈ tups, p.2.cls = .type "tuple" ∧ ∃ xs k, p.2.data = .seq xs k) (hr1 : ∀ r ∈ rows, r.ent ∈ tups) (hr2 : ∀ r ∈ rows2, r.ent ∈ tups) (hr3 : ∀ r ∈ shs, r.ent ∈ tups)
    (hkv : rows.map Rw.kv = rows2.map Rw.kv) (hok : ∀ p ∈ rows.map Rw.kv, PyData.strOk p.1 = true ∧ PyData.strOk p.2 = true) (hlen : (rows.length : Int) = (as.length : Int) * (bs.length : Int)) (hsz : rows.length < 2 ^ 20) (hkl : ∀ r ∈ rows, r.k.length ≤ 5592405)
    (hshl : shs.length ≤ 4) (hshr : ∀ r ∈ shs, (1 ≤ r.u ∧ r.u ≤ 3) ∧ (0 ≤ r.w ∧ r.w ≤ 6) ∧ (0 ≤ r.h ∧ r.h < wheel))
    (hc1 : ¬ ((sumsI rows wheel).length : Int) < leastI as bs bits wheel) (hc2 : ((sumsI rows wheel).length : Int) < (as.length : Int) + (bs.length : Int) → ((sumsI rows wheel).length : Int) = leastI as bs bits wheel)
    (hfit : ∀ h ∈ sumsI rows wheel, foundI rows h = textsI shs bs wheel side h) (hmany : ∀ h ∈ sumsI rows wheel, 1 ≤ (textsI shs bs wheel side h).length ∧ ((as.length : Int) + (bs.length : Int)) - ((sumsI rows wheel).length : Int) ≤ ((textsI shs bs wheel side h).length : Int)) (hokT : ∀ h ∈ sumsI rows wheel, ∀ p ∈ textsI shs bs wheel side h, PyData.strOk p = true)
    (hend : 0 + sumT shs bs wheel side (sumsI rows wheel) = 2 * (rows.length : Int))
    (k : ∀ m' h' tk', Fr h₀ L h' m' → Q (.ret (.bool true)) { s with heap := h', toks := tk' }) :
    wpAny (model rw0.row.prog w) (Ar dp un gd (envOfC (Str.ofString "law") lawS.1 L fa cd) outer) (execs lastB.1 (envOfC (Str.ofString "law") lawS.1 L fa cd)) Q (fun _ _ => False) { s with heap := h₁, toks := tk } := by
  dsimp only [lawS, lastB]
  obtain ⟨k1, k2, k3, k4, k5⟩ := (cells_ne L).1
  obtain ⟨j1, j2, j3, j4, j5, j6⟩ := cells_ne7 L
  have F1 := fr_fix F (Str.ofString "first") _ mf
  have F2 := fr_fix F1 (Str.ofString "row") _ mr
  have F3 := fr_fix F2 (Str.ofString "shades") _ ms
  clear F F1 F2
  have hTM := tm tb dx lh hs tk₀ nd n rows
  have hl1 : (fv.toArray.size : Int) = as.length := by have := hfv.length; simp; omega
  have hl2 : (bv.toArray.size : Int) = bs.length := by have := hbv.length; simp; omega
  have x6 := ne_tupC N ht (fun p hp => by simp [hp]) (b := L + 1 + 1 + 1 + 1 + 1 + 1) (by k_mem) d6
  have x7 := ne_tupC N ht (fun p hp => by simp [hp]) (b := L + 1 + 1 + 1 + 1 + 1 + 1 + 1) (by k_mem) d7
  walk_at "steps to a comprehension"
  constructor
  (rename News _ _ _ _ => N9)
  (rename Fr _ _ _ _ => F9)
  refine ne_rows N9 (.head _) (by k_mem) (rows_in hr1 fun p hp => by simp [hp]) (rows_in hr2 fun p hp => by simp [hp]) hkv hok (by show un + 64 < cLine; omega) ?_
  have N10 : News _ _ _ _ := fun p hp => N9 p (.tail _ hp)
  clear N9
  walk_at "steps to a comprehension"
  · exact absurd hlen (by assumption)
  (rename News _ _ _ _ => Na)
  (rename Fr _ _ _ _ => Fa)
  (rename _ = Data.cell (some (Value.int (1 * 2 ^ wheel.toNat - 1) _)) => d7')
  obtain ⟨mA, FA, eA⟩ := fr_name Fa
  clear Fa
  have mf' : mA (Str.ofString "first") = some (.ref fl) := by rw [eA]; rfl
  have ms' : mA (Str.ofString "shades") = some (.ref sl) := by rw [eA]; rfl
  clear eA
  k_dflt (refine' Assign_ListComp_DCr (h₀ := h₀) (L := L) (m := mA) (pz := keepP bits wheel) (d := PyData.int) ?hsw ?hL ?hh ?hclos ?hcell ?hkind ?hnames ?hx ?hy ?hp (wpAny_bx ?h) ?hs; (case hsw => with_unfolding_all rfl); (case hL => with_unfolding_all rfl); (case hh => with_unfolding_all rfl); (case hclos => with_unfolding_all rfl); (case hcell => decide); (case hkind => with_unfolding_all rfl); (case hnames => decide); (case hx => with_unfolding_all rfl); (case hy => with_unfolding_all rfl); (case hp => with_unfolding_all rfl); (case hs => intro _; with_unfolding_all rfl))
  k_steps
  constructor
  (rename News _ _ _ _ => Nr)
  (rename Fr _ _ _ _ => Fb)
  (rename IsRange _ _ _ _ _ _ _ _ => hR)
  obtain ⟨g1, g2, g3⟩ := rng_facts hsd hW
  refine ⟨_, _, 0, wheel, 1, _, _, _, wheel.toNat, rfl, hR, g1, g2, g3, Fb, Nr, ?tst, ?elt, ?done⟩
  case tst =>
    intro C a v s₂ m₂ E' hC ha hv hn hm hkc
    obtain ⟨t, rfl⟩ := hv
    have ha' := rng_mem (by omega) ha
    have Fc2 := Fr.keeps Fb hkc
    have Nc2 : News h₀ L s₂.heap _ := News.grown Nr hkc
    clear Fb Nr hR
    have hkf : KF s₂.heap s₂.heap := fun _ _ e => e
    k_steps
    exact ⟨_, _, rfl, (by assumption : KF _ _)⟩
  case elt =>
    intro C a v s₂ m₂ E' hC ha hv _ hn hm hkc
    obtain ⟨t, rfl⟩ := hv
    have Fc2 := Fr.keeps Fb hkc
    have Nc2 : News h₀ L s₂.heap _ := News.grown Nr hkc
    clear Fb Nr hR
    k_steps
    · exact .int _ _
    · exact keeps_refl _
  case done =>
    intro D ys h9 tk9 F9 N9 hD0 hl9 hnp hcar
    have ik := ints_of hcar
    have ikl : (List.filter (keepP bits wheel) (rangeInts 0 1 wheel.toNat)).length ≤ 18 := Nat.le_trans (List.length_filter_le _ _) (by rw [rangeInts_length]; omega)
    obtain ⟨nk, N10⟩ := new_entry F9 N9 hD0 hnp
    clear Fb Nr N9 hcar hnp hl9
    have F10 := fr_fix F9 (Str.ofString "first") _ mf'
    have F11 := fr_fix F10 (Str.ofString "shades") _ ms'
    clear F9 F10
    walk_at "steps to a comprehension"
    (rename News _ _ _ _ => Nd)
    (rename Fr _ _ _ _ => Fd)
    obtain ⟨mB, FB, eB⟩ := fr_name Fd
    clear Fd
    have mf2 : mB (Str.ofString "first") = some (.ref fl) := by rw [eB]; rfl
    have ms2 : mB (Str.ofString "shades") = some (.ref sl) := by rw [eB]; rfl
    obtain ⟨tle, ml2⟩ : ∃ t, mB (Str.ofString "least") = some (.int (leastI as bs bits wheel) t) := ⟨_, by rw [eB]; rfl⟩
    obtain ⟨tbo, mb2⟩ : ∃ t, mB (Str.ofString "both") = some (.int ((as.length : Int) + (bs.length : Int)) t) := ⟨_, by rw [eB, ← hl1, ← hl2]; rfl⟩
    clear eB
    k_dflt (refine' Assign_ListComp_DCr (h₀ := h₀) (L := L) (m := mB) (pz := sumP rows) (d := PyData.int) ?hsw ?hL ?hh ?hclos ?hcell ?hkind ?hnames ?hx ?hy ?hp (wpAny_bx ?h) ?hs; (case hsw => with_unfolding_all rfl); (case hL => with_unfolding_all rfl); (case hh => with_unfolding_all rfl); (case hclos => with_unfolding_all rfl); (case hcell => decide); (case hkind => with_unfolding_all rfl); (case hnames => decide); (case hx => with_unfolding_all rfl); (case hy => with_unfolding_all rfl); (case hp => with_unfolding_all rfl); (case hs => intro _; with_unfolding_all rfl))
    k_steps
    constructor
    (rename News _ _ _ _ => Nr2)
    (rename Fr _ _ _ _ => Fb2)
    (rename IsRange _ _ _ _ _ _ _ _ => hR2)
    refine ⟨_, _, 0, wheel, 1, _, _, _, wheel.toNat, rfl, hR2, g1, g2, g3, Fb2, Nr2, ?tst, ?elt, ?done⟩
    case tst =>
      intro C a v s₂ m₂ E' hC ha hv hn hm hkc
      obtain ⟨t, rfl⟩ := hv
      have ha' := rng_mem (by omega) ha
      have Fc2 := Fr.keeps Fb2 hkc
      have Nc2 : News h₀ L s₂.heap _ := News.grown Nr2 hkc
      have hkf : KF s₂.heap s₂.heap := fun _ _ e => e
      obtain ⟨lf1, lf2, lf3, lf4⟩ := low_fine ha'.1 (by omega : a < 18)
      have ln1 := chr1_len (65 + a).toNat
      clear Fb2 Nr2 hR2
      k_steps
      exact ⟨_, _, rfl, (by assumption : KF _ _)⟩
    case elt =>
      intro C a v s₂ m₂ E' hC ha hv _ hn hm hkc
      obtain ⟨t, rfl⟩ := hv
      have Fc2 := Fr.keeps Fb2 hkc
      have Nc2 : News h₀ L s₂.heap _ := News.grown Nr2 hkc
      clear Fb2 Nr2 hR2
      k_steps
      · exact .int _ _
      · exact keeps_refl _
    case done =>
      intro D2 ys2 h10 tk10 G9 M9 hD2 hl10 hnp2 hcar2
      have ik2 := ints_of hcar2
      have ikl2 : (List.filter (sumP rows) (rangeInts 0 1 wheel.toNat)).length ≤ 18 := Nat.le_trans (List.length_filter_le _ _) (by rw [rangeInts_length]; omega)
      obtain ⟨nk2, M10⟩ := new_entry G9 M9 hD2 hnp2
      clear Fb2 Nr2 M9 hcar2 hnp2 hl10
      have G10 := fr_fix G9 (Str.ofString "first") _ mf2
      have G11 := fr_fix G10 (Str.ofString "shades") _ ms2
      have G12 := fr_fix G11 (Str.ofString "least") _ ml2
      have G13 := fr_fix G12 (Str.ofString "both") _ mb2
      clear G9 G10 G11 G12
      walk_at "steps to a for"
      · exact absurd (by assumption) hc1
      · exact absurd (hc2 (by assumption)) (by assumption)
      · (rename News _ _ _ _ => Nz)
        (rename Fr _ _ _ _ => Fz)
        have zD : @Ne Nat D2 (L + 1 + 1 + 1 + 1 + 1 + 1) := ne_data Nz (.head _) (o' := o6) (by k_mem) (by rw [d6]; exact fun e => nomatch e)
        have Nw : News h₀ L _ ((tb, instObj 182 dx) :: (dx, dictOf [⟨hs, .str (Str.ofString "_headers") tk₀, .ref lh⟩] nd) :: (lh, listOf (rows.map Rw.ref).toArray n) :: (L + 1, o1) :: (L + 1 + 1, o2) :: (L + 1 + 1 + 1 + 1, o4) :: (L + 1 + 1 + 1 + 1 + 1 + 1, o6) :: (L + 1 + 1 + 1, o3) :: (bl, listOf bv.toArray bn) :: (sl, listOf (shs.map Sh.ref).toArray sn) :: (D2, listOf ys2.toArray nk2) :: tups) := List.forall_mem_cons.2 ⟨Nz _ (by k_mem), List.forall_mem_cons.2 ⟨Nz _ (by k_mem), List.forall_mem_cons.2 ⟨Nz _ (by k_mem), List.forall_mem_cons.2 ⟨Nz _ (by k_mem), List.forall_mem_cons.2 ⟨Nz _ (by k_mem), List.forall_mem_cons.2 ⟨Nz _ (by k_mem), List.forall_mem_cons.2 ⟨Nz _ (by k_mem), List.forall_mem_cons.2 ⟨Nz _ (by k_mem), List.forall_mem_cons.2 ⟨Nz _ (by k_mem), List.forall_mem_cons.2 ⟨Nz _ (by k_mem), List.forall_mem_cons.2 ⟨Nz _ (by k_mem), fun p hp => Nz p (by repeat (first | exact hp | refine List.Mem.tail _ ?_))⟩⟩⟩⟩⟩⟩⟩⟩⟩⟩⟩
        with_unfolding_all refine sums_loop w B X T hdp hun Fz rfl rfl rfl rfl d1 d2 d3 d4 d6 hsd hW hw ⟨by omega, by omega⟩ hbv ik2 (fun x hx => rng_mem (by omega) (List.mem_filter.mp hx).1) ikl2 hshl hshr Nw z06 z16 z26 z46 z56 zD ht hr1 hr3 hsz hkl hfit hmany hokT ?_
        intro m9 h9' tk9' o6' v6' t9 F9' hm9 ht9 d9 N9'
        have F99 := fr_fix F9' (Str.ofString "told") _ ht9
        clear Nz Fz Nw F9'
        k_steps
        have hfin : (0 + sumT shs bs wheel side (List.filter (sumP rows) (rangeInts 0 1 wheel.toNat)) == 2 * (rows.length : Int)) = true := beq_iff_eq.mpr hend
        (rename Fr _ _ _ _ => Fq)
        rw [hfin]
        exact k _ _ _ Fq
      · (rename News _ _ _ _ => Nz)
        (rename Fr _ _ _ _ => Fz)
        have zD : @Ne Nat D2 (L + 1 + 1 + 1 + 1 + 1 + 1) := ne_data Nz (.head _) (o' := o6) (by k_mem) (by rw [d6]; exact fun e => nomatch e)
        have Nw : News h₀ L _ ((tb, instObj 182 dx) :: (dx, dictOf [⟨hs, .str (Str.ofString "_headers") tk₀, .ref lh⟩] nd) :: (lh, listOf (rows.map Rw.ref).toArray n) :: (L + 1, o1) :: (L + 1 + 1, o2) :: (L + 1 + 1 + 1 + 1, o4) :: (L + 1 + 1 + 1 + 1 + 1 + 1, o6) :: (L + 1 + 1 + 1, o3) :: (bl, listOf bv.toArray bn) :: (sl, listOf (shs.map Sh.ref).toArray sn) :: (D2, listOf ys2.toArray nk2) :: tups) := List.forall_mem_cons.2 ⟨Nz _ (by k_mem), List.forall_mem_cons.2 ⟨Nz _ (by k_mem), List.forall_mem_cons.2 ⟨Nz _ (by k_mem), List.forall_mem_cons.2 ⟨Nz _ (by k_mem), List.forall_mem_cons.2 ⟨Nz _ (by k_mem), List.forall_mem_cons.2 ⟨Nz _ (by k_mem), List.forall_mem_cons.2 ⟨Nz _ (by k_mem), List.forall_mem_cons.2 ⟨Nz _ (by k_mem), List.forall_mem_cons.2 ⟨Nz _ (by k_mem), List.forall_mem_cons.2 ⟨Nz _ (by k_mem), List.forall_mem_cons.2 ⟨Nz _ (by k_mem), fun p hp => Nz p (by repeat (first | exact hp | refine List.Mem.tail _ ?_))⟩⟩⟩⟩⟩⟩⟩⟩⟩⟩⟩
        with_unfolding_all refine sums_loop w B X T hdp hun Fz rfl rfl rfl rfl d1 d2 d3 d4 d6 hsd hW hw ⟨by omega, by omega⟩ hbv ik2 (fun x hx => rng_mem (by omega) (List.mem_filter.mp hx).1) ikl2 hshl hshr Nw z06 z16 z26 z46 z56 zD ht hr1 hr3 hsz hkl hfit hmany hokT ?_
        intro m9 h9' tk9' o6' v6' t9 F9' hm9 ht9 d9 N9'
        have F99 := fr_fix F9' (Str.ofString "told") _ ht9
        clear Nz Fz Nw F9'
        k_steps
        have hfin : (0 + sumT shs bs wheel side (List.filter (sumP rows) (rangeInts 0 1 wheel.toNat)) == 2 * (rows.length : Int)) = true := beq_iff_eq.mpr hend
        (rename Fr _ _ _ _ => Fq)
        rw [hfin]
        exact k _ _ _ Fq

end
theorem reset31 : True := by first | walk1 | trivial
section
set_option maxRecDepth 100000
set_option maxHeartbeats 8000000
/-- how many below n -/
noncomputable def cnt (n : Nat) (p : Nat → Bool) : Nat := (List.range n).countP p
noncomputable def sP (n : Nat) (p q : Nat → Bool) (h : Nat) : Bool := (List.range n).any fun i => (List.range n).any fun j => p i && q j && ((i + j) % n == h)
noncomputable def kP (n : Nat) (S : Nat → Bool) (t : Nat) : Bool := (List.range n).all fun h => S ((h + t) % n) == S h
noncomputable def repP (n : Nat) (p q : Nat → Bool) (h : Nat) : Nat := cnt n fun i => p i && (List.range n).any fun j => q j && ((i + j) % n == h)
structure Good (n : Nat) (p q : Nat → Bool) : Prop where
  g1 : cnt n (sP n p (kP n (sP n p q))) + cnt n (sP n q (kP n (sP n p q))) ≤ cnt n (sP n p q) + cnt n (kP n (sP n p q))
  g2 : cnt n (sP n p q) < cnt n p + cnt n q → cnt n (sP n p q) + cnt n (kP n (sP n p q)) = cnt n (sP n p (kP n (sP n p q))) + cnt n (sP n q (kP n (sP n p q)))
  g3 : ∀ h, h < n → sP n p q h = true → cnt n p + cnt n q ≤ cnt n (sP n p q) + repP n p q h
theorem sP_iff {n : Nat} {p q : Nat → Bool} {h : Nat} : sP n p q h = true ↔ ∃ i j, i < n ∧ j < n ∧ p i = true ∧ q j = true ∧ (i + j) % n = h := by
  unfold sP
  simp only [List.any_eq_true, List.mem_range, Bool.and_eq_true, beq_iff_eq]
  constructor
  · rintro ⟨i, hi, j, hj, ⟨a, b⟩, c⟩; exact ⟨i, j, hi, hj, a, b, c⟩
  · rintro ⟨i, j, hi, hj, a, b, c⟩; exact ⟨i, hi, j, hj, ⟨a, b⟩, c⟩
theorem cnt_congr {n : Nat} {p q : Nat → Bool} (h : ∀ i, i < n → p i = q i) : cnt n p = cnt n q := by
  unfold cnt
  exact List.countP_congr fun i hi => by rw [h i (List.mem_range.mp hi)]
theorem back {n a x : Nat} (hx : x < n) : ((x + (n - a % n)) % n + a) % n = x := by
  have hn : 0 < n := Nat.lt_of_le_of_lt (Nat.zero_le x) hx
  rw [Nat.mod_add_mod, ← Nat.add_mod_mod, Nat.add_assoc, Nat.sub_add_cancel (Nat.le_of_lt (Nat.mod_lt a hn)), Nat.add_mod_right, Nat.mod_eq_of_lt hx]
theorem forth {n a x : Nat} (hx : x < n) : ((x + a) % n + (n - a % n)) % n = x := by
  have e := back (a := a) hx
  rw [Nat.mod_add_mod] at e ⊢
  rw [Nat.add_right_comm]; exact e
theorem cancel {n a x y : Nat} (hx : x < n) (hy : y < n) (e : (x + a) % n = (y + a) % n) : x = y := by
  rw [← forth (a := a) hx, e, forth hy]
theorem sum4 (n i j a b : Nat) : ((i + a) % n + (j + b) % n) % n = ((i + j) % n + a + b) % n := by
  rw [Nat.mod_add_mod, Nat.add_mod_mod, Nat.add_assoc ((i + j) % n), Nat.mod_add_mod, Nat.add_add_add_comm]
theorem swap2 (n h c t : Nat) : ((h + t) % n + c) % n = ((h + c) % n + t) % n := by
  rw [Nat.mod_add_mod, Nat.mod_add_mod, Nat.add_right_comm]
theorem shift_perm (n a : Nat) (hn : 0 < n) : ((List.range n).map fun h => (h + a) % n).Perm (List.range n) := by
  refine (List.perm_ext_iff_of_nodup ?_ List.nodup_range).mpr fun x => ?_
  · unfold List.Nodup
    rw [List.pairwise_map]
    refine List.Pairwise.imp_of_mem (fun {x y} hx hy hne e => hne ?_) List.nodup_range
    have hx := List.mem_range.mp hx
    have hy := List.mem_range.mp hy
    exact cancel hx hy e
  · constructor
    · intro h
      obtain ⟨y, _, rfl⟩ := List.mem_map.mp h
      exact List.mem_range.mpr (Nat.mod_lt _ hn)
    · intro h
      have hx := List.mem_range.mp h
      exact List.mem_map.mpr ⟨(x + (n - a % n)) % n, List.mem_range.mpr (Nat.mod_lt _ hn), back hx⟩
theorem cnt_shift {n a : Nat} (hn : 0 < n) (p : Nat → Bool) : cnt n (fun h => p ((h + a) % n)) = cnt n p := by
  have := (shift_perm n a hn).countP_eq p
  rw [List.countP_map] at this
  exact this
theorem sP_congr {n : Nat} {p p2 q q2 : Nat → Bool} {h : Nat} (hp : ∀ i, i < n → p i = p2 i) (hq : ∀ j, j < n → q j = q2 j) : sP n p q h = sP n p2 q2 h := by
  rw [Bool.eq_iff_iff, sP_iff, sP_iff]
  constructor
  · rintro ⟨i, j, hi, hj, a, b, c⟩; exact ⟨i, j, hi, hj, by rw [← hp i hi]; exact a, by rw [← hq j hj]; exact b, c⟩
  · rintro ⟨i, j, hi, hj, a, b, c⟩; exact ⟨i, j, hi, hj, by rw [hp i hi]; exact a, by rw [hq j hj]; exact b, c⟩
section
variable {n a b : Nat} (h3 : n = 6 ∨ n = 12 ∨ n = 18)
include h3
theorem unshift (x : Nat) (hx : x < n) : ∃ i, i < n ∧ (i + a) % n = x := ⟨(x + (n - a % n)) % n, Nat.mod_lt _ (Nat.lt_of_le_of_lt (Nat.zero_le x) hx), back hx⟩
theorem n_pos : 0 < n := by rcases h3 with rfl | rfl | rfl <;> decide
theorem sP_shift {p q : Nat → Bool} {h : Nat} (hh : h < n) : sP n (fun i => p ((i + a) % n)) (fun j => q ((j + b) % n)) h = sP n p q ((h + a + b) % n) := by
  rw [Bool.eq_iff_iff, sP_iff, sP_iff]
  constructor
  · rintro ⟨i, j, hi, hj, x, y, c⟩
    exact ⟨(i + a) % n, (j + b) % n, Nat.mod_lt _ (n_pos h3), Nat.mod_lt _ (n_pos h3), x, y, by rw [sum4, c]⟩
  · rintro ⟨i', j', hi, hj, x, y, c⟩
    obtain ⟨i, hi2, rfl⟩ := unshift (a := a) h3 i' hi
    obtain ⟨j, hj2, rfl⟩ := unshift (a := b) h3 j' hj
    rw [sum4, Nat.add_assoc, Nat.add_assoc] at c
    exact ⟨i, j, hi2, hj2, x, y, cancel (Nat.mod_lt _ (n_pos h3)) hh c⟩
theorem kP_iff {S : Nat → Bool} {t : Nat} : kP n S t = true ↔ ∀ h, h < n → S ((h + t) % n) = S h := by
  unfold kP; simp only [List.all_eq_true, List.mem_range, beq_iff_eq]
theorem kP_shift {S : Nat → Bool} {c t : Nat} {S' : Nat → Bool} (e : ∀ h, h < n → S' h = S ((h + c) % n)) : kP n S' t = kP n S t := by
  rw [Bool.eq_iff_iff, kP_iff h3, kP_iff h3]
  have hn : 0 < n := n_pos h3
  have e2 : ∀ h, h < n → (S' ((h + t) % n) = S ((((h + c) % n) + t) % n)) := fun h hh => by
    rw [e _ (Nat.mod_lt _ hn)]; rw [swap2]
  constructor
  · intro k x hx
    obtain ⟨h, hh, rfl⟩ := unshift (a := c) h3 x hx
    rw [← e2 h hh, ← e h hh]; exact k h hh
  · intro k h hh
    rw [e2 h hh, e h hh]; exact k _ (Nat.mod_lt _ hn)
theorem rep_shift {p q : Nat → Bool} {h : Nat} (hh : h < n) : repP n (fun i => p ((i + a) % n)) (fun j => q ((j + b) % n)) h = repP n p q ((h + a + b) % n) := by
  unfold repP
  rw [← cnt_shift (a := a) (n_pos h3) (fun i => p i && (List.range n).any fun j => q j && ((i + j) % n == (h + a + b) % n))]
  refine cnt_congr fun i hi => ?_
  congr 1
  rw [Bool.eq_iff_iff]
  simp only [List.any_eq_true, List.mem_range, Bool.and_eq_true, beq_iff_eq]
  constructor
  · rintro ⟨j, hj, y, c⟩; exact ⟨(j + b) % n, Nat.mod_lt _ (n_pos h3), y, by rw [sum4, c]⟩
  · rintro ⟨j', hj, y, c⟩
    obtain ⟨j, hj2, rfl⟩ := unshift (a := b) h3 j' hj
    rw [sum4, Nat.add_assoc, Nat.add_assoc] at c
    exact ⟨j, hj2, y, cancel (Nat.mod_lt _ (n_pos h3)) hh c⟩
theorem Good.shift {p q : Nat → Bool} (G : Good n (fun i => p ((i + a) % n)) (fun j => q ((j + b) % n))) : Good n p q := by
  have hn : 0 < n := n_pos h3
  have es : ∀ h, h < n → sP n (fun i => p ((i + a) % n)) (fun j => q ((j + b) % n)) h = sP n p q ((h + (a + b)) % n) := fun h hh => by rw [sP_shift h3 hh, Nat.add_assoc]
  have ek : ∀ t, kP n (sP n (fun i => p ((i + a) % n)) (fun j => q ((j + b) % n))) t = kP n (sP n p q) t := fun t => kP_shift h3 es
  have cs : cnt n (sP n (fun i => p ((i + a) % n)) (fun j => q ((j + b) % n))) = cnt n (sP n p q) := by
    rw [cnt_congr es, cnt_shift hn (sP n p q)]
  have ck : cnt n (kP n (sP n (fun i => p ((i + a) % n)) (fun j => q ((j + b) % n)))) = cnt n (kP n (sP n p q)) := cnt_congr fun t _ => ek t
  have cf : ∀ (r : Nat → Bool) (c : Nat), cnt n (sP n (fun i => r ((i + c) % n)) (kP n (sP n (fun i => p ((i + a) % n)) (fun j => q ((j + b) % n))))) = cnt n (sP n r (kP n (sP n p q))) := fun r c => by
    rw [cnt_congr (q := fun h => sP n r (kP n (sP n p q)) ((h + c) % n)) fun h hh => ?_, cnt_shift hn]
    have := sP_shift (a := c) (b := 0) (p := r) (q := kP n (sP n p q)) h3 hh
    rw [Nat.add_zero] at this
    rw [← this]
    exact sP_congr (fun _ _ => rfl) fun j hj => by rw [ek, Nat.add_zero, Nat.mod_eq_of_lt hj]
  have cp : cnt n (fun i => p ((i + a) % n)) = cnt n p := cnt_shift hn p
  have cq : cnt n (fun i => q ((i + b) % n)) = cnt n q := cnt_shift hn q
  obtain ⟨g1, g2, g3⟩ := G
  rw [cf p a, cf q b, cs, ck] at g1 g2
  rw [cp, cq] at g2
  refine ⟨g1, g2, fun x hx hS => ?_⟩
  obtain ⟨h, hh, rfl⟩ := unshift (a := a + b) h3 x hx
  have := g3 h hh (by rw [es h hh]; exact hS)
  rw [cp, cq, cs, rep_shift h3 hh, Nat.add_assoc] at this
  exact this
end

end
section
set_option maxRecDepth 100000
set_option maxHeartbeats 8000000
noncomputable def fn (x : Nat) (f : Nat → Bool) : Bool := Nat.rec (motive := fun _ => Bool) (f 0) (fun n _ => f (Nat.succ n)) x
theorem fn_eq (x : Nat) (f : Nat → Bool) : fn x f = f x := by cases x <;> rfl
noncomputable def rotM (n m i : Nat) : Nat := ((m <<< i) ||| (m >>> (n - i))) &&& (2 ^ n - 1)
noncomputable def sM (n a b : Nat) : Nat := (List.range n).foldl (fun acc i => bif a.testBit i then acc ||| rotM n b i else acc) 0
noncomputable def kM (n s : Nat) : Nat := (List.range n).foldl (fun acc t => bif rotM n s t == s then acc ||| (1 <<< t) else acc) 0
noncomputable def pc : Nat → Nat → Nat
  | 0, _ => 0
  | k + 1, m => m % 2 + pc k (m / 2)
noncomputable def repM (n a b h : Nat) : Nat := (List.range n).countP fun i => a.testBit i && b.testBit ((h + (n - i)) % n)
noncomputable def goodM (n a b : Nat) : Bool :=
  fn (sM n a b) fun s => fn (kM n s) fun k => fn (pc n s) fun cs => fn (pc n k) fun ck => fn (pc n a + pc n b) fun cab => fn (pc n (sM n a k) + pc n (sM n b k)) fun cf =>
    Nat.ble cf (cs + ck) && (Nat.ble cab cs || cs + ck == cf) && (Nat.ble cab (cs + 1) || (List.range n).all fun h => !s.testBit h || Nat.ble cab (cs + repM n a b h))
theorem rot_lt {n m i : Nat} : rotM n m i < 2 ^ n := Nat.lt_of_le_of_lt Nat.and_le_right (by have := Nat.two_pow_pos n; omega)
theorem rot_bit {n m i h : Nat} (hm : m < 2 ^ n) (hi : i < n) (hh : h < n) : (rotM n m i).testBit h = m.testBit ((h + (n - i)) % n) := by
  unfold rotM
  rw [Nat.testBit_and, Nat.testBit_or, Nat.testBit_shiftLeft, Nat.testBit_shiftRight, Nat.testBit_two_pow_sub_one]
  have e1 : decide (h < n) = true := decide_eq_true hh
  rw [e1, Bool.and_true]
  by_cases c : i ≤ h
  · have e2 : (h + (n - i)) % n = h - i := by
      rw [← Nat.add_sub_assoc (Nat.le_of_lt hi), Nat.sub_add_comm c, Nat.add_mod_right, Nat.mod_eq_of_lt (Nat.lt_of_le_of_lt (Nat.sub_le h i) hh)]
    have e3 : m.testBit (n - i + h) = false := Nat.testBit_lt_two_pow (Nat.lt_of_lt_of_le hm (Nat.pow_le_pow_right (by decide) (Nat.le_trans (Nat.le_of_eq (Nat.sub_add_cancel (Nat.le_of_lt hi)).symm) (Nat.add_le_add_left c _))))
    rw [e2, e3, Bool.or_false, decide_eq_true (show h ≥ i from c), Bool.true_and]
  · have e2 : (h + (n - i)) % n = n - i + h := by
      rw [Nat.add_comm h, Nat.mod_eq_of_lt (Nat.lt_of_lt_of_eq (Nat.add_lt_add_left (Nat.lt_of_not_le c) (n - i)) (Nat.sub_add_cancel (Nat.le_of_lt hi)))]
    rw [e2, decide_eq_false (show ¬ h ≥ i from c), Bool.false_and, Bool.false_or]
theorem bit_out {n m h : Nat} (hm : m < 2 ^ n) (hh : n ≤ h) : m.testBit h = false := Nat.testBit_lt_two_pow (Nat.lt_of_lt_of_le hm (Nat.pow_le_pow_right (by decide) hh))
theorem fold_bit (c : Nat → Bool) (g : Nat → Nat) (h : Nat) : ∀ (l : List Nat) (acc : Nat), (l.foldl (fun acc i => bif c i then acc ||| g i else acc) acc).testBit h = (acc.testBit h || l.any fun i => c i && (g i).testBit h)
  | [], acc => by simp
  | x :: l, acc => by
    rw [List.foldl_cons, fold_bit c g h l, List.any_cons]
    cases c x <;> simp [Nat.testBit_or, Bool.or_assoc]
theorem fold_lt {n : Nat} (c : Nat → Bool) (g : Nat → Nat) : ∀ (l : List Nat) (acc : Nat), acc < 2 ^ n → (∀ i ∈ l, g i < 2 ^ n) → l.foldl (fun acc i => bif c i then acc ||| g i else acc) acc < 2 ^ n
  | [], acc, h, _ => h
  | x :: l, acc, h, hg => by
    rw [List.foldl_cons]
    refine fold_lt c g l _ ?_ fun i hi => hg i (.tail _ hi)
    cases c x
    · exact h
    · exact Nat.or_lt_two_pow h (hg x (.head _))
theorem sM_lt {n a b : Nat} : sM n a b < 2 ^ n := fold_lt _ _ _ _ (Nat.two_pow_pos n) fun _ _ => rot_lt
theorem kM_lt {n s : Nat} : kM n s < 2 ^ n := fold_lt _ _ _ _ (Nat.two_pow_pos n) fun t ht => by
  have := List.mem_range.mp ht
  rw [Nat.one_shiftLeft]; exact Nat.pow_lt_pow_right (by decide) this
section
variable {n : Nat} (h3 : n = 6 ∨ n = 12 ∨ n = 18)
include h3
omit h3 in
theorem wrap {i j : Nat} (hi : i < n) (hj : j < n) : ((i + j) % n + (n - i)) % n = j := by
  have e := forth (a := i) hj
  rw [Nat.mod_eq_of_lt hi, Nat.add_comm j i] at e; exact e
omit h3 in
theorem wrap2 {i h : Nat} (hi : i < n) (hh : h < n) : (i + (h + (n - i)) % n) % n = h := by
  have e := back (a := i) hh
  rw [Nat.mod_eq_of_lt hi, Nat.add_comm _ i] at e; exact e
theorem any_one {b i h : Nat} (hi : i < n) (hh : h < n) : ((List.range n).any fun j => b.testBit j && ((i + j) % n == h)) = b.testBit ((h + (n - i)) % n) := by
  rw [Bool.eq_iff_iff]
  simp only [List.any_eq_true, List.mem_range, Bool.and_eq_true, beq_iff_eq]
  constructor
  · rintro ⟨j, hj, x, rfl⟩
    rw [wrap hi hj]; exact x
  · intro x
    exact ⟨(h + (n - i)) % n, Nat.mod_lt _ (n_pos h3), x, wrap2 hi hh⟩
theorem sM_bit {a b h : Nat} (hb : b < 2 ^ n) (hh : h < n) : (sM n a b).testBit h = sP n a.testBit b.testBit h := by
  unfold sM
  rw [fold_bit, Nat.zero_testBit, Bool.false_or]
  unfold sP
  rw [Bool.eq_iff_iff]
  simp only [List.any_eq_true, List.mem_range]
  constructor
  · rintro ⟨i, hi, e⟩
    rw [rot_bit hb hi hh, ← any_one h3 hi hh, Bool.and_eq_true] at e
    obtain ⟨e1, e2⟩ := e
    obtain ⟨j, hj, e3⟩ := List.any_eq_true.mp e2
    exact ⟨i, hi, j, List.mem_range.mp hj, by rw [e1, Bool.true_and]; exact e3⟩
  · rintro ⟨i, hi, j, hj, e⟩
    refine ⟨i, hi, ?_⟩
    simp only [Bool.and_eq_true, beq_iff_eq] at e
    rw [rot_bit hb hi hh, ← any_one h3 hi hh, Bool.and_eq_true]
    exact ⟨e.1.1, List.any_eq_true.mpr ⟨j, List.mem_range.mpr hj, by rw [e.1.2, e.2]; simp⟩⟩
theorem rot_eq_iff {s t : Nat} (hs : s < 2 ^ n) (ht : t < n) : (rotM n s t == s) = kP n s.testBit t := by
  rw [Bool.eq_iff_iff, kP_iff h3, beq_iff_eq]
  constructor
  · intro e h hh
    have := rot_bit hs ht (Nat.mod_lt (h + t) (n_pos h3))
    rw [e, Nat.add_comm h t, wrap ht hh] at this
    rw [Nat.add_comm h t, this]
  · intro k
    refine Nat.eq_of_testBit_eq fun h => ?_
    by_cases hh : h < n
    · rw [rot_bit hs ht hh, ← k ((h + (n - t)) % n) (Nat.mod_lt _ (n_pos h3)), Nat.add_comm _ t, wrap2 ht hh]
    · rw [bit_out rot_lt (Nat.le_of_not_lt hh), bit_out hs (Nat.le_of_not_lt hh)]
theorem kM_bit {s t : Nat} (hs : s < 2 ^ n) (ht : t < n) : (kM n s).testBit t = kP n s.testBit t := by
  unfold kM
  rw [fold_bit, Nat.zero_testBit, Bool.false_or, Bool.eq_iff_iff]
  simp only [List.any_eq_true, List.mem_range]
  constructor
  · rintro ⟨i, hi, e⟩
    rw [Nat.one_shiftLeft, Nat.testBit_two_pow, Bool.and_eq_true, decide_eq_true_eq] at e
    obtain ⟨e1, rfl⟩ := e
    rw [← rot_eq_iff h3 hs ht]; exact e1
  · intro e
    exact ⟨t, ht, by rw [Nat.one_shiftLeft, Nat.testBit_two_pow, rot_eq_iff h3 hs ht, e]; simp⟩
theorem pc_eq : ∀ (k m : Nat), pc k m = cnt k m.testBit
  | 0, m => rfl
  | k + 1, m => by
    have ih := pc_eq k (m / 2)
    unfold pc cnt
    rw [List.range_succ_eq_map, List.countP_cons, List.countP_map, ih]
    unfold cnt
    have e : (m.testBit ∘ Nat.succ) = (m / 2).testBit := by funext i; exact Nat.testBit_succ ..
    rw [e, Nat.testBit_zero]
    rcases Nat.mod_two_eq_zero_or_one m with x | x <;> rw [x] <;> simp <;> omega
theorem repM_eq {a b h : Nat} (hh : h < n) : repM n a b h = repP n a.testBit b.testBit h := by
  unfold repM repP
  exact cnt_congr fun i hi => by rw [any_one h3 hi hh]
theorem good_of {a b : Nat} (ha : a < 2 ^ n) (hb : b < 2 ^ n) (g : goodM n a b = true) : Good n a.testBit b.testBit := by
  unfold goodM at g
  simp only [fn_eq, Bool.and_eq_true, Bool.or_eq_true, Nat.ble_eq, beq_iff_eq, pc_eq h3] at g
  obtain ⟨⟨g1, g2⟩, g3⟩ := g
  have cS : cnt n (sM n a b).testBit = cnt n (sP n a.testBit b.testBit) := cnt_congr fun i hi => sM_bit h3 hb hi
  have eK : ∀ t, t < n → (kM n (sM n a b)).testBit t = kP n (sP n a.testBit b.testBit) t := fun t ht => by
    rw [kM_bit h3 sM_lt ht]
    exact (kP_shift (c := 0) h3 fun h hh => by rw [Nat.add_zero, Nat.mod_eq_of_lt hh, sM_bit h3 hb hh])
  have cK : cnt n (kM n (sM n a b)).testBit = cnt n (kP n (sP n a.testBit b.testBit)) := cnt_congr eK
  have cF : ∀ x : Nat, cnt n (sM n x (kM n (sM n a b))).testBit = cnt n (sP n x.testBit (kP n (sP n a.testBit b.testBit))) := fun x =>
    cnt_congr fun i hi => by rw [sM_bit h3 kM_lt hi]; exact sP_congr (fun _ _ => rfl) eK
  rw [cS, cK, cF, cF] at g1 g2
  rw [cS] at g3
  refine ⟨g1, fun hlt => ?_, fun h hh hS => ?_⟩
  · rcases g2 with g2 | g2
    · exact absurd hlt (Nat.not_lt.mpr g2)
    · exact g2
  · rcases g3 with g3 | g3
    · have : 1 ≤ repP n a.testBit b.testBit h := by
        obtain ⟨i, j, hi, hj, x, y, c⟩ := sP_iff.mp hS
        refine List.countP_pos_iff.mpr ⟨i, List.mem_range.mpr hi, ?_⟩
        rw [Bool.and_eq_true]
        exact ⟨x, List.any_eq_true.mpr ⟨j, List.mem_range.mpr hj, by rw [y, c]; simp⟩⟩
      exact Nat.le_trans g3 (Nat.add_le_add_left this _)
    · have := List.all_eq_true.mp g3 h (List.mem_range.mpr hh)
      rw [sM_bit h3 hb hh, hS] at this
      simp only [Bool.not_true, Bool.false_or, Nat.ble_eq] at this
      rw [repM_eq h3 hh] at this
      exact this
end

end
section
set_option maxRecDepth 100000
set_option maxHeartbeats 8000000
noncomputable def LAT : List (List (List Nat)) := [[[1, 3, 5, 7, 9, 11, 15, 19, 27], [1, 3, 5, 7, 9, 11, 15, 19, 21, 27], [1, 3, 5, 9, 11, 19, 27]], [[1, 3, 5, 7, 9, 11, 15, 17, 19, 27, 33, 35, 51, 65, 67, 99, 131, 195, 259, 515, 1027], [1, 3, 5, 7, 9, 11, 15, 17, 21, 33, 37, 65, 69, 85, 133, 165, 261, 325, 517, 1027, 1035], [1, 3, 5, 9, 11, 17, 19, 27, 33, 37, 65, 73, 137, 265, 515, 517, 531, 549, 585, 1027, 1035], [1, 3, 5, 9, 17, 19, 21, 33, 35, 51, 65, 69, 85, 137, 259, 261, 265, 273, 291, 325, 515, 531], [1, 3, 5, 9, 17, 33, 35, 37, 65, 67, 99, 131, 133, 137, 165, 195, 259, 265, 291, 517, 549], [1, 3, 5, 9, 17, 33, 65, 67, 69, 73, 131, 195, 261, 325, 585]], [[1, 3, 5, 7, 9, 11, 15, 17, 19, 27, 33, 35, 51, 65, 67, 99, 129, 131, 195, 257, 259, 387, 513, 515, 771, 1027, 1539, 2051, 4099, 8195, 16387, 32771, 65539], [1, 3, 5, 7, 9, 11, 15, 17, 21, 33, 37, 65, 69, 85, 129, 133, 165, 257, 261, 325, 513, 517, 645, 1029, 1285, 2053, 2565, 4101, 8197, 16389, 32773, 65539, 65547], [1, 3, 5, 9, 11, 17, 19, 27, 33, 37, 65, 73, 129, 137, 257, 265, 513, 521, 585, 1033, 1161, 2057, 2313, 4105, 4617, 8201, 16393, 32771, 32773, 32787, 32805, 65539, 65547], [1, 3, 5, 9, 17, 19, 21, 33, 35, 51, 65, 69, 85, 129, 137, 257, 273, 513, 529, 1041, 2065, 4113, 4369, 8209, 8721, 16387, 16389, 16393, 16419, 16453, 16521, 32771, 32787], [1, 3, 5, 9, 17, 33, 35, 37, 65, 67, 99, 129, 133, 165, 257, 265, 513, 529, 1057, 2081, 4129, 8195, 8197, 8201, 8209, 8259, 8325, 8457, 8721, 16387, 16419, 32773, 32805], [1, 3, 5, 9, 17, 33, 65, 67, 69, 73, 129, 131, 195, 257, 261, 325, 513, 521, 585, 1041, 2081, 4099, 4101, 4105, 4113, 4129, 4161, 4227, 4357, 4617, 8195, 8259, 16389, 16453], [1, 3, 5, 9, 17, 33, 65, 129, 131, 133, 137, 257, 259, 387, 513, 517, 645, 1033, 1161, 2051, 2053, 2057, 2065, 2081, 2307, 2565, 4099, 4129, 4227, 8197, 8325, 16393, 16521], [1, 3, 5, 9, 17, 33, 65, 129, 257, 259, 261, 265, 273, 513, 515, 771, 1027, 1029, 1033, 1041, 1057, 1285, 1539, 2051, 2057, 2307, 2313, 4101, 4113, 4357, 4369, 8201, 8457], [1, 3, 5, 9, 17, 33, 65, 129, 257, 513, 515, 517, 521, 529, 1027, 1539, 2053, 2565, 4105, 4617, 8209, 8721]]]
noncomputable def RTT : List (List (List Nat)) := [[[176093659136160, 184647760781657669792, 189223417968706322592, 114247493536905789600, 2437349280551232667808, 1218674059167564595360], [140874927308928, 184652229162553213056, 147718210783117705344, 4871202711130681213056, 2377900603388002432, 1366248187851000807552], [105656195481696, 110864093948099592288, 4871238704743328120928, 100761696, 110860784524335317088, 4871242116627734495328], [2437350442771427625024, 2436161491333883791424, 2322168692213824, 110860784524333254720, 147718208654896334912, 3653719817848286644288], [1218675221385713812512, 1217486269950216799264, 1365240366696887354400, 4874697503441833526304, 3656023409057687733280, 2437350442770321409056]], [[387406050099552, 406225073760878559584, 417718259975568294240, 342742333344744505696, 304659894861339820384, 266577456377935135072, 228495023392088588640, 6093370441105629413728, 4874696345620693778784, 3656022250135959470432, 2437349280551132004704, 1218674059167564595552], [352187318272320, 406236297541215158592, 369295521563315339584, 12185551993458248679744, 378446835937412645184, 266577426656727892288, 228494987073811579200, 6093370404787352404288, 4874698561102465335616, 1292534255273586557248, 2437348118335129190720, 1587609328047805727040], [316968586445088, 332448160127738282272, 12175221826628595548448, 332365969365752119584, 10966877904535151706400, 10965688953099654496544, 339178792897512407328, 2548138993602834628896, 1329463772218227032352, 3656022177502895112480, 405900814623914918176, 1550727063680723222816], [281749854617856, 295553510861680509184, 369304458325106426112, 10957699533310198579456, 295436421566235410688, 9743595499596766478592, 9742405422261362426112, 1477073753613479870720, 4755801206776004864, 405936843422210031872, 2732496375702001615104, 1513832414414665449728], [246531122790624, 258658861595622736096, 258622838261768585440, 10957698371092048281824, 9743631493209413386464, 2621998203413498921184, 8523766229672667578592, 8528340513569698382048, 258398919633815077088, 369043320056025546976, 2695612985434978713824, 1476937765148809003232], [211312390963392, 221764217827123101888, 221728187896199184576, 335831386921353117888, 9742477409486656241856, 8523802223285314486464, 201523392, 221757633064422506688, 221721569048670634176, 335824733988996612288, 9742484233255468990656, 8523809012969299280064], [6093376106928569062560, 6087575469469477475488, 6087539439538553558176, 2548031012764888896672, 1476929779162887230624, 8522401567482958812320, 221757633064417301664, 369295521637240837280, 6087750120471449965728, 6091181828168773375136, 8524961934474947400864, 7306286714188777690272], [4874700885542855250048, 4870053169589242925184, 4872322982667767582848, 1329355791380282380416, 4644337384427648, 258650874922339111040, 221721569048666509440, 6087750120471451046016, 295436417309792669824, 4873659529387178037376, 7307439635696573288576, 6088764420905814233216], [3656025664157141437536, 3652530869709209701472, 1292462268048289893472, 3652458809850851527776, 406224792323382053984, 369295275344550661216, 332369347174893554784, 6096940806192275557472, 4878266711805979135072, 7312051321713894460512, 3654947124682875276384, 4871242121025781009504], [2437350442771427625024, 2436161491333783324736, 2434972539900433598528, 406224757137734928448, 2730480733393774708800, 2703927509956404938816, 9749395006883667052608, 8530720912498450663488, 7312046818115375466560, 3658402511496976369728, 4874700885540642818112, 3653719821146821527616], [1218675221385713812512, 1217486269950216995872, 1586817468569573721120, 1561417166636844352544, 1523334728153439667232, 1485252289670236308512, 8530719786597498422304, 7312045692212282033184, 6093371603324617491488, 4874697507839883183136, 3656023412356222616608, 2437350442770321409056]], [[598718441062944, 627802386740099449376, 646213101982430265888, 571237175351606477344, 533154736868201792032, 495072298384797106720, 456989859901392421408, 418907421417987736096, 380824982934583050784, 342742553247271387680, 9749392727559933002272, 8530718632074896704032, 7312044536590162395680, 6093370441105428087328, 4874696345620693778976, 3656022250135959470624, 2437349280551132004896, 1218674059167564595744], [563499709235712, 627820365919877104128, 590872834542536229376, 19497596559776020922880, 606941677944274616832, 495072263166031725056, 456989824682627039744, 418907386199222354432, 380824956511910691328, 342742516928994378240, 9749392691241655992832, 8530718595756955238912, 7312044500271918940672, 6093370404787184632320, 4874698561102264009216, 1292534255273586557440, 2437348118335129190912, 1808970468244711309824], [528280977408480, 554032228506400227808, 19480355619318167765472, 553943282344973009376, 18278922465355365810656, 18277733515019380228576, 567670253906118967776, 418907359776549994976, 380824920193633681888, 342742480610717368800, 9749392654923378983392, 8530718559438678229472, 7312047841653698003424, 2548138993602700411360, 1329463772218059260384, 3656022177502693786080, 627261954820820500960, 1772094959277069861344], [493062245581248, 517137579240342454720, 590888526703768371648, 18262833320502212657600, 517013730147409789376, 17060248370934710698432, 17059059429394818138560, 17057870477959320928704, 528398836465033085376, 342742444292440359360, 9749397122204729344448, 3803743731932049146304, 2585068510547441549760, 1366393289162833953216, 4874696236670258381248, 627297983618947842496, 2953857515898705871296, 1735200310011012088256], [457843513754016, 480242929974284681632, 480206901142872392096, 18262832159383573987744, 17045311021686257549728, 480084186745939591584, 15841574284210636980640, 15840385332775139770784, 15839202010839176774048, 15832247325980738486688, 4025140689613550256544, 2621998027491847143840, 1403322806107239547296, 6093370295838091411872, 627334012417377173920, 590404460252796912032, 2916980881031157580192, 1698305660744954315168], [422624781926784, 443348280708226908544, 443312251876814619008, 553956687487659639168, 17045309869363711902080, 15827788730566883836288, 443154632349353116032, 14615988288062851744128, 14614798210727447691648, 14613608133392043639168, 2806501497038814052736, 1624719763801625559424, 7133701810164007296, 627370041215437406592, 590440489051192689024, 4098744563553002422656, 2880086231765099807104, 1661411011478896542080], [387406050099552, 406453631442169135456, 406417602610756845920, 406381582575437578592, 17045308707145561604448, 15827787568348733538656, 14616024281675498652000, 5133207750440466612576, 13396159018138752844128, 13394968940803348791648, 1587862304450119205216, 13400658849636702978400, 406045141134351728992, 590476517849252921696, 553546965685008204128, 4061866802785513734496, 2843191582499344023904, 1624516362212838768992], [352187318272320, 369558982176111362368, 369522962140792095040, 369486932209868177728, 517024854868620673344, 15833551013653617475904, 14614870197952741507392, 13396195011751399752000, 2732786859800030150976, 12176329748214653944128, 12184362691072392167744, 369187681782845374784, 369151617767093502272, 553582994488437145920, 5243631611206896320832, 4024972153519422406976, 2806296933233252696384, 1587621712947082985792], [316968586445088, 332664341706146611488, 332628311775222694176, 332592281844298776864, 332556251913374859552, 15832391300431326118176, 14613716114229984362784, 13395040928028642607392, 12176365741827300852000, 302285088, 332654481604509696288, 332618417588757823776, 332582353573005951264, 332546289557254078752, 15832401570169373196576, 14613726349883203485984, 13395051129597033775392, 12176375909310864064800], [9749401771085710500096, 9740142369109678006528, 9740106339178754089216, 9740070309247830171904, 9744645965335333642496, 4024960721550307664128, 2806285535362924552448, 1587610349161582797056, 12174860377333608816896, 332654481604501348608, 590872834619585339648, 9740421831163771068672, 9740385767148019196160, 9746114310655301558528, 14614879271393146577152, 13396204051102681899264, 12177528830816512188672, 10958853610530342478080], [8530726549699996687584, 8522620069229342792928, 8522584039298754419936, 8522548009367830502624, 3803599757481454542048, 2621818059428605631712, 1624503802125737139424, 13392344325115267620064, 369547617909306891488, 332618417588750556384, 9740421831163772148960, 517013730292137172192, 8522864594266330701024, 8528606648572495174880, 8527416537152229612768, 12178681752322160303328, 10960006532035990592736, 9741331320545913904352], [7312051328314282875072, 7305097769349309569216, 7305061739418419206336, 7308484474001651374272, 2584924536096848025792, 1403142838043999115456, 6966506076641472, 406441070873461233856, 369511553893556099264, 332582353572999764160, 9740385767148021356736, 8522864594266331781312, 443154625964689004736, 7311084349790899837120, 7309894238370634275008, 10961159453544859932864, 9742484242051562019008, 8523809020665880680640], [6093376106928569062560, 6087575469469276345504, 6087539439538385982624, 2548031012764754875552, 1366249314712241509536, 6087431349751352038560, 627801964567194899616, 590872447588363506848, 553942930614900823200, 332546289557248971936, 9740355332631804777632, 8536669217805397365920, 7317995123419100943520, 12186752202856490767520, 6092371939589038937248, 6091181836964866397344, 8524961942171528795296, 7306286720785847456928], [4874700885542855250048, 4870053169589243121792, 4872322982667566452864, 1329355791380114804864, 4869945079800867000448, 627801929381782655104, 590872412402951262336, 553942895424119869568, 5239384364914561060992, 15842767730611669209216, 14624093636230750933120, 8535479106385132884096, 7316805011998836461696, 6098130917612540039296, 9749401771081285636224, 4873659537083759431808, 7307439642293643055232, 6088764420905814233216], [3656025664157141437536, 3652530869709209898080, 1292462268048290090080, 3652458809850650397792, 627801894196001311840, 590872377217203473504, 4095721100090662063200, 4074932484176326528096, 4036850045692888288352, 14624092510325500578912, 13405418415940287335520, 12186744321555064654944, 10968070227173063199840, 6096940814988368579680, 4878266719502560529504, 7312051328310964227168, 3654947124682875276384, 4871242121025781009504], [2437350442771427625024, 2436161491333783521344, 2434972539900433795136, 627801859010521958464, 2952057835266360412224, 2932422140856665278528, 2894339702373260593216, 2856257263890157897792, 2818174825406719658048, 13405417290039331948608, 12186743195654118705216, 10968069101268896024640, 9749395015679766366272, 8530720920195032057920, 7312046824712445233216, 3658402511496976369728, 4874700885540642818112, 3653719821146821527616], [1218675221385713812512, 1217486269950217192480, 1808394570442360751136, 1789911797537272464416, 1751829359053867779104, 1713746920570463093792, 1675664482087058408480, 1637582043603653723168, 1599499605120551027744, 12186742069753163318304, 10968067975367950074912, 9749393889778820416544, 8530719794294086108192, 7312045698809351799840, 6093371603324617491488, 4874697507839883183136, 3656023412356222616608, 2437350442770321409056]]]
noncomputable def LA (n t : Nat) : List Nat := (LAT.getD (n / 6 - 1) []).getD ((if t ≤ n / 2 then t else n - t) - 1) []
noncomputable def RT (n t e p : Nat) : Nat := ((((RTT.getD (n / 6 - 1) []).getD (t - 1) []).getD e 0) >>> (5 * (p - 1))) % 32
noncomputable def am (n t e p : Nat) : Nat := (bif p.testBit 0 then 1 <<< 0 else 0) ||| (bif p.testBit 1 then 1 <<< (t % n) else 0) ||| (bif p.testBit 2 then 1 <<< e else 0) ||| (bif p.testBit 3 then 1 <<< ((e + t) % n) else 0)
noncomputable def chR (n : Nat) : Bool := (List.range (n - 1)).all fun t => (List.range n).all fun e => (List.range 15).all fun p => fn (RT n (t + 1) e (p + 1)) fun r => Nat.blt r n && fn (rotM n (am n (t + 1) e (p + 1)) r) fun m => (LA n (t + 1)).any fun x => Nat.beq x m
noncomputable def chG (n t : Nat) : Bool := (LA n t).all fun a => (LA n t).all fun b => goodM n a b
theorem R_6 : chR 6 = true := by decide +kernel
theorem R_12 : chR 12 = true := by decide +kernel
theorem R_18 : chR 18 = true := by decide +kernel
theorem G_6_1 : chG 6 1 = true := by decide +kernel
theorem G_6_2 : chG 6 2 = true := by decide +kernel
theorem G_6_3 : chG 6 3 = true := by decide +kernel
theorem G_12_1 : chG 12 1 = true := by decide +kernel
theorem G_12_2 : chG 12 2 = true := by decide +kernel
theorem G_12_3 : chG 12 3 = true := by decide +kernel
theorem G_12_4 : chG 12 4 = true := by decide +kernel
theorem G_12_5 : chG 12 5 = true := by decide +kernel
theorem G_12_6 : chG 12 6 = true := by decide +kernel
theorem G_18_1 : chG 18 1 = true := by decide +kernel
theorem G_18_2 : chG 18 2 = true := by decide +kernel
theorem G_18_3 : chG 18 3 = true := by decide +kernel
theorem G_18_4 : chG 18 4 = true := by decide +kernel
theorem G_18_5 : chG 18 5 = true := by decide +kernel
theorem G_18_6 : chG 18 6 = true := by decide +kernel
theorem G_18_7 : chG 18 7 = true := by decide +kernel
theorem G_18_8 : chG 18 8 = true := by decide +kernel
theorem G_18_9 : chG 18 9 = true := by decide +kernel

end
section
set_option maxRecDepth 100000
set_option maxHeartbeats 8000000
theorem Good.congr {n : Nat} {p p2 q q2 : Nat → Bool} (hp : ∀ i, i < n → p i = p2 i) (hq : ∀ j, j < n → q j = q2 j) (G : Good n p q) : Good n p2 q2 := by
  have eS : sP n p q = sP n p2 q2 := funext fun h => sP_congr hp hq
  have e1 : ∀ K, sP n p K = sP n p2 K := fun K => funext fun h => sP_congr hp fun _ _ => rfl
  have e2 : ∀ K, sP n q K = sP n q2 K := fun K => funext fun h => sP_congr hq fun _ _ => rfl
  obtain ⟨g1, g2, g3⟩ := G
  rw [eS, e1, e2] at g1 g2
  rw [cnt_congr hp, cnt_congr hq] at g2
  refine ⟨g1, g2, fun h hh hS => ?_⟩
  have h3 := g3 h hh (by rw [eS]; exact hS)
  rw [eS, cnt_congr hp, cnt_congr hq] at h3
  have : repP n p q h = repP n p2 q2 h := cnt_congr fun i hi => by
    rw [hp i hi]
    congr 1
    rw [Bool.eq_iff_iff]
    simp only [List.any_eq_true, List.mem_range, Bool.and_eq_true]
    constructor
    · rintro ⟨j, hj, a, b⟩; exact ⟨j, hj, by rw [← hq j hj]; exact a, b⟩
    · rintro ⟨j, hj, a, b⟩; exact ⟨j, hj, by rw [hq j hj]; exact a, b⟩
  rw [this] at h3
  exact h3
section
variable {n t : Nat} (h3 : n = 6 ∨ n = 12 ∨ n = 18) (t1 : 1 ≤ t) (t2 : t < n)
include h3 t1 t2
theorem chG_all : chG n t = true := by
  have low : ∀ m, 1 ≤ m → m ≤ n / 2 → chG n m = true := by
    intro m m1 m2
    rcases h3 with rfl | rfl | rfl
    · rcases m with _ | _ | _ | _ | m
      · exact absurd m1 (by decide)
      · exact G_6_1
      · exact G_6_2
      · exact G_6_3
      · exact absurd (Nat.le_trans (Nat.le_add_left 4 m) m2) (by decide)
    · rcases m with _ | _ | _ | _ | _ | _ | _ | m
      · exact absurd m1 (by decide)
      · exact G_12_1
      · exact G_12_2
      · exact G_12_3
      · exact G_12_4
      · exact G_12_5
      · exact G_12_6
      · exact absurd (Nat.le_trans (Nat.le_add_left 7 m) m2) (by decide)
    · rcases m with _ | _ | _ | _ | _ | _ | _ | _ | _ | _ | m
      · exact absurd m1 (by decide)
      · exact G_18_1
      · exact G_18_2
      · exact G_18_3
      · exact G_18_4
      · exact G_18_5
      · exact G_18_6
      · exact G_18_7
      · exact G_18_8
      · exact G_18_9
      · exact absurd (Nat.le_trans (Nat.le_add_left 10 m) m2) (by decide)
  by_cases c : t ≤ n / 2
  · exact low t t1 c
  · have c2 : n - t ≤ n / 2 := by clear low; rcases h3 with rfl | rfl | rfl <;> omega
    have e : LA n t = LA n (n - t) := by unfold LA; rw [if_neg c, if_pos c2]
    have := low (n - t) (Nat.sub_pos_of_lt t2) c2
    unfold chG at this ⊢
    rw [e]; exact this
theorem chR_at {e p : Nat} (he : e < n) (p1 : 1 ≤ p) (p2 : p ≤ 15) : ∃ r, r < n ∧ rotM n (am n t e p) r ∈ LA n t := by
  have h : chR n = true := by
    rcases h3 with rfl | rfl | rfl
    · exact R_6
    · exact R_12
    · exact R_18
  unfold chR at h
  have a := List.all_eq_true.mp (List.all_eq_true.mp (List.all_eq_true.mp h (t - 1) (List.mem_range.mpr (Nat.sub_lt_sub_right t1 t2))) e (List.mem_range.mpr he)) (p - 1) (List.mem_range.mpr (Nat.sub_one_lt_of_le p1 p2))
  rw [Nat.sub_add_cancel t1, Nat.sub_add_cancel p1] at a
  simp only [fn_eq, Bool.and_eq_true] at a
  obtain ⟨a1, a2⟩ := a
  obtain ⟨x, hx, ex⟩ := List.any_eq_true.mp a2
  exact ⟨_, by simpa [Nat.blt_eq] using a1, by rw [← Nat.eq_of_beq_eq_true ex]; exact hx⟩
theorem am_lt {e p : Nat} (he : e < n) : am n t e p < 2 ^ n := by
  have z : (0 : Nat) < 2 ^ n := Nat.two_pow_pos n
  have b : ∀ (c : Bool) (x : Nat), x < n → (bif c then 1 <<< x else 0) < 2 ^ n := fun c x hx => by
    cases c
    · exact z
    · show 1 <<< x < 2 ^ n
      rw [Nat.one_shiftLeft]; exact Nat.pow_lt_pow_right (by decide) hx
  unfold am
  exact Nat.or_lt_two_pow (Nat.or_lt_two_pow (Nat.or_lt_two_pow (b _ _ (n_pos h3)) (b _ _ (Nat.mod_lt _ (n_pos h3)))) (b _ _ he)) (b _ _ (Nat.mod_lt _ (n_pos h3)))
theorem good_am {e p e2 p2 : Nat} (he : e < n) (p1 : 1 ≤ p) (p15 : p ≤ 15) (he2 : e2 < n) (q1 : 1 ≤ p2) (q15 : p2 ≤ 15) : Good n (am n t e p).testBit (am n t e2 p2).testBit := by
  obtain ⟨r, hr, m⟩ := chR_at h3 t1 t2 he p1 p15
  obtain ⟨r2, hr2, m2⟩ := chR_at h3 t1 t2 he2 q1 q15
  have g := List.all_eq_true.mp (List.all_eq_true.mp (show chG n t = true from chG_all h3 t1 t2) _ m) _ m2
  have G := good_of h3 rot_lt rot_lt g
  refine Good.shift (a := n - r) (b := n - r2) h3 (Good.congr (fun i hi => ?_) (fun i hi => ?_) G)
  · exact rot_bit (am_lt h3 t1 t2 he) hr hi
  · exact rot_bit (am_lt h3 t1 t2 he2) hr2 hi
end

end
section
open PySem
set_option maxRecDepth 100000
set_option maxHeartbeats 8000000
noncomputable def pkB (P : Int) (k : Nat) : Bool := Builtin.bitAnd (P.fdiv (2 ^ (k : Int).toNat)) 1 != 0
theorem pk_all : ∀ (p : Fin 16) (k : Fin 4), pkB ((p.val : Nat) : Int) k.val = p.val.testBit k.val := by decide +kernel
theorem mem_go (P : Int) (z : Int) : ∀ (hs : List Int) (k : Nat) (fs : List Int), z ∈ huesGo P k hs fs ↔ z ∈ fs ∨ ∃ i, hs[i]? = some z ∧ pkB P (k + i) = true
  | [], k, fs => by unfold huesGo; simp
  | h :: r, k, fs => by
    have step : huesGo P k (h :: r) fs = huesGo P (k + 1) r (if (pkB P k && !(fs.any (· == h))) = true then fs ++ [h] else fs) := rfl
    rw [step, mem_go P z r (k + 1) _]
    have tail : (∃ i, (h :: r)[i]? = some z ∧ pkB P (k + i) = true) ↔ (h = z ∧ pkB P k = true) ∨ ∃ i, r[i]? = some z ∧ pkB P (k + 1 + i) = true := by
      constructor
      · rintro ⟨i, a, b⟩
        cases i with
        | zero => exact .inl ⟨by simpa using a, b⟩
        | succ i => exact .inr ⟨i, by simpa using a, by rw [Nat.add_right_comm k 1 i, Nat.add_assoc k i 1]; exact b⟩
      · rintro (⟨rfl, b⟩ | ⟨i, a, b⟩)
        · exact ⟨0, rfl, b⟩
        · exact ⟨i + 1, by simpa using a, by rw [← Nat.add_assoc k i 1, Nat.add_right_comm k i 1]; exact b⟩
    rw [tail]
    split
    · rename_i c
      rw [Bool.and_eq_true] at c
      rw [List.mem_append, List.mem_singleton]
      constructor
      · rintro ((a | rfl) | a)
        · exact .inl a
        · exact .inr (.inl ⟨rfl, c.1⟩)
        · exact .inr (.inr a)
      · rintro (a | ⟨rfl, _⟩ | a)
        · exact .inl (.inl a)
        · exact .inl (.inr rfl)
        · exact .inr a
    · rename_i c
      constructor
      · rintro (a | a)
        · exact .inl a
        · exact .inr (.inr a)
      · rintro (a | ⟨rfl, b⟩ | a)
        · exact .inl a
        · refine .inl ?_
          rw [Bool.and_eq_true, not_and] at c
          have c2 := c b
          simp only [Bool.not_eq_true', Bool.not_eq_false, List.any_eq_true, beq_iff_eq] at c2
          obtain ⟨y, hy, rfl⟩ := c2
          exact hy
        · exact .inr a
theorem nodup_go (P : Int) : ∀ (hs : List Int) (k : Nat) (fs : List Int), fs.Nodup → (huesGo P k hs fs).Nodup
  | [], _, _, h => h
  | h :: r, k, fs, hn => by
    have step : huesGo P k (h :: r) fs = huesGo P (k + 1) r (if (pkB P k && !(fs.any (· == h))) = true then fs ++ [h] else fs) := rfl
    rw [step]
    refine nodup_go P r (k + 1) _ ?_
    split
    · rename_i c
      rw [Bool.and_eq_true] at c
      refine List.nodup_append.mpr ⟨hn, by simp, fun a ha b hb e => ?_⟩
      have hb' := List.mem_singleton.mp hb
      subst e; subst hb'
      have c2 := c.2
      simp only [Bool.not_eq_true', List.any_eq_false, beq_iff_eq] at c2
      exact c2 _ ha rfl
    · exact hn
noncomputable def inL (X : List Int) (i : Nat) : Bool := X.any fun z => z == (i : Int)
theorem inL_iff {X : List Int} {i : Nat} : inL X i = true ↔ (i : Int) ∈ X := by
  unfold inL
  simp only [List.any_eq_true, beq_iff_eq]
  constructor
  · rintro ⟨z, hz, rfl⟩; exact hz
  · intro h; exact ⟨_, h, rfl⟩
theorem am_bit {n t e p i : Nat} : (am n t e p).testBit i = true ↔ (p.testBit 0 = true ∧ i = 0) ∨ (p.testBit 1 = true ∧ i = t % n) ∨ (p.testBit 2 = true ∧ i = e) ∨ (p.testBit 3 = true ∧ i = (e + t) % n) := by
  have b : ∀ (c : Bool) (x : Nat), ((bif c then 1 <<< x else 0).testBit i = true) ↔ (c = true ∧ i = x) := fun c x => by
    cases c
    · simp
    · rw [cond_true, Nat.one_shiftLeft, Nat.testBit_two_pow, decide_eq_true_eq]
      constructor
      · intro h; exact ⟨rfl, h.symm⟩
      · intro h; exact h.2.symm
  unfold am
  simp only [Nat.testBit_or, Bool.or_eq_true, b]
  constructor
  · rintro (((h | h) | h) | h)
    · exact .inl h
    · exact .inr (.inl h)
    · exact .inr (.inr (.inl h))
    · exact .inr (.inr (.inr h))
  · rintro (h | h | h | h)
    · exact .inl (.inl (.inl h))
    · exact .inl (.inl (.inr h))
    · exact .inl (.inr h)
    · exact .inr h
theorem at_iff {n b c i z : Nat} (hc : c < n) (hi : i < n) (E : (c + b) % n = z) : ((z : Nat) : Int) = (((i + b) % n : Nat) : Int) ↔ i = c := by
  constructor
  · intro h; exact cancel hi hc ((Int.ofNat.inj h).symm.trans E.symm)
  · intro h; rw [h, E]
theorem hues_mask {n t : Nat} (h3 : n = 6 ∨ n = 12 ∨ n = 18) (t2 : t < n) (x : Int) (hx : 0 ≤ x) :
    ∃ b e p, e < n ∧ 1 ≤ p ∧ p ≤ 15 ∧ ∀ i, i < n → inL (huesOf x (t : Int) (n : Int)) ((i + b) % n) = (am n t e p).testBit i := by
  obtain ⟨X, rfl⟩ := Int.eq_ofNat_of_zero_le hx
  have hn : 0 < n := n_pos h3
  have f1 : ∀ a : Nat, ((a : Nat) : Int).fmod (n : Int) = ((a % n : Nat) : Int) := fun a => by rw [Int.fmod_eq_emod_of_nonneg _ (Int.natCast_nonneg n), Int.natCast_emod]
  have f2 : ((X : Nat) : Int).fdiv (n : Int) = ((X / n : Nat) : Int) := by rw [Int.fdiv_eq_ediv_of_nonneg _ (Int.natCast_nonneg n), Int.natCast_ediv]
  have a1 : ∀ a : Nat, ((a : Nat) : Int) + ((t : Nat) : Int) = ((a + t : Nat) : Int) := fun a => (Int.natCast_add a t).symm
  have hp0 := Int.fmod_nonneg_of_pos (((X : Nat) : Int).fdiv ((n : Int) ^ Int.toNat 2)) (show (0:Int) < 15 by decide)
  have hp1 := Int.fmod_lt_of_pos (((X : Nat) : Int).fdiv ((n : Int) ^ Int.toNat 2)) (show (0:Int) < 15 by decide)
  obtain ⟨q, hq⟩ := Int.eq_ofNat_of_zero_le hp0
  rw [hq] at hp1
  have hq1 : q < 15 := Int.ofNat_lt.mp hp1
  have hp : 1 + (((X : Nat) : Int).fdiv ((n : Int) ^ Int.toNat 2)).fmod 15 = ((1 + q : Nat) : Int) := by rw [hq]; rfl
  clear hq hp0 hp1 f2
  have f2 : ((X : Nat) : Int).fdiv (n : Int) = ((X / n : Nat) : Int) := by rw [Int.fdiv_eq_ediv_of_nonneg _ (Int.natCast_nonneg n), Int.natCast_ediv]
  have p1 : 1 ≤ 1 + q := Nat.le_add_right 1 q
  have p2 : 1 + q < 16 := Nat.add_lt_add_left hq1 1
  generalize 1 + q = p at hp p1 p2
  refine ⟨X % n, ((X / n) % n + (n - X % n)) % n, p, Nat.mod_lt _ hn, p1, Nat.le_of_lt_succ p2, fun i hi => ?_⟩
  have pk : ∀ k : Nat, k < 4 → pkB ((p : Nat) : Int) k = p.testBit k := fun k hk => pk_all ⟨p, p2⟩ ⟨k, hk⟩
  rw [Bool.eq_iff_iff, inL_iff, am_bit]
  unfold huesOf
  rw [hp, mem_go]
  simp only [f2, f1, a1]
  have bx : X % n < n := Nat.mod_lt _ hn
  have by' : X / n % n < n := Nat.mod_lt _ hn
  generalize X % n = b at bx
  generalize X / n % n = o at by'
  have e3 : ((o + (n - b)) % n + b) % n = o := by
    have e := back (a := b) by'
    rw [Nat.mod_eq_of_lt bx] at e; exact e
  have i0 := at_iff (b := b) (z := b) hn hi (by rw [Nat.zero_add, Nat.mod_eq_of_lt bx])
  have i1 := at_iff (b := b) (z := (b + t) % n) (Nat.mod_lt t hn) hi (by rw [Nat.mod_add_mod, Nat.add_comm])
  have i2 := at_iff (b := b) (z := o) (Nat.mod_lt (o + (n - b)) hn) hi e3
  have i3 := at_iff (b := b) (z := (o + t) % n) (Nat.mod_lt ((o + (n - b)) % n + t) hn) hi (by rw [swap2, e3])
  constructor
  · rintro (h | ⟨k, h, hk⟩)
    · cases h
    · rw [Nat.zero_add] at hk
      match k, h with
      | 0, h => exact .inl ⟨by rw [← pk 0 (by decide)]; exact hk, i0.mp (Option.some.inj h)⟩
      | 1, h => exact .inr (.inl ⟨by rw [← pk 1 (by decide)]; exact hk, i1.mp (Option.some.inj h)⟩)
      | 2, h => exact .inr (.inr (.inl ⟨by rw [← pk 2 (by decide)]; exact hk, i2.mp (Option.some.inj h)⟩))
      | 3, h => exact .inr (.inr (.inr ⟨by rw [← pk 3 (by decide)]; exact hk, i3.mp (Option.some.inj h)⟩))
      | k + 4, h => cases h
  · rintro (⟨hk, e⟩ | ⟨hk, e⟩ | ⟨hk, e⟩ | ⟨hk, e⟩)
    · exact .inr ⟨0, congrArg some (i0.mpr e), by rw [Nat.zero_add, pk 0 (by decide)]; exact hk⟩
    · exact .inr ⟨1, congrArg some (i1.mpr e), by rw [Nat.zero_add, pk 1 (by decide)]; exact hk⟩
    · exact .inr ⟨2, congrArg some (i2.mpr e), by rw [Nat.zero_add, pk 2 (by decide)]; exact hk⟩
    · exact .inr ⟨3, congrArg some (i3.mpr e), by rw [Nat.zero_add, pk 3 (by decide)]; exact hk⟩
theorem hues_good {n t : Nat} (h3 : n = 6 ∨ n = 12 ∨ n = 18) (t1 : 1 ≤ t) (t2 : t < n) {x y : Int} (hx : 0 ≤ x) (hy : 0 ≤ y) :
    Good n (inL (huesOf x (t : Int) (n : Int))) (inL (huesOf y (t : Int) (n : Int))) := by
  obtain ⟨b, e, p, he, p1, p2, h⟩ := hues_mask h3 t2 x hx
  obtain ⟨b2, e2, q, he2, q1, q2, h2⟩ := hues_mask h3 t2 y hy
  exact Good.shift (a := b) (b := b2) h3 (Good.congr (fun i hi => (h i hi).symm) (fun i hi => (h2 i hi).symm) (good_am h3 t1 t2 he p1 p2 he2 q1 q2))

end
section
open PySem PySem.W PyProof.Rows
set_option maxRecDepth 100000
set_option maxHeartbeats 8000000
theorem len_cnt {n : Nat} {X : List Int} (hn : X.Nodup) (hr : ∀ z ∈ X, 0 ≤ z ∧ z < (n : Int)) : X.length = cnt n (inL X) := by
  have h1 : (X.map Int.toNat).Nodup := by
    unfold List.Nodup
    rw [List.pairwise_map]
    refine List.Pairwise.imp_of_mem (fun {x y} hx hy hne e => hne ?_) hn
    rw [← Int.toNat_of_nonneg (hr x hx).1, e, Int.toNat_of_nonneg (hr y hy).1]
  have h2 : ((List.range n).filter (inL X)).Nodup := List.nodup_range.filter _
  have p : (X.map Int.toNat).Perm ((List.range n).filter (inL X)) := by
    refine (List.perm_ext_iff_of_nodup h1 h2).mpr fun a => ?_
    rw [List.mem_map, List.mem_filter, List.mem_range, inL_iff]
    constructor
    · rintro ⟨z, hz, rfl⟩
      have := hr z hz
      refine ⟨by omega, ?_⟩
      rw [Int.toNat_of_nonneg this.1]; exact hz
    · rintro ⟨_, hz⟩
      exact ⟨_, hz, by simp⟩
  have := p.length_eq
  rw [List.length_map] at this
  rw [this]
  unfold cnt
  rw [List.countP_eq_length_filter]
theorem len_filter {n : Nat} {X : List Int} (hn : X.Nodup) (hr : ∀ z ∈ X, 0 ≤ z ∧ z < (n : Int)) (g : Int → Bool) : (X.filter g).length = cnt n fun i => inL X i && g (i : Int) := by
  rw [len_cnt (hn.filter g) fun z hz => hr z (List.mem_filter.mp hz).1]
  refine cnt_congr fun i _ => ?_
  rw [Bool.eq_iff_iff, Bool.and_eq_true, inL_iff, inL_iff, List.mem_filter]
theorem rng_len {n : Nat} (g : Int → Bool) : ((rangeInts 0 1 n).filter g).length = cnt n fun i => g (i : Int) := by
  unfold rangeInts cnt
  rw [List.filter_map, List.length_map, ← List.countP_eq_length_filter]
  refine List.countP_congr fun i _ => ?_
  simp
theorem rng_nodup (n : Nat) : (rangeInts 0 1 n).Nodup := by
  unfold rangeInts List.Nodup
  rw [List.pairwise_map]
  exact List.Pairwise.imp (fun {x y} hne e => hne (by simp at e; omega)) List.nodup_range
theorem rng_iff {n : Nat} {z : Int} : z ∈ rangeInts 0 1 n ↔ 0 ≤ z ∧ z < (n : Int) := by
  unfold rangeInts
  rw [List.mem_map]
  constructor
  · rintro ⟨i, hi, rfl⟩; have := List.mem_range.mp hi; omega
  · rintro ⟨a, b⟩; exact ⟨z.toNat, List.mem_range.mpr (by omega), by omega⟩
theorem dedup_mem (σ : List Int) (v z : Int) : z ∈ step_dedup σ v ↔ z ∈ σ ∨ z = v := by
  unfold step_dedup
  split
  · rename_i h
    obtain ⟨y, hy, e⟩ := List.any_eq_true.mp h
    rw [beq_iff_eq] at e
    subst e
    constructor
    · exact .inl
    · rintro (h | rfl)
      · exact h
      · exact hy
  · rw [List.mem_append, List.mem_singleton]
theorem dedup_nodup {σ : List Int} {v : Int} (h : σ.Nodup) : (step_dedup σ v).Nodup := by
  unfold step_dedup
  split
  · exact h
  · rename_i c
    refine List.nodup_append.mpr ⟨h, by simp, fun a ha b hb e => c ?_⟩
    have hb' := List.mem_singleton.mp hb
    subst e; subst hb'
    exact List.any_eq_true.mpr ⟨_, ha, by simp⟩
theorem inner_mem (f : Int → Int) (z : Int) : ∀ (ks σ : List Int), z ∈ innerS f σ ks ↔ z ∈ σ ∨ ∃ b ∈ ks, f b = z
  | [], σ => by unfold innerS; simp
  | k :: ks, σ => by
    have := inner_mem f z ks (step_dedup σ (f k))
    show z ∈ innerS f (step_dedup σ (f k)) ks ↔ _
    rw [this, dedup_mem]
    constructor
    · rintro ((h | rfl) | ⟨b, hb, e⟩)
      · exact .inl h
      · exact .inr ⟨k, .head _, rfl⟩
      · exact .inr ⟨b, .tail _ hb, e⟩
    · rintro (h | ⟨b, hb, e⟩)
      · exact .inl (.inl h)
      · rcases List.mem_cons.mp hb with rfl | hb
        · exact .inl (.inr e.symm)
        · exact .inr ⟨b, hb, e⟩
theorem inner_nodup (f : Int → Int) : ∀ (ks σ : List Int), σ.Nodup → (innerS f σ ks).Nodup
  | [], _, h => h
  | k :: ks, σ, h => inner_nodup f ks _ (dedup_nodup h)
theorem outer_mem (f : Int → Int → Int) (ks : List Int) (z : Int) : ∀ (as σ : List Int), z ∈ as.foldl (fun σ a => innerS (f a) σ ks) σ ↔ z ∈ σ ∨ ∃ a ∈ as, ∃ b ∈ ks, f a b = z
  | [], σ => by simp
  | a :: as, σ => by
    rw [List.foldl_cons, outer_mem f ks z as, inner_mem]
    constructor
    · rintro ((h | ⟨b, hb, e⟩) | ⟨a', ha, r⟩)
      · exact .inl h
      · exact .inr ⟨a, .head _, b, hb, e⟩
      · exact .inr ⟨a', .tail _ ha, r⟩
    · rintro (h | ⟨a', ha, b, hb, e⟩)
      · exact .inl (.inl h)
      · rcases List.mem_cons.mp ha with rfl | ha
        · exact .inl (.inr ⟨b, hb, e⟩)
        · exact .inr ⟨a', ha, b, hb, e⟩
theorem outer_nodup (f : Int → Int → Int) (ks : List Int) : ∀ (as σ : List Int), σ.Nodup → (as.foldl (fun σ a => innerS (f a) σ ks) σ).Nodup
  | [], _, h => h
  | a :: as, σ, h => outer_nodup f ks as _ (inner_nodup (f a) ks σ h)
theorem fmod_nat {n a b : Nat} (hn : 0 < n) : ((a : Int) + (b : Int)).fmod (n : Int) = (((a + b) % n : Nat) : Int) := by
  rw [Int.fmod_eq_emod_of_nonneg _ (by omega), ← Int.natCast_add, Int.natCast_emod]
/-- the filled set's size -/
theorem filled_cnt {n : Nat} (hn : 0 < n) {X Y : List Int} (hX : ∀ z ∈ X, 0 ≤ z ∧ z < (n : Int)) (hY : ∀ z ∈ Y, 0 ≤ z ∧ z < (n : Int)) : (outerS (fun a b => (a + b).fmod (n : Int)) X Y).length = cnt n (sP n (inL X) (inL Y)) := by
  have hm : ∀ z, z ∈ outerS (fun a b => (a + b).fmod (n : Int)) X Y ↔ ∃ a ∈ X, ∃ b ∈ Y, (a + b).fmod (n : Int) = z := fun z => by
    unfold outerS; rw [outer_mem]; simp
  have nd : (outerS (fun a b => (a + b).fmod (n : Int)) X Y).Nodup := outer_nodup _ _ _ _ List.nodup_nil
  rw [len_cnt nd fun z hz => by
    obtain ⟨a, _, b, _, rfl⟩ := (hm z).mp hz
    exact ⟨Int.fmod_nonneg_of_pos _ (by omega), Int.fmod_lt_of_pos _ (by omega)⟩]
  refine cnt_congr fun i hi => ?_
  rw [Bool.eq_iff_iff, inL_iff, sP_iff]
  refine (hm _).trans ?_
  constructor
  · rintro ⟨a, ha, b, hb, e⟩
    obtain ⟨a, rfl⟩ := Int.eq_ofNat_of_zero_le (hX a ha).1
    obtain ⟨b, rfl⟩ := Int.eq_ofNat_of_zero_le (hY b hb).1
    have h1 := (hX _ ha).2
    have h2 := (hY _ hb).2
    exact ⟨a, b, by omega, by omega, inL_iff.mpr ha, inL_iff.mpr hb, Int.ofNat.inj ((fmod_nat hn).symm.trans e)⟩
  · rintro ⟨a, b, _, _, ha, hb, e⟩
    exact ⟨_, inL_iff.mp ha, _, inL_iff.mp hb, by rw [fmod_nat hn, e]⟩

end
section
open PySem PySem.W PyProof.Rows
set_option maxRecDepth 100000
set_option maxHeartbeats 8000000
theorem and_nat (a b : Nat) : Builtin.bitAnd (a : Int) (b : Int) = ((a &&& b : Nat) : Int) := by
  unfold Builtin.bitAnd
  rw [decide_eq_true (show (0:Int) ≤ (a : Int) by omega), decide_eq_true (show (0:Int) ≤ (b : Int) by omega)]
  rfl
theorem or_nat (a b : Nat) : Builtin.bitOr (a : Int) (b : Int) = ((a ||| b : Nat) : Int) := by
  have nn : ∀ x : Nat, Builtin.bitNot (Builtin.bitNot (x : Int)) = (x : Int) := fun x => by unfold Builtin.bitNot; omega
  have neg : ∀ x : Nat, decide ((0:Int) ≤ Builtin.bitNot (x : Int)) = false := fun x => decide_eq_false (by unfold Builtin.bitNot; omega)
  unfold Builtin.bitOr Builtin.bitAnd
  rw [neg a, neg b]
  show Builtin.bitNot (Builtin.bitNot _) = _
  rw [nn, nn, nn]
  rfl
theorem inner_bits (wheel hue : Int) : ∀ (bs : List Int) (B : Nat), ∃ B' : Nat, innerBits wheel hue (B : Int) bs = (B' : Int) ∧ ∀ i, B'.testBit i = true ↔ B.testBit i = true ∨ ∃ way ∈ bs, ((hue + way).fmod wheel).toNat = i
  | [], B => ⟨B, rfl, fun i => by simp⟩
  | way :: r, B => by
    have e : Builtin.bitOr (B : Int) (1 * 2 ^ ((hue + way).fmod wheel).toNat) = ((B ||| 2 ^ ((hue + way).fmod wheel).toNat : Nat) : Int) := by
      rw [← or_nat, Int.one_mul, Int.natCast_pow]; rfl
    obtain ⟨B', h1, h2⟩ := inner_bits wheel hue r (B ||| 2 ^ ((hue + way).fmod wheel).toNat)
    refine ⟨B', ?_, fun i => ?_⟩
    · show innerBits wheel hue (Builtin.bitOr (B : Int) (1 * 2 ^ ((hue + way).fmod wheel).toNat)) r = _
      rw [e]; exact h1
    · rw [h2, Nat.testBit_or, Bool.or_eq_true, Nat.testBit_two_pow, decide_eq_true_eq]
      constructor
      · rintro ((a | a) | ⟨w, hw, a⟩)
        · exact .inl a
        · exact .inr ⟨way, .head _, a⟩
        · exact .inr ⟨w, .tail _ hw, a⟩
      · rintro (a | ⟨w, hw, a⟩)
        · exact .inl (.inl a)
        · rcases List.mem_cons.mp hw with rfl | hw
          · exact .inl (.inr a)
          · exact .inr ⟨w, hw, a⟩
theorem outer_bits (wheel : Int) (bs : List Int) : ∀ (as : List Int) (B : Nat), ∃ B' : Nat, outerB wheel bs (B : Int) as = (B' : Int) ∧ ∀ i, B'.testBit i = true ↔ B.testBit i = true ∨ ∃ hue ∈ as, ∃ way ∈ bs, ((hue + way).fmod wheel).toNat = i
  | [], B => ⟨B, rfl, fun i => by simp⟩
  | hue :: r, B => by
    obtain ⟨B1, h1, h2⟩ := inner_bits wheel hue bs B
    obtain ⟨B', h3, h4⟩ := outer_bits wheel bs r B1
    refine ⟨B', ?_, fun i => ?_⟩
    · show outerB wheel bs (innerBits wheel hue (B : Int) bs) r = _
      rw [h1]; exact h3
    · rw [h4, h2]
      constructor
      · rintro ((a | a) | ⟨x, hx, a⟩)
        · exact .inl a
        · exact .inr ⟨hue, .head _, a⟩
        · exact .inr ⟨x, .tail _ hx, a⟩
      · rintro (a | ⟨x, hx, a⟩)
        · exact .inl (.inl a)
        · rcases List.mem_cons.mp hx with rfl | hx
          · exact .inl (.inr a)
          · exact .inr ⟨x, hx, a⟩
/-- the bits are the sums -/
theorem bits_sum {n : Nat} (hn : 0 < n) {as bs : List Int} (ha : ∀ z ∈ as, 0 ≤ z ∧ z < (n : Int)) (hb : ∀ z ∈ bs, 0 ≤ z ∧ z < (n : Int)) :
    ∃ B : Nat, outerB (n : Int) bs 0 as = (B : Int) ∧ B < 2 ^ n ∧ ∀ i, B.testBit i = sP n (inL as) (inL bs) i := by
  obtain ⟨B, h1, h2⟩ := outer_bits (n : Int) bs as 0
  have key : ∀ i, B.testBit i = sP n (inL as) (inL bs) i := fun i => by
    rw [Bool.eq_iff_iff, h2, sP_iff]
    simp only [Nat.zero_testBit, Bool.false_eq_true, false_or]
    constructor
    · rintro ⟨a, ha', b, hb', e⟩
      obtain ⟨a, rfl⟩ := Int.eq_ofNat_of_zero_le (ha a ha').1
      obtain ⟨b, rfl⟩ := Int.eq_ofNat_of_zero_le (hb b hb').1
      have g1 := (ha _ ha').2
      have g2 := (hb _ hb').2
      rw [fmod_nat hn] at e
      exact ⟨a, b, by omega, by omega, inL_iff.mpr ha', inL_iff.mpr hb', e⟩
    · rintro ⟨a, b, _, _, ha', hb', e⟩
      exact ⟨_, inL_iff.mp ha', _, inL_iff.mp hb', by rw [fmod_nat hn]; exact e⟩
  refine ⟨B, h1, Nat.lt_pow_two_of_testBit _ fun i hi => ?_, key⟩
  cases e : B.testBit i with
  | false => rfl
  | true =>
    rw [key, sP_iff] at e
    obtain ⟨a, b, _, _, _, _, rfl⟩ := e
    exact absurd (Nat.mod_lt (a + b) hn) (by omega)
theorem keep_nat {n : Nat} (h3 : n = 6 ∨ n = 12 ∨ n = 18) {B t : Nat} (hB : B < 2 ^ n) (ht : t < n) : keepP (B : Int) (n : Int) (t : Int) = kP n B.testBit t := by
  rw [← rot_eq_iff h3 hB ht]
  unfold keepP
  have e1 : ((B : Int) * 2 ^ ((t : Nat) : Int).toNat) = ((B * 2 ^ t : Nat) : Int) := by rw [Int.natCast_mul, Int.natCast_pow]; rfl
  have e2 : (1 * 2 ^ ((n : Nat) : Int).toNat - 1 : Int) = ((2 ^ n - 1 : Nat) : Int) := by
    have := Nat.two_pow_pos n
    rw [Int.one_mul, Int.natCast_sub (by omega), Int.natCast_pow]; rfl
  have e4 : (((n : Nat) : Int) - ((t : Nat) : Int)).toNat = n - t := Int.toNat_sub n t
  have e3 : (B : Int).fdiv (2 ^ (((n : Nat) : Int) - ((t : Nat) : Int)).toNat) = ((B / 2 ^ (n - t) : Nat) : Int) := by
    rw [e4, Int.fdiv_eq_ediv_of_nonneg _ (by exact Int.le_of_lt (Int.pow_pos (by decide))), Int.natCast_ediv, Int.natCast_pow]; rfl
  rw [e1, e2, e3, and_nat, or_nat]
  have e5 : (B * 2 ^ t &&& (2 ^ n - 1)) ||| B / 2 ^ (n - t) = rotM n B t := by
    unfold rotM
    rw [Nat.shiftLeft_eq, Nat.shiftRight_eq_div_pow]
    refine Nat.eq_of_testBit_eq fun i => ?_
    rw [Nat.testBit_or, Nat.testBit_and, Nat.testBit_and, Nat.testBit_or, Nat.testBit_two_pow_sub_one]
    by_cases hi : i < n
    · rw [decide_eq_true hi]; simp
    · have : (B / 2 ^ (n - t)).testBit i = false := bit_out (n := n) (Nat.lt_of_le_of_lt (Nat.div_le_self _ _) hB) (by omega)
      rw [decide_eq_false hi, this]; simp
  rw [e5, Bool.eq_iff_iff, beq_iff_eq, beq_iff_eq]
  exact Int.ofNat_inj

end
section
open PySem PySem.W PyProof.Rows
set_option maxRecDepth 100000
set_option maxHeartbeats 8000000
theorem chr1_inj {a b : Nat} (h : chr1 a = chr1 b) : a = b := by
  have := congrArg (fun s : Str => s.cps.toList) h
  simpa using this
theorem low_name {odd : Bool} {due : Int} (h0 : 0 ≤ due) (h1 : due < 18) : Txt.lower (nameOf odd due) = chr1 (97 + due).toNat := by
  obtain ⟨a, b⟩ := low_ok h0 h1
  unfold nameOf
  cases odd
  · exact b
  · exact a
theorem toNat_inj {a b : Int} (ha : 0 ≤ a) (hb : 0 ≤ b) (e : a.toNat = b.toNat) : a = b := by
  rw [← Int.toNat_of_nonneg ha, e, Int.toNat_of_nonneg hb]
section
variable {side wheel : Int} (hs : 1 ≤ side ∧ side ≤ 3) (hW : 6 * side = wheel)
include hs hW
theorem due_rng (a : Int) : 0 ≤ a.fmod wheel ∧ a.fmod wheel < 18 := by
  have := Int.fmod_nonneg_of_pos a (show (0:Int) < wheel by omega)
  have := Int.fmod_lt_of_pos a (show (0:Int) < wheel by omega)
  omega
theorem flip {hue way h : Int} (a : 0 ≤ hue ∧ hue < wheel) (b : 0 ≤ way ∧ way < wheel) (c : 0 ≤ h ∧ h < wheel) : (hue + way).fmod wheel = h ↔ way = (h - hue).fmod wheel := by
  have w0 : 0 ≤ wheel := Int.le_of_lt (Int.lt_of_le_of_lt a.1 a.2)
  rw [Int.fmod_eq_emod_of_nonneg _ w0, Int.fmod_eq_emod_of_nonneg _ w0]
  constructor
  · intro e
    rw [← e, Int.emod_sub_emod, Int.add_comm, Int.add_sub_cancel, Int.emod_eq_of_lt b.1 b.2]
  · intro e
    rw [e, Int.add_emod_emod, Int.add_comm, Int.sub_add_cancel, Int.emod_eq_of_lt c.1 c.2]
theorem hit_iff {odd : Bool} {hue way h : Int} (c : 0 ≤ h ∧ h < wheel) : (Txt.lower (nameOf odd ((hue + way).fmod wheel)) == chr1 (97 + h).toNat) = true ↔ (hue + way).fmod wheel = h := by
  have d := due_rng hs hW (hue + way)
  rw [low_name d.1 d.2, beq_iff_eq]
  constructor
  · intro e
    exact toNat_inj d.1 c.1 (Nat.add_left_cancel ((Int.toNat_add (by decide) d.1).symm.trans ((chr1_inj e).trans (Int.toNat_add (by decide) c.1))))
  · intro e; rw [e]
theorem inner_find {unit white hue kk h : Int} (a : 0 ≤ hue ∧ hue < wheel) (c : 0 ≤ h ∧ h < wheel) : ∀ (bs : List Int) (j : Nat), bs.Nodup → (∀ z ∈ bs, 0 ≤ z ∧ z < wheel) →
    ((innerL side wheel unit white hue kk j bs).filter fun p => Txt.lower p.1 == chr1 (97 + h).toNat).map (·.2) = if (bs.any (· == (h - hue).fmod wheel)) = true then [textOf h unit white side] else []
  | [], _, _, _ => rfl
  | way :: r, j, hn, hb => by
    have ih := inner_find (unit := unit) (white := white) (kk := kk) a c r (j + 1) (List.nodup_cons.mp hn).2 fun z hz => hb z (.tail _ hz)
    have step : innerL side wheel unit white hue kk j (way :: r) = (nameOf ((kk + (j : Int)).fmod 2 == 1) ((hue + way).fmod wheel), textOf ((hue + way).fmod wheel) unit white side) :: innerL side wheel unit white hue kk (j + 1) r := rfl
    rw [step, List.filter_cons, List.any_cons]
    have hw := hb way (.head _)
    by_cases e : (hue + way).fmod wheel = h
    · have e2 := (flip hs hW a hw c).mp e
      rw [if_pos ((hit_iff hs hW c).mpr e), List.map_cons, ih]
      have e3 : (way == (h - hue).fmod wheel) = true := by rw [beq_iff_eq]; exact e2
      have e4 : (r.any (· == (h - hue).fmod wheel)) = false := by
        rw [List.any_eq_false]
        intro z hz ez
        rw [beq_iff_eq] at ez
        rw [ez, ← e2] at hz
        exact (List.nodup_cons.mp hn).1 hz
      rw [e3, e4, Bool.true_or, if_pos rfl, if_neg Bool.false_ne_true, e]
    · have e2 : ¬ (way == (h - hue).fmod wheel) = true := by rw [beq_iff_eq]; exact fun x => e ((flip hs hW a hw c).mpr x)
      rw [if_neg (fun x => e ((hit_iff hs hW c).mp x)), ih]
      rw [Bool.not_eq_true] at e2
      rw [e2, Bool.false_or]
theorem outer_find {d h : Int} {bs : List Int} (c : 0 ≤ h ∧ h < wheel) (hn : bs.Nodup) (hb : ∀ z ∈ bs, 0 ≤ z ∧ z < wheel) : ∀ (as : List Int) (k : Nat), (∀ z ∈ as, 0 ≤ z ∧ z < wheel) →
    ((outerL side wheel d bs k as).filter fun p => Txt.lower p.1 == chr1 (97 + h).toNat).map (·.2) = ((shadesL d k as).filter fun tr => bs.any (· == (h - tr.1).fmod wheel)).map fun tr => textOf h tr.2.1 tr.2.2 side
  | [], _, _ => rfl
  | hue :: r, k, ha => by
    have ih := outer_find (d := d) c hn hb r (k + 1) fun z hz => ha z (.tail _ hz)
    have s1 : outerL side wheel d bs k (hue :: r) = innerL side wheel (unitOf d k) (whiteOf d k) hue k 0 bs ++ outerL side wheel d bs (k + 1) r := rfl
    have s2 : shadesL d k (hue :: r) = (hue, unitOf d k, whiteOf d k) :: shadesL d (k + 1) r := rfl
    rw [s1, s2, List.filter_append, List.map_append, ih, inner_find hs hW (ha hue (.head _)) c bs 0 hn hb, List.filter_cons]
    by_cases e : (bs.any (· == (h - hue).fmod wheel)) = true
    · rw [if_pos e, if_pos e]; rfl
    · rw [if_neg e, if_neg e]; rfl
end
theorem inner_len (side wheel unit white hue kk : Int) : ∀ (bs : List Int) (j : Nat), (innerL side wheel unit white hue kk j bs).length = bs.length := innerL_len side wheel unit white hue kk
theorem outer_len (side wheel d : Int) (bs : List Int) : ∀ (as : List Int) (k : Nat), (outerL side wheel d bs k as).length = as.length * bs.length
  | [], _ => by simp [outerL]
  | hue :: r, k => by
    have s1 : outerL side wheel d bs k (hue :: r) = innerL side wheel (unitOf d k) (whiteOf d k) hue k 0 bs ++ outerL side wheel d bs (k + 1) r := rfl
    rw [s1, List.length_append, outer_len side wheel d bs r (k + 1), innerL_len, List.length_cons, Nat.add_mul, Nat.one_mul, Nat.add_comm]
theorem shades_fst (d : Int) : ∀ (as : List Int) (k : Nat), (shadesL d k as).map (·.1) = as
  | [], _ => rfl
  | hue :: r, k => by
    have s2 : shadesL d k (hue :: r) = (hue, unitOf d k, whiteOf d k) :: shadesL d (k + 1) r := rfl
    rw [s2, List.map_cons, shades_fst d r (k + 1)]
theorem shades_mem (d : Int) : ∀ (as : List Int) (k : Nat), ∀ tr ∈ shadesL d k as, (1 ≤ tr.2.1 ∧ tr.2.1 ≤ 3) ∧ (0 ≤ tr.2.2 ∧ tr.2.2 ≤ 6) ∧ tr.1 ∈ as
  | [], _, tr, h => by cases h
  | hue :: r, k, tr, h => by
    rcases List.mem_cons.mp h with rfl | h
    · refine ⟨?_, ?_, .head _⟩
      · have := Int.fmod_nonneg_of_pos (d + (k : Int)) (show (0:Int) < 3 by decide)
        have := Int.fmod_lt_of_pos (d + (k : Int)) (show (0:Int) < 3 by decide)
        show 1 ≤ unitOf d k ∧ unitOf d k ≤ 3
        unfold unitOf; omega
      · have := Int.fmod_nonneg_of_pos (d.fdiv 5 + (k : Int)) (show (0:Int) < 7 by decide)
        have := Int.fmod_lt_of_pos (d.fdiv 5 + (k : Int)) (show (0:Int) < 7 by decide)
        show 0 ≤ whiteOf d k ∧ whiteOf d k ≤ 6
        unfold whiteOf; omega
    · obtain ⟨a, b, c⟩ := shades_mem d r (k + 1) tr h
      exact ⟨a, b, .tail _ c⟩
/-- each pair of the rows: a fine name and a fine text -/
theorem inner_fine {side wheel unit white hue kk : Int} (hs : 1 ≤ side ∧ side ≤ 3) (hW : 6 * side = wheel) (hu : 1 ≤ unit ∧ unit ≤ 3) (hw : 0 ≤ white ∧ white ≤ 6) : ∀ (bs : List Int) (j : Nat), ∀ p ∈ innerL side wheel unit white hue kk j bs, ∃ odd way, p = (nameOf odd ((hue + way).fmod wheel), textOf ((hue + way).fmod wheel) unit white side) ∧ way ∈ bs
  | [], _, p, h => by cases h
  | way :: r, j, p, h => by
    rcases List.mem_cons.mp h with rfl | h
    · exact ⟨_, way, rfl, .head _⟩
    · obtain ⟨o, w, e, hw'⟩ := inner_fine hs hW hu hw r (j + 1) p h
      exact ⟨o, w, e, .tail _ hw'⟩
theorem outer_fine {side wheel d : Int} (hs : 1 ≤ side ∧ side ≤ 3) (hW : 6 * side = wheel) (bs : List Int) : ∀ (as : List Int) (k : Nat), ∀ p ∈ outerL side wheel d bs k as, ∃ odd hue way unit white, p = (nameOf odd ((hue + way).fmod wheel), textOf ((hue + way).fmod wheel) unit white side) ∧ hue ∈ as ∧ way ∈ bs ∧ (1 ≤ unit ∧ unit ≤ 3) ∧ (0 ≤ white ∧ white ≤ 6)
  | [], _, p, h => by cases h
  | hue :: r, k, p, h => by
    have s1 : outerL side wheel d bs k (hue :: r) = innerL side wheel (unitOf d k) (whiteOf d k) hue k 0 bs ++ outerL side wheel d bs (k + 1) r := rfl
    rw [s1] at h
    rcases List.mem_append.mp h with h | h
    · have m := shades_mem d [hue] k (hue, unitOf d k, whiteOf d k) (.head _)
      obtain ⟨o, w, e, hw⟩ := inner_fine hs hW m.1 m.2.1 bs 0 p h
      exact ⟨o, hue, w, _, _, e, .head _, hw, m.1, m.2.1⟩
    · obtain ⟨o, x, w, u, wt, e, hx, hw, a, b⟩ := outer_fine hs hW bs r (k + 1) p h
      exact ⟨o, x, w, u, wt, e, .tail _ hx, hw, a, b⟩
theorem fine_ok {s : Str} (h : Fine s) : PyData.strOk s = true := by
  unfold PyData.strOk
  rw [Array.all_eq_true]
  intro i hi
  have := h i hi
  rw [Array.getD_eq_getD_getElem?, Array.getElem?_eq_getElem hi] at this
  have h2 : s.cps[i] < 127 := this.2
  exact decide_eq_true (by omega)
theorem name_fine {odd : Bool} {due : Int} (h0 : 0 ≤ due) (h1 : due < 18) : Fine (nameOf odd due) ∧ (nameOf odd due).length = 1 := by
  unfold nameOf
  cases odd
  · exact ⟨chr1_ok (by simp; omega) (by simp; omega), rfl⟩
  · exact ⟨chr1_ok (by simp; omega) (by simp; omega), rfl⟩
theorem text_fine {due unit white side : Int} (hs : 1 ≤ side ∧ side ≤ 3) (hu : 1 ≤ unit ∧ unit ≤ 3) (hw : 0 ≤ white ∧ white ≤ 6) : Fine (textOf due unit white side) := (txt3_ok (part_rng hu hw hs) (part_rng hu hw hs) (part_rng hu hw hs)).1

end
section
open PySem PySem.W PyProof.Rows
set_option maxRecDepth 100000
set_option maxHeartbeats 8000000
section
variable {side wheel : Int} (hs : 1 ≤ side ∧ side ≤ 3) (hW : 6 * side = wheel)
include hs hW
theorem inner_any {unit white hue kk h : Int} (c : 0 ≤ h ∧ h < wheel) : ∀ (bs : List Int) (j : Nat), ((innerL side wheel unit white hue kk j bs).any fun p => Txt.lower p.1 == chr1 (97 + h).toNat) = true ↔ ∃ b ∈ bs, (hue + b).fmod wheel = h
  | [], j => by
    constructor
    · intro x; cases x
    · rintro ⟨b, hb, _⟩; cases hb
  | way :: r, j => by
    have ih := inner_any (unit := unit) (white := white) (hue := hue) (kk := kk) c r (j + 1)
    have step : innerL side wheel unit white hue kk j (way :: r) = (nameOf ((kk + (j : Int)).fmod 2 == 1) ((hue + way).fmod wheel), textOf ((hue + way).fmod wheel) unit white side) :: innerL side wheel unit white hue kk (j + 1) r := rfl
    rw [step, List.any_cons, Bool.or_eq_true, hit_iff hs hW c, ih]
    constructor
    · rintro (a | ⟨b, hb, e⟩)
      · exact ⟨way, .head _, a⟩
      · exact ⟨b, .tail _ hb, e⟩
    · rintro ⟨b, hb, e⟩
      rcases List.mem_cons.mp hb with rfl | hb
      · exact .inl e
      · exact .inr ⟨b, hb, e⟩
theorem outer_any {d h : Int} {bs : List Int} (c : 0 ≤ h ∧ h < wheel) : ∀ (as : List Int) (k : Nat), ((outerL side wheel d bs k as).any fun p => Txt.lower p.1 == chr1 (97 + h).toNat) = true ↔ ∃ a ∈ as, ∃ b ∈ bs, (a + b).fmod wheel = h
  | [], k => by
    constructor
    · intro x; cases x
    · rintro ⟨b, hb, _⟩; cases hb
  | hue :: r, k => by
    have ih := outer_any (d := d) (bs := bs) c r (k + 1)
    have s1 : outerL side wheel d bs k (hue :: r) = innerL side wheel (unitOf d k) (whiteOf d k) hue k 0 bs ++ outerL side wheel d bs (k + 1) r := rfl
    rw [s1, List.any_append, Bool.or_eq_true, inner_any hs hW c, ih]
    constructor
    · rintro (a | ⟨b, hb, e⟩)
      · exact ⟨hue, .head _, a⟩
      · exact ⟨b, .tail _ hb, e⟩
    · rintro ⟨b, hb, e⟩
      rcases List.mem_cons.mp hb with rfl | hb
      · exact .inl e
      · exact .inr ⟨b, hb, e⟩
theorem sum_iff {rows : List Rw} {d h : Int} {as bs : List Int} (hr : rows.map Rw.kv = outerL side wheel d bs 0 as) (c : 0 ≤ h ∧ h < wheel) : sumP rows h = true ↔ ∃ a ∈ as, ∃ b ∈ bs, (a + b).fmod wheel = h := by
  rw [← outer_any hs hW c as 0, ← hr]
  unfold sumP
  rw [(low_ok c.1 (by omega)).1, List.any_map]
  rfl
theorem found_eq {rows : List Rw} {shs : List Sh} {d h : Int} {as bs : List Int} (hr : rows.map Rw.kv = outerL side wheel d bs 0 as) (hsh : shs.map Sh.tr = shadesL d 0 as) (c : 0 ≤ h ∧ h < wheel) (hn : bs.Nodup) (ha : ∀ z ∈ as, 0 ≤ z ∧ z < wheel) (hb : ∀ z ∈ bs, 0 ≤ z ∧ z < wheel) : foundI rows h = textsI shs bs wheel side h := by
  have := outer_find (d := d) hs hW c hn hb as 0 ha
  rw [← hr, ← hsh, List.filter_map, List.map_map, List.filter_map, List.map_map] at this
  exact this
end
theorem texts_len {shs : List Sh} {d h wheel side : Int} {as bs : List Int} (hsh : shs.map Sh.tr = shadesL d 0 as) : (textsI shs bs wheel side h).length = (as.filter fun hue => bs.any (· == (h - hue).fmod wheel)).length := by
  have e : as = shs.map Sh.h := by
    have := shades_fst d as 0
    rw [← hsh, List.map_map] at this
    exact this.symm
  unfold textsI
  rw [List.length_map, e, List.filter_map, List.length_map]
  rfl
noncomputable def sumG (g : Int → Nat) : List Int → Nat
  | [] => 0
  | h :: r => g h + sumG g r
theorem sumG_add (f g : Int → Nat) : ∀ l, sumG (fun h => f h + g h) l = sumG f l + sumG g l
  | [] => rfl
  | h :: r => by
    show f h + g h + sumG _ r = f h + sumG f r + (g h + sumG g r)
    rw [sumG_add f g r]; omega
theorem sumG_congr {f g : Int → Nat} : ∀ {l : List Int}, (∀ h ∈ l, f h = g h) → sumG f l = sumG g l
  | [], _ => rfl
  | h :: r, e => by
    show f h + sumG f r = g h + sumG g r
    rw [e h (.head _), sumG_congr fun x hx => e x (.tail _ hx)]
theorem sumG_zero : ∀ (l : List Int), sumG (fun _ => 0) l = 0
  | [] => rfl
  | h :: r => by
    show 0 + sumG _ r = 0
    rw [sumG_zero r]
theorem sumG_ind (p : Int → Bool) : ∀ (l : List Int), sumG (fun h => if p h = true then 1 else 0) l = (l.filter p).length
  | [] => rfl
  | h :: r => by
    show (if p h = true then 1 else 0) + sumG _ r = _
    rw [sumG_ind p r, List.filter_cons]
    split
    · rw [List.length_cons]; omega
    · omega
theorem one_of {l : List Int} {p : Int → Bool} {x : Int} (hn : l.Nodup) (hx : x ∈ l) (h : ∀ y ∈ l, p y = true ↔ y = x) : (l.filter p).length = 1 := by
  have : (l.filter p).Perm [x] := by
    refine (List.perm_ext_iff_of_nodup (hn.filter p) (by simp)).mpr fun a => ?_
    rw [List.mem_filter, List.mem_singleton]
    constructor
    · rintro ⟨u, v⟩; exact (h a u).mp v
    · rintro rfl; exact ⟨hx, (h _ hx).mpr rfl⟩
  have := this.length_eq
  exact this
theorem dbl {α : Type} (f : Int → α → Bool) {l : List Int} (hn : l.Nodup) : ∀ (rows : List α), (∀ r ∈ rows, ∃ x ∈ l, ∀ y ∈ l, f y r = true ↔ y = x) → sumG (fun h => (rows.filter (f h)).length) l = rows.length
  | [], _ => sumG_zero l
  | r :: rest, h => by
    obtain ⟨x, hx, hu⟩ := h r (.head _)
    have e : sumG (fun h => ((r :: rest).filter (f h)).length) l = sumG (fun h => (rest.filter (f h)).length + if f h r = true then 1 else 0) l := sumG_congr fun y _ => by
      rw [List.filter_cons]; split
      · rfl
      · rfl
    rw [e, sumG_add, dbl f hn rest fun q hq => h q (.tail _ hq), sumG_ind (fun y => f y r), one_of hn hx hu]
    rfl
theorem sumT_eq (shs : List Sh) (bs : List Int) (wheel side : Int) : ∀ l, sumT shs bs wheel side l = 2 * ((sumG (fun h => (textsI shs bs wheel side h).length) l : Nat) : Int)
  | [] => rfl
  | h :: r => by
    have s1 : sumT shs bs wheel side (h :: r) = 2 * ((textsI shs bs wheel side h).length : Int) + sumT shs bs wheel side r := rfl
    have s2 : sumG (fun h => (textsI shs bs wheel side h).length) (h :: r) = (textsI shs bs wheel side h).length + sumG (fun h => (textsI shs bs wheel side h).length) r := rfl
    rw [s1, sumT_eq shs bs wheel side r, s2]; omega
theorem sp_iff {n : Nat} (hn : 0 < n) {as bs : List Int} (ha : ∀ z ∈ as, 0 ≤ z ∧ z < (n : Int)) (hb : ∀ z ∈ bs, 0 ≤ z ∧ z < (n : Int)) {i : Nat} : sP n (inL as) (inL bs) i = true ↔ ∃ a ∈ as, ∃ b ∈ bs, (a + b).fmod (n : Int) = (i : Int) := by
  rw [sP_iff]
  constructor
  · rintro ⟨a, b, _, _, ha', hb', e⟩
    exact ⟨_, inL_iff.mp ha', _, inL_iff.mp hb', by rw [fmod_nat hn, e]⟩
  · rintro ⟨a, ha', b, hb', e⟩
    obtain ⟨a, rfl⟩ := Int.eq_ofNat_of_zero_le (ha a ha').1
    obtain ⟨b, rfl⟩ := Int.eq_ofNat_of_zero_le (hb b hb').1
    have g1 := (ha _ ha').2
    have g2 := (hb _ hb').2
    rw [fmod_nat hn] at e
    exact ⟨a, b, by omega, by omega, inL_iff.mpr ha', inL_iff.mpr hb', Int.ofNat.inj e⟩
theorem sP_cong {n : Nat} {p q q' : Nat → Bool} (h : ∀ i, i < n → q i = q' i) {i : Nat} : sP n p q i = sP n p q' i := by
  rw [Bool.eq_iff_iff, sP_iff, sP_iff]
  constructor
  · rintro ⟨a, b, x, y, z, w, e⟩; exact ⟨a, b, x, y, z, by rw [← h b y]; exact w, e⟩
  · rintro ⟨a, b, x, y, z, w, e⟩; exact ⟨a, b, x, y, z, by rw [h b y]; exact w, e⟩
theorem rep_eq {n : Nat} {side : Int} (hs : 1 ≤ side ∧ side ≤ 3) (hW : 6 * side = (n : Int)) {as bs : List Int} (hna : as.Nodup) (ha : ∀ z ∈ as, 0 ≤ z ∧ z < (n : Int)) (hb : ∀ z ∈ bs, 0 ≤ z ∧ z < (n : Int)) {h : Nat} (hh : h < n) :
    (as.filter fun hue => bs.any (· == ((h : Int) - hue).fmod (n : Int))).length = repP n (inL as) (inL bs) h := by
  rw [len_filter hna ha]
  unfold repP
  refine cnt_congr fun i hi => ?_
  congr 1
  rw [Bool.eq_iff_iff]
  simp only [List.any_eq_true, List.mem_range, Bool.and_eq_true, beq_iff_eq]
  constructor
  · rintro ⟨z, hz, e⟩
    have hz' := hb z hz
    obtain ⟨j, rfl⟩ := Int.eq_ofNat_of_zero_le hz'.1
    have := (flip hs hW (hue := (i : Int)) ⟨by omega, by omega⟩ hz' (h := (h : Int)) ⟨by omega, by omega⟩).mpr e
    rw [fmod_nat (by omega)] at this
    exact ⟨j, by omega, inL_iff.mpr hz, Int.ofNat.inj this⟩
  · rintro ⟨j, hj, hz, e⟩
    have hz := inL_iff.mp hz
    refine ⟨_, hz, (flip hs hW (hue := (i : Int)) ⟨by omega, by omega⟩ (hb _ hz) (h := (h : Int)) ⟨by omega, by omega⟩).mp ?_⟩
    rw [fmod_nat (by omega), e]

end
section
open PySem PySem.W PySem.Calls PyProof.Rows
set_option maxRecDepth 100000
set_option maxHeartbeats 8000000
/-- what the law's own numbers satisfy -/
structure PlainLaw (rows : List Rw) (shs : List Sh) (as bs : List Int) (bits side wheel : Int) : Prop where
  hb0 : 0 ≤ bits ∧ bits < 2 ^ 18
  hok : ∀ p ∈ rows.map Rw.kv, PyData.strOk p.1 = true ∧ PyData.strOk p.2 = true
  hlen : (rows.length : Int) = (as.length : Int) * (bs.length : Int)
  hsz : rows.length < 2 ^ 20
  hkl : ∀ r ∈ rows, r.k.length ≤ 5592405
  hshl : shs.length ≤ 4
  hshr : ∀ r ∈ shs, (1 ≤ r.u ∧ r.u ≤ 3) ∧ (0 ≤ r.w ∧ r.w ≤ 6) ∧ (0 ≤ r.h ∧ r.h < wheel)
  hc1 : ¬ ((sumsI rows wheel).length : Int) < leastI as bs bits wheel
  hc2 : ((sumsI rows wheel).length : Int) < (as.length : Int) + (bs.length : Int) → ((sumsI rows wheel).length : Int) = leastI as bs bits wheel
  hfit : ∀ h ∈ sumsI rows wheel, foundI rows h = textsI shs bs wheel side h
  hmany : ∀ h ∈ sumsI rows wheel, 1 ≤ (textsI shs bs wheel side h).length ∧ ((as.length : Int) + (bs.length : Int)) - ((sumsI rows wheel).length : Int) ≤ ((textsI shs bs wheel side h).length : Int)
  hokT : ∀ h ∈ sumsI rows wheel, ∀ p ∈ textsI shs bs wheel side h, PyData.strOk p = true
  hend : 0 + sumT shs bs wheel side (sumsI rows wheel) = 2 * (rows.length : Int)
theorem hues_ok {x step wheel : Int} (hw : 6 ≤ wheel) : (∀ z ∈ huesOf x step wheel, 0 ≤ z ∧ z < wheel) ∧ (huesOf x step wheel).length ≤ 4 := by
  have go : ∀ (picks : Int) (hs fs : List Int) (k : Nat), (∀ z ∈ hs, 0 ≤ z ∧ z < wheel) → (∀ z ∈ fs, 0 ≤ z ∧ z < wheel) → (∀ z ∈ huesGo picks k hs fs, 0 ≤ z ∧ z < wheel) ∧ (huesGo picks k hs fs).length ≤ fs.length + hs.length := by
    intro picks hs
    induction hs with
    | nil => intro fs k _ h; exact ⟨h, Nat.le_refl _⟩
    | cons a r ih =>
      intro fs k h1 h2
      unfold huesGo
      split
      · have := ih (fs ++ [a]) (k + 1) (fun z hz => h1 z (.tail _ hz)) (fun z hz => by
          rcases List.mem_append.mp hz with hz | hz
          · exact h2 z hz
          · rw [List.mem_singleton.mp hz]; exact h1 a (.head _))
        refine ⟨this.1, Nat.le_trans this.2 ?_⟩
        rw [List.length_append]; simp only [List.length_cons, List.length_nil]; omega
      · have := ih fs (k + 1) (fun z hz => h1 z (.tail _ hz)) h2
        exact ⟨this.1, Nat.le_trans this.2 (by simp only [List.length_cons]; omega)⟩
  have m : ∀ a : Int, 0 ≤ a.fmod wheel ∧ a.fmod wheel < wheel := fun a => ⟨Int.fmod_nonneg_of_pos _ (by omega), Int.fmod_lt_of_pos _ (by omega)⟩
  have h := go (1 + (x.fdiv (wheel ^ Int.toNat 2)).fmod 15) [x.fmod wheel, (x.fmod wheel + step).fmod wheel, (x.fdiv wheel).fmod wheel, ((x.fdiv wheel).fmod wheel + step).fmod wheel] [] 0
    (by
      intro z hz
      simp only [List.mem_cons, List.not_mem_nil, or_false] at hz
      rcases hz with rfl | rfl | rfl | rfl <;> exact m _) (by intro z hz; cases hz)
  exact ⟨h.1, h.2⟩
theorem plain_law {rows : List Rw} {shs : List Sh} {y d step side wheel : Int} (hd0 : 0 ≤ d) (hd1 : d < 1000000) (hy0 : 0 ≤ y) (hy1 : y < 1000000) (hs : 1 ≤ side ∧ side ≤ 3) (ht : 1 ≤ step ∧ step ≤ 17) (hW : 6 * side = wheel) (htw : step < wheel)
    (hr : rows.map Rw.kv = outerL side wheel d (huesOf y step wheel) 0 (huesOf d step wheel)) (hsh : shs.map Sh.tr = shadesL d 0 (huesOf d step wheel)) :
    PlainLaw rows shs (huesOf d step wheel) (huesOf y step wheel) (outerB wheel (huesOf y step wheel) 0 (huesOf d step wheel)) side wheel := by
  obtain ⟨n, rfl⟩ := Int.eq_ofNat_of_zero_le (show 0 ≤ wheel by omega)
  obtain ⟨t, rfl⟩ := Int.eq_ofNat_of_zero_le (show 0 ≤ step by omega)
  have h3 : n = 6 ∨ n = 12 ∨ n = 18 := by omega
  have hn : 0 < n := by omega
  have G := hues_good (n := n) (t := t) h3 (by omega) (by omega) hd0 hy0
  have ⟨ha, hal⟩ := hues_ok (x := d) (step := (t : Int)) (wheel := (n : Int)) (by omega)
  have ⟨hb, hbl⟩ := hues_ok (x := y) (step := (t : Int)) (wheel := (n : Int)) (by omega)
  have hna : (huesOf d (t : Int) (n : Int)).Nodup := nodup_go _ _ _ _ List.nodup_nil
  have hnb : (huesOf y (t : Int) (n : Int)).Nodup := nodup_go _ _ _ _ List.nodup_nil
  generalize huesOf d (t : Int) (n : Int) = as at *
  generalize huesOf y (t : Int) (n : Int) = bs at *
  obtain ⟨B, hB, hBl, hBt⟩ := bits_sum hn ha hb
  rw [hB]
  have hBt' : B.testBit = sP n (inL as) (inL bs) := funext hBt
  have la := len_cnt hna ha
  have lb := len_cnt hnb hb
  have sIff : ∀ i : Nat, i < n → sumP rows (i : Int) = sP n (inL as) (inL bs) i := fun i hi => by
    rw [Bool.eq_iff_iff, sum_iff hs hW hr ⟨by omega, by omega⟩, sp_iff hn ha hb]
  have sLen : (sumsI rows (n : Int)).length = cnt n (sP n (inL as) (inL bs)) := by
    unfold sumsI
    rw [Int.toNat_natCast, rng_len]
    exact cnt_congr sIff
  have kIff : ∀ i : Nat, i < n → keepP (B : Int) (n : Int) (i : Int) = kP n (sP n (inL as) (inL bs)) i := fun i hi => by
    rw [keep_nat h3 hBl hi, hBt']
  have kLen : (keptI (B : Int) (n : Int)).length = cnt n (kP n (sP n (inL as) (inL bs))) := by
    unfold keptI
    rw [Int.toNat_natCast, rng_len]
    exact cnt_congr kIff
  have kRng : ∀ z ∈ keptI (B : Int) (n : Int), 0 ≤ z ∧ z < (n : Int) := fun z hz => by
    unfold keptI at hz
    rw [Int.toNat_natCast] at hz
    exact rng_iff.mp (List.mem_filter.mp hz).1
  have kIn : ∀ i : Nat, i < n → inL (keptI (B : Int) (n : Int)) i = kP n (sP n (inL as) (inL bs)) i := fun i hi => by
    rw [Bool.eq_iff_iff, inL_iff, ← kIff i hi]
    unfold keptI
    rw [Int.toNat_natCast, List.mem_filter, rng_iff]
    constructor
    · exact fun x => x.2
    · exact fun x => ⟨⟨by omega, by omega⟩, x⟩
  have fA : (outerS (fun a b => (a + b).fmod (n : Int)) as (keptI (B : Int) (n : Int))).length = cnt n (sP n (inL as) (kP n (sP n (inL as) (inL bs)))) := by
    rw [filled_cnt hn ha kRng]
    exact cnt_congr fun i _ => sP_cong kIn
  have fB : (outerS (fun a b => (a + b).fmod (n : Int)) bs (keptI (B : Int) (n : Int))).length = cnt n (sP n (inL bs) (kP n (sP n (inL as) (inL bs)))) := by
    rw [filled_cnt hn hb kRng]
    exact cnt_congr fun i _ => sP_cong kIn
  have g1 := G.g1
  have g2 := G.g2
  have g3 := G.g3
  have sMem : ∀ h ∈ sumsI rows (n : Int), (0 ≤ h ∧ h < (n : Int)) ∧ sumP rows h = true := fun h hh => by
    unfold sumsI at hh
    rw [Int.toNat_natCast] at hh
    have := List.mem_filter.mp hh
    exact ⟨rng_iff.mp this.1, this.2⟩
  have rLen : rows.length = as.length * bs.length := by
    rw [← outer_len side (n : Int) d bs as 0, ← hr, List.length_map]
  have rMem : ∀ r ∈ rows, ∃ odd hue way unit white, (r.k, r.v) = (nameOf odd ((hue + way).fmod (n : Int)), textOf ((hue + way).fmod (n : Int)) unit white side) ∧ hue ∈ as ∧ way ∈ bs ∧ (1 ≤ unit ∧ unit ≤ 3) ∧ (0 ≤ white ∧ white ≤ 6) := fun r hr' => by
    have : r.kv ∈ rows.map Rw.kv := List.mem_map.mpr ⟨r, hr', rfl⟩
    rw [hr] at this
    exact outer_fine hs hW bs as 0 _ this
  have shMem : ∀ r ∈ shs, (1 ≤ r.u ∧ r.u ≤ 3) ∧ (0 ≤ r.w ∧ r.w ≤ 6) ∧ (0 ≤ r.h ∧ r.h < (n : Int)) := fun r hr' => by
    have : r.tr ∈ shs.map Sh.tr := List.mem_map.mpr ⟨r, hr', rfl⟩
    rw [hsh] at this
    have m := shades_mem d as 0 _ this
    exact ⟨m.1, m.2.1, ha _ m.2.2⟩
  have fit : ∀ h ∈ sumsI rows (n : Int), foundI rows h = textsI shs bs (n : Int) side h := fun h hh => found_eq hs hW hr hsh (sMem h hh).1 hnb ha hb
  constructor
  case hb0 =>
    have : B < 2 ^ 18 := Nat.lt_of_lt_of_le hBl (Nat.pow_le_pow_right (by decide) (by omega))
    have e : (2 : Nat) ^ 18 = 262144 := by decide
    have e2 : (2 : Int) ^ 18 = 262144 := by decide
    rw [e2]; omega
  case hok =>
    intro p hp
    rw [hr] at hp
    obtain ⟨odd, hue, way, unit, white, rfl, _, _, hu, hw⟩ := outer_fine hs hW bs as 0 p hp
    have dr := due_rng hs hW (hue + way)
    exact ⟨fine_ok (name_fine dr.1 dr.2).1, fine_ok (text_fine hs hu hw)⟩
  case hlen => rw [rLen, Int.natCast_mul]
  case hsz =>
    have := Nat.mul_le_mul hal hbl
    rw [rLen]; omega
  case hkl =>
    intro r hr'
    obtain ⟨odd, hue, way, unit, white, e, _⟩ := rMem r hr'
    have dr := due_rng hs hW (hue + way)
    rw [(Prod.mk.inj e).1, (name_fine dr.1 dr.2).2]
    decide
  case hshl =>
    have e : (shs.map Sh.tr).length = as.length := by rw [hsh, ← List.length_map (f := fun tr : Int × Int × Int => tr.1), shades_fst]
    rw [List.length_map] at e
    omega
  case hshr => exact shMem
  case hc1 =>
    unfold leastI
    rw [sLen, fA, fB, kLen]
    omega
  case hc2 =>
    unfold leastI
    rw [sLen, fA, fB, kLen, la, lb]
    intro h
    have := g2 (by omega)
    omega
  case hfit => exact fit
  case hmany =>
    intro h hh
    obtain ⟨c, hp⟩ := sMem h hh
    have e1 := texts_len (side := side) (wheel := (n : Int)) (bs := bs) (h := h) hsh
    obtain ⟨i, rfl⟩ := Int.eq_ofNat_of_zero_le c.1
    have hi : i < n := by omega
    have e2 := rep_eq hs hW hna ha hb hi
    rw [sIff i hi] at hp
    have e3 := g3 i hi hp
    rw [e1, sLen]
    refine ⟨?_, by omega⟩
    obtain ⟨a, ha', b, hb', e⟩ := (sp_iff hn ha hb).mp hp
    refine List.length_pos_of_mem (a := a) (List.mem_filter.mpr ⟨ha', List.any_eq_true.mpr ⟨b, hb', ?_⟩⟩)
    rw [beq_iff_eq]
    exact (flip hs hW (ha a ha') (hb b hb') c).mp e
  case hokT =>
    intro h hh p hp
    unfold textsI at hp
    obtain ⟨r, hr', rfl⟩ := List.mem_map.mp hp
    have m := shMem r (List.mem_filter.mp hr').1
    exact fine_ok (text_fine hs m.1 m.2.1)
  case hend =>
    rw [sumT_eq]
    have e1 : sumG (fun h => (textsI shs bs (n : Int) side h).length) (sumsI rows (n : Int)) = sumG (fun h => (rows.filter fun q => Txt.lower q.k == chr1 (97 + h).toNat).length) (sumsI rows (n : Int)) := sumG_congr fun h hh => by
      rw [← fit h hh]
      unfold foundI
      rw [List.length_map]
    have nd : (sumsI rows (n : Int)).Nodup := (rng_nodup _).filter _
    rw [e1, dbl (fun h (q : Rw) => Txt.lower q.k == chr1 (97 + h).toNat) nd]
    · omega
    · intro r hr'
      obtain ⟨odd, hue, way, unit, white, e, hx, hy, _⟩ := rMem r hr'
      have lo := Int.fmod_nonneg_of_pos (hue + way) (show (0:Int) < (n : Int) by omega)
      have hi := Int.fmod_lt_of_pos (hue + way) (show (0:Int) < (n : Int) by omega)
      refine ⟨(hue + way).fmod (n : Int), ?_, fun z hz => ?_⟩
      · unfold sumsI
        rw [Int.toNat_natCast]
        exact List.mem_filter.mpr ⟨rng_iff.mpr ⟨lo, hi⟩, (sum_iff hs hW hr ⟨lo, hi⟩).mpr ⟨hue, hx, way, hy, rfl⟩⟩
      · rw [(Prod.mk.inj e).1, hit_iff hs hW (sMem z hz).1]
        exact eq_comm

end
section
open PySem PySem.W PySem.Calls PyProof.Rows
set_option maxRecDepth 100000
set_option maxHeartbeats 8000000
theorem fillC32 (w : World) (h : Heap) (X : (K w.params).In h) (e : rw0.foot = 7) : (K w.params).In h ∧ rw0.foot = 7 := by
  k_fill
  exact ⟨X, e⟩
theorem num0E (w : World) {scp : Addr} {vs : List Value} {ns : List Int} {tp : Tok} {x : Int} (e : (ns.getD 0 0 + 16).fmod 1000000 = x) (hi : IntsAre vs ns) (hsz : ns.length ≤ 63) : Pure w 2 299 [.ref scp, .int 0 tp] [] (fun h => h.IsList scp vs.toArray) (fun r new => new = [] ∧ ∃ t, r = .int x t) := e ▸ num0_spec w scp vs ns tp hi hsz
local macro_rules | `(tactic| walk_at "call ref") => useP 299 (vL [vR, (vK 0)]) pSkip (sp ``num0E [vAny, hole 0, hole 1, hole 2]) tlC (cs [aCase 0, aCase 1, aCase 2, cpList]) obA fnA
theorem num1E (w : World) {scp : Addr} {vs : List Value} {ns : List Int} {tp : Tok} {x : Int} (e : (ns.getD 1 0 + 2041).fmod 1000000 = x) (hi : IntsAre vs ns) (hsz : ns.length ≤ 63) : Pure w 2 299 [.ref scp, .int 1 tp] [] (fun h => h.IsList scp vs.toArray) (fun r new => new = [] ∧ ∃ t, r = .int x t) := e ▸ num1_spec w scp vs ns tp hi hsz
local macro_rules | `(tactic| walk_at "call ref") => useP 299 (vL [vR, (vK 1)]) pSkip (sp ``num1E [vAny, hole 0, hole 1, hole 2]) tlC (cs [aCase 0, aCase 1, aCase 2, cpList]) obA fnA
theorem num2E (w : World) {scp : Addr} {vs : List Value} {ns : List Int} {tp : Tok} {x : Int} (e : (ns.getD 2 0 + 324).fmod 1000000 = x) (hi : IntsAre vs ns) (hsz : ns.length ≤ 63) : Pure w 2 299 [.ref scp, .int 2 tp] [] (fun h => h.IsList scp vs.toArray) (fun r new => new = [] ∧ ∃ t, r = .int x t) := e ▸ num2_spec w scp vs ns tp hi hsz
local macro_rules | `(tactic| walk_at "call ref") => useP 299 (vL [vR, (vK 2)]) pSkip (sp ``num2E [vAny, hole 0, hole 1, hole 2]) tlC (cs [aCase 0, aCase 1, aCase 2, cpList]) obA fnA
local macro_rules | `(tactic| walk_at "call ref") => useP 306 (vL [vI, vI, vI]) pNews (sp ``hues_spec [vAny, vAny, vAny, vAny, vAny, vAny, vAny, hole 0, hole 1, hole 2, hole 3, hole 4, hole 5]) tlT (cs [oCase 0, oCase 1, oCase 2, oCase 3, oCase 4, oCase 5]) obG fnE
local macro_rules | `(tactic| walk_at "binaryOp FloorDiv int int") => `(tactic| (with_reducible refine floordiv_int (by assumption) ?_ (Or.inl (PyProof.noPylong_small (by omega)))))
local macro_rules | `(tactic| walk_at "exec For Tuple Call cons nil") => `(tactic| (refine opq_of ?_))
local macro_rules | `(tactic| walk_at "call builtin:list.append") => `(tactic| (k_here; (with_reducible show wpAny _ _ (call (Value.builtin _) [Value.ref _, _]) _ _ _); k_dflt (refine' append_K ?k1 ?k2 ?k3 ?_ ?z; (case k1 => k_asm); (case k2 => k_asm); (case k3 => k_upd); (case z => rw [sizeLine_eq]; omega); k_whole); intro h' F' N'; (try k_sweep)))
local macro_rules | `(tactic| walk_at "binaryOp Add int int") => `(tactic| ((with_reducible refine' add_to ?e ?_); (case e => with_reducible assumption)))
local macro_rules | `(tactic| walk_at "binaryOp Mult int int") => `(tactic| ((with_reducible refine' mul_to ?e ?_ ?m); (case e => with_reducible assumption); (case m => mul_fits)))
local macro_rules | `(tactic| walk_at "binaryOp Mod int int") => `(tactic| ((with_reducible refine' mod_to ?e ?b ?_); (case e => with_reducible assumption); (case b => omega)))
theorem start_outer {h₀ h : Heap} {L D tb dx lh rl sl bl fl : Addr} {T o1 o2 o3 o4 o5 o6 o7 : Obj} {hs : Int} {tk₀ : Tok} {bv fv : List Value} {bn fn : Nat}
    (N : News h₀ L h [(D, T), (sl, listOf #[] 0), (rl, listOf #[] 0), (tb, instObj 182 dx), (dx, dictOf [⟨hs, .str (Str.ofString "_headers") tk₀, .ref lh⟩] 1), (lh, listOf #[] 0), (bl, listOf bv.toArray bn), (fl, listOf fv.toArray fn), (L + 1 + 1 + 1 + 1 + 1 + 1 + 1, o7), (L + 1 + 1 + 1 + 1 + 1 + 1, o6), (L + 1 + 1 + 1 + 1 + 1, o5), (L + 1 + 1 + 1 + 1, o4), (L + 1 + 1 + 1, o3), (L + 1 + 1, o2), (L + 1, o1)]) :
    News h₀ L h ((tb, instObj 182 dx) :: (dx, dictOf [⟨hs, .str (Str.ofString "_headers") tk₀, .ref lh⟩] 1) :: (lh, listOf (([] : List Rw).map Rw.ref).toArray 0) :: (rl, listOf (([] : List Rw).map Rw.ref).toArray 0) :: (L + 1 + 1 + 1 + 1 + 1, o5) :: (L + 1, o1) :: (L + 1 + 1, o2) :: (L + 1 + 1 + 1 + 1, o4) :: (L + 1 + 1 + 1 + 1 + 1 + 1, o6) :: (L + 1 + 1 + 1, o3) :: (bl, listOf bv.toArray bn) :: (sl, listOf (([] : List Sh).map Sh.ref).toArray 0) :: (fl, listOf fv.toArray fn) :: ([(L + 1 + 1 + 1 + 1 + 1 + 1 + 1, o7)] ++ [])) := List.forall_mem_cons.2 ⟨N _ (by k_mem), List.forall_mem_cons.2 ⟨N _ (by k_mem), List.forall_mem_cons.2 ⟨N _ (by k_mem), List.forall_mem_cons.2 ⟨N _ (by k_mem), List.forall_mem_cons.2 ⟨N _ (by k_mem), List.forall_mem_cons.2 ⟨N _ (by k_mem), List.forall_mem_cons.2 ⟨N _ (by k_mem), List.forall_mem_cons.2 ⟨N _ (by k_mem), List.forall_mem_cons.2 ⟨N _ (by k_mem), List.forall_mem_cons.2 ⟨N _ (by k_mem), List.forall_mem_cons.2 ⟨N _ (by k_mem), List.forall_mem_cons.2 ⟨N _ (by k_mem), List.forall_mem_cons.2 ⟨N _ (by k_mem), List.forall_mem_cons.2 ⟨N _ (by k_mem), List.forall_mem_nil _⟩⟩⟩⟩⟩⟩⟩⟩⟩⟩⟩⟩⟩⟩
local macro_rules | `(tactic| k_ne) => `(tactic| (refine neN ?_; (try dsimp only); first | (with_reducible assumption) | exact Ne.symm (by with_reducible assumption) | exact And.left (by with_reducible assumption) | exact Ne.symm (And.left (by with_reducible assumption)) | exact And.left (And.right (by with_reducible assumption)) | exact Ne.symm (And.left (And.right (by with_reducible assumption))) | exact And.right (by with_reducible assumption) | exact Ne.symm (And.right (by with_reducible assumption)) | exact And.left (And.right (And.right (by with_reducible assumption))) | exact Ne.symm (And.left (And.right (And.right (by with_reducible assumption)))) | exact And.right (And.right (by with_reducible assumption)) | exact Ne.symm (And.right (And.right (by with_reducible assumption))) | exact And.left (And.right (And.right (And.right (by with_reducible assumption)))) | exact Ne.symm (And.left (And.right (And.right (And.right (by with_reducible assumption))))) | exact And.right (And.right (And.right (by with_reducible assumption))) | exact Ne.symm (And.right (And.right (And.right (by with_reducible assumption)))) | exact And.left (And.right (And.right (And.right (And.right (by with_reducible assumption))))) | exact Ne.symm (And.left (And.right (And.right (And.right (And.right (by with_reducible assumption)))))) | exact And.right (And.right (And.right (And.right (by with_reducible assumption)))) | exact Ne.symm (And.right (And.right (And.right (And.right (by with_reducible assumption))))) | exact And.left (And.right (And.right (And.right (And.right (And.right (by with_reducible assumption)))))) | exact Ne.symm (And.left (And.right (And.right (And.right (And.right (And.right (by with_reducible assumption))))))) | exact And.right (And.right (And.right (And.right (And.right (by with_reducible assumption))))) | exact Ne.symm (And.right (And.right (And.right (And.right (And.right (by with_reducible assumption)))))) | exact And.left (And.right (And.right (And.right (And.right (And.right (And.right (by with_reducible assumption))))))) | exact Ne.symm (And.left (And.right (And.right (And.right (And.right (And.right (And.right (by with_reducible assumption)))))))) | exact And.right (And.right (And.right (And.right (And.right (And.right (by with_reducible assumption)))))) | exact Ne.symm (And.right (And.right (And.right (And.right (And.right (And.right (by with_reducible assumption))))))) | exact And.left (And.right (And.right (And.right (And.right (And.right (And.right (And.right (by with_reducible assumption)))))))) | exact Ne.symm (And.left (And.right (And.right (And.right (And.right (And.right (And.right (And.right (by with_reducible assumption))))))))) | exact And.right (And.right (And.right (And.right (And.right (And.right (And.right (by with_reducible assumption))))))) | exact Ne.symm (And.right (And.right (And.right (And.right (And.right (And.right (And.right (by with_reducible assumption))))))))))
theorem law_walk (w : World) {fa : Addr} {cd : Value} {dp un : Nat} {gd : Option (List Code)} {outer : List Env} {A₀ : Around} {base h₀ h₁ : Heap} {L : Addr} {s : Shared} {tk : Nat} {Q : Flow → Shared → Prop}
    {p : Program} {loose : List Str} {mean : ExcName → Option Value} {mg mb : Str → Option Value} {sc : Addr} {vs : List Value} {ns : List Int} {cells : List (Addr × Obj)}
    (B : Below A₀ base outer h₀) (X : (K w.params).In h₀) (T : Top p loose mean mg mb h₀) (hl : h₀.IsList sc vs.toArray) (hi : IntsAre vs ns) (hlen : ns.length ≤ 63)
    {x d y side wheel step : Int} (hx0 : 0 ≤ x) (hx1 : x < 1000000) (hd0 : 0 ≤ d) (hd1 : d < 1000000) (hy0 : 0 ≤ y) (hy1 : y < 1000000) (hs : 1 ≤ side ∧ side ≤ 3) (hw : 6 ≤ wheel ∧ wheel ≤ 18) (ht : 1 ≤ step ∧ step ≤ 17)
    (hX : (ns.getD 0 0 + 16).fmod 1000000 = x) (hD : (ns.getD 1 0 + 2041).fmod 1000000 = d) (hY : (ns.getD 2 0 + 324).fmod 1000000 = y) (hS : 1 + x.fmod 3 = side) (hW : 6 * side = wheel) (hT : 1 + (x.fdiv 3).fmod (wheel - 1) = step)
    (F : Fr h₀ L h₁ (bindL (envOfC (Str.ofString "law") lawS.1 L fa cd).kindOf [(Str.ofString "script", .ref sc)] fun _ => none))
    (Y : CellsAre (bindC (envOfC (Str.ofString "law") lawS.1 L fa cd).kindOf [(Str.ofString "script", .ref sc)] fun _ => none) (cellsFrom (L + 1) lawS.1.names []) cells) (N : News h₀ L h₁ cells)
    (htw : step < wheel) (k : ∀ m' h' tk', Fr h₀ L h' m' → Q (.ret (.bool true)) { s with heap := h', toks := tk' })
    (hdp : dp + 20 < recursionLimit) (hun : un + 200 < cLine) :
    wpAny (model rw0.row.prog w) (Ar dp un gd (envOfC (Str.ofString "law") lawS.1 L fa cd) outer) (execs lawB.1 (envOfC (Str.ofString "law") lawS.1 L fa cd)) Q (fun _ _ => False) { s with heap := h₁, toks := tk } := by
  k_cells Y
  dsimp only [lawS, lawB, List.cons_append, List.nil_append] at *
  have hue1 := hues_ok (x := d) (step := step) hw.1
  have hue2 := hues_ok (x := y) (step := step) hw.1
  k_steps
  constructor
  (rename News _ _ _ _ => Nz)
  (rename Fr _ _ _ _ => Fz)
  (repeat (rename _ ∧ _ => hcj; obtain ⟨hcj1, hcj2⟩ := hcj))
  have Nw := start_outer Nz
  clear Nz
  with_unfolding_all refine outer_loop w B X T hdp hun Fz rfl rfl rfl rfl (by assumption) (by assumption) (by assumption) (by assumption) (by assumption) (by assumption) ⟨by assumption, by assumption⟩ hW hd0 hd1 (by assumption) (by assumption) (by assumption) (by assumption) (by assumption) (by assumption) (Nat.le_refl _) (Nat.le_refl _) (Nat.le_refl _) Nw (by first | assumption | exact Ne.symm (by assumption) | exact Nat.ne_of_lt (by assumption) | exact Nat.ne_of_gt (by assumption) | omega) (by first | assumption | exact Ne.symm (by assumption) | exact Nat.ne_of_lt (by assumption) | exact Nat.ne_of_gt (by assumption) | omega) (by first | assumption | exact Ne.symm (by assumption) | exact Nat.ne_of_lt (by assumption) | exact Nat.ne_of_gt (by assumption) | omega) (by first | assumption | exact Ne.symm (by assumption) | exact Nat.ne_of_lt (by assumption) | exact Nat.ne_of_gt (by assumption) | omega) (by first | assumption | exact Ne.symm (by assumption) | exact Nat.ne_of_lt (by assumption) | exact Nat.ne_of_gt (by assumption) | omega) (by first | assumption | exact Ne.symm (by assumption) | exact Nat.ne_of_lt (by assumption) | exact Nat.ne_of_gt (by assumption) | omega) (by first | assumption | exact Ne.symm (by assumption) | exact Nat.ne_of_lt (by assumption) | exact Nat.ne_of_gt (by assumption) | omega) (by first | assumption | exact Ne.symm (by assumption) | exact Nat.ne_of_lt (by assumption) | exact Nat.ne_of_gt (by assumption) | omega) (by first | assumption | exact Ne.symm (by assumption) | exact Nat.ne_of_lt (by assumption) | exact Nat.ne_of_gt (by assumption) | omega) (by first | assumption | exact Ne.symm (by assumption) | exact Nat.ne_of_lt (by assumption) | exact Nat.ne_of_gt (by assumption) | omega) (by first | assumption | exact Ne.symm (by assumption) | exact Nat.ne_of_lt (by assumption) | exact Nat.ne_of_gt (by assumption) | omega) (by first | assumption | exact Ne.symm (by assumption) | exact Nat.ne_of_lt (by assumption) | exact Nat.ne_of_gt (by assumption) | omega) (by first | assumption | exact Ne.symm (by assumption) | exact Nat.ne_of_lt (by assumption) | exact Nat.ne_of_gt (by assumption) | omega) (by first | assumption | exact Ne.symm (by assumption) | exact Nat.ne_of_lt (by assumption) | exact Nat.ne_of_gt (by assumption) | omega) (by first | assumption | exact Ne.symm (by assumption) | exact Nat.ne_of_lt (by assumption) | exact Nat.ne_of_gt (by assumption) | omega) (by first | assumption | exact Ne.symm (by assumption) | exact Nat.ne_of_lt (by assumption) | exact Nat.ne_of_gt (by assumption) | omega) (by first | assumption | exact Ne.symm (by assumption) | exact Nat.ne_of_lt (by assumption) | exact Nat.ne_of_gt (by assumption) | omega) (by first | assumption | exact Ne.symm (by assumption) | exact Nat.ne_of_lt (by assumption) | exact Nat.ne_of_gt (by assumption) | omega) (by first | assumption | exact Ne.symm (by assumption) | exact Nat.ne_of_lt (by assumption) | exact Nat.ne_of_gt (by assumption) | omega) (by first | assumption | exact Ne.symm (by assumption) | exact Nat.ne_of_lt (by assumption) | exact Nat.ne_of_gt (by assumption) | omega) (by first | assumption | exact Ne.symm (by assumption) | exact Nat.ne_of_lt (by assumption) | exact Nat.ne_of_gt (by assumption) | omega) (by first | assumption | exact Ne.symm (by assumption) | exact Nat.ne_of_lt (by assumption) | exact Nat.ne_of_gt (by assumption) | omega) (by first | assumption | exact Ne.symm (by assumption) | exact Nat.ne_of_lt (by assumption) | exact Nat.ne_of_gt (by assumption) | omega) (by first | assumption | exact Ne.symm (by assumption) | exact Nat.ne_of_lt (by assumption) | exact Nat.ne_of_gt (by assumption) | omega) (by first | assumption | exact Ne.symm (by assumption) | exact Nat.ne_of_lt (by assumption) | exact Nat.ne_of_gt (by assumption) | omega) (by first | assumption | exact Ne.symm (by assumption) | exact Nat.ne_of_lt (by assumption) | exact Nat.ne_of_gt (by assumption) | omega) (by first | assumption | exact Ne.symm (by assumption) | exact Nat.ne_of_lt (by assumption) | exact Nat.ne_of_gt (by assumption) | omega) (by first | assumption | exact Ne.symm (by assumption) | exact Nat.ne_of_lt (by assumption) | exact Nat.ne_of_gt (by assumption) | omega) (by first | assumption | exact Ne.symm (by assumption) | exact Nat.ne_of_lt (by assumption) | exact Nat.ne_of_gt (by assumption) | omega) (by first | assumption | exact Ne.symm (by assumption) | exact Nat.ne_of_lt (by assumption) | exact Nat.ne_of_gt (by assumption) | omega) (by first | assumption | exact Ne.symm (by assumption) | exact Nat.ne_of_lt (by assumption) | exact Nat.ne_of_gt (by assumption) | omega) (by first | assumption | exact Ne.symm (by assumption) | exact Nat.ne_of_lt (by assumption) | exact Nat.ne_of_gt (by assumption) | omega) (by first | assumption | exact Ne.symm (by assumption) | exact Nat.ne_of_lt (by assumption) | exact Nat.ne_of_gt (by assumption) | omega) (by first | assumption | exact Ne.symm (by assumption) | exact Nat.ne_of_lt (by assumption) | exact Nat.ne_of_gt (by assumption) | omega) (by first | assumption | exact Ne.symm (by assumption) | exact Nat.ne_of_lt (by assumption) | exact Nat.ne_of_gt (by assumption) | omega) (by first | assumption | exact Ne.symm (by assumption) | exact Nat.ne_of_lt (by assumption) | exact Nat.ne_of_gt (by assumption) | omega) (by first | assumption | exact Ne.symm (by assumption) | exact Nat.ne_of_lt (by assumption) | exact Nat.ne_of_gt (by assumption) | omega) (by first | assumption | exact Ne.symm (by assumption) | exact Nat.ne_of_lt (by assumption) | exact Nat.ne_of_gt (by assumption) | omega) (by first | assumption | exact Ne.symm (by assumption) | exact Nat.ne_of_lt (by assumption) | exact Nat.ne_of_gt (by assumption) | omega) (by first | assumption | exact Ne.symm (by assumption) | exact Nat.ne_of_lt (by assumption) | exact Nat.ne_of_gt (by assumption) | omega) (by first | assumption | exact Ne.symm (by assumption) | exact Nat.ne_of_lt (by assumption) | exact Nat.ne_of_gt (by assumption) | omega) (by first | assumption | exact Ne.symm (by assumption) | exact Nat.ne_of_lt (by assumption) | exact Nat.ne_of_gt (by assumption) | omega) (by first | assumption | exact Ne.symm (by assumption) | exact Nat.ne_of_lt (by assumption) | exact Nat.ne_of_gt (by assumption) | omega) (by intro p hp; rw [List.mem_singleton.mp hp]; show @Ne Nat _ _; first | assumption | exact Ne.symm (by assumption) | omega) (by intro p hp; rw [List.mem_singleton.mp hp]; show @Ne Nat _ _; first | assumption | exact Ne.symm (by assumption) | omega) (by intro p hp; rw [List.mem_singleton.mp hp]; show @Ne Nat _ _; first | assumption | exact Ne.symm (by assumption) | omega) (by intro p hp; rw [List.mem_singleton.mp hp]; show @Ne Nat _ _; first | assumption | exact Ne.symm (by assumption) | omega) (by intro p hp; rw [List.mem_singleton.mp hp]; show @Ne Nat _ _; first | assumption | exact Ne.symm (by assumption) | omega) (List.forall_mem_nil _) (List.forall_mem_nil _) (List.forall_mem_nil _) (List.forall_mem_nil _) ?_
  intro m9 h9 tk9 rows' rows2' shs' n9 rn9 sn9 o5' o6' v6' tups' t9 F9 hm9 d59 d69 N9 ht9 hr19 hr29 hr39 q1 q2 q3
  have P := plain_law hd0 hd1 hy0 hy1 ⟨by assumption, by assumption⟩ ⟨by assumption, by assumption⟩ hW htw (by rw [q1]; rfl) (by rw [q3]; rfl)
  dsimp only [List.cons_append, List.nil_append] at N9
  dsimp only
  with_unfolding_all refine last_part w B X T hdp hun F9 ((hm9 (Str.ofString "first") (by decide)).trans rfl) ((hm9 (Str.ofString "row") (by decide)).trans rfl) ((hm9 (Str.ofString "shades") (by decide)).trans rfl) (by assumption) (by assumption) (by assumption) (by assumption) d59 d69 (by assumption) ⟨by assumption, by assumption⟩ hW ⟨by assumption, by assumption⟩ P.hb0 (by assumption) (by assumption) (by assumption) (by assumption) (by assumption) (by assumption) N9 (by first | assumption | exact Ne.symm (by assumption) | exact Nat.ne_of_lt (by assumption) | exact Nat.ne_of_gt (by assumption) | omega) (by first | assumption | exact Ne.symm (by assumption) | exact Nat.ne_of_lt (by assumption) | exact Nat.ne_of_gt (by assumption) | omega) (by first | assumption | exact Ne.symm (by assumption) | exact Nat.ne_of_lt (by assumption) | exact Nat.ne_of_gt (by assumption) | omega) (by first | assumption | exact Ne.symm (by assumption) | exact Nat.ne_of_lt (by assumption) | exact Nat.ne_of_gt (by assumption) | omega) (by first | assumption | exact Ne.symm (by assumption) | exact Nat.ne_of_lt (by assumption) | exact Nat.ne_of_gt (by assumption) | omega) (by first | assumption | exact Ne.symm (by assumption) | exact Nat.ne_of_lt (by assumption) | exact Nat.ne_of_gt (by assumption) | omega) (by first | assumption | exact Ne.symm (by assumption) | exact Nat.ne_of_lt (by assumption) | exact Nat.ne_of_gt (by assumption) | omega) (by first | assumption | exact Ne.symm (by assumption) | exact Nat.ne_of_lt (by assumption) | exact Nat.ne_of_gt (by assumption) | omega) (by first | assumption | exact Ne.symm (by assumption) | exact Nat.ne_of_lt (by assumption) | exact Nat.ne_of_gt (by assumption) | omega) (by first | assumption | exact Ne.symm (by assumption) | exact Nat.ne_of_lt (by assumption) | exact Nat.ne_of_gt (by assumption) | omega) (by first | assumption | exact Ne.symm (by assumption) | exact Nat.ne_of_lt (by assumption) | exact Nat.ne_of_gt (by assumption) | omega) (by first | assumption | exact Ne.symm (by assumption) | exact Nat.ne_of_lt (by assumption) | exact Nat.ne_of_gt (by assumption) | omega) (by first | assumption | exact Ne.symm (by assumption) | exact Nat.ne_of_lt (by assumption) | exact Nat.ne_of_gt (by assumption) | omega) (by first | assumption | exact Ne.symm (by assumption) | exact Nat.ne_of_lt (by assumption) | exact Nat.ne_of_gt (by assumption) | omega) ht9 hr19 hr29 hr39 (by rw [q1, q2]) P.hok P.hlen P.hsz P.hkl P.hshl P.hshr P.hc1 P.hc2 P.hfit P.hmany P.hokT P.hend ?_
  exact fun m' h' tk' F => k m' h' tk' F

end
theorem reset32 : True := by first | walk1 | trivial
section
open PySem PySem.W PySem.Calls PyProof.Rows
set_option maxRecDepth 100000
set_option maxHeartbeats 8000000
theorem law_top (w : World) {fa : Addr} {cd : Value} {dp un : Nat} {gd : Option (List Code)} {outer : List Env} {A₀ : Around} {base h₀ h₁ : Heap} {L : Addr} {s : Shared} {tk : Nat} {Q : Flow → Shared → Prop} {E : Value → Shared → Prop}
    {p : Program} {loose : List Str} {mean : ExcName → Option Value} {mg mb : Str → Option Value} {sc : Addr} {vs : List Value} {ns : List Int} {cells : List (Addr × Obj)}
    (B : Below A₀ base outer h₀) (X : (K w.params).In h₀) (T : Top p loose mean mg mb h₀) (hl : h₀.IsList sc vs.toArray) (hi : IntsAre vs ns) (hlen : ¬ ((63 : Int) < (ns.length : Int)))
    (F : Fr h₀ L h₁ (bindL (envOfC (Str.ofString "law") lawS.1 L fa cd).kindOf [(Str.ofString "script", .ref sc)] fun _ => none))
    (Y : CellsAre (bindC (envOfC (Str.ofString "law") lawS.1 L fa cd).kindOf [(Str.ofString "script", .ref sc)] fun _ => none) (cellsFrom (L + 1) lawS.1.names []) cells) (N : News h₀ L h₁ cells)
    (k : ∀ m' h' tk', Fr h₀ L h' m' → Q (.ret (.bool true)) { s with heap := h', toks := tk' })
    (hdp : dp + 20 < recursionLimit) (hun : un + 200 < cLine) :
    wpAny (model rw0.row.prog w) (Ar dp un gd (envOfC (Str.ofString "law") lawS.1 L fa cd) outer) (execs lawB.1 (envOfC (Str.ofString "law") lawS.1 L fa cd)) Q E { s with heap := h₁, toks := tk } := by
  have hx0 := Int.fmod_nonneg_of_pos (ns.getD 0 0 + 16) (show (0:Int) < 1000000 by decide)
  have hx1 := Int.fmod_lt_of_pos (ns.getD 0 0 + 16) (show (0:Int) < 1000000 by decide)
  have hd0 := Int.fmod_nonneg_of_pos (ns.getD 1 0 + 2041) (show (0:Int) < 1000000 by decide)
  have hd1 := Int.fmod_lt_of_pos (ns.getD 1 0 + 2041) (show (0:Int) < 1000000 by decide)
  have hy0 := Int.fmod_nonneg_of_pos (ns.getD 2 0 + 324) (show (0:Int) < 1000000 by decide)
  have hy1 := Int.fmod_lt_of_pos (ns.getD 2 0 + 324) (show (0:Int) < 1000000 by decide)
  have hs0 := Int.fmod_nonneg_of_pos ((ns.getD 0 0 + 16).fmod 1000000) (show (0:Int) < 3 by decide)
  have hs1 := Int.fmod_lt_of_pos ((ns.getD 0 0 + 16).fmod 1000000) (show (0:Int) < 3 by decide)
  have ht0 := Int.fmod_nonneg_of_pos (((ns.getD 0 0 + 16).fmod 1000000).fdiv 3) (show (0:Int) < 6 * (1 + ((ns.getD 0 0 + 16).fmod 1000000).fmod 3) - 1 by omega)
  have ht1 := Int.fmod_lt_of_pos (((ns.getD 0 0 + 16).fmod 1000000).fdiv 3) (show (0:Int) < 6 * (1 + ((ns.getD 0 0 + 16).fmod 1000000).fmod 3) - 1 by omega)
  refine wpAny_mono (law_walk w B X T hl hi (by omega) hx0 hx1 hd0 hd1 hy0 hy1 ⟨by omega, by omega⟩ ⟨by omega, by omega⟩ ⟨by omega, by omega⟩ rfl rfl rfl rfl rfl rfl F Y N (by omega) k hdp hun) (fun _ _ q => q) (fun _ _ e => e.elim)

end
end
end Mine
end
end
section
open PySem PySem.W PyProof.Rows
set_option maxRecDepth 100000
set_option maxHeartbeats 8000000
namespace Mine
theorem final : PySem.Challenge.rw_ty0058_01.Holds := by
  refine holds_law said0 fun said => ?_
  refine holds_open (r := rw0.row) (q := q0) (loose := loose0) (Xt := fun s => xlAt q0 [] s && recOk (RowW.records rw0.row.toRowW) s) (XP := XL q0 []) (Yf := hk0.obs) (Ya := hk0.val) (YP := hk0.says) (N := 4000) left0 hk0.of hk0.keeps (fun s e => xl_of s (Bool.and_eq_true_iff.mp e).1) XL.keeps (by rfl) (by rfl) (by rfl) (fun s e => recFacts_of (Bool.and_eq_true_iff.mp e).2) (by rfl) (by assumption) (by decide +kernel) ⟨rfl, rfl, rfl, rfl, rfl, by decide +kernel⟩ ?hw ?hc
  case hw => w_witness2
  case hc =>
    w_strict (
      (k_fill
       intro w s₀ s₁ mg mb G Y fa o pm cd doc dV kV ho hd hcd hD hmg hg args vals as hpre hlay hrd hwl hlo
       have KX := kIn_of Y
       have X := (Ground.X G).1
       have V := (Ground.X G).2
       refine Ground.open G ?_
       intro T B D TE TW
       try (refine guard_noD D (by decide +kernel) ?_; clear D)
       obtain ⟨_, _, M⟩ := bmod_of_top T
       have TA := at_of_top T
       try (obtain ⟨_, _, he, B0⟩ := based_of_top T rfl hmg ho hd; have he' : cd = _ := he; subst he'; clear he)
       clear hmg
       wrow_args hpre hlay hrd hwl hlo
       all_goals (
         first | refine callC_kw (enter_call ?_) | refine enter_call ?_ | refine callC_kw (enter_callW ?_) | refine enter_callW ?_ | w_how
         w_top on
         try refine codeAny_mono ?_ (fun _ _ g => GoodW.toG g)
         have K0 := below_caller (Top.heap T)
         w_call any ho hd hcd hD T F
         clear hd TA
         k_drop
         skip)); (all_goals try k_fold))
    (rename IntsAre _ _ => hI9)
    (rename Heap.IsList _ _ _ => hL9)
    (rename Top _ _ _ _ _ _ => T9)
    (rename (K _).In _ => X9)
    (rename CellsAre _ _ _ => Y9)
    (rename News _ _ _ _ => N9)
    (rename Fr _ _ _ _ => F9)
    with_unfolding_all refine law_top _ (below_caller _) X9 T9 hL9 hI9 (by assumption) F9 Y9 N9 ?kk9 (by decide +kernel) (by decide +kernel)
    intro m' h' tk' F'
    k_steps
end Mine
end
theorem Mine.reset33 : True := by first | walk1 | trivial
open PySem PySem.W PyProof.Rows
theorem PySem.Challenge.cw_ty0058_01_holds : PySem.Challenge.rw_ty0058_01.Holds :=
  Mine.final
