import PyProof.Rows.All
import Wide.All
import OpenK.AllK
import Wide.FinOn
import Lean
import PySem.Challenge.RW_xe0001_01
set_option Elab.async false
set_option compiler.extract_closed false
set_option linter.all false
namespace Mine
section
open PySem PySem.W PyProof.Rows
set_option Elab.async false
set_option maxRecDepth 100000
set_option maxHeartbeats 8000000
noncomputable abbrev pw : PySem.Program := PySem.Challenge.pw_xe0001_01
noncomputable def docOfS : PySem.Stmt → PySem.Str
  | .ClassDef _ _ _ (.Expr (.Constant (.str s) _ _) _ :: _) _ _ _ _ _ _ _ => s
  | _ => Str.ofString ""
noncomputable def tSt (i : Nat) : PySem.Stmt := pw.main.body.getD i (.Pass ⟨0, 0, 0, 0⟩)
noncomputable def clsBody : PySem.Stmt → List PySem.Stmt
  | .ClassDef _ _ _ b _ _ _ _ _ _ _ => b
  | _ => []
noncomputable def cSt (i j : Nat) : PySem.Stmt := (clsBody (tSt i)).getD j (.Pass ⟨0, 0, 0, 0⟩)
noncomputable def fArgs : PySem.Stmt → PySem.Arguments
  | .FunctionDef _ a _ _ _ _ _ _ _ _ => a
  | _ => default
noncomputable def fBody : PySem.Stmt → List PySem.Stmt
  | .FunctionDef _ _ b _ _ _ _ _ _ _ => b
  | _ => []
noncomputable def fScope : PySem.Stmt → PySem.Scope
  | .FunctionDef _ _ _ _ _ _ s _ _ _ => s
  | _ => default
noncomputable def fDoc (s : PySem.Stmt) : PySem.Str := (docOf (fBody s)).getD (Str.ofString "")
noncomputable def getDoc : PySem.Str := docOfS (tSt 5)
noncomputable def d1 : {l : String // getDoc = Str.ofString l} := ⟨_, rfl⟩
noncomputable def d2 : {l : List Char // d1.1 = (String.ofList l)} := ⟨_, rfl⟩
noncomputable def DOC : PySem.Str := ⟨(d2.1.map Char.toNat).toArray⟩
theorem DOC_eq : getDoc = DOC := d1.2.trans ((congrArg Str.ofString d2.2).trans (Fast.ofString_ofList d2.1))
noncomputable def putDoc (d : PySem.Str) : PySem.Stmt → PySem.Stmt
  | .ClassDef n b k (.Expr (.Constant (.str _) kk p1) p2 :: rest) ds tps sc tsc bind sa pos =>
    .ClassDef n b k (.Expr (.Constant (.str d) kk p1) p2 :: rest) ds tps sc tsc bind sa pos
  | s => s
noncomputable def pwD (d : PySem.Str) : PySem.Program := { pw with main := { pw.main with body := pw.main.body.modify 5 (putDoc d) } }
noncomputable def pwX : PySem.Program := pwD DOC
theorem pw_self : pw = pwD getDoc := by kernel_rfl
theorem pw_eq : pw = pwX := pw_self.trans (congrArg pwD DOC_eq)
theorem any_toList (as : Array Nat) (p : Nat → Bool) : as.any p = as.toList.any p := by rw [Array.any_toList]
noncomputable abbrev AnyT := Array Nat → (Nat → Bool) → Nat → Nat → Bool
noncomputable def anyQ : AnyT := fun as p a b => bif Nat.beq a 0 && Nat.beq b as.size then as.toList.any p else as.any p a b
theorem anyQ_eq : (@Array.any Nat : AnyT) = anyQ := by
  funext as p a b
  unfold anyQ
  cases h : (Nat.beq a 0 && Nat.beq b as.size) with
  | false => rfl
  | true =>
    have h := Bool.and_eq_true_iff.mp h
    have h1 := Nat.eq_of_beq_eq_true h.1
    have h2 := Nat.eq_of_beq_eq_true h.2
    subst h1 h2
    exact any_toList as p
noncomputable def Rel (_g : AnyT → PySem.Builtin) (_b : PySem.Builtin) : Type := Unit
noncomputable def mkRel (g : AnyT → PySem.Builtin) (A : AnyT) : Rel g (g A) := ()
noncomputable def fst1 (g : AnyT → PySem.Builtin) (_t : Rel g PySem.W.Fast.tw4202317264376624991) : AnyT → PySem.Builtin := g
noncomputable def tnewG : AnyT → PySem.Builtin := fst1 _ (by
  delta PySem.W.Fast.tw4202317264376624991
  generalize (@Array.any Nat) = A
  exact mkRel _ @A)
theorem tnewG_eq : PySem.W.Fast.tw4202317264376624991 = tnewG (@Array.any Nat) := by kernel_rfl
theorem tnew_eq : PySem.Builtin.«type.__new__» = tnewG anyQ := PySem.W.Fast.te4202317264376624991.trans (tnewG_eq.trans (congrArg tnewG anyQ_eq))
noncomputable def tab2 (id : String) : Option PySem.Builtin := if id = "type.__new__" then some (tnewG anyQ) else PySem.W.Fast.tw14364793385576792824 id
theorem tab_at : treeTable "type.__new__" = some PySem.Builtin.«type.__new__» := by kernel_rfl
theorem tab_eq : treeTable = tab2 := by
  funext id
  unfold tab2
  by_cases h : id = "type.__new__"
  · subst h
    rw [if_pos rfl, ← tnew_eq]
    exact tab_at
  · rw [if_neg h]
    exact congrFun PySem.W.Fast.te14364793385576792824 id
noncomputable abbrev TyI := (String → Option PySem.Builtin) → PySem.Program → World → Nat → Shared → Thread → Option Shared
noncomputable abbrev TyS := PySem.Program → Shared × Thread
noncomputable abbrev TyF := PySem.Program → Shared → Option Shared
noncomputable abbrev TyR := (String → Option PySem.Builtin) → PySem.Program → World → Nat → Option Value → Nat → Shared → Thread → Option Shared
noncomputable abbrev TyO := (String → Option PySem.Builtin) → PySem.Program → World → Nat → Option Shared
noncomputable def RelO (_g : TyI → TyS → TyF → TyR → TyO) (_b : TyO) : Type := Unit
noncomputable def mkRelO (g : TyI → TyS → TyF → TyR → TyO) (a : TyI) (b : TyS) (c : TyF) (d : TyR) : RelO g (g a b c d) := ()
noncomputable def fstO (g : TyI → TyS → TyF → TyR → TyO) (_t : RelO g openEnds) : TyI → TyS → TyF → TyR → TyO := g
noncomputable def oeG : TyI → TyS → TyF → TyR → TyO := fstO _ (by
  delta openEnds fencedOpening topFrom
  generalize @importEnds = A
  generalize @start = B
  generalize @fenceModules? = C
  generalize @topRun = D
  exact mkRelO _ A B C D)
theorem oeG_eq : openEnds = oeG importEnds start fenceModules? topRun := by kernel_rfl
noncomputable def oeQ : TyO := oeG PySem.W.Fast.tw10274390034422433532 PySem.W.Fast.tw1435165496053646825 PySem.W.Fast.tw14289696077712309145 PySem.W.Fast.tw14082659384304107361
theorem oe_eq : openEnds = oeQ := by
  rw [oeG_eq, PySem.W.Fast.te10274390034422433532, PySem.W.Fast.te1435165496053646825, PySem.W.Fast.te14289696077712309145, PySem.W.Fast.te14082659384304107361]
  rfl
noncomputable abbrev E (P : Params) (x : PySem.Str) (t : Nat) (v : Value) : DictEntry := ⟨PyData.keyHash P x, .str x t, v⟩
noncomputable def K (P : Params) : Frag :=
  (nat_lit 2, ⟨.none, none, .dict [].toArray 0, #[]⟩) ::
  (nat_lit 3, ⟨.type "dict", none, .dict [E P (Str.ofString "__name__") 165 (.str (Str.ofString "law_xe0001_01") 593), E P (Str.ofString "__doc__") 166 .none, E P (Str.ofString "__package__") 167 .none, E P (Str.ofString "__loader__") 168 (.builtin "__main__.__loader__#opaque"), E P (Str.ofString "__spec__") 169 .none, E P (Str.ofString "__annotations__") 170 (.ref 6), E P (Str.ofString "__builtins__") 171 (.ref 4), E P (Str.ofString "__file__") 173 (.str (Str.ofString "/claim/cut.py") 172), E P (Str.ofString "__cached__") 174 .none, E P (Str.ofString "_wall") 193 (.ref 21), E P (Str.ofString "_tuplegetter") 252 (.ref 60), E P (Str.ofString "Match") 380 (.ref 135), E P (Str.ofString "_calculate_ratio") 388 (.ref 145), E P (Str.ofString "SequenceMatcher") 592 (.ref 242), E P (Str.ofString "_law_longest") 610 (.ref 253), E P (Str.ofString "_law_pieces") 626 (.ref 260), E P (Str.ofString "_law_blocks") 639 (.ref 267), E P (Str.ofString "_law_codes") 652 (.ref 274), E P (Str.ofString "law") 658 (.ref 279)].toArray 19, #[]⟩) ::
  (nat_lit 15, ⟨.type "tuple", none, .seq #[] 0, #[]⟩) ::
  (nat_lit 17, ⟨.type "tuple", none, .seq #[.str (Str.ofString "k") 190] 0, #[]⟩) ::
  (nat_lit 18, ⟨.type "tuple", none, .seq #[] 0, #[]⟩) ::
  (nat_lit 20, ⟨.type "code", none, .fields #[.str (Str.ofString "_wall") 187, .str (Str.ofString "_wall") 188, .str (Str.ofString "/claim/cut.py") 189, .int 1 0, .int 1 0, .int 0 0, .int 0 0, .int 3 0, .ref 15, .bool true, .int 181 0, .ref 16, .none, .ref 17, .ref 18, .ref 19, .int 191 0, .int 1 0, .str (Str.ofString "/claim/cut.py") 192], #[]⟩) ::
  (nat_lit 21, ⟨.type "function", none, .func (fnOf (Str.ofString "_wall") (Str.ofString "_wall") (fArgs (tSt 0)) (fBody (tSt 0)) (fScope (tSt 0)) .none .none .none (.str (Str.ofString "__main__") 164) none (.ref 20) .none), #[]⟩) ::
  (nat_lit 29, ⟨.type "tuple", none, .seq #[] 0, #[]⟩) ::
  (nat_lit 31, ⟨.type "tuple", none, .seq #[.str (Str.ofString "self") 211, .str (Str.ofString "index") 212, .str (Str.ofString "doc") 213] 0, #[]⟩) ::
  (nat_lit 32, ⟨.type "tuple", none, .seq #[] 0, #[]⟩) ::
  (nat_lit 34, ⟨.type "code", none, .fields #[.str (Str.ofString "__init__") 208, .str (Str.ofString "_tuplegetter.__init__") 209, .str (Str.ofString "/claim/cut.py") 210, .int 7 0, .int 3 0, .int 0 0, .int 0 0, .int 3 0, .ref 29, .bool true, .int 181 0, .ref 30, .none, .ref 31, .ref 32, .ref 33, .int 214 0, .int 7 0, .str (Str.ofString "/claim/cut.py") 215], #[]⟩) ::
  (nat_lit 35, ⟨.type "function", none, .func (fnOf (Str.ofString "__init__") (Str.ofString "_tuplegetter.__init__") (fArgs (cSt 2 0)) (fBody (cSt 2 0)) (fScope (cSt 2 0)) .none .none .none (.str (Str.ofString "cpy313.difflib") 194) none (.ref 34) .none), #[]⟩) ::
  (nat_lit 36, ⟨.type "tuple", none, .seq #[.none] 0, #[]⟩) ::
  (nat_lit 37, ⟨.type "tuple", none, .seq #[] 0, #[]⟩) ::
  (nat_lit 39, ⟨.type "tuple", none, .seq #[.str (Str.ofString "self") 220, .str (Str.ofString "obj") 221, .str (Str.ofString "objtype") 222] 0, #[]⟩) ::
  (nat_lit 40, ⟨.type "tuple", none, .seq #[] 0, #[]⟩) ::
  (nat_lit 42, ⟨.type "code", none, .fields #[.str (Str.ofString "__get__") 217, .str (Str.ofString "_tuplegetter.__get__") 218, .str (Str.ofString "/claim/cut.py") 219, .int 11 0, .int 3 0, .int 0 0, .int 0 0, .int 3 0, .ref 37, .bool true, .int 181 0, .ref 38, .none, .ref 39, .ref 40, .ref 41, .int 223 0, .int 11 0, .str (Str.ofString "/claim/cut.py") 224], #[]⟩) ::
  (nat_lit 43, ⟨.type "function", none, .func (fnOf (Str.ofString "__get__") (Str.ofString "_tuplegetter.__get__") (fArgs (cSt 2 1)) (fBody (cSt 2 1)) (fScope (cSt 2 1)) (.ref 36) .none .none (.str (Str.ofString "cpy313.difflib") 194) none (.ref 42) .none), #[]⟩) ::
  (nat_lit 44, ⟨.type "tuple", none, .seq #[] 0, #[]⟩) ::
  (nat_lit 46, ⟨.type "tuple", none, .seq #[.str (Str.ofString "self") 229, .str (Str.ofString "obj") 230, .str (Str.ofString "value") 231] 0, #[]⟩) ::
  (nat_lit 47, ⟨.type "tuple", none, .seq #[] 0, #[]⟩) ::
  (nat_lit 49, ⟨.type "code", none, .fields #[.str (Str.ofString "__set__") 226, .str (Str.ofString "_tuplegetter.__set__") 227, .str (Str.ofString "/claim/cut.py") 228, .int 18 0, .int 3 0, .int 0 0, .int 0 0, .int 3 0, .ref 44, .bool true, .int 181 0, .ref 45, .none, .ref 46, .ref 47, .ref 48, .int 232 0, .int 18 0, .str (Str.ofString "/claim/cut.py") 233], #[]⟩) ::
  (nat_lit 50, ⟨.type "function", none, .func (fnOf (Str.ofString "__set__") (Str.ofString "_tuplegetter.__set__") (fArgs (cSt 2 2)) (fBody (cSt 2 2)) (fScope (cSt 2 2)) .none .none .none (.str (Str.ofString "cpy313.difflib") 194) none (.ref 49) .none), #[]⟩) ::
  (nat_lit 51, ⟨.type "tuple", none, .seq #[] 0, #[]⟩) ::
  (nat_lit 53, ⟨.type "tuple", none, .seq #[.str (Str.ofString "self") 238, .str (Str.ofString "obj") 239] 0, #[]⟩) ::
  (nat_lit 54, ⟨.type "tuple", none, .seq #[] 0, #[]⟩) ::
  (nat_lit 56, ⟨.type "code", none, .fields #[.str (Str.ofString "__delete__") 235, .str (Str.ofString "_tuplegetter.__delete__") 236, .str (Str.ofString "/claim/cut.py") 237, .int 21 0, .int 2 0, .int 0 0, .int 0 0, .int 3 0, .ref 51, .bool true, .int 181 0, .ref 52, .none, .ref 53, .ref 54, .ref 55, .int 240 0, .int 21 0, .str (Str.ofString "/claim/cut.py") 241], #[]⟩) ::
  (nat_lit 57, ⟨.type "function", none, .func (fnOf (Str.ofString "__delete__") (Str.ofString "_tuplegetter.__delete__") (fArgs (cSt 2 3)) (fBody (cSt 2 3)) (fScope (cSt 2 3)) .none .none .none (.str (Str.ofString "cpy313.difflib") 194) none (.ref 56) .none), #[]⟩) ::
  (nat_lit 58, ⟨.type "tuple", none, .seq #[.str (Str.ofString "__doc__") 243, .str (Str.ofString "index") 244] 0, #[]⟩) ::
  (nat_lit 59, ⟨.type "dict", none, .dict [E P (Str.ofString "__module__") 203 (.str (Str.ofString "cpy313.difflib") 194), E P (Str.ofString "__firstlineno__") 207 (.int 5 206), E P (Str.ofString "__init__") 216 (.ref 35), E P (Str.ofString "__get__") 225 (.ref 43), E P (Str.ofString "__set__") 234 (.ref 50), E P (Str.ofString "__delete__") 242 (.ref 57), E P (Str.ofString "__static_attributes__") 245 (.ref 58), E P (Str.ofString "__dict__") 247 (.ref 61), E P (Str.ofString "__weakref__") 249 (.ref 62), E P (Str.ofString "__doc__") 250 .none].toArray 4, #[]⟩) ::
  (nat_lit 60, ⟨.type "type", none, .cls { name := (Str.ofString "_tuplegetter"), bases := [.type "object"], mro := [.ref 60, .type "object"], ns := 59, qualname := (Str.ofString "_tuplegetter"), hasDict := true, slotNames := [], subclasses := [], abstract := false, collection := none, hasDel := false }, #[none, none, some (.str (Str.ofString "_tuplegetter") 196), some (.str (Str.ofString "_tuplegetter") 204), some (.builtin "object.__new__"), some (.bool true)]⟩) ::
  (nat_lit 61, ⟨.type "getset_descriptor", none, .fields #[.str (Str.ofString "__dict__") 246, .ref 60, .builtin "function.__dict__", .builtin "function.__dict__#set"], #[]⟩) ::
  (nat_lit 62, ⟨.type "getset_descriptor", none, .fields #[.str (Str.ofString "__weakref__") 248, .ref 60, .builtin "ExceptionGroup.__weakref__", .none], #[]⟩) ::
  (nat_lit 65, ⟨.type "tuple", none, .seq #[.type "tuple"] 0, #[]⟩) ::
  (nat_lit 68, ⟨.type "cell", none, .cell (some (.ref 135)), #[]⟩) ::
  (nat_lit 73, ⟨.type "tuple", none, .seq #[] 0, #[]⟩) ::
  (nat_lit 74, ⟨.type "tuple", none, .seq #[.str (Str.ofString "a") 269, .str (Str.ofString "b") 270, .str (Str.ofString "size") 271] 0, #[]⟩) ::
  (nat_lit 75, ⟨.type "dict", none, .dict [].toArray 0, #[]⟩) ::
  (nat_lit 76, ⟨.type "tuple", none, .seq #[] 0, #[]⟩) ::
  (nat_lit 78, ⟨.type "tuple", none, .seq #[.str (Str.ofString "_cls") 277, .str (Str.ofString "a") 278, .str (Str.ofString "b") 279, .str (Str.ofString "size") 280] 0, #[]⟩) ::
  (nat_lit 79, ⟨.type "tuple", none, .seq #[] 0, #[]⟩) ::
  (nat_lit 81, ⟨.type "code", none, .fields #[.str (Str.ofString "__new__") 274, .str (Str.ofString "Match.__new__") 275, .str (Str.ofString "/claim/cut.py") 276, .int 29 0, .int 4 0, .int 0 0, .int 0 0, .int 3 0, .ref 76, .bool true, .int 181 0, .ref 77, .none, .ref 78, .ref 79, .ref 80, .int 281 0, .int 29 0, .str (Str.ofString "/claim/cut.py") 282], #[]⟩) ::
  (nat_lit 82, ⟨.type "function", none, .func (fnOf (Str.ofString "__new__") (Str.ofString "Match.__new__") (fArgs (cSt 3 4)) (fBody (cSt 3 4)) (fScope (cSt 3 4)) .none .none (.str (fDoc (cSt 3 4)) 283) (.str (Str.ofString "cpy313.difflib") 194) none (.ref 81) .none), #[]⟩) ::
  (nat_lit 83, ⟨.type "tuple", none, .seq #[] 0, #[]⟩) ::
  (nat_lit 85, ⟨.type "tuple", none, .seq #[.str (Str.ofString "cls") 288, .str (Str.ofString "iterable") 289, .str (Str.ofString "result") 290] 0, #[]⟩) ::
  (nat_lit 86, ⟨.type "tuple", none, .seq #[] 0, #[]⟩) ::
  (nat_lit 88, ⟨.type "code", none, .fields #[.str (Str.ofString "_make") 285, .str (Str.ofString "Match._make") 286, .str (Str.ofString "/claim/cut.py") 287, .int 33 0, .int 2 0, .int 0 0, .int 0 0, .int 3 0, .ref 83, .bool true, .int 181 0, .ref 84, .none, .ref 85, .ref 86, .ref 87, .int 291 0, .int 33 0, .str (Str.ofString "/claim/cut.py") 292], #[]⟩) ::
  (nat_lit 89, ⟨.type "function", none, .func (fnOf (Str.ofString "_make") (Str.ofString "Match._make") (fArgs (cSt 3 5)) (fBody (cSt 3 5)) (fScope (cSt 3 5)) .none .none (.str (fDoc (cSt 3 5)) 293) (.str (Str.ofString "cpy313.difflib") 194) (some 92) (.ref 88) .none), #[]⟩) ::
  (nat_lit 90, ⟨.type "dict", none, .dict [E P (Str.ofString "__module__") 295 (.str (Str.ofString "cpy313.difflib") 194), E P (Str.ofString "__name__") 298 (.str (Str.ofString "_make") 297), E P (Str.ofString "__qualname__") 301 (.str (Str.ofString "Match._make") 300), E P (Str.ofString "__doc__") 303 (.str (Str.ofString "Make a new Match object from a sequence or iterable") 293), E P (Str.ofString "__annotations__") 305 (.ref 92)].toArray 5, #[]⟩) ::
  (nat_lit 91, ⟨.type "classmethod", (some 90), .fields #[.ref 89, .bool false], #[]⟩) ::
  (nat_lit 92, ⟨.type "dict", none, .dict [].toArray 0, #[]⟩) ::
  (nat_lit 93, ⟨.type "tuple", none, .seq #[.ref 68] 0, #[]⟩) ::
  (nat_lit 94, ⟨.type "tuple", none, .seq #[.str (Str.ofString "__class__") 310] 0, #[]⟩) ::
  (nat_lit 96, ⟨.type "tuple", none, .seq #[.str (Str.ofString "self") 311, .str (Str.ofString "kwds") 312, .str (Str.ofString "result") 313] 0, #[]⟩) ::
  (nat_lit 97, ⟨.type "tuple", none, .seq #[] 0, #[]⟩) ::
  (nat_lit 99, ⟨.type "code", none, .fields #[.str (Str.ofString "_replace") 307, .str (Str.ofString "Match._replace") 308, .str (Str.ofString "/claim/cut.py") 309, .int 41 0, .int 1 0, .int 1 0, .int 0 0, .int 11 0, .ref 94, .bool true, .int 181 0, .ref 95, .none, .ref 96, .ref 97, .ref 98, .int 314 0, .int 41 0, .str (Str.ofString "/claim/cut.py") 315], #[]⟩) ::
  (nat_lit 100, ⟨.type "function", none, .func { name := (Str.ofString "_replace"), qualname := (Str.ofString "Match._replace"), params := fArgs (cSt 3 6), body := .stmts (fBody (cSt 3 6)), scope := fScope (cSt 3 6), globals := 3, closure := [((Str.ofString "__class__"), 68)], defaults := .none, kwdefaults := .none, doc := (.str (fDoc (cSt 3 6)) 316), pyModule := .str (Str.ofString "cpy313.difflib") 194, annotations := none, code := .ref 99, closureTuple := .ref 93, builtins := 0 }, #[]⟩) ::
  (nat_lit 101, ⟨.type "tuple", none, .seq #[] 0, #[]⟩) ::
  (nat_lit 103, ⟨.type "tuple", none, .seq #[.str (Str.ofString "self") 322] 0, #[]⟩) ::
  (nat_lit 104, ⟨.type "tuple", none, .seq #[] 0, #[]⟩) ::
  (nat_lit 106, ⟨.type "code", none, .fields #[.str (Str.ofString "__repr__") 319, .str (Str.ofString "Match.__repr__") 320, .str (Str.ofString "/claim/cut.py") 321, .int 52 0, .int 1 0, .int 0 0, .int 0 0, .int 3 0, .ref 101, .bool true, .int 181 0, .ref 102, .none, .ref 103, .ref 104, .ref 105, .int 323 0, .int 52 0, .str (Str.ofString "/claim/cut.py") 324], #[]⟩) ::
  (nat_lit 107, ⟨.type "function", none, .func (fnOf (Str.ofString "__repr__") (Str.ofString "Match.__repr__") (fArgs (cSt 3 8)) (fBody (cSt 3 8)) (fScope (cSt 3 8)) .none .none (.str (fDoc (cSt 3 8)) 325) (.str (Str.ofString "cpy313.difflib") 194) none (.ref 106) .none), #[]⟩) ::
  (nat_lit 108, ⟨.type "tuple", none, .seq #[] 0, #[]⟩) ::
  (nat_lit 110, ⟨.type "tuple", none, .seq #[.str (Str.ofString "self") 330] 0, #[]⟩) ::
  (nat_lit 111, ⟨.type "tuple", none, .seq #[] 0, #[]⟩) ::
  (nat_lit 113, ⟨.type "code", none, .fields #[.str (Str.ofString "_asdict") 327, .str (Str.ofString "Match._asdict") 328, .str (Str.ofString "/claim/cut.py") 329, .int 56 0, .int 1 0, .int 0 0, .int 0 0, .int 3 0, .ref 108, .bool true, .int 181 0, .ref 109, .none, .ref 110, .ref 111, .ref 112, .int 331 0, .int 56 0, .str (Str.ofString "/claim/cut.py") 332], #[]⟩) ::
  (nat_lit 114, ⟨.type "function", none, .func (fnOf (Str.ofString "_asdict") (Str.ofString "Match._asdict") (fArgs (cSt 3 9)) (fBody (cSt 3 9)) (fScope (cSt 3 9)) .none .none .none (.str (Str.ofString "cpy313.difflib") 194) none (.ref 113) .none), #[]⟩) ::
  (nat_lit 115, ⟨.type "tuple", none, .seq #[] 0, #[]⟩) ::
  (nat_lit 117, ⟨.type "tuple", none, .seq #[.str (Str.ofString "self") 337] 0, #[]⟩) ::
  (nat_lit 118, ⟨.type "tuple", none, .seq #[] 0, #[]⟩) ::
  (nat_lit 120, ⟨.type "code", none, .fields #[.str (Str.ofString "__getnewargs__") 334, .str (Str.ofString "Match.__getnewargs__") 335, .str (Str.ofString "/claim/cut.py") 336, .int 59 0, .int 1 0, .int 0 0, .int 0 0, .int 3 0, .ref 115, .bool true, .int 181 0, .ref 116, .none, .ref 117, .ref 118, .ref 119, .int 338 0, .int 59 0, .str (Str.ofString "/claim/cut.py") 339], #[]⟩) ::
  (nat_lit 121, ⟨.type "function", none, .func (fnOf (Str.ofString "__getnewargs__") (Str.ofString "Match.__getnewargs__") (fArgs (cSt 3 10)) (fBody (cSt 3 10)) (fScope (cSt 3 10)) .none .none (.str (fDoc (cSt 3 10)) 340) (.str (Str.ofString "cpy313.difflib") 194) none (.ref 120) .none), #[]⟩) ::
  (nat_lit 122, ⟨.type "tuple", none, .seq #[.str (Str.ofString "a") 342, .str (Str.ofString "b") 343, .str (Str.ofString "size") 344] 0, #[]⟩) ::
  (nat_lit 123, ⟨.type "dict", none, .dict [E P (Str.ofString "index") 352 (.int 0 346), E P (Str.ofString "__doc__") 354 (.str (Str.ofString "Alias for field number 0") 347)].toArray 2, #[]⟩) ::
  (nat_lit 124, ⟨.ref 60, (some 123), .plain, #[]⟩) ::
  (nat_lit 126, ⟨.type "dict", none, .dict [E P (Str.ofString "index") 362 (.int 1 356), E P (Str.ofString "__doc__") 364 (.str (Str.ofString "Alias for field number 1") 357)].toArray 2, #[]⟩) ::
  (nat_lit 127, ⟨.ref 60, (some 126), .plain, #[]⟩) ::
  (nat_lit 129, ⟨.type "dict", none, .dict [E P (Str.ofString "index") 372 (.int 2 366), E P (Str.ofString "__doc__") 374 (.str (Str.ofString "Alias for field number 2") 367)].toArray 2, #[]⟩) ::
  (nat_lit 130, ⟨.ref 60, (some 129), .plain, #[]⟩) ::
  (nat_lit 132, ⟨.type "tuple", none, .seq #[] 0, #[]⟩) ::
  (nat_lit 134, ⟨.type "dict", none, .dict [E P (Str.ofString "__module__") 260 (.str (Str.ofString "cpy313.difflib") 194), E P (Str.ofString "__firstlineno__") 264 (.int 23 263), E P (Str.ofString "__doc__") 266 (.str (Str.ofString "Match(a, b, size)") 265), E P (Str.ofString "__slots__") 268 (.ref 73), E P (Str.ofString "_fields") 272 (.ref 74), E P (Str.ofString "_field_defaults") 273 (.ref 75), E P (Str.ofString "__new__") 284 (.ref 136), E P (Str.ofString "_make") 306 (.ref 91), E P (Str.ofString "_replace") 317 (.ref 100), E P (Str.ofString "__replace__") 318 (.ref 100), E P (Str.ofString "__repr__") 326 (.ref 107), E P (Str.ofString "_asdict") 333 (.ref 114), E P (Str.ofString "__getnewargs__") 341 (.ref 121), E P (Str.ofString "__match_args__") 345 (.ref 122), E P (Str.ofString "a") 355 (.ref 124), E P (Str.ofString "b") 365 (.ref 127), E P (Str.ofString "size") 375 (.ref 130), E P (Str.ofString "__static_attributes__") 376 (.ref 132)].toArray 2, #[]⟩) ::
  (nat_lit 135, ⟨.type "type", none, .cls { name := (Str.ofString "Match"), bases := [.type "tuple"], mro := [.ref 135, .type "tuple", .type "object"], ns := 134, qualname := (Str.ofString "Match"), hasDict := false, slotNames := [], subclasses := [], abstract := false, collection := none, hasDel := false }, #[some (.ref 65), none, some (.str (Str.ofString "Match") 253), some (.str (Str.ofString "Match") 261), some .none, some (.bool false)]⟩) ::
  (nat_lit 136, ⟨.type "staticmethod", none, .fields #[.ref 82], #[]⟩) ::
  (nat_lit 139, ⟨.type "tuple", none, .seq #[] 0, #[]⟩) ::
  (nat_lit 141, ⟨.type "tuple", none, .seq #[.str (Str.ofString "matches") 384, .str (Str.ofString "length") 385] 0, #[]⟩) ::
  (nat_lit 142, ⟨.type "tuple", none, .seq #[] 0, #[]⟩) ::
  (nat_lit 144, ⟨.type "code", none, .fields #[.str (Str.ofString "_calculate_ratio") 381, .str (Str.ofString "_calculate_ratio") 382, .str (Str.ofString "/claim/cut.py") 383, .int 66 0, .int 2 0, .int 0 0, .int 0 0, .int 3 0, .ref 139, .bool true, .int 181 0, .ref 140, .none, .ref 141, .ref 142, .ref 143, .int 386 0, .int 66 0, .str (Str.ofString "/claim/cut.py") 387], #[]⟩) ::
  (nat_lit 145, ⟨.type "function", none, .func (fnOf (Str.ofString "_calculate_ratio") (Str.ofString "_calculate_ratio") (fArgs (tSt 4)) (fBody (tSt 4)) (fScope (tSt 4)) .none .none .none (.str (Str.ofString "cpy313.difflib") 194) none (.ref 144) .none), #[]⟩) ::
  (nat_lit 153, ⟨.type "tuple", none, .seq #[.none, .str (Str.ofString "") 404, .str (Str.ofString "") 405, .bool true] 0, #[]⟩) ::
  (nat_lit 154, ⟨.type "tuple", none, .seq #[] 0, #[]⟩) ::
  (nat_lit 156, ⟨.type "tuple", none, .seq #[.str (Str.ofString "self") 409, .str (Str.ofString "isjunk") 410, .str (Str.ofString "a") 411, .str (Str.ofString "b") 412, .str (Str.ofString "autojunk") 413] 0, #[]⟩) ::
  (nat_lit 157, ⟨.type "tuple", none, .seq #[] 0, #[]⟩) ::
  (nat_lit 159, ⟨.type "code", none, .fields #[.str (Str.ofString "__init__") 406, .str (Str.ofString "SequenceMatcher.__init__") 407, .str (Str.ofString "/claim/cut.py") 408, .int 145 0, .int 5 0, .int 0 0, .int 0 0, .int 3 0, .ref 154, .bool true, .int 181 0, .ref 155, .none, .ref 156, .ref 157, .ref 158, .int 414 0, .int 145 0, .str (Str.ofString "/claim/cut.py") 415], #[]⟩) ::
  (nat_lit 160, ⟨.type "function", none, .func (fnOf (Str.ofString "__init__") (Str.ofString "SequenceMatcher.__init__") (fArgs (cSt 5 1)) (fBody (cSt 5 1)) (fScope (cSt 5 1)) (.ref 153) .none (.str (fDoc (cSt 5 1)) 416) (.str (Str.ofString "cpy313.difflib") 194) none (.ref 159) .none), #[]⟩) ::
  (nat_lit 161, ⟨.type "tuple", none, .seq #[] 0, #[]⟩) ::
  (nat_lit 163, ⟨.type "tuple", none, .seq #[.str (Str.ofString "self") 421, .str (Str.ofString "a") 422, .str (Str.ofString "b") 423] 0, #[]⟩) ::
  (nat_lit 164, ⟨.type "tuple", none, .seq #[] 0, #[]⟩) ::
  (nat_lit 166, ⟨.type "code", none, .fields #[.str (Str.ofString "set_seqs") 418, .str (Str.ofString "SequenceMatcher.set_seqs") 419, .str (Str.ofString "/claim/cut.py") 420, .int 173 0, .int 3 0, .int 0 0, .int 0 0, .int 3 0, .ref 161, .bool true, .int 181 0, .ref 162, .none, .ref 163, .ref 164, .ref 165, .int 424 0, .int 173 0, .str (Str.ofString "/claim/cut.py") 425], #[]⟩) ::
  (nat_lit 167, ⟨.type "function", none, .func (fnOf (Str.ofString "set_seqs") (Str.ofString "SequenceMatcher.set_seqs") (fArgs (cSt 5 2)) (fBody (cSt 5 2)) (fScope (cSt 5 2)) .none .none (.str (fDoc (cSt 5 2)) 426) (.str (Str.ofString "cpy313.difflib") 194) none (.ref 166) .none), #[]⟩) ::
  (nat_lit 168, ⟨.type "tuple", none, .seq #[] 0, #[]⟩) ::
  (nat_lit 170, ⟨.type "tuple", none, .seq #[.str (Str.ofString "self") 431, .str (Str.ofString "a") 432] 0, #[]⟩) ::
  (nat_lit 171, ⟨.type "tuple", none, .seq #[] 0, #[]⟩) ::
  (nat_lit 173, ⟨.type "code", none, .fields #[.str (Str.ofString "set_seq1") 428, .str (Str.ofString "SequenceMatcher.set_seq1") 429, .str (Str.ofString "/claim/cut.py") 430, .int 184 0, .int 2 0, .int 0 0, .int 0 0, .int 3 0, .ref 168, .bool true, .int 181 0, .ref 169, .none, .ref 170, .ref 171, .ref 172, .int 433 0, .int 184 0, .str (Str.ofString "/claim/cut.py") 434], #[]⟩) ::
  (nat_lit 174, ⟨.type "function", none, .func (fnOf (Str.ofString "set_seq1") (Str.ofString "SequenceMatcher.set_seq1") (fArgs (cSt 5 3)) (fBody (cSt 5 3)) (fScope (cSt 5 3)) .none .none (.str (fDoc (cSt 5 3)) 435) (.str (Str.ofString "cpy313.difflib") 194) none (.ref 173) .none), #[]⟩) ::
  (nat_lit 175, ⟨.type "tuple", none, .seq #[] 0, #[]⟩) ::
  (nat_lit 177, ⟨.type "tuple", none, .seq #[.str (Str.ofString "self") 440, .str (Str.ofString "b") 441] 0, #[]⟩) ::
  (nat_lit 178, ⟨.type "tuple", none, .seq #[] 0, #[]⟩) ::
  (nat_lit 180, ⟨.type "code", none, .fields #[.str (Str.ofString "set_seq2") 437, .str (Str.ofString "SequenceMatcher.set_seq2") 438, .str (Str.ofString "/claim/cut.py") 439, .int 209 0, .int 2 0, .int 0 0, .int 0 0, .int 3 0, .ref 175, .bool true, .int 181 0, .ref 176, .none, .ref 177, .ref 178, .ref 179, .int 442 0, .int 209 0, .str (Str.ofString "/claim/cut.py") 443], #[]⟩) ::
  (nat_lit 181, ⟨.type "function", none, .func (fnOf (Str.ofString "set_seq2") (Str.ofString "SequenceMatcher.set_seq2") (fArgs (cSt 5 4)) (fBody (cSt 5 4)) (fScope (cSt 5 4)) .none .none (.str (fDoc (cSt 5 4)) 444) (.str (Str.ofString "cpy313.difflib") 194) none (.ref 180) .none), #[]⟩) ::
  (nat_lit 182, ⟨.type "tuple", none, .seq #[] 0, #[]⟩) ::
  (nat_lit 184, ⟨.type "tuple", none, .seq #[.str (Str.ofString "self") 449, .str (Str.ofString "b") 450, .str (Str.ofString "b2j") 451, .str (Str.ofString "i") 452, .str (Str.ofString "elt") 453, .str (Str.ofString "indices") 454, .str (Str.ofString "junk") 455, .str (Str.ofString "isjunk") 456, .str (Str.ofString "popular") 457, .str (Str.ofString "n") 458, .str (Str.ofString "ntest") 459, .str (Str.ofString "idxs") 460] 0, #[]⟩) ::
  (nat_lit 185, ⟨.type "tuple", none, .seq #[] 0, #[]⟩) ::
  (nat_lit 187, ⟨.type "code", none, .fields #[.str (Str.ofString "__chain_b") 446, .str (Str.ofString "SequenceMatcher.__chain_b") 447, .str (Str.ofString "/claim/cut.py") 448, .int 236 0, .int 1 0, .int 0 0, .int 0 0, .int 3 0, .ref 182, .bool true, .int 181 0, .ref 183, .none, .ref 184, .ref 185, .ref 186, .int 461 0, .int 236 0, .str (Str.ofString "/claim/cut.py") 462], #[]⟩) ::
  (nat_lit 188, ⟨.type "function", none, .func (fnOf (Str.ofString "__chain_b") (Str.ofString "SequenceMatcher.__chain_b") (fArgs (cSt 5 5)) (fBody (cSt 5 5)) (fScope (cSt 5 5)) .none .none .none (.str (Str.ofString "cpy313.difflib") 194) none (.ref 187) .none), #[]⟩) ::
  (nat_lit 189, ⟨.type "tuple", none, .seq #[.int 0 464, .none, .int 0 465, .none] 0, #[]⟩) ::
  (nat_lit 190, ⟨.type "tuple", none, .seq #[] 0, #[]⟩) ::
  (nat_lit 192, ⟨.type "tuple", none, .seq #[.str (Str.ofString "self") 469, .str (Str.ofString "alo") 470, .str (Str.ofString "ahi") 471, .str (Str.ofString "blo") 472, .str (Str.ofString "bhi") 473, .str (Str.ofString "a") 474, .str (Str.ofString "b") 475, .str (Str.ofString "b2j") 476, .str (Str.ofString "isbjunk") 477, .str (Str.ofString "besti") 478, .str (Str.ofString "bestj") 479, .str (Str.ofString "bestsize") 480, .str (Str.ofString "j2len") 481, .str (Str.ofString "nothing") 482, .str (Str.ofString "i") 483, .str (Str.ofString "j2lenget") 484, .str (Str.ofString "newj2len") 485, .str (Str.ofString "j") 486, .str (Str.ofString "k") 487] 0, #[]⟩) ::
  (nat_lit 193, ⟨.type "tuple", none, .seq #[] 0, #[]⟩) ::
  (nat_lit 195, ⟨.type "code", none, .fields #[.str (Str.ofString "find_longest_match") 466, .str (Str.ofString "SequenceMatcher.find_longest_match") 467, .str (Str.ofString "/claim/cut.py") 468, .int 260 0, .int 5 0, .int 0 0, .int 0 0, .int 3 0, .ref 190, .bool true, .int 181 0, .ref 191, .none, .ref 192, .ref 193, .ref 194, .int 488 0, .int 260 0, .str (Str.ofString "/claim/cut.py") 489], #[]⟩) ::
  (nat_lit 196, ⟨.type "function", none, .func (fnOf (Str.ofString "find_longest_match") (Str.ofString "SequenceMatcher.find_longest_match") (fArgs (cSt 5 6)) (fBody (cSt 5 6)) (fScope (cSt 5 6)) (.ref 189) .none (.str (fDoc (cSt 5 6)) 490) (.str (Str.ofString "cpy313.difflib") 194) none (.ref 195) .none), #[]⟩) ::
  (nat_lit 197, ⟨.type "tuple", none, .seq #[] 0, #[]⟩) ::
  (nat_lit 199, ⟨.type "tuple", none, .seq #[.str (Str.ofString "self") 495, .str (Str.ofString "la") 496, .str (Str.ofString "lb") 497, .str (Str.ofString "queue") 498, .str (Str.ofString "matching_blocks") 499, .str (Str.ofString "alo") 500, .str (Str.ofString "ahi") 501, .str (Str.ofString "blo") 502, .str (Str.ofString "bhi") 503, .str (Str.ofString "i") 504, .str (Str.ofString "j") 505, .str (Str.ofString "k") 506, .str (Str.ofString "x") 507, .str (Str.ofString "i1") 508, .str (Str.ofString "j1") 509, .str (Str.ofString "k1") 510, .str (Str.ofString "non_adjacent") 511, .str (Str.ofString "i2") 512, .str (Str.ofString "j2") 513, .str (Str.ofString "k2") 514] 0, #[]⟩) ::
  (nat_lit 200, ⟨.type "tuple", none, .seq #[] 0, #[]⟩) ::
  (nat_lit 202, ⟨.type "code", none, .fields #[.str (Str.ofString "get_matching_blocks") 492, .str (Str.ofString "SequenceMatcher.get_matching_blocks") 493, .str (Str.ofString "/claim/cut.py") 494, .int 335 0, .int 1 0, .int 0 0, .int 0 0, .int 3 0, .ref 197, .bool true, .int 181 0, .ref 198, .none, .ref 199, .ref 200, .ref 201, .int 515 0, .int 335 0, .str (Str.ofString "/claim/cut.py") 516], #[]⟩) ::
  (nat_lit 203, ⟨.type "function", none, .func (fnOf (Str.ofString "get_matching_blocks") (Str.ofString "SequenceMatcher.get_matching_blocks") (fArgs (cSt 5 7)) (fBody (cSt 5 7)) (fScope (cSt 5 7)) .none .none (.str (fDoc (cSt 5 7)) 517) (.str (Str.ofString "cpy313.difflib") 194) none (.ref 202) .none), #[]⟩) ::
  (nat_lit 204, ⟨.type "tuple", none, .seq #[] 0, #[]⟩) ::
  (nat_lit 206, ⟨.type "tuple", none, .seq #[.str (Str.ofString "self") 522, .str (Str.ofString "i") 523, .str (Str.ofString "j") 524, .str (Str.ofString "answer") 525, .str (Str.ofString "ai") 526, .str (Str.ofString "bj") 527, .str (Str.ofString "size") 528, .str (Str.ofString "tag") 529] 0, #[]⟩) ::
  (nat_lit 207, ⟨.type "tuple", none, .seq #[] 0, #[]⟩) ::
  (nat_lit 209, ⟨.type "code", none, .fields #[.str (Str.ofString "get_opcodes") 519, .str (Str.ofString "SequenceMatcher.get_opcodes") 520, .str (Str.ofString "/claim/cut.py") 521, .int 383 0, .int 1 0, .int 0 0, .int 0 0, .int 3 0, .ref 204, .bool true, .int 181 0, .ref 205, .none, .ref 206, .ref 207, .ref 208, .int 530 0, .int 383 0, .str (Str.ofString "/claim/cut.py") 531], #[]⟩) ::
  (nat_lit 210, ⟨.type "function", none, .func (fnOf (Str.ofString "get_opcodes") (Str.ofString "SequenceMatcher.get_opcodes") (fArgs (cSt 5 8)) (fBody (cSt 5 8)) (fScope (cSt 5 8)) .none .none (.str (fDoc (cSt 5 8)) 532) (.str (Str.ofString "cpy313.difflib") 194) none (.ref 209) .none), #[]⟩) ::
  (nat_lit 211, ⟨.type "tuple", none, .seq #[.int 3 534] 0, #[]⟩) ::
  (nat_lit 212, ⟨.type "tuple", none, .seq #[] 0, #[]⟩) ::
  (nat_lit 214, ⟨.type "tuple", none, .seq #[.str (Str.ofString "self") 538, .str (Str.ofString "n") 539] 0, #[]⟩) ::
  (nat_lit 215, ⟨.type "tuple", none, .seq #[] 0, #[]⟩) ::
  (nat_lit 217, ⟨.type "code", none, .fields #[.str (Str.ofString "get_grouped_opcodes") 535, .str (Str.ofString "SequenceMatcher.get_grouped_opcodes") 536, .str (Str.ofString "/claim/cut.py") 537, .int 430 0, .int 2 0, .int 0 0, .int 0 0, .int 3 0, .ref 212, .bool true, .int 181 0, .ref 213, .none, .ref 214, .ref 215, .ref 216, .int 540 0, .int 430 0, .str (Str.ofString "/claim/cut.py") 541], #[]⟩) ::
  (nat_lit 218, ⟨.type "function", none, .func (fnOf (Str.ofString "get_grouped_opcodes") (Str.ofString "SequenceMatcher.get_grouped_opcodes") (fArgs (cSt 5 9)) (fBody (cSt 5 9)) (fScope (cSt 5 9)) (.ref 211) .none .none (.str (Str.ofString "cpy313.difflib") 194) none (.ref 217) .none), #[]⟩) ::
  (nat_lit 219, ⟨.type "tuple", none, .seq #[] 0, #[]⟩) ::
  (nat_lit 221, ⟨.type "tuple", none, .seq #[.str (Str.ofString "self") 546, .str (Str.ofString "matches") 547] 0, #[]⟩) ::
  (nat_lit 222, ⟨.type "tuple", none, .seq #[] 0, #[]⟩) ::
  (nat_lit 224, ⟨.type "code", none, .fields #[.str (Str.ofString "ratio") 543, .str (Str.ofString "SequenceMatcher.ratio") 544, .str (Str.ofString "/claim/cut.py") 545, .int 433 0, .int 1 0, .int 0 0, .int 0 0, .int 3 0, .ref 219, .bool true, .int 181 0, .ref 220, .none, .ref 221, .ref 222, .ref 223, .int 548 0, .int 433 0, .str (Str.ofString "/claim/cut.py") 549], #[]⟩) ::
  (nat_lit 225, ⟨.type "function", none, .func (fnOf (Str.ofString "ratio") (Str.ofString "SequenceMatcher.ratio") (fArgs (cSt 5 10)) (fBody (cSt 5 10)) (fScope (cSt 5 10)) .none .none (.str (fDoc (cSt 5 10)) 550) (.str (Str.ofString "cpy313.difflib") 194) none (.ref 224) .none), #[]⟩) ::
  (nat_lit 226, ⟨.type "tuple", none, .seq #[] 0, #[]⟩) ::
  (nat_lit 228, ⟨.type "tuple", none, .seq #[.str (Str.ofString "self") 555, .str (Str.ofString "fullbcount") 556, .str (Str.ofString "elt") 557, .str (Str.ofString "avail") 558, .str (Str.ofString "availhas") 559, .str (Str.ofString "matches") 560, .str (Str.ofString "numb") 561] 0, #[]⟩) ::
  (nat_lit 229, ⟨.type "tuple", none, .seq #[] 0, #[]⟩) ::
  (nat_lit 231, ⟨.type "code", none, .fields #[.str (Str.ofString "quick_ratio") 552, .str (Str.ofString "SequenceMatcher.quick_ratio") 553, .str (Str.ofString "/claim/cut.py") 554, .int 457 0, .int 1 0, .int 0 0, .int 0 0, .int 3 0, .ref 226, .bool true, .int 181 0, .ref 227, .none, .ref 228, .ref 229, .ref 230, .int 562 0, .int 457 0, .str (Str.ofString "/claim/cut.py") 563], #[]⟩) ::
  (nat_lit 232, ⟨.type "function", none, .func (fnOf (Str.ofString "quick_ratio") (Str.ofString "SequenceMatcher.quick_ratio") (fArgs (cSt 5 11)) (fBody (cSt 5 11)) (fScope (cSt 5 11)) .none .none (.str (fDoc (cSt 5 11)) 564) (.str (Str.ofString "cpy313.difflib") 194) none (.ref 231) .none), #[]⟩) ::
  (nat_lit 233, ⟨.type "tuple", none, .seq #[] 0, #[]⟩) ::
  (nat_lit 235, ⟨.type "tuple", none, .seq #[.str (Str.ofString "self") 569, .str (Str.ofString "la") 570, .str (Str.ofString "lb") 571] 0, #[]⟩) ::
  (nat_lit 236, ⟨.type "tuple", none, .seq #[] 0, #[]⟩) ::
  (nat_lit 238, ⟨.type "code", none, .fields #[.str (Str.ofString "real_quick_ratio") 566, .str (Str.ofString "SequenceMatcher.real_quick_ratio") 567, .str (Str.ofString "/claim/cut.py") 568, .int 480 0, .int 1 0, .int 0 0, .int 0 0, .int 3 0, .ref 233, .bool true, .int 181 0, .ref 234, .none, .ref 235, .ref 236, .ref 237, .int 572 0, .int 480 0, .str (Str.ofString "/claim/cut.py") 573], #[]⟩) ::
  (nat_lit 239, ⟨.type "function", none, .func (fnOf (Str.ofString "real_quick_ratio") (Str.ofString "SequenceMatcher.real_quick_ratio") (fArgs (cSt 5 12)) (fBody (cSt 5 12)) (fScope (cSt 5 12)) .none .none (.str (fDoc (cSt 5 12)) 574) (.str (Str.ofString "cpy313.difflib") 194) none (.ref 238) .none), #[]⟩) ::
  (nat_lit 240, ⟨.type "tuple", none, .seq #[.str (Str.ofString "a") 576, .str (Str.ofString "autojunk") 577, .str (Str.ofString "b") 578, .str (Str.ofString "b2j") 579, .str (Str.ofString "bjunk") 580, .str (Str.ofString "bpopular") 581, .str (Str.ofString "fullbcount") 582, .str (Str.ofString "isjunk") 583, .str (Str.ofString "matching_blocks") 584, .str (Str.ofString "opcodes") 585] 0, #[]⟩) ::
  (nat_lit 241, ⟨.type "dict", none, .dict [E P (Str.ofString "__module__") 396 (.str (Str.ofString "cpy313.difflib") 194), E P (Str.ofString "__firstlineno__") 400 (.int 70 399), E P (Str.ofString "__doc__") 402 (.str DOC 401), E P (Str.ofString "__init__") 417 (.ref 160), E P (Str.ofString "set_seqs") 427 (.ref 167), E P (Str.ofString "set_seq1") 436 (.ref 174), E P (Str.ofString "set_seq2") 445 (.ref 181), E P (Str.ofString "_SequenceMatcher__chain_b") 463 (.ref 188), E P (Str.ofString "find_longest_match") 491 (.ref 196), E P (Str.ofString "get_matching_blocks") 518 (.ref 203), E P (Str.ofString "get_opcodes") 533 (.ref 210), E P (Str.ofString "get_grouped_opcodes") 542 (.ref 218), E P (Str.ofString "ratio") 551 (.ref 225), E P (Str.ofString "quick_ratio") 565 (.ref 232), E P (Str.ofString "real_quick_ratio") 575 (.ref 239), E P (Str.ofString "__static_attributes__") 586 (.ref 240), E P (Str.ofString "__dict__") 588 (.ref 243), E P (Str.ofString "__weakref__") 590 (.ref 244)].toArray 3, #[]⟩) ::
  (nat_lit 242, ⟨.type "type", none, .cls { name := (Str.ofString "SequenceMatcher"), bases := [.type "object"], mro := [.ref 242, .type "object"], ns := 241, qualname := (Str.ofString "SequenceMatcher"), hasDict := true, slotNames := [], subclasses := [], abstract := false, collection := none, hasDel := false }, #[none, none, some (.str (Str.ofString "SequenceMatcher") 389), some (.str (Str.ofString "SequenceMatcher") 397), some (.builtin "object.__new__"), some (.bool true)]⟩) ::
  (nat_lit 243, ⟨.type "getset_descriptor", none, .fields #[.str (Str.ofString "__dict__") 587, .ref 242, .builtin "function.__dict__", .builtin "function.__dict__#set"], #[]⟩) ::
  (nat_lit 244, ⟨.type "getset_descriptor", none, .fields #[.str (Str.ofString "__weakref__") 589, .ref 242, .builtin "ExceptionGroup.__weakref__", .none], #[]⟩) ::
  (nat_lit 247, ⟨.type "tuple", none, .seq #[] 0, #[]⟩) ::
  (nat_lit 249, ⟨.type "tuple", none, .seq #[.str (Str.ofString "one") 598, .str (Str.ofString "other") 599, .str (Str.ofString "alo") 600, .str (Str.ofString "ahi") 601, .str (Str.ofString "blo") 602, .str (Str.ofString "bhi") 603, .str (Str.ofString "best") 604, .str (Str.ofString "i") 605, .str (Str.ofString "j") 606, .str (Str.ofString "size") 607] 0, #[]⟩) ::
  (nat_lit 250, ⟨.type "tuple", none, .seq #[] 0, #[]⟩) ::
  (nat_lit 252, ⟨.type "code", none, .fields #[.str (Str.ofString "_law_longest") 595, .str (Str.ofString "_law_longest") 596, .str (Str.ofString "/claim/cut.py") 597, .int 489 0, .int 6 0, .int 0 0, .int 0 0, .int 3 0, .ref 247, .bool true, .int 181 0, .ref 248, .none, .ref 249, .ref 250, .ref 251, .int 608 0, .int 489 0, .str (Str.ofString "/claim/cut.py") 609], #[]⟩) ::
  (nat_lit 253, ⟨.type "function", none, .func (fnOf (Str.ofString "_law_longest") (Str.ofString "_law_longest") (fArgs (tSt 7)) (fBody (tSt 7)) (fScope (tSt 7)) .none .none .none (.str (Str.ofString "law_xe0001_01") 593) none (.ref 252) .none), #[]⟩) ::
  (nat_lit 254, ⟨.type "tuple", none, .seq #[] 0, #[]⟩) ::
  (nat_lit 256, ⟨.type "tuple", none, .seq #[.str (Str.ofString "one") 614, .str (Str.ofString "other") 615, .str (Str.ofString "alo") 616, .str (Str.ofString "ahi") 617, .str (Str.ofString "blo") 618, .str (Str.ofString "bhi") 619, .str (Str.ofString "i") 620, .str (Str.ofString "j") 621, .str (Str.ofString "size") 622, .str (Str.ofString "ahead") 623] 0, #[]⟩) ::
  (nat_lit 257, ⟨.type "tuple", none, .seq #[] 0, #[]⟩) ::
  (nat_lit 259, ⟨.type "code", none, .fields #[.str (Str.ofString "_law_pieces") 611, .str (Str.ofString "_law_pieces") 612, .str (Str.ofString "/claim/cut.py") 613, .int 498 0, .int 6 0, .int 0 0, .int 0 0, .int 3 0, .ref 254, .bool true, .int 181 0, .ref 255, .none, .ref 256, .ref 257, .ref 258, .int 624 0, .int 498 0, .str (Str.ofString "/claim/cut.py") 625], #[]⟩) ::
  (nat_lit 260, ⟨.type "function", none, .func (fnOf (Str.ofString "_law_pieces") (Str.ofString "_law_pieces") (fArgs (tSt 8)) (fBody (tSt 8)) (fScope (tSt 8)) .none .none .none (.str (Str.ofString "law_xe0001_01") 593) none (.ref 259) .none), #[]⟩) ::
  (nat_lit 261, ⟨.type "tuple", none, .seq #[] 0, #[]⟩) ::
  (nat_lit 263, ⟨.type "tuple", none, .seq #[.str (Str.ofString "one") 630, .str (Str.ofString "other") 631, .str (Str.ofString "found") 632, .str (Str.ofString "i") 633, .str (Str.ofString "j") 634, .str (Str.ofString "size") 635, .str (Str.ofString "last") 636] 0, #[]⟩) ::
  (nat_lit 264, ⟨.type "tuple", none, .seq #[] 0, #[]⟩) ::
  (nat_lit 266, ⟨.type "code", none, .fields #[.str (Str.ofString "_law_blocks") 627, .str (Str.ofString "_law_blocks") 628, .str (Str.ofString "/claim/cut.py") 629, .int 504 0, .int 2 0, .int 0 0, .int 0 0, .int 3 0, .ref 261, .bool true, .int 181 0, .ref 262, .none, .ref 263, .ref 264, .ref 265, .int 637 0, .int 504 0, .str (Str.ofString "/claim/cut.py") 638], #[]⟩) ::
  (nat_lit 267, ⟨.type "function", none, .func (fnOf (Str.ofString "_law_blocks") (Str.ofString "_law_blocks") (fArgs (tSt 9)) (fBody (tSt 9)) (fScope (tSt 9)) .none .none .none (.str (Str.ofString "law_xe0001_01") 593) none (.ref 266) .none), #[]⟩) ::
  (nat_lit 268, ⟨.type "tuple", none, .seq #[] 0, #[]⟩) ::
  (nat_lit 270, ⟨.type "tuple", none, .seq #[.str (Str.ofString "blocks") 643, .str (Str.ofString "found") 644, .str (Str.ofString "i") 645, .str (Str.ofString "j") 646, .str (Str.ofString "a") 647, .str (Str.ofString "b") 648, .str (Str.ofString "size") 649] 0, #[]⟩) ::
  (nat_lit 271, ⟨.type "tuple", none, .seq #[] 0, #[]⟩) ::
  (nat_lit 273, ⟨.type "code", none, .fields #[.str (Str.ofString "_law_codes") 640, .str (Str.ofString "_law_codes") 641, .str (Str.ofString "/claim/cut.py") 642, .int 513 0, .int 1 0, .int 0 0, .int 0 0, .int 3 0, .ref 268, .bool true, .int 181 0, .ref 269, .none, .ref 270, .ref 271, .ref 272, .int 650 0, .int 513 0, .str (Str.ofString "/claim/cut.py") 651], #[]⟩) ::
  (nat_lit 274, ⟨.type "function", none, .func (fnOf (Str.ofString "_law_codes") (Str.ofString "_law_codes") (fArgs (tSt 10)) (fBody (tSt 10)) (fScope (tSt 10)) .none .none .none (.str (Str.ofString "law_xe0001_01") 593) none (.ref 273) .none), #[]⟩) ::
  (nat_lit 275, ⟨.type "tuple", none, .seq #[] 0, #[]⟩) ::
  (nat_lit 278, ⟨.type "code", none, .fields #[.str (Str.ofString "law") 653, .str (Str.ofString "law") 654, .str (Str.ofString "/claim/cut.py") 655, .int 523 0, .int 1 0, .int 0 0, .int 0 0, .int 3 0, .ref 275, .bool true, .int 181 0, .ref 276, .none, .none, .none, .ref 277, .int 656 0, .int 523 0, .str (Str.ofString "/claim/cut.py") 657], #[]⟩) ::
  (nat_lit 279, ⟨.type "function", none, .func (fnOf (Str.ofString "law") (Str.ofString "law") (fArgs (tSt 11)) (fBody (tSt 11)) (fScope (tSt 11)) .none .none .none (.str (Str.ofString "law_xe0001_01") 593) none (.ref 278) .none), #[]⟩) :: []
noncomputable def KA : List Addr := [2, 3, 15, 17, 18, 20, 21, 29, 31, 32, 34, 35, 36, 37, 39, 40, 42, 43, 44, 46, 47, 49, 50, 51, 53, 54, 56, 57, 58, 59, 60, 61, 62, 65, 68, 73, 74, 75, 76, 78, 79, 81, 82, 83, 85, 86, 88, 89, 90, 91, 92, 93, 94, 96, 97, 99, 100, 101, 103, 104, 106, 107, 108, 110, 111, 113, 114, 115, 117, 118, 120, 121, 122, 123, 124, 126, 127, 129, 130, 132, 134, 135, 136, 139, 141, 142, 144, 145, 153, 154, 156, 157, 159, 160, 161, 163, 164, 166, 167, 168, 170, 171, 173, 174, 175, 177, 178, 180, 181, 182, 184, 185, 187, 188, 189, 190, 192, 193, 195, 196, 197, 199, 200, 202, 203, 204, 206, 207, 209, 210, 211, 212, 214, 215, 217, 218, 219, 221, 222, 224, 225, 226, 228, 229, 231, 232, 233, 235, 236, 238, 239, 240, 241, 242, 243, 244, 247, 249, 250, 252, 253, 254, 256, 257, 259, 260, 261, 263, 264, 266, 267, 268, 270, 271, 273, 274, 275, 278, 279]
noncomputable def KT (P : Params) : Frag := (nat_lit 220, ⟨.none, none, .fields #[], #[]⟩) :: K P
noncomputable def KTA : List Addr := 220 :: KA
theorem KTA_eq (P : Params) : KTA = (KT P).map (·.1) := by kernel_rfl
theorem KA_eq (P : Params) : KA = (K P).map (·.1) := by kernel_rfl
end
section
open PySem PySem.W PyProof.Rows
set_option Elab.async false
set_option maxRecDepth 100000
set_option maxHeartbeats 8000000
noncomputable def q : PySem.Program := { pw with main := { pw.main with body := [tSt 0, tSt 2, tSt 3, tSt 4, tSt 5, tSt 7, tSt 8, tSt 9, tSt 10, tSt 11] } }
noncomputable def loose : List PySem.Str := [Str.ofString "_tuplegetter", Str.ofString "Match", Str.ofString "SequenceMatcher"]
noncomputable def hk : Hook := kHook KT KTA KTA_eq
noncomputable abbrev rw1 : OpenLaw := PySem.Challenge.rw_xe0001_01
noncomputable def Xt : Shared → Bool := fun s => xlAt q [] s && recOk (RowW.records rw1.row.toRowW) s
theorem leftX (w : World) : (oeQ tab2 pwX w 4694).map (fun s => (PySem.W.Fast.tw4187177175401517315 q loose (importedModules pwX.main.body) Xt true s, Hook.obs hk s)) = some (openGood q loose, Hook.val hk w) := by
  kernel_rfl
theorem left : LeftO rw1.row.toRowW.prog q loose Xt (Hook.obs hk) (Hook.val hk) 4694 := fun w => by
  have h := leftX w
  rw [← PySem.W.Fast.te4187177175401517315, ← oe_eq, ← tab_eq, ← pw_eq] at h
  exact h
end
section
open PySem PySem.W PyProof.Rows PySem.Calls
set_option Elab.async false
set_option maxRecDepth 100000
section
variable {prog : Program} {w : World} {A : Around} {E : Value → Shared → Prop} {s : Shared}
theorem gt_int {a b : Int} {t u : Tok} {Q : Value → Shared → Prop} (h : Q (.bool (decide (a > b))) s) : wpAny (model prog w) A (richCompare .Gt (.int a t) (.int b u)) Q E s :=
  CmpOf.ints_gt (P := fun i v => if i = 0 then v = .int a t else v = .int b u) (fun i => if i = 0 then a else b) (fun i v hi => by
    by_cases e : i = 0
    · simp only [e, if_true] at hi ⊢; exact ⟨_, hi⟩
    · simp only [e, if_false] at hi ⊢; exact ⟨_, hi⟩) 0 1 _ _ s Q E rfl rfl (by simpa using h)
noncomputable def gt3 (p q : Int × Int × Int) : Bool := if p.1 = q.1 then (if p.2.1 = q.2.1 then decide (p.2.2 > q.2.2) else decide (p.2.1 > q.2.1)) else decide (p.1 > q.1)
noncomputable def IsT3 (h : Heap) (a : Addr) (p : Int × Int × Int) : Prop := ∃ o t1 t2 t3 n, h.get? a = some o ∧ o.cls = .type "tuple" ∧ o.data = .seq #[.int p.1 t1, .int p.2.1 t2, .int p.2.2 t3] n
theorem IsT3.typeIs {a : Addr} {p : Int × Int × Int} (h : IsT3 s.heap a p) : s.TypeIs (.ref a) "tuple" := by
  obtain ⟨o, _, _, _, _, h1, h2, _⟩ := h
  exact ⟨o, h1, h2⟩
theorem tuple_gt_call {x y : Addr} {p q : Int × Int × Int} {Q : Value → Shared → Prop} (hx : IsT3 s.heap x p) (hy : IsT3 s.heap y q) (h : Q (.bool (gt3 p q)) s) :
    wpAny (model prog w) A (call (.builtin "tuple.__gt__") [.ref x, .ref y]) Q E s := by
  refine wpAny_call_entry PySem.F.slot_tuple_gt hx.typeIs PySem.F.entry_tuple_gt ?_ (PySem.F.args_tuple_gt_2 _ _)
  have hTb := hy.typeIs
  obtain ⟨o, t1, t2, t3, n, h1, h2, h3⟩ := hx
  obtain ⟨o', t1', t2', t3', n', h1', h2', h3'⟩ := hy
  show wpAny _ _ (isInstance (.ref y) (.type "tuple") >>= _) _ _ s
  refine wpAny_bind (wpAny_isInstance hTb isSubtype_tuple_tuple ?_)
  simp only [Bool.not_true, Bool.false_eq_true, if_false]
  refine wpAny_bind (wpAny_tupleItemsOf h1 h3 ?_)
  refine wpAny_bind (wpAny_tupleItemsOf h1' h3' ?_)
  simp only [List.zip_cons_cons, List.zip_nil_left, List.forIn_cons, List.forIn_nil]
  unfold gt3 at h
  refine wpAny_bind (wpAny_bind ?_)
  refine wpAny_bind (wpAny_eqBool_int ?_)
  by_cases e1 : p.1 = q.1
  · rw [if_pos e1] at h
    simp only [e1, beq_self_eq_true, Bool.not_true, Bool.false_eq_true, if_false]
    refine wpAny_pure (wpAny_bind (wpAny_bind (wpAny_eqBool_int ?_)))
    by_cases e2 : p.2.1 = q.2.1
    · rw [if_pos e2] at h
      simp only [e2, beq_self_eq_true, Bool.not_true, Bool.false_eq_true, if_false]
      refine wpAny_pure (wpAny_bind (wpAny_bind (wpAny_eqBool_int ?_)))
      by_cases e3 : p.2.2 = q.2.2
      · simp only [e3, beq_self_eq_true, Bool.not_true, Bool.false_eq_true, if_false]
        refine wpAny_pure (wpAny_pure (wpAny_pure ⟨_, rfl, ?_⟩))
        rw [e3] at h
        show Q (.bool (decide (3 > 3))) s
        simpa using h
      · have e3' : (p.2.2 == q.2.2) = false := by simp [e3]
        simp only [e3', Bool.not_false, if_true]
        refine wpAny_bind (wpAny_rule (wpAny_bind (gt_int ?_)))
        exact wpAny_pure (wpAny_pure (wpAny_pure ⟨_, rfl, h⟩))
    · rw [if_neg e2] at h
      have e2' : (p.2.1 == q.2.1) = false := by simp [e2]
      simp only [e2', Bool.not_false, if_true]
      refine wpAny_bind (wpAny_rule (wpAny_bind (gt_int ?_)))
      exact wpAny_pure (wpAny_pure (wpAny_pure ⟨_, rfl, h⟩))
  · rw [if_neg e1] at h
    have e1' : (p.1 == q.1) = false := by simp [e1]
    simp only [e1', Bool.not_false, if_true]
    refine wpAny_bind (wpAny_rule (wpAny_bind (gt_int ?_)))
    exact wpAny_pure (wpAny_pure (wpAny_pure ⟨_, rfl, h⟩))

theorem IsT3.keep {h h' : Heap} {a : Addr} {p : Int × Int × Int} (x : IsT3 h a p) (k : ∀ o, h.get? a = some o → h'.get? a = some o) : IsT3 h' a p := by
  obtain ⟨o, t1, t2, t3, n, h1, h2, h3⟩ := x
  exact ⟨o, t1, t2, t3, n, k _ h1, h2, h3⟩
theorem gt_tup {x y : Addr} {p q : Int × Int × Int} {Q : Value → Shared → Prop} (hu : A.units < cLine) (hx : IsT3 s.heap x p) (hy : IsT3 s.heap y q) (h : Q (.bool (gt3 p q)) s) :
    wpAny (model prog w) A (richCompare .Gt (.ref x) (.ref y)) Q E s :=
  wpAny_richCompare_same_room (op := .Gt) hx.typeIs hy.typeIs PySem.F.slot_tuple_gt (tuple_gt_call hx hy ⟨fun e => (nomatch e), h⟩) hu
theorem max_tup {x y : Addr} {p q : Int × Int × Int} {Q : Value → Shared → Prop} (hh : A.handled = none) (hu : A.units + 1 < cLine) (hx : IsT3 s.heap x p) (hy : IsT3 s.heap y q)
    (h : ∀ h' tk, (∀ d o, s.heap.get? d = some o → h'.get? d = some o) → Q (if gt3 q p then .ref y else .ref x) { s with heap := h', toks := tk }) :
    wpAny (model prog w) A (call (.builtin "max") [.ref x, .ref y]) Q E s := by
  have hname : (toString "max" ++ toString ".loop" : String) = "max.loop" := by decide
  refine call_function_tree PySem.F.kind_max PySem.F.plain_max PySem.F.entry_max (PySem.F.args_max2 _ _) ?_
  show wpAny _ A.in1 (Builtin.Builtins.bindParams "max" ["key", "default"] 0 ⟨[], []⟩ >>= _) _ _ s
  refine wpAny_bind (wpAny_of_eq (show Builtin.Builtins.bindParams "max" ["key", "default"] 0 ⟨[], []⟩ = pure [none, none] from rfl) ?_)
  show wpAny _ A.in1 (newTuple [.ref x, .ref y] >>= _) _ _ s
  refine wpAny_bind (wpAny_newObj_type ?_)
  have hT : (s.heap.push { cls := .type "tuple", data := .seq #[.ref x, .ref y] }).IsTuple s.heap.objs.size #[.ref x, .ref y] := ⟨_, Heap.get?_push_size _ rfl, rfl, 0, rfl⟩
  refine wpAny_bind (wpAny_pyIter_tuple hT ?_)
  refine wpAny_bind (wpAny_newObj_type ?_)
  rw [hname]
  generalize hI : (s.heap.push { cls := .type "tuple", data := .seq #[.ref x, .ref y] }).objs.size = I
  refine wpAny_pure ⟨plainId_quiet PySem.F.plain_max_loop _, ?_⟩
  have hsz : (s.heap.push { cls := .type "tuple", data := .seq #[.ref x, .ref y] }).objs.size = s.heap.objs.size + 1 := Heap.size_push ..
  have hTI : s.heap.objs.size ≠ I := by (first | lia | omega)
  have W := Walks.tuple (prog := prog) (w := w) (A := A.in1) hh I s.heap.objs.size hTI #[.ref x, .ref y]
  generalize hH : ((s.heap.push { cls := .type "tuple", data := .seq #[.ref x, .ref y] }).push { cls := .type "tuple_iterator", data := .fields #[.ref s.heap.objs.size, .int 0 0] }) = H
  have hHs : H.objs.size = I + 1 := by rw [← hH, Heap.size_push, hI]
  generalize hS0 : H.objs.size = S
  have hold : ∀ d o, s.heap.get? d = some o → (H.push { cls := .type "list", data := .seq #[] }).get? d = some o := fun d o e => by
    rw [← hH]; exact Heap.get?_push_of_some _ (Heap.get?_push_of_some _ (Heap.get?_push_of_some _ e))
  have old1 : ∀ d o, s.heap.get? d = some o → d ≠ I ∧ d ≠ S := fun d o e => ⟨Nat.ne_of_lt (Nat.lt_of_lt_of_le (Heap.lt_size e) (by (first | lia | omega))), Nat.ne_of_lt (Nat.lt_of_lt_of_le (Heap.lt_size e) (by (first | lia | omega)))⟩
  have hst : (H.push { cls := .type "list", data := .seq #[] }).IsTupleIter I s.heap.objs.size 0 ∧ (H.push { cls := .type "list", data := .seq #[] }).IsTuple s.heap.objs.size #[.ref x, .ref y] := by
    refine ⟨⟨_, Heap.get?_push_of_some _ (by rw [← hH, ← hI]; exact Heap.get?_push_size _ rfl), rfl, rfl⟩, ?_⟩
    rw [← hH]; exact (hT.push _).push _
  have hS : (H.push { cls := .type "list", data := .seq #[] }).get? S = some { cls := .type "list", dict := none, data := .seq #[] 0, slots := #[] } := by rw [← hS0]; exact Heap.get?_push_size _ rfl
  generalize (H.push { cls := .type "list", data := .seq #[] }) = H₀ at hold hst hS
  have hSI : S ≠ I := by (first | lia | omega)
  have hST : S ≠ s.heap.objs.size := by (first | lia | omega)
  refine codeAny_builtin PySem.F.entry_max_loop ?_
  rw [Around.under_plainId PySem.F.plain_max_loop _]
  show wpAny _ A.in1 (seqItems? (.ref S) >>= _) _ _ _
  refine wpAny_bind (wpAny_seqItems hS rfl ?_)
  show wpAny _ A.in1 (tryCatch (pyNext (.ref I)) _ >>= _) _ _ _
  refine wpAny_bind (wpAny_tryCatch (W.item 0 _ _ _ (by simp) hst fun v h1 tk1 hP hst1 hk1 => ?_))
  have hv : v = .ref x := by simpa using hP.symm
  subst hv
  have hS1 := hk1 S _ (by simpa using hSI) hS
  show wpAny _ A.in1 (updateSeq S (fun _ => #[.ref x, .ref x]) >>= _) _ _ _
  refine wpAny_bind ?_
  refine wpAny_updateSeq hS1 rfl ?_
  rw [hname]
  have hS2 := Heap.get?_update_self (Obj.mapSeq fun _ => #[.ref x, .ref x]) hS1 rfl
  have hk2 : ∀ d, d ≠ S → (h1.update S (Obj.mapSeq fun _ => #[.ref x, .ref x])).get? d = h1.get? d := fun d hd => Heap.get?_update_other _ _ (Ne.symm hd)
  generalize (h1.update S (Obj.mapSeq fun _ => #[.ref x, .ref x])) = H2 at hS2 hk2
  have hst2 := W.frame 1 h1 H2 hst1 fun b hb o e => by
    rw [hk2 b (by rcases List.mem_cons.mp hb with rfl | hb; exact Ne.symm hSI; exact (List.mem_singleton.mp hb) ▸ Ne.symm hST)]; exact e
  have hold2 : ∀ d o, s.heap.get? d = some o → H2.get? d = some o := fun d o e => by
    rw [hk2 d (old1 d o e).2]; exact hk1 d o (by simpa using (old1 d o e).1) (hold d o e)
  refine wpAny_pure ⟨plainId_quiet PySem.F.plain_max_loop _, ?_⟩
  refine codeAny_builtin PySem.F.entry_max_loop ?_
  rw [Around.under_plainId PySem.F.plain_max_loop _]
  show wpAny _ A.in1 (seqItems? (.ref S) >>= _) _ _ _
  refine wpAny_bind (wpAny_seqItems hS2 rfl ?_)
  show wpAny _ A.in1 (tryCatch (pyNext (.ref I)) _ >>= _) _ _ _
  refine wpAny_bind (wpAny_tryCatch (W.item 1 _ _ _ (by simp) hst2 fun v h3 tk3 hP hst3 hk3 => ?_))
  have hv : v = .ref y := by simpa using hP.symm
  subst hv
  have hS3 := hk3 S _ (by simpa using hSI) hS2
  have hold3 : ∀ d o, s.heap.get? d = some o → h3.get? d = some o := fun d o e => hk3 d o (by simpa using (old1 d o e).1) (hold2 d o e)
  show wpAny _ A.in1 (tryCatch (holding [.ref y, .ref y] (richCompare .Gt (.ref y) (.ref x) >>= _)) _ >>= _) _ _ _
  refine wpAny_bind (wpAny_tryCatch (wpAny_holding (wpAny_bind (gt_tup hu (hy.keep (hold3 y)) (hx.keep (hold3 x)) ?_))))
  refine wpAny_bind (wpAny_holding (wpAny_truthy_bool ?_))
  refine wpAny_bind (wpAny_letGo (wpAny_pure ?_))
  have fin : ∀ (v : Value) (h4 : Heap) (tk4 : Nat) (c : Nat), (h4.IsTupleIter I s.heap.objs.size 2 ∧ h4.IsTuple s.heap.objs.size #[.ref x, .ref y]) → h4.get? S = some { cls := .type "list", dict := none, data := .seq #[v, v] c, slots := #[] } →
      (∀ d o, s.heap.get? d = some o → h4.get? d = some o) → (if gt3 q p then Value.ref y else Value.ref x) = v →
      codeAny (model prog w) A (.builtin "max.loop" ⟨[.ref I, .none, .ref S], []⟩) (fun r s' => match r with | .ok (.ret v) => Q v s' | .ok _ => False | .error e => E e s') { s with heap := h4, toks := tk4 } := by
    intro v h4 tk4 c hst4 hS4 hold4 hv
    refine codeAny_builtin PySem.F.entry_max_loop ?_
    rw [Around.under_plainId PySem.F.plain_max_loop _]
    show wpAny _ A.in1 (seqItems? (.ref S) >>= _) _ _ _
    refine wpAny_bind (wpAny_seqItems hS4 rfl ?_)
    show wpAny _ A.in1 (tryCatch (pyNext (.ref I)) _ >>= _) _ _ _
    refine wpAny_bind (wpAny_tryCatch (W.done _ _ _ hst4 fun h5 tk5 hk5 => ?_))
    have hS5 := hk5 S _ (by simpa using hSI) hS4
    show wpAny _ A.in1 (updateSeq S (fun _ => #[]) >>= _) _ _ _
    refine wpAny_bind ?_
    refine wpAny_updateSeq hS5 rfl (wpAny_bind (wpAny_letGo (wpAny_pure ?_)))
    have := h (h5.update S (Obj.mapSeq fun _ => #[])) tk5 fun d o e => by
      rw [Heap.get?_update_other _ _ (Ne.symm (old1 d o e).2)]; exact hk5 d o (by simpa using (old1 d o e).1) (hold4 d o e)
    rw [hv] at this
    exact this
  cases hb : gt3 q p with
  | true =>
    simp only [if_true]
    refine wpAny_bind ?_
    refine wpAny_updateSeq hS3 rfl (wpAny_bind (wpAny_letGo ?_))
    rw [hname]
    refine wpAny_pure ⟨plainId_quiet PySem.F.plain_max_loop _, fin (.ref y) _ _ _ (W.frame 2 _ _ hst3 fun b hbf o e => ?_) (Heap.get?_update_self _ hS3 rfl) (fun d o e => ?_) (by rw [hb]; rfl)⟩
    · refine (Heap.get?_update_other _ _ ?_).trans e
      rcases List.mem_cons.mp hbf with rfl | hb; exact hSI; exact (List.mem_singleton.mp hb) ▸ hST
    · rw [Heap.get?_update_other _ _ (Ne.symm (old1 d o e).2)]; exact hold3 d o e
  | false =>
    simp only [Bool.false_eq_true, if_false]
    refine wpAny_bind (wpAny_letGo ?_)
    rw [hname]
    exact wpAny_pure ⟨plainId_quiet PySem.F.plain_max_loop _, fin (.ref x) _ _ _ hst3 hS3 hold3 (by rw [hb]; rfl)⟩
end
end
section
open PySem PySem.W PyProof.Rows PySem.Calls
set_option Elab.async false
set_option maxRecDepth 100000
noncomputable abbrev NoE : Value → Shared → Prop := fun _ _ => False
noncomputable def isIt (o : Obj) : Bool := match o.cls with
  | .type n => n == "list_iterator" || n == "tuple_iterator" || n == "range_iterator" || n == "str_ascii_iterator" || n == "str_iterator"
  | _ => false
theorem isIt_of {o : Obj} {n : String} (h : o.cls = .type n) (e : (n == "list_iterator" || n == "tuple_iterator" || n == "range_iterator" || n == "str_ascii_iterator" || n == "str_iterator") = true) : isIt o = true := by
  unfold isIt; rw [h]; exact e
theorem off_it {h₀ h : Heap} {L a I : Addr} {o oI : Obj} {news : List (Addr × Obj)} (N : News h₀ L h news) (ha : (a, o) ∈ news) (hI : (I, oI) ∈ news) (hi : isIt oI = true) (ho : isIt o = false) : a ≠ I := by
  rintro rfl
  have e1 := (N _ ha).1
  have e2 := (N _ hI).1
  simp only at e1 e2
  rw [e1] at e2
  cases e2
  rw [hi] at ho
  cases ho
/-- what stands at the end of a turn -/
noncomputable def LEnd (h₀ : Heap) (L : Addr) (off : Addr → Prop) (J : (Str → Option Value) → List (Addr × Obj) → Prop) (own : List (Addr × Obj)) (s₁ s₂ : Shared) : Prop :=
  ∀ Rz : Prop, (∀ (h' : Heap) (tk : Nat) (m' : Str → Option Value) (nx news' : List (Addr × Obj)), s₂ = { s₁ with heap := h', toks := tk } → Fr h₀ L h' m' → News h₀ L h' news' → (∀ p ∈ nx, p ∈ news') → (∀ p ∈ own, p ∈ news') → (∀ p ∈ nx, off p.1) → J m' nx → Rz) → Rz
/-- where a loop stands ahead of a turn -/
noncomputable def LAt (h₀ : Heap) (L : Addr) (off : Addr → Prop) (St : Nat → Heap → Prop) (J : Nat → (Str → Option Value) → List (Addr × Obj) → Prop) (n : Nat) (s₂ : Shared) (k : Nat) (s' : Shared) : Prop :=
  ∀ Rz : Prop, (∀ (h' : Heap) (tk : Nat) (m' : Str → Option Value) (nx : List (Addr × Obj)) (i : Nat), s' = { s₂ with heap := h', toks := tk } → St i h' → Fr h₀ L h' m' → News h₀ L h' nx → (∀ p ∈ nx, off p.1) → J i m' nx → i ≤ n → k = n + 1 - i → Rz) → Rz
theorem LEnd.at {h₀ : Heap} {L : Addr} {off : Addr → Prop} {St : Nat → Heap → Prop} {J : Nat → (Str → Option Value) → List (Addr × Obj) → Prop} {n i : Nat} {own : List (Addr × Obj)} {s₂ s₄ : Shared} {h₁ : Heap} {tk₁ : Nat} (e : LEnd h₀ L off (J (i + 1)) own { s₂ with heap := h₁, toks := tk₁ } s₄) (hlt : i < n)
    (hst : ∀ h5 news5, News h₀ L h5 news5 → (∀ p ∈ own, p ∈ news5) → (∀ b o, h₀.get? b = some o → h5.get? b = some o) → St (i + 1) h5) : ∃ k, k < n + 1 - i ∧ LAt h₀ L off St J n s₂ k s₄ :=
  e _ fun h5 tk5 m5 nx5 news5 e5 F5 N5 hn5 ho5 hI5 hJ5 => ⟨n + 1 - (i + 1), Nat.sub_lt_sub_left (Nat.lt_succ_of_lt hlt) (Nat.lt_succ_self i), fun _ kz => kz h5 tk5 m5 nx5 (i + 1) e5 (hst h5 news5 N5 ho5 F5.keep) F5 (fun p hp => N5 p (hn5 p hp)) hI5 hJ5 hlt rfl⟩
noncomputable def LPost (h₀ : Heap) (L I : Addr) (J : (Str → Option Value) → List (Addr × Obj) → Prop) (own : List (Addr × Obj)) (s₁ : Shared) (Q : Flow → Shared → Prop) (f : Flow) (s₂ : Shared) : Prop :=
  match f with
  | .ret v => Q (.ret v) s₂
  | .brk => Q .next s₂
  | _ => LEnd h₀ L (· ≠ I) J own s₁ s₂
theorem LPost_next {h₀ h' : Heap} {L I : Addr} {J : (Str → Option Value) → List (Addr × Obj) → Prop} {own nx news' : List (Addr × Obj)} {m' : Str → Option Value} {s₁ : Shared} {tk : Nat} {Q : Flow → Shared → Prop}
    (F : Fr h₀ L h' m') (N : News h₀ L h' news') (hJ : J m' nx) (h1 : ∀ p ∈ nx, p ∈ news') (h2 : ∀ p ∈ own, p ∈ news') (h3 : ∀ p ∈ nx, p.1 ≠ I) : LPost h₀ L I J own s₁ Q .next { s₁ with heap := h', toks := tk } :=
  fun _ kz => kz h' tk m' nx news' rfl F N h1 h2 h3 hJ
theorem LPost_cont {h₀ h' : Heap} {L I : Addr} {J : (Str → Option Value) → List (Addr × Obj) → Prop} {own nx news' : List (Addr × Obj)} {m' : Str → Option Value} {s₁ : Shared} {tk : Nat} {Q : Flow → Shared → Prop}
    (F : Fr h₀ L h' m') (N : News h₀ L h' news') (hJ : J m' nx) (h1 : ∀ p ∈ nx, p ∈ news') (h2 : ∀ p ∈ own, p ∈ news') (h3 : ∀ p ∈ nx, p.1 ≠ I) : LPost h₀ L I J own s₁ Q .cont { s₁ with heap := h', toks := tk } :=
  fun _ kz => kz h' tk m' nx news' rfl F N h1 h2 h3 hJ
section
variable {prog : Program} {w : World} {A : Around} {s : Shared} {env : Env} {h₀ : Heap} {target : Expr} {body : List Stmt} {Q : Flow → Shared → Prop}
/-- a loop that is about to be walked over an iterator -/
noncomputable def LoopM (prog : Program) (w : World) (A : Around) (h₀ : Heap) (env : Env) (target : Expr) (body : List Stmt) (Q : Flow → Shared → Prop) (it : Value) (s : Shared) : Prop :=
  ∀ R : Prop, (∀ (I : Addr) (fp : List Addr) (n : Nat) (P : Nat → Value → Prop) (St : Nat → Heap → Prop) (m : Str → Option Value) (news : List (Addr × Obj)) (J : Nat → (Str → Option Value) → List (Addr × Obj) → Prop),
    it = .ref I →
    Walks prog w A I fp [I] n P St →
    env.locals ∉ fp →
    h₀.get? I = none →
    St 0 s.heap →
    (∀ i h, St i h → ∃ o, h.get? I = some o ∧ isIt o = true) →
    Fr h₀ env.locals s.heap m →
    News h₀ env.locals s.heap news →
    (∀ p ∈ news, p.1 ≠ I) →
    (∀ i (s' : Shared) v (Q' : Unit → Shared → Prop), St i s'.heap → Q' () s' → wpAny (model prog w) A (letOwnedTupleGo target (.ref I) v) Q' NoE s') →
    J 0 m news →
    (∀ i v m₁ nx h tk own oI, i < n → P i v → St (i + 1) h → J i m₁ nx → (I, oI) ∈ own → (∀ p ∈ own, p.1 ∈ fp) → isIt oI = true → (∀ p ∈ nx, p.1 ≠ I) → Fr h₀ env.locals h m₁ → News h₀ env.locals h (nx ++ own) →
      wpAny (model prog w) A (assign target env v) (fun _ s₃ => wpAny (model prog w) A (execs body env) (LPost h₀ env.locals I (J (i + 1)) own { s with heap := h, toks := tk } Q) NoE s₃) NoE { s with heap := h, toks := tk }) →
    (∀ m₁ nx h tk, J n m₁ nx → Fr h₀ env.locals h m₁ → News h₀ env.locals h nx → Q .next { s with heap := h, toks := tk }) → R) → R
theorem for_M {iter : Expr} {pos : Pos} (h₀ : Heap)
    (h : wpAny (model prog w) A (eval iter env) (fun xv s₁ => wpAny (model prog w) A (pyIter xv) (fun it s₂ => LoopM prog w A h₀ env target body Q it s₂) NoE s₁) NoE s)
    (hs : ∀ x, foldedSetIterable iter env x = pure x := by intro _; rfl) :
    wpAny (model prog w) A (exec (.For target iter body [] pos) env) Q NoE s := by
  refine wpAny_For (wpAny_mono h (fun xv s₁ h₁ => wpAny_mono h₁ (fun it s₂ h₂ => ?_) fun _ _ e => e.elim) fun _ _ e => e) hs
  clear h h₁
  refine h₂ _ fun I fp n P St m news J hit0 W hLf h0I hst hSt F N hnI hgo hj turn done => ?_
  subst hit0
  clear h₂
  have never : ∀ (e : Value) (s' : Shared), NoE e s' → notedBy (model prog w) A env (fun e s' => match (Except.error e : Result) with | .ok f => Q f s' | .error e => cameBackBy (model prog w) A env NoE e s') e s' := fun _ _ h => h.elim
  refine codeAny_forLoop_any
    (LAt h₀ env.locals (· ≠ I) St J n s₂) ?_ (n + 1) (fun _ kz => kz s₂.heap s₂.toks m news 0 rfl hst F N hnI hj (Nat.zero_le _) rfl)
  intro k s' HS
  refine HS _ fun h' tk m' nx i e1 hst' F' N' hnI' hJ hi e2 => ?_
  clear HS
  subst e1 e2
  have old : ∀ (h₁ : Heap), (∀ b o, b ∉ [I] → h'.get? b = some o → h₁.get? b = some o) → Fr h₀ env.locals h₁ m' ∧ News h₀ env.locals h₁ nx := by
    intro h₁ hk
    have hLI : env.locals ∉ [I] := fun hm => hLf (W.sub _ hm)
    have h0 : ∀ b o, h₀.get? b = some o → b ∉ [I] := fun b o e hm => by rw [List.mem_singleton.mp hm, h0I] at e; cases e
    exact ⟨⟨F'.ns.at' fun o e => hk _ o hLI e, fun b o e => hk b o (h0 b o e) (F'.keep b o e), F'.above⟩, fun p hp => ⟨hk _ _ (fun hm => hnI' p hp (List.mem_singleton.mp hm)) (N' p hp).1, (N' p hp).2⟩⟩
  by_cases hlt : i < n
  · refine W.item i _ _ _ hlt hst' fun v h₁ tk₁ hP hst₁ hk₁ => ?_
    obtain ⟨F₁, N₁⟩ := old h₁ hk₁
    obtain ⟨oI, hoI, hit⟩ := hSt _ _ hst₁
    have hown : News h₀ env.locals h₁ (ownOf h₀ fp h₁) := news_ownOf hLf
    have hI : (I, oI) ∈ ownOf h₀ fp h₁ := mem_ownOf (W.sub _ (.head _)) h0I hoI
    refine wpAny_mono (hgo (i + 1) { s₂ with heap := h₁, toks := tk₁ } v (fun _ s' => s' = { s₂ with heap := h₁, toks := tk₁ }) hst₁ rfl) (fun _ s' hs' => ?_) fun _ _ h => h.elim
    subst hs'
    refine wpAny_mono (turn i v m' nx h₁ tk₁ (ownOf h₀ fp h₁) oI hlt hP hst₁ hJ hI ownOf_sub hit hnI' F₁ (fun p hp => (List.mem_append.mp hp).elim (N₁ p) (hown p))) (fun _ s₃ h₃ => ?_) fun _ _ h => h.elim
    refine wpAny_mono h₃ (fun f s₄ h₄ => ?_) fun _ _ h => h.elim
    have fin : LEnd h₀ env.locals (· ≠ I) (J (i + 1)) (ownOf h₀ fp h₁) { s₂ with heap := h₁, toks := tk₁ } s₄ → ∃ k, k < n + 1 - i ∧ LAt h₀ env.locals (· ≠ I) St J n s₂ k s₄ := fun e => by
      refine e.at hlt fun h5 news5 N5 ho5 keep5 => W.frame _ _ _ hst₁ fun b hb o e => ?_
      cases hn : h₀.get? b with
      | some o₀ =>
        have e0 := F₁.keep b o₀ hn
        rw [e] at e0
        cases e0
        exact keep5 b _ hn
      | none => exact (N5 _ (ho5 _ (mem_ownOf hb hn e))).1
    cases f with
    | ret v => exact h₄
    | brk => exact h₄
    | next => exact fin h₄
    | cont => exact fin h₄
  · have hin : i = n := by (first | lia | omega)
    subst hin
    refine W.done _ _ _ hst' fun h₁ tk₁ hk₁ => wpAny_execs_nil ?_
    obtain ⟨F₁, N₁⟩ := old h₁ hk₁
    exact done m' nx h₁ tk₁ hJ F₁ N₁

theorem for_MF {iter : Expr} {pos : Pos} {m : Str → Option Value} (_F : Fr h₀ env.locals s.heap m)
    (h : wpAny (model prog w) A (eval iter env) (fun xv s₁ => wpAny (model prog w) A (pyIter xv) (fun it s₂ => LoopM prog w A h₀ env target body Q it s₂) NoE s₁) NoE s)
    (hs : ∀ x, foldedSetIterable iter env x = pure x) :
    wpAny (model prog w) A (exec (.For target iter body [] pos) env) Q NoE s := for_M h₀ h hs
theorem iterM_list {l : Addr} {items : Array Value} {m : Str → Option Value} {news : List (Addr × Obj)} (J : Nat → (Str → Option Value) → List (Addr × Obj) → Prop)
    (hh : A.handled = none) (hl : s.heap.IsList l items) (hlL : l ≠ env.locals) (F : Fr h₀ env.locals s.heap m) (N : News h₀ env.locals s.heap news) (hj : J 0 m news)
    (turn : ∀ i v m₁ nx h tk own I oI, i < items.size → items[i]? = some v → J i m₁ nx → (I, oI) ∈ own → (∀ p ∈ own, p.1 = I ∨ p.1 = l) → isIt oI = true → (∀ p ∈ nx, p.1 ≠ I) → Fr h₀ env.locals h m₁ → News h₀ env.locals h (nx ++ own) → h.IsList l items →
      wpAny (model prog w) A (assign target env v) (fun _ s₃ => wpAny (model prog w) A (execs body env) (LPost h₀ env.locals I (J (i + 1)) own { s with heap := h, toks := tk } Q) NoE s₃) NoE { s with heap := h, toks := tk })
    (done : ∀ m₁ nx h tk, J items.size m₁ nx → Fr h₀ env.locals h m₁ → News h₀ env.locals h nx → Q .next { s with heap := h, toks := tk }) :
    wpAny (model prog w) A (pyIter (.ref l)) (fun it s₂ => LoopM prog w A h₀ env target body Q it s₂) NoE s := by
  obtain ⟨ol, hol, _⟩ := id hl
  have hne : l ≠ s.heap.objs.size := Nat.ne_of_lt (Heap.lt_size hol)
  refine wpAny_pyIter_list hl ?_
  have W := Walks.list (prog := prog) (w := w) hh s.heap.objs.size l hne items
  have hLs : env.locals ≠ s.heap.objs.size := Nat.ne_of_lt F.ns.lt
  refine fun R kR => kR _ _ items.size (fun i v => i < items.size ∧ items[i]? = some v) _ m news J rfl W.bound ?_ (next_is_new F) ⟨⟨_, Heap.get?_push_size _ rfl, rfl, rfl⟩, hl.at fun o e => Heap.get?_push_of_some _ e⟩ (fun i h st => ?_) (F.push _) (fun p hp => ⟨Heap.get?_push_of_some _ (N p hp).1, (N p hp).2⟩) (fun p hp => Nat.ne_of_lt (Heap.lt_size (N p hp).1)) (fun i s' v Q' st hQ' => letGo_listiter st.1 hQ') hj ?_ ?_
  · intro hm
    rcases List.mem_cons.mp hm with e | hm
    · exact hLs e
    · exact hlL (List.mem_singleton.mp hm).symm
  · obtain ⟨o, ho, hc, _⟩ := st.1; exact ⟨o, ho, isIt_of hc rfl⟩
  · rintro i v m₁ nx h tk own oI hi ⟨_, hP⟩ st hJ hI ho hit hnI F' N'
    exact turn i v m₁ nx h tk own _ oI hi hP hJ hI (fun p hp => by simpa using ho p hp) hit hnI F' N' st.2
  · exact fun m₁ nx h tk hJ F' N' => done m₁ nx h tk hJ F' N'
end
section
variable {prog : Program} {w : World} {A : Around} {s : Shared} {env : Env} {h₀ : Heap} {x : Str} {px : Pos} {body : List Stmt} {Q : Flow → Shared → Prop}
theorem iterM_range {r : Addr} {a₀ b₀ : Int} {t₀ u₀ v₀ : Tok} {n : Nat} {m : Str → Option Value} {news : List (Addr × Obj)} (J : Nat → (Str → Option Value) → List (Addr × Obj) → Prop)
    (hh : A.handled = none) (hr : IsRange s.heap r a₀ b₀ 1 t₀ u₀ v₀) (hsmall : Builtin.Range.small a₀ b₀ 1 = true) (hn : Builtin.Range.rangeSize a₀ b₀ 1 = (n : Int))
    (F : Fr h₀ env.locals s.heap m) (N : News h₀ env.locals s.heap news) (hj : J 0 m news)
    (turn : ∀ i t m₁ nx h tk own I oI, i < n → J i m₁ nx → (I, oI) ∈ own → (∀ p ∈ own, p.1 = I) → isIt oI = true → (∀ p ∈ nx, p.1 ≠ I) → Fr h₀ env.locals h m₁ → News h₀ env.locals h (nx ++ own) →
      wpAny (model prog w) A (assign (.Name x px) env (.int (a₀ + (i : Int)) t)) (fun _ s₃ => wpAny (model prog w) A (execs body env) (LPost h₀ env.locals I (J (i + 1)) own { s with heap := h, toks := tk } Q) NoE s₃) NoE { s with heap := h, toks := tk })
    (done : ∀ m₁ nx h tk, J n m₁ nx → Fr h₀ env.locals h m₁ → News h₀ env.locals h nx → Q .next { s with heap := h, toks := tk }) :
    wpAny (model prog w) A (pyIter (.ref r)) (fun it s₂ => LoopM prog w A h₀ env (.Name x px) body Q it s₂) NoE s := by
  refine wpAny_pyIter_range hr hsmall ?_
  have W := Walks.range (prog := prog) (w := w) hh s.heap.objs.size a₀ 1 n
  have hLs : env.locals ≠ s.heap.objs.size := Nat.ne_of_lt F.ns.lt
  refine fun R kR => kR _ _ n (fun i v => i < n ∧ ∃ t, v = .int (a₀ + i * 1) t) _ m news J rfl W.bound ?_ (next_is_new F) (by show IsRangeIter _ _ _ _ _; rw [hn]; simpa using Heap.get?_push_size _ rfl) (fun i h st => ⟨_, st, rfl⟩) (F.push _) (fun p hp => ⟨Heap.get?_push_of_some _ (N p hp).1, (N p hp).2⟩) (fun p hp => Nat.ne_of_lt (Heap.lt_size (N p hp).1)) (fun i s' v Q' st hQ' => wpAny_pure hQ') hj ?_ ?_
  · exact fun hm => hLs (List.mem_singleton.mp hm)
  · rintro i v m₁ nx h tk own oI hi ⟨_, t, rfl⟩ st hJ hI ho hit hnI F' N'
    have e1 : a₀ + (i : Int) * 1 = a₀ + (i : Int) := by (first | lia | omega)
    rw [e1]
    exact turn i t m₁ nx h tk own _ oI hi hJ hI (fun p hp => by simpa using ho p hp) hit hnI F' N'
  · exact fun m₁ nx h tk hJ F' N' => done m₁ nx h tk hJ F' N'
theorem iterM_str {y : Str} {ty : Tok} {m : Str → Option Value} {news : List (Addr × Obj)} (J : Nat → (Str → Option Value) → List (Addr × Obj) → Prop)
    (hh : A.handled = none) (F : Fr h₀ env.locals s.heap m) (N : News h₀ env.locals s.heap news) (hj : J 0 m news)
    (turn : ∀ i c t m₁ nx h tk own I oI, i < y.cps.size → y.cps[i]? = some c → J i m₁ nx → (I, oI) ∈ own → (∀ p ∈ own, p.1 = I) → isIt oI = true → (∀ p ∈ nx, p.1 ≠ I) → Fr h₀ env.locals h m₁ → News h₀ env.locals h (nx ++ own) →
      wpAny (model prog w) A (assign (.Name x px) env (.str ⟨#[c]⟩ t)) (fun _ s₃ => wpAny (model prog w) A (execs body env) (LPost h₀ env.locals I (J (i + 1)) own { s with heap := h, toks := tk } Q) NoE s₃) NoE { s with heap := h, toks := tk })
    (done : ∀ m₁ nx h tk, J y.cps.size m₁ nx → Fr h₀ env.locals h m₁ → News h₀ env.locals h nx → Q .next { s with heap := h, toks := tk }) :
    wpAny (model prog w) A (pyIter (.str y ty)) (fun it s₂ => LoopM prog w A h₀ env (.Name x px) body Q it s₂) NoE s := by
  have hLs : env.locals ≠ s.heap.objs.size := Nat.ne_of_lt F.ns.lt
  have go : ∀ (o : Obj) (St : Nat → Heap → Prop), Walks prog w A s.heap.objs.size [s.heap.objs.size] [s.heap.objs.size] y.cps.size (SignAt y) St → St 0 (s.heap.push o) → (∀ i h, St i h → ∃ o, h.get? s.heap.objs.size = some o ∧ isIt o = true) →
      LoopM prog w A h₀ env (.Name x px) body Q (.ref s.heap.objs.size) { s with heap := s.heap.push o } := by
    intro o St W st hSt
    refine fun R kR => kR _ _ y.cps.size (fun i v => i < y.cps.size ∧ SignAt y i v) _ m news J rfl W.bound ?_ (next_is_new F) st hSt (F.push _) (fun p hp => ⟨Heap.get?_push_of_some _ (N p hp).1, (N p hp).2⟩) (fun p hp => Nat.ne_of_lt (Heap.lt_size (N p hp).1)) (fun i s' v Q' st hQ' => wpAny_pure hQ') hj ?_ ?_
    · exact fun hm => hLs (List.mem_singleton.mp hm)
    · rintro i v m₁ nx h tk own oI hi ⟨_, c, t, hc, rfl⟩ st hJ hI ho hit hnI F' N'
      exact turn i c t m₁ nx h tk own _ oI hi hc hJ hI (fun p hp => by simpa using ho p hp) hit hnI F' N'
    · exact fun m₁ nx h tk hJ F' N' => done m₁ nx h tk hJ F' N'
  cases ha : y.cps.all (· < 128)
  · exact wpAny_pyIter_wide ha (go _ _ (Walks.strWide hh _ y ty) ⟨_, Heap.get?_push_size _ rfl, rfl, rfl⟩ fun i h st => let ⟨o, ho, hc, _⟩ := st; ⟨o, ho, isIt_of hc rfl⟩)
  · exact wpAny_pyIter_ascii ha (go _ _ (Walks.strAscii hh _ y ty) ⟨_, Heap.get?_push_size _ rfl, rfl, rfl⟩ fun i h st => let ⟨o, ho, hc, _⟩ := st; ⟨o, ho, isIt_of hc rfl⟩)
end
/-- a post that is held back: the walk carries one sign in its place -/
noncomputable def Post (P : Flow → Shared → Prop) (f : Flow) (s : Shared) : Prop := P f s
noncomputable def PostS (P : Shared → Prop) (s : Shared) : Prop := P s
theorem post_use {P Q : Flow → Shared → Prop} {f : Flow} {s : Shared} (hP : ∀ f s', Q f s' → Post P f s') (h : Q f s) : Post P f s := hP f s h
noncomputable def PostB (P : Bool → Shared → Prop) (b : Bool) (s : Shared) : Prop := P b s
theorem postB_use {P Q : Bool → Shared → Prop} {b : Bool} {s : Shared} (hP : ∀ b s', Q b s' → PostB P b s') (h : Q b s) : PostB P b s := hP b s h
theorem postS_use {P Q : Shared → Prop} {s : Shared} (hP : ∀ s', Q s' → PostS P s') (h : Q s) : PostS P s := hP s h
section
variable {M : Model} {A : Around} {s : Shared}
/-- the parts of the state that stay -/
noncomputable def Sts (_g : Array GenState) (_d : Drawn) (_o : OsState) : Prop := True
theorem norm {st : Stmt} {rest : List Stmt} {env : Env} {Q : Flow → Shared → Prop} {E : Value → Shared → Prop} {g : Array GenState} {d : Drawn} {o : OsState} {hp h₀ : Heap} {L : Addr} {m : Str → Option Value} (_S : Sts g d o) (_F : Fr h₀ L hp m)
    (eh : s.heap = hp) (eg : s.gens = g) (ed : s.drawn = d) (eo : s.os = o)
    (h : ∀ k, wpAny M A (exec st env) (fun f s' => match f with | .next => wpAny M A (execs rest env) Q E s' | f => Q f s') E ⟨hp, g, d, k, o⟩) : wpAny M A (execs (st :: rest) env) Q E s := by
  subst eh eg ed eo
  exact wpAny_execs_cons (h s.toks)
theorem opq {t : Sem Flow} {Q : Flow → Shared → Prop} (h : ∀ P : Flow → Shared → Prop, (∀ f s', Q f s' → Post P f s') → wpAny M A t (Post P) NoE s) : wpAny M A t Q NoE s := h Q fun _ _ h => h
theorem opq2 {t : Sem Unit} {b : Sem Flow} {Q : Flow → Shared → Prop} (h : ∀ P : Flow → Shared → Prop, (∀ f s', Q f s' → Post P f s') → wpAny M A t (fun _ s₃ => wpAny M A b (Post P) NoE s₃) NoE s) :
    wpAny M A t (fun _ s₃ => wpAny M A b Q NoE s₃) NoE s := h Q fun _ _ h => h
theorem opqb {t : Sem Bool} {Q : Bool → Shared → Prop} (h : ∀ P : Bool → Shared → Prop, (∀ b s', Q b s' → PostB P b s') → wpAny M A t (PostB P) NoE s) : wpAny M A t Q NoE s := h Q fun _ _ h => h
theorem opqw {t : Sem Bool} {b : Sem Flow} {Q : Flow → Shared → Prop} {W : Shared → Prop} (h : ∀ (P : Flow → Shared → Prop) (V : Shared → Prop), (∀ f s', Q f s' → Post P f s') → (∀ s', W s' → PostS V s') →
      wpAny M A t (fun x s₂ => if x = true then wpAny M A b (Post P) NoE s₂ else PostS V s₂) NoE s) : wpAny M A t (fun x s₂ => if x = true then wpAny M A b Q NoE s₂ else W s₂) NoE s := h Q W (fun _ _ h => h) fun _ h => h
end
end
section
open PySem PySem.W PyProof.Rows PySem.Calls
set_option Elab.async false
set_option maxRecDepth 100000
/-- the names that the laid-aside top leaves open -/
noncomputable abbrev LQ : List PySem.Str := looseW q loose ++ (recsOf q).map (·.name) ++ (litsOf q).map (·.1) ++ (clssOf q (looseW q loose)).map (·.name)
/-- n turns, numbered from zero -/
noncomputable def loop {α : Type} (f : Nat → α → α) : Nat → α → α
  | 0, p => p
  | n + 1, p => f n (loop f n p)
/-- how far two lists run alike -/
noncomputable def lce : List Nat → List Nat → Nat
  | x :: xs, y :: ys => if x = y then lce xs ys + 1 else 0
  | _, _ => 0
noncomputable def cut (a : List Nat) (lo hi : Nat) : List Nat := (a.take hi).drop lo
noncomputable def mx3 (p q : Int × Int × Int) : Int × Int × Int := if gt3 q p then q else p
noncomputable def cand (a b : List Nat) (ahi bhi i j : Nat) : Int × Int × Int := ((lce (cut a i ahi) (cut b j bhi) : Nat), 0 - (i : Int), 0 - (j : Int))
noncomputable def bestF (a b : List Nat) (alo ahi blo bhi : Nat) : Int × Int × Int :=
  loop (fun i p => loop (fun j p => mx3 p (cand a b ahi bhi (alo + i) (blo + j))) (bhi - blo) p) (ahi - alo) (0, 0 - (alo : Int), 0 - (blo : Int))
theorem lce_lt : ∀ (a b : List Nat) (k : Nat), k ≤ lce a b → (k < lce a b ↔ (k < a.length ∧ k < b.length ∧ a.getD k 0 = b.getD k 0))
  | [], b, k, h => by simp [lce] at h ⊢
  | x :: xs, [], k, h => by simp [lce] at h ⊢
  | x :: xs, y :: ys, k, h => by
    by_cases e : x = y
    · subst e
      simp only [lce, if_true] at h ⊢
      cases k with
      | zero => simp
      | succ k =>
        have := lce_lt xs ys k (by (first | lia | omega))
        simp only [List.length_cons, List.getD_cons_succ]
        (first | lia | omega)
    · simp only [lce, if_neg e, Nat.le_zero] at h ⊢
      subst h
      simp [e]
theorem cut_length (a : List Nat) (lo hi : Nat) (h : hi ≤ a.length) : (cut a lo hi).length = hi - lo := by
  simp only [cut, List.length_drop, List.length_take]; (first | lia | omega)
theorem cut_getD (a : List Nat) (lo hi k : Nat) (h : lo + k < hi) : (cut a lo hi).getD k 0 = a.getD (lo + k) 0 := by
  simp only [cut, List.getD_eq_getElem?_getD, List.getElem?_drop, List.getElem?_take, if_pos h]
theorem lcw_lt {a b : List Nat} {i ahi j bhi k : Nat} (ha : ahi ≤ a.length) (hb : bhi ≤ b.length) (h : k ≤ lce (cut a i ahi) (cut b j bhi)) :
    k < lce (cut a i ahi) (cut b j bhi) ↔ (i + k < ahi ∧ j + k < bhi ∧ a.getD (i + k) 0 = b.getD (j + k) 0) := by
  rw [lce_lt _ _ k h, cut_length _ _ _ ha, cut_length _ _ _ hb]
  constructor
  · rintro ⟨h1, h2, h3⟩
    rw [cut_getD _ _ _ _ (by (first | lia | omega)), cut_getD _ _ _ _ (by (first | lia | omega))] at h3
    exact ⟨by (first | lia | omega), by (first | lia | omega), h3⟩
  · rintro ⟨h1, h2, h3⟩
    rw [cut_getD _ _ _ _ h1, cut_getD _ _ _ _ h2]
    exact ⟨by (first | lia | omega), by (first | lia | omega), h3⟩
noncomputable abbrev tup3 (x y z : Int) (t1 t2 t3 : Tok) : Obj := { cls := .type "tuple", data := .seq #[.int x t1, .int y t2, .int z t3] }
theorem rsize {a b : Nat} : Builtin.Range.rangeSize (a : Int) (b : Int) 1 = ((b - a : Nat) : Int) := by
  unfold Builtin.Range.rangeSize
  simp only [Int.ediv_one]
  split <;> split <;> (first | lia | omega)
theorem rsmall {a b : Nat} (ha : a ≤ 100) (hb : b ≤ 100) : Builtin.Range.small (a : Int) (b : Int) 1 = true := by
  unfold Builtin.Range.small Builtin.Range.rangeFitsLong
  rw [rsize]
  simp
  (first | lia | omega)
noncomputable abbrev tupP (p : Int × Int × Int) (t1 t2 t3 : Tok) : Obj := tup3 p.1 p.2.1 p.2.2 t1 t2 t3
noncomputable def rowF (a b : List Nat) (alo ahi blo bhi : Nat) (i j : Nat) (p : Int × Int × Int) : Int × Int × Int := loop (fun j p => mx3 p (cand a b ahi bhi (alo + i) (blo + j))) j p
noncomputable def colF (a b : List Nat) (alo ahi blo bhi : Nat) (i : Nat) : Int × Int × Int := loop (fun i p => rowF a b alo ahi blo bhi i (bhi - blo) p) i (0, 0 - (alo : Int), 0 - (blo : Int))
theorem bestF_eq (a b : List Nat) (alo ahi blo bhi : Nat) : bestF a b alo ahi blo bhi = colF a b alo ahi blo bhi (ahi - alo) := rfl
@[reducible] noncomputable def Kns (m : Str → Option Value) : List (String × Value) → Prop
  | [] => True
  | (x, v) :: r => m (Str.ofString x) = some v ∧ Kns m r
@[reducible] noncomputable def kn (m : Str → Option Value) : List (String × Value) → Str → Option Value
  | [] => m
  | (x, v) :: r => fun y => if y = Str.ofString x then some v else kn m r y
theorem kn_eq {m : Str → Option Value} : ∀ {l : List (String × Value)}, Kns m l → kn m l = m
  | [], _ => rfl
  | (x, v) :: r, h => by
    funext y
    show (if y = Str.ofString x then some v else kn m r y) = m y
    rw [kn_eq h.2]
    by_cases hy : y = Str.ofString x
    · subst hy; simp [h.1]
    · simp [hy]
theorem Fr_kn {h₀ h : Heap} {L : Addr} {m : Str → Option Value} {l : List (String × Value)} (F : Fr h₀ L h m) (e : Kns m l) : Fr h₀ L h (kn m l) := by
  rw [kn_eq e]; exact F
noncomputable def chr (x : Str) (i : Nat) : Str := ⟨#[x.cps.toList.getD i 0]⟩
theorem item_chr {x : Str} {i : Int} (h0 : 0 ≤ i) (h1 : i < (x.cps.size : Int)) : Txt.item x i = chr x i.toNat := by
  unfold Txt.item Txt.charAt chr seqIndex? Str.length
  have e : ¬ i < 0 := by (first | lia | omega)
  have e2 : i.toNat < x.cps.size := by (first | lia | omega)
  simp [e, e2, h0, h1]
theorem chr_eq {x y : Str} {i j : Nat} : (chr x i = chr y j) = (x.cps.toList.getD i 0 = y.cps.toList.getD j 0) := by
  simp [chr]
theorem chr_beq {x y : Str} {i j : Int} {k l : Nat} (hi : i = (k : Int)) (hj : j = (l : Int)) : (chr x i.toNat == chr y j.toNat) = decide (x.cps.toList.getD k 0 = y.cps.toList.getD l 0) := by
  subst hi hj
  have : ∀ (a b : Str), (a == b) = decide (a = b) := fun a b => rfl
  rw [this, Int.toNat_natCast, Int.toNat_natCast]
  simp only [chr_eq]
theorem Fr_grow {h₀ h h' : Heap} {L : Addr} {m : Str → Option Value} (F : Fr h₀ L h m) (k : ∀ d o, h.get? d = some o → h'.get? d = some o) : Fr h₀ L h' m :=
  ⟨F.ns.at' fun o e => k _ o e, fun b o e => k b o (F.keep b o e), F.above⟩
theorem News_grow {h₀ h h' : Heap} {L : Addr} {news : List (Addr × Obj)} (N : News h₀ L h news) (k : ∀ d o, h.get? d = some o → h'.get? d = some o) : News h₀ L h' news :=
  fun p hp => ⟨k _ _ (N p hp).1, (N p hp).2⟩
theorem News_sub {h₀ h : Heap} {L : Addr} {news news' : List (Addr × Obj)} (N : News h₀ L h news) (k : ∀ p ∈ news', p ∈ news) : News h₀ L h news' := fun p hp => N p (k p hp)
theorem sub_head {x : Addr × Obj} {a b : List (Addr × Obj)} (h : ∀ p ∈ a, p ∈ x :: b) : ∀ p ∈ x :: a, p ∈ x :: b := fun p hp => (List.mem_cons.mp hp).elim (fun e => e ▸ .head _) (h p)
theorem sub_cons {x : Addr × Obj} {a b : List (Addr × Obj)} (h : x ∈ b) (k : ∀ p ∈ a, p ∈ b) : ∀ p ∈ x :: a, p ∈ b := List.forall_mem_cons.mpr ⟨h, k⟩
theorem sub_nil {b : List (Addr × Obj)} : ∀ p ∈ ([] : List (Addr × Obj)), p ∈ b := fun _ hp => nomatch hp
theorem sub_app {a a' b : List (Addr × Obj)} (h : ∀ p ∈ a, p ∈ b) (k : ∀ p ∈ a', p ∈ b) : ∀ p ∈ a ++ a', p ∈ b := fun p hp => (List.mem_append.mp hp).elim (h p) (k p)
/-- values that stand for things: O p o says that the object o stands for p -/
noncomputable def TX {α : Type} (O : α → Obj → Prop) (nw : List (Addr × Obj)) (vs : List Value) (ps : List α) : Prop :=
  vs.length = ps.length ∧ ∀ (i : Nat) (v : Value), vs[i]? = some v → ∃ p c o, ps[i]? = some p ∧ v = .ref c ∧ (c, o) ∈ nw ∧ O p o
section
variable {α : Type} {O : α → Obj → Prop} {nw nw' : List (Addr × Obj)} {vs vs' : List Value} {ps ps' : List α}
theorem TX.map (k : ∀ c o p, (c, o) ∈ nw → O p o → (c, o) ∈ nw') (h : TX O nw vs ps) : TX O nw' vs ps := ⟨h.1, fun i v e => by
  obtain ⟨p, c, o, a, b, m, q⟩ := h.2 i v e
  exact ⟨p, c, o, a, b, k _ _ _ m q, q⟩⟩
theorem TX.nil : TX O nw [] [] := ⟨rfl, fun i v e => by cases e⟩
theorem TX.one {c : Addr} {o : Obj} {p : α} (m : (c, o) ∈ nw) (q : O p o) : TX O nw [.ref c] [p] := ⟨rfl, fun i v e => by
  cases i with
  | zero => cases e; exact ⟨p, c, o, rfl, rfl, m, q⟩
  | succ i => cases e⟩
theorem TX.append (h : TX O nw vs ps) (h' : TX O nw vs' ps') : TX O nw (vs ++ vs') (ps ++ ps') := by
  refine ⟨by rw [List.length_append, List.length_append, h.1, h'.1], fun i v e => ?_⟩
  by_cases hl : i < ps.length
  · rw [List.getElem?_append_left (h.1 ▸ hl)] at e
    rw [List.getElem?_append_left hl]
    exact h.2 i v e
  · rw [List.getElem?_append_right (h.1 ▸ Nat.le_of_not_lt hl), h.1] at e
    rw [List.getElem?_append_right (Nat.le_of_not_lt hl)]
    exact h'.2 _ v e
theorem TX.take (k : Nat) (h : TX O nw vs ps) : TX O nw (vs.take k) (ps.take k) := by
  refine ⟨by rw [List.length_take, List.length_take, h.1], fun i v e => ?_⟩
  rw [List.getElem?_take] at e ⊢
  by_cases hl : i < k
  · rw [if_pos hl] at e ⊢
    exact h.2 i v e
  · rw [if_neg hl] at e
    cases e
theorem TX.cons {v : Value} {p : α} (h : TX O nw (v :: vs) (p :: ps)) : (∃ c o, v = .ref c ∧ (c, o) ∈ nw ∧ O p o) ∧ TX O nw vs ps := by
  obtain ⟨p', c, o, a, b⟩ := h.2 0 v rfl
  cases a
  exact ⟨⟨c, o, b⟩, Nat.succ.inj h.1, fun i v e => h.2 (i + 1) v e⟩
theorem TX.snoc {p : α} (h : TX O nw vs (ps ++ [p])) : ∃ vs' c o, vs = vs' ++ [.ref c] ∧ TX O nw vs' ps ∧ (c, o) ∈ nw ∧ O p o := by
  have hl := h.1
  rw [List.length_append] at hl
  rcases List.eq_nil_or_concat vs with rfl | ⟨vs', v, rfl⟩
  · cases hl
  · rw [List.concat_eq_append] at h hl ⊢
    rw [List.length_append] at hl
    have hl2 : vs'.length = ps.length := Nat.succ.inj hl
    clear hl
    obtain ⟨p', c, o, a, rfl, b⟩ := h.2 vs'.length v List.getElem?_concat_length
    rw [hl2, List.getElem?_concat_length] at a
    cases a
    refine ⟨vs', c, o, rfl, ⟨hl2, fun i w e => ?_⟩, b⟩
    have hi := (List.getElem?_eq_some_iff.mp e).1
    have := h.2 i w (by rw [List.getElem?_append_left hi]; exact e)
    rwa [List.getElem?_append_left (hl2 ▸ hi)] at this
theorem TX.reads {h : Heap} {f : α → PyData} (k : ∀ c o p, (c, o) ∈ nw → O p o → Reads h (.ref c) (f p) []) : ∀ {vs : List Value} {ps : List α}, TX O nw vs ps → ReadsAll h vs (ps.map f) [] := by
  intro vs
  induction vs with
  | nil =>
    intro ps t
    cases ps with
    | nil => exact .nil
    | cons p ps => cases t.1
  | cons v vs ih =>
    intro ps t
    cases ps with
    | nil => cases t.1
    | cons p ps =>
      obtain ⟨⟨c, o, rfl, m, q⟩, r⟩ := t.cons
      exact readsAll_cons_val (k c o p m q) (ih r)
end
theorem isT3 {h₀ h : Heap} {L : Addr} {news : List (Addr × Obj)} {c : Addr} {p : Int × Int × Int} {u1 u2 u3 : Tok} (N : News h₀ L h news) (hc : (c, tupP p u1 u2 u3) ∈ news) : IsT3 h c p :=
  ⟨_, u1, u2, u3, 0, (N _ hc).1, rfl, rfl⟩
section
variable {prog : Program} {w : World} {A : Around} {E : Value → Shared → Prop} {s : Shared} {h₀ : Heap} {L : Addr} {m : Str → Option Value}
theorem max_N {news : List (Addr × Obj)} {c d : Addr} (p q : Int × Int × Int) {u1 u2 u3 v1 v2 v3 : Tok} {Q : Value → Shared → Prop} (hh : A.handled = none) (hu : A.units + 1 < cLine) (F : Fr h₀ L s.heap m) (N : News h₀ L s.heap news)
    (hc : (c, tupP p u1 u2 u3) ∈ news) (hd : (d, tupP q v1 v2 v3) ∈ news)
    (h : ∀ r w1 w2 w3 h' tk, Fr h₀ L h' m → News h₀ L h' ((r, tupP (mx3 p q) w1 w2 w3) :: news) → Q (.ref r) { s with heap := h', toks := tk }) :
    wpAny (model prog w) A (call (.builtin "max") [.ref c, .ref d]) Q E s := by
  refine max_tup hh hu (isT3 N hc) (isT3 N hd) fun h' tk k => ?_
  have F' := Fr_grow F k
  have N' := News_grow N k
  unfold mx3 at h
  cases hb : gt3 q p with
  | true =>
    simp only [hb, if_true] at h ⊢
    exact h d v1 v2 v3 h' tk F' fun p hp => (List.mem_cons.mp hp).elim (fun e => e ▸ N' _ hd) (N' p)
  | false =>
    simp only [hb, Bool.false_eq_true, if_false] at h ⊢
    exact h c u1 u2 u3 h' tk F' fun p hp => (List.mem_cons.mp hp).elim (fun e => e ▸ N' _ hc) (N' p)
end
section
variable {prog : Program} {w : World} {A : Around} {E : Value → Shared → Prop} {s : Shared} {value slice : PySem.Expr} {x : PySem.Str} {t u : Tok} {i : Int} {Q : Value → Shared → Prop}
theorem str_idx (h0 : 0 ≤ i) (h1 : i < (x.cps.size : Int)) (hn : x.cps.size ≤ 100) (h : Q (.str (chr x i.toNat) s.toks) { s with toks := s.toks + 1 })
    (hs : subscripted slice false (.str x t) (.int i u) = operate [.str x t, .int i u] (getItem (.str x t) (.int i u)) := by with_unfolding_all rfl)
    (ht : ∀ r, letTemporaryGo value (.str x t) r = pure () := by intro _; with_unfolding_all rfl) :
    wpAny (model prog w) A (subscriptTail value slice (.str x t) (.int i u)) Q E s := by
  have e : x.length = x.cps.size := rfl
  refine item_str (fitsSsize_of (N := 9223372036854775808) (by (first | lia | omega)) (by (first | lia | omega)) (Int.le_refl _)) (by (first | lia | omega)) (by (first | lia | omega)) (fun _ => ?_) hs ht
  rw [item_chr h0 h1]; exact h
end
section
variable {prog : Program} {w : World} {A : Around} {Q : Flow → Shared → Prop} {s : Shared} {env : Env} {h₀ : Heap} {L : Addr}
noncomputable def WEnd (h₀ : Heap) (L : Addr) (P : (Str → Option Value) → List (Addr × Obj) → Prop) (s s₂ : Shared) : Prop := ∃ h' tk' m' nx', s₂ = { s with heap := h', toks := tk' } ∧ Fr h₀ L h' m' ∧ News h₀ L h' nx' ∧ P m' nx'
theorem WEnd_mk {P : (Str → Option Value) → List (Addr × Obj) → Prop} {h' : Heap} {tk' : Nat} {m' : Str → Option Value} {nx' news' : List (Addr × Obj)} (F : Fr h₀ L h' m') (N : News h₀ L h' news') (hP : P m' nx') (hs : ∀ p ∈ nx', p ∈ news') :
    WEnd h₀ L P s { s with heap := h', toks := tk' } := ⟨h', tk', m', nx', rfl, F, fun p hp => N p (hs p hp), hP⟩
theorem WStep_next {J : Nat → (Str → Option Value) → List (Addr × Obj) → Prop} {h' : Heap} {tk' n : Nat} {m' : Str → Option Value} {nx' news' : List (Addr × Obj)} (n' : Nat) (F : Fr h₀ L h' m') (N : News h₀ L h' news') (hn : n' < n) (hJ : J n' m' nx') (hs : ∀ p ∈ nx', p ∈ news') :
    WhileStep2 h₀ L s J Q n .next { s with heap := h', toks := tk' } := ⟨h', tk', m', nx', n', rfl, F, fun p hp => N p (hs p hp), hn, hJ⟩
theorem while_M {test : Expr} {body : List Stmt} {pos : Pos} {m : Str → Option Value} {news : List (Addr × Obj)} (J : Nat → (Str → Option Value) → List (Addr × Obj) → Prop) (P : (Str → Option Value) → List (Addr × Obj) → Prop) (n₀ : Nat)
    (F : Fr h₀ L s.heap m) (N : News h₀ L s.heap news) (hJ : J n₀ m news)
    (turn : ∀ n m₁ nx h tk, J n m₁ nx → Fr h₀ L h m₁ → News h₀ L h nx →
      wpAny (model prog w) A (isTrue test env (eval test env)) (fun b s₂ =>
        if b = true then wpAny (model prog w) A (execs body env) (WhileStep2 h₀ L s J Q n) NoE s₂ else WEnd h₀ L P s s₂) NoE { s with heap := h, toks := tk })
    (done : ∀ m₁ nx h tk, P m₁ nx → Fr h₀ L h m₁ → News h₀ L h nx → Q .next { s with heap := h, toks := tk }) :
    wpAny (model prog w) A (exec (.While test body [] pos) env) Q NoE s := by
  refine While_inv2 J F N hJ (fun n m₁ nx h tk F₁ N₁ hj => ?_) PassesOwn.never
  refine wpAny_mono (turn n m₁ nx h tk hj F₁ N₁) (fun b s₂ hb => ?_) fun _ _ h => h
  cases b with
  | true => exact hb
  | false =>
    simp only [Bool.false_eq_true, if_false] at hb ⊢
    obtain ⟨h', tk', m', nx', rfl, F', N', hP⟩ := hb
    exact done m' nx' h' tk' hP F' N'
end
/- filters: printed by tools/heads.py -/
section
open PySem PySem.W PyProof.Rows PySem.Calls
theorem zq1 {M : Model} {A : Around} {E : Value → Shared → Prop} {s : Shared} {Q} {x1} (h : wpAny M A (pyIter x1) Q E s) : wpAny M A (pyIter x1) Q E s := h
theorem zq2 {M : Model} {A : Around} {E : Value → Shared → Prop} {s : Shared} {Q} {x1 x2 x3 x4} (h : wpAny M A (subscriptTail x1 x2 x3 x4) Q E s) : wpAny M A (subscriptTail x1 x2 x3 x4) Q E s := h
theorem zq3 {M : Model} {A : Around} {E : Value → Shared → Prop} {s : Shared} {Q} {x1 x2} (h : wpAny M A (call x1 x2) Q E s) : wpAny M A (call x1 x2) Q E s := h
theorem zq4 {M : Model} {A : Around} {E : Value → Shared → Prop} {s : Shared} {Q} {x1 x2 x3} (h : wpAny M A (compareOp x1 x2 x3) Q E s) : wpAny M A (compareOp x1 x2 x3) Q E s := h
theorem zq5 {M : Model} {A : Around} {E : Value → Shared → Prop} {s : Shared} {Q} {x1 x2} (h : wpAny M A (eval x1 x2) Q E s) : wpAny M A (eval x1 x2) Q E s := h
theorem zq6 {M : Model} {A : Around} {E : Value → Shared → Prop} {s : Shared} {Q} {x1 x2} (h : wpAny M A (exec x1 x2) Q E s) : wpAny M A (exec x1 x2) Q E s := h
theorem zq7 {M : Model} {A : Around} {E : Value → Shared → Prop} {s : Shared} {Q} {x1 x2 x3 x4 x5 x6} (h : wpAny M A (exec (Stmt.For x1 x2 x3 x4 x5) x6) Q E s) : wpAny M A (exec (Stmt.For x1 x2 x3 x4 x5) x6) Q E s := h
theorem zq8 {M : Model} {A : Around} {E : Value → Shared → Prop} {s : Shared} {Q} {x1 x2 x3 x4 x5} (h : wpAny M A (exec (Stmt.While x1 x2 x3 x4) x5) Q E s) : wpAny M A (exec (Stmt.While x1 x2 x3 x4) x5) Q E s := h
theorem zq9 {M : Model} {A : Around} {E : Value → Shared → Prop} {s : Shared} {Q} {x1} (h : wpAny M A (call (Value.type "enumerate") x1) Q E s) : wpAny M A (call (Value.type "enumerate") x1) Q E s := h
theorem zq10 {M : Model} {A : Around} {E : Value → Shared → Prop} {s : Shared} {Q} {x1} (h : wpAny M A (call (Value.builtin "dict.setdefault") x1) Q E s) : wpAny M A (call (Value.builtin "dict.setdefault") x1) Q E s := h
theorem zq11 {M : Model} {A : Around} {E : Value → Shared → Prop} {s : Shared} {Q} {x1} (h : wpAny M A (call (Value.builtin "list.sort") x1) Q E s) : wpAny M A (call (Value.builtin "list.sort") x1) Q E s := h
theorem zq12 {M : Model} {A : Around} {E : Value → Shared → Prop} {s : Shared} {Q} {x1} (h : wpAny M A (call (Value.type "map") x1) Q E s) : wpAny M A (call (Value.type "map") x1) Q E s := h
theorem zq13 {M : Model} {A : Around} {E : Value → Shared → Prop} {s : Shared} {Q} {x1} (h : wpAny M A (call (Value.type "list") x1) Q E s) : wpAny M A (call (Value.type "list") x1) Q E s := h
theorem zq14 {M : Model} {A : Around} {E : Value → Shared → Prop} {s : Shared} {Q} {x1} (h : wpAny M A (call (Value.builtin "sum") x1) Q E s) : wpAny M A (call (Value.builtin "sum") x1) Q E s := h
theorem zq15 {M : Model} {A : Around} {E : Value → Shared → Prop} {s : Shared} {Q} {x1} (h : wpAny M A (call (Value.builtin "str.join") x1) Q E s) : wpAny M A (call (Value.builtin "str.join") x1) Q E s := h
theorem zq16 {M : Model} {A : Around} {E : Value → Shared → Prop} {s : Shared} {Q} {x1} (h : wpAny M A (call (Value.type "tuple") x1) Q E s) : wpAny M A (call (Value.type "tuple") x1) Q E s := h
theorem zq17 {M : Model} {A : Around} {E : Value → Shared → Prop} {s : Shared} {Q} {x1} (h : wpAny M A (call (Value.builtin "dict.get") x1) Q E s) : wpAny M A (call (Value.builtin "dict.get") x1) Q E s := h
theorem zq18 {M : Model} {A : Around} {E : Value → Shared → Prop} {s : Shared} {Q} {x1 x2 x3} (h : wpAny M A (call (Value.ref x1) [x2, x3]) Q E s) : wpAny M A (call (Value.ref x1) [x2, x3]) Q E s := h
theorem zq19 {M : Model} {A : Around} {E : Value → Shared → Prop} {s : Shared} {Q} {x1 x2 x3} (h : wpAny M A (setItem x1 x2 x3) Q E s) : wpAny M A (setItem x1 x2 x3) Q E s := h
theorem zq20 {M : Model} {A : Around} {E : Value → Shared → Prop} {s : Shared} {Q} {x1 x2 x3 x4 x5 x6 x7} (h : wpAny M A (exec (Stmt.If (PySem.Expr.BoolOp x1 x2 x3) x4 x5 x6) x7) Q E s) : wpAny M A (exec (Stmt.If (PySem.Expr.BoolOp x1 x2 x3) x4 x5 x6) x7) Q E s := h
theorem zq21 {M : Model} {A : Around} {E : Value → Shared → Prop} {s : Shared} {Q} {x1} (h : wpAny M A (truthy (Value.ref x1)) Q E s) : wpAny M A (truthy (Value.ref x1)) Q E s := h
theorem zq22 {M : Model} {A : Around} {E : Value → Shared → Prop} {s : Shared} {Q} {x1} (h : wpAny M A (call (Value.ref 196) x1) Q E s) : wpAny M A (call (Value.ref 196) x1) Q E s := h
theorem zq23 {M : Model} {A : Around} {E : Value → Shared → Prop} {s : Shared} {Q} {x1 x2 x3} (h : wpAny M A (execs (x1 ++ x2) x3) Q E s) : wpAny M A (execs (x1 ++ x2) x3) Q E s := h
theorem zq24 {M : Model} {A : Around} {E : Value → Shared → Prop} {s : Shared} {Q} {x1 x2 x3 x4 x5} (h : wpAny M A (eval (PySem.Expr.GeneratorExp x1 x2 x3 x4) x5) Q E s) : wpAny M A (eval (PySem.Expr.GeneratorExp x1 x2 x3 x4) x5) Q E s := h
theorem zq25 {M : Model} {A : Around} {E : Value → Shared → Prop} {s : Shared} {Q} {x1 x2 x3 x4 x5 x6 x7 x8 x9} (h : wpAny M A (exec (Stmt.If (PySem.Expr.Compare (PySem.Expr.Attribute x1 (PySem.Str.ofString "fullbcount") x2) x3 x4 x5) x6 x7 x8) x9) Q E s) : wpAny M A (exec (Stmt.If (PySem.Expr.Compare (PySem.Expr.Attribute x1 (PySem.Str.ofString "fullbcount") x2) x3 x4 x5) x6 x7 x8) x9) Q E s := h
theorem zq26 {M : Model} {A : Around} {E : Value → Shared → Prop} {s : Shared} {Q} {x1 x2 x3 x4 x5} (h : wpAny M A (eval (PySem.Expr.ListComp x1 x2 x3 x4) x5) Q E s) : wpAny M A (eval (PySem.Expr.ListComp x1 x2 x3 x4) x5) Q E s := h
theorem zq27 {M : Model} {A : Around} {E : Value → Shared → Prop} {s : Shared} {Q} {x1 x2} (h : wpAny M A (call (Value.ref x1) x2) Q E s) : wpAny M A (call (Value.ref x1) x2) Q E s := h
theorem zq28 {M : Model} {A : Around} {E : Value → Shared → Prop} {s : Shared} {Q} {x1 x2} (h : wpAny M A (compareOp CmpOp.NotEq (Value.ref x1) (Value.ref x2)) Q E s) : wpAny M A (compareOp CmpOp.NotEq (Value.ref x1) (Value.ref x2)) Q E s := h
theorem zq29 {M : Model} {A : Around} {E : Value → Shared → Prop} {s : Shared} {Q} {x1 x2 x3 x4 x5} (h : wpAny M A (compareOp x1 (Value.float x2 x3) (Value.float x4 x5)) Q E s) : wpAny M A (compareOp x1 (Value.float x2 x3) (Value.float x4 x5)) Q E s := h
theorem zq30 {M : Model} {A : Around} {E : Value → Shared → Prop} {s : Shared} {Q} {x1 x2 x3 x4 x5 x6 x7 x8} (h : wpAny M A (execs (Stmt.Assign x1 x2 x3 :: x4 :: x5 :: x6 :: x7) x8) Q E s) : wpAny M A (execs (Stmt.Assign x1 x2 x3 :: x4 :: x5 :: x6 :: x7) x8) Q E s := h
end
end
section
open PySem PySem.W PyProof.Rows PySem.Calls
set_option Elab.async false
set_option maxRecDepth 100000
/-- a built-in's method, bound to its object -/
noncomputable abbrev bndObj (id : String) (v : Value) : Obj := { cls := .type "builtin_function_or_method", data := .fields #[.builtin id, v] }
theorem bm_slot_get : Slot "method_descriptor" "__get__" "method_descriptor.__get__" :=
  .of (owner := "method_descriptor") (n := "__get__") (by rw [typeLookup_type, builtinLookup_eq_fast]; kernel_rfl) (by decide +kernel) (by decide +kernel) (by decide +kernel)
    (by first | exact .inl (by decide +kernel) | exact .inr (by decide +kernel)) (by rw [isSubtype_type]; kernel_rfl)
theorem bm_entry_get : entryFor table "method_descriptor.__get__" = some Builtin.«method_descriptor.__get__» := entryFor_of_tree (by kernel_rfl)
theorem bm_args_get (a b c : Value) : argsOk "method_descriptor.__get__" ⟨[a, b, c], []⟩ := by unfold argsOk; kernel_rfl
theorem bm_set : typeLookup (.type "method_descriptor") "__set__" = pure none := by rw [typeLookup_type, builtinLookup_eq_fast]; kernel_rfl
theorem bm_del : typeLookup (.type "method_descriptor") "__delete__" = pure none := by rw [typeLookup_type, builtinLookup_eq_fast]; kernel_rfl
theorem bm_ty_dget : typeOf (.builtin "dict.get") = pure (.type "method_descriptor") := by show builtinType _ = _; rw [builtinType_eq_fast]; kernel_rfl
theorem bm_ty_dcon : typeOf (.builtin "dict.__contains__") = pure (.type "method_descriptor") := by show builtinType _ = _; rw [builtinType_eq_fast]; kernel_rfl
theorem bm_ty_scon : typeOf (.builtin "set.__contains__") = pure (.type "method_descriptor") := by show builtinType _ = _; rw [builtinType_eq_fast]; kernel_rfl
section
variable {M : Model} {A : Around} {E : Value → Shared → Prop} {s : Shared}
theorem bm_run_get {id T : String} {a : Addr} {P : Fin → Shared → Prop} (hT : s.TypeIs (.ref a) T) (ht : Manifest.toldItsClass.contains id = false) (e1 : (".".intercalate (id.cutAt '.').dropLast) = T) (e2 : isSubtype (.type T) (.type T) = pure true)
    (h : P (.done (.ret (.ref s.heap.objs.size))) { s with heap := s.heap.push (bndObj id (.ref a)) }) :
    wpAny M A (Builtin.«method_descriptor.__get__» ⟨[.builtin id, .ref a, .type T], []⟩) P E s := by
  unfold Builtin.«method_descriptor.__get__»
  refine wpAny_bind (wpAny_of_eq (a := (.builtin id, some (.ref a), some (.type T))) (by first | rfl | kernel_rfl) ?_)
  simp only [ht]
  repeat (any_goals (first | assumption | wp_step))
  rw [e1, e2]
  refine wpAny_pure ?_
  refine wpAny_pure (M := M) ?_
  unfold newFields
  exact wpAny_bind (wpAny_newObj_type (Q := fun v s' => wpAny M A (ret v) P E s') (wpAny_pure h) (by size_fits))
end
section
variable {prog : Program} {w : World} {A : Around} {E : Value → Shared → Prop} {s : Shared} {h₀ : Heap} {L : Addr} {m : Str → Option Value} {news : List (Addr × Obj)}
theorem meets_ga_bound {T id : String} (a : Addr) (o : Obj) (name : Str) (u : Tok) (hc : o.cls = .type T) (hd : o.dict = none) (hcl : ∀ c, o.data ≠ .cls c)
    (hname : (["__module__", "__name__", "__qualname__", "__doc__", "__annotations__"] : List Str).contains name = false) (hl : typeLookup (.type T) name = pure (some (.builtin id)))
    (hty : typeOf (.builtin id) = pure (.type "method_descriptor")) (ht : Manifest.toldItsClass.contains id = false) (e1 : (".".intercalate (id.cutAt '.').dropLast) = T) (e2 : isSubtype (.type T) (.type T) = pure true) :
    Meets (Builtin.«object.__getattribute__» ⟨[.ref a, .str name u], []⟩) (fun A R s => s.heap.get? a = some o ∧ R (.ok (.ret (.ref s.heap.objs.size))) { s with heap := s.heap.push (bndObj id (.ref a)) }) :=
  Meets.of_wp fun prog w A R s hs => by
    obtain ⟨hp, g, d, tk, os⟩ := s
    obtain ⟨hx, hs⟩ := hs
    have hT : (⟨hp, g, d, tk, os⟩ : Shared).TypeIs (.ref a) T := ⟨_, hx, hc⟩
    have f1 := bm_slot_get.lookup
    have f2 := bm_set
    have f3 := bm_del
    have f4 := bm_slot_get.bind (.builtin id)
    obtain ⟨c, dct, dat, sl⟩ := o
    simp only at hc hd hcl
    subst hd
    subst hc
    unfold Builtin.«object.__getattribute__»
    repeat (any_goals (first | assumption | wp_step))
    refine wpAny_mono (Q := fun (d' : Option Addr) s' => d' = none ∧ s' = ⟨hp, g, d, tk, os⟩) (E := fun _ _ => False) ?_ ?_ (fun _ _ h => h.elim)
    · cases dat <;> first | exact absurd rfl (hcl _) | skip
      all_goals (show wpAny _ _ (instanceDict a false) _ _ _)
      all_goals (unfold instanceDict)
      all_goals exact wpAny_bind (wpAny_loadPart hx (wpAny_pure ⟨rfl, rfl⟩))
    · rintro _ _ ⟨rfl, rfl⟩
      repeat (any_goals (first | assumption | wp_step))
      rw [hname]
      refine wpAny_pure ?_
      unfold Builtin.ObjectAttr.byTheClass
      repeat (any_goals (first | assumption | wp_step))
      exact codeAny_call_builtin bm_slot_get.plain bm_entry_get (bm_slot_get.check _ _ _ _ _ _ _ _ hty (bm_args_get _ _ _) (bm_run_get hT ht e1 e2 (wpAny_pure ⟨_, rfl, hs⟩)))
theorem bm_ga {T id gid : String} {a : Addr} {o : Obj} {name : Str} {expr : Bool} {Q : Value → Shared → Prop} (hx : s.heap.get? a = some o) (hc : o.cls = .type T) (hd : o.dict = none) (hcl : ∀ c, o.data ≠ .cls c)
    (hname : (["__module__", "__name__", "__qualname__", "__doc__", "__annotations__"] : List Str).contains name = false) (hl : typeLookup (.type T) name = pure (some (.builtin id)))
    (hty : typeOf (.builtin id) = pure (.type "method_descriptor")) (ht : Manifest.toldItsClass.contains id = false) (e1 : (".".intercalate (id.cutAt '.').dropLast) = T) (e2 : isSubtype (.type T) (.type T) = pure true)
    (gs : Slot T "__getattribute__" gid) (ge : entryFor table gid = some Builtin.«object.__getattribute__») (gargs : ∀ x y, argsOk gid ⟨[x, y], []⟩)
    (h : Q (.ref s.heap.objs.size) { s with heap := s.heap.push (bndObj id (.ref a)), toks := s.toks + 1 }) : wpAny (model prog w) A (getAttr (.ref a) name expr) Q E s := by
  obtain ⟨hp, g, d, tk, os⟩ := s
  have hT : ∀ tk', (⟨hp, g, d, tk', os⟩ : Shared).TypeIs (.ref a) T := fun _ => ⟨_, hx, hc⟩
  have f3 := gs.lookup
  have f4 := gs.bind (.ref a)
  unfold getAttr getAttrBy
  refine wpAny_bind (wpAny_mkText (wpAny_holding (wpAny_bind (wpAny_typeOf (hT _) ?_))))
  refine wpAny_bind (wpAny_of_eq f3 ?_)
  refine wpAny_mono (Q := Q) (E := E) ?_ (fun _ _ h => h) (fun _ _ h => h)
  show wpAny _ _ (getAttrByItsOwn (.ref a) (.str name tk) (.type T) (.builtin gid) true expr) _ _ _
  unfold getAttrByItsOwn
  refine wpAny_bind (wpAny_pure (wpAny_bind ?_))
  refine wpAny_attempt (wpAny_holding ?_)
  show wpAny _ _ (callGetattribute _ _ _ _) _ _ _
  unfold callGetattribute
  simp only [onTheHeap, Bool.and_false, Bool.false_eq_true, if_false]
  unfold boundAndCalled
  refine wpAny_bind (wpAny_of_eq f4 ?_)
  refine call_meets gs (hT _) ge (gargs _ _) (meets_ga_bound a o name tk hc hd hcl hname hl hty ht e1 e2) ?_
  exact ⟨hx, wpAny_pure h⟩
end
section
variable {M : Model} {A : Around} {E : Value → Shared → Prop} {s : Shared}
theorem bm_check {id T : String} {d : Addr} {o : Obj} {rest : List Value} {Q : Unit → Shared → Prop} (hx : s.heap.get? d = some o) (hc : o.cls = .type T) (hn : ∀ c, o.data ≠ .cls c) (f1 : isSubtype (.type T) (.type "module") = pure false)
    (hk : builtinKind id = some .method) (hv : Manifest.varargsMethods.contains id = false)
    (e : (match Manifest.signature? id with | some sig => Bind.checkArgs id { sig with full := s!"{Bind.lastOf T}.{Bind.lastOf id}" } ⟨.ref d :: rest, []⟩ | none => pure ()) = pure ())
    (h : Q () s) : wpAny M A (checkBoundCall id ⟨.ref d :: rest, []⟩) Q E s := by
  have hT : s.TypeIs (.ref d) T := ⟨_, hx, hc⟩
  obtain ⟨hp, g, dd, tk, os⟩ := s
  unfold checkBoundCall
  cases hsig : Manifest.signature? id with
  | none => exact wpAny_pure h
  | some sig =>
    simp only [hsig] at e
    simp only [hk, hv]
    repeat (any_goals (first | assumption | wp_step))
end
section
variable {prog : Program} {w : World} {A : Around} {E : Value → Shared → Prop} {s : Shared} {h₀ : Heap} {L : Addr} {m : Str → Option Value} {news : List (Addr × Obj)}
theorem bm_call {id T : String} {u d : Addr} {o : Obj} {rest : List Value} {B : Builtin} {S : PySem.Spec} {Q : Value → Shared → Prop} (hu : s.heap.get? u = some (bndObj id (.ref d))) (hx : s.heap.get? d = some o) (hc : o.cls = .type T) (hn : ∀ c, o.data ≠ .cls c)
    (f1 : isSubtype (.type T) (.type "module") = pure false) (hk : builtinKind id = some .method) (hv : Manifest.varargsMethods.contains id = false) (hp : plainId id = true)
    (e : (match Manifest.signature? id with | some sig => Bind.checkArgs id { sig with full := s!"{Bind.lastOf T}.{Bind.lastOf id}" } ⟨.ref d :: rest, []⟩ | none => pure ()) = pure ())
    (entry : entryFor table id = some B) (g : MeetsIn prog w (B ⟨.ref d :: rest, []⟩) S) (h : S A (wants Q E) s) : wpAny (model prog w) A (call (.ref u) rest) Q E s := by
  refine wpAny_call (codeAny_of_tree ?_)
  show wpAny _ A.in1 (callAny (.ref u) ⟨rest, []⟩) _ _ s
  simp only [callAny]
  refine wpAny_bind (wpAny_load hu ?_)
  simp only [show (Value.type "builtin_function_or_method" == Value.type "method" || Value.type "builtin_function_or_method" == Value.type "builtin_function_or_method" || Value.type "builtin_function_or_method" == Value.type "method-wrapper") = true by decide, if_true]
  refine wpAny_mono (Q := fun fin s' => match fin with | .done f => wants Q E (.ok f) s' | .again c' => c'.quiet = true ∧ codeAny (model prog w) A c' (wants Q E) s') (E := E) ?_ (fun _ _ h => h) (fun _ _ h => h)
  refine KFB.if_so (c := (Value.type "builtin_function_or_method" != Value.type "method")) (a := checkBoundCall id ⟨.ref d :: rest, []⟩ >>= fun _ => again (.builtin id ⟨.ref d :: rest, []⟩)) (b := again (.call (.builtin id) ⟨.ref d :: rest, []⟩)) (by decide) ?_
  refine wpAny_bind (bm_check hx hc hn f1 hk hv e ?_)
  refine wpAny_bind (wpAny_pure (wpAny_pure ?_))
  exact ⟨plainId_quiet hp _, codeAny_builtin entry (by rw [Around.under_plainId hp]; exact g A (wants Q E) s h)⟩
theorem bm_ga_N {T id gid : String} {a : Addr} {o : Obj} {name : Str} {expr : Bool} {Q : Value → Shared → Prop} (F : Fr h₀ L s.heap m) (N : News h₀ L s.heap news) (hp : (a, o) ∈ news) (hc : o.cls = .type T) (hd : o.dict = none) (hcl : ∀ c, o.data ≠ .cls c)
    (hname : (["__module__", "__name__", "__qualname__", "__doc__", "__annotations__"] : List Str).contains name = false) (slot : Slot T name id)
    (hty : typeOf (.builtin id) = pure (.type "method_descriptor")) (ht : Manifest.toldItsClass.contains id = false) (e1 : (".".intercalate (id.cutAt '.').dropLast) = T) (e2 : isSubtype (.type T) (.type T) = pure true)
    (gs : Slot T "__getattribute__" gid) (ge : entryFor table gid = some Builtin.«object.__getattribute__») (gargs : ∀ x y, argsOk gid ⟨[x, y], []⟩)
    (h : ∀ u h' tk', Fr h₀ L h' m → News h₀ L h' ((u, bndObj id (.ref a)) :: news) → (∀ p ∈ news, p.1 < u) → Q (.ref u) { s with heap := h', toks := tk' }) : wpAny (model prog w) A (getAttr (.ref a) name expr) Q E s :=
  bm_ga (N _ hp).1 hc hd hcl hname slot.lookup hty ht e1 e2 gs ge gargs (h _ _ _ (F.push _) (News.push F N _) fun p hp => Heap.lt_size (N p hp).1)
theorem bm_subd : isSubtype (.type "dict") (.type "dict") = pure true := by rw [isSubtype_type]; kernel_rfl
theorem bm_subs : isSubtype (.type "set") (.type "set") = pure true := by rw [isSubtype_type]; kernel_rfl
theorem bm_modd : isSubtype (.type "dict") (.type "module") = pure false := by rw [isSubtype_type]; kernel_rfl
theorem bm_mods : isSubtype (.type "set") (.type "module") = pure false := by rw [isSubtype_type]; kernel_rfl
theorem bm_chk_dget (a b c : Value) : (match Manifest.signature? "dict.get" with | some sig => Bind.checkArgs "dict.get" { sig with full := s!"{Bind.lastOf "dict"}.{Bind.lastOf "dict.get"}" } ⟨[a, b, c], []⟩ | none => pure ()) = pure () := by kernel_rfl
theorem bm_chk_dcon (a b : Value) : (match Manifest.signature? "dict.__contains__" with | some sig => Bind.checkArgs "dict.__contains__" { sig with full := s!"{Bind.lastOf "dict"}.{Bind.lastOf "dict.__contains__"}" } ⟨[a, b], []⟩ | none => pure ()) = pure () := by kernel_rfl
theorem bm_chk_scon (a b : Value) : (match Manifest.signature? "set.__contains__" with | some sig => Bind.checkArgs "set.__contains__" { sig with full := s!"{Bind.lastOf "set"}.{Bind.lastOf "set.__contains__"}" } ⟨[a, b], []⟩ | none => pure ()) = pure () := by kernel_rfl
section
variable {K : Type} [DecidableEq K] {knd : KeyKind prog w K} {d u : Addr} {o : Obj} {kvs : List (K × Value)} {k : K} {key v dflt : Value}
theorem isDict_parts (hd : o.IsDictOf knd kvs) : o.cls = .type "dict" ∧ o.dict = none ∧ ∀ c, o.data ≠ .cls c := by
  obtain ⟨es, n, h, h2, _⟩ := hd
  exact ⟨h.1, h.2.1, fun c e => by rw [h2] at e; cases e⟩
theorem dget_bound {expr : Bool} {Q : Value → Shared → Prop} (F : Fr h₀ L s.heap m) (N : News h₀ L s.heap news) (hp : (d, o) ∈ news) (hd : o.IsDictOf knd kvs)
    (h : ∀ u h' tk', Fr h₀ L h' m → News h₀ L h' ((u, bndObj "dict.get" (.ref d)) :: news) → (∀ p ∈ news, p.1 < u) → Q (.ref u) { s with heap := h', toks := tk' }) : wpAny (model prog w) A (getAttr (.ref d) "get" expr) Q E s :=
  have z := isDict_parts hd
  bm_ga_N F N hp z.1 z.2.1 z.2.2 (by decide +kernel) PySem.F.slot_dict_get bm_ty_dget (by decide +kernel) (by decide +kernel) bm_subd PySem.F.slot_dict_getattribute am_entry_dict_getattribute PySem.F.args_dict_getattribute_2 h
theorem dcon_bound {expr : Bool} {Q : Value → Shared → Prop} (F : Fr h₀ L s.heap m) (N : News h₀ L s.heap news) (hp : (d, o) ∈ news) (hd : o.IsDictOf knd kvs)
    (h : ∀ u h' tk', Fr h₀ L h' m → News h₀ L h' ((u, bndObj "dict.__contains__" (.ref d)) :: news) → (∀ p ∈ news, p.1 < u) → Q (.ref u) { s with heap := h', toks := tk' }) : wpAny (model prog w) A (getAttr (.ref d) "__contains__" expr) Q E s :=
  have z := isDict_parts hd
  bm_ga_N F N hp z.1 z.2.1 z.2.2 (by decide +kernel) slot_dict_contains bm_ty_dcon (by decide +kernel) (by decide +kernel) bm_subd PySem.F.slot_dict_getattribute am_entry_dict_getattribute PySem.F.args_dict_getattribute_2 h
theorem dget_call {Q : Value → Shared → Prop} (N : News h₀ L s.heap news) (hu : (u, bndObj "dict.get" (.ref d)) ∈ news) (hp : (d, o) ∈ news) (hd : o.IsDictOf knd kvs) (lo : (d == sysModules) = false) (hkey : knd.is k key = true) (x : Option Value) (hl : valueAt kvs k = x)
    (h : Q (x.getD dflt) { s with toks := s.toks + 1 }) : wpAny (model prog w) A (call (.ref u) [key, dflt]) Q E s :=
  have z := isDict_parts hd
  have hD := kda_dict N hp hd
  bm_call (N _ hu).1 (N _ hp).1 z.1 z.2.2 bm_modd (by first | decide +kernel | kernel_rfl) (by decide +kernel) (by decide +kernel) (bm_chk_dget _ _ _) PySem.F.entry_dict_get (meets_dict_get_default knd d hkey lo dflt) ⟨_, hD.mapOf, by rw [hl]; exact h⟩
theorem dcon_call {Q : Value → Shared → Prop} (N : News h₀ L s.heap news) (hu : (u, bndObj "dict.__contains__" (.ref d)) ∈ news) (hp : (d, o) ∈ news) (hd : o.IsDictOf knd kvs) (lo : (d == sysModules) = false) (hkey : knd.is k key = true) (b : Bool) (hb : (valueAt kvs k).isSome = b)
    (h : Q (.bool b) { s with toks := s.toks + 1 }) : wpAny (model prog w) A (call (.ref u) [key]) Q E s :=
  have z := isDict_parts hd
  have hD := kda_dict N hp hd
  bm_call (N _ hu).1 (N _ hp).1 z.1 z.2.2 bm_modd (by first | decide +kernel | kernel_rfl) (by decide +kernel) (by decide +kernel) (bm_chk_dcon _ _) entry_dict_contains (meets_dict_contains knd d hkey lo) ⟨_, hD.mapOf, by rw [hb]; exact h⟩
end
section
variable {K : Type} [DecidableEq K] {knd : KeyKind prog w K} {d u : Addr} {o : Obj} {k : K} {key v dflt : Value} {S : K → Bool} {n : Nat}
theorem meets_scon (d : Addr) (hkey : knd.is k key = true) (hsc : key.scannable = true) :
    MeetsIn prog w (Builtin.«frozenset.__contains__» ⟨[.ref d, key], []⟩) (fun _ R s => s.heap.SetOf knd d S n ∧ R (.ok (.ret (.bool (S k)))) { s with toks := s.toks + 1 }) :=
  .of_wp fun A R s ⟨hS, h⟩ => by
    unfold Builtin.«frozenset.__contains__» Builtin.Frozenset.oneOther
    simp only [List.isEmpty_nil, bind_assoc]
    unfold Builtin.Frozenset.addrOf Builtin.Frozenset.withSetAsKey setContains
    refine wpAny_bind (wpAny_pure ?_)
    try dsimp only
    refine wpAny_bind (wpAny_pure ?_)
    try dsimp only
    refine wpAny_bind (wpAny_tryCatch ?_)
    refine wpAny_holding ?_
    refine wpAny_bind (knd.pyHash hkey ?_)
    refine wpAny_bind (wpAny_setFind_of (s := { s with toks := s.toks + 1 }) hkey hsc hS fun r hr => ?_)
    refine wpAny_pure ?_
    show wpAny _ _ (ret (Value.bool r.isSome)) _ _ _
    rw [hr]
    exact wpAny_pure ⟨_, rfl, h⟩
theorem isSet_parts {o : Obj} (hd : o.SetObjOf knd S n) : o.cls = .type "set" ∧ o.dict = none ∧ ∀ c, o.data ≠ .cls c := by
  obtain ⟨h, es, ep, t, h2, _⟩ := hd
  exact ⟨h.1, h.2.1, fun c e => by rw [h2] at e; cases e⟩
theorem scon_bound {expr : Bool} {Q : Value → Shared → Prop} (F : Fr h₀ L s.heap m) (N : News h₀ L s.heap news) (hp : (d, o) ∈ news) (hd : o.SetObjOf knd S n)
    (h : ∀ u h' tk', Fr h₀ L h' m → News h₀ L h' ((u, bndObj "set.__contains__" (.ref d)) :: news) → (∀ p ∈ news, p.1 < u) → Q (.ref u) { s with heap := h', toks := tk' }) : wpAny (model prog w) A (getAttr (.ref d) "__contains__" expr) Q E s :=
  have z := isSet_parts hd
  bm_ga_N F N hp z.1 z.2.1 z.2.2 (by decide +kernel) PySem.F.slot_set_contains bm_ty_scon (by decide +kernel) (by decide +kernel) bm_subs PySem.F.slot_set_getattribute PySem.F.entry_set_ga PySem.F.args_set_getattribute_2 h
theorem scon_call {Q : Value → Shared → Prop} (N : News h₀ L s.heap news) (hu : (u, bndObj "set.__contains__" (.ref d)) ∈ news) (hp : (d, o) ∈ news) (hd : o.SetObjOf knd S n) (hn : n < scanBound) (hkey : knd.is k key = true) (hsc : key.scannable = true)
    (h : Q (.bool (S k)) { s with toks := s.toks + 1 }) : wpAny (model prog w) A (call (.ref u) [key]) Q E s :=
  have z := isSet_parts hd
  bm_call (N _ hu).1 (N _ hp).1 z.1 z.2.2 bm_mods (by first | decide +kernel | kernel_rfl) (by decide +kernel) (by decide +kernel) (bm_chk_scon _ _) entry_set_contains (meets_scon d hkey hsc) ⟨hd.setOf (N _ hp).1 hn, h⟩
end
noncomputable def BStands (u : Addr) (id : String) (v : Value) (h : Heap) : Prop := h.get? u = some (bndObj id v)
theorem bst_and {u : Addr} {id : String} {v : Value} {h : Heap} {P : Prop} (N : News h₀ L h news) (hm : (u, bndObj id v) ∈ news) (k : P) : BStands u id v h ∧ P := ⟨N.get hm, k⟩
section
variable {M : Model}
theorem bm_fields {id : String} {v : Value} {pos : Pos} {u : Addr} {first : List Value} {args : List (Bool × Sem Value)} {Q : Value → Shared → Prop} (hplain : args.any (·.1) = false)
    (h : wpAny M A (evalArgs (.ref u) true args []) (fun x s₁ => BStands u id v s₁.heap ∧ wpAny M A (call (.ref u) (first ++ x.pos) x.kw) Q E s₁) E s) : wpAny M A (callWith pos (.ref u) first args []) Q E s := by
  unfold callWith
  refine wpAny_bind (wpAny_holding (wpAny_mono h (fun x s₁ h₁ => wpAny_bind (wpAny_standAt ?_)) fun _ _ x => x))
  obtain ⟨ho, hcall⟩ := h₁
  simp only [hplain, List.any_nil, Bool.or_false]
  refine wpAny_bind (m := keeperOf (.ref u)) ?_
  unfold keeperOf
  refine wpAny_bind (wpAny_load ho ?_)
  simp only [show (Value.type "builtin_function_or_method" != Value.type "method") = true by decide, show (Value.type "builtin_function_or_method" == Value.type "builtin_function_or_method" || Value.type "builtin_function_or_method" == Value.type "method-wrapper") = true by decide, if_true]
  refine wpAny_pure ?_
  exact wpAny_bind (wpAny_mono hcall (fun r s₂ hr => wpAny_bind (wpAny_holding (wpAny_point (wpAny_pure hr)))) fun _ _ x => x)
theorem bm_callWith {id : String} {v : Value} {pos : Pos} {u : Addr} {first : List Value} {env : Env} {e : PySem.Expr} {rest : List PySem.Expr} {Q : Value → Shared → Prop} (_N : News h₀ L s.heap news) (_hm : (u, bndObj id v) ∈ news)
    (h : wpAny M A (spliced (backTo pos (starEach (e :: rest) env))) (fun vs s₁ => BStands u id v s₁.heap ∧ wpAny M A (call (.ref u) (first ++ vs)) Q E s₁) E s)
    (he : starEach (e :: rest) env = (false, eval e env) :: starEach rest env := by rfl) (hplain : (backTo pos (starEach rest env)).any (·.1) = false := by rfl) :
    wpAny M A (callWith pos (.ref u) first (backTo pos (starEach (e :: rest) env)) []) Q E s := by
  rw [he] at h ⊢
  refine bm_fields (id := id) (v := v) (by show (false || (backTo pos (starEach rest env)).any (·.1)) = false; rw [hplain]; rfl) ?_
  exact evalArgs_plain h
end
end
end
section
open PySem PySem.W PyProof.Rows PySem.Calls
set_option Elab.async false
set_option maxRecDepth 100000
/-- the end of a turn that may have made generators -/
noncomputable def GEnd (h₀ : Heap) (L I : Addr) (J : (Str → Option Value) → List (Addr × Obj) → Prop) (own : List (Addr × Obj)) (s₁ : Shared) (f : Flow) (s₂ : Shared) : Prop :=
  ∀ Rz : Prop, (∀ (h' : Heap) (gs : Array GenState) (tk : Nat) (m' : Str → Option Value) (nx news' : List (Addr × Obj)), f = .next → s₂ = { s₁ with heap := h', gens := gs, toks := tk } → AllBare gs → Fr h₀ L h' m' → News h₀ L h' news' → (∀ p ∈ nx, p ∈ news') → (∀ p ∈ own, p ∈ news') → (∀ p ∈ nx, p.1 ≠ I) → J m' nx → Rz) → Rz
noncomputable def GAt (h₀ : Heap) (L I l : Addr) (items : Array Value) (J : Nat → (Str → Option Value) → List (Addr × Obj) → Prop) (s₂ : Shared) (k : Nat) (s' : Shared) : Prop :=
  ∀ Rz : Prop, (∀ (h' : Heap) (gs : Array GenState) (tk : Nat) (m' : Str → Option Value) (nx : List (Addr × Obj)) (i : Nat), s' = { s₂ with heap := h', gens := gs, toks := tk } → AllBare gs → (h'.IsListIter I l i ∧ h'.IsList l items) → Fr h₀ L h' m' → News h₀ L h' nx → (∀ p ∈ nx, p.1 ≠ I) → J i m' nx → i ≤ items.size → k = items.size + 1 - i → Rz) → Rz
theorem GEnd.at {h₀ : Heap} {L I l : Addr} {items : Array Value} {J : Nat → (Str → Option Value) → List (Addr × Obj) → Prop} {i : Nat} {own : List (Addr × Obj)} {s₂ s₄ : Shared} {h₁ : Heap} {gs : Array GenState} {tk₁ : Nat} {f : Flow} (e : GEnd h₀ L I (J (i + 1)) own { s₂ with heap := h₁, gens := gs, toks := tk₁ } f s₄) (hlt : i < items.size)
    (hst : ∀ h5 news5, News h₀ L h5 news5 → (∀ p ∈ own, p ∈ news5) → (∀ b o, h₀.get? b = some o → h5.get? b = some o) → (h5.IsListIter I l (i + 1) ∧ h5.IsList l items)) : f = .next ∧ ∃ k, k < items.size + 1 - i ∧ GAt h₀ L I l items J s₂ k s₄ :=
  e _ fun h5 gs5 tk5 m5 nx5 news5 ef e5 hb5 F5 N5 hn5 ho5 hI5 hJ5 => ⟨ef, items.size + 1 - (i + 1), Nat.sub_lt_sub_left (Nat.lt_succ_of_lt hlt) (Nat.lt_succ_self i), fun _ kz => kz h5 gs5 tk5 m5 nx5 (i + 1) e5 hb5 (hst h5 news5 N5 ho5 F5.keep) F5 (fun p hp => N5 p (hn5 p hp)) hI5 hJ5 hlt rfl⟩
section
variable {prog : Program} {w : World} {A : Around} {s : Shared} {env : Env} {h₀ : Heap} {target : Expr} {body : List Stmt} {Q : Flow → Shared → Prop}
noncomputable def LoopG (prog : Program) (w : World) (A : Around) (h₀ : Heap) (env : Env) (target : Expr) (body : List Stmt) (Q : Flow → Shared → Prop) (it : Value) (s : Shared) : Prop :=
  ∀ Rz : Prop, (∀ (I l : Addr) (items : Array Value) (m : Str → Option Value) (news : List (Addr × Obj)) (J : Nat → (Str → Option Value) → List (Addr × Obj) → Prop),
    it = .ref I → A.handled = none → l ≠ I → env.locals ∉ [I, l] → h₀.get? I = none → (s.heap.IsListIter I l 0 ∧ s.heap.IsList l items) →
    AllBare s.gens → Fr h₀ env.locals s.heap m → News h₀ env.locals s.heap news → (∀ p ∈ news, p.1 ≠ I) → J 0 m news →
    (∀ i v m₁ nx h gs tk own oI, i < items.size → items[i]? = some v → J i m₁ nx → AllBare gs → (I, oI) ∈ own → (∀ p ∈ own, p.1 = I ∨ p.1 = l) → (∀ p ∈ nx, p.1 ≠ I) → Fr h₀ env.locals h m₁ → News h₀ env.locals h (nx ++ own) →
      wpAny (model prog w) A (assign target env v) (fun _ s₃ => wpAny (model prog w) A (execs body env) (GEnd h₀ env.locals I (J (i + 1)) own { s with heap := h, gens := gs, toks := tk }) NoE s₃) NoE { s with heap := h, gens := gs, toks := tk }) →
    (∀ m₁ nx h gs tk, J items.size m₁ nx → AllBare gs → Fr h₀ env.locals h m₁ → News h₀ env.locals h nx → Q .next { s with heap := h, gens := gs, toks := tk }) → Rz) → Rz
theorem for_G {iter : Expr} {pos : Pos} (h₀ : Heap)
    (h : wpAny (model prog w) A (eval iter env) (fun xv s₁ => wpAny (model prog w) A (pyIter xv) (fun it s₂ => LoopG prog w A h₀ env target body Q it s₂) NoE s₁) NoE s)
    (hs : ∀ x, foldedSetIterable iter env x = pure x) :
    wpAny (model prog w) A (exec (.For target iter body [] pos) env) Q NoE s := by
  refine wpAny_For (wpAny_mono h (fun xv s₁ h₁ => wpAny_mono h₁ (fun it s₂ h₂ => ?_) fun _ _ e => e.elim) fun _ _ e => e) hs
  clear h h₁
  refine h₂ _ fun I l items m news J hit0 hh hlI hLf h0I hst hG F N hnI hj turn done => ?_
  subst hit0
  clear h₂
  have W := Walks.list (prog := prog) (w := w) hh I l hlI items
  refine codeAny_forLoop_any
    (GAt h₀ env.locals I l items J s₂) ?_ (items.size + 1) (fun _ kz => kz s₂.heap s₂.gens s₂.toks m news 0 rfl hG hst F N hnI hj (Nat.zero_le _) rfl)
  intro k s' HS
  refine HS _ fun h' gs tk m' nx i e1 hgs hst' F' N' hnI' hJ hi e2 => ?_
  clear HS
  subst e1 e2
  have old : ∀ (h₁ : Heap), (∀ b o, b ∉ [I] → h'.get? b = some o → h₁.get? b = some o) → Fr h₀ env.locals h₁ m' ∧ News h₀ env.locals h₁ nx := by
    intro h₁ hk
    have hLI : env.locals ∉ [I] := fun hm => hLf (W.sub _ hm)
    have h0 : ∀ b o, h₀.get? b = some o → b ∉ [I] := fun b o e hm => by rw [List.mem_singleton.mp hm, h0I] at e; cases e
    exact ⟨⟨F'.ns.at' fun o e => hk _ o hLI e, fun b o e => hk b o (h0 b o e) (F'.keep b o e), F'.above⟩, fun p hp => ⟨hk _ _ (fun hm => hnI' p hp (List.mem_singleton.mp hm)) (N' p hp).1, (N' p hp).2⟩⟩
  by_cases hlt : i < items.size
  · refine W.item i _ _ _ hlt hst' fun v h₁ tk₁ hP hst₁ hk₁ => ?_
    obtain ⟨F₁, N₁⟩ := old h₁ hk₁
    obtain ⟨oI, hoI, _⟩ := id hst₁.1
    have hown : News h₀ env.locals h₁ (ownOf h₀ [I, l] h₁) := news_ownOf hLf
    have hI : (I, oI) ∈ ownOf h₀ [I, l] h₁ := mem_ownOf (W.sub _ (.head _)) h0I hoI
    refine letGo_listiter hst₁.1 ?_
    refine wpAny_mono (turn i v m' nx h₁ gs tk₁ (ownOf h₀ [I, l] h₁) oI hlt hP hJ hgs hI (fun p hp => by simpa using ownOf_sub p hp) hnI' F₁ (fun p hp => (List.mem_append.mp hp).elim (N₁ p) (hown p))) (fun _ s₃ h₃ => ?_) fun _ _ h => h.elim
    refine wpAny_mono h₃ (fun f s₄ h₄ => ?_) fun _ _ h => h.elim
    obtain ⟨rfl, h₅⟩ := h₄.at (l := l) (items := items) hlt fun h5 news5 N5 ho5 keep5 => W.frame _ _ _ hst₁ fun b hb o e => by
      cases hn : h₀.get? b with
      | some o₀ =>
        have e0 := F₁.keep b o₀ hn
        rw [e] at e0
        cases e0
        exact keep5 b _ hn
      | none => exact (N5 _ (ho5 _ (mem_ownOf hb hn e))).1
    exact h₅
  · have hin : i = items.size := by (first | lia | omega)
    subst hin
    refine W.done _ _ _ hst' fun h₁ tk₁ hk₁ => wpAny_execs_nil ?_
    obtain ⟨F₁, N₁⟩ := old h₁ hk₁
    exact done m' nx h₁ gs tk₁ hJ hgs F₁ N₁
theorem iterG_list {l : Addr} {items : Array Value} {m : Str → Option Value} {news : List (Addr × Obj)} (J : Nat → (Str → Option Value) → List (Addr × Obj) → Prop)
    (hh : A.handled = none) (hl : s.heap.IsList l items) (hlL : l ≠ env.locals) (hG : AllBare s.gens) (F : Fr h₀ env.locals s.heap m) (N : News h₀ env.locals s.heap news) (hj : J 0 m news)
    (turn : ∀ i v m₁ nx h gs tk own I oI, i < items.size → items[i]? = some v → J i m₁ nx → AllBare gs → (I, oI) ∈ own → (∀ p ∈ own, p.1 = I ∨ p.1 = l) → (∀ p ∈ nx, p.1 ≠ I) → Fr h₀ env.locals h m₁ → News h₀ env.locals h (nx ++ own) →
      wpAny (model prog w) A (assign target env v) (fun _ s₃ => wpAny (model prog w) A (execs body env) (GEnd h₀ env.locals I (J (i + 1)) own { s with heap := h, gens := gs, toks := tk }) NoE s₃) NoE { s with heap := h, gens := gs, toks := tk })
    (done : ∀ m₁ nx h gs tk, J items.size m₁ nx → AllBare gs → Fr h₀ env.locals h m₁ → News h₀ env.locals h nx → Q .next { s with heap := h, gens := gs, toks := tk }) :
    wpAny (model prog w) A (pyIter (.ref l)) (fun it s₂ => LoopG prog w A h₀ env target body Q it s₂) NoE s := by
  obtain ⟨ol, hol, _⟩ := id hl
  have hne : l ≠ s.heap.objs.size := Nat.ne_of_lt (Heap.lt_size hol)
  refine wpAny_pyIter_list hl ?_
  have hLs : env.locals ≠ s.heap.objs.size := Nat.ne_of_lt F.ns.lt
  refine fun _ kz => kz _ l items _ news J rfl hh hne ?_ (next_is_new F) ⟨⟨_, Heap.get?_push_size _ rfl, rfl, rfl⟩, hl.at fun o e => Heap.get?_push_of_some _ e⟩
    hG (F.push _) (fun p hp => ⟨Heap.get?_push_of_some _ (N p hp).1, (N p hp).2⟩) (fun p hp => Nat.ne_of_lt (Heap.lt_size (N p hp).1)) hj ?_ ?_
  · intro hm
    rcases List.mem_cons.mp hm with e | hm
    · exact hLs e
    · exact hlL (List.mem_singleton.mp hm).symm
  · rintro i v m₁ nx h gs tk own oI hi hP hJ hg hI ho hnI F' N'
    exact turn i v m₁ nx h gs tk own _ oI hi hP hJ hg hI ho hnI F' N'
  · exact fun m₁ nx h gs tk hJ hg F' N' => done m₁ nx h gs tk hJ hg F' N'
end
end
section
open PySem PySem.W PyProof.Rows PySem.Calls
set_option Elab.async false
set_option maxRecDepth 100000
theorem lce_le1 : ∀ (a b : List Nat), lce a b ≤ a.length
  | [], b => by simp [lce]
  | x :: xs, [] => by simp [lce]
  | x :: xs, y :: ys => by
    have := lce_le1 xs ys
    simp only [lce, List.length_cons]
    split <;> (first | lia | omega)
theorem lce_le2 : ∀ (a b : List Nat), lce a b ≤ b.length
  | [], b => by simp [lce]
  | x :: xs, [] => by simp [lce]
  | x :: xs, y :: ys => by
    have := lce_le2 xs ys
    simp only [lce, List.length_cons]
    split <;> (first | lia | omega)
noncomputable def lw (a b : List Nat) (ahi bhi i j : Nat) : Nat := lce (cut a i ahi) (cut b j bhi)
noncomputable def Best (a b : List Nat) (alo ahi blo bhi : Nat) (S : Nat → Nat → Prop) (i j k : Nat) : Prop :=
  alo ≤ i ∧ i + k ≤ ahi ∧ blo ≤ j ∧ j + k ≤ bhi ∧ k ≤ lw a b ahi bhi i j ∧ (k = 0 → i = alo ∧ j = blo) ∧
  ∀ i' j', S i' j' → lw a b ahi bhi i' j' < k ∨ (lw a b ahi bhi i' j' = k ∧ (i < i' ∨ (i = i' ∧ j ≤ j')))
noncomputable def BestP (a b : List Nat) (alo ahi blo bhi : Nat) (S : Nat → Nat → Prop) (p : Int × Int × Int) : Prop :=
  ∃ i j k : Nat, p = ((k : Int), 0 - (i : Int), 0 - (j : Int)) ∧ Best a b alo ahi blo bhi S i j k
theorem BestP_step {a b : List Nat} {alo ahi blo bhi : Nat} {S : Nat → Nat → Prop} {p : Int × Int × Int} (ha : ahi ≤ a.length) (hb : bhi ≤ b.length) (h : BestP a b alo ahi blo bhi S p) (i' j' : Nat) (h1 : alo ≤ i') (h2 : i' < ahi) (h3 : blo ≤ j') (h4 : j' < bhi) :
    BestP a b alo ahi blo bhi (fun x y => S x y ∨ (x = i' ∧ y = j')) (mx3 p (cand a b ahi bhi i' j')) := by
  obtain ⟨i, j, k, rfl, g1, g2, g3, g4, g5, g6, g7⟩ := h
  have e1 : lw a b ahi bhi i' j' ≤ ahi - i' := by have := lce_le1 (cut a i' ahi) (cut b j' bhi); rw [cut_length _ _ _ ha] at this; exact this
  have e2 : lw a b ahi bhi i' j' ≤ bhi - j' := by have := lce_le2 (cut a i' ahi) (cut b j' bhi); rw [cut_length _ _ _ hb] at this; exact this
  have hc : cand a b ahi bhi i' j' = (((lw a b ahi bhi i' j' : Nat) : Int), 0 - (i' : Int), 0 - (j' : Int)) := rfl
  rw [hc]
  have hg : gt3 (((lw a b ahi bhi i' j' : Nat) : Int), 0 - (i' : Int), 0 - (j' : Int)) ((k : Int), 0 - (i : Int), 0 - (j : Int)) = true ↔ (k < lw a b ahi bhi i' j' ∨ (k = lw a b ahi bhi i' j' ∧ (i' < i ∨ (i' = i ∧ j' < j)))) := by
    unfold gt3
    simp only
    split
    · split
      · simp only [decide_eq_true_eq]; (first | lia | omega)
      · simp only [decide_eq_true_eq]; (first | lia | omega)
    · simp only [decide_eq_true_eq]; (first | lia | omega)
  unfold mx3
  by_cases hgt : gt3 (((lw a b ahi bhi i' j' : Nat) : Int), 0 - (i' : Int), 0 - (j' : Int)) ((k : Int), 0 - (i : Int), 0 - (j : Int)) = true
  · rw [if_pos hgt]
    have hgt := hg.mp hgt
    refine ⟨i', j', lw a b ahi bhi i' j', rfl, h1, by (first | lia | omega), h3, by (first | lia | omega), Nat.le_refl _, ?_, ?_⟩
    · intro h0
      rcases hgt with h | ⟨h, h'⟩
      · (first | lia | omega)
      · have := g6 (by (first | lia | omega)); (first | lia | omega)
    · rintro x y (hS | ⟨rfl, rfl⟩)
      · have := g7 x y hS
        (first | lia | omega)
      · right; exact ⟨rfl, .inr ⟨rfl, Nat.le_refl _⟩⟩
  · rw [if_neg hgt]
    have hn : ¬ (k < lw a b ahi bhi i' j' ∨ (k = lw a b ahi bhi i' j' ∧ (i' < i ∨ (i' = i ∧ j' < j)))) := fun h => hgt (hg.mpr h)
    refine ⟨i, j, k, rfl, g1, g2, g3, g4, g5, g6, ?_⟩
    rintro x y (hS | ⟨rfl, rfl⟩)
    · exact g7 x y hS
    · (first | lia | omega)
theorem BestP_mono {a b : List Nat} {alo ahi blo bhi : Nat} {S S' : Nat → Nat → Prop} {p : Int × Int × Int} (h : BestP a b alo ahi blo bhi S p) (hS : ∀ x y, S' x y → S x y) : BestP a b alo ahi blo bhi S' p := by
  obtain ⟨i, j, k, rfl, g1, g2, g3, g4, g5, g6, g7⟩ := h
  exact ⟨i, j, k, rfl, g1, g2, g3, g4, g5, g6, fun x y h => g7 x y (hS x y h)⟩
theorem rowF_best {a b : List Nat} {alo ahi blo bhi i : Nat} {S : Nat → Nat → Prop} {p : Int × Int × Int} (ha : ahi ≤ a.length) (hb : bhi ≤ b.length) (hi : alo + i < ahi) (h : BestP a b alo ahi blo bhi S p) :
    ∀ j, j ≤ bhi - blo → BestP a b alo ahi blo bhi (fun x y => S x y ∨ (x = alo + i ∧ blo ≤ y ∧ y < blo + j)) (rowF a b alo ahi blo bhi i j p)
  | 0, _ => BestP_mono h (fun x y hh => hh.elim id fun h => by (first | lia | omega))
  | j + 1, hj => BestP_mono (BestP_step ha hb (rowF_best ha hb hi h j (by (first | lia | omega))) (alo + i) (blo + j) (by (first | lia | omega)) hi (by (first | lia | omega)) (by (first | lia | omega))) fun x y hh => by
    rcases hh with hh | ⟨h1, h2, h3⟩
    · exact .inl (.inl hh)
    · by_cases e : y = blo + j
      · exact .inr ⟨h1, e⟩
      · exact .inl (.inr ⟨h1, h2, by (first | lia | omega)⟩)
theorem colF_best {a b : List Nat} {alo ahi blo bhi : Nat} (h0 : alo ≤ ahi) (h1 : blo ≤ bhi) (ha : ahi ≤ a.length) (hb : bhi ≤ b.length) :
    ∀ i, i ≤ ahi - alo → BestP a b alo ahi blo bhi (fun x y => alo ≤ x ∧ x < alo + i ∧ blo ≤ y ∧ y < bhi) (colF a b alo ahi blo bhi i)
  | 0, _ => ⟨alo, blo, 0, rfl, Nat.le_refl _, h0, Nat.le_refl _, h1, Nat.zero_le _, fun _ => ⟨rfl, rfl⟩, fun x y h => by (first | lia | omega)⟩
  | i + 1, hi => BestP_mono (rowF_best ha hb (by (first | lia | omega)) (colF_best h0 h1 ha hb i (by (first | lia | omega))) (bhi - blo) (Nat.le_refl _)) fun x y hh => by
    by_cases e : x = alo + i
    · right; (first | lia | omega)
    · left; (first | lia | omega)
/-- the first longest match of the window -/
noncomputable def IsLg (a b : List Nat) (alo ahi blo bhi i j k : Nat) : Prop := Best a b alo ahi blo bhi (fun x y => alo ≤ x ∧ x < ahi ∧ blo ≤ y ∧ y < bhi) i j k
theorem bestF_lg {a b : List Nat} {alo ahi blo bhi : Nat} (h0 : alo ≤ ahi) (h1 : blo ≤ bhi) (ha : ahi ≤ a.length) (hb : bhi ≤ b.length) :
    ∃ i j k : Nat, bestF a b alo ahi blo bhi = ((k : Int), 0 - (i : Int), 0 - (j : Int)) ∧ IsLg a b alo ahi blo bhi i j k := by
  obtain ⟨i, j, k, e, h⟩ := BestP_mono (S' := fun x y => alo ≤ x ∧ x < ahi ∧ blo ≤ y ∧ y < bhi) (colF_best h0 h1 ha hb (ahi - alo) (Nat.le_refl _)) (fun x y h => by (first | lia | omega))
  exact ⟨i, j, k, by rw [bestF_eq, e], h⟩
theorem IsLg.uniq {a b : List Nat} {alo ahi blo bhi i j k i' j' k' : Nat} (h : IsLg a b alo ahi blo bhi i j k) (h' : IsLg a b alo ahi blo bhi i' j' k') : i = i' ∧ j = j' ∧ k = k' := by
  obtain ⟨g1, g2, g3, g4, g5, g6, g7⟩ := h
  obtain ⟨f1, f2, f3, f4, f5, f6, f7⟩ := h'
  have hk : k = k' := by
    rcases Nat.lt_trichotomy k k' with e | e | e
    · have := g7 i' j' ⟨f1, by (first | lia | omega), f3, by (first | lia | omega)⟩; (first | lia | omega)
    · exact e
    · have := f7 i j ⟨g1, by (first | lia | omega), g3, by (first | lia | omega)⟩; (first | lia | omega)
  subst hk
  rcases Nat.eq_zero_or_pos k with e | e
  · have := g6 e; have := f6 e; (first | lia | omega)
  · have := g7 i' j' ⟨f1, by (first | lia | omega), f3, by (first | lia | omega)⟩
    have := f7 i j ⟨g1, by (first | lia | omega), g3, by (first | lia | omega)⟩
    (first | lia | omega)
/-- the triple as naturals -/
noncomputable def lg (a b : List Nat) (alo ahi blo bhi : Nat) : Nat × Nat × Nat := ((0 - (bestF a b alo ahi blo bhi).2.1).toNat, (0 - (bestF a b alo ahi blo bhi).2.2).toNat, (bestF a b alo ahi blo bhi).1.toNat)
theorem lg_spec {a b : List Nat} {alo ahi blo bhi : Nat} (h0 : alo ≤ ahi) (h1 : blo ≤ bhi) (ha : ahi ≤ a.length) (hb : bhi ≤ b.length) :
    bestF a b alo ahi blo bhi = (((lg a b alo ahi blo bhi).2.2 : Int), 0 - ((lg a b alo ahi blo bhi).1 : Int), 0 - ((lg a b alo ahi blo bhi).2.1 : Int)) ∧ IsLg a b alo ahi blo bhi (lg a b alo ahi blo bhi).1 (lg a b alo ahi blo bhi).2.1 (lg a b alo ahi blo bhi).2.2 := by
  obtain ⟨i, j, k, e, h⟩ := bestF_lg h0 h1 ha hb
  have e1 : lg a b alo ahi blo bhi = (i, j, k) := by
    unfold lg; rw [e]
    have f1 : (0 - (0 - (i : Int))).toNat = i := by (first | lia | omega)
    have f2 : (0 - (0 - (j : Int))).toNat = j := by (first | lia | omega)
    simp only [f1, f2, Int.toNat_natCast]
  rw [e1]
  exact ⟨e, h⟩
end
section
open PySem PySem.W PyProof.Rows PySem.Calls
set_option Elab.async false
set_option maxRecDepth 100000
noncomputable def pieces (a b : List Nat) : Nat → Nat → Nat → Nat → Nat → List (Nat × Nat × Nat)
  | 0, _, _, _, _ => []
  | f + 1, alo, ahi, blo, bhi =>
    if (lg a b alo ahi blo bhi).2.2 = 0 then [] else
      pieces a b f alo (lg a b alo ahi blo bhi).1 blo (lg a b alo ahi blo bhi).2.1 ++ [lg a b alo ahi blo bhi] ++
      pieces a b f ((lg a b alo ahi blo bhi).1 + (lg a b alo ahi blo bhi).2.2) ahi ((lg a b alo ahi blo bhi).2.1 + (lg a b alo ahi blo bhi).2.2) bhi
noncomputable abbrev tupN (p : Nat × Nat × Nat) (t1 t2 t3 : Tok) : Obj := tup3 (p.1 : Int) (p.2.1 : Int) (p.2.2 : Int) t1 t2 t3
/-- values that stand for triples -/
noncomputable def OTR (p : Nat × Nat × Nat) (o : Obj) : Prop := ∃ t1 t2 t3, o = tupN p t1 t2 t3
noncomputable def TR (nw : List (Addr × Obj)) (vs : List Value) (ps : List (Nat × Nat × Nat)) : Prop := TX OTR nw vs ps
theorem TR.nil {nw : List (Addr × Obj)} : TR nw [] [] := TX.nil
theorem TR.mono {nw nw' : List (Addr × Obj)} (k : ∀ p ∈ nw, p ∈ nw') {vs : List Value} {ps : List (Nat × Nat × Nat)} (h : TR nw vs ps) : TR nw' vs ps := TX.map (fun _ _ _ m _ => k _ m) h
theorem TR.append {nw : List (Addr × Obj)} {vs vs' : List Value} {ps ps' : List (Nat × Nat × Nat)} (h : TR nw vs ps) (h' : TR nw vs' ps') : TR nw (vs ++ vs') (ps ++ ps') := TX.append h h'
theorem TR.length {nw : List (Addr × Obj)} {vs : List Value} {ps : List (Nat × Nat × Nat)} (h : TR nw vs ps) : vs.length = ps.length := h.1
theorem TR.one {nw : List (Addr × Obj)} {c : Addr} {p : Nat × Nat × Nat} {t1 t2 t3 : Tok} (h : (c, tupN p t1 t2 t3) ∈ nw) : TR nw [.ref c] [p] := TX.one h ⟨t1, t2, t3, rfl⟩
theorem TR.get {nw : List (Addr × Obj)} {vs : List Value} {ps : List (Nat × Nat × Nat)} {i : Nat} {v : Value} (h : TR nw vs ps) (e : vs[i]? = some v) : ∃ p c t1 t2 t3, ps[i]? = some p ∧ v = .ref c ∧ (c, tupN p t1 t2 t3) ∈ nw := by
  obtain ⟨p, c, _, a, b, m, t1, t2, t3, rfl⟩ := h.2 i v e
  exact ⟨p, c, t1, t2, t3, a, b, m⟩
theorem pieces_length {a b : List Nat} : ∀ (f : Nat) {alo ahi blo bhi : Nat}, alo ≤ ahi → ahi ≤ a.length → blo ≤ bhi → bhi ≤ b.length → (pieces a b f alo ahi blo bhi).length ≤ ahi - alo
  | 0, _, _, _, _, _, _, _, _ => by simp [pieces]
  | f + 1, alo, ahi, blo, bhi, h1, h2, h3, h4 => by
    unfold pieces
    split
    · simp
    · rename_i h0
      obtain ⟨g1, g2, g3, g4, _⟩ := (lg_spec h1 h3 h2 h4).2
      have e1 := pieces_length f (a := a) (b := b) (alo := alo) (ahi := (lg a b alo ahi blo bhi).1) (blo := blo) (bhi := (lg a b alo ahi blo bhi).2.1) g1 (by (first | lia | omega)) g3 (by (first | lia | omega))
      have e2 := pieces_length f (a := a) (b := b) (alo := (lg a b alo ahi blo bhi).1 + (lg a b alo ahi blo bhi).2.2) (ahi := ahi) (blo := (lg a b alo ahi blo bhi).2.1 + (lg a b alo ahi blo bhi).2.2) (bhi := bhi) g2 h2 g4 h4
      simp only [List.length_append, List.length_cons, List.length_nil]
      (first | lia | omega)
section
variable {prog : Program} {w : World} {A : Around} {E : Value → Shared → Prop} {s : Shared} {h₀ : Heap} {L : Addr} {m : Str → Option Value} {news : List (Addr × Obj)}
theorem list_cat {a b : Addr} {vs vs' : List Value} {n n' : Nat} {Q : Value → Shared → Prop} (F : Fr h₀ L s.heap m) (N : News h₀ L s.heap news) (ha : (a, listOf vs.toArray n) ∈ news) (hb : (b, listOf vs'.toArray n') ∈ news) (hz : vs.length + vs'.length ≤ 1000)
    (h : ∀ l h', Fr h₀ L h' m → News h₀ L h' ((l, listOf (vs ++ vs').toArray 0) :: news) → (∀ p ∈ news, p.1 < l) → Q (.ref l) { s with heap := h' }) :
    wpAny (model prog w) A (binaryOp .Add (.ref a) (.ref b)) Q E s := by
  refine kmk_add_lit (its := vs.toArray) (its2 := vs'.toArray) (zs := vs ++ vs') F N ⟨_, (N _ ha).1, rfl, n, rfl⟩ ⟨_, (N _ hb).1, rfl, n', rfl⟩ rfl (fun D h' F' N' l1 => h D h' F' N' l1) ?_
  show vs.length + vs'.length ≤ sizeLine
  simp only [sizeLine]; (first | lia | omega)
end
theorem News_dup {h₀ h : Heap} {L : Addr} {x : Addr × Obj} {rest news : List (Addr × Obj)} (N : News h₀ L h (x :: rest)) (k : ∀ p ∈ news, p ∈ rest) : News h₀ L h (x :: (rest ++ news)) := by
  intro p hp
  rcases List.mem_cons.mp hp with rfl | hp
  · exact N _ (.head _)
  · rcases List.mem_append.mp hp with hp | hp
    · exact N p (.tail _ hp)
    · exact N p (.tail _ (k p hp))
end
section
open PySem PySem.W PyProof.Rows PySem.Calls
set_option Elab.async false
set_option maxRecDepth 100000
noncomputable abbrev NNN := Nat × Nat × Nat
noncomputable def tripD (p : NNN) : PyData := .tuple [.int p.1, .int p.2.1, .int p.2.2]
theorem reads_tup {h₀ h : Heap} {L : Addr} {nw : List (Addr × Obj)} {c : Addr} {p : NNN} {t1 t2 t3 : Tok} (N : News h₀ L h nw) (hc : (c, tupN p t1 t2 t3) ∈ nw) : Reads h (.ref c) (tripD p) [] :=
  reads_tuple_at (N.get hc) rfl rfl (readsAll_cons_val (.int _ _) (readsAll_cons_val (.int _ _) (readsAll_cons_val (.int _ _) .nil)))
theorem TR.reads {h₀ h : Heap} {L : Addr} {nw : List (Addr × Obj)} (N : News h₀ L h nw) {vs : List Value} {ps : List NNN} (t : TR nw vs ps) : ReadsAll h vs (ps.map tripD) [] :=
  TX.reads (fun c o p m q => by obtain ⟨_, _, _, rfl⟩ := q; exact reads_tup N m) t
theorem lay_trips : ∀ ps : List NNN, PyData.canLayAll0 (ps.map tripD) = true
  | [] => rfl
  | p :: r => by simp [PyData.canLayAll0, PyData.canLay0, tripD, lay_trips r]
theorem depth_trips : ∀ ps : List NNN, PyData.depthAll (ps.map tripD) ≤ 1
  | [] => by simp [PyData.depthAll]
  | p :: r => by
    have := depth_trips r
    simp [PyData.depthAll, PyData.depth, tripD]
    (first | lia | omega)
theorem shaped_trips (ps : List NNN) : SeqAt.shaped (.list (ps.map tripD)) = true := by
  have := depth_trips ps
  simp only [SeqAt.shaped, PyData.canLay0, PyData.depth, lay_trips, Bool.true_and]
  exact decide_eq_true (by (first | lia | omega))
theorem eqv_trip (p q : NNN) : PyData.eqv (tripD p) (tripD q) = decide (p = q) := by
  obtain ⟨a, b, c⟩ := p
  obtain ⟨d, e, f⟩ := q
  simp only [tripD, PyData.eqv, PyData.eqvAll, Bool.and_true]
  rw [Bool.eq_iff_iff]
  simp only [Bool.and_eq_true, beq_iff_eq, decide_eq_true_eq, Prod.mk.injEq]
  (first | lia | omega)
theorem eqv_trips : ∀ ps qs : List NNN, PyData.eqvAll (ps.map tripD) (qs.map tripD) = decide (ps = qs)
  | [], [] => by simp [PyData.eqvAll]
  | [], _ :: _ => by simp [PyData.eqvAll]
  | _ :: _, [] => by simp [PyData.eqvAll]
  | a :: r, b :: t => by
    simp only [List.map_cons, PyData.eqvAll, eqv_trip, eqv_trips r t]
    by_cases h : a = b <;> by_cases h' : r = t <;> simp [h, h']
section
variable {prog : Program} {w : World} {A : Around} {E : Value → Shared → Prop} {s : Shared} {h₀ : Heap} {L : Addr} {news nw nw' : List (Addr × Obj)}
theorem ne_trips {l l' : Addr} {vs vs' : List Value} {n n' : Nat} {ps qs : List NNN} {Q : Value → Shared → Prop} (N : News h₀ L s.heap news) (hl : (l, listOf vs.toArray n) ∈ news) (hl' : (l', listOf vs'.toArray n') ∈ news)
    (h1 : TR news vs ps) (h2 : TR news vs' qs) (hu : A.units + 64 < cLine) (h : Q (.bool (!decide (ps = qs))) s) : wpAny (model prog w) A (compareOp .NotEq (.ref l) (.ref l')) Q E s := by
  refine ne_dataH (reads_list_at (N.get hl) rfl rfl (TR.reads N h1)) (reads_list_at (N.get hl') rfl rfl (TR.reads N h2)) (shaped_trips _) (shaped_trips _) hu ?_
  simp only [PyData.eqv, eqv_trips]
  exact h
end
/-- one step of the joining of blocks -/
noncomputable def bstep (found : List NNN) (p : NNN) : List NNN := match found.getLast? with
  | some l => if l.1 + l.2.2 = p.1 ∧ l.2.1 + l.2.2 = p.2.1 then found.dropLast ++ [(l.1, l.2.1, l.2.2 + p.2.2)] else found ++ [p]
  | none => found ++ [p]
noncomputable def blocksF (a b : List Nat) : List NNN := (pieces a b (a.length + 1) 0 a.length 0 b.length).foldl bstep [] ++ [(a.length, b.length, 0)]
theorem bstep_length (found : List NNN) (p : NNN) : (bstep found p).length ≤ found.length + 1 := by
  unfold bstep
  split
  · split
    · simp only [List.length_append, List.length_dropLast, List.length_cons, List.length_nil]; (first | lia | omega)
    · simp
  · simp
theorem foldb_length : ∀ (ps found : List NNN), (ps.foldl bstep found).length ≤ found.length + ps.length
  | [], found => by simp
  | p :: ps, found => by
    have := foldb_length ps (bstep found p)
    have := bstep_length found p
    simp only [List.foldl_cons, List.length_cons]
    (first | lia | omega)
section
variable {prog : Program} {w : World} {A : Around} {E : Value → Shared → Prop} {s : Shared} {h₀ : Heap} {L : Addr} {news : List (Addr × Obj)}
theorem len_s {x : PySem.Str} {t : Tok} {Q : Value → Shared → Prop} (hx : x.cps.size ≤ 100) (h : Q (.int ((x.cps.size : Nat) : Int) (s.toks + 1)) { s with toks := s.toks + 1 + 1 }) : wpAny (model prog w) A (call (.builtin "len") [.str x t]) Q E s :=
  PyProof.Rows.len_str (by show ¬ ((x.cps.size : Nat) : Int) ≥ 2 ^ 63; (first | lia | omega)) h
theorem len_l {l : Addr} {vs : List Value} {n : Nat} {Q : Value → Shared → Prop} (N : News h₀ L s.heap news) (hl : (l, listOf vs.toArray n) ∈ news) (hv : vs.length ≤ 1000) (h : Q (.int ((vs.length : Nat) : Int) (s.toks + 1)) { s with toks := s.toks + 1 + 1 }) :
    wpAny (model prog w) A (call (.builtin "len") [.ref l]) Q E s :=
  call_len_list (items := vs.toArray) ⟨_, (N _ hl).1, rfl, n, rfl⟩ (by simp only [List.size_toArray]; (first | lia | omega)) (by simpa only [List.size_toArray] using h)
end
theorem News_of {h₀ h : Heap} {L : Addr} {x : Addr × Obj} {nx news : List (Addr × Obj)} (N : News h₀ L h nx) (hx : x ∈ nx) (k : ∀ p ∈ news, p ∈ nx) : News h₀ L h (x :: (nx ++ news)) := by
  intro p hp
  rcases List.mem_cons.mp hp with rfl | hp
  · exact N _ hx
  · rcases List.mem_append.mp hp with hp | hp
    · exact N p hp
    · exact N p (k p hp)
section
variable {prog : Program} {w : World} {A : Around} {E : Value → Shared → Prop} {s : Shared} {h₀ : Heap} {L : Addr} {m : Str → Option Value} {news : List (Addr × Obj)} {value slice : PySem.Expr}
theorem slice_to {l : Addr} {vs : List Value} {n : Nat} {y : Int} {t : Tok} {Q : Value → Shared → Prop} (F : Fr h₀ L s.heap m) (N : News h₀ L s.heap news) (hl : (l, listOf vs.toArray n) ∈ news) (h0 : 0 ≤ y) (hv : vs.length ≤ 1000)
    (h : ∀ D h', Fr h₀ L h' m → News h₀ L h' ((D, listOf (vs.take y.toNat).toArray 0) :: news) → (∀ p ∈ news, p.1 < D) → Q (.ref D) { s with heap := h' })
    (hs : subscripted slice false (.ref l) (.ref s.heap.objs.size) = operate [.ref s.heap.objs.size, .ref l] (getItem (.ref l) (.ref s.heap.objs.size)) := by with_unfolding_all rfl) (ht : ∀ r, letTemporaryGo value (.ref l) r = pure () := by intro _; with_unfolding_all rfl) :
    wpAny (model prog w) A (subscriptTail value slice (.ref l) (.ref s.heap.objs.size)) Q E { s with heap := s.heap.push { cls := .type "slice", data := .fields #[.none, .int y t, .none] } } := by
  refine kmk_slice (lo := none) (hi := some y) F N ⟨_, (N _ hl).1, rfl, n, rfl⟩ (by constructor) (by constructor) (fun D h' F' N' l1 => h D h' F' ?_ l1) hs ht (by simp only [List.size_toArray, sizeLine]; (first | lia | omega))
  have e : sliceBounds none (some y) none vs.toArray.size = (((0 : Nat) : Int), ((min y.toNat vs.toArray.size : Nat) : Int), 1) := by
    simp only [sliceBounds, Option.getD_none, show (1 : Int) > 0 by decide, if_true, if_neg (show ¬ (y < 0) by (first | lia | omega))]
    congr 1
    congr 1
    (first | lia | omega)
  rw [kmk_pick_nat _ e] at N'
  simp only [List.drop_zero, Nat.sub_zero, List.size_toArray, kmk_take_min] at N'
  exact N'
end
section
variable {prog : Program} {w : World} {A : Around} {E : Value → Shared → Prop} {s : Shared} {h₀ : Heap} {L : Addr} {news : List (Addr × Obj)} {value slice : PySem.Expr}
theorem tup_idx {c : Addr} {its : List Value} {n : Nat} {k : Int} {u : Tok} {x : Value} {Q : Value → Shared → Prop} (N : News h₀ L s.heap news) (hc : (c, ({ cls := .type "tuple", data := .seq its.toArray n } : Obj)) ∈ news) (h0 : 0 ≤ k) (hk : k < 1000) (hx : its[k.toNat]? = some x) (h : Q x s)
    (hs : subscripted slice false (.ref c) (.int k u) = operate [.ref c, .int k u] (getItem (.ref c) (.int k u)) := by with_unfolding_all rfl) (hg : ∀ r, letTemporaryGo value (.ref c) r = pure () := by intro _; with_unfolding_all rfl) :
    wpAny (model prog w) A (subscriptTail value slice (.ref c) (.int k u)) Q E s := by
  have hlt : k.toNat < its.length := (List.getElem?_eq_some_iff.mp hx).1
  refine item_tupleL (l := its) (j := k.toNat) ⟨_, (N _ hc).1, rfl, n, rfl⟩ (by (first | lia | omega)) (by (first | lia | omega)) ?_ hx h hs hg
  unfold seqIndex?
  have e : ¬ k < 0 := by (first | lia | omega)
  have e2 : k < (its.length : Int) := by (first | lia | omega)
  simp [e, e2, h0]
end
theorem TR.take {nw : List (Addr × Obj)} (k : Nat) {vs : List Value} {ps : List NNN} (t : TR nw vs ps) : TR nw (vs.take k) (ps.take k) := TX.take k t
theorem LPost_two {h₀ h' : Heap} {L I : Addr} {J : (Str → Option Value) → List (Addr × Obj) → Prop} {own nx news' : List (Addr × Obj)} {x y : Addr × Obj} {oI : Obj} {m' : Str → Option Value} {s₁ : Shared} {tk : Nat} {Q : Flow → Shared → Prop}
    (F : Fr h₀ L h' m') (N : News h₀ L h' news') (hx : x ∈ news') (hy : y ∈ news') (hnx : ∀ p ∈ nx, p ∈ news') (hown : ∀ p ∈ own, p ∈ news') (hI : (I, oI) ∈ own) (hit : isIt oI = true) (hnI : ∀ p ∈ nx, p.1 ≠ I)
    (hxo : isIt x.2 = false) (hyo : isIt y.2 = false) (hJ : J m' (x :: y :: nx)) : LPost h₀ L I J own s₁ Q .next { s₁ with heap := h', toks := tk } :=
  LPost_next F N hJ (fun p hp => (List.mem_cons.mp hp).elim (fun e => e ▸ hx) fun hp => (List.mem_cons.mp hp).elim (fun e => e ▸ hy) (hnx p)) hown
    (fun p hp => (List.mem_cons.mp hp).elim (fun e => e ▸ off_it (o := x.2) N hx (hown _ hI) hit hxo) fun hp => (List.mem_cons.mp hp).elim (fun e => e ▸ off_it (o := y.2) N hy (hown _ hI) hit hyo) (hnI p))
theorem bstep_some {found : List NNN} {l p : NNN} (h : found.getLast? = some l) : bstep found p = if l.1 + l.2.2 = p.1 ∧ l.2.1 + l.2.2 = p.2.1 then found.dropLast ++ [(l.1, l.2.1, l.2.2 + p.2.2)] else found ++ [p] := by
  unfold bstep
  rw [h]
end
section
open PySem PySem.W PyProof.Rows PySem.Calls
set_option Elab.async false
set_option maxRecDepth 100000
noncomputable abbrev Win := Nat × Nat × Nat × Nat
noncomputable def VW (a b : List Nat) (w : Win) : Prop := w.1 ≤ w.2.1 ∧ w.2.1 ≤ a.length ∧ w.2.2.1 ≤ w.2.2.2 ∧ w.2.2.2 ≤ b.length
noncomputable def lgW (a b : List Nat) (w : Win) : NNN := lg a b w.1 w.2.1 w.2.2.1 w.2.2.2
noncomputable def pcs (a b : List Nat) (w : Win) : List NNN := pieces a b (w.2.1 - w.1 + 1) w.1 w.2.1 w.2.2.1 w.2.2.2
theorem VW.lg {a b : List Nat} {w : Win} (h : VW a b w) : IsLg a b w.1 w.2.1 w.2.2.1 w.2.2.2 (lgW a b w).1 (lgW a b w).2.1 (lgW a b w).2.2 := (lg_spec h.1 h.2.2.1 h.2.1 h.2.2.2).2
theorem pieces_fuel {a b : List Nat} : ∀ (f f' : Nat) (alo ahi blo bhi : Nat), VW a b (alo, ahi, blo, bhi) → ahi - alo < f → ahi - alo < f' → pieces a b f alo ahi blo bhi = pieces a b f' alo ahi blo bhi
  | 0, _, _, _, _, _, _, h, _ => absurd h (Nat.not_lt_zero _)
  | _ + 1, 0, _, _, _, _, _, _, h => absurd h (Nat.not_lt_zero _)
  | f + 1, f' + 1, alo, ahi, blo, bhi, hv, h, h' => by
    have hl := hv.lg
    obtain ⟨g1, g2, g3, g4, _⟩ := id hl
    obtain ⟨v1, v2, v3, v4⟩ := hv
    simp only [lgW] at g1 g2 g3 g4 v1 v2 v3 v4
    unfold pieces
    by_cases h0 : (lg a b alo ahi blo bhi).2.2 = 0
    · rw [if_pos h0, if_pos h0]
    · rw [if_neg h0, if_neg h0]
      rw [pieces_fuel f f' alo _ blo _ ⟨by simp only; (first | lia | omega), by simp only; (first | lia | omega), by simp only; (first | lia | omega), by simp only; (first | lia | omega)⟩ (by (first | lia | omega)) (by (first | lia | omega))]
      rw [pieces_fuel f f' _ ahi _ bhi ⟨by simp only; (first | lia | omega), by simp only; (first | lia | omega), by simp only; (first | lia | omega), by simp only; (first | lia | omega)⟩ (by (first | lia | omega)) (by (first | lia | omega))]
theorem pcs_zero {a b : List Nat} {w : Win} (h : (lgW a b w).2.2 = 0) : pcs a b w = [] := by
  unfold pcs pieces; exact if_pos h
theorem pcs_empty {a b : List Nat} {w : Win} (hv : VW a b w) (h : w.1 = w.2.1 ∨ w.2.2.1 = w.2.2.2) : pcs a b w = [] := by
  obtain ⟨g1, g2, g3, g4, _⟩ := hv.lg
  exact pcs_zero (by (first | lia | omega))
theorem VW.left {a b : List Nat} {w : Win} (hv : VW a b w) : VW a b (w.1, (lgW a b w).1, w.2.2.1, (lgW a b w).2.1) := by
  obtain ⟨g1, g2, g3, g4, _⟩ := hv.lg
  obtain ⟨v1, v2, v3, v4⟩ := hv
  exact ⟨g1, by simp only; (first | lia | omega), g3, by simp only; (first | lia | omega)⟩
theorem VW.right {a b : List Nat} {w : Win} (hv : VW a b w) : VW a b ((lgW a b w).1 + (lgW a b w).2.2, w.2.1, (lgW a b w).2.1 + (lgW a b w).2.2, w.2.2.2) := by
  obtain ⟨g1, g2, g3, g4, _⟩ := hv.lg
  obtain ⟨v1, v2, v3, v4⟩ := hv
  exact ⟨g2, v2, g4, v4⟩
theorem pcs_unfold {a b : List Nat} {w : Win} (hv : VW a b w) (h : (lgW a b w).2.2 ≠ 0) :
    pcs a b w = pcs a b (w.1, (lgW a b w).1, w.2.2.1, (lgW a b w).2.1) ++ [lgW a b w] ++ pcs a b ((lgW a b w).1 + (lgW a b w).2.2, w.2.1, (lgW a b w).2.1 + (lgW a b w).2.2, w.2.2.2) := by
  obtain ⟨g1, g2, g3, g4, _⟩ := hv.lg
  have h1 := hv.left
  have h2 := hv.right
  show pieces a b (w.2.1 - w.1 + 1) w.1 w.2.1 w.2.2.1 w.2.2.2 = _
  unfold pieces
  show (if (lgW a b w).2.2 = 0 then _ else _) = _
  rw [if_neg h]
  congr 1
  · congr 1
    exact pieces_fuel _ _ _ _ _ _ h1 (by show (lgW a b w).1 - w.1 < w.2.1 - w.1; (first | lia | omega)) (by show _ < (lgW a b w).1 - w.1 + 1; exact Nat.lt_succ_self _)
  · exact pieces_fuel _ _ _ _ _ _ h2 (by show w.2.1 - ((lgW a b w).1 + (lgW a b w).2.2) < w.2.1 - w.1; (first | lia | omega)) (Nat.lt_succ_self _)
/-- where pieces lie -/
noncomputable def InW (w : Win) (p : NNN) : Prop := w.1 ≤ p.1 ∧ p.1 + p.2.2 ≤ w.2.1 ∧ w.2.2.1 ≤ p.2.1 ∧ p.2.1 + p.2.2 ≤ w.2.2.2 ∧ 0 < p.2.2
theorem pcs_spec {a b : List Nat} : ∀ (n : Nat) (w : Win), w.2.1 - w.1 ≤ n → VW a b w → (∀ p ∈ pcs a b w, InW w p) ∧ (pcs a b w).Pairwise (fun p q => p.1 < q.1) := by
  intro n
  induction n with
  | zero =>
    intro w hn hv
    rw [pcs_empty hv (.inl (by have := hv.1; (first | lia | omega)))]
    exact ⟨fun p hp => (nomatch hp), .nil⟩
  | succ n ih =>
    intro w hn hv
    obtain ⟨g1, g2, g3, g4, _⟩ := hv.lg
    by_cases h : (lgW a b w).2.2 = 0
    · rw [pcs_zero h]; exact ⟨fun p hp => (nomatch hp), .nil⟩
    · rw [pcs_unfold hv h]
      obtain ⟨a1, a2⟩ := ih _ (by simp only; (first | lia | omega)) hv.left
      obtain ⟨b1, b2⟩ := ih _ (by simp only; (first | lia | omega)) hv.right
      refine ⟨fun p hp => ?_, ?_⟩
      · rcases List.mem_append.mp hp with hp | hp
        · rcases List.mem_append.mp hp with hp | hp
          · obtain ⟨c1, c2, c3, c4, c5⟩ := a1 p hp
            simp only at c1 c2 c3 c4
            exact ⟨c1, by (first | lia | omega), c3, by (first | lia | omega), c5⟩
          · rw [List.mem_singleton.mp hp]
            exact ⟨g1, g2, g3, g4, by (first | lia | omega)⟩
        · obtain ⟨c1, c2, c3, c4, c5⟩ := b1 p hp
          simp only at c1 c2 c3 c4
          exact ⟨by (first | lia | omega), c2, by (first | lia | omega), c4, c5⟩
      · rw [List.pairwise_append, List.pairwise_append]
        refine ⟨⟨a2, by simp, fun p hp q hq => ?_⟩, b2, fun p hp q hq => ?_⟩
        · rw [List.mem_singleton.mp hq]
          obtain ⟨c1, c2, c3, c4, c5⟩ := a1 p hp
          simp only at c2
          (first | lia | omega)
        · obtain ⟨d1, d2, d3, d4, d5⟩ := b1 q hq
          simp only at d1
          rcases List.mem_append.mp hp with hp | hp
          · obtain ⟨c1, c2, c3, c4, c5⟩ := a1 p hp
            simp only at c2
            (first | lia | omega)
          · rw [List.mem_singleton.mp hp]; (first | lia | omega)
/-- the work that is left in a queue of windows -/
noncomputable def wk : List Win → Nat
  | [] => 0
  | w :: r => 2 * (w.2.1 - w.1) + 1 + wk r
theorem wk_append : ∀ x y : List Win, wk (x ++ y) = wk x + wk y
  | [], y => by simp [wk]
  | w :: r, y => by simp only [List.cons_append, wk, wk_append r y]; (first | lia | omega)
theorem len_wk : ∀ x : List Win, x.length ≤ wk x
  | [] => Nat.le_refl _
  | w :: r => by have := len_wk r; simp only [List.length_cons, wk]; (first | lia | omega)
/-- the state of the loop over the queue -/
noncomputable def QI (a b : List Nat) (qs : List Win) (found : List NNN) : Prop := (∀ w ∈ qs, VW a b w) ∧ (found ++ qs.flatMap (pcs a b)).Perm (pcs a b (0, a.length, 0, b.length))
theorem QI.start {a b : List Nat} : QI a b [(0, a.length, 0, b.length)] [] := by
  refine ⟨fun w hw => ?_, ?_⟩
  · rw [List.mem_singleton.mp hw]; exact ⟨Nat.zero_le _, Nat.le_refl _, Nat.zero_le _, Nat.le_refl _⟩
  · simp
theorem QI.length {a b : List Nat} {qs : List Win} {found : List NNN} (h : QI a b qs found) : found.length ≤ a.length := by
  have e := h.2.length_eq
  have := pieces_length (a := a) (b := b) (a.length - 0 + 1) (alo := 0) (ahi := a.length) (blo := 0) (bhi := b.length) (Nat.zero_le _) (Nat.le_refl _) (Nat.zero_le _) (Nat.le_refl _)
  have e2 : (pcs a b (0, a.length, 0, b.length)).length = (pieces a b (a.length - 0 + 1) 0 a.length 0 b.length).length := rfl
  simp only [List.length_append] at e
  (first | lia | omega)
theorem QI.skip {a b : List Nat} {qs : List Win} {w : Win} {found : List NNN} (h : QI a b (qs ++ [w]) found) (h0 : (lgW a b w).2.2 = 0) : QI a b qs found := by
  obtain ⟨h1, h2⟩ := h
  refine ⟨fun v hv => h1 v (List.mem_append_left _ hv), ?_⟩
  simpa [pcs_zero h0] using h2
theorem QI.take {a b : List Nat} {qs x y : List Win} {w : Win} {found : List NNN} (h : QI a b (qs ++ [w]) found) (h0 : (lgW a b w).2.2 ≠ 0)
    (hx : x = [(w.1, (lgW a b w).1, w.2.2.1, (lgW a b w).2.1)] ∨ (x = [] ∧ (w.1 = (lgW a b w).1 ∨ w.2.2.1 = (lgW a b w).2.1)))
    (hy : y = [((lgW a b w).1 + (lgW a b w).2.2, w.2.1, (lgW a b w).2.1 + (lgW a b w).2.2, w.2.2.2)] ∨ (y = [] ∧ ((lgW a b w).1 + (lgW a b w).2.2 = w.2.1 ∨ (lgW a b w).2.1 + (lgW a b w).2.2 = w.2.2.2))) :
    QI a b (qs ++ x ++ y) (found ++ [lgW a b w]) ∧ wk (qs ++ x ++ y) < wk (qs ++ [w]) := by
  obtain ⟨h1, h2⟩ := h
  have hv := h1 w (by simp)
  obtain ⟨g1, g2, g3, g4, _⟩ := hv.lg
  have ex : x.flatMap (pcs a b) = pcs a b (w.1, (lgW a b w).1, w.2.2.1, (lgW a b w).2.1) := by
    rcases hx with rfl | ⟨rfl, e⟩
    · simp
    · rw [pcs_empty hv.left e]; rfl
  have ey : y.flatMap (pcs a b) = pcs a b ((lgW a b w).1 + (lgW a b w).2.2, w.2.1, (lgW a b w).2.1 + (lgW a b w).2.2, w.2.2.2) := by
    rcases hy with rfl | ⟨rfl, e⟩
    · simp
    · rw [pcs_empty hv.right e]; rfl
  refine ⟨⟨fun v hm => ?_, ?_⟩, ?_⟩
  · rcases List.mem_append.mp hm with hm | hm
    · rcases List.mem_append.mp hm with hm | hm
      · exact h1 v (List.mem_append_left _ hm)
      · rcases hx with rfl | ⟨rfl, _⟩
        · rw [List.mem_singleton.mp hm]; exact hv.left
        · simp at hm
    · rcases hy with rfl | ⟨rfl, _⟩
      · rw [List.mem_singleton.mp hm]; exact hv.right
      · simp at hm
  · refine List.Perm.trans ?_ h2
    simp only [List.flatMap_append, ex, ey, List.flatMap_cons, List.flatMap_nil, List.append_nil, pcs_unfold hv h0]
    simp only [List.append_assoc]
    refine List.Perm.append_left _ ?_
    refine List.Perm.trans (List.perm_append_comm_assoc _ _ _) (List.Perm.append_left _ ?_)
    exact List.perm_append_comm_assoc _ _ _
  · simp only [wk_append, wk]
    have e1 : wk x ≤ 2 * ((lgW a b w).1 - w.1) + 1 := by
      rcases hx with rfl | ⟨rfl, _⟩
      · simp [wk]
      · simp [wk]
    have e2 : wk y ≤ 2 * (w.2.1 - ((lgW a b w).1 + (lgW a b w).2.2)) + 1 := by
      rcases hy with rfl | ⟨rfl, _⟩
      · simp [wk]
      · simp [wk]
    (first | lia | omega)
theorem QI.fin {a b : List Nat} {found : List NNN} (h : QI a b [] found) : found.Perm (pcs a b (0, a.length, 0, b.length)) := by simpa using h.2
theorem VW.all {a b : List Nat} : VW a b (0, a.length, 0, b.length) := ⟨Nat.zero_le _, Nat.le_refl _, Nat.zero_le _, Nat.le_refl _⟩
theorem QI.ne {a b : List Nat} {found : List NNN} (h : QI a b [] found) : found.Pairwise fun p q => p.1 ≠ q.1 := by
  have := (pcs_spec (a := a) (b := b) _ _ (Nat.le_refl _) VW.all).2
  refine h.fin.symm.pairwise (this.imp fun h => Nat.ne_of_lt h) fun {x y} h => Ne.symm h
theorem sorted_uniq : ∀ {x y : List NNN}, x.Perm y → x.Pairwise (fun p q => p.1 < q.1) → y.Pairwise (fun p q => p.1 < q.1) → x = y
  | [], y, h, _, _ => h.nil_eq
  | p :: r, [], h, _, _ => by have := h.length_eq; simp at this
  | p :: r, q :: t, h, h1, h2 => by
    have e : p = q := by
      have m1 := h.mem_iff.mp (List.mem_cons_self (a := p) (l := r))
      have m2 := h.mem_iff.mpr (List.mem_cons_self (a := q) (l := t))
      rcases List.mem_cons.mp m1 with e | m1
      · exact e
      · rcases List.mem_cons.mp m2 with e | m2
        · exact e.symm
        · have := (List.pairwise_cons.mp h1).1 _ m2
          have := (List.pairwise_cons.mp h2).1 _ m1
          (first | lia | omega)
    subst e
    rw [sorted_uniq (h.cons_inv) (List.pairwise_cons.mp h1).2 (List.pairwise_cons.mp h2).2]
theorem QI.sorted {a b : List Nat} {found ps : List NNN} (h : QI a b [] found) (hp : ps.Perm found) (hs : ps.Pairwise (fun p q => p.1 < q.1)) : ps = pcs a b (0, a.length, 0, b.length) :=
  sorted_uniq (hp.trans h.fin) hs (pcs_spec (a := a) (b := b) _ _ (Nat.le_refl _) VW.all).2
/-- the joining of get_matching_blocks -/
noncomputable def gstep (st : List NNN × NNN) (p : NNN) : List NNN × NNN :=
  if st.2.1 + st.2.2.2 = p.1 ∧ st.2.2.1 + st.2.2.2 = p.2.1 then (st.1, st.2.1, st.2.2.1, st.2.2.2 + p.2.2) else (if st.2.2.2 = 0 then st.1 else st.1 ++ [st.2], p)
noncomputable def gout (st : List NNN × NNN) : List NNN := if st.2.2.2 = 0 then st.1 else st.1 ++ [st.2]
noncomputable def GR (st : List NNN × NNN) (found : List NNN) : Prop := (st = ([], 0, 0, 0) ∧ found = []) ∨ (st.2.2.2 ≠ 0 ∧ found = st.1 ++ [st.2])
theorem GR.step {st : List NNN × NNN} {found : List NNN} {p : NNN} (h : GR st found) (hp : 0 < p.2.2) : GR (gstep st p) (bstep found p) := by
  rcases h with ⟨rfl, rfl⟩ | ⟨h, rfl⟩
  · right
    unfold gstep bstep
    simp only [List.getLast?_nil]
    split
    · rename_i e
      obtain ⟨p1, p2, p3⟩ := p
      simp only at e hp ⊢
      obtain ⟨e1, e2⟩ := e
      exact ⟨by (first | lia | omega), by simp [← e1, ← e2]⟩
    · exact ⟨by simp only; (first | lia | omega), by simp⟩
  · right
    rw [bstep_some (l := st.2) (by simp)]
    unfold gstep
    split
    · refine ⟨by simp only; (first | lia | omega), by simp⟩
    · exact ⟨by simp only; (first | lia | omega), by simp⟩
theorem GR.fold : ∀ (ps : List NNN) {st : List NNN × NNN} {found : List NNN}, (∀ p ∈ ps, 0 < p.2.2) → GR st found → GR (ps.foldl gstep st) (ps.foldl bstep found)
  | [], _, _, _, h => h
  | p :: ps, _, _, hp, h => GR.fold ps (fun q hq => hp q (.tail _ hq)) (h.step (hp p (.head _)))
theorem GR.out {st : List NNN × NNN} {found : List NNN} (h : GR st found) : gout st = found := by
  unfold gout
  rcases h with ⟨rfl, rfl⟩ | ⟨h, rfl⟩
  · rfl
  · rw [if_neg h]
theorem gout_blocks (a b : List Nat) : gout ((pcs a b (0, a.length, 0, b.length)).foldl gstep ([], 0, 0, 0)) ++ [(a.length, b.length, 0)] = blocksF a b := by
  have h := (GR.fold (pcs a b (0, a.length, 0, b.length)) (st := ([], 0, 0, 0)) (found := []) (fun p hp => ((pcs_spec (a := a) (b := b) _ _ (Nat.le_refl _) VW.all).1 p hp).2.2.2.2) (.inl ⟨rfl, rfl⟩)).out
  rw [h]
  rfl
theorem gstep_length (st : List NNN × NNN) (p : NNN) : (gstep st p).1.length ≤ st.1.length + 1 := by
  unfold gstep; split
  · simp
  · simp only; split <;> simp
theorem foldg_length : ∀ (ps : List NNN) (st : List NNN × NNN), (ps.foldl gstep st).1.length ≤ st.1.length + ps.length
  | [], st => by simp
  | p :: ps, st => by
    have := foldg_length ps (gstep st p)
    have := gstep_length st p
    simp only [List.foldl_cons, List.length_cons]
    (first | lia | omega)
end
section
open PySem PySem.W PyProof.Rows PySem.Calls
set_option Elab.async false
set_option maxRecDepth 100000
/-- how many signs two bags share -/
noncomputable def qm : List Nat → List Nat → Nat
  | [], _ => 0
  | x :: xs, ys => if x ∈ ys then qm xs (ys.erase x) + 1 else qm xs ys
theorem qm_le1 : ∀ (xs ys : List Nat), qm xs ys ≤ xs.length
  | [], _ => Nat.le_refl _
  | x :: xs, ys => by
    unfold qm
    have h1 := qm_le1 xs (ys.erase x)
    have h2 := qm_le1 xs ys
    split <;> simp only [List.length_cons] <;> (first | lia | omega)
theorem qm_le2 : ∀ (xs ys : List Nat), qm xs ys ≤ ys.length
  | [], _ => Nat.zero_le _
  | x :: xs, ys => by
    unfold qm
    split
    · rename_i h
      have h1 := qm_le2 xs (ys.erase x)
      have h2 := List.length_erase_of_mem h
      have h3 := List.length_pos_of_mem h
      (first | lia | omega)
    · exact qm_le2 xs ys
theorem sub_qm : ∀ (xs ys z : List Nat), z.Sublist xs → (∀ c, z.count c ≤ ys.count c) → z.length ≤ qm xs ys
  | [], ys, z, h, _ => by rw [List.sublist_nil.mp h]; exact Nat.zero_le _
  | x :: xs, ys, z, h, hc => by
    unfold qm
    by_cases hx : x ∈ ys
    · rw [if_pos hx]
      have key : ∀ z' : List Nat, z'.Sublist xs → (∀ c, z'.count c + (if c = x then 1 else 0) ≤ ys.count c) → z'.length ≤ qm xs (ys.erase x) := fun z' h' hc' => by
        refine sub_qm xs (ys.erase x) z' h' fun c => ?_
        have := hc' c
        rw [List.count_erase]
        by_cases e : c = x
        · subst e; simp at this ⊢; (first | lia | omega)
        · have e2 : ¬ x = c := fun q => e q.symm
          simp [e, e2] at this ⊢; (first | lia | omega)
      rcases List.sublist_cons_iff.mp h with h' | ⟨z', rfl, h'⟩
      · by_cases hz : x ∈ z
        · have := key (z.erase x) (List.erase_sublist.trans h') fun c => by
            have := hc c
            rw [List.count_erase]
            by_cases e : c = x
            · subst e
              have := List.count_pos_iff.mpr hz
              simp; (first | lia | omega)
            · have e2 : ¬ x = c := fun q => e q.symm
              simp [e, e2]; (first | lia | omega)
          have h2 := List.length_erase_of_mem hz
          have h3 := List.length_pos_of_mem hz
          (first | lia | omega)
        · have := key z h' fun c => by
            have := hc c
            by_cases e : c = x
            · subst e
              have h1 := List.count_eq_zero.mpr hz
              have h2 := List.count_pos_iff.mpr hx
              simp; (first | lia | omega)
            · simp [e]; (first | lia | omega)
          (first | lia | omega)
      · have := key z' h' fun c => by
          have := hc c
          rw [List.count_cons] at this
          by_cases e : c = x
          · subst e; simpa using this
          · have e2 : ¬ x = c := fun q => e q.symm
            simp [e, e2] at this ⊢; (first | lia | omega)
        simp only [List.length_cons]; (first | lia | omega)
    · rw [if_neg hx]
      rcases List.sublist_cons_iff.mp h with h' | ⟨z', rfl, h'⟩
      · exact sub_qm xs ys z h' hc
      · have h1 := hc x
        have h2 := List.count_eq_zero.mpr hx
        rw [List.count_cons] at h1
        simp at h1
        (first | lia | omega)
/-- the step of quick_ratio -/
noncomputable def qstep (ys : List Nat) (st : List Nat × Nat) (x : Nat) : List Nat × Nat := (st.1 ++ [x], st.2 + (if st.1.count x < ys.count x then 1 else 0))
theorem qstep_fst (ys : List Nat) : ∀ (xs : List Nat) (st : List Nat × Nat), (xs.foldl (qstep ys) st).1 = st.1 ++ xs
  | [], st => by simp
  | x :: xs, st => by rw [List.foldl_cons, qstep_fst ys xs]; simp [qstep]
theorem qfold (ys : List Nat) : ∀ (xs r pre : List Nat) (k : Nat), (∀ c, r.count c = ys.count c - pre.count c) → (xs.foldl (qstep ys) (pre, k)).2 = k + qm xs r
  | [], _, _, _, _ => rfl
  | x :: xs, r, pre, k, h => by
    rw [List.foldl_cons]
    unfold qm
    by_cases hx : x ∈ r
    · rw [if_pos hx]
      have h1 := List.count_pos_iff.mpr hx
      have h2 : pre.count x < ys.count x := by have := h x; (first | lia | omega)
      rw [show qstep ys (pre, k) x = (pre ++ [x], k + 1) by simp only [qstep]; rw [if_pos h2], qfold ys xs (r.erase x) (pre ++ [x]) (k + 1) fun c => ?_]
      · (first | lia | omega)
      · have := h c
        rw [List.count_erase, List.count_append, List.count_cons, List.count_nil]
        by_cases e : c = x
        · subst e; simp; (first | lia | omega)
        · have e2 : ¬ x = c := fun q => e q.symm
          simp [e, e2]; (first | lia | omega)
    · rw [if_neg hx]
      have h1 := List.count_eq_zero.mpr hx
      have h2 : ¬ pre.count x < ys.count x := by have := h x; (first | lia | omega)
      rw [show qstep ys (pre, k) x = (pre ++ [x], k + 0) by simp only [qstep]; rw [if_neg h2], qfold ys xs r (pre ++ [x]) (k + 0) fun c => ?_]
      · (first | lia | omega)
      · have := h c
        rw [List.count_append, List.count_cons, List.count_nil]
        by_cases e : c = x
        · subst e; simp; (first | lia | omega)
        · have e2 : ¬ x = c := fun q => e q.symm
          simp [e, e2]; (first | lia | omega)
theorem qfold0 (xs ys : List Nat) : (xs.foldl (qstep ys) ([], 0)).2 = qm xs ys := by
  rw [qfold ys xs ys [] 0 (fun c => by simp)]; (first | lia | omega)
noncomputable def szs (ps : List NNN) : Nat := (ps.map fun p => p.2.2).sum
theorem szs_append (x y : List NNN) : szs (x ++ y) = szs x + szs y := by simp [szs]
theorem cut_split (a : List Nat) {x y z : Nat} (h1 : x ≤ y) (h2 : y ≤ z) : cut a x z = cut a x y ++ cut a y z := by
  unfold cut
  have e : a.take z = a.take y ++ (a.take z).drop y := by
    have := (List.take_append_drop y (a.take z)).symm
    rwa [List.take_take, Nat.min_eq_left h2] at this
  by_cases hy : y ≤ a.length
  · conv => lhs; rw [e]
    rw [List.drop_append_of_le_length (by rw [List.length_take]; (first | lia | omega))]
  · have e1 : a.take z = a.take y := by rw [List.take_of_length_le (by (first | lia | omega)), List.take_of_length_le (by (first | lia | omega))]
    rw [e1, List.drop_of_length_le (l := a.take y) (i := y) (by rw [List.length_take]; (first | lia | omega)), List.append_nil]
theorem cut_same {a b : List Nat} {ahi bhi i j k : Nat} (ha : ahi ≤ a.length) (hb : bhi ≤ b.length) (h1 : i + k ≤ ahi) (h2 : j + k ≤ bhi) (h : k ≤ lw a b ahi bhi i j) : cut a i (i + k) = cut b j (j + k) := by
  apply List.ext_getElem
  · rw [cut_length _ _ _ (by (first | lia | omega)), cut_length _ _ _ (by (first | lia | omega))]; (first | lia | omega)
  · intro t ht ht'
    rw [cut_length _ _ _ (by (first | lia | omega))] at ht
    have g : ∀ (l : List Nat) (n : Nat) (hn : n < l.length), l[n] = l.getD n 0 := fun l n hn => by simp [hn]
    rw [g _ _ _, g _ _ _, cut_getD _ _ _ _ (by (first | lia | omega)), cut_getD _ _ _ _ (by (first | lia | omega))]
    exact ((lcw_lt (a := a) (b := b) (i := i) (j := j) (k := t) ha hb (by have : lw a b ahi bhi i j = lce (cut a i ahi) (cut b j bhi) := rfl; (first | lia | omega))).mp (by have : lw a b ahi bhi i j = lce (cut a i ahi) (cut b j bhi) := rfl; (first | lia | omega))).2.2
theorem pcs_common {a b : List Nat} : ∀ (n : Nat) (w : Win), w.2.1 - w.1 ≤ n → VW a b w → ∃ z : List Nat, z.Sublist (cut a w.1 w.2.1) ∧ z.Sublist (cut b w.2.2.1 w.2.2.2) ∧ z.length = szs (pcs a b w) := by
  intro n
  induction n with
  | zero =>
    intro w hn hv
    rw [pcs_empty hv (.inl (by have := hv.1; (first | lia | omega)))]
    exact ⟨[], List.nil_sublist _, List.nil_sublist _, rfl⟩
  | succ n ih =>
    intro w hn hv
    obtain ⟨g1, g2, g3, g4, g5, _⟩ := hv.lg
    have hvv := id hv
    obtain ⟨v1, v2, v3, v4⟩ := hvv
    by_cases h : (lgW a b w).2.2 = 0
    · rw [pcs_zero h]; exact ⟨[], List.nil_sublist _, List.nil_sublist _, rfl⟩
    · rw [pcs_unfold hv h]
      obtain ⟨z1, a1, a2, a3⟩ := ih _ (by simp only; (first | lia | omega)) hv.left
      obtain ⟨z2, b1, b2, b3⟩ := ih _ (by simp only; (first | lia | omega)) hv.right
      simp only at a1 a2 b1 b2
      have hs := cut_same v2 v4 g2 g4 g5
      refine ⟨z1 ++ cut a (lgW a b w).1 ((lgW a b w).1 + (lgW a b w).2.2) ++ z2, ?_, ?_, ?_⟩
      · rw [cut_split a g1 (show (lgW a b w).1 ≤ w.2.1 by (first | lia | omega)), cut_split a (show (lgW a b w).1 ≤ (lgW a b w).1 + (lgW a b w).2.2 by (first | lia | omega)) g2, ← List.append_assoc]
        exact (a1.append (List.Sublist.refl _)).append b1
      · rw [cut_split b g3 (show (lgW a b w).2.1 ≤ w.2.2.2 by (first | lia | omega)), cut_split b (show (lgW a b w).2.1 ≤ (lgW a b w).2.1 + (lgW a b w).2.2 by (first | lia | omega)) g4, ← List.append_assoc, hs]
        exact (a2.append (List.Sublist.refl _)).append b2
      · rw [szs_append, szs_append]
        simp only [List.length_append, a3, b3]
        rw [cut_length _ _ _ (by (first | lia | omega))]
        simp only [szs, List.map_cons, List.map_nil, List.sum_cons, List.sum_nil]
        (first | lia | omega)
theorem szs_bstep (found : List NNN) (p : NNN) : szs (bstep found p) = szs found + p.2.2 := by
  unfold bstep
  cases hl : found.getLast? with
  | none => simp [szs_append, szs]
  | some l =>
    have hne : found ≠ [] := fun e => by rw [e] at hl; simp at hl
    have e : found = found.dropLast ++ [l] := by
      have h1 := List.dropLast_concat_getLast hne
      have h2 : found.getLast hne = l := by rw [List.getLast?_eq_some_getLast hne] at hl; exact Option.some.inj hl
      rw [h2] at h1; exact h1.symm
    simp only
    split
    · conv => rhs; rw [e]
      simp [szs_append, szs]; (first | lia | omega)
    · simp [szs_append, szs]
theorem szs_fold : ∀ (ps found : List NNN), szs (ps.foldl bstep found) = szs found + szs ps
  | [], found => by simp [szs]
  | p :: ps, found => by
    rw [List.foldl_cons, szs_fold ps, szs_bstep]
    simp [szs]; (first | lia | omega)
theorem szs_blocks (a b : List Nat) : szs (blocksF a b) = szs (pcs a b (0, a.length, 0, b.length)) := by
  unfold blocksF
  rw [szs_append, szs_fold]
  show szs [] + szs (pcs a b (0, a.length, 0, b.length)) + szs [(a.length, b.length, 0)] = _
  simp [szs]
theorem cut_all (a : List Nat) : cut a 0 a.length = a := by simp [cut]
theorem szs_qm (a b : List Nat) : szs (blocksF a b) ≤ qm a b := by
  rw [szs_blocks]
  obtain ⟨z, h1, h2, h3⟩ := pcs_common (a := a) (b := b) _ (0, a.length, 0, b.length) (Nat.le_refl _) VW.all
  simp only at h1 h2
  rw [cut_all] at h1 h2
  rw [← h3]
  exact sub_qm a b z h1 fun c => h2.count_le c
theorem blocksF_length (a b : List Nat) : (blocksF a b).length ≤ a.length + 1 := by
  unfold blocksF
  have e2 := foldb_length (pieces a b (a.length + 1) 0 a.length 0 b.length) []
  have := pieces_length (a := a) (b := b) (a.length + 1) (alo := 0) (ahi := a.length) (blo := 0) (bhi := b.length) (Nat.zero_le _) (Nat.le_refl _) (Nat.zero_le _) (Nat.le_refl _)
  simp only [List.length_append, List.length_cons, List.length_nil] at e2 ⊢
  (first | lia | omega)
end
section
open PySem PySem.W PyProof.Rows PySem.Calls
set_option Elab.async false
set_option maxRecDepth 100000
noncomputable abbrev Cd := String × Nat × Nat × Nat × Nat
noncomputable abbrev tupC (p : Cd) (t0 t1 t2 t3 t4 : Tok) : Obj := { cls := .type "tuple", data := .seq [Value.str (Str.ofString p.1) t0, .int (p.2.1 : Int) t1, .int (p.2.2.1 : Int) t2, .int (p.2.2.2.1 : Int) t3, .int (p.2.2.2.2 : Int) t4].toArray }
/-- values that stand for codes -/
noncomputable def OTC (p : Cd) (o : Obj) : Prop := ∃ t0 t1 t2 t3 t4, o = tupC p t0 t1 t2 t3 t4
noncomputable def TC (nw : List (Addr × Obj)) (vs : List Value) (ps : List (Cd)) : Prop := TX OTC nw vs ps
theorem TC.nil {nw : List (Addr × Obj)} : TC nw [] [] := TX.nil
theorem TC.mono {nw nw' : List (Addr × Obj)} (k : ∀ p ∈ nw, p ∈ nw') {vs : List Value} {ps : List (Cd)} (h : TC nw vs ps) : TC nw' vs ps := TX.map (fun _ _ _ m _ => k _ m) h
theorem TC.append {nw : List (Addr × Obj)} {vs vs' : List Value} {ps ps' : List (Cd)} (h : TC nw vs ps) (h' : TC nw vs' ps') : TC nw (vs ++ vs') (ps ++ ps') := TX.append h h'
theorem TC.length {nw : List (Addr × Obj)} {vs : List Value} {ps : List (Cd)} (h : TC nw vs ps) : vs.length = ps.length := h.1
theorem TC.one {nw : List (Addr × Obj)} {c : Addr} {p : Cd} {t0 t1 t2 t3 t4 : Tok} (h : (c, tupC p t0 t1 t2 t3 t4) ∈ nw) : TC nw [.ref c] [p] := TX.one h ⟨t0, t1, t2, t3, t4, rfl⟩
theorem TC.get {nw : List (Addr × Obj)} {vs : List Value} {ps : List Cd} {i : Nat} {v : Value} (h : TC nw vs ps) (e : vs[i]? = some v) : ∃ p c t0 t1 t2 t3 t4, ps[i]? = some p ∧ v = .ref c ∧ (c, tupC p t0 t1 t2 t3 t4) ∈ nw := by
  obtain ⟨p, c, _, a, b, m, t0, t1, t2, t3, t4, rfl⟩ := h.2 i v e
  exact ⟨p, c, t0, t1, t2, t3, t4, a, b, m⟩
noncomputable def codeD (p : Cd) : PyData := .tuple [.str (Str.ofString p.1), .int p.2.1, .int p.2.2.1, .int p.2.2.2.1, .int p.2.2.2.2]
theorem reads_cd {h₀ h : Heap} {L : Addr} {nw : List (Addr × Obj)} {c : Addr} {p : Cd} {t0 t1 t2 t3 t4 : Tok} (N : News h₀ L h nw) (hc : (c, tupC p t0 t1 t2 t3 t4) ∈ nw) : Reads h (.ref c) (codeD p) [] :=
  reads_tuple_at (N.get hc) rfl rfl (readsAll_cons_val (.str _ _) (readsAll_cons_val (.int _ _) (readsAll_cons_val (.int _ _) (readsAll_cons_val (.int _ _) (readsAll_cons_val (.int _ _) .nil)))))
theorem TC.reads {h₀ h : Heap} {L : Addr} {nw : List (Addr × Obj)} (N : News h₀ L h nw) {vs : List Value} {ps : List Cd} (t : TC nw vs ps) : ReadsAll h vs (ps.map codeD) [] :=
  TX.reads (fun c o p m q => by obtain ⟨_, _, _, _, _, rfl⟩ := q; exact reads_cd N m) t
/-- the step of the codes: found, i, j -/
noncomputable def cstep (st : List Cd × Nat × Nat) (p : NNN) : List Cd × Nat × Nat :=
  (st.1 ++ (if st.2.1 < p.1 ∨ st.2.2 < p.2.1 then [(if st.2.1 < p.1 ∧ st.2.2 < p.2.1 then "replace" else if st.2.1 < p.1 then "delete" else "insert", st.2.1, p.1, st.2.2, p.2.1)] else [])
    ++ (if 0 < p.2.2 then [("equal", p.1, p.1 + p.2.2, p.2.1, p.2.1 + p.2.2)] else []), p.1 + p.2.2, p.2.1 + p.2.2)
noncomputable def codesF (ps : List NNN) : List Cd := (ps.foldl cstep ([], 0, 0)).1
theorem cstep_length (st : List Cd × Nat × Nat) (p : NNN) : (cstep st p).1.length ≤ st.1.length + 2 := by
  unfold cstep
  simp only [List.length_append]
  have e1 : ∀ (c : Prop) [Decidable c] (x : Cd), (if c then [x] else []).length ≤ 1 := fun c _ x => by split <;> simp
  have := e1 (st.2.1 < p.1 ∨ st.2.2 < p.2.1) (if st.2.1 < p.1 ∧ st.2.2 < p.2.1 then "replace" else if st.2.1 < p.1 then "delete" else "insert", st.2.1, p.1, st.2.2, p.2.1)
  have := e1 (0 < p.2.2) ("equal", p.1, p.1 + p.2.2, p.2.1, p.2.1 + p.2.2)
  (first | lia | omega)
theorem foldc_length : ∀ (ps : List NNN) (st : List Cd × Nat × Nat), (ps.foldl cstep st).1.length ≤ st.1.length + 2 * ps.length
  | [], st => by simp
  | p :: ps, st => by
    have := foldc_length ps (cstep st p)
    have := cstep_length st p
    simp only [List.foldl_cons, List.length_cons]
    (first | lia | omega)
section
variable {prog : Program} {w : World} {A : Around} {E : Value → Shared → Prop} {s : Shared} {h₀ : Heap} {L D : Addr} {m : Str → Option Value} {news news' : List (Addr × Obj)}
theorem append_L {vs : List Value} {n : Nat} {x : Value} {Q : Value → Shared → Prop} (F : Fr h₀ L s.heap m) (N : News h₀ L s.heap news) (U : Upd D (listOf vs.toArray n) (listOf (vs ++ [x]).toArray (n + 1)) news news') (hv : vs.length ≤ 1000)
    (h : ∀ h', Fr h₀ L h' m → News h₀ L h' news' → Q .none { s with heap := h' }) : wpAny (model prog w) A (call (.builtin "list.append") [.ref D, x]) Q E s := by
  have e : (vs ++ [x]).toArray = vs.toArray.push x := by simp
  rw [e] at U
  exact append_K F N U h (by simp only [List.size_toArray, sizeLine]; (first | lia | omega))
end
theorem News_ne {h₀ h : Heap} {L a : Addr} {o : Obj} {news : List (Addr × Obj)} (N : News h₀ L h news) (ha : (a, o) ∈ news) : a ≠ L := (N _ ha).2.1
theorem TC.into {nw nw' : List (Addr × Obj)} (k : ∀ p ∈ nw, p.2.cls = .type "tuple" → p ∈ nw') {vs : List Value} {ps : List Cd} (t : TC nw vs ps) : TC nw' vs ps :=
  TX.map (fun c o p m q => k _ m (by obtain ⟨_, _, _, _, _, rfl⟩ := q; rfl)) t
noncomputable def CodesJ (news : List (Addr × Obj)) (lb : Addr) (st : List Cd × Nat × Nat) (m' : Str → Option Value) (nx : List (Addr × Obj)) : Prop :=
  ∀ Rz : Prop, (∀ (lf : Addr) (vs : List Value) (n : Nat) (rest : List (Addr × Obj)) (u1 u2 : Tok), (∀ p ∈ (lf, listOf vs.toArray n) :: rest, p ∈ nx) → (∀ p ∈ rest, p.1 ≠ lf) → lb ≠ lf → (∀ p ∈ news, p ∈ rest) → TC rest vs st.1 →
    Kns m' [("found", .ref lf), ("i", .int (st.2.1 : Int) u1), ("j", .int (st.2.2 : Int) u2)] → Rz) → Rz
theorem codes_close {h₀ h' : Heap} {L I lf lb : Addr} {own news news' : List (Addr × Obj)} {oI : Obj} {m' : Str → Option Value} {s₁ : Shared} {tk n : Nat} {Q : Flow → Shared → Prop} {vs : List Value} {st : List Cd × Nat × Nat} {u1 u2 : Tok}
    (F : Fr h₀ L h' m') (N : News h₀ L h' news') (hlf : (lf, listOf vs.toArray n) ∈ news') (hown : ∀ p ∈ own, p ∈ news') (hI : (I, oI) ∈ own) (hit : isIt oI = true) (hll : lb ≠ lf) (hn : ∀ p ∈ news, p ∈ news' ∧ p.1 ≠ I ∧ p.1 ≠ lf)
    (hk : Kns m' [("found", .ref lf), ("i", .int (st.2.1 : Int) u1), ("j", .int (st.2.2 : Int) u2)]) (hTC : TC news' vs st.1) : LPost h₀ L I (CodesJ news lb st) own s₁ Q .next { s₁ with heap := h', toks := tk } := by
  refine LPost_next (nx := news'.filter fun p => p.1 != I) F N (fun _ kz => kz lf vs n (news'.filter fun p => p.1 != I && p.1 != lf) u1 u2 ?_ ?_ hll ?_ ?_ hk) (fun p hp => (List.mem_filter.mp hp).1) hown (fun p hp => by simpa using (List.mem_filter.mp hp).2)
  · intro p hp
    rcases List.mem_cons.mp hp with rfl | hp
    · exact List.mem_filter.mpr ⟨hlf, by simpa using off_it N hlf (hown _ hI) hit rfl⟩
    · have := List.mem_filter.mp hp
      refine List.mem_filter.mpr ⟨this.1, ?_⟩
      have := this.2
      simp only [Bool.and_eq_true] at this
      exact this.1
  · intro p hp
    have := (List.mem_filter.mp hp).2
    simp only [Bool.and_eq_true, bne_iff_ne] at this
    exact this.2
  · intro p hp
    obtain ⟨a, b, c⟩ := hn p hp
    exact List.mem_filter.mpr ⟨a, by simp [b, c]⟩
  · refine hTC.into fun p hp hc => List.mem_filter.mpr ⟨hp, ?_⟩
    have e1 : p.1 ≠ I := off_it (o := p.2) N hp (hown _ hI) hit (by unfold isIt; rw [hc]; rfl)
    have e2 : p.1 ≠ lf := by
      intro e
      have f1 := (N _ hp).1
      have f2 := (N _ hlf).1
      rw [e] at f1
      simp only at f2
      rw [f1] at f2
      have f3 := Option.some.inj f2
      rw [f3] at hc
      exact absurd (Value.type.inj hc) (by decide)
    simp [e1, e2]
end
section
open PySem PySem.W PyProof.Rows PySem.Calls
set_option Elab.async false
set_option maxRecDepth 100000
noncomputable def LPostE (h₀ : Heap) (L e it : Addr) (J : (Str → Option Value) → List (Addr × Obj) → Prop) (own : List (Addr × Obj)) (s₁ : Shared) (Q : Flow → Shared → Prop) (f : Flow) (s₂ : Shared) : Prop :=
  match f with
  | .ret v => Q (.ret v) s₂
  | .brk => Q .next s₂
  | _ => LEnd h₀ L (fun a => a ≠ e ∧ a ≠ it) J own s₁ s₂
section
variable {prog : Program} {w : World} {A : Around} {s : Shared} {env : Env} {h₀ : Heap} {xi xv : Str} {pi pv pt : Pos} {k : Nat} {body : List Stmt} {Q : Flow → Shared → Prop}
/-- for i, c in enumerate(string) -/
theorem for_enum {e it : Addr} {y : Str} {ty : Tok} {m : Str → Option Value} {news : List (Addr × Obj)} (J : Nat → (Str → Option Value) → List (Addr × Obj) → Prop)
    (hh : A.handled = none) (hxi : env.kindOf xi = some .local) (hxv : env.kindOf xv = some .local) (hp : (env.scope.kind == .class || (env.scope.kind == .module && env.locals != env.globals)) = false)
    (hei : e ≠ it) (heL : env.locals ≠ e) (hiL : env.locals ≠ it) (h0e : h₀.get? e = none) (h0i : h₀.get? it = none) (he : IsEnum s.heap e it 0 .none) (hit : s.heap.IsStrIter it (strIterType y) y ty 0)
    (F : Fr h₀ env.locals s.heap m) (N : News h₀ env.locals s.heap news) (hn : ∀ p ∈ news, p.1 ≠ e ∧ p.1 ≠ it) (hj : J 0 m news)
    (turn : ∀ i c t u m₁ nx h tk own oe oi, i < y.cps.size → y.cps[i]? = some c → J i m₁ nx → (e, oe) ∈ own → (it, oi) ∈ own → oe.cls = .type "enumerate" → isIt oi = true → (∀ p ∈ own, p.1 = e ∨ p.1 = it) → (∀ p ∈ nx, p.1 ≠ e ∧ p.1 ≠ it) →
      Fr h₀ env.locals h (fun z => if z = xv then some (.str ⟨#[c]⟩ u) else if z = xi then some (.int (i : Int) t) else m₁ z) → News h₀ env.locals h (nx ++ own) →
      wpAny (model prog w) A (execs body env) (LPostE h₀ env.locals e it (J (i + 1)) own { s with heap := h, toks := tk } Q) NoE { s with heap := h, toks := tk })
    (done : ∀ m₁ nx h tk, J y.cps.size m₁ nx → Fr h₀ env.locals h m₁ → News h₀ env.locals h nx → Q .next { s with heap := h, toks := tk }) :
    codeAny (model prog w) A (.forLoop (.Tuple [.Name xi pi, .Name xv pv] k pt) (.ref e) body [] env) (fun r s' => match r with | .ok f => Q f s' | .error e => cameBackBy (model prog w) A env NoE e s') s := by
  have go : ∀ (nm : String) (St : Nat → Heap → Prop), Draws prog w A.in1 it [it] y.cps.size (SignAt y) St → St 0 s.heap → (∀ i h, St i h → ∃ o, h.get? it = some o ∧ isIt o = true) →
      codeAny (model prog w) A (.forLoop (.Tuple [.Name xi pi, .Name xv pv] k pt) (.ref e) body [] env) (fun r s' => match r with | .ok f => Q f s' | .error e => cameBackBy (model prog w) A env NoE e s') s := by
    intro nm St D hst hSt
    have W := WalksT.enumerateD (A := A) D e hei (by simpa using hei) (List.mem_singleton.mpr rfl)
    have hfp : env.locals ∉ [e, it] := by simp [heL, hiL]
    refine codeAny_forLoop_any
      (LAt h₀ env.locals (fun a => a ≠ e ∧ a ≠ it) (fun i h' => (∃ old, IsEnum h' e it ((i : Nat) : Int) old) ∧ St i h') J y.cps.size s) ?_ (y.cps.size + 1)
      (fun _ kz => kz s.heap s.toks m news 0 rfl ⟨⟨_, he⟩, hst⟩ F N hn hj (Nat.zero_le _) rfl)
    intro k' s' HS
    refine HS _ fun h' tk m' nx i e1 hst' F' N' hnI' hJ hi e2 => ?_
    clear HS
    subst e1 e2
    have old : ∀ (h₁ : Heap), (∀ b o, b ∉ [e, it] → h'.get? b = some o → h₁.get? b = some o) → Fr h₀ env.locals h₁ m' ∧ News h₀ env.locals h₁ nx := by
      intro h₁ hk
      have h0 : ∀ b o, h₀.get? b = some o → b ∉ [e, it] := fun b o q hm => by
        rcases List.mem_cons.mp hm with e1 | hm
        · rw [e1, h0e] at q; cases q
        · rw [List.mem_singleton.mp hm, h0i] at q; cases q
      exact ⟨⟨F'.ns.at' fun o q => hk _ o hfp q, fun b o q => hk b o (h0 b o q) (F'.keep b o q), F'.above⟩, fun p hp => ⟨hk _ _ (by simp [(hnI' p hp).1, (hnI' p hp).2]) (N' p hp).1, (N' p hp).2⟩⟩
    by_cases hlt : i < y.cps.size
    · refine W.item i _ _ _ hlt hst' fun T vals h₁ tk₁ hP hTge hT hMid hk₁ => ?_
      obtain ⟨t, x, ⟨c, u, hc, rfl⟩, rfl⟩ := hP
      refine wpAny_mono (W.go _ _ _ i T { s with heap := h₁, toks := tk₁ } (fun _ s' => ∃ h₂, s' = { s with heap := h₂, toks := tk₁ } ∧ ((∃ old, IsEnum h₂ e it ((i + 1 : Nat) : Int) old) ∧ St (i + 1) h₂) ∧ (∀ b o, b ∉ [e, it] → h₁.get? b = some o → h₂.get? b = some o)) NoE hMid fun h₂ st hk₂ => ⟨h₂, rfl, st, hk₂⟩) (fun _ s' hs' => ?_) fun _ _ h => h.elim
      obtain ⟨h₂, rfl, st₂, hk₂⟩ := hs'
      obtain ⟨F₂, N₂⟩ := old h₂ fun b o hb q => hk₂ b o hb (hk₁ b o hb q)
      have hTn : T ∉ [e, it] := W.apart i T h₁ hMid
      have hT₂ : h₂.IsTuple T #[.int i t, .str ⟨#[c]⟩ u] := hT.at fun o q => hk₂ T o hTn q
      have hk3 : ∀ (h₃ : Heap), Heap.ExtBut h₂.objs.size h₂ h₃ → ∀ b o, h₂.get? b = some o → h₃.get? b = some o := fun h₃ hx b o q => hx b o (Nat.ne_of_lt (Heap.lt_size q)) q
      refine wpAny_assign_Tuple hh hT₂ rfl rfl fun h₃ hx₃ => ?_
      have k3 := hk3 h₃ hx₃
      have F₃ := Fr_grow F₂ k3
      have N₃ := News_grow N₂ k3
      show wpAny _ A (do holding [.str ⟨#[c]⟩ u] (assign (.Name xi pi) env (.int i t)); do holding [] (assign (.Name xv pv) env (.str ⟨#[c]⟩ u)); pure ()) _ _ _
      refine wpAny_bind (wpAny_holding (wpAny_assign_Name (wpAny_storeName_local hxi F₃.ns (fun h₄ hn₄ hs₄ => ?_) hp)))
      have F₄ := F₃.set hn₄ hs₄
      have N₄ := N₃.set hs₄
      refine wpAny_bind (wpAny_holding (wpAny_assign_Name (wpAny_storeName_local hxv hn₄ (fun h₅ hn₅ hs₅ => wpAny_pure ?_) hp)))
      have F₅ := F₄.set hn₅ hs₅
      have N₅ := N₄.set hs₅
      obtain ⟨⟨olde, hee0⟩, hstr⟩ := st₂
      obtain ⟨oe, hee, hce, hback⟩ : ∃ oe, h₂.get? e = some oe ∧ oe.cls = .type "enumerate" ∧ (∀ h : Heap, h.get? e = some oe → IsEnum h e it ((i + 1 : Nat) : Int) olde) := ⟨_, hee0, rfl, fun h q => q⟩
      obtain ⟨oi, hoi, hoit⟩ := hSt _ _ hstr
      have up : ∀ b o, b ≠ env.locals → h₂.get? b = some o → h₅.get? b = some o := fun b o hb q => hs₅.extBut b o hb (hs₄.extBut b o hb (k3 b o q))
      have he5 := up e _ (Ne.symm heL) hee
      have hi5 := up it _ (Ne.symm hiL) hoi
      have Nown : News h₀ env.locals h₅ [(e, oe), (it, oi)] := fun p hp => by
        rcases List.mem_cons.mp hp with rfl | hp
        · exact ⟨he5, Ne.symm heL, h0e⟩
        · rw [List.mem_singleton.mp hp]; exact ⟨hi5, Ne.symm hiL, h0i⟩
      have st5 : St (i + 1) h₅ := D.frame _ _ _ hstr fun b hb o q => by rw [List.mem_singleton.mp hb] at q ⊢; exact up it o (Ne.symm hiL) q
      refine wpAny_mono (turn i c t u m' nx h₅ _ [(e, oe), (it, oi)] oe oi hlt hc hJ (.head _) (.tail _ (.head _)) hce hoit (fun p hp => ?_) hnI' F₅ (fun p hp => (List.mem_append.mp hp).elim (N₅ p) (Nown p))) (fun f s₄ h₄' => ?_) fun _ _ h => h.elim
      · rcases List.mem_cons.mp hp with rfl | hp
        · exact .inl rfl
        · rw [List.mem_singleton.mp hp]; exact .inr rfl
      have fin : LEnd h₀ env.locals (fun a => a ≠ e ∧ a ≠ it) (J (i + 1)) [(e, oe), (it, oi)] { s with heap := h₅, toks := tk₁ + 1 + 1 } s₄ →
          ∃ k, k < y.cps.size + 1 - i ∧ LAt h₀ env.locals (fun a => a ≠ e ∧ a ≠ it) (fun i h' => (∃ old, IsEnum h' e it ((i : Nat) : Int) old) ∧ St i h') J y.cps.size s k s₄ := fun e9 => by
        refine e9.at hlt fun h6 news6 N6 ho6 _ => ⟨⟨olde, hback _ (N6 _ (ho6 _ (.head _))).1⟩, D.frame _ _ _ st5 fun b hb o q => ?_⟩
        rw [List.mem_singleton.mp hb] at q ⊢
        rw [hi5] at q
        cases q
        exact (N6 _ (ho6 _ (.tail _ (.head _)))).1
      cases f with
      | ret v => exact h₄'
      | brk => exact h₄'
      | next => exact fin h₄'
      | cont => exact fin h₄'
    · have hin : i = y.cps.size := by (first | lia | omega)
      subst hin
      refine W.done _ _ _ hst' fun h₁ tk₁ hk₁ => wpAny_execs_nil ?_
      obtain ⟨F₁, N₁⟩ := old h₁ hk₁
      exact done m' nx h₁ tk₁ hJ F₁ N₁
  unfold strIterType at hit
  split at hit
  · exact go "str_ascii_iterator" _ (Draws.strAscii (A := A.in1) hh it y ty) hit fun i h st => let ⟨o, ho, hc, _⟩ := st; ⟨o, ho, isIt_of hc rfl⟩
  · exact go "str_iterator" _ (Draws.strWide (A := A.in1) hh it y ty) hit fun i h st => let ⟨o, ho, hc, _⟩ := st; ⟨o, ho, isIt_of hc rfl⟩
theorem enum_call {y : Str} {ty : Tok} {m : Str → Option Value} {news : List (Addr × Obj)} (J : Nat → (Str → Option Value) → List (Addr × Obj) → Prop)
    (hh : A.handled = none) (hxi : env.kindOf xi = some .local) (hxv : env.kindOf xv = some .local) (hp : (env.scope.kind == .class || (env.scope.kind == .module && env.locals != env.globals)) = false)
    (F : Fr h₀ env.locals s.heap m) (N : News h₀ env.locals s.heap news) (hj : J 0 m news)
    (turn : ∀ e it i c t u m₁ nx h tk own oe oi, i < y.cps.size → y.cps[i]? = some c → J i m₁ nx → (e, oe) ∈ own → (it, oi) ∈ own → oe.cls = .type "enumerate" → isIt oi = true → (∀ p ∈ own, p.1 = e ∨ p.1 = it) → (∀ p ∈ nx, p.1 ≠ e ∧ p.1 ≠ it) →
      Fr h₀ env.locals h (fun z => if z = xv then some (.str ⟨#[c]⟩ u) else if z = xi then some (.int (i : Int) t) else m₁ z) → News h₀ env.locals h (nx ++ own) →
      wpAny (model prog w) A (execs body env) (LPostE h₀ env.locals e it (J (i + 1)) own { s with heap := h, toks := tk } Q) NoE { s with heap := h, toks := tk })
    (done : ∀ m₁ nx h tk, J y.cps.size m₁ nx → Fr h₀ env.locals h m₁ → News h₀ env.locals h nx → Q .next { s with heap := h, toks := tk }) :
    wpAny (model prog w) A (call (.type "enumerate") [.str y ty]) (fun xv' s₁ => wpAny (model prog w) A (pyIter xv') (fun it s₂ =>
      codeAny (model prog w) A (.forLoop (.Tuple [.Name xi pi, .Name xv pv] k pt) it body [] env) (fun r s' => match r with | .ok f => Q f s' | .error e => cameBackBy (model prog w) A env NoE e s') s₂) NoE s₁) NoE s := by
  refine call_enumerate_str fun h' he hit hsz hold => ?_
  refine wpAny_pyIter_enum he ?_
  have hL : env.locals < s.heap.objs.size := F.ns.lt
  have none0 : ∀ b, s.heap.objs.size ≤ b → h₀.get? b = none := fun b hb => by
    cases hq : h₀.get? b with
    | none => rfl
    | some o => exact absurd (Heap.lt_size (F.keep _ _ hq)) (Nat.not_lt.mpr hb)
  refine for_enum J hh hxi hxv hp (Nat.succ_ne_self _) (Nat.ne_of_lt (Nat.lt_succ_of_lt hL)) (Nat.ne_of_lt hL) (none0 _ (Nat.le_succ _)) (none0 _ (Nat.le_refl _)) he hit (Fr_grow F hold) (News_grow N hold)
    (fun p hp => ⟨Nat.ne_of_lt (Nat.lt_succ_of_lt (Heap.lt_size (N p hp).1)), Nat.ne_of_lt (Heap.lt_size (N p hp).1)⟩) hj ?_ ?_
  · intro i c t u m₁ nx h tk own oe oi a1 a2 a3 a4 a5 a6 a7 a8 a9 a10 a11
    exact turn _ _ i c t u m₁ nx h tk own oe oi a1 a2 a3 a4 a5 a6 a7 a8 a9 a10 a11
  · exact fun m₁ nx h tk hJ F' N' => done m₁ nx h tk hJ F' N'
theorem enum_callB {y : Str} {ty : Tok} {m : Str → Option Value} {b : Addr × Obj} {base : List (Addr × Obj)} (J : Addr × Obj → List (Addr × Obj) → Nat → (Str → Option Value) → List (Addr × Obj) → Prop)
    (hh : A.handled = none) (hxi : env.kindOf xi = some .local) (hxv : env.kindOf xv = some .local) (hp : (env.scope.kind == .class || (env.scope.kind == .module && env.locals != env.globals)) = false)
    (F : Fr h₀ env.locals s.heap m) (N : News h₀ env.locals s.heap (b :: base)) (hj : J b base 0 m (b :: base))
    (turn : ∀ e it i c t u m₁ nx h tk own oe oi, i < y.cps.size → y.cps[i]? = some c → J b base i m₁ nx → (e, oe) ∈ own → (it, oi) ∈ own → oe.cls = .type "enumerate" → isIt oi = true → (∀ p ∈ own, p.1 = e ∨ p.1 = it) → (∀ p ∈ nx, p.1 ≠ e ∧ p.1 ≠ it) →
      Fr h₀ env.locals h (fun z => if z = xv then some (.str ⟨#[c]⟩ u) else if z = xi then some (.int (i : Int) t) else m₁ z) → News h₀ env.locals h (nx ++ own) →
      wpAny (model prog w) A (execs body env) (LPostE h₀ env.locals e it (J b base (i + 1)) own { s with heap := h, toks := tk } Q) NoE { s with heap := h, toks := tk })
    (done : ∀ m₁ nx h tk, J b base y.cps.size m₁ nx → Fr h₀ env.locals h m₁ → News h₀ env.locals h nx → Q .next { s with heap := h, toks := tk }) :
    wpAny (model prog w) A (call (.type "enumerate") [.str y ty]) (fun xv' s₁ => wpAny (model prog w) A (pyIter xv') (fun it s₂ =>
      codeAny (model prog w) A (.forLoop (.Tuple [.Name xi pi, .Name xv pv] k pt) it body [] env) (fun r s' => match r with | .ok f => Q f s' | .error e => cameBackBy (model prog w) A env NoE e s') s₂) NoE s₁) NoE s :=
  enum_call (J b base) hh hxi hxv hp F N hj turn done
end
end
section
open PySem PySem.W PyProof.Rows PySem.Calls
set_option Elab.async false
set_option maxRecDepth 100000
/-- a ledger without one address -/
noncomputable def off (d : Addr) (news : List (Addr × Obj)) : List (Addr × Obj) := news.filter fun p => p.1 != d
theorem mem_off {d : Addr} {news : List (Addr × Obj)} {p : Addr × Obj} : p ∈ off d news ↔ p ∈ news ∧ p.1 ≠ d := by simp [off]
section
variable {prog : Program} {w : World} {A : Around} {E : Value → Shared → Prop} {s : Shared} {h₀ : Heap} {L D : Addr} {m : Str → Option Value} {news : List (Addr × Obj)}
theorem off_upd {o o' : Obj} {news : List (Addr × Obj)} : Upd D o o' ((D, o) :: off D news) ((D, o') :: off D news) := .head fun p hp => (mem_off.mp hp).2
theorem off_updF {o : Obj} {news : List (Addr × Obj)} : UpdF D o ((D, o) :: off D news) (fun o' => (D, o') :: off D news) := .head fun p hp => (mem_off.mp hp).2
theorem News_off {h : Heap} {o : Obj} (N : News h₀ L h news) (hD : (D, o) ∈ news) : News h₀ L h ((D, o) :: off D news) := fun p hp => by
  rcases List.mem_cons.mp hp with rfl | hp
  · exact N _ hD
  · exact N p (mem_off.mp hp).1
theorem append_F {vs : List Value} {n : Nat} {x : Value} {Q : Value → Shared → Prop} (F : Fr h₀ L s.heap m) (N : News h₀ L s.heap news) (hD : (D, listOf vs.toArray n) ∈ news) (hv : vs.length ≤ 1000)
    (h : ∀ h', Fr h₀ L h' m → News h₀ L h' ((D, listOf (vs ++ [x]).toArray (n + 1)) :: off D news) → Q .none { s with heap := h' }) : wpAny (model prog w) A (call (.builtin "list.append") [.ref D, x]) Q E s :=
  append_L F (News_off N hD) off_upd hv h
end
section
variable {prog : Program} {w : World} {K : Type} [DecidableEq K] {knd : KeyKind prog w K} {A : Around} {E : Value → Shared → Prop} {s : Shared} {h₀ : Heap} {L d : Addr} {m : Str → Option Value} {news : List (Addr × Obj)} {o : Obj} {kvs : List (K × Value)} {k : K} {key v : Value}
theorem set_F {Q : Unit → Shared → Prop} (F : Fr h₀ L s.heap m) (N : News h₀ L s.heap news) (hd : (d, o) ∈ news) (ho : o.IsDictOf knd kvs) (hkey : knd.is k key = true) (hsz : kvs.length ≤ 1000)
    (h : ∀ h' o', Fr h₀ L h' m → News h₀ L h' ((d, o') :: off d news) → o'.IsDictOf knd (stored kvs k v) → Q () { s with heap := h', toks := s.toks + 1 }) : wpAny (model prog w) A (setItem (.ref d) key v) Q E s :=
  kda_set F (News_off N hd) off_updF ho hkey (by simp only [sizeLine]; (first | lia | omega)) h
theorem setdef_F {Q : Value → Shared → Prop} (F : Fr h₀ L s.heap m) (N : News h₀ L s.heap news) (hd : (d, o) ∈ news) (ho : o.IsDictOf knd kvs) (lo : (d == sysModules) = false) (hkey : knd.is k key = true) (hargs : argsOk "dict.setdefault" ⟨[.ref d, key, v], []⟩) (hl : valueAt kvs k = none) (hsz : kvs.length ≤ 1000)
    (h : ∀ h' o', Fr h₀ L h' m → News h₀ L h' ((d, o') :: off d news) → o'.IsDictOf knd (stored kvs k v) → Q v { s with heap := h', toks := s.toks + 1 }) : wpAny (model prog w) A (call (.builtin "dict.setdefault") [.ref d, key, v]) Q E s :=
  kob_setdef_new F (News_off N hd) off_updF ho lo hkey hargs hl (by simp only [sizeLine]; (first | lia | omega)) h
end
end
section
open PySem PySem.W PyProof.Rows PySem.Calls
set_option Elab.async false
set_option maxRecDepth 100000
section
variable {K : Type} [DecidableEq K]
theorem valueAt_snoc {kvs : List (K × Value)} {k j : K} {v : Value} (h : valueAt kvs k = none) : valueAt (kvs ++ [(k, v)]) j = if k = j then some v else valueAt kvs j := by
  unfold valueAt at *
  rw [List.find?_append]
  by_cases e : k = j
  · subst e
    simp only [Option.map_eq_none_iff] at h
    simp [h]
  · simp only [e, if_false]
    cases hf : kvs.find? (fun kv => decide (kv.1 = j)) with
    | none => simp [e]
    | some p => simp
theorem valueAt_put {k j : K} {v : Value} : ∀ {kvs : List (K × Value)}, (kvs.any fun kv => kv.1 = k) = true → valueAt (kvs.map fun kv => if kv.1 = k then (kv.1, v) else kv) j = if k = j then some v else valueAt kvs j
  | [], h => by simp at h
  | p :: r, h => by
    by_cases e1 : p.1 = k
    · by_cases e : k = j
      · subst e
        simp [valueAt, e1]
      · have e2 : ¬ p.1 = j := fun q => e (e1.symm.trans q)
        simp only [valueAt, List.map_cons, e1, if_true, List.find?_cons, e, decide_false, if_false]
        have : ¬ k = j := e
        cases hr : r.any fun kv => kv.1 = k with
        | true =>
          have := valueAt_put (j := j) (v := v) hr
          simp only [valueAt, e, if_false] at this
          exact this
        | false =>
          have hm : r.map (fun kv => if kv.1 = k then (kv.1, v) else kv) = r := by
            rw [List.map_congr_left (g := id)]
            · simp
            · intro q hq
              have : ¬ q.1 = k := by
                intro e3
                have : (r.any fun kv => decide (kv.1 = k)) = true := List.any_eq_true.mpr ⟨q, hq, by simp [e3]⟩
                rw [hr] at this; cases this
              simp [this]
          rw [hm]
    · have hr : (r.any fun kv => kv.1 = k) = true := by simpa [e1] using h
      have ih := valueAt_put (j := j) (v := v) hr
      simp only [valueAt] at ih ⊢
      by_cases e : p.1 = j
      · have hkj : ¬ k = j := fun q => e1 (e.trans q.symm)
        have hjk : ¬ j = k := fun q => hkj q.symm
        simp [e, hjk, hkj]
      · simp only [List.map_cons, e1, if_false, List.find?_cons, e, decide_false]
        exact ih
theorem valueAt_stored {kvs : List (K × Value)} {k j : K} {v : Value} : valueAt (stored kvs k v) j = if k = j then some v else valueAt kvs j := by
  unfold stored
  split
  · rename_i h; exact valueAt_put h
  · rename_i h
    refine valueAt_snoc ?_
    unfold valueAt
    rw [Option.map_eq_none_iff, List.find?_eq_none]
    intro p hp
    simp only [Bool.not_eq_true, List.any_eq_false] at h
    simpa using h p hp
end
/-- the places of a sign -/
noncomputable def places (c : Nat) : List Nat → Nat → List Nat
  | [], _ => []
  | x :: xs, i => if x = c then i :: places c xs (i + 1) else places c xs (i + 1)
theorem places_snoc (c : Nat) : ∀ (xs : List Nat) (x i : Nat), places c (xs ++ [x]) i = places c xs i ++ (if x = c then [i + xs.length] else [])
  | [], x, i => by simp [places]
  | y :: ys, x, i => by
    have ih := places_snoc c ys x (i + 1)
    have e : i + 1 + ys.length = i + (ys.length + 1) := by (first | lia | omega)
    simp only [List.cons_append, places, ih, List.length_cons, e]
    by_cases h : y = c
    · simp [h]
    · simp [h]
theorem places_nil {c : Nat} : ∀ {xs : List Nat} {i : Nat}, c ∉ xs → places c xs i = []
  | [], _, _ => rfl
  | x :: xs, i, h => by
    have h1 : ¬ x = c := fun e => h (by simp [e])
    simp only [places, h1, if_false]
    exact places_nil fun q => h (List.mem_cons_of_mem _ q)
noncomputable abbrev sgn (c : Nat) : Str := ⟨#[c]⟩
/-- ints of naturals -/
noncomputable def NatsAre : List Value → List Nat → Prop
  | [], [] => True
  | v :: vs, n :: ns => (∃ t, v = .int (n : Int) t) ∧ NatsAre vs ns
  | _, _ => False
theorem NatsAre.length : ∀ {vs : List Value} {ns : List Nat}, NatsAre vs ns → vs.length = ns.length
  | [], [], _ => rfl
  | [], _ :: _, h => h.elim
  | _ :: _, [], h => h.elim
  | _ :: _, _ :: _, ⟨_, r⟩ => by simp [NatsAre.length r]
theorem NatsAre.snoc {t : Tok} : ∀ {vs : List Value} {ns : List Nat} {n : Nat}, NatsAre vs ns → NatsAre (vs ++ [.int (n : Int) t]) (ns ++ [n])
  | [], [], _, _ => ⟨⟨t, rfl⟩, trivial⟩
  | [], _ :: _, _, h => h.elim
  | _ :: _, [], _, h => h.elim
  | _ :: _, _ :: _, _, ⟨e, r⟩ => ⟨e, NatsAre.snoc r⟩
/-- the table of the places -/
noncomputable def B2 (nx : List (Addr × Obj)) (kvs : List (Str × Value)) (ys : List Nat) : Prop :=
  (∀ c, c ∈ ys → ∃ l vs n, valueAt kvs (sgn c) = some (.ref l) ∧ (l, listOf vs.toArray n) ∈ nx ∧ NatsAre vs (places c ys 0)) ∧
  (∀ c, c ∉ ys → valueAt kvs (sgn c) = none) ∧
  (∀ c c' l, valueAt kvs (sgn c) = some (.ref l) → valueAt kvs (sgn c') = some (.ref l) → c = c') ∧ kvs.length ≤ ys.length
theorem sgn_inj {c c' : Nat} : (sgn c = sgn c') ↔ c = c' := by simp [sgn]
theorem B2.nil {nx : List (Addr × Obj)} : B2 nx [] [] := ⟨fun c h => by simp at h, fun c _ => rfl, fun c c' l h => by simp [valueAt] at h, Nat.le_refl _⟩
theorem B2.new {nx nx' : List (Addr × Obj)} {kvs : List (Str × Value)} {ys : List Nat} {c : Nat} {l : Addr} {t : Tok} {n : Nat} (h : B2 nx kvs ys) (hc : c ∉ ys) (hl : (l, listOf [Value.int ((ys.length : Nat) : Int) t].toArray n) ∈ nx')
    (hf : ∀ c', valueAt kvs (sgn c') ≠ some (.ref l)) (hk : ∀ l' vs n, (l', listOf vs n) ∈ nx → l' ≠ l → (l', listOf vs n) ∈ nx') : B2 nx' (stored kvs (sgn c) (.ref l)) (ys ++ [c]) := by
  obtain ⟨h1, h2, h3, h4⟩ := h
  refine ⟨fun d hd => ?_, fun d hd => ?_, fun d d' l' e1 e2 => ?_, ?_⟩
  · rw [valueAt_stored, places_snoc]
    by_cases e : c = d
    · subst e
      refine ⟨l, _, n, by simp, hl, ?_⟩
      rw [places_nil hc]
      simp only [if_true, List.nil_append, Nat.zero_add]
      exact ⟨⟨t, rfl⟩, trivial⟩
    · have hd' : d ∈ ys := by simpa [Ne.symm e] using hd
      obtain ⟨l', vs, m, a, b, b'⟩ := h1 d hd'
      refine ⟨l', vs, m, by simp [e, a], hk _ _ _ b (fun q => hf d (by rw [a, q])), ?_⟩
      simpa [e] using b'
  · rw [valueAt_stored]
    have e : ¬ c = d := fun q => hd (by simp [q])
    simp only [sgn_inj, e, if_false]
    exact h2 d fun q => hd (List.mem_append_left _ q)
  · rw [valueAt_stored] at e1 e2
    simp only [sgn_inj] at e1 e2
    by_cases a1 : c = d <;> by_cases a2 : c = d'
    · exact a1.symm.trans a2
    · simp only [a1, if_true, a2, if_false] at e1 e2
      have e3 : ¬ d = d' := fun q => a2 (a1.trans q)
      simp only [e3, if_false] at e2
      cases e1
      exact absurd e2 (hf d')
    · simp only [a1, if_false, a2, if_true] at e1 e2
      have e3 : ¬ d' = d := fun q => a1 (a2.trans q)
      simp only [e3, if_false] at e1
      cases e2
      exact absurd e1 (hf d)
    · simp only [a1, if_false, a2] at e1 e2
      exact h3 d d' l' e1 e2
  · have e : stored kvs (sgn c) (.ref l) = kvs ++ [(sgn c, .ref l)] := stored_absent (h2 c hc) _
    rw [e]
    simp only [List.length_append, List.length_cons, List.length_nil]
    (first | lia | omega)
theorem B2.old {nx nx' : List (Addr × Obj)} {kvs : List (Str × Value)} {ys : List Nat} {c : Nat} {l : Addr} {t : Tok} {vs : List Value} {n : Nat} (h : B2 nx kvs ys) (hc : c ∈ ys) (hv : valueAt kvs (sgn c) = some (.ref l)) (hp : NatsAre vs (places c ys 0))
    (hl : (l, listOf (vs ++ [Value.int ((ys.length : Nat) : Int) t]).toArray n) ∈ nx') (hk : ∀ l' vs n, (l', listOf vs n) ∈ nx → l' ≠ l → (l', listOf vs n) ∈ nx') : B2 nx' kvs (ys ++ [c]) := by
  obtain ⟨h1, h2, h3, h4⟩ := h
  refine ⟨fun d hd => ?_, fun d hd => ?_, h3, by simp; (first | lia | omega)⟩
  · rw [places_snoc]
    by_cases e : c = d
    · subst e
      refine ⟨l, _, n, hv, hl, ?_⟩
      simp only [if_true, Nat.zero_add]
      exact hp.snoc
    · have hd' : d ∈ ys := by simpa [Ne.symm e] using hd
      obtain ⟨l', vs', m, a, b, b'⟩ := h1 d hd'
      refine ⟨l', vs', m, a, hk _ _ _ b (fun q => e (h3 c d l hv (by rw [a, q]))), ?_⟩
      simpa [e] using b'
  · exact h2 d fun q => hd (List.mem_append_left _ q)
end
section
open PySem PySem.W PyProof.Rows PySem.Calls
set_option Elab.async false
set_option maxRecDepth 100000
set_option maxHeartbeats 4000000
theorem execs_append (env : Env) : ∀ (xs ys : List Stmt), execs (xs ++ ys) env = execs xs env >>= fun f => match f with | .next => execs ys env | f => pure f
  | [], ys => by
    have e : execs [] env = pure .next := by with_unfolding_all rfl
    rw [List.nil_append, e, pure_bind]
  | x :: xs, ys => by
    have e : ∀ l, execs (x :: l) env = exec x env >>= fun f => match f with | .next => execs l env | f => pure f := fun l => execs_cons ..
    rw [List.cons_append, e, e, bind_assoc]
    congr 1
    funext f
    cases f with
    | next => exact execs_append env xs ys
    | _ => simp only [pure_bind]
theorem cut_at {prog : Program} {w : World} {A : Around} {s : Shared} {env : Env} {h₀ : Heap} {L : Addr} {m : PySem.Str → Option Value} {xs ys : List Stmt} {Q : Flow → Shared → Prop} (_F : Fr h₀ L s.heap m) (P : (PySem.Str → Option Value) → List (Addr × Obj) → Prop)
    (h : wpAny (model prog w) A (execs xs env) (fun f s' => f = .next ∧ WEnd h₀ L P s s') NoE s)
    (k : ∀ m' nx' h' tk', P m' nx' → Fr h₀ L h' m' → News h₀ L h' nx' → wpAny (model prog w) A (execs ys env) Q NoE { s with heap := h', toks := tk' }) : wpAny (model prog w) A (execs (xs ++ ys) env) Q NoE s := by
  rw [execs_append]
  refine wpAny_bind (wpAny_mono h (fun f s' hf => ?_) (fun _ _ h => h))
  obtain ⟨rfl, h', tk', m', nx', rfl, F', N', hP⟩ := hf
  exact k m' nx' h' tk' hP F' N'
theorem turn_cut {prog : Program} {w : World} {A : Around} {s : Shared} {env : Env} {t : PySem.Expr} {v : Value} {body : List Stmt} {Q : Flow → Shared → Prop} (n : Nat)
    (h : wpAny (model prog w) A (assign t env v) (fun _ s₃ => wpAny (model prog w) A (execs (body.take n ++ body.drop n) env) Q NoE s₃) NoE s) : wpAny (model prog w) A (assign t env v) (fun _ s₃ => wpAny (model prog w) A (execs body env) Q NoE s₃) NoE s := by
  rwa [List.take_append_drop] at h
end
section
open PySem PySem.W PyProof.Rows PySem.Calls
set_option Elab.async false
set_option maxRecDepth 100000
set_option maxHeartbeats 4000000
/-- an expression that gives an int, and touches nothing but the clock -/
noncomputable def EvI (prog : Program) (w : World) (A : Around) (env : Env) (h₀ : Heap) (L : Addr) (m : PySem.Str → Option Value) (e : PySem.Expr) (i : Int) : Prop :=
  ∀ (E : Value → Shared → Prop) (s : Shared) (Q : Value → Shared → Prop), Fr h₀ L s.heap m → (∀ t k, Q (.int i t) { s with toks := k }) → wpAny (model prog w) A (eval e env) Q E s
/-- ... that gives a text -/
noncomputable def EvC (prog : Program) (w : World) (A : Around) (env : Env) (h₀ : Heap) (L : Addr) (m : PySem.Str → Option Value) (e : PySem.Expr) (c : PySem.Str) : Prop :=
  ∀ (E : Value → Shared → Prop) (s : Shared) (Q : Value → Shared → Prop), Fr h₀ L s.heap m → (∀ t k, Q (.str c t) { s with toks := k }) → wpAny (model prog w) A (eval e env) Q E s
/-- a test -/
noncomputable def TsI (prog : Program) (w : World) (A : Around) (env : Env) (h₀ : Heap) (L : Addr) (m : PySem.Str → Option Value) (e : PySem.Expr) (b : Bool) : Prop :=
  ∀ (E : Value → Shared → Prop) (s : Shared) (Q : Bool → Shared → Prop) (whole : Sem Value), Fr h₀ L s.heap m → whole = eval e env → (∀ k, Q b { s with toks := k }) → wpAny (model prog w) A (isTrue e env whole) Q E s
section
variable {prog : Program} {w : World} {A : Around} {E : Value → Shared → Prop} {s : Shared} {h₀ : Heap} {L : Addr} {m : PySem.Str → Option Value} {env : Env}
theorem TsI.use {e : PySem.Expr} {b : Bool} {Q : Bool → Shared → Prop} (F : Fr h₀ L s.heap m) (h : TsI prog w A env h₀ L m e b) (k : ∀ k, Q b { s with toks := k }) : wpAny (model prog w) A (isTrue e env (eval e env)) Q E s := h E s Q _ F rfl k
theorem evi_name {x : PySem.Str} {pos : Pos} {i : Int} {t : Tok} {cn : PySem.Str} {cs : Scope} {a : Addr} {ccd : Value} {cl : List (PySem.Str × Addr)} (hv : m x = some (.int i t)) (hk : cs.kind = .function)
    (hx : (envX cn cs L a ccd cl).kindOf x = some .local) (hd : (x == ("__debug__" : PySem.Str)) = false) : EvI prog w A (envX cn cs L a ccd cl) h₀ L m (.Name x pos) i := fun _ s _ F k => nameX_L F hv (k t s.toks) hk hx hd
theorem evi_const {i : Int} {kk : Nat} {pos : Pos} : EvI prog w A env h₀ L m (.Constant (.int i) kk pos) i := fun _ _ _ _ k => wpAny_Constant_int (k _ _)
theorem evi_add {l r : PySem.Expr} {pos : Pos} {i j : Int} (h1 : EvI prog w A env h₀ L m l i) (h2 : EvI prog w A env h₀ L m r j) : EvI prog w A env h₀ L m (.BinOp l .Add r pos) (i + j) :=
  fun E s _ F k => wpAny_BinOp (h1 E s _ F fun _ _ => h2 E _ _ F fun _ _ => P.add_int (k _ _))
theorem evi_sub {l r : PySem.Expr} {pos : Pos} {i j : Int} (h1 : EvI prog w A env h₀ L m l i) (h2 : EvI prog w A env h₀ L m r j) : EvI prog w A env h₀ L m (.BinOp l .Sub r pos) (i - j) :=
  fun E s _ F k => wpAny_BinOp (h1 E s _ F fun _ _ => h2 E _ _ F fun _ _ => P.sub_int (k _ _))
theorem evc_idx {x : PySem.Str} {pos p2 : Pos} {e : PySem.Expr} {i : Int} {z : PySem.Str} {t : Tok} {cn : PySem.Str} {cs : Scope} {a : Addr} {ccd : Value} {cl : List (PySem.Str × Addr)} (hv : m x = some (.str z t)) (hk : cs.kind = .function)
    (hx : (envX cn cs L a ccd cl).kindOf x = some .local) (hd : (x == ("__debug__" : PySem.Str)) = false) (h : EvI prog w A (envX cn cs L a ccd cl) h₀ L m e i) (h0 : 0 ≤ i) (h1 : i < (z.cps.size : Int)) (hn : z.cps.size ≤ 100)
    (hs : ∀ t u, subscripted e false (.str z t) (.int i u) = operate [.str z t, .int i u] (getItem (.str z t) (.int i u)) := by intro _ _; with_unfolding_all rfl)
    (ht : ∀ t r, letTemporaryGo (.Name x pos) (.str z t) r = pure () := by intro _ _; with_unfolding_all rfl) : EvC prog w A (envX cn cs L a ccd cl) h₀ L m (.Subscript (.Name x pos) e p2) (chr z i.toNat) :=
  fun E s _ F k => Subscript_ (nameX_L F hv (h E _ _ F fun u _ => str_idx h0 h1 hn (k _ _) (hs t u) (ht t)) hk hx hd)
theorem EvC.use {e : PySem.Expr} {c : PySem.Str} {Q : Value → Shared → Prop} (F : Fr h₀ L s.heap m) (h : EvC prog w A env h₀ L m e c) (k : ∀ t k, Q (.str c t) { s with toks := k }) : wpAny (model prog w) A (eval e env) Q E s := h E s Q F k
theorem EvC.of_eq {e : PySem.Expr} {c d : PySem.Str} (h : EvC prog w A env h₀ L m e c) (q : c = d) : EvC prog w A env h₀ L m e d := q ▸ h
theorem evc_str {z : PySem.Str} {kk : Nat} {pos : Pos} : EvC prog w A env h₀ L m (.Constant (.str z) kk pos) z := fun _ _ _ _ k => wpAny_Constant_str (k _ _)
theorem evc_if {t x y : PySem.Expr} {pos : Pos} {b : Bool} {c d : PySem.Str} (h : TsI prog w A env h₀ L m t b) (h1 : EvC prog w A env h₀ L m x c) (h2 : EvC prog w A env h₀ L m y d) : EvC prog w A env h₀ L m (.IfExp t x y pos) (if b = true then c else d) :=
  fun E s Q F k => IfExp_ (h E s _ _ F rfl fun k1 => by
    cases b with
    | true => exact h1 E _ Q F k
    | false => exact h2 E _ Q F k)
theorem tsi_lt {l r : PySem.Expr} {pos : Pos} {i j : Int} (h1 : EvI prog w A env h₀ L m l i) (h2 : EvI prog w A env h₀ L m r j) (hm : behindInMarks .Lt r = false) : TsI prog w A env h₀ L m (.Compare l [.Lt] [r] pos) (decide (i < j)) :=
  fun E s _ _ F e k => by subst e; exact wpAny_isTrue_Compare1 (h1 E s _ F fun _ _ => h2 E _ _ F fun _ _ => P.lt_int (wpAny_truthy_bool (k _))) hm
theorem tsi_gt {l r : PySem.Expr} {pos : Pos} {i j : Int} (h1 : EvI prog w A env h₀ L m l i) (h2 : EvI prog w A env h₀ L m r j) (hm : behindInMarks .Gt r = false) : TsI prog w A env h₀ L m (.Compare l [.Gt] [r] pos) (decide (i > j)) :=
  fun E s _ _ F e k => by subst e; exact wpAny_isTrue_Compare1 (h1 E s _ F fun _ _ => h2 E _ _ F fun _ _ => P.gt_int (wpAny_truthy_bool (k _))) hm
theorem tsi_ge {l r : PySem.Expr} {pos : Pos} {i j : Int} (h1 : EvI prog w A env h₀ L m l i) (h2 : EvI prog w A env h₀ L m r j) (hm : behindInMarks .GtE r = false) : TsI prog w A env h₀ L m (.Compare l [.GtE] [r] pos) (decide (i ≥ j)) :=
  fun E s _ _ F e k => by subst e; exact wpAny_isTrue_Compare1 (h1 E s _ F fun _ _ => h2 E _ _ F fun _ _ => P.ge_int (wpAny_truthy_bool (k _))) hm
theorem tsi_eq {l r : PySem.Expr} {pos : Pos} {i j : Int} (h1 : EvI prog w A env h₀ L m l i) (h2 : EvI prog w A env h₀ L m r j) (hm : behindInMarks .Eq r = false) : TsI prog w A env h₀ L m (.Compare l [.Eq] [r] pos) (i == j) :=
  fun E s _ _ F e k => by subst e; exact wpAny_isTrue_Compare1 (h1 E s _ F fun _ _ => h2 E _ _ F fun _ _ => P.eq_int (wpAny_truthy_bool (k _))) hm
theorem tsi_eqc {l r : PySem.Expr} {pos : Pos} {c d : PySem.Str} (h1 : EvC prog w A env h₀ L m l c) (h2 : EvC prog w A env h₀ L m r d) (hm : behindInMarks .Eq r = false) : TsI prog w A env h₀ L m (.Compare l [.Eq] [r] pos) (c == d) :=
  fun E s _ _ F e k => by subst e; exact wpAny_isTrue_Compare1 (h1 E s _ F fun _ _ => h2 E _ _ F fun _ _ => eq_str (wpAny_truthy_bool (k _))) hm
theorem tsi_and {x y : PySem.Expr} {pos : Pos} {b c : Bool} (h1 : TsI prog w A env h₀ L m x b) (h2 : b = true → TsI prog w A env h₀ L m y c) : TsI prog w A env h₀ L m (.BoolOp .And [x, y] pos) (b && c) :=
  fun E s _ _ F e k => by
    refine isTrue_and (h1 E s _ _ F rfl fun k1 => ?_)
    cases b with
    | false => exact k _
    | true => exact isTrue_and (h2 rfl E _ _ _ F rfl fun k2 => by cases c with | false => exact k _ | true => exact isTrue_and_nil (k _))
theorem tsi_and3 {x y z : PySem.Expr} {pos : Pos} {b c d : Bool} (h1 : TsI prog w A env h₀ L m x b) (h2 : b = true → TsI prog w A env h₀ L m y c) (h3 : b = true → c = true → TsI prog w A env h₀ L m z d) :
    TsI prog w A env h₀ L m (.BoolOp .And [x, y, z] pos) (b && c && d) :=
  fun E s _ _ F e k => by
    refine isTrue_and (h1 E s _ _ F rfl fun k1 => ?_)
    cases b with
    | false => exact k _
    | true =>
      refine isTrue_and (h2 rfl E _ _ _ F rfl fun k2 => ?_)
      cases c with
      | false => exact k _
      | true => exact isTrue_and (h3 rfl rfl E _ _ _ F rfl fun k2 => by cases d with | false => exact k _ | true => exact isTrue_and_nil (k _))
theorem tsi_or {x y : PySem.Expr} {pos : Pos} {b c : Bool} (h1 : TsI prog w A env h₀ L m x b) (h2 : TsI prog w A env h₀ L m y c) : TsI prog w A env h₀ L m (.BoolOp .Or [x, y] pos) (b || c) :=
  fun E s _ _ F e k => by
    refine isTrue_or (h1 E s _ _ F rfl fun k1 => ?_)
    cases b with
    | true => exact k _
    | false => exact isTrue_or (h2 E _ _ _ F rfl fun k2 => by cases c with | true => exact k _ | false => exact isTrue_or_nil (k _))
theorem EvI.useA {l r : PySem.Expr} {pos : Pos} {i j : Int} {Q : Value → Shared → Prop} (F : Fr h₀ L s.heap m) (h1 : EvI prog w A env h₀ L m l i) (h2 : EvI prog w A env h₀ L m r j) (k : ∀ t k, Q (.int (i + j) t) { s with toks := k }) : wpAny (model prog w) A (eval (.BinOp l .Add r pos) env) Q E s := evi_add h1 h2 E s Q F k
theorem EvI.useS {l r : PySem.Expr} {pos : Pos} {i j : Int} {Q : Value → Shared → Prop} (F : Fr h₀ L s.heap m) (h1 : EvI prog w A env h₀ L m l i) (h2 : EvI prog w A env h₀ L m r j) (k : ∀ t k, Q (.int (i - j) t) { s with toks := k }) : wpAny (model prog w) A (eval (.BinOp l .Sub r pos) env) Q E s := evi_sub h1 h2 E s Q F k
theorem ite_two {b : Bool} {P Q : Prop} (h1 : b = true → P) (h2 : b = false → Q) : if b = true then P else Q := by
  cases b with
  | true => exact h1 rfl
  | false => exact h2 rfl
/-- what a test says -/
theorem tb : (∀ a b : Bool, ((a && b) = true) = (a = true ∧ b = true)) ∧ (∀ a b : Bool, ((a || b) = true) = (a = true ∨ b = true)) ∧ (∀ a b : Bool, ((a && b) = false) = (a = false ∨ b = false)) ∧ (∀ a b : Bool, ((a || b) = false) = (a = false ∧ b = false)) ∧
    (∀ (p : Prop) [Decidable p], (decide p = true) = p) ∧ (∀ (p : Prop) [Decidable p], (decide p = false) = ¬ p) ∧ (∀ a b : Int, ((a == b) = true) = (a = b)) ∧ (∀ a b : Int, ((a == b) = false) = ¬ a = b) := by
  refine ⟨?_, ?_, ?_, ?_, ?_, ?_, ?_, ?_⟩
  iterate 4 (intro a b; cases a <;> cases b <;> decide)
  all_goals (intros; simp)
end
end
section
open PySem PySem.W PyProof.Rows PySem.Calls
set_option Elab.async false
set_option maxRecDepth 100000
/-- entries that bear the fields of a list -/
noncomputable def Ents : List DictEntry → List (Str × Value) → Prop
  | [], [] => True
  | e :: es, p :: ps => ((∃ t, e.key = .str p.1 t) ∧ e.val = p.2) ∧ Ents es ps
  | _, _ => False
noncomputable def getF (name : Str) : List (Str × Value) → Option Value
  | [] => none
  | p :: r => if p.1 == name then some p.2 else getF name r
noncomputable def putF (name : Str) (v : Value) : List (Str × Value) → List (Str × Value)
  | [] => [(name, v)]
  | p :: r => if p.1 == name then (p.1, v) :: r else p :: putF name v r
theorem Ents.length : ∀ {es : List DictEntry} {fs : List (Str × Value)}, Ents es fs → es.length = fs.length
  | [], [], _ => rfl
  | [], _ :: _, h => h.elim
  | _ :: _, [], h => h.elim
  | _ :: _, _ :: _, h => by simp [Ents.length h.2]
theorem Ents.get {name : Str} : ∀ {es : List DictEntry} {fs : List (Str × Value)}, Ents es fs → getL name es = some (getF name fs)
  | [], [], _ => rfl
  | [], _ :: _, h => h.elim
  | _ :: _, [], h => h.elim
  | e :: es, p :: ps, h => by
    obtain ⟨⟨⟨t, hk⟩, hv⟩, r⟩ := h
    have ih := Ents.get (name := name) r
    have e1 : e.key.isStr name = (p.1 == name) := by rw [hk]; rfl
    have e2 : e.refKey = false := by unfold DictEntry.refKey; rw [hk]
    unfold getL at ih ⊢
    rw [List.find?_cons, e1, show getF name (p :: ps) = if p.1 == name then some p.2 else getF name ps from rfl]
    cases hb : (p.1 == name) with
    | true => simp [hv]
    | false =>
      simp only [Bool.false_eq_true, if_false, List.any_cons, e2, Bool.false_or]
      exact ih
theorem Ents.put {name : Str} {hsh : Int} {t : Tok} {v : Value} : ∀ {es : List DictEntry} {fs : List (Str × Value)}, Ents es fs → Ents (putL name hsh (.str name t) v es) (putF name v fs)
  | [], [], _ => ⟨⟨⟨t, rfl⟩, rfl⟩, trivial⟩
  | [], _ :: _, h => h.elim
  | _ :: _, [], h => h.elim
  | e :: es, p :: ps, h => by
    obtain ⟨⟨⟨t', hk⟩, hv⟩, r⟩ := h
    have ih := Ents.put (name := name) (hsh := hsh) (t := t) (v := v) r
    have e1 : e.key.isStr name = (p.1 == name) := by rw [hk]; rfl
    unfold putL putF
    rw [e1]
    cases hb : (p.1 == name) with
    | true => exact ⟨⟨⟨t', hk⟩, rfl⟩, r⟩
    | false => exact ⟨⟨⟨t', hk⟩, hv⟩, ih⟩
/-- a dict of fields -/
noncomputable def MD (fs : List (Str × Value)) (o : Obj) : Prop := ∃ es n, o = dictOf es n ∧ Ents es fs
theorem MD.cls {fs : List (Str × Value)} {o : Obj} (h : MD fs o) : o.cls = .type "dict" := by obtain ⟨_, _, rfl, _⟩ := h; rfl
theorem MD.look {fs : List (Str × Value)} {o : Obj} (h : MD fs o) (name : Str) : lookIn name o = some (getF name fs) := by
  obtain ⟨es, n, rfl, h⟩ := h
  rw [lookIn_dict, h.get]
section
variable {prog : Program} {w : World} {A : Around} {E : Value → Shared → Prop} {s : Shared} {K : Frag} {x D C L : Addr} {h₀ : Heap} {m : Str → Option Value} {news : List (Addr × Obj)} {o : Obj} {fs : List (Str × Value)} {name : Str} {v : Value}
theorem md_inst (N : News h₀ L s.heap news) (hx : (x, instObj C D) ∈ news) (hD : (D, o) ∈ news) : InstAt s.heap x (instObj C D) C (some o) := ⟨(N _ hx).1, rfl, rfl, (N _ hD).1⟩
theorem md_get {expr : Bool} {Q : Value → Shared → Prop} (F : Fr h₀ L s.heap m) (X₀ : K.In h₀) (N : News h₀ L s.heap news) (hx : (x, instObj C D) ∈ news) (hD : (D, o) ∈ news) (hM : MD fs o) (hg : plainGet K C name = true) (hh : hasDictIn K C = true)
    (ha : findIn K (.ref C) name = some none) (hl : getF name fs = some v) (hv : handedIn v = true) (h : Q v { s with toks := s.toks + 1 }) : wpAny (model prog w) A (getAttr (.ref x) name expr) Q E s :=
  get_value (X₀.keeps F.keep) (md_inst N hx hD) (plainGet_of hg).1 (findObj_own hh ha rfl (by rw [hM.look, hl])) hv h
theorem md_meth {pl : Sem Bool} {Q : Value × List Value → Shared → Prop} {f : Addr} (F : Fr h₀ L s.heap m) (X₀ : K.In h₀) (N : News h₀ L s.heap news) (hx : (x, instObj C D) ∈ news) (hD : (D, o) ∈ news) (hM : MD fs o) (hg : plainGet K C name = true)
    (hf : findIn K (.ref C) name = some (some (.ref f))) (ht : isFn K (.ref f) = true) (hl : getF name fs = none) (h : Q (.ref f, [.ref x]) s) : wpAny (model prog w) A (getMethod (.ref x) name pl) Q E s :=
  method_fn (X₀.keeps F.keep) (md_inst N hx hD) (plainGet_of hg).1 (plainGet_of hg).2 hf (beq_iff_eq.mp ht) (by show (lookIn name o).map _ = _; rw [hM.look, hl]; rfl) h
theorem putF_length (name : Str) (v : Value) : ∀ fs : List (Str × Value), (putF name v fs).length ≤ fs.length + 1
  | [] => by simp [putF]
  | p :: r => by
    have := putF_length name v r
    unfold putF; split <;> simp only [List.length_cons] <;> (first | lia | omega)
theorem md_set {g : Obj → List (Addr × Obj)} {Q : Unit → Shared → Prop} (F : Fr h₀ L s.heap m) (X₀ : K.In h₀) (N : News h₀ L s.heap news) (hx : (x, instObj C D) ∈ news) (U : UpdF D o news g) (hM : MD fs o)
    (hs : findIn K (.ref C) "__setattr__" = some (some (.builtin "object.__setattr__"))) (hp : plainOver K C = true) (ht : takerIn K C name = some none) (hh : hasDictIn K C = true) (hz : fs.length ≤ 100)
    (h : ∀ h' o', Fr h₀ L h' m → News h₀ L h' (g o') → MD (putF name v fs) o' → Q () { s with heap := h', toks := s.toks + 2 }) :
    wpAny (model prog w) A (setAttr (.ref x) name v) Q E s := by
  obtain ⟨pre, post, rfl, hg, a, b⟩ := U.split
  obtain ⟨es, n, rfl, hE⟩ := id hM
  have hE' := hE.put (name := name) (hsh := PyData.keyHash w.params name) (t := s.toks + 1) (v := v)
  have I := md_inst N hx (List.mem_append_right _ (.head _))
  refine set_plain (X₀.keeps F.keep) I hs (osa_dict (s := { s with toks := s.toks + 1 }) F N (X₀.keeps F.keep) I rfl hp ht hh (by rw [hM.look]; rfl) a b (putName_dict ..) rfl ?_ fun h' F' N' => h h' _ F' (by rw [hg]; exact N') ⟨_, _, rfl, hE'⟩)
  have := putF_length name v fs
  exact Nat.le_trans (Nat.le_of_eq hE'.length) (by (first | lia | omega))
end
/-- news off an address, by what stands there -/
theorem off_of {h₀ h : Heap} {L D : Addr} {oD : Obj} {news tl : List (Addr × Obj)} (N : News h₀ L h news) (hD : (D, oD) ∈ news) (hs : ∀ p ∈ tl, p ∈ news) (hc : ∀ p ∈ tl, p.2 ≠ oD) : ∀ p ∈ tl, p.1 ≠ D := by
  intro p hp e
  have e1 := (N _ (hs p hp)).1
  have e2 := (N _ hD).1
  simp only at e2
  rw [e, e2] at e1
  exact hc p hp (Option.some.inj e1).symm
theorem ne_of_obj {h₀ h : Heap} {L a b : Addr} {o o' : Obj} {news : List (Addr × Obj)} (N : News h₀ L h news) (ha : (a, o) ∈ news) (hb : (b, o') ∈ news) (hc : o.cls ≠ o'.cls) : a ≠ b := by
  rintro rfl
  have e1 := (N _ ha).1
  have e2 := (N _ hb).1
  simp only at e1 e2
  rw [e1] at e2
  exact hc (by rw [Option.some.inj e2])
theorem off_cons {a d : Addr} {o : Obj} {r : List (Addr × Obj)} (h : a ≠ d) : off d ((a, o) :: r) = (a, o) :: off d r := by
  unfold off
  rw [List.filter_cons_of_pos]
  simpa using h
noncomputable def lists (nx : List (Addr × Obj)) : List (Addr × Obj) := nx.filter fun p => p.2.cls == .type "list"
theorem mem_lists {nx : List (Addr × Obj)} {p : Addr × Obj} : p ∈ lists nx ↔ p ∈ nx ∧ p.2.cls = .type "list" := by simp [lists]
theorem B2.lists {nx : List (Addr × Obj)} {kvs : List (Str × Value)} {ys : List Nat} (h : B2 nx kvs ys) : B2 (lists nx) kvs ys := by
  obtain ⟨h1, h2, h3, h4⟩ := h
  refine ⟨fun c hc => ?_, h2, h3, h4⟩
  obtain ⟨l, vs, n, a, b, d⟩ := h1 c hc
  exact ⟨l, vs, n, a, mem_lists.mpr ⟨b, rfl⟩, d⟩
/-- the fields of a matcher -/
noncomputable abbrev FS (x y : Str) (tx ty : Tok) (mb oc fc b2 bj bp : Value) : List (Str × Value) :=
  [(Str.ofString "isjunk", .none), (Str.ofString "a", .str x tx), (Str.ofString "b", .str y ty), (Str.ofString "autojunk", .bool false), (Str.ofString "matching_blocks", mb), (Str.ofString "opcodes", oc), (Str.ofString "fullbcount", fc), (Str.ofString "b2j", b2), (Str.ofString "bjunk", bj), (Str.ofString "bpopular", bp)]
noncomputable abbrev FS0 (x y : Str) (tx ty : Tok) : List (Str × Value) :=
  [(Str.ofString "isjunk", .none), (Str.ofString "a", .str x tx), (Str.ofString "b", .str y ty), (Str.ofString "autojunk", .bool false), (Str.ofString "matching_blocks", .none), (Str.ofString "opcodes", .none), (Str.ofString "fullbcount", .none)]
section
variable {prog : Program} {w : World} {A : Around} {E : Value → Shared → Prop} {s : Shared} {h₀ : Heap} {L : Addr} {news : List (Addr × Obj)} {pl : Sem Bool} {Q : Value × List Value → Shared → Prop} {D : Addr} {its : Array Value} {n : Nat} {o : Obj} {kvs : List (Str × Value)}
theorem kf_append (N : News h₀ L s.heap news) (hm : (D, listOf its n) ∈ news) (h : Q (.builtin "list.append", [.ref D]) s) : wpAny (model prog w) A (getMethod (.ref D) (Str.ofString "append") pl) Q E s := kf_method N hm PySem.F.slot_list_append PySem.type_list_append h
theorem kf_pop (N : News h₀ L s.heap news) (hm : (D, listOf its n) ∈ news) (h : Q (.builtin "list.pop", [.ref D]) s) : wpAny (model prog w) A (getMethod (.ref D) (Str.ofString "pop") pl) Q E s := kf_method N hm PySem.F.slot_list_pop PySem.F.type_list_pop h
theorem kf_sort (N : News h₀ L s.heap news) (hm : (D, listOf its n) ∈ news) (h : Q (.builtin "list.sort", [.ref D]) s) : wpAny (model prog w) A (getMethod (.ref D) (Str.ofString "sort") pl) Q E s := kf_method N hm PySem.F.slot_list_sort PySem.F.type_list_sort h
theorem kob_setdefault (N : News h₀ L s.heap news) (hp : (D, o) ∈ news) (hd : o.IsDictOf (PySem.strKind prog w) kvs) (h : Q (.builtin "dict.setdefault", [.ref D]) s) : wpAny (model prog w) A (getMethod (.ref D) (Str.ofString "setdefault") pl) Q E s := kob_method PySem.F.slot_dict_setdefault PySem.F.type_dict_setdefault N hp hd h
theorem kob_get (N : News h₀ L s.heap news) (hp : (D, o) ∈ news) (hd : o.IsDictOf (PySem.strKind prog w) kvs) (h : Q (.builtin "dict.get", [.ref D]) s) : wpAny (model prog w) A (getMethod (.ref D) (Str.ofString "get") pl) Q E s := kob_method PySem.F.slot_dict_get PySem.F.type_dict_get N hp hd h
end
end
section
open PySem PySem.W PyProof.Rows PySem.Calls
set_option Elab.async false
set_option maxRecDepth 100000
set_option maxHeartbeats 4000000
/-- how far two windows run alike backwards from (alo + r, blo + c) -/
noncomputable def sf (a b : List Nat) (alo blo : Nat) : Nat → Nat → Nat
  | 0, _ => 0
  | _ + 1, 0 => 0
  | r + 1, c + 1 => if a.getD (alo + r) 0 = b.getD (blo + c) 0 then sf a b alo blo r c + 1 else 0
theorem sf_le (a b : List Nat) (alo blo : Nat) : ∀ r c, sf a b alo blo r c ≤ r ∧ sf a b alo blo r c ≤ c
  | 0, _ => by simp [sf]
  | _ + 1, 0 => by simp [sf]
  | r + 1, c + 1 => by
    have := sf_le a b alo blo r c
    unfold sf; split <;> (first | lia | omega)
theorem sf_of_lw {a b : List Nat} {alo ahi blo bhi i j : Nat} (ha : ahi ≤ a.length) (hb : bhi ≤ b.length) (hi : alo ≤ i) (hj : blo ≤ j) : ∀ k, k ≤ lw a b ahi bhi i j → k ≤ sf a b alo blo (i - alo + k) (j - blo + k)
  | 0, _ => Nat.zero_le _
  | k + 1, h => by
    have ih := sf_of_lw (a := a) (b := b) ha hb hi hj k (by (first | lia | omega))
    have h1 := (lcw_lt (a := a) (b := b) (i := i) (j := j) (k := k) ha hb (by have : lw a b ahi bhi i j = lce (cut a i ahi) (cut b j bhi) := rfl; (first | lia | omega))).mp h
    show _ ≤ sf a b alo blo (i - alo + k + 1) (j - blo + k + 1)
    unfold sf
    have e1 : alo + (i - alo + k) = i + k := by (first | lia | omega)
    have e2 : blo + (j - blo + k) = j + k := by (first | lia | omega)
    rw [e1, e2, if_pos h1.2.2]
    (first | lia | omega)
theorem same_of_sf {a b : List Nat} {alo blo p q : Nat} : ∀ k, k ≤ sf a b alo blo (p + k) (q + k) → ∀ t, t < k → a.getD (alo + p + t) 0 = b.getD (blo + q + t) 0
  | 0, _, t, ht => absurd ht (Nat.not_lt_zero _)
  | k + 1, h, t, ht => by
    change k + 1 ≤ sf a b alo blo (p + k + 1) (q + k + 1) at h
    unfold sf at h
    split at h
    · rename_i e
      by_cases he : t = k
      · subst he
        rw [show alo + p + t = alo + (p + t) by (first | lia | omega), show blo + q + t = blo + (q + t) by (first | lia | omega)]; exact e
      · exact same_of_sf k (by (first | lia | omega)) t (by (first | lia | omega))
    · (first | lia | omega)
theorem lw_of_sf {a b : List Nat} {alo ahi blo bhi i j k : Nat} (ha : ahi ≤ a.length) (hb : bhi ≤ b.length) (hi : alo ≤ i) (hj : blo ≤ j) (h1 : i + k ≤ ahi) (h2 : j + k ≤ bhi) (h : k ≤ sf a b alo blo (i - alo + k) (j - blo + k)) : k ≤ lw a b ahi bhi i j := by
  have hs := same_of_sf k h
  have go : ∀ t, t ≤ k → t ≤ lw a b ahi bhi i j := by
    intro t
    induction t with
    | zero => intro _; (first | lia | omega)
    | succ t ih =>
      intro ht
      have h0 := ih (by (first | lia | omega))
      have := hs t (by (first | lia | omega))
      rw [show alo + (i - alo) + t = i + t by (first | lia | omega), show blo + (j - blo) + t = j + t by (first | lia | omega)] at this
      exact (lcw_lt (a := a) (b := b) (i := i) (j := j) (k := t) ha hb h0).mpr ⟨by (first | lia | omega), by (first | lia | omega), this⟩
  exact go k (Nat.le_refl _)
/-- the best end among those looked at -/
noncomputable def BInv (a b : List Nat) (alo ahi blo bhi : Nat) (S : Nat → Nat → Prop) (i j k : Nat) : Prop :=
  alo ≤ i ∧ blo ≤ j ∧ i + k ≤ ahi ∧ j + k ≤ bhi ∧ k ≤ sf a b alo blo (i - alo + k) (j - blo + k) ∧ (k = 0 → i = alo ∧ j = blo) ∧ (k ≠ 0 → S (i - alo + k) (j - blo + k)) ∧
  ∀ r c, S r c → sf a b alo blo r c < k ∨ (sf a b alo blo r c = k ∧ (k = 0 ∨ i - alo + k < r ∨ (i - alo + k = r ∧ j - blo + k ≤ c)))
theorem BInv.start {a b : List Nat} {alo ahi blo bhi : Nat} {S : Nat → Nat → Prop} (ha : alo ≤ ahi) (hb : blo ≤ bhi) (hS : ∀ r c, S r c → r = 0) : BInv a b alo ahi blo bhi S alo blo 0 :=
  ⟨Nat.le_refl _, Nat.le_refl _, ha, hb, Nat.zero_le _, fun _ => ⟨rfl, rfl⟩, fun h => absurd rfl h, fun r c h => by have := hS r c h; subst this; exact .inr ⟨rfl, .inl rfl⟩⟩
/-- more ends, at which nothing runs alike -/
theorem BInv.none {a b : List Nat} {alo ahi blo bhi : Nat} {S S' : Nat → Nat → Prop} {i j k : Nat} (h : BInv a b alo ahi blo bhi S i j k) (h1 : ∀ r c, S r c → S' r c) (h2 : ∀ r c, S' r c → S r c ∨ sf a b alo blo r c = 0) : BInv a b alo ahi blo bhi S' i j k := by
  obtain ⟨g1, g2, g3, g4, g5, g6, g7, g8⟩ := h
  refine ⟨g1, g2, g3, g4, g5, g6, fun hk => h1 _ _ (g7 hk), fun r c hs => ?_⟩
  rcases h2 r c hs with h | h
  · exact g8 r c h
  · rw [h]
    by_cases hk : k = 0
    · subst hk; exact .inr ⟨rfl, .inl rfl⟩
    · exact .inl (by (first | lia | omega))
/-- one more end, behind all the others -/
theorem BInv.skip {a b : List Nat} {alo ahi blo bhi : Nat} {S S' : Nat → Nat → Prop} {i j k r c : Nat} (h : BInv a b alo ahi blo bhi S i j k) (h1 : ∀ r c, S r c → S' r c) (h2 : ∀ r' c', S' r' c' → S r' c' ∨ (r' = r ∧ c' = c)) (hlt : ∀ r' c', S r' c' → r' < r ∨ (r' = r ∧ c' ≤ c))
    (hk : sf a b alo blo r c ≤ k) : BInv a b alo ahi blo bhi S' i j k := by
  obtain ⟨g1, g2, g3, g4, g5, g6, g7, g8⟩ := h
  refine ⟨g1, g2, g3, g4, g5, g6, fun hk => h1 _ _ (g7 hk), fun r' c' hs => ?_⟩
  rcases h2 r' c' hs with h | ⟨rfl, rfl⟩
  · exact g8 r' c' h
  · by_cases e : sf a b alo blo r' c' = k
    · refine .inr ⟨e, ?_⟩
      by_cases hz : k = 0
      · exact .inl hz
      · exact .inr (hlt _ _ (g7 hz))
    · exact .inl (by (first | lia | omega))
theorem BInv.take {a b : List Nat} {alo ahi blo bhi : Nat} {S S' : Nat → Nat → Prop} {i j k r c : Nat} (h : BInv a b alo ahi blo bhi S i j k) (h2 : ∀ r' c', S' r' c' → S r' c' ∨ (r' = r ∧ c' = c)) (h3 : S' r c)
    (hk : k < sf a b alo blo r c) (hr : alo + r ≤ ahi) (hc : blo + c ≤ bhi) : BInv a b alo ahi blo bhi S' (alo + r - sf a b alo blo r c) (blo + c - sf a b alo blo r c) (sf a b alo blo r c) := by
  obtain ⟨g1, g2, g3, g4, g5, g6, g7, g8⟩ := h
  have hl := sf_le a b alo blo r c
  have e1 : alo + r - sf a b alo blo r c - alo + sf a b alo blo r c = r := by (first | lia | omega)
  have e2 : blo + c - sf a b alo blo r c - blo + sf a b alo blo r c = c := by (first | lia | omega)
  refine ⟨by (first | lia | omega), by (first | lia | omega), by (first | lia | omega), by (first | lia | omega), ?_, fun h => by (first | lia | omega), fun _ => by rw [e1, e2]; exact h3, fun r' c' hs => ?_⟩
  · rw [e1, e2]; exact Nat.le_refl _
  rw [e1, e2]
  rcases h2 r' c' hs with h | ⟨rfl, rfl⟩
  · rcases g8 r' c' h with h | h <;> exact .inl (by (first | lia | omega))
  · exact .inr ⟨rfl, .inr (.inr ⟨rfl, Nat.le_refl _⟩)⟩
theorem BInv.isLg {a b : List Nat} {alo ahi blo bhi : Nat} {S : Nat → Nat → Prop} {i j k : Nat} (h : BInv a b alo ahi blo bhi S i j k) (ha : ahi ≤ a.length) (hb : bhi ≤ b.length) (hS : ∀ r c, alo + r ≤ ahi → blo + c ≤ bhi → S r c) : IsLg a b alo ahi blo bhi i j k := by
  obtain ⟨g1, g2, g3, g4, g5, g6, g7, g8⟩ := h
  refine ⟨g1, g3, g2, g4, lw_of_sf ha hb g1 g2 g3 g4 g5, g6, ?_⟩
  rintro i' j' ⟨h1, h2, h3, h4⟩
  have l1 : lw a b ahi bhi i' j' ≤ ahi - i' := by have := lce_le1 (cut a i' ahi) (cut b j' bhi); rw [cut_length _ _ _ ha] at this; exact this
  have l2 : lw a b ahi bhi i' j' ≤ bhi - j' := by have := lce_le2 (cut a i' ahi) (cut b j' bhi); rw [cut_length _ _ _ hb] at this; exact this
  generalize hw : lw a b ahi bhi i' j' = n at *
  have h5 := sf_of_lw (a := a) (b := b) (alo := alo) (blo := blo) ha hb h1 h3 n (by (first | lia | omega))
  rcases g8 (i' - alo + n) (j' - blo + n) (hS _ _ (by (first | lia | omega)) (by (first | lia | omega))) with h | ⟨h, h'⟩
  · exact .inl (by (first | lia | omega))
  · by_cases e : n = k
    · refine .inr ⟨e, ?_⟩
      rcases h' with h' | h' | h'
      · obtain ⟨rfl, rfl⟩ := g6 h'; (first | lia | omega)
      · (first | lia | omega)
      · (first | lia | omega)
    · exact .inl (by (first | lia | omega))
/-- nothing runs on ahead of the longest match or behind it -/
theorem IsLg.ends {a b : List Nat} {alo ahi blo bhi i j k : Nat} (h : IsLg a b alo ahi blo bhi i j k) (ha : ahi ≤ a.length) (hb : bhi ≤ b.length) :
    (alo < i → blo < j → a.getD (i - 1) 0 ≠ b.getD (j - 1) 0) ∧ (i + k < ahi → j + k < bhi → a.getD (i + k) 0 ≠ b.getD (j + k) 0) := by
  obtain ⟨g1, g2, g3, g4, g5, g6, g7⟩ := h
  constructor
  · intro hi hj e
    have hk : k ≠ 0 := fun hk => by have := g6 hk; (first | lia | omega)
    have go : ∀ t, t ≤ k + 1 → t ≤ lw a b ahi bhi (i - 1) (j - 1) := by
      intro t
      induction t with
      | zero => intro _; (first | lia | omega)
      | succ t ih =>
        intro ht
        have h0 := ih (by (first | lia | omega))
        refine (lcw_lt (a := a) (b := b) (i := i - 1) (j := j - 1) (k := t) ha hb h0).mpr ⟨by (first | lia | omega), by (first | lia | omega), ?_⟩
        cases t with
        | zero => exact e
        | succ t =>
          have := ((lcw_lt (a := a) (b := b) (i := i) (j := j) (k := t) ha hb (by have : lw a b ahi bhi i j = lce (cut a i ahi) (cut b j bhi) := rfl; (first | lia | omega))).mp (by have : lw a b ahi bhi i j = lce (cut a i ahi) (cut b j bhi) := rfl; (first | lia | omega))).2.2
          rw [show i - 1 + (t + 1) = i + t by (first | lia | omega), show j - 1 + (t + 1) = j + t by (first | lia | omega)]; exact this
    have := go (k + 1) (Nat.le_refl _)
    rcases g7 (i - 1) (j - 1) ⟨by (first | lia | omega), by (first | lia | omega), by (first | lia | omega), by (first | lia | omega)⟩ with h | h <;> (first | lia | omega)
  · intro hi hj e
    have := (lcw_lt (a := a) (b := b) (i := i) (j := j) (k := k) ha hb (by have : lw a b ahi bhi i j = lce (cut a i ahi) (cut b j bhi) := rfl; (first | lia | omega))).mpr ⟨hi, hj, e⟩
    rcases g7 i j ⟨by (first | lia | omega), by (first | lia | omega), by (first | lia | omega), by (first | lia | omega)⟩ with h | h <;> (have : lw a b ahi bhi i j = lce (cut a i ahi) (cut b j bhi) := rfl; (first | lia | omega))
theorem places_length' (c : Nat) : ∀ (xs : List Nat) (i : Nat), (places c xs i).length ≤ xs.length
  | [], _ => Nat.le_refl _
  | x :: xs, i => by
    have := places_length' c xs (i + 1)
    unfold places; split <;> simp only [List.length_cons] <;> (first | lia | omega)
/-- the places of a sign, in rising order -/
theorem mem_places {c : Nat} : ∀ {xs : List Nat} {i p : Nat}, p ∈ places c xs i ↔ i ≤ p ∧ p < i + xs.length ∧ xs.getD (p - i) 0 = c
  | [], i, p => by simp [places]; (first | lia | omega)
  | x :: xs, i, p => by
    have ih := mem_places (c := c) (xs := xs) (i := i + 1) (p := p)
    have key : (i + 1 ≤ p ∧ p < i + 1 + xs.length ∧ xs.getD (p - (i + 1)) 0 = c) ↔ (i < p ∧ p < i + (x :: xs).length ∧ (x :: xs).getD (p - i) 0 = c) := by
      simp only [List.length_cons]
      constructor
      · rintro ⟨h1, h2, h3⟩
        refine ⟨by (first | lia | omega), by (first | lia | omega), ?_⟩
        rw [show p - i = (p - (i + 1)) + 1 by (first | lia | omega), List.getD_cons_succ]; exact h3
      · rintro ⟨h1, h2, h3⟩
        refine ⟨by (first | lia | omega), by (first | lia | omega), ?_⟩
        rw [show p - i = (p - (i + 1)) + 1 by (first | lia | omega), List.getD_cons_succ] at h3; exact h3
    unfold places
    by_cases hx : x = c
    · rw [if_pos hx, List.mem_cons, ih, key]
      constructor
      · rintro (rfl | h)
        · exact ⟨Nat.le_refl _, by simp, by simpa using hx⟩
        · exact ⟨by (first | lia | omega), h.2.1, h.2.2⟩
      · rintro ⟨h1, h2, h3⟩
        by_cases e : p = i
        · exact .inl e
        · exact .inr ⟨by (first | lia | omega), h2, h3⟩
    · rw [if_neg hx, ih, key]
      constructor
      · rintro ⟨h1, h2, h3⟩; exact ⟨by (first | lia | omega), h2, h3⟩
      · rintro ⟨h1, h2, h3⟩
        refine ⟨?_, h2, h3⟩
        by_cases e : p = i
        · subst e; simp at h3; exact absurd h3 hx
        · (first | lia | omega)
theorem places_sorted {c : Nat} : ∀ (xs : List Nat) (i : Nat), (places c xs i).Pairwise (· < ·)
  | [], i => by simp [places]
  | x :: xs, i => by
    have ih := places_sorted (c := c) xs (i + 1)
    unfold places
    split
    · refine List.pairwise_cons.mpr ⟨fun p hp => ?_, ih⟩
      have := (mem_places.mp hp).1
      (first | lia | omega)
    · exact ih
/-- a row of lengths, as a dict bears it -/
noncomputable def RowD (kvs : List (Int × Value)) (blo W : Nat) (f : Nat → Nat) : Prop :=
  ∀ c, c ≤ W → (valueAt kvs ((blo : Int) + c - 1) = none ∧ f c = 0) ∨ ∃ t, valueAt kvs ((blo : Int) + c - 1) = some (.int (f c : Nat) t)
noncomputable def InnerJ (a b : List Nat) (alo ahi blo bhi r t : Nat) (ps : List Nat) (kvs : List (Int × Value)) (i j k : Nat) : Prop :=
  RowD kvs blo (bhi - blo) (fun c => if 1 ≤ c ∧ blo + c - 1 ∈ ps.take t then sf a b alo blo (r + 1) c else 0) ∧
  BInv a b alo ahi blo bhi (fun r' c' => (r' ≤ r ∧ c' ≤ bhi - blo) ∨ (r' = r + 1 ∧ 1 ≤ c' ∧ c' ≤ bhi - blo ∧ blo + c' - 1 ∈ ps.take t)) i j k ∧ kvs.length ≤ t
noncomputable def OuterJ (a b : List Nat) (alo ahi blo bhi r : Nat) (kvs : List (Int × Value)) (i j k : Nat) : Prop :=
  RowD kvs blo (bhi - blo) (sf a b alo blo r) ∧ BInv a b alo ahi blo bhi (fun r' c' => r' ≤ r ∧ c' ≤ bhi - blo) i j k ∧ kvs.length ≤ b.length
section
variable {a b : List Nat} {alo ahi blo bhi r t i j k p : Nat} {ps : List Nat} {kvs : List (Int × Value)} {tok : Tok}
theorem OuterJ.start (ha : alo ≤ ahi) (hb : blo ≤ bhi) : OuterJ a b alo ahi blo bhi 0 [] alo blo 0 :=
  ⟨fun c _ => .inl ⟨rfl, by simp [sf]⟩, BInv.start ha hb fun r c h => by (first | lia | omega), Nat.zero_le _⟩
theorem OuterJ.get (h : OuterJ a b alo ahi blo bhi r kvs i j k) {c : Nat} (hc : c ≤ bhi - blo) (z : Tok) : ∃ t, (valueAt kvs ((blo : Int) + c - 1)).getD (.int 0 z) = .int (sf a b alo blo r c : Nat) t := by
  rcases h.1 c hc with ⟨h1, h2⟩ | ⟨t, h1⟩
  · rw [h1, h2]; exact ⟨z, rfl⟩
  · rw [h1]; exact ⟨t, rfl⟩
theorem InnerJ.start (h : OuterJ a b alo ahi blo bhi r kvs i j k) : InnerJ a b alo ahi blo bhi r 0 ps [] i j k := by
  refine ⟨fun c _ => .inl ⟨rfl, by simp⟩, h.2.1.none (fun r c h => .inl h) (fun r' c' h' => ?_), Nat.le_refl _⟩
  rcases h' with h' | h'
  · exact .inl h'
  · simp at h'
theorem take_succ_mem (hp : ps[t]? = some p) (q : Nat) : q ∈ ps.take (t + 1) ↔ q ∈ ps.take t ∨ q = p := by
  rw [List.take_add_one, hp]; simp
theorem InnerJ.skip (h : InnerJ a b alo ahi blo bhi r t ps kvs i j k) (hp : ps[t]? = some p) (hlt : p < blo) : InnerJ a b alo ahi blo bhi r (t + 1) ps kvs i j k := by
  have hm : ∀ c, 1 ≤ c → (blo + c - 1 ∈ ps.take (t + 1) ↔ blo + c - 1 ∈ ps.take t) := fun c hc => by
    rw [take_succ_mem hp]
    constructor
    · rintro (h | h)
      · exact h
      · (first | lia | omega)
    · exact .inl
  refine ⟨fun c hc => ?_, h.2.1.none (fun r' c' h' => ?_) (fun r' c' h' => ?_), Nat.le_succ_of_le h.2.2⟩
  · have h0 := h.1 c hc
    have e : (if 1 ≤ c ∧ blo + c - 1 ∈ ps.take (t + 1) then sf a b alo blo (r + 1) c else 0) = (if 1 ≤ c ∧ blo + c - 1 ∈ ps.take t then sf a b alo blo (r + 1) c else 0) := by
      by_cases h1 : 1 ≤ c
      · simp only [hm c h1]
      · simp only [h1, false_and]
    simp only [e]; exact h0
  · rcases h' with h' | ⟨h1, h2, h3, h4⟩
    · exact .inl h'
    · exact .inr ⟨h1, h2, h3, (hm _ h2).mpr h4⟩
  · refine .inl ?_
    rcases h' with h' | ⟨h1, h2, h3, h4⟩
    · exact .inl h'
    · exact .inr ⟨h1, h2, h3, (hm _ h2).mp h4⟩
theorem sf_step (hps : ps = places (a.getD (alo + r) 0) b 0) (hp : p ∈ ps) (h1 : blo ≤ p) : sf a b alo blo (r + 1) (p - blo + 1) = sf a b alo blo r (p - blo) + 1 := by
  subst hps
  have := (mem_places.mp hp).2.2
  show (if a.getD (alo + r) 0 = b.getD (blo + (p - blo)) 0 then _ else _) = _
  rw [if_pos]
  rw [show blo + (p - blo) = p by (first | lia | omega), ← this, Nat.sub_zero]
theorem stored_length : ∀ {kvs : List (Int × Value)} {k : Int} {v : Value}, (stored kvs k v).length ≤ kvs.length + 1 := by
  intro kvs k v
  unfold stored
  split <;> simp
theorem row_put (hp : ps[t]? = some p) (h1 : blo ≤ p) (h2 : p < bhi) (h : RowD kvs blo (bhi - blo) (fun c => if 1 ≤ c ∧ blo + c - 1 ∈ ps.take t then sf a b alo blo (r + 1) c else 0)) :
    RowD (stored kvs (p : Int) (.int (sf a b alo blo (r + 1) (p - blo + 1) : Nat) tok)) blo (bhi - blo) (fun c => if 1 ≤ c ∧ blo + c - 1 ∈ ps.take (t + 1) then sf a b alo blo (r + 1) c else 0) := by
  intro c hc
  rw [valueAt_stored]
  by_cases e : c = p - blo + 1
  · subst e
    have e1 : ((blo : Int) + ((p - blo + 1 : Nat) : Int) - 1) = (p : Int) := by (first | lia | omega)
    rw [e1, if_pos rfl]
    refine .inr ⟨tok, ?_⟩
    have : 1 ≤ p - blo + 1 ∧ blo + (p - blo + 1) - 1 ∈ ps.take (t + 1) := ⟨by (first | lia | omega), by rw [take_succ_mem hp]; exact .inr (by (first | lia | omega))⟩
    dsimp only; rw [if_pos this]
  · have e1 : ¬ ((p : Int) = (blo : Int) + c - 1) := by (first | lia | omega)
    rw [if_neg e1]
    have h0 := h c hc
    have e2 : (1 ≤ c ∧ blo + c - 1 ∈ ps.take (t + 1)) ↔ (1 ≤ c ∧ blo + c - 1 ∈ ps.take t) := by
      rw [take_succ_mem hp]
      constructor
      · rintro ⟨h1, h2 | h2⟩
        · exact ⟨h1, h2⟩
        · (first | lia | omega)
      · rintro ⟨h1, h2⟩; exact ⟨h1, .inl h2⟩
    simp only [e2]; exact h0
theorem take_lt (hs : ps.Pairwise (· < ·)) (hp : ps[t]? = some p) : ∀ q ∈ ps.take t, q < p := by
  intro q hq
  obtain ⟨n, hn, e⟩ := List.getElem_of_mem hq
  rw [List.length_take] at hn
  rw [List.getElem_take] at e
  obtain ⟨ht, hp⟩ := List.getElem?_eq_some_iff.mp hp
  rw [← e, ← hp]
  exact List.pairwise_iff_getElem.mp hs n t (by (first | lia | omega)) ht (by (first | lia | omega))
theorem InnerJ.put (h : InnerJ a b alo ahi blo bhi r t ps kvs i j k) (hs : ps.Pairwise (· < ·)) (hp : ps[t]? = some p) (h1 : blo ≤ p) (h2 : p < bhi) (hk : sf a b alo blo (r + 1) (p - blo + 1) ≤ k) :
    InnerJ a b alo ahi blo bhi r (t + 1) ps (stored kvs (p : Int) (.int (sf a b alo blo (r + 1) (p - blo + 1) : Nat) tok)) i j k := by
  refine ⟨row_put hp h1 h2 h.1, h.2.1.skip (r := r + 1) (c := p - blo + 1) (fun r' c' h' => ?_) (fun r' c' h' => ?_) (fun r' c' h' => ?_) hk, Nat.le_trans stored_length (Nat.succ_le_succ h.2.2)⟩
  · rcases h' with h' | ⟨h1, h2, h3, h4⟩
    · exact .inl h'
    · exact .inr ⟨h1, h2, h3, (take_succ_mem hp _).mpr (.inl h4)⟩
  · rcases h' with h' | ⟨h1, h2, h3, h4⟩
    · exact .inl (.inl h')
    · rcases (take_succ_mem hp _).mp h4 with h4 | h4
      · exact .inl (.inr ⟨h1, h2, h3, h4⟩)
      · exact .inr ⟨h1, by (first | lia | omega)⟩
  · rcases h' with h' | ⟨h1, h2, h3, h4⟩
    · exact .inl (by (first | lia | omega))
    · have := take_lt hs hp _ h4
      exact .inr ⟨h1, by (first | lia | omega)⟩
theorem InnerJ.take (h : InnerJ a b alo ahi blo bhi r t ps kvs i j k) (hp : ps[t]? = some p) (h1 : blo ≤ p) (h2 : p < bhi) (hr : alo + (r + 1) ≤ ahi) (hk : k < sf a b alo blo (r + 1) (p - blo + 1)) :
    InnerJ a b alo ahi blo bhi r (t + 1) ps (stored kvs (p : Int) (.int (sf a b alo blo (r + 1) (p - blo + 1) : Nat) tok)) (alo + (r + 1) - sf a b alo blo (r + 1) (p - blo + 1)) (blo + (p - blo + 1) - sf a b alo blo (r + 1) (p - blo + 1)) (sf a b alo blo (r + 1) (p - blo + 1)) := by
  refine ⟨row_put hp h1 h2 h.1, h.2.1.take (r := r + 1) (c := p - blo + 1) (fun r' c' h' => ?_) ?_ hk hr (by (first | lia | omega)), Nat.le_trans stored_length (Nat.succ_le_succ h.2.2)⟩
  · rcases h' with h' | ⟨h1, h2, h3, h4⟩
    · exact .inl (.inl h')
    · rcases (take_succ_mem hp _).mp h4 with h4 | h4
      · exact .inl (.inr ⟨h1, h2, h3, h4⟩)
      · exact .inr ⟨h1, by (first | lia | omega)⟩
  · exact .inr ⟨rfl, by (first | lia | omega), by (first | lia | omega), (take_succ_mem hp _).mpr (.inr (by (first | lia | omega)))⟩
theorem break_end (hs : ps.Pairwise (· < ·)) (hp : ps[t]? = some p) (h1 : bhi ≤ p) : ∀ q ∈ ps, q < bhi → q ∈ ps.take t := by
  intro q hq hlt
  obtain ⟨n, hn, e⟩ := List.getElem_of_mem hq
  obtain ⟨ht, hp⟩ := List.getElem?_eq_some_iff.mp hp
  have : n < t := by
    rcases Nat.lt_or_ge n t with h | h
    · exact h
    · by_cases e2 : n = t
      · subst e2; (first | lia | omega)
      · have := List.pairwise_iff_getElem.mp hs t n ht hn (by (first | lia | omega)); (first | lia | omega)
  rw [← e]
  have hm : n < (ps.take t).length := by rw [List.length_take]; (first | lia | omega)
  have := List.getElem_mem hm
  rw [List.getElem_take] at this
  exact this
theorem InnerJ.fin (h : InnerJ a b alo ahi blo bhi r t ps kvs i j k) (hps : ps = places (a.getD (alo + r) 0) b 0) (hb : bhi ≤ b.length) (he : ∀ q ∈ ps, q < bhi → q ∈ ps.take t) (ht : t ≤ ps.length) : OuterJ a b alo ahi blo bhi (r + 1) kvs i j k := by
  have key : ∀ c, c ≤ bhi - blo → ¬ (1 ≤ c ∧ blo + c - 1 ∈ ps.take t) → sf a b alo blo (r + 1) c = 0 := by
    intro c hc hn
    cases c with
    | zero => rfl
    | succ c =>
      show (if a.getD (alo + r) 0 = b.getD (blo + c) 0 then _ else _) = _
      rw [if_neg]
      intro e
      refine hn ⟨by (first | lia | omega), he _ ?_ (by (first | lia | omega))⟩
      rw [hps, mem_places]
      refine ⟨Nat.zero_le _, by (first | lia | omega), ?_⟩
      rw [e]; simp
  refine ⟨fun c hc => ?_, h.2.1.none (fun r' c' h' => ?_) (fun r' c' h' => ?_), ?_⟩
  · have h0 := h.1 c hc
    by_cases e : 1 ≤ c ∧ blo + c - 1 ∈ ps.take t
    · dsimp only at h0; rw [if_pos e] at h0; exact h0
    · dsimp only at h0; rw [if_neg e] at h0; rw [key c hc e]; exact h0
  · rcases h' with h' | h' <;> (first | lia | omega)
  · by_cases e : r' ≤ r
    · exact .inl (.inl ⟨e, h'.2⟩)
    · have e1 : r' = r + 1 := by (first | lia | omega)
      subst e1
      by_cases e2 : 1 ≤ c' ∧ blo + c' - 1 ∈ ps.take t
      · exact .inl (.inr ⟨rfl, e2.1, h'.2, e2.2⟩)
      · exact .inr (key c' h'.2 e2)
  · have h1 := h.2.2
    have h2 : ps.length ≤ b.length := by rw [hps]; exact places_length' _ _ _
    (first | lia | omega)
end
end
section
open PySem PySem.W PyProof.Rows PySem.Calls
local macro_rules | `(tactic| wtm_at "om") => `(tactic| first | lia | omega)
local macro_rules | `(tactic| wtm_at "as") => `(tactic| with_reducible assumption)
local macro_rules | `(tactic| wtm_at "mt") => `(tactic| first | with_reducible exact List.mem_cons_self | (refine List.mem_cons_of_mem _ ?_; wtm_at "mt") | (refine List.mem_append_left _ ?_; wtm_at "mt") | (refine List.mem_append_right _ ?_; wtm_at "mt") | wtm_at "as")
local macro_rules | `(tactic| wtm_at "msub") => `(tactic| first | wtm_at "as" | with_reducible exact sub_nil | (refine sub_cons ?_ ?_; wtm_at "mt"; wtm_at "msub") | (refine sub_app ?_ ?_ <;> wtm_at "msub") | (intro p hp; wtm_at "mt"))
local macro_rules | `(tactic| k_mem) => `(tactic| wtm_at "mt")
local macro_rules | `(tactic| k_all) => `(tactic| wtm_at "as")
local macro_rules | `(tactic| wtm_at "ln") => `(tactic| ((try simp only [List.length_append, List.length_cons, List.length_nil, List.length_take]); wtm_at "om"))
local macro_rules | `(tactic| wtm_at "bd") => `(tactic| ((try simp only [decide_eq_true_eq] at *); wtm_at "om"))
local macro_rules | `(tactic| wtm_at "mx call") => `(tactic| first | ((with_reducible refine' append_L ?a ?b ?c ?d ?e); (case a => assumption); (case b => assumption); (case c => k_upd); (case d => wtm_at "ln"); intro _ _ _) | ((with_reducible refine' append_F ?a ?b ?c ?d ?e); (case a => assumption); (case b => assumption); (case c => wtm_at "mt"); (case d => wtm_at "ln"); intro _ _ _) | ((with_reducible refine' len_s ?a ?b); (case a => assumption)) | ((with_reducible refine' len_l ?a ?b ?c ?d); (case a => assumption); (case b => wtm_at "mt"); (case c => wtm_at "om")))
local macro_rules | `(tactic| wtm_at "mx subscriptTail") => `(tactic| first | ((with_reducible show wpAny _ _ (subscriptTail _ _ (Value.ref _) (Value.int _ _)) _ _ _); refine tup_idx (by assumption) (by wtm_at "mt") (by decide) (by decide) (by exact rfl) ?_) | ((with_reducible show wpAny _ _ (subscriptTail _ _ (Value.str _ _) (Value.int _ _)) _ _ _); refine str_idx (by wtm_at "bd") (by wtm_at "bd") (by assumption) ?_) | ((with_reducible show wpAny _ _ (subscriptTail _ _ (Value.ref _) (Value.ref _)) _ _ _); refine slice_to (s := ⟨_, _, _, _, _⟩) (by assumption) (by assumption) (by wtm_at "mt") (by wtm_at "om") (by wtm_at "om") ?_; intro _ _ _ _ _))
local macro_rules | `(tactic| wtm_at "mx") => `(tactic| first | ((with_reducible show wpAny _ _ (call _ _ _) _ _ _); wtm_at "mx call") | ((with_reducible show wpAny _ _ (subscriptTail _ _ _ _) _ _ _); wtm_at "mx subscriptTail") | ((with_reducible show wpAny _ _ (isTrue _ _ _) _ _ _); refine' TsI.use ?a ?b ?c; (case a => wtm_at "as"); (case b => wtm_at "evt"); intro _; (try dsimp only)) | ((first | with_reducible show ite ((_ && _) = true) _ _ | with_reducible show ite ((_ || _) = true) _ _); refine ite_two ?_ ?_ <;> (intro hb; (try simp only [tb] at hb))))
local macro_rules | `(tactic| wtm_at "mx") => `(tactic| first | ((first | (with_reducible refine' post_use ?a ?b) | (with_reducible refine' postB_use ?a ?b) | (with_reducible refine' postS_use ?a ?b)); (case a => assumption)) | ((with_reducible refine' norm ?a ?b ?c ?d ?e ?f ?g); (case a => wtm_at "as"); (case b => wtm_at "as"); (case c => exact rfl); (case d => exact rfl); (case e => exact rfl); (case f => exact rfl); intro _; (try dsimp only)) | ((first | (with_reducible refine' EvI.useA ?a ?b ?c ?d) | (with_reducible refine' EvI.useS ?a ?b ?c ?d)); (case a => wtm_at "as"); (case b => wtm_at "evi"); (case c => wtm_at "evi"); intro _ _; (try dsimp only)) | ((with_reducible refine' list_cat ?a ?b ?c ?d ?e ?f); (case a => assumption); (case b => assumption); (case c => wtm_at "mt"); (case d => wtm_at "mt"); (case e => wtm_at "ln"); intro _ _ _ _ _))
local macro_rules | `(tactic| wtm_at "st") => `(tactic| first | (with_reducible show LPost _ _ _ _ _ _ _ _ _) | (with_reducible show WhileStep2 _ _ _ _ _ _ _ _) | (with_reducible show WEnd _ _ _ _ _) | (with_reducible show LPostE _ _ _ _ _ _ _ _ _ _) | (with_reducible show TEnd _ _ _ _ _ _ _) | (with_reducible show GEnd _ _ _ _ _ _ _ _) | (with_reducible first | refine' zq1 ?_) | ((with_reducible refine' zq2 ?_); wtm_at "st subscriptTail") | ((with_reducible refine' zq3 ?_); wtm_at "st call") | ((with_reducible refine' zq4 ?_); wtm_at "st compareOp") | ((with_reducible refine' zq5 ?_); wtm_at "st eval") | ((with_reducible refine' zq6 ?_); wtm_at "st exec"))
local macro_rules | `(tactic| wtm_at "st exec") => `(tactic| with_reducible first | refine' zq7 ?_ | refine' zq8 ?_)
local macro_rules | `(tactic| wtm_at "st call") => `(tactic| with_reducible first | refine' zq9 ?_ | refine' zq10 ?_ | refine' zq11 ?_ | refine' zq12 ?_ | refine' zq13 ?_ | refine' zq14 ?_ | refine' zq15 ?_ | refine' zq16 ?_)
local macro_rules | `(tactic| wtm_at "rf") => `(tactic| first | exact rfl | assumption)
local macro_rules | `(tactic| wtm_at "evn") => `(tactic| ((with_reducible show EvI _ _ _ _ _ _ _ (PySem.Expr.Name _ _) _); refine evi_name (by exact rfl) (by wtm_at "rf") (by exact rfl) (by exact rfl)))
local macro_rules | `(tactic| wtm_at "evi") => `(tactic| first | wtm_at "evn" | with_reducible exact evi_const | ((first | (with_reducible refine' evi_add ?x ?y) | (with_reducible refine' evi_sub ?x ?y)); (case x => wtm_at "evi"); (case y => wtm_at "evi")))
local macro_rules | `(tactic| wtm_at "evc") => `(tactic| ((with_reducible show EvC _ _ _ _ _ _ _ (PySem.Expr.Subscript (PySem.Expr.Name _ _) _ _) _); refine' evc_idx ?a ?b ?c ?d ?e ?f ?g ?h; (case a => exact rfl); (case b => wtm_at "rf"); (case c => exact rfl); (case d => exact rfl); (case e => wtm_at "evi"); (case f => wtm_at "om"); (case g => wtm_at "om"); (case h => assumption)))
local macro_rules | `(tactic| wtm_at "evh") => `(tactic| (intro h9; (try replace h9 := of_decide_eq_true h9); first | wtm_at "evt" | wtm_at "evh"))
local macro_rules | `(tactic| wtm_at "evt") => `(tactic| first | ((first | (with_reducible refine' tsi_lt ?x ?y ?z) | (with_reducible refine' tsi_gt ?x ?y ?z) | (with_reducible refine' tsi_ge ?x ?y ?z) | (with_reducible refine' tsi_eq ?x ?y ?z)); (case x => wtm_at "evi"); (case y => wtm_at "evi"); (case z => wtm_at "rf")) | (((with_reducible refine' tsi_eqc ?x ?y ?z)); (case x => wtm_at "evc"); (case y => wtm_at "evc"); (case z => wtm_at "rf")) | (((with_reducible refine' tsi_and ?x ?y)); (case x => wtm_at "evt"); (case y => wtm_at "evh")) | (((with_reducible refine' tsi_and3 ?x ?y ?z)); (case x => wtm_at "evt"); (case y => wtm_at "evh"); (case z => wtm_at "evh")) | (((with_reducible refine' tsi_or ?x ?y)); (case x => wtm_at "evt"); (case y => wtm_at "evt")))
local macro_rules | `(tactic| wtm_at "m1") => `(tactic| first | (k_unfold; (try dsimp only)) | wtm_at "mx" | walk1 | (dsimp only; walk1) | (leave1; try dsimp only))
local macro_rules | `(tactic| wtm_at "ms") => `(tactic| repeat' ((fail_if_success (wtm_at "st")); wtm_at "m1"))
section
open PySem PySem.W PyProof.Rows PySem.Calls
set_option Elab.async false
set_option maxRecDepth 100000
set_option maxHeartbeats 4000000
set_option pp.deepTerms false
set_option pp.deepTerms.threshold 6
noncomputable def LJ1 (x y : PySem.Str) (tx ty : Tok) (alo ahi blo bhi : Nat) (t1 t2 t3 t4 : Tok) (news : List (Addr × Obj)) (i : Nat) (m' : PySem.Str → Option Value) (nx : List (Addr × Obj)) : Prop :=
  ∀ Rz : Prop, (∀ (c : Addr) (u1 u2 u3 : Tok), nx = (c, tupP (colF x.cps.toList y.cps.toList alo ahi blo bhi i) u1 u2 u3) :: news →
    Kns m' [("best", .ref c), ("one", .str x tx), ("other", .str y ty), ("alo", .int alo t1), ("ahi", .int ahi t2), ("blo", .int blo t3), ("bhi", .int bhi t4)] → Rz) → Rz
noncomputable def LJ2 (x y : PySem.Str) (tx ty : Tok) (alo ahi blo bhi : Nat) (t1 t2 t3 t4 : Tok) (i : Nat) (no : List (Addr × Obj)) (j : Nat) (m' : PySem.Str → Option Value) (nx : List (Addr × Obj)) : Prop :=
  ∀ Rz : Prop, (∀ (c : Addr) (u1 u2 u3 t : Tok), nx = (c, tupP (rowF x.cps.toList y.cps.toList alo ahi blo bhi i j (colF x.cps.toList y.cps.toList alo ahi blo bhi i)) u1 u2 u3) :: no →
    Kns m' [("best", .ref c), ("one", .str x tx), ("other", .str y ty), ("alo", .int alo t1), ("ahi", .int ahi t2), ("blo", .int blo t3), ("bhi", .int bhi t4), ("i", .int ((alo : Int) + i) t)] → Rz) → Rz
noncomputable def LJ3 (x y : PySem.Str) (tx ty : Tok) (alo ahi blo bhi : Nat) (t1 t2 t3 t4 : Tok) (c : Addr) (i : Nat) (t' : Tok) (j : Nat) (t : Tok) (lc : Nat) (no : List (Addr × Obj)) (k : Nat) (m' : PySem.Str → Option Value) (nx : List (Addr × Obj)) : Prop :=
  ∀ Rz : Prop, (∀ (sz : Nat) (u : Tok), k = lc - sz → sz ≤ lc → nx = no →
    Kns m' [("best", .ref c), ("one", .str x tx), ("other", .str y ty), ("alo", .int alo t1), ("ahi", .int ahi t2), ("blo", .int blo t3), ("bhi", .int bhi t4), ("i", .int ((alo : Int) + i) t'), ("j", .int ((blo : Int) + j) t), ("size", .int (sz : Nat) u)] → Rz) → Rz
theorem longest (w : World) (mean : ExcName → Option Value) (mg mb : PySem.Str → Option Value)
   (dp un : Nat) (gd : Option (List Code)) (cn : PySem.Str) (cs : Scope) (a : Addr) (ccd : Value) (cl : List (PySem.Str × Addr)) (outer : List Env) (A₀ : Around) (base h₀ : Heap) (L : Addr) (m : PySem.Str → Option Value) (news : List (Addr × Obj)) (s : Shared)
   (x y : PySem.Str) (tx ty : Tok) (alo ahi blo bhi : Nat) (t1 t2 t3 t4 : Tok)
    (Q E : Value → Shared → Prop)
    (B : Below A₀ base outer h₀) (F : Fr h₀ L s.heap m) (X : (K w.params).In h₀) (N : News h₀ L s.heap news) (T : Top topProg LQ mean mg mb h₀) (hk : cs.kind = .function)
    (ha1 : alo ≤ ahi) (ha2 : ahi ≤ x.cps.size) (hb1 : blo ≤ bhi) (hb2 : bhi ≤ y.cps.size) (hx : x.cps.size ≤ 100) (hy : y.cps.size ≤ 100)
    (hd : dp + 1 < recursionLimit) (hu : un + 8 < cLine)
    (hret : ∀ c t1 t2 t3 h' tk', Fr h₀ L h' m → News h₀ L h' ((c, tup3 (0 - (bestF x.cps.toList y.cps.toList alo ahi blo bhi).2.1) (0 - (bestF x.cps.toList y.cps.toList alo ahi blo bhi).2.2) (bestF x.cps.toList y.cps.toList alo ahi blo bhi).1 t1 t2 t3) :: news) →
      Q (.ref c) { s with heap := h', toks := tk' }) :
    wpAny (model PySem.Challenge.pw_xe0001_01 w) (ktrTop dp un gd cn cs L a ccd cl outer) (call (.ref 253) [.str x tx, .str y ty, .int alo t1, .int ahi t2, .int blo t3, .int bhi t4]) Q E s := by
  have fill : K = K ∧ PySem.Challenge.rw_xe0001_01 = PySem.Challenge.rw_xe0001_01 := by (k_fill; exact ⟨rfl, rfl⟩)
  clear fill
  obtain ⟨sh0, sg0, sd0, st0, so0⟩ := s
  have hSt : Sts sg0 sd0 so0 := trivial
  dsimp only at F N hret
  refine wpAny_call ?_
  k_dflt ktr_enter
  refine wpAny_mono (E := NoE) ?_ (fun _ _ h => h) (fun _ _ h => h.elim)
  refine opq fun P hP => ?_
  wtm_at "ms"
  refine for_MF (by assumption) ?_ (by intro _; rfl)
  wtm_at "ms"
  refine iterM_range (n := ahi - alo) (LJ1 x y tx ty alo ahi blo bhi t1 t2 t3 t4 news) rfl (by assumption) ?_ ?_ (by assumption) (by assumption) ?_ ?_ ?_
  · exact rsmall (by (first | lia | omega)) (by (first | lia | omega))
  · exact rsize
  · exact fun _ kz => kz _ _ _ _ rfl ⟨rfl, rfl, rfl, rfl, rfl, rfl, rfl, trivial⟩
  · rintro i t m₁ nx h tk own I oI hi HJ hI ho hit hnI F₁ N₁
    refine opq2 fun P hP => ?_
    try dsimp only
    refine HJ _ fun c u1 u2 u3 hq_ hk => ?_
    subst hq_
    replace F₁ := Fr_kn F₁ hk
    clear hk
    wtm_at "ms"
    refine for_MF (by assumption) ?_ (by intro _; rfl)
    wtm_at "ms"
    refine iterM_range (n := bhi - blo) (LJ2 x y tx ty alo ahi blo bhi t1 t2 t3 t4 i (news ++ own)) rfl (by assumption) ?_ ?_ (by assumption) (by assumption) ?_ ?_ ?_
    · exact rsmall (by (first | lia | omega)) (by (first | lia | omega))
    · exact rsize
    · exact fun _ kz => kz _ _ _ _ _ rfl ⟨rfl, rfl, rfl, rfl, rfl, rfl, rfl, rfl, trivial⟩
    · rintro j t m₁ nx h tk own2 I oI hi HJ hI ho hit hnI F₁ N₁
      refine opq2 fun P hP => ?_
      try dsimp only
      refine HJ _ fun c u1 u2 u3 t' hq_ hk => ?_
      subst hq_
      replace F₁ := Fr_kn F₁ hk
      clear hk
      wtm_at "ms"
      refine while_M (LJ3 x y tx ty alo ahi blo bhi t1 t2 t3 t4 c i t' j t (lce (cut x.cps.toList (alo + i) ahi) (cut y.cps.toList (blo + j) bhi)) ((c, tupP (rowF x.cps.toList y.cps.toList alo ahi blo bhi i j (colF x.cps.toList y.cps.toList alo ahi blo bhi i)) u1 u2 u3) :: (news ++ own) ++ own2))
        (fun m' nx => LJ3 x y tx ty alo ahi blo bhi t1 t2 t3 t4 c i t' j t (lce (cut x.cps.toList (alo + i) ahi) (cut y.cps.toList (blo + j) bhi)) ((c, tupP (rowF x.cps.toList y.cps.toList alo ahi blo bhi i j (colF x.cps.toList y.cps.toList alo ahi blo bhi i)) u1 u2 u3) :: (news ++ own) ++ own2) 0 m' nx)
        (lce (cut x.cps.toList (alo + i) ahi) (cut y.cps.toList (blo + j) bhi)) (by assumption) (by assumption) ?_ ?_ ?_
      · exact fun _ kz => kz 0 _ rfl (Nat.zero_le _) rfl ⟨rfl, rfl, rfl, rfl, rfl, rfl, rfl, rfl, rfl, rfl, trivial⟩
      · rintro k m₂ nx h2 tk2 HJ F₂ N₂
        refine opqw fun P V hP hV => ?_
        try dsimp only
        refine HJ _ fun sz u hq_ hsz hr_ hk => ?_
        subst hq_ hr_
        replace F₂ := Fr_kn F₂ hk
        have hlt := lcw_lt (i := alo + i) (j := blo + j) (a := x.cps.toList) (b := y.cps.toList) (by simpa using ha2) (by simpa using hb2) hsz
        wtm_at "ms"
        · rename (_ ∧ _) ∧ _ => hb
          obtain ⟨⟨b1, b2⟩, c3⟩ := hb
          rw [chr_beq (k := alo + i + sz) (l := blo + j + sz) (by (first | lia | omega)) (by (first | lia | omega))] at c3
          have hs : sz < lce (cut x.cps.toList (alo + i) ahi) (cut y.cps.toList (blo + j) bhi) := hlt.mpr ⟨by (first | lia | omega), by (first | lia | omega), of_decide_eq_true c3⟩
          exact WStep_next (lce (cut x.cps.toList (alo + i) ahi) (cut y.cps.toList (blo + j) bhi) - (sz + 1)) (by assumption) (by assumption) (by (first | lia | omega)) (fun _ kz => kz (sz + 1) _ rfl hs rfl ⟨rfl, rfl, rfl, rfl, rfl, rfl, rfl, rfl, rfl, rfl, trivial⟩) (fun _ h => h)
        · rename (_ ∨ _) ∨ _ => hb
          have hs : lce (cut x.cps.toList (alo + i) ahi) (cut y.cps.toList (blo + j) bhi) = sz := by
            have : ¬ sz < lce (cut x.cps.toList (alo + i) ahi) (cut y.cps.toList (blo + j) bhi) := fun h => by
              obtain ⟨d1, d2, d3⟩ := hlt.mp h
              rcases hb with hb | c3
              · (first | lia | omega)
              · rw [chr_beq (k := alo + i + sz) (l := blo + j + sz) (by (first | lia | omega)) (by (first | lia | omega))] at c3
                exact of_decide_eq_false c3 d3
            (first | lia | omega)
          rw [hs]
          exact WEnd_mk (by assumption) (by assumption) (fun _ kz => kz sz _ (Nat.sub_self _).symm (Nat.le_refl _) rfl ⟨rfl, rfl, rfl, rfl, rfl, rfl, rfl, rfl, rfl, rfl, trivial⟩) (fun _ h => h)
      · rintro m₂ nx h2 tk2 HJ F₂ N₂
        refine HJ _ fun sz u hq_ hsz hr_ hk => ?_
        subst hr_
        have hz : sz = _ := Nat.le_antisymm hsz (Nat.le_of_sub_eq_zero hq_.symm)
        subst hz
        clear hq_ hsz
        try dsimp only
        replace F₂ := Fr_kn F₂ hk
        clear hk
        wtm_at "ms"
        refine max_N (rowF x.cps.toList y.cps.toList alo ahi blo bhi i j (colF x.cps.toList y.cps.toList alo ahi blo bhi i)) (cand x.cps.toList y.cps.toList ahi bhi (alo + i) (blo + j)) rfl ?_ (by assumption) (by assumption) (.tail _ (.head _)) (.head _) ?_
        · ktr_units
        · intro r w1 w2 w3 h' tk F' N'
          wtm_at "ms"
          refine LPost_next (by assumption) (by assumption) (fun _ kz => kz r w1 w2 w3 _ rfl ⟨rfl, rfl, rfl, rfl, rfl, rfl, rfl, rfl, trivial⟩) ?_ ?_ ?_
          · refine sub_head ?_; wtm_at "msub"
          · wtm_at "msub"
          intro p hp
          rcases List.mem_cons.mp hp with rfl | hp
          · exact off_it (news := (r, _) :: _) (by assumption) (.head _) (by simp [hI]) hit rfl
          · exact hnI p (.tail _ hp)
    · rintro m₁ nx h tk HJ F₁ N₁
      refine HJ _ fun c u1 u2 u3 t' hq_ hk => ?_
      subst hq_
      try dsimp only
      replace F₁ := Fr_kn F₁ hk
      clear hk
      wtm_at "ms"
      refine LPost_next (by assumption) (by assumption) (fun _ kz => kz c u1 u2 u3 rfl ⟨rfl, rfl, rfl, rfl, rfl, rfl, rfl, trivial⟩) ?_ ?_ ?_
      · refine sub_head ?_; wtm_at "msub"
      · wtm_at "msub"
      intro p hp
      rcases List.mem_cons.mp hp with rfl | hp
      · exact off_it (news := (_, _) :: _) (by assumption) (.head _) (by simp [hI]) hit rfl
      · exact hnI p (.tail _ hp)
  · rintro m₁ nx h tk HJ F₁ N₁
    refine HJ _ fun c u1 u2 u3 hq_ hk => ?_
    subst hq_
    try dsimp only
    replace F₁ := Fr_kn F₁ hk
    clear hk
    wtm_at "ms"
    exact hret _ _ _ _ _ _ (by assumption) (News_sub (by assumption) (sub_head (by wtm_at "msub")))
end
section
open PySem PySem.W PyProof.Rows PySem.Calls
set_option Elab.async false
set_option maxRecDepth 100000
set_option maxHeartbeats 4000000
set_option pp.deepTerms false
set_option pp.deepTerms.threshold 6

section
variable {w : World} {mean : ExcName → Option Value} {mg mb : PySem.Str → Option Value} {dp un : Nat} {gd : Option (List Code)} {cn : PySem.Str} {cs : Scope} {a : Addr} {ccd : Value} {cl : List (PySem.Str × Addr)} {outer : List Env} {A₀ : Around} {base h₀ : Heap} {L : Addr}
  {m : PySem.Str → Option Value} {news : List (Addr × Obj)} {s : Shared} {Q E : Value → Shared → Prop}
theorem longest_use {x y : PySem.Str} {tx ty : Tok} {alo ahi blo bhi : Nat} {t1 t2 t3 t4 : Tok}
    (B : Below A₀ base outer h₀) (F : Fr h₀ L s.heap m) (X : (K w.params).In h₀) (N : News h₀ L s.heap news) (T : Top topProg LQ mean mg mb h₀) (hk : cs.kind = .function)
    (ha1 : alo ≤ ahi) (ha2 : ahi ≤ x.cps.size) (hb1 : blo ≤ bhi) (hb2 : bhi ≤ y.cps.size) (hx : x.cps.size ≤ 100) (hy : y.cps.size ≤ 100)
    (hd : dp + 1 < recursionLimit) (hu : un + 8 < cLine)
    (hret : ∀ c t1 t2 t3 h' tk', Fr h₀ L h' m → News h₀ L h' ((c, tup3 (lg x.cps.toList y.cps.toList alo ahi blo bhi).1 (lg x.cps.toList y.cps.toList alo ahi blo bhi).2.1 (lg x.cps.toList y.cps.toList alo ahi blo bhi).2.2 t1 t2 t3) :: news) →
      Q (.ref c) { s with heap := h', toks := tk' }) :
    wpAny (model PySem.Challenge.pw_xe0001_01 w) (ktrTop dp un gd cn cs L a ccd cl outer) (call (.ref 253) [.str x tx, .str y ty, .int alo t1, .int ahi t2, .int blo t3, .int bhi t4]) Q E s := by
  refine longest w mean mg mb dp un gd cn cs a ccd cl outer A₀ base h₀ L m news s x y tx ty alo ahi blo bhi t1 t2 t3 t4 Q E B F X N T hk ha1 ha2 hb1 hb2 hx hy hd hu fun c t1 t2 t3 h' tk' F' N' => hret c t1 t2 t3 h' tk' F' ?_
  have e := (lg_spec (a := x.cps.toList) (b := y.cps.toList) ha1 hb1 (by simpa using ha2) (by simpa using hb2)).1
  rw [e] at N'
  simp only at N'
  have f : ∀ i : Int, 0 - (0 - i) = i := fun i => by (first | lia | omega)
  rw [f, f] at N'
  exact N'
end
noncomputable def PiecesC (w : World) (mean : ExcName → Option Value) (mg mb : PySem.Str → Option Value) (f : Nat) : Prop :=
  ∀ (dp un : Nat) (gd : Option (List Code)) (cn : PySem.Str) (cs : Scope) (a : Addr) (ccd : Value) (cl : List (PySem.Str × Addr)) (outer : List Env) (A₀ : Around) (base h₀ : Heap) (L : Addr)
    (m : PySem.Str → Option Value) (news : List (Addr × Obj)) (s : Shared) (Q E : Value → Shared → Prop) (x y : PySem.Str) (tx ty : Tok) (alo ahi blo bhi : Nat) (t1 t2 t3 t4 : Tok),
    Below A₀ base outer h₀ → Fr h₀ L s.heap m → (K w.params).In h₀ → News h₀ L s.heap news → Top topProg LQ mean mg mb h₀ → cs.kind = .function →
    alo ≤ ahi → ahi ≤ x.cps.size → blo ≤ bhi → bhi ≤ y.cps.size → x.cps.size ≤ 100 → y.cps.size ≤ 100 → ahi - alo < f → dp + f + 1 < recursionLimit → un + 8 * (f + 1) < cLine →
    (∀ l vs n tl h' tk', Fr h₀ L h' m → News h₀ L h' ((l, listOf vs.toArray n) :: (tl ++ news)) → TR tl vs (pieces x.cps.toList y.cps.toList f alo ahi blo bhi) → Q (.ref l) { s with heap := h', toks := tk' }) →
    wpAny (model PySem.Challenge.pw_xe0001_01 w) (ktrTop dp un gd cn cs L a ccd cl outer) (call (.ref 260) [.str x tx, .str y ty, .int alo t1, .int ahi t2, .int blo t3, .int bhi t4]) Q E s
theorem pieces_step (w : World) (mean : ExcName → Option Value) (mg mb : PySem.Str → Option Value) (f : Nat) (ih : PiecesC w mean mg mb f) : PiecesC w mean mg mb (f + 1) := by
  intro dp un gd cn cs a ccd cl outer A₀ base h₀ L m news s Q E x y tx ty alo ahi blo bhi t1 t2 t3 t4 B F X N T hk ha1 ha2 hb1 hb2 hx hy hf hd hu hret
  have fill : K = K ∧ PySem.Challenge.rw_xe0001_01 = PySem.Challenge.rw_xe0001_01 := by (k_fill; exact ⟨rfl, rfl⟩)
  clear fill
  obtain ⟨sh0, sg0, sd0, st0, so0⟩ := s
  have hSt : Sts sg0 sd0 so0 := trivial
  dsimp only at F N hret
  refine wpAny_call ?_
  k_dflt ktr_enter
  refine wpAny_mono (E := NoE) ?_ (fun _ _ h => h) (fun _ _ h => h.elim)
  refine opq fun PQ hPQ => ?_
  wtm_at "ms"
  refine longest_use (by assumption) (by assumption) (by assumption) (by assumption) (by assumption) rfl ?ha1 ?ha2 ?hb1 ?hb2 ?hx ?hy ?hd ?hu ?hr
  case ha1 => (first | lia | omega)
  case ha2 => (first | lia | omega)
  case hb1 => (first | lia | omega)
  case hb2 => (first | lia | omega)
  case hx => (first | lia | omega)
  case hy => (first | lia | omega)
  case hd => ktr_room
  case hu => ktr_units
  intro c t1 t2 t3 h' tk' F' N'
  obtain ⟨g1, g2, g3, g4, g5, g6, g7⟩ := (lg_spec (a := x.cps.toList) (b := y.cps.toList) ha1 hb1 (by simpa using ha2) (by simpa using hb2)).2
  generalize hp : lg x.cps.toList y.cps.toList alo ahi blo bhi = p at *
  obtain ⟨i, j, k⟩ := p
  simp only at g1 g2 g3 g4 g5 g6 g7 N'
  wtm_at "ms"
  · refine hret _ [] _ [] _ _ (by assumption) (News_sub (by assumption) (sub_head (by wtm_at "msub"))) ?_
    unfold pieces
    rw [hp, if_pos (by simp only; (first | lia | omega))]
    exact TR.nil
  · refine ih _ _ _ _ _ _ _ _ _ _ _ _ _ _ _ _ _ _ x y _ _ alo i blo j _ _ _ _ (by assumption) (by assumption) (by assumption) (by assumption) (by assumption) rfl (by (first | lia | omega)) (by (first | lia | omega)) (by (first | lia | omega)) (by (first | lia | omega)) hx hy (by (first | lia | omega)) ?_ ?_ ?_
    · show dp + 1 + f + 1 < recursionLimit
      (first | lia | omega)
    · ktr_units
    · intro l1 vs1 n1 tl1 h2 tk2 F2 N2 R2
      wtm_at "ms"
      have z1 := pieces_length (a := x.cps.toList) (b := y.cps.toList) f (alo := alo) (ahi := i) (blo := blo) (bhi := j) (by (first | lia | omega)) (by simp only [Array.length_toList]; (first | lia | omega)) (by (first | lia | omega)) (by simp only [Array.length_toList]; (first | lia | omega))
      have z2 := R2.length
      refine list_cat (vs' := [.ref _]) (by assumption) (by assumption) (.tail _ (.tail _ (.head _))) (.head _) (by simp only [List.length_cons, List.length_nil]; (first | lia | omega)) ?_
      intro l2 h3 F3 N3 _
      wtm_at "ms"
      refine ih _ _ _ _ _ _ _ _ _ _ _ _ _ _ _ _ _ _ x y _ _ (i + k) ahi (j + k) bhi _ _ _ _ (by assumption) (by assumption) (by assumption) (by assumption) (by assumption) rfl (by (first | lia | omega)) (by (first | lia | omega)) (by (first | lia | omega)) (by (first | lia | omega)) hx hy (by (first | lia | omega)) ?_ ?_ ?_
      · show dp + 1 + f + 1 < recursionLimit
        (first | lia | omega)
      · ktr_units
      · intro l4 vs4 n4 tl4 h5 tk5 F5 N5 R5
        have z4 := pieces_length (a := x.cps.toList) (b := y.cps.toList) f (alo := i + k) (ahi := ahi) (blo := j + k) (bhi := bhi) (by (first | lia | omega)) (by simp only [Array.length_toList]; (first | lia | omega)) (by (first | lia | omega)) (by simp only [Array.length_toList]; (first | lia | omega))
        have z5 := R5.length
        wtm_at "ms"
        refine hret _ (vs1 ++ [.ref _] ++ vs4) 0 _ _ _ (by assumption) (News_dup (by assumption) (by wtm_at "msub")) ?_
        unfold pieces
        rw [hp, if_neg (by simp only; (first | lia | omega))]
        exact TR.append (TR.append (R2.mono (by wtm_at "msub")) (TR.one (.tail _ (List.mem_append_right _ (.tail _ (.tail _ (.head _))))))) (R5.mono (by wtm_at "msub"))
theorem pieces_all (w : World) (mean : ExcName → Option Value) (mg mb : PySem.Str → Option Value) : ∀ f, PiecesC w mean mg mb f
  | 0 => fun _ _ _ _ _ _ _ _ _ _ _ _ _ _ _ _ _ _ _ _ _ _ _ _ _ _ _ _ _ _ _ _ _ _ _ _ _ _ _ _ _ _ h _ _ _ => absurd h (Nat.not_lt_zero _)
  | f + 1 => pieces_step w mean mg mb f (pieces_all w mean mg mb f)
end
section
open PySem PySem.W PyProof.Rows PySem.Calls
set_option Elab.async false
set_option maxRecDepth 100000
set_option maxHeartbeats 4000000
set_option pp.deepTerms false
set_option pp.deepTerms.threshold 6
set_option linter.unusedSimpArgs false
local macro_rules | `(tactic| wtm_at "st compareOp") => `(tactic| with_reducible show wpAny _ _ (compareOp CmpOp.NotEq (Value.ref _) (Value.ref _)) _ _ _)
local macro_rules | `(tactic| wtm_at "st subscriptTail") => `(tactic| with_reducible show wpAny _ _ (subscriptTail (PySem.Expr.Name _ _) (PySem.Expr.BinOp _ _ _ _) (Value.ref _) _) _ _ _)
noncomputable def BLj (x y : PySem.Str) (tx ty : Tok) (ps : List NNN) (old : List (Addr × Obj)) (i : Nat) (m' : PySem.Str → Option Value) (nx : List (Addr × Obj)) : Prop :=
  ∀ Rz : Prop, (∀ (lf : Addr) (vs : List Value) (n : Nat), (lf, listOf vs.toArray n) ∈ nx → TR nx vs ((ps.take i).foldl bstep []) → (∀ p ∈ old, p ∈ nx) → Kns m' [("found", .ref lf), ("one", .str x tx), ("other", .str y ty)] → Rz) → Rz
theorem blocks (w : World) (mean : ExcName → Option Value) (mg mb : PySem.Str → Option Value)
   (dp un : Nat) (gd : Option (List Code)) (cn : PySem.Str) (cs : Scope) (a : Addr) (ccd : Value) (cl : List (PySem.Str × Addr)) (outer : List Env) (A₀ : Around) (base h₀ : Heap) (L : Addr) (m : PySem.Str → Option Value) (news : List (Addr × Obj)) (s : Shared)
   (x y : PySem.Str) (tx ty : Tok) (Q E : Value → Shared → Prop)
    (B : Below A₀ base outer h₀) (F : Fr h₀ L s.heap m) (X : (K w.params).In h₀) (N : News h₀ L s.heap news) (T : Top topProg LQ mean mg mb h₀) (hk : cs.kind = .function)
    (hx : x.cps.size ≤ 100) (hy : y.cps.size ≤ 100)
    (hd : dp + 104 < recursionLimit) (hu : un + 1000 < cLine)
    (hret : ∀ l vs n tl h' tk', Fr h₀ L h' m → News h₀ L h' ((l, listOf vs.toArray n) :: (tl ++ news)) → TR tl vs (blocksF x.cps.toList y.cps.toList) → Q (.ref l) { s with heap := h', toks := tk' }) :
    wpAny (model PySem.Challenge.pw_xe0001_01 w) (ktrTop dp un gd cn cs L a ccd cl outer) (call (.ref 267) [.str x tx, .str y ty]) Q E s := by
  have fill : K = K ∧ PySem.Challenge.rw_xe0001_01 = PySem.Challenge.rw_xe0001_01 := by (k_fill; exact ⟨rfl, rfl⟩)
  clear fill
  obtain ⟨sh0, sg0, sd0, st0, so0⟩ := s
  have hSt : Sts sg0 sd0 so0 := trivial
  dsimp only at F N hret
  refine wpAny_call ?_
  k_dflt ktr_enter
  refine wpAny_mono (E := NoE) ?_ (fun _ _ h => h) (fun _ _ h => h.elim)
  refine opq fun PQ hPQ => ?_
  wtm_at "ms"
  refine for_MF (by assumption) ?_ (by intro _; rfl)
  wtm_at "ms"
  refine pieces_all w mean mg mb (x.cps.toList.length + 1) _ _ _ _ _ _ _ _ _ _ _ _ _ _ _ _ _ _ x y _ _ 0 x.cps.toList.length 0 y.cps.toList.length _ _ _ _ (by assumption) (by assumption) (by assumption) (by assumption) (by assumption) rfl (by (first | lia | omega)) (by simp) (by (first | lia | omega)) (by simp) hx hy (by (first | lia | omega)) ?_ ?_ ?_
  · show dp + 1 + (x.cps.toList.length + 1) + 1 < recursionLimit
    simp only [Array.length_toList]; (first | lia | omega)
  · show un + 3 + 8 * (x.cps.toList.length + 1 + 1) < cLine
    simp only [Array.length_toList]; (first | lia | omega)
  · intro l1 vs1 n1 tl1 h2 tk2 F2 N2 R2
    have z1 := pieces_length (a := x.cps.toList) (b := y.cps.toList) (x.cps.toList.length + 1) (alo := 0) (ahi := x.cps.toList.length) (blo := 0) (bhi := y.cps.toList.length) (by (first | lia | omega)) (by simp) (by (first | lia | omega)) (by simp)
    generalize hps : pieces x.cps.toList y.cps.toList (x.cps.toList.length + 1) 0 x.cps.toList.length 0 y.cps.toList.length = ps at *
    have z2 := R2.length
    simp only [Array.length_toList] at z1
    dsimp only
    refine iterM_list (items := vs1.toArray) (BLj x y tx ty ps (tl1 ++ news)) rfl ⟨_, (N2 _ (.head _)).1, rfl, n1, rfl⟩ ?_ (by assumption) (by assumption) ?_ ?_ ?_
    · exact (N2 _ (.head _)).2.1
    · exact fun _ kz => kz _ [] 0 (.tail _ (List.mem_append_right _ (.head _))) TR.nil (by wtm_at "msub") ⟨rfl, rfl, rfl, trivial⟩
    · intro i v m₁ nx h tk own I oI hi hv HJ hI ho hit hnI F₁ N₁ hL
      refine opq2 fun PQ hPQ => ?_
      try dsimp only
      refine HJ _ fun lf vs n hlf hTR hsub hkn => ?_
      replace F₁ := Fr_kn F₁ hkn
      clear hkn
      have hv' : vs1[i]? = some v := by simpa using hv
      obtain ⟨p, c, t1, t2, t3, hp, rfl, hc⟩ := R2.get hv'
      have hc1 := hsub _ (List.mem_append_left news hc)
      have hlen : vs.length ≤ 100 := by
        have e1 := hTR.length
        have e2 := foldb_length (ps.take i) []
        simp only [List.length_take, List.length_nil] at e2
        (first | lia | omega)
      have hs : (ps.take (i + 1)).foldl bstep [] = bstep ((ps.take i).foldl bstep []) p := by rw [List.take_add_one, hp]; simp
      have hz0 : TR nx [] [] := TR.nil
      wtm_at "ms"
      refine ne_trips (vs' := []) (qs := []) (by assumption) (by wtm_at "mt") (.head _) (hTR.mono (by wtm_at "msub")) TR.nil ?_ ?_
      · show un + 3 + 64 < cLine
        (first | lia | omega)
      by_cases hf : (ps.take i).foldl bstep [] = []
      · simp only [hf, decide_true, Bool.not_true]
        wtm_at "ms"
        · exfalso; (first | lia | omega)
        · have hTR' : TR nx vs [] := hf ▸ hTR
          refine LPost_two (by assumption) (by assumption) (.head _) (.tail _ (.tail _ (.head _))) (by wtm_at "msub") (by wtm_at "msub") hI hit hnI rfl rfl (fun _ kz => kz _ (vs ++ [.ref _]) 0 (.head _) ?_ (fun p hp => .tail _ (.tail _ (hsub p hp))) ⟨rfl, rfl, rfl, trivial⟩)
          rw [hs, hf]
          exact TR.append (hTR'.mono fun p hp => .tail _ (.tail _ hp)) (TR.one (p := p) (.tail _ (.head _)))
      · simp only [hf, decide_false, Bool.not_false]
        obtain ⟨l0, hl0⟩ : ∃ l0, ((ps.take i).foldl bstep []).getLast? = some l0 := by
          cases hg : ((ps.take i).foldl bstep []).getLast? with
          | none => exact absurd (List.getLast?_eq_none_iff.mp hg) hf
          | some l0 => exact ⟨l0, rfl⟩
        have hpos : 0 < vs.length := by
          rw [hTR.length]; exact List.length_pos_iff.mpr hf
        obtain ⟨vl, hvl⟩ : ∃ vl, vs[vs.length - 1]? = some vl := ⟨vs[vs.length - 1], by simp⟩
        obtain ⟨p0, c0, w1, w2, w3, hp0, rfl, hc0⟩ := hTR.get hvl
        have hpl : p0 = l0 := by
          rw [hTR.length, ← List.getLast?_eq_getElem?, hl0] at hp0
          exact (Option.some.inj hp0).symm
        subst hpl
        wtm_at "ms"
        refine item_listL (l := vs) ⟨_, (News.get (by assumption) (by wtm_at "mt")), rfl, n, rfl⟩ (by (first | lia | omega)) (by (first | lia | omega)) (x := .ref c0) ?_ ?_
        · rw [← hvl]; congr 1; (first | lia | omega)
        wtm_at "ms"
        · have e : bstep ((ps.take i).foldl bstep []) p = ((ps.take i).foldl bstep []).take (vs.length - 1) ++ [(p0.1, p0.2.1, p0.2.2 + p.2.2)] := by
            rw [bstep_some hl0, if_pos (by (first | lia | omega)), List.dropLast_eq_take, hTR.length]
          have e2 : ((vs.length : Int) - 1).toNat = vs.length - 1 := by (first | lia | omega)
          refine LPost_two (by assumption) (by assumption) (.head _) (.tail _ (.tail _ (.head _))) (by wtm_at "msub") (by wtm_at "msub") hI hit hnI rfl rfl (fun _ kz => kz _ (vs.take ((vs.length : Int) - 1).toNat ++ [.ref _]) 0 (.head _) ?_ (fun p hp => .tail _ (.tail _ (hsub p hp))) ⟨rfl, rfl, rfl, trivial⟩)
          rw [hs, e2, e]
          exact TR.append ((hTR.take _).mono fun p hp => .tail _ (.tail _ hp)) (TR.one (p := (p0.1, p0.2.1, p0.2.2 + p.2.2)) (.tail _ (.head _)))
        · have e : bstep ((ps.take i).foldl bstep []) p = ((ps.take i).foldl bstep []) ++ [p] := by
            rw [bstep_some hl0, if_neg (by (first | lia | omega))]
          refine LPost_two (by assumption) (by assumption) (.head _) (.tail _ (.tail _ (.head _))) (by wtm_at "msub") (by wtm_at "msub") hI hit hnI rfl rfl (fun _ kz => kz _ (vs ++ [.ref _]) 0 (.head _) ?_ (fun p hp => .tail _ (.tail _ (hsub p hp))) ⟨rfl, rfl, rfl, trivial⟩)
          rw [hs, e]
          exact TR.append (hTR.mono fun p hp => .tail _ (.tail _ hp)) (TR.one (p := p) (.tail _ (.head _)))
        · have e : bstep ((ps.take i).foldl bstep []) p = ((ps.take i).foldl bstep []) ++ [p] := by
            rw [bstep_some hl0, if_neg (by (first | lia | omega))]
          refine LPost_two (by assumption) (by assumption) (.head _) (.tail _ (.tail _ (.head _))) (by wtm_at "msub") (by wtm_at "msub") hI hit hnI rfl rfl (fun _ kz => kz _ (vs ++ [.ref _]) 0 (.head _) ?_ (fun p hp => .tail _ (.tail _ (hsub p hp))) ⟨rfl, rfl, rfl, trivial⟩)
          rw [hs, e]
          exact TR.append (hTR.mono fun p hp => .tail _ (.tail _ hp)) (TR.one (p := p) (.tail _ (.head _)))
    · intro m₁ nx h tk HJ F₁ N₁
      refine HJ _ fun lf vs n hlf hTR hsub hkn => ?_
      try dsimp only
      replace F₁ := Fr_kn F₁ hkn
      clear hkn
      have hlen : vs.length ≤ 100 := by
        have e1 := hTR.length
        have e2 := foldb_length (ps.take vs1.toArray.size) []
        simp only [List.length_take, List.length_nil] at e2
        (first | lia | omega)
      wtm_at "ms"
      refine hret _ (vs ++ [.ref _]) 0 _ _ _ (by assumption) (News_of (by assumption) (.head _) (fun p hp => by have := hsub p (List.mem_append_right _ hp); wtm_at "mt")) ?_
      have e : (ps.take vs1.toArray.size) = ps := by rw [List.size_toArray, z2]; exact List.take_length
      rw [e] at hTR
      unfold blocksF
      rw [hps]
      exact TR.append (hTR.mono (by wtm_at "msub")) (TR.one (p := (x.cps.toList.length, y.cps.toList.length, 0)) (.tail _ (.tail _ (.head _))))
end
section
open PySem PySem.W PyProof.Rows PySem.Calls
set_option Elab.async false
set_option maxRecDepth 100000
set_option maxHeartbeats 4000000
set_option pp.deepTerms false
set_option pp.deepTerms.threshold 6
set_option linter.unusedSimpArgs false
local macro_rules | `(tactic| wtm_at "st eval") => `(tactic| with_reducible show wpAny _ _ (eval (PySem.Expr.IfExp _ _ _ _) _) _ _ _)
local macro_rules | `(tactic| wtm_at "st subscriptTail") => `(tactic| with_reducible show wpAny _ _ (subscriptTail (PySem.Expr.Name _ _) (PySem.Expr.BinOp _ _ _ _) (Value.ref _) _) _ _ _)
local macro_rules | `(tactic| wtm_at "st") => `(tactic| with_reducible show wpAny _ _ (execs (_ ++ _) _) _ _ _)
theorem swp {a b p : Addr × Obj} {R : List (Addr × Obj)} (h : p ∈ a :: b :: R) : p ∈ b :: a :: R := by
  rcases List.mem_cons.mp h with rfl | h
  · exact .tail _ (.head _)
  · rcases List.mem_cons.mp h with rfl | h
    · exact .head _
    · exact .tail _ (.tail _ h)
noncomputable def CDj (lf : Addr) (p : NNN) (cs0 : List Cd) (si sj : Nat) (old : List (Addr × Obj)) (t1 t2 t3 : Tok) (m' : PySem.Str → Option Value) (nx2 : List (Addr × Obj)) : Prop :=
  ∀ Rz : Prop, (∀ (cs1 : List Cd) (nv : List Value) (nn : Nat) (R3 : List (Addr × Obj)), cs1 = cs0 ++ (if si < p.1 ∨ sj < p.2.1 then [(if si < p.1 ∧ sj < p.2.1 then "replace" else if si < p.1 then "delete" else "insert", si, p.1, sj, p.2.1)] else []) →
      (∀ p ∈ (lf, listOf nv.toArray nn) :: R3, p ∈ nx2) → (∀ p ∈ R3, p.1 ≠ lf) → (∀ p ∈ old, p ∈ R3) → TC R3 nv cs1 → nv.length ≤ 203 →
      Kns m' [("found", .ref lf), ("a", .int (p.1 : Nat) t1), ("b", .int (p.2.1 : Nat) t2), ("size", .int (p.2.2 : Nat) t3)] → Rz) → Rz
theorem codes (w : World) (mean : ExcName → Option Value) (mg mb : PySem.Str → Option Value)
   (dp un : Nat) (gd : Option (List Code)) (cn : PySem.Str) (cs : Scope) (a : Addr) (ccd : Value) (cl : List (PySem.Str × Addr)) (outer : List Env) (A₀ : Around) (base h₀ : Heap) (L : Addr) (m : PySem.Str → Option Value) (news : List (Addr × Obj)) (s : Shared)
   (lb : Addr) (vb : List Value) (nb : Nat) (ps : List NNN) (la lc : Nat) (Q E : Value → Shared → Prop)
    (B : Below A₀ base outer h₀) (F : Fr h₀ L s.heap m) (X : (K w.params).In h₀) (N : News h₀ L s.heap news) (T : Top topProg LQ mean mg mb h₀) (hk : cs.kind = .function)
    (hlb : (lb, listOf vb.toArray nb) ∈ news) (hTB : TR news vb (ps ++ [(la, lc, 0)])) (hps : ps.length ≤ 100)
    (hd : dp + 104 < recursionLimit) (hu : un + 1000 < cLine)
    (hret : ∀ l vs n tl h' tk', Fr h₀ L h' m → News h₀ L h' ((l, listOf vs.toArray n) :: (tl ++ news)) → TC tl vs (codesF (ps ++ [(la, lc, 0)])) → Q (.ref l) { s with heap := h', toks := tk' }) :
    wpAny (model PySem.Challenge.pw_xe0001_01 w) (ktrTop dp un gd cn cs L a ccd cl outer) (call (.ref 274) [.ref lb]) Q E s := by
  have fill : K = K ∧ PySem.Challenge.rw_xe0001_01 = PySem.Challenge.rw_xe0001_01 := by (k_fill; exact ⟨rfl, rfl⟩)
  clear fill
  obtain ⟨sh0, sg0, sd0, st0, so0⟩ := s
  have hSt : Sts sg0 sd0 so0 := trivial
  dsimp only at F N hret
  refine wpAny_call ?_
  k_dflt ktr_enter
  refine wpAny_mono (E := NoE) ?_ (fun _ _ h => h) (fun _ _ h => h.elim)
  refine opq fun PQ hPQ => ?_
  have hlen := hTB.length
  simp only [List.length_append, List.length_cons, List.length_nil] at hlen
  obtain ⟨p0, c0, w1, w2, w3, hp0, hv0, hc0⟩ := hTB.get (i := vb.length - 1) (v := vb[vb.length - 1]) (by simp)
  have hp0' : p0 = (la, lc, 0) := by
    have e : vb.length - 1 = ps.length := by (first | lia | omega)
    rw [e] at hp0
    simpa using hp0.symm
  subst hp0'
  wtm_at "ms"
  refine item_listL (l := vb) ⟨_, (News.get (by assumption) (by wtm_at "mt")), rfl, nb, rfl⟩ (by (first | lia | omega)) (by (first | lia | omega)) (x := .ref c0) ?_ ?_
  · rw [← hv0]
    have e : ((vb.length : Int) - 1).toNat = vb.length - 1 := by (first | lia | omega)
    rw [e]; simp
  wtm_at "ms"
  refine item_listL (l := vb) ⟨_, (News.get (by assumption) (by wtm_at "mt")), rfl, nb, rfl⟩ (by (first | lia | omega)) (by (first | lia | omega)) (x := .ref c0) ?_ ?_
  · rw [← hv0]
    have e : ((vb.length : Int) - 1).toNat = vb.length - 1 := by (first | lia | omega)
    rw [e]; simp
  wtm_at "ms"
  refine for_MF (by assumption) ?_ (by intro _; rfl)
  wtm_at "ms"
  refine iterM_list (items := vb.toArray) (fun i m' nx => CodesJ news lb (((ps ++ [(la, lc, 0)]).take i).foldl cstep ([], 0, 0)) m' nx) rfl ⟨_, (News.get (by assumption) (by wtm_at "mt")), rfl, nb, rfl⟩ ?ne (by assumption) (by assumption) ?J0 ?turn ?done
  case J0 =>
    rename ∀ (p : Addr × Obj), p ∈ news → p.1 < _ => hfr
    exact fun _ kz => kz _ [] 0 news _ _ (fun p hp => .tail _ hp) (fun p hp => Nat.ne_of_lt (hfr p hp)) (Nat.ne_of_lt (hfr _ hlb)) (fun p hp => hp) TC.nil ⟨rfl, rfl, rfl, trivial⟩
  case ne => exact News_ne (o := listOf vb.toArray nb) (by assumption) (by wtm_at "mt")
  case turn =>
    intro i v m₁ nx h tk own I oI hi hv HJ hI ho hit hnI F₁ N₁ hL
    refine opq2 fun PQ hPQ => ?_
    try dsimp only
    refine HJ _ fun lf vs n rest u1 u2 hnx hro hll hsub hTC hkn => ?_
    replace F₁ := Fr_kn F₁ hkn
    clear hkn
    have hv' : vb[i]? = some v := by simpa using hv
    obtain ⟨p, c, t1, t2, t3, hp, rfl, hc⟩ := hTB.get hv'
    have hc1 := hsub _ hc
    have hs : ((ps ++ [(la, lc, 0)]).take (i + 1)).foldl cstep ([], 0, 0) = cstep (((ps ++ [(la, lc, 0)]).take i).foldl cstep ([], 0, 0)) p := by rw [List.take_add_one, hp]; simp
    have hlen2 : vs.length ≤ 202 := by
      have e1 := hTC.length
      have e2 := foldc_length ((ps ++ [(la, lc, 0)]).take i) ([], 0, 0)
      simp only [List.length_take, List.length_append, List.length_cons, List.length_nil] at e2
      (first | lia | omega)
    rw [hs] at hPQ
    clear hs HJ
    generalize ((ps ++ [(la, lc, 0)]).take i).foldl cstep ([], 0, 0) = st at *
    obtain ⟨cs0, si, sj⟩ := st
    simp only at F₁ hTC
    have hoff : ∀ p ∈ rest ++ own, p.1 ≠ lf := by
      intro p hp
      rcases List.mem_append.mp hp with hp | hp
      · exact hro p hp
      · rcases ho p hp with e | e
        · rw [e]; exact fun e2 => hnI _ (hnx _ (.head _)) e2.symm
        · rw [e]; exact hll
    replace N₁ : News _ _ _ ((lf, listOf vs.toArray n) :: (rest ++ own)) := News_sub N₁ (by
      intro p hp
      rcases List.mem_cons.mp hp with hp | hp
      · exact List.mem_append_left _ (hnx _ (hp ▸ .head _))
      · exact (List.mem_append.mp hp).elim (fun h => List.mem_append_left _ (hnx _ (.tail _ h))) fun h => List.mem_append_right _ h)
    have hn0 : ∀ p ∈ news, p.1 ≠ I ∧ p.1 ≠ lf := fun p hp => ⟨hnI _ (hnx _ (.tail _ (hsub p hp))), hro _ (hsub p hp)⟩
    refine turn_cut 1 ?_
    wtm_at "ms"
    refine cut_at (by assumption) (CDj lf p cs0 si sj (rest ++ own) t1 t2 t3) ?part1 ?part2
    case part1 =>
      refine opq fun PQ2 hPQ2 => ?_
      try dsimp only
      simp only [List.take_succ_cons, List.take_zero]
      have hkeep : TC (rest ++ own) vs cs0 := hTC.mono fun p hp => List.mem_append_left _ hp
      wtm_at "ms"
      · refine' EvC.use (c := PySem.Str.ofString (if si < p.1 ∧ sj < p.2.1 then "replace" else if si < p.1 then "delete" else "insert")) ?F ?ev ?_
        case F => with_reducible assumption
        case ev =>
          refine EvC.of_eq (c := if (decide ((si : Int) < (p.1 : Int)) && decide ((sj : Int) < (p.2.1 : Int))) = true then PySem.Str.ofString "replace" else if decide ((si : Int) < (p.1 : Int)) = true then PySem.Str.ofString "delete" else PySem.Str.ofString "insert") ?e1 ?e2
          case e1 =>
            refine evc_if ?ea ?eb ?ec
            case ea => wtm_at "evt"
            case eb => exact evc_str
            case ec =>
              refine evc_if ?ea ?eb ?ec
              case ea => wtm_at "evt"
              case eb => exact evc_str
              case ec => exact evc_str
          case e2 => by_cases h1 : si < p.1 <;> by_cases h2 : sj < p.2.1 <;> simp [h1, h2]
        intro t9 _
        try dsimp only
        wtm_at "ms"
        rename _ < _ ∧ AllLt _ (rest ++ own) => hA9
        rename News _ _ _ (_ :: (lf, _) :: _) => N8
        refine WEnd_mk (by assumption) N8 (fun _ kz => kz _ (vs ++ [Value.ref _]) (n + 1) (_ :: (rest ++ own)) rfl (fun p hp => swp hp) (List.forall_mem_cons.mpr ⟨Nat.ne_of_gt hA9.1, hoff⟩) (fun p hp => .tail _ hp) ?tc (by simp only [List.length_append, List.length_cons, List.length_nil]; (first | lia | omega)) ⟨rfl, rfl, rfl, rfl, trivial⟩) (fun p hp => hp)
        case tc =>
          have hor : si < p.1 ∨ sj < p.2.1 := by (first | lia | omega)
          rw [if_pos hor]
          exact (hkeep.mono fun p hp => .tail _ hp).append (TC.one (.head _))
      · exact WEnd_mk (by assumption) (by assumption) (fun _ kz => kz _ vs n (rest ++ own) rfl (fun p hp => hp) hoff (fun p hp => hp) (by rw [if_neg (by (first | lia | omega)), List.append_nil]; exact hkeep) (by (first | lia | omega)) ⟨rfl, rfl, rfl, rfl, trivial⟩) (fun p hp => hp)
    case part2 =>
      intro m₂ nx2 h2 tk2 HJ F7 N7
      refine HJ _ fun cs1 nv nn R3 hcs1 hsub2 hoff3 hsub3 hTC2 hnl2 hkn2 => ?_
      clear HJ
      try dsimp only
      simp only [List.drop_succ_cons, List.drop_zero]
      replace F7 := Fr_kn F7 hkn2
      clear hkn2
      replace N7 := News_sub N7 hsub2
      clear hTC
      have hown3 : ∀ p ∈ own, p ∈ R3 := fun p hp => hsub3 p (List.mem_append_right _ hp)
      wtm_at "ms"
      all_goals (
        refine codes_close (by assumption) (by assumption) (by wtm_at "mt") (fun p hp => by have := hown3 p hp; wtm_at "mt") hI hit hll (fun p hp => ⟨?_, hn0 p hp⟩) ⟨rfl, rfl, rfl, trivial⟩ ?_
        · have := hsub3 p (List.mem_append_left _ (hsub p hp))
          wtm_at "mt"
        · simp only [cstep]
          rw [← hcs1]
          (repeat' split) <;> first
            | (exfalso; (first | lia | omega))
            | ((try simp only [List.append_nil]); first
                | exact TC.append (hTC2.mono (by wtm_at "msub")) (TC.one (by first | exact .head _ | exact .tail _ (.head _)))
                | exact hTC2.mono (by wtm_at "msub")))
  case done =>
    intro m₁ nx h tk HJ F₁ N₁
    refine HJ _ fun lf vs n rest u1 u2 hnx hro hll hsub hTC hkn => ?_
    clear HJ
    try dsimp only
    replace F₁ := Fr_kn F₁ hkn
    clear hkn
    wtm_at "ms"
    refine hret _ vs n _ _ _ (by assumption) (News_of (by assumption) (hnx _ (.head _)) (fun p hp => hnx _ (.tail _ (hsub p hp)))) ?_
    have e : (ps ++ [(la, lc, 0)]).take vb.toArray.size = ps ++ [(la, lc, 0)] := by
      rw [List.size_toArray, hlen]; exact List.take_of_length_le (by simp)
    rw [e] at hTC
    exact hTC.mono (fun p hp => hnx _ (.tail _ hp))
end
section
open PySem PySem.W PyProof.Rows PySem.Calls
local macro_rules | `(tactic| wtm_at "mx") => `(tactic| first | ((with_reducible refine' md_get ?a ?b ?c ?d ?e ?f ?g ?h ?i ?j ?k ?l); (case a => wtm_at "as"); (case b => wtm_at "as"); (case c => wtm_at "as"); (case d => wtm_at "mt"); (case e => wtm_at "mt"); (case f => assumption); (case g => k_is); (case h => k_is); (case i => k_is); (case j => exact rfl); (case k => k_handed)) | ((with_reducible refine' md_set ?a ?b ?c ?d ?e ?f ?g ?h ?i ?j ?k ?l); (case a => wtm_at "as"); (case b => wtm_at "as"); (case c => wtm_at "as"); (case d => wtm_at "mt"); (case e => k_updF); (case f => assumption); (case g => k_is); (case h => k_is); (case i => k_is); (case j => k_is); (case k => exact Nat.le_of_ble_eq_true rfl); intro _ _ _ _ _; (try dsimp only)) | ((first | (with_reducible refine' kf_append ?a ?b ?c) | (with_reducible refine' kf_pop ?a ?b ?c) | (with_reducible refine' kf_sort ?a ?b ?c)); (case a => assumption); (case b => wtm_at "mt")) | ((first | (with_reducible refine' kob_setdefault ?a ?b ?c ?d) | (with_reducible refine' kob_get ?a ?b ?c ?d)); (case a => assumption); (case b => wtm_at "mt"); (case c => assumption)) | ((with_reducible refine' md_meth ?a ?b ?c ?d ?e ?f ?g ?h ?i ?j ?k); (case a => wtm_at "as"); (case b => wtm_at "as"); (case c => wtm_at "as"); (case d => wtm_at "mt"); (case e => wtm_at "mt"); (case f => assumption); (case g => k_is); (case h => k_is); (case i => k_is); (case j => exact rfl)))
local macro_rules | `(tactic| wtm_at "enter") => `(tactic| ((rename Fr _ _ _ _ => fr0); (rename News _ _ _ _ => nw0); refine' code_def ?a ?b ?c ?d ?e ?f ?g ?h ?i ?j ?k ?l ?m ?_ ?n ?o ?p ?q; (case f => exact rfl); (case g => exact rfl); (case h => wtm_at "rf"); (case a => k_asm); (case b => k_asm); (case c => k_asm); (case d => k_asm); (case e => k_asm); (case i => k_is); (case j => k_is); (case k => ktr_room); (case l => first | exact BindsTo.of_eq rfl | exact binds_K (by k_in) rfl (by k_is) rfl rfl rfl); (case q => decide); (case m => exact locs rfl); (case n => exact rfl); (case o => exact rfl); (case p => exact rfl); k_whole; intro g' L' h' FG' F' N' B' X' T'; (try clear nw0); (try clear fr0); (try dsimp only); (try k_fold)))
section
open PySem PySem.W PyProof.Rows PySem.Calls
set_option Elab.async false
set_option maxRecDepth 100000
set_option maxHeartbeats 4000000
set_option pp.deepTerms false
set_option pp.deepTerms.threshold 6
set_option linter.unusedSimpArgs false
theorem LPostE_next {h₀ h' : Heap} {L e it : Addr} {J : (Str → Option Value) → List (Addr × Obj) → Prop} {own nx news' : List (Addr × Obj)} {m' : Str → Option Value} {s₁ : Shared} {tk : Nat} {Q : Flow → Shared → Prop}
    (F : Fr h₀ L h' m') (N : News h₀ L h' news') (h1 : ∀ p ∈ nx, p ∈ news') (h2 : ∀ p ∈ own, p ∈ news') (h3 : ∀ p ∈ nx, p.1 ≠ e ∧ p.1 ≠ it) (hJ : J m' nx) : LPostE h₀ L e it J own s₁ Q .next { s₁ with heap := h', toks := tk } :=
  fun _ kz => kz h' tk m' nx news' rfl F N h1 h2 h3 hJ
theorem allLt_mem {d : Nat} : ∀ {l : List (Addr × Obj)}, AllLt d l → ∀ {p : Addr × Obj}, p ∈ l → p.1 < d
  | [], _, _, hp => (nomatch hp)
  | _ :: _, h, _, hp => (List.mem_cons.mp hp).elim (fun e => e ▸ h.1) (allLt_mem h.2)
theorem IsDictOf_cls {prog : Program} {w : World} {K : Type} [DecidableEq K] {knd : KeyKind prog w K} {o : Obj} {kvs : List (K × Value)} (h : o.IsDictOf knd kvs) : o.cls = .type "dict" := by obtain ⟨_, _, h, _⟩ := h; exact h.1
theorem News_swap {h₀ h : Heap} {L : Addr} {a b c d : Addr × Obj} {r : List (Addr × Obj)} (N : News h₀ L h (a :: b :: c :: d :: r)) : News h₀ L h (c :: d :: b :: r) := News_sub N fun p hp => by
  rcases List.mem_cons.mp hp with rfl | hp
  · exact .tail _ (.tail _ (.head _))
  · rcases List.mem_cons.mp hp with rfl | hp
    · exact .tail _ (.tail _ (.tail _ (.head _)))
    · rcases List.mem_cons.mp hp with rfl | hp
      · exact .tail _ (.head _)
      · exact .tail _ (.tail _ (.tail _ (.tail _ hp)))
theorem places_length (c : Nat) : ∀ (xs : List Nat) (i : Nat), (places c xs i).length ≤ xs.length
  | [], _ => Nat.le_refl _
  | x :: xs, i => by
    have := places_length c xs (i + 1)
    unfold places; split <;> simp only [List.length_cons] <;> (first | lia | omega)
noncomputable def CHj (w : World) (y : PySem.Str) (ty : Tok) (xm b : Addr) (base : List (Addr × Obj)) (ys : List Nat) (m' : PySem.Str → Option Value) (nx : List (Addr × Obj)) : Prop :=
  ∀ Rz : Prop, (∀ (o : Obj) (kvs : List (PySem.Str × Value)), (b, o) ∈ nx → o.IsDictOf (PySem.strKind PySem.Challenge.pw_xe0001_01 w) kvs → (b == sysModules) = false → B2 nx kvs ys → (∀ p ∈ base, p ∈ nx ∧ p.1 ≠ b) →
    (∀ c l, valueAt kvs (sgn c) = some (.ref l) → ∀ p ∈ base, p.1 ≠ l) → Kns m' [("b2j", .ref b), ("self", .ref xm), ("b", .str y ty)] → Rz) → Rz
theorem chain_b (w : World) (mean : ExcName → Option Value) (mg mb : PySem.Str → Option Value)
   (dp un : Nat) (gd : Option (List Code)) (cn : PySem.Str) (cs : Scope) (a : Addr) (ccd : Value) (cl : List (PySem.Str × Addr)) (outer : List Env) (A₀ : Around) (base h₀ : Heap) (L : Addr) (m : PySem.Str → Option Value) (rest : List (Addr × Obj)) (s : Shared)
   (x y : PySem.Str) (tx ty : Tok) (xm D : Addr) (oD : Obj) (Q E : Value → Shared → Prop)
    (B : Below A₀ base outer h₀) (F : Fr h₀ L s.heap m) (X : (K w.params).In h₀) (N : News h₀ L s.heap ((D, oD) :: rest)) (T : Top topProg LQ mean mg mb h₀) (hk : cs.kind = .function)
    (hx : x.cps.size ≤ 100) (hy : y.cps.size ≤ 100)
    (hM : MD (FS0 x y tx ty) oD) (hxm : (xm, instObj 242 D) ∈ rest) (hoff : ∀ p ∈ rest, p.1 ≠ D)
    (hd : dp + 104 < recursionLimit) (hu : un + 1000 < cLine)
    (hret : ∀ o' b2 ob kvs bj oj bp tl h' tk', Fr h₀ L h' m → News h₀ L h' ((D, o') :: (b2, ob) :: (bj, oj) :: (tl ++ rest)) → MD (FS x y tx ty .none .none .none (.ref b2) (.ref bj) (.ref bp)) o' → ob.IsDictOf (PySem.strKind PySem.Challenge.pw_xe0001_01 w) kvs →
      (b2 == sysModules) = false → oj.SetObjOf (PySem.strKind PySem.Challenge.pw_xe0001_01 w) (fun _ => false) 0 → B2 tl kvs y.cps.toList → (∀ p ∈ (b2, ob) :: (bj, oj) :: (tl ++ rest), p.1 ≠ D) → Q .none { s with heap := h', toks := tk' }) :
    wpAny (model PySem.Challenge.pw_xe0001_01 w) (ktrTop dp un gd cn cs L a ccd cl outer) (call (.ref 188) [.ref xm]) Q E s := by
  have fill : K = K ∧ PySem.Challenge.rw_xe0001_01 = PySem.Challenge.rw_xe0001_01 := by (k_fill; exact ⟨rfl, rfl⟩)
  clear fill
  obtain ⟨sh0, sg0, sd0, st0, so0⟩ := s
  have hSt : Sts sg0 sd0 so0 := trivial
  dsimp only at F N hret
  refine wpAny_call ?_
  k_dflt ktr_enter
  wtm_at "ms"
  refine wpAny_mono (E := NoE) ?_ (fun _ _ h => h) (fun _ _ h => h.elim)
  refine opq fun PQ hPQ => ?_
  try dsimp only
  refine wpAny_For ?_ (by intro _; rfl)
  wtm_at "ms"
  refine enum_callB (fun b base i m' nx => CHj w y ty xm b.1 base (y.cps.toList.take i) m' nx) rfl (by rfl) (by rfl) (by rfl) (by assumption) (by assumption) ?J0 ?turn ?done
  case J0 =>
    refine fun _ kz => kz _ [] (.head _) (by assumption) (by assumption) B2.nil ?_ (fun c l h => by simp [valueAt] at h) ⟨rfl, rfl, rfl, trivial⟩
    rename D < _ ∧ AllLt _ rest => hlt
    intro p hp
    refine ⟨.tail _ hp, ?_⟩
    rcases List.mem_cons.mp hp with rfl | hp
    · exact Nat.ne_of_lt hlt.1
    · exact Nat.ne_of_lt (allLt_mem hlt.2 hp)
  case turn =>
    intro e it i c t u m₁ nx h tk own oe oi hi hc hJ he hit hec hitc ho hnI F₁ N₁
    refine opq fun PQ hPQ => ?_
    try dsimp only
    refine hJ _ fun o kvs hb2 hod hlo hB hnw hsep hkn => ?_
    clear hJ
    replace F₁ := Fr_kn F₁ (l := [("elt", .str ⟨#[c]⟩ u), ("i", .int (i : Int) t), ("b2j", _), ("self", _), ("b", _)]) ⟨rfl, rfl, hkn.1, hkn.2.1, hkn.2.2.1, trivial⟩
    (try dsimp only at hb2 hlo)
    wtm_at "ms"
    have hkl : kvs.length ≤ 100 := by have := hB.2.2.2; simp only [List.length_take] at this; (first | lia | omega)
    have hlen : (y.cps.toList.take i).length = i := by simp only [List.length_take, Array.length_toList]; (first | lia | omega)
    have hsucc : y.cps.toList.take (i + 1) = y.cps.toList.take i ++ [c] := by rw [List.take_add_one]; simp [hc]
    by_cases hmem : c ∈ y.cps.toList.take i
    · obtain ⟨l, vs, n, hl, hlm, hna⟩ := hB.1 c hmem
      have hvl : vs.length ≤ 100 := by have := hna.length; have := places_length c (y.cps.toList.take i) 0; simp only [List.length_take] at this; (first | lia | omega)
      refine kob_setdef_there (knd := PySem.strKind _ _) (by assumption) (.tail _ (List.mem_append_left _ hb2)) hod hlo (strKind_is _ _ _ _) (PySem.F.args_dict_setdefault_3 _ _ _) hl (by simp only [sizeLine]; (first | lia | omega)) ?_
      have hle : l ≠ e ∧ l ≠ it := hnI _ hlm
      rename News _ _ _ (_ :: (nx ++ own)) => N₂
      have hlb := ne_of_obj N₂ (.tail _ (List.mem_append_left _ hb2)) (.tail _ (List.mem_append_left _ hlm)) (by rw [IsDictOf_cls hod]; show Value.type "dict" ≠ .type "list"; decide)
      wtm_at "ms"
      refine LPostE_next (nx := (l, listOf (vs ++ [Value.int (i : Int) t]).toArray (n + 1)) :: off l nx) (by assumption) (by assumption) ?_ ?_ ?_ (fun _ kz => kz o kvs (.tail _ (mem_off.mpr ⟨hb2, hlb⟩)) hod hlo ?_ (fun p hp => ⟨.tail _ (mem_off.mpr ⟨(hnw p hp).1, hsep _ _ hl p hp⟩), (hnw p hp).2⟩) hsep ⟨rfl, rfl, rfl, trivial⟩)
      · intro p hp
        rcases List.mem_cons.mp hp with rfl | hp
        · exact .head _
        · exact .tail _ (mem_off.mpr ⟨.tail _ (List.mem_append_left _ (mem_off.mp hp).1), (mem_off.mp hp).2⟩)
      · intro p hp
        refine .tail _ (mem_off.mpr ⟨.tail _ (List.mem_append_right _ hp), ?_⟩)
        rcases ho p hp with e | e <;> rw [e]
        · exact fun q => hle.1 q.symm
        · exact fun q => hle.2 q.symm
      · intro p hp
        rcases List.mem_cons.mp hp with rfl | hp
        · exact hle
        · exact hnI p (mem_off.mp hp).1
      · rw [hsucc]
        refine B2.old (n := n + 1) (t := t) hB hmem hl hna ?_ fun l' vs' n' hm' hne' => .tail _ (mem_off.mpr ⟨hm', hne'⟩)
        rw [hlen]
        exact .head _
    · have hno := hB.2.1 c hmem
      rename News _ _ _ (_ :: (nx ++ own)) => N₂
      refine setdef_F (knd := PySem.strKind _ _) (by assumption) (by assumption) (.tail _ (List.mem_append_left _ hb2)) hod hlo (strKind_is _ _ _ _) (PySem.F.args_dict_setdefault_3 _ _ _) hno (by (first | lia | omega)) ?_
      intro h5 o5 F5 N5 hd5
      rename ∀ p, p ∈ nx ++ own → p.1 < _ => hfr
      rw [off_cons (Nat.ne_of_gt (hfr _ (List.mem_append_left own hb2)))] at N5
      have hfb := hnI _ hb2
      wtm_at "ms"
      rename News _ _ _ ((_, listOf _ _) :: _) => N₆
      have hfl : ∀ p ∈ nx, p.1 < _ := fun p hp => hfr p (List.mem_append_left _ hp)
      refine LPostE_next (nx := (?ln, listOf [Value.int (i : Int) t].toArray 1) :: (_, o5) :: off _ nx) (by assumption) (News_sub N₆ (fun p hp => hp)) ?_ ?_ ?_ (fun _ kz => kz o5 _ (.tail _ (.head _)) hd5 hlo ?_ (fun p hp => ⟨.tail _ (.tail _ (mem_off.mpr (hnw p hp))), (hnw p hp).2⟩) ?_ ⟨rfl, rfl, rfl, trivial⟩)
      rotate_left
      · intro p hp
        rcases List.mem_cons.mp hp with rfl | hp
        · exact .head _
        · have := hfl _ hb2
          rcases List.mem_cons.mp hp with rfl | hp
          · exact .tail _ (mem_off.mpr ⟨.head _, Nat.ne_of_lt this⟩)
          · exact .tail _ (mem_off.mpr ⟨.tail _ (.tail _ (mem_off.mpr ⟨List.mem_append_left _ (mem_off.mp hp).1, (mem_off.mp hp).2⟩)), Nat.ne_of_lt (hfl p (mem_off.mp hp).1)⟩)
      · intro p hp
        have h1 : p.1 ≠ _ := fun q => by
          rcases ho p hp with e | e
          · exact hfb.1 (q.symm.trans e)
          · exact hfb.2 (q.symm.trans e)
        exact .tail _ (mem_off.mpr ⟨.tail _ (.tail _ (mem_off.mpr ⟨List.mem_append_right _ hp, h1⟩)), Nat.ne_of_lt (hfr p (List.mem_append_right _ hp))⟩)
      · intro p hp
        rcases List.mem_cons.mp hp with rfl | hp
        · exact ⟨Nat.ne_of_gt (hfr _ (List.mem_append_right _ he)), Nat.ne_of_gt (hfr _ (List.mem_append_right _ hit))⟩
        · rcases List.mem_cons.mp hp with rfl | hp
          · exact hfb
          · exact hnI p (mem_off.mp hp).1
      · rw [hsucc]
        refine B2.new (n := 1) (t := t) hB hmem ?_ (fun c' q => ?_) fun l' vs' n' hm' hne' => .tail _ (.tail _ (mem_off.mpr ⟨hm', ?_⟩))
        · rw [hlen]; exact .head _
        · by_cases hc' : c' ∈ y.cps.toList.take i
          · obtain ⟨l, vs, n, hl, hlm, hna⟩ := hB.1 c' hc'
            rw [hl] at q
            cases q
            exact absurd (hfl _ hlm) (by simp)
          · rw [hB.2.1 c' hc'] at q
            cases q
        · exact ne_of_obj N₂ (.tail _ (List.mem_append_left _ hm')) (.tail _ (List.mem_append_left _ hb2)) (by rw [IsDictOf_cls hod]; show Value.type "list" ≠ .type "dict"; decide)
      · intro c' l' q p hp e
        rw [valueAt_stored] at q
        split at q
        · cases q
          have := hfl _ (hnw p hp).1
          rw [e] at this
          exact absurd this (Nat.lt_irrefl _)
        · exact hsep _ _ q p hp e
  case done =>
    intro m₁ nx h tk HJ F₁ N₁
    refine HJ _ fun o kvs hb2 hod hlo hB hnw hsep hkn => ?_
    clear HJ
    try dsimp only
    replace F₁ := Fr_kn F₁ hkn
    clear hkn
    (try dsimp only at hb2 hlo)
    have hD1 := hnw _ (.head _)
    have hl1 : ∀ p ∈ lists nx, p.1 ≠ D := off_of N₁ hD1.1 (fun p hp => (mem_lists.mp hp).1) fun p hp e => by
      rename MD _ _ => hMD
      have e1 := (mem_lists.mp hp).2
      rw [e, hMD.cls] at e1
      exact absurd e1 (by decide)
    have hoff2 : ∀ p ∈ lists nx ++ rest, p.1 ≠ D := fun p hp => (List.mem_append.mp hp).elim (hl1 p) (hoff p)
    have N₃ := News_sub (news' := _ :: (_, o) :: (lists nx ++ rest)) N₁ (fun p hp => (List.mem_cons.mp hp).elim (fun e => e ▸ hD1.1) fun hp => (List.mem_cons.mp hp).elim (fun e => e ▸ hb2) fun hp => (List.mem_append.mp hp).elim (fun hp => (mem_lists.mp hp).1) fun hp => (hnw p (.tail _ hp)).1)
    clear N₁
    wtm_at "ms"
    have hBl := hB.lists
    rw [List.take_of_length_le (by simp)] at hBl
    refine hret _ _ _ kvs _ _ _ _ _ _ (by assumption) (News_swap (by assumption)) (by assumption) hod hlo (by assumption) hBl ?_
    rename D < _ ∧ _ < _ ∧ AllLt _ _ => hD2
    intro p hp
    rcases List.mem_cons.mp hp with rfl | hp
    · exact fun e => hD1.2 e.symm
    · rcases List.mem_cons.mp hp with rfl | hp
      · exact Nat.ne_of_gt hD2.1
      · exact hoff2 p hp
end
section
open PySem PySem.W PyProof.Rows PySem.Calls
set_option Elab.async false
set_option maxRecDepth 100000
set_option maxHeartbeats 4000000
set_option pp.deepTerms false
set_option pp.deepTerms.threshold 6
set_option linter.unusedSimpArgs false
theorem B2.mono {nx nx' : List (Addr × Obj)} {kvs : List (Str × Value)} {ys : List Nat} (h : B2 nx kvs ys) (k : ∀ p ∈ nx, p ∈ nx') : B2 nx' kvs ys := by
  obtain ⟨h1, h2, h3, h4⟩ := h
  refine ⟨fun c hc => ?_, h2, h3, h4⟩
  obtain ⟨l, vs, n, a, b, d⟩ := h1 c hc
  exact ⟨l, vs, n, a, k _ b, d⟩
/-- what a matcher has beside its fields -/
noncomputable def MatR (w : World) (y : PySem.Str) (xm D b2 bj : Addr) (nx : List (Addr × Obj)) : Prop :=
  (xm, instObj 242 D) ∈ nx ∧ (∃ ob kvs, (b2, ob) ∈ nx ∧ ob.IsDictOf (PySem.strKind PySem.Challenge.pw_xe0001_01 w) kvs ∧ (b2 == sysModules) = false ∧ B2 nx kvs y.cps.toList) ∧
  (∃ oj, (bj, oj) ∈ nx ∧ oj.SetObjOf (PySem.strKind PySem.Challenge.pw_xe0001_01 w) (fun _ => false) 0)
theorem MatR.mono {w : World} {y : PySem.Str} {xm D b2 bj : Addr} {nx nx' : List (Addr × Obj)} (h : MatR w y xm D b2 bj nx) (k : ∀ p ∈ nx, p ∈ nx') : MatR w y xm D b2 bj nx' := by
  obtain ⟨h1, ⟨ob, kvs, h2, h3, h4, h5⟩, oj, h6, h7⟩ := h
  exact ⟨k _ h1, ⟨ob, kvs, k _ h2, h3, h4, h5.mono k⟩, oj, k _ h6, h7⟩
local macro_rules | `(tactic| wtm_at "mx") => `(tactic| ((first | (with_reducible show wpAny _ _ (call (Value.ref 167) _) _ _ _) | (with_reducible show wpAny _ _ (call (Value.ref 174) _) _ _ _) | (with_reducible show wpAny _ _ (call (Value.ref 181) _) _ _ _)); k_dflt (refine wpAny_call ?_; wtm_at "enter")))
theorem make (w : World) (mean : ExcName → Option Value) (mg mb : PySem.Str → Option Value)
   (dp un : Nat) (gd : Option (List Code)) (cn : PySem.Str) (cs : Scope) (a : Addr) (ccd : Value) (cl : List (PySem.Str × Addr)) (outer : List Env) (A₀ : Around) (base h₀ : Heap) (L : Addr) (m : PySem.Str → Option Value) (news : List (Addr × Obj)) (s : Shared)
   (x y : PySem.Str) (tx ty : Tok) (Q E : Value → Shared → Prop)
    (B : Below A₀ base outer h₀) (F : Fr h₀ L s.heap m) (X : (K w.params).In h₀) (N : News h₀ L s.heap news) (T : Top topProg LQ mean mg mb h₀) (hk : cs.kind = .function)
    (hx : x.cps.size ≤ 100) (hy : y.cps.size ≤ 100)
    (hd : dp + 110 < recursionLimit) (hu : un + 1100 < cLine)
    (hret : ∀ xm D o' b2 bj bp nx h' tk', Fr h₀ L h' m → News h₀ L h' ((D, o') :: nx) → MD (FS x y tx ty .none .none .none (.ref b2) (.ref bj) (.ref bp)) o' → MatR w y xm D b2 bj nx → (∀ p ∈ nx, p.1 ≠ D) → (∀ p ∈ news, p ∈ nx) → Q (.ref xm) { s with heap := h', toks := tk' }) :
    wpAny (model PySem.Challenge.pw_xe0001_01 w) (ktrTop dp un gd cn cs L a ccd cl outer) (call (.ref 242) [.none, .str x tx, .str y ty] [("autojunk", .bool false)]) Q E s := by
  have fill : K = K ∧ PySem.Challenge.rw_xe0001_01 = PySem.Challenge.rw_xe0001_01 := by (k_fill; exact ⟨rfl, rfl⟩)
  clear fill
  obtain ⟨sh0, sg0, sd0, st0, so0⟩ := s
  have hSt : Sts sg0 sd0 so0 := trivial
  (try dsimp only at F); (try dsimp only at N); (try dsimp only at hret)
  k_dflt (refine' call_cls ?k1 ?k2 ?k3 ?k4 ?k5 ?k6 ?_; (case k1 => k_asm); (case k2 => k_asm); (case k3 => k_asm); (case k4 => k_is); (case k5 => k_is); (case k6 => k_is); k_whole; intro x' d' h' F' N' l1 l2; (try k_lt l1); (try k_lt2 l2))
  clear N F
  have hoff : ∀ p ∈ (x', instObj 242 d') :: news, p.1 ≠ d' := fun p hp => (List.mem_cons.mp hp).elim (fun e => by rw [e]; exact Nat.ne_of_gt l2) fun hp => Nat.ne_of_lt (l1 p hp)
  replace N' : News _ _ _ ((d', dictOf [] 0) :: (x', instObj 242 d') :: news) := News_sub N' fun p hp => (List.mem_cons.mp hp).elim (fun e => e ▸ .tail _ (.head _)) fun hp => (List.mem_cons.mp hp).elim (fun e => e ▸ .head _) fun hp => .tail _ (.tail _ hp)
  have hM : MD [] (dictOf [] 0) := ⟨[], 0, rfl, trivial⟩
  generalize dictOf [] 0 = o0 at N' hM
  k_dflt (wtm_at "enter")
  wtm_at "ms"
  rename News _ _ _ ((d', _) :: (x', instObj 242 d') :: news) => N9
  rename MD _ _ => M9
  show wpAny _ _ (call (.ref 188) [.ref x']) _ _ _
  refine chain_b w mean mg mb _ _ _ _ _ _ _ _ _ _ _ _ _ _ _ _ x y tx ty x' d' _ _ _ (by assumption) (by assumption) (by assumption) N9 (by assumption) rfl hx hy M9 (.head _) hoff ?hd ?hu ?_
  case hd => first | (show dp + 3 + 104 < recursionLimit; (first | lia | omega)) | (show dp + 4 + 104 < recursionLimit; (first | lia | omega)) | (show dp + 5 + 104 < recursionLimit; (first | lia | omega))
  case hu => first | (show un + 9 + 1000 < cLine; (first | lia | omega)) | (show un + 10 + 1000 < cLine; (first | lia | omega)) | (show un + 11 + 1000 < cLine; (first | lia | omega)) | (show un + 12 + 1000 < cLine; (first | lia | omega))
  intro o9 b2 ob kvs bj oj bp tl h9 tk9 F9 N9 M9 hod hlo hset hB hoff9
  wtm_at "ms"
  refine hret x' d' o9 b2 bj bp _ _ _ (by assumption) (by assumption) M9 ⟨?_, ⟨ob, kvs, .head _, hod, hlo, ?_⟩, ⟨oj, .tail _ (.head _), hset⟩⟩ hoff9 ?_
  · exact .tail _ (.tail _ (List.mem_append_right _ (.head _)))
  · exact hB.mono fun p hp => .tail _ (.tail _ (List.mem_append_left _ hp))
  · exact fun p hp => .tail _ (.tail _ (List.mem_append_right _ (.tail _ hp)))
end
section
open PySem PySem.W PyProof.Rows PySem.Calls
set_option Elab.async false
set_option maxRecDepth 100000
set_option maxHeartbeats 4000000
theorem NatsAre.get : ∀ {vs : List Value} {ns : List Nat}, NatsAre vs ns → ∀ {i : Nat} {v : Value}, vs[i]? = some v → ∃ p t, ns[i]? = some p ∧ v = .int (p : Int) t
  | [], [], _, i, v, h => by simp at h
  | [], _ :: _, h, _, _, _ => h.elim
  | _ :: _, [], h, _, _, _ => h.elim
  | x :: xs, n :: ns, ⟨⟨t, e⟩, r⟩, 0, v, h => by
    simp at h; exact ⟨n, t, by simp, by rw [← h, e]⟩
  | x :: xs, n :: ns, ⟨_, r⟩, i + 1, v, h => by
    simp at h; obtain ⟨p, t, h1, h2⟩ := NatsAre.get r h
    exact ⟨p, t, by simpa using h1, h2⟩
theorem join_at {prog : Program} {w : World} {A : Around} {s : Shared} {env : Env} {h₀ : Heap} {L : Addr} {m : PySem.Str → Option Value} {st : Stmt} {Q : Flow → Shared → Prop} (_F : Fr h₀ L s.heap m) (P : (PySem.Str → Option Value) → List (Addr × Obj) → Prop)
    (h : wpAny (model prog w) A (exec st env) (fun f s' => f = .next ∧ WEnd h₀ L P s s') NoE s)
    (k : ∀ m' nx' h' tk', P m' nx' → Fr h₀ L h' m' → News h₀ L h' nx' → Q .next { s with heap := h', toks := tk' }) : wpAny (model prog w) A (exec st env) Q NoE s := by
  refine wpAny_mono h (fun f s' hf => ?_) (fun _ _ h => h)
  obtain ⟨rfl, h', tk', m', nx', rfl, F', N', hP⟩ := hf
  exact k m' nx' h' tk' hP F' N'
noncomputable def TEnd (h₀ : Heap) (L : Addr) (m : PySem.Str → Option Value) (news : List (Addr × Obj)) (s : Shared) (b : Bool) (s₂ : Shared) : Prop := b = false ∧ ∃ h' tk', s₂ = { s with heap := h', toks := tk' } ∧ Fr h₀ L h' m ∧ News h₀ L h' news
theorem while_not {prog : Program} {w : World} {A : Around} {s : Shared} {env : Env} {h₀ : Heap} {L : Addr} {m : PySem.Str → Option Value} {news : List (Addr × Obj)} {test : PySem.Expr} {body : List Stmt} {pos : Pos} {Q : Flow → Shared → Prop} (F : Fr h₀ L s.heap m) (N : News h₀ L s.heap news)
    (turn : ∀ h tk, Fr h₀ L h m → News h₀ L h news → wpAny (model prog w) A (isTrue test env (eval test env)) (fun b s₂ => TEnd h₀ L m news s b s₂) NoE { s with heap := h, toks := tk })
    (done : ∀ h' tk', Fr h₀ L h' m → News h₀ L h' news → Q .next { s with heap := h', toks := tk' }) : wpAny (model prog w) A (exec (.While test body [] pos) env) Q NoE s := by
  refine While_inv2 (fun _ m' nx => m' = m ∧ nx = news) (n₀ := 0) F N ⟨rfl, rfl⟩ (fun n m₁ nx h tk F₁ N₁ hj => ?_) PassesOwn.never
  obtain ⟨rfl, rfl⟩ := hj
  refine wpAny_mono (turn h tk F₁ N₁) (fun b s₂ hb => ?_) fun _ _ h => h
  obtain ⟨rfl, h', tk', rfl, F', N'⟩ := hb
  simp only [Bool.false_eq_true, if_false]
  exact done h' tk' F' N'
theorem TEnd_mk {h₀ h' : Heap} {L : Addr} {m : PySem.Str → Option Value} {news : List (Addr × Obj)} {s : Shared} {tk' : Nat} (F : Fr h₀ L h' m) (N : News h₀ L h' news) : TEnd h₀ L m news s false { s with heap := h', toks := tk' } := ⟨rfl, h', tk', rfl, F, N⟩
theorem kint {e e' : Int} {t : Tok} (h : e = e') : some (Value.int e t) = some (Value.int e' t) := by rw [h]
theorem dget_row {prog : Program} {w : World} {A : Around} {E : Value → Shared → Prop} {s : Shared} {h₀ : Heap} {L u d : Addr} {news : List (Addr × Obj)} {o : Obj} {kvs : List (Int × Value)} {k v : Int} {t z : Tok} {Q : Value → Shared → Prop}
    (N : News h₀ L s.heap news) (hu : (u, bndObj "dict.get" (.ref d)) ∈ news) (hp : (d, o) ∈ news) (hd : o.IsDictOf (PySem.intKind prog w) kvs) (lo : (d == sysModules) = false)
    (hz : ∀ z, ∃ t, (valueAt kvs k).getD (.int 0 z) = .int v t) (h : ∀ t, Q (.int v t) { s with toks := s.toks + 1 }) : wpAny (model prog w) A (call (.ref u) [.int k t, .int 0 z]) Q E s := by
  refine dget_call N hu hp hd lo (intKind_is _ _ _ _) _ rfl ?_
  obtain ⟨t, e⟩ := hz z
  rw [e]
  exact h t
end
section
open PySem PySem.W PyProof.Rows PySem.Calls
local macro_rules | `(tactic| wtm_at "mx") => `(tactic| ((first | ((with_reducible refine' scon_bound (knd := PySem.strKind _ _) ?a ?b ?c ?d ?e); (case a => assumption); (case b => assumption); (case c => wtm_at "mt"); (case d => assumption)) | ((with_reducible refine' dcon_bound (knd := PySem.strKind _ _) ?a ?b ?c ?d ?e); (case a => assumption); (case b => assumption); (case c => wtm_at "mt"); (case d => assumption)) | ((with_reducible refine' dget_bound (knd := PySem.intKind _ _) ?a ?b ?c ?d ?e); (case a => assumption); (case b => assumption); (case c => wtm_at "mt"); (case d => assumption))); intro _ _ _ _ _ _))
local macro_rules | `(tactic| wtm_at "mx") => `(tactic| ((with_reducible show wpAny _ _ (callWith _ (Value.ref _) _ (backTo _ (starEach (_ :: _) _)) []) _ _ _); refine bm_callWith (by assumption) (by wtm_at "mt") ?_))
local macro_rules | `(tactic| wtm_at "mx") => `(tactic| ((with_reducible show BStands _ _ _ _ ∧ _); refine bst_and (by assumption) (by wtm_at "mt") ?_; (try dsimp only [List.nil_append, List.cons_append])))
local macro_rules | `(tactic| wtm_at "st call") => `(tactic| with_reducible first | refine' zq17 ?_ | refine' zq18 ?_)
local macro_rules | `(tactic| wtm_at "st") => `(tactic| with_reducible first | refine' zq19 ?_)
section
open PySem PySem.W PyProof.Rows PySem.Calls
set_option Elab.async false
set_option maxRecDepth 100000
set_option maxHeartbeats 4000000
set_option pp.deepTerms false
set_option pp.deepTerms.threshold 6
set_option linter.unusedSimpArgs false
theorem made135 {w : World} {M : Model} {h : Heap} (X : (K w.params).In h) : Looks M h (Bind.madeBy (.ref 135)) none := by
  have hm : Looks M h (mroOf (.ref 135)) [.ref 135, .type "tuple", .type "object"] := (looks_clsIn X (C := 135) rfl).andThen .now
  intro A Q E s k q
  unfold Bind.madeBy
  refine wpAny_bind (hm A _ E s k ?_)
  rw [List.forIn_cons]
  refine wpAny_bind (wpAny_bind (wpAny_bind (wpAny_bind (wpAny_loadPart (k _ _ (X 135 _ rfl)) (wpAny_pure ?_)))))
  exact wpAny_pure (wpAny_pure (wpAny_pure q))
theorem best_tuple : Builtin.Slots.bestBase [.type "tuple"] = pure (.type "tuple") := by first | rfl | kernel_rfl
theorem base135 {w : World} {M : Model} {h : Heap} (X : (K w.params).In h) : Looks M h (Bind.staticBase (.ref 135)) (.type "tuple") := by
  have hm : Looks M h (mroOf (.ref 135)) [.ref 135, .type "tuple", .type "object"] := (looks_clsIn X (C := 135) rfl).andThen .now
  have hc := looks_clsIn (M := M) X (C := 135) rfl
  intro A Q E s k q
  unfold Bind.staticBase
  refine wpAny_bind (hm A _ E s k ?_)
  rw [List.forIn_cons]
  refine wpAny_bind (wpAny_bind (wpAny_bind (made135 X A _ E s k (wpAny_bind ?_))))
  refine hc A _ E s k ?_
  refine wpAny_bind (wpAny_of_eq best_tuple ?_)
  refine wpAny_pure ?_
  dsimp only
  rw [List.forIn_cons]
  refine wpAny_bind (wpAny_bind (wpAny_of_eq F.called_tuple.made ?_))
  exact wpAny_pure (wpAny_pure (wpAny_pure q))
noncomputable abbrev mObj (d : Addr) (xs : Array Value) : Obj := { cls := .ref 135, dict := some d, data := .seq xs }
theorem noCheck_tn {M : Model} {A : Around} {E : Value → Shared → Prop} {s : Shared} {w : World} {it : Value} {Q : Unit → Shared → Prop} (X : (K w.params).In s.heap) (h : Q () s) : wpAny M A (checkBuiltinCall "tuple.__new__" ⟨[.ref 135, it], []⟩) Q E s := by
  have e1 : builtinKind "tuple.__new__" = some .builtinFn := by first | decide +kernel | kernel_rfl
  have e2 : splitId "tuple.__new__" = some ("tuple", "__new__") := by first | decide +kernel | kernel_rfl
  have i1 : Looks M s.heap (isType (.ref 135)) true := by
    have hc := looks_clsIn (M := M) X (C := 135) rfl
    intro A Q E s k q
    unfold isType loadHead
    exact wpAny_bind (wpAny_loadPart (k _ _ (X 135 _ rfl)) (wpAny_pure q))
  have i2 : Looks M s.heap (isSubtype (.ref 135) (.type "tuple")) true := looks_mroIn X (by first | rfl | kernel_rfl)
  have b1 := base135 (M := M) X
  simp only [checkBuiltinCall, e1, e2]
  rw [if_pos (by decide)]
  refine wpAny_bind (i1.here ?_)
  refine wpAny_mono (Q := Q) (E := E) ?_ (fun _ _ h => h) (fun _ _ h => h)
  show wpAny M A (isSubtype (.ref 135) (.type "tuple") >>= _) _ _ _
  refine wpAny_bind (i2.here ?_)
  refine wpAny_mono (Q := Q) (E := E) ?_ (fun _ _ h => h) (fun _ _ h => h)
  show wpAny M A (Bind.staticBase (.ref 135) >>= _) _ _ _
  refine wpAny_bind (b1.here (wpAny_bind (wpAny_of_eq F.called_tuple.made ?_)))
  have chk : (match Manifest.signature? "tuple.__new__" with | some sig => Bind.checkArgs "tuple.__new__" sig ⟨[.ref 135, it], []⟩ | _ => pure ()) = pure () := by kernel_rfl
  dsimp only
  rw [if_neg (by decide)]
  exact wpAny_of_eq chk h
theorem run_tn {prog : Program} {w : World} {A : Around} {E : Value → Shared → Prop} {s : Shared} {t : Addr} {o : Obj} {items : Array Value} {n : Nat} {P : Fin → Shared → Prop} (X : (K w.params).In s.heap) (ho : s.heap.get? t = some o) (hc : o.cls = .type "tuple") (hd : o.data = .seq items n) (hsz : items.size ≤ sizeLine)
    (h : ∀ h' : Heap, (∀ b o', s.heap.get? b = some o' → h'.get? b = some o') → P (.done (.ret (.ref (h'.objs.size + 1)))) { s with heap := (h'.push (dictOf [] 0)).push (mObj h'.objs.size items) }) :
    wpAny (model prog w) A.in1 (Builtin.«tuple.__new__» ⟨[.ref 135, .ref t], []⟩) P E s := by
  have i1 : Looks (model prog w) s.heap (isType (.ref 135)) true := by
    intro A Q E s k q
    unfold isType loadHead
    exact wpAny_bind (wpAny_loadPart (k _ _ (X 135 _ rfl)) (wpAny_pure q))
  have i2 : Looks (model prog w) s.heap (isSubtype (.ref 135) (.type "tuple")) true := looks_mroIn X (by first | rfl | kernel_rfl)
  have b1 := base135 (M := model prog w) X
  have fill : K = K ∧ PySem.Challenge.rw_xe0001_01 = PySem.Challenge.rw_xe0001_01 := by (k_fill; exact ⟨rfl, rfl⟩)
  clear fill
  have l1 : Looks (model prog w) s.heap (typeLookup (.ref 135) "__init__") (some (.builtin "object.__init__")) := looks_findIn X (by k_is)
  have mh : Looks (model prog w) s.heap (Bind.madeHere "tuple.__new__" (.ref 135)) () := b1.andThen (by
    rw [F.called_tuple.made]
    exact Looks.of_pure (by kernel_rfl))
  unfold Builtin.«tuple.__new__»
  refine wpAny_bind (i1.here ?_)
  refine wpAny_mono (Q := P) (E := E) ?_ (fun _ _ h => h) (fun _ _ h => h)
  show wpAny _ _ (isSubtype (.ref 135) (.type "tuple") >>= _) _ _ _
  refine wpAny_bind (i2.here ?_)
  refine wpAny_mono (Q := P) (E := E) ?_ (fun _ _ h => h) (fun _ _ h => h)
  show wpAny _ _ (Bind.madeHere "tuple.__new__" (.ref 135) >>= _) _ _ _
  refine wpAny_bind (mh.here ?_)
  refine wpAny_bind (l1.here ?_)
  rw [if_pos (by decide)]
  refine wpAny_bind (wpAny_of_eq (a := ()) (by rfl) ?_)
  refine wpAny_bind (wpAny_of_eq (a := ()) (by rfl) ?_)
  dsimp only
  refine wpAny_bind (wpAny_collect_seq (n := n) t (.inr rfl) ho hc hd (fun h' hk => ?_) hsz)
  refine wpAny_bind (wpAny_pure (wpAny_bind (wpAny_alloc (wpAny_bind ?_))))
  unfold newObj
  dsimp only
  rw [if_neg (by simpa using hsz)]
  unfold newObjAsIs classHasDel
  refine wpAny_bind (wpAny_alloc (wpAny_bind (wpAny_bind (wpAny_load (Heap.get?_push_of_some _ (Heap.get?_push_of_some _ (hk _ _ (X 135 _ rfl)))) (wpAny_pure ?_)))))
  refine wpAny_pure (wpAny_pure ?_)
  rw [Heap.size_push]
  simpa using h h' hk
theorem tn_match {prog : Program} {w : World} {A : Around} {E : Value → Shared → Prop} {s : Shared} {h₀ : Heap} {L : Addr} {m : PySem.Str → Option Value} {news : List (Addr × Obj)} {t : Addr} {items : Array Value} {n : Nat} {Q : Value → Shared → Prop}
    (F : Fr h₀ L s.heap m) (X₀ : (K w.params).In h₀) (N : News h₀ L s.heap news) (ht : (t, { cls := .type "tuple", data := .seq items n }) ∈ news) (hsz : items.size ≤ 1000)
    (h : ∀ r d h', Fr h₀ L h' m → News h₀ L h' ((r, mObj d items) :: (d, dictOf [] 0) :: news) → (∀ p ∈ news, p.1 < d) → d < r → Q (.ref r) { s with heap := h' }) :
    wpAny (model prog w) A (call (.builtin "tuple.__new__") [.ref 135, .ref t]) Q E s := by
  have X := X₀.keeps F.keep
  refine wpAny_call (codeAny_call_builtin (by decide +kernel) PySem.F.entry_tuple_new (noCheck_tn X (run_tn X (N _ ht).1 rfl rfl (by simp only [sizeLine]; (first | lia | omega)) fun h' hk => ?_)))
  have F1 := Fr_grow F hk
  have N1 := News_grow N hk
  have N2 := (N1.push F1 (dictOf [] 0)).push (F1.push _) (mObj h'.objs.size items)
  rw [Heap.size_push] at N2
  exact h _ _ _ ((F1.push _).push _) N2 (fun p hp => Heap.lt_size (N1 p hp).1) (Nat.lt_succ_self _)
theorem meta_tuple : typeOf (.type "tuple") = pure (.type "type") := by first | rfl | kernel_rfl
section
variable {prog : Program} {w : World} {A : Around} {E : Value → Shared → Prop} {s : Shared} {h₀ : Heap} {L : Addr} {m : PySem.Str → Option Value} {pl : Sem Bool} {Q : Value × List Value → Shared → Prop}
theorem notstub : Manifest.isStub "tuple" = false := by decide +kernel
theorem find_new : findCls (K w.params) (.type "tuple") (.type "type") (PySem.Str.ofString "__new__") = some (.val (.builtin "tuple.__new__")) := by
  kernel_rfl
theorem handed_new : handedIn (.builtin "tuple.__new__") = true := by decide +kernel
theorem getm_new (F : Fr h₀ L s.heap m) (X₀ : (K w.params).In h₀) (h : Q (.builtin "tuple.__new__", []) { s with toks := s.toks + 1 }) : wpAny (model prog w) A (getMethod (.type "tuple") (PySem.Str.ofString "__new__") pl) Q E s :=
  @method_type prog w A E s (K w.params) L h₀ m (PySem.Str.ofString "__new__") (.builtin "tuple.__new__") "tuple" pl Q F X₀ meta_tuple notstub find_new handed_new h
end
local macro_rules | `(tactic| wtm_at "mx") => `(tactic| ((with_reducible show wpAny _ _ (getMethod (Value.type "tuple") _ _) _ _ _); refine getm_new (by assumption) (by assumption) ?_))
local macro_rules | `(tactic| wtm_at "st call") => `(tactic| with_reducible show wpAny _ _ (call (Value.builtin "tuple.__new__") _) _ _ _)
local macro_rules | `(tactic| wtm_at "st") => `(tactic| with_reducible show wpAny _ _ (isInstance _ _ >>= _) _ _ _)
theorem oi_args3 (a b c d : Value) : argsOk "object.__init__" ⟨[a, b, c, d], []⟩ := by unfold argsOk; kernel_rfl
theorem oi_run3 {M : Model} {A : Around} {s : Shared} {r : Addr} {b c d : Value} (l1 : Looks M s.heap (typeLookup (.ref 135) "__init__") (some (.builtin "object.__init__"))) (t1 : Looks M s.heap (typeOf (.ref r)) (.ref 135)) (mk : Looks M s.heap (Bind.madeBy (.ref 135)) none) :
    wpAny M A (Builtin.«object.__init__» ⟨[.ref r, b, c, d], []⟩) (fun fin s' => fin = .done (.ret .none) ∧ s' = s) (fun _ _ => False) s := by
  unfold Builtin.«object.__init__»
  refine wpAny_mono (Q := fun fin s' => fin = .done (.ret .none) ∧ s' = s) (E := fun _ _ => False) ?_ (fun _ _ h => h) (fun _ _ h => h)
  show wpAny _ _ (typeOf (.ref r) >>= _) _ _ _
  refine wpAny_bind (t1.here (wpAny_bind (l1.here ?_)))
  refine wpAny_bind (mk.here ?_)
  simp only [bne_self_eq_false, Bool.false_eq_true, if_false, Bool.false_or]
  rw [if_neg (by decide)]
  exact wpAny_pure ⟨rfl, rfl⟩
theorem mk_match (w : World) (mean : ExcName → Option Value) (mg mb : PySem.Str → Option Value)
   (dp un : Nat) (gd : Option (List Code)) (cn : PySem.Str) (cs : Scope) (a : Addr) (ccd : Value) (cl : List (PySem.Str × Addr)) (outer : List Env) (A₀ : Around) (base h₀ : Heap) (L : Addr) (m : PySem.Str → Option Value) (news : List (Addr × Obj)) (s : Shared)
   (i j k : Int) (ti tj tk : Tok) (Q E : Value → Shared → Prop)
    (B : Below A₀ base outer h₀) (F : Fr h₀ L s.heap m) (X : (K w.params).In h₀) (N : News h₀ L s.heap news) (T : Top topProg LQ mean mg mb h₀) (hk : cs.kind = .function)
    (hd : dp + 10 < recursionLimit) (hu : un + 100 < cLine)
    (hret : ∀ (r d : Addr) (tl : List (Addr × Obj)) (h' : Heap) (tk' : Nat), Fr h₀ L h' m → News h₀ L h' ((r, mObj d #[.int i ti, .int j tj, .int k tk]) :: (tl ++ news)) → Q (.ref r) { s with heap := h', toks := tk' }) :
    wpAny (model PySem.Challenge.pw_xe0001_01 w) (ktrTop dp un gd cn cs L a ccd cl outer) (call (.ref 135) [.int i ti, .int j tj, .int k tk]) Q E s := by
  have fill : K = K ∧ PySem.Challenge.rw_xe0001_01 = PySem.Challenge.rw_xe0001_01 := by (k_fill; exact ⟨rfl, rfl⟩)
  clear fill
  have X' := X.keeps F.keep
  have call : Looks (model PySem.Challenge.pw_xe0001_01 w) s.heap (specialOf (.ref 135) "__call__") (some (.builtin "type.__call__")) := looks_specialIn X' (by k_is)
  have typ : Looks (model PySem.Challenge.pw_xe0001_01 w) s.heap (isInstance (.ref 135) (.type "type")) true := looks_instIn X' (by k_is)
  have made := made135 (M := model PySem.Challenge.pw_xe0001_01 w) X'
  have hm : Looks (model PySem.Challenge.pw_xe0001_01 w) s.heap (mroOf (.ref 135)) [.ref 135, .type "tuple", .type "object"] := (looks_clsIn X' (C := 135) rfl).andThen .now
  refine wpAny_call (codeAny_of_tree ?_)
  show wpAny _ _ (callAny (.ref 135) _) _ _ _
  refine nd_load (X' 135 _ rfl) ?_
  show wpAny _ _ (callAny.viaDunder (.ref 135) _) _ _ _
  unfold callAny.viaDunder
  refine wpAny_bind (call.here ?_)
  dsimp only
  rw [tc_bind]
  refine wpAny_bind (wpAny_pure (wpAny_bind (wpAny_pure ?_)))
  refine wpAny_pure (a := Fin.again (.call (.builtin "type.__call__") ⟨.ref 135 :: _, []⟩)) (And.intro rfl ?_)
  refine codeAny_call_builtin_at (Code.quiet_builtin _ (by decide +kernel)) entry_typeCall (@check_slot (model PySem.Challenge.pw_xe0001_01 w) _ _ _ "type.__call__" "type" "__call__" (.ref 135) [.int i ti, .int j tj, .int k tk] [] _ tc_kind tc_split typ (tc_args _ _ _) ?_)
  unfold Builtin.«type.__call__»
  refine wpAny_bind (hm.here ?_)
  refine wpAny_bind (made.here ?_)
  refine wpAny_bind ?_
  k_dflt (refine' cls_sm ?k1 ?k2 ?k3 ?k4 ?k5 ?k6 ?k7 ?_; (case k1 => k_asm); (case k2 => k_asm); (case k3 => k_is); (case k4 => k_is); (case k5 => k_is); (case k6 => k_is); (case k7 => k_handed); k_whole)
  dsimp only
  refine wpAny_bind (wpAny_holding (wpAny_call ?_))
  k_dflt (wtm_at "enter")
  wtm_at "ms"
  refine tn_match (by assumption) (by assumption) (by assumption) (by wtm_at "mt") (Nat.le_of_ble_eq_true rfl) ?_
  intro r d h5 F5 N5 l5 l6
  repeat' ((fail_if_success (with_reducible show wpAny _ _ _ _ _ _)); wtm_at "m1")
  rename Fr h₀ L _ m => F6
  rename News h₀ L _ ((r, mObj d _) :: _) => N6
  have X6 := X.keeps F6.keep
  have t1 : Looks (model PySem.Challenge.pw_xe0001_01 w) h5 (typeOf (.ref r)) (.ref 135) := (Looks.ld (N6 _ (.head _)).1).andThen .now
  have s1 : Looks (model PySem.Challenge.pw_xe0001_01 w) h5 (isSubtype (.ref 135) (.ref 135)) true := looks_mroIn X6 (by first | rfl | kernel_rfl)
  have s2 : Looks (model PySem.Challenge.pw_xe0001_01 w) h5 (isSubtype (.ref 135) (.type "object")) true := looks_mroIn X6 (by first | rfl | kernel_rfl)
  have i1 : Looks (model PySem.Challenge.pw_xe0001_01 w) h5 (isInstance (.ref r) (.ref 135)) true := t1.andThen s1
  have i2 : Looks (model PySem.Challenge.pw_xe0001_01 w) h5 (isInstance (.ref r) (.type "object")) true := t1.andThen s2
  have l1 : Looks (model PySem.Challenge.pw_xe0001_01 w) h5 (typeLookup (.ref 135) "__init__") (some (.builtin "object.__init__")) := looks_findIn X6 (by k_is)
  have mk := made135 (M := model PySem.Challenge.pw_xe0001_01 w) X6
  refine wpAny_bind (i1.here ?_)
  refine wpAny_mono ?_ (fun _ _ h => h) (fun _ _ h => h)
  show wpAny _ _ (holding _ (callSpecial? _ _ _) >>= _) _ _ _
  refine wpAny_bind (wpAny_holding ?_)
  unfold callSpecial? specialOf
  refine wpAny_bind ((t1.andThen l1).here ?_)
  refine wpAny_holding (wpAny_bind (wpAny_of_eq (oi_bind _) ?_))
  dsimp only [List.cons_append, List.nil_append]
  refine wpAny_bind (wpAny_call (codeAny_call_builtin oi_plain entry_oi (@check_slot (model PySem.Challenge.pw_xe0001_01 w) _ _ _ "object.__init__" "object" "__init__" (.ref r) [.int i ti, .int j tj, .int k tk] [] _ oi_kind oi_split i2 (oi_args3 _ _ _ _) ?_)))
  refine wpAny_mono (Q := fun fin s' => fin = .done (.ret .none) ∧ s' = { s with heap := h5, toks := _ }) (E := fun _ _ => False) (oi_run3 l1 t1 mk) ?_ (fun _ _ h => h.elim)
  rintro _ _ ⟨rfl, rfl⟩
  refine wpAny_pure ?_
  refine wpAny_mono (Q := fun fin s' => fin = .done (.ret (.ref r)) ∧ s'.heap = h5 ∧ s'.gens = s.gens ∧ s'.drawn = s.drawn ∧ s'.os = s.os) (E := fun _ _ => False) ?_ ?_ (fun _ _ h => h.elim)
  · dsimp only
    rw [if_neg (by decide)]
    exact wpAny_pure ⟨rfl, rfl, rfl, rfl, rfl⟩
  · rintro _ ⟨g1, g2, g3, g4, g5⟩ ⟨rfl, rfl, rfl, rfl, rfl⟩
    exact hret r d [(d, dictOf [] 0), (_, _)] _ _ F6 N6
end
section
open PySem PySem.W PyProof.Rows PySem.Calls
set_option Elab.async false
set_option maxRecDepth 100000
set_option maxHeartbeats 4000000
/-- items in order, whatever the class -/
noncomputable def IsSeq (h : Heap) (a : Addr) (items : Array Value) : Prop := ∃ o, h.get? a = some o ∧ ∃ n, o.data = .seq items n
theorem IsSeq.extBut {h h' : Heap} {a b : Addr} {items : Array Value} (x : IsSeq h a items) (hs : Heap.ExtBut b h h') (hab : a ≠ b) : IsSeq h' a items :=
  let ⟨o, ho, r⟩ := x; ⟨o, hs a o hab ho, r⟩
theorem IsSeq.push {h : Heap} {a : Addr} {items : Array Value} (x : IsSeq h a items) (o : Obj) : IsSeq (h.push o) a items :=
  let ⟨o', ho, r⟩ := x; ⟨o', Heap.get?_push_of_some o ho, r⟩
theorem IsSeq.lt {h : Heap} {a : Addr} {items : Array Value} (x : IsSeq h a items) : a < h.objs.size := let ⟨_, ho, _⟩ := x; Heap.lt_size ho
section
variable {prog : Program} {w : World} {A : Around} {E : Value → Shared → Prop} {s : Shared}
theorem seq_next {it t : Addr} {i : Nat} {items : Array Value} {x : Value} {Q : Option Value → Shared → Prop} (hit : s.heap.IsTupleIter it t i) (ht : IsSeq s.heap t items) (hx : items[i]? = some x)
    (hQ : ∀ h', h'.IsTupleIter it t (i + 1) → Heap.SameBut it s.heap h' → Q (some x) { s with heap := h' }) : wpAny (model prog w) A (pyNext (.ref it)) Q E s := by
  obtain ⟨o, ho, hc, hd⟩ := id hit
  obtain ⟨ol, hol, nl, hdl⟩ := ht
  unfold pyNext
  refine wpAny_bind (wpAny_attempt (wpAny_callSpecial?_slot (name := Str.ofString "__next__") hit.typeIs PySem.F.slot_tuple_iterator_next
    (wpAny_call_entry PySem.F.slot_tuple_iterator_next hit.typeIs PySem.F.entry_tuple_iterator_next ?_ (PySem.F.args_tuple_iterator_next_1 _))))
  show wpAny _ _ (field (.ref it) 0 >>= _) _ _ s
  refine wpAny_bind (wpAny_field ho hd (x := .ref t) rfl ?_)
  show wpAny _ _ (if (Value.ref t == Value.none) = true then _ else _) _ _ s
  rw [if_neg (show ¬ ((Value.ref t == Value.none) = true) from Bool.false_ne_true)]
  show wpAny _ _ (field (.ref it) 1 >>= _) _ _ s
  refine wpAny_bind (wpAny_field ho hd (x := .int i 0) rfl ?_)
  show wpAny _ _ (seqItems? (.ref t) >>= _) _ _ s
  refine wpAny_bind (wpAny_seqItems hol hdl ?_)
  simp only [Int.toNat_natCast, hx]
  refine wpAny_bind (wpAny_setField ho hd (by simp) (wpAny_pure ⟨x, rfl, wpAny_pure (hQ _ ?_ (Heap.SameBut.update ..))⟩))
  exact ⟨_, Heap.get?_update_self _ ho (Obj.isFreed_of_fields (Obj.data_mapFields hd _)), (Obj.cls_mapFields ..).trans hc, by
    rw [Obj.data_mapFields hd]; simp [rawInt]⟩
theorem seq_end {it t : Addr} {i : Nat} {items : Array Value} {Q : Option Value → Shared → Prop} (hh : A.handled = none) (hit : s.heap.IsTupleIter it t i) (ht : IsSeq s.heap t items) (hx : items[i]? = none)
    (hQ : ∀ h', Heap.ExtBut it s.heap h' → Q none { s with heap := h' }) : wpAny (model prog w) A (pyNext (.ref it)) Q E s := by
  obtain ⟨o, ho, hc, hd⟩ := id hit
  obtain ⟨ol, hol, nl, hdl⟩ := ht
  unfold pyNext
  refine wpAny_bind (wpAny_attempt (wpAny_callSpecial?_slot (name := Str.ofString "__next__") hit.typeIs PySem.F.slot_tuple_iterator_next
    (wpAny_call_entry PySem.F.slot_tuple_iterator_next hit.typeIs PySem.F.entry_tuple_iterator_next ?_ (PySem.F.args_tuple_iterator_next_1 _))))
  show wpAny _ _ (field (.ref it) 0 >>= _) _ _ s
  refine wpAny_bind (wpAny_field ho hd (x := .ref t) rfl ?_)
  show wpAny _ _ (if (Value.ref t == Value.none) = true then _ else _) _ _ s
  rw [if_neg (show ¬ ((Value.ref t == Value.none) = true) from Bool.false_ne_true)]
  show wpAny _ _ (field (.ref it) 1 >>= _) _ _ s
  refine wpAny_bind (wpAny_field ho hd (x := .int i 0) rfl ?_)
  show wpAny _ _ (seqItems? (.ref t) >>= _) _ _ s
  refine wpAny_bind (wpAny_seqItems hol hdl ?_)
  simp only [Int.toNat_natCast, hx]
  refine wpAny_bind (wpAny_rule (wpAny_bind (wpAny_setField ho hd (by simp) ?_)))
  show wpAny _ _ (newExc (.type "StopIteration") [] >>= _) _ _ _
  refine wpAny_bind ?_
  simp only [newExc, newTuple]
  refine wpAny_bind (wpAny_newObj_type ?_ (by size_fits))
  refine wpAny_bind (m := firstArgMember _ _) (wpAny_of_eq (a := Value.none) (by first | rfl | (simp only [firstArgMember]; rfl)) ?_)
  refine wpAny_newObj_type ?_ (by size_fits)
  simp only [raiseNew]
  refine wpAny_bind (wpAny_handled ?_)
  first | rw [show A.in1.handled = none from hh] | rw [hh]
  refine wpAny_bind (wpAny_pure (wpAny_throw ?_))
  refine wpAny_bind (wpAny_isInstance (T := "StopIteration") (b := true) ⟨_, Heap.get?_push_size _ rfl, rfl⟩ isSubtype_stop ?_)
  exact wpAny_pure (hQ _ (((Heap.SameBut.update ..).extBut.push _).push _))
theorem seq_draw {it t : Addr} {items : Array Value} (hne : t ≠ it) : ∀ (n i : Nat) (s : Shared) (Q : List Value → Shared → Prop), s.heap.IsTupleIter it t i → IsSeq s.heap t items → i + n ≤ items.size →
    (∀ h', h'.IsTupleIter it t (i + n) → Heap.SameBut it s.heap h' → Q ((items.toList.drop i).take n) { s with heap := h' }) → wpAny (model prog w) A (draw (.ref it) n) Q E s
  | 0, i, s, Q, hit, _, _, hQ => wpAny_pure (by simpa using hQ s.heap hit (Heap.SameBut.refl ..))
  | n + 1, i, s, Q, hit, ht, hle, hQ => by
    have hlt : i < items.size := by (first | lia | omega)
    refine wpAny_bind (seq_next hit ht (x := items[i]) (by simp [hlt]) fun h₁ hit₁ hs₁ => ?_)
    refine wpAny_bind (wpAny_holding (seq_draw hne n (i + 1) _ _ hit₁ (ht.extBut hs₁.extBut hne) (by (first | lia | omega)) fun h₂ hit₂ hs₂ => wpAny_pure ?_))
    have hd : items.toList.drop i = items[i] :: items.toList.drop (i + 1) := by simp [List.drop_eq_getElem_cons, hlt]
    have := hQ h₂ (by rw [show i + (n + 1) = i + 1 + n by (first | lia | omega)]; exact hit₂) (hs₁.trans hs₂)
    rw [hd, List.take_succ_cons] at this
    exact this
end
section
variable {prog : Program} {w : World} {A : Around} {E : Value → Shared → Prop} {s : Shared}
theorem m_lookup_iter {h : Heap} (X : (K w.params).In h) : Looks (model prog w) h (typeLookup (.ref 135) "__iter__") (some (.builtin "tuple.__iter__")) := by
  have fill : K = K ∧ PySem.Challenge.rw_xe0001_01 = PySem.Challenge.rw_xe0001_01 := by (k_fill; exact ⟨rfl, rfl⟩)
  clear fill
  exact looks_findIn X (by k_is)
theorem m_type {h : Heap} {r : Addr} {o : Obj} (hr : h.get? r = some o) (hc : o.cls = .ref 135) : Looks (model prog w) h (typeOf (.ref r)) (.ref 135) := by
  have := (Looks.ld (M := model prog w) hr (part := some headPart))
  rw [← hc]
  exact this.andThen .now
theorem m_sub {h : Heap} {r : Addr} {o : Obj} (X : (K w.params).In h) (hr : h.get? r = some o) (hc : o.cls = .ref 135) : Looks (model prog w) h (isInstance (.ref r) (.type "tuple")) true :=
  (m_type hr hc).andThen (looks_mroIn X (by first | rfl | kernel_rfl))
theorem csib {M : Model} {self : Value} {name : PySem.Str} {id : String} {refuse : Sem Value} {Q : Option Value → Shared → Prop} (l : Looks M s.heap (specialOf self name) (some (.builtin id))) (b : bindSpecial (.builtin id) self = pure (.builtin id, [self]))
    (hc : wpAny M A (call (.builtin id) [self]) (fun v => Q (some v)) E s) : wpAny M A (callSpecialIfBoundUnlessNone? self name refuse) Q E s := by
  unfold callSpecialIfBoundUnlessNone? bindSpecialIfBound?
  refine wpAny_holding (wpAny_bind (wpAny_bind (l.here ?_)))
  simp only [b]
  refine wpAny_bind (wpAny_askSetting (wpAny_ite ?_))
  have fin : wpAny M A (if (Value.builtin id == Value.none) = true then (refuse >>= fun v => pure (some v)) else (call (.builtin id) [self] >>= fun v => pure (some v))) Q E s := by
    rw [if_neg (by simp [builtin_beq_none])]
    exact wpAny_bind (wpAny_mono hc (fun v s' h' => wpAny_pure h') fun _ _ h' => h')
  split
  · exact wpAny_bind (wpAny_pure (wpAny_pure fin))
  · exact wpAny_tryCatch (wpAny_bind (wpAny_pure (wpAny_pure fin)))
theorem m_iter {r : Addr} {o : Obj} {Q : Value → Shared → Prop} (X : (K w.params).In s.heap) (hr : s.heap.get? r = some o) (hc : o.cls = .ref 135)
    (hQ : Q (.ref s.heap.objs.size) { s with heap := s.heap.push { cls := .type "tuple_iterator", data := .fields #[.ref r, .int 0 0] } }) : wpAny (model prog w) A (pyIter (.ref r)) Q E s := by
  have t1 := m_type (prog := prog) (w := w) hr hc
  have l1 := m_lookup_iter (prog := prog) X
  have i1 := m_sub (prog := prog) X hr hc
  have sp : Looks (model prog w) s.heap (specialOf (.ref r) "__iter__") (some (.builtin "tuple.__iter__")) := t1.andThen l1
  unfold pyIter
  refine wpAny_bind (sp.here ?_)
  refine wpAny_mono (Q := Q) (E := E) ?_ (fun _ _ h => h) (fun _ _ h => h)
  show wpAny _ _ (callSpecialIfBoundUnlessNone? _ _ _ >>= _) _ _ _
  refine wpAny_bind (csib sp (PySem.F.slot_tuple_iter.bind (.ref r)) ?_)
  refine wpAny_call (codeAny_call_builtin PySem.F.slot_tuple_iter.plain PySem.F.entry_tuple_iter (@check_slot (model prog w) _ _ _ "tuple.__iter__" "tuple" "__iter__" (.ref r) [] [] _ (by decide +kernel) (by decide +kernel) i1 (PySem.F.args_tuple_iter_1 _) ?_))
  show wpAny _ _ (do ret (← newFields "tuple_iterator" [.ref r, rawInt 0])) _ _ s
  refine wpAny_bind (wpAny_newObj_type (wpAny_pure ?_))
  dsimp only
  exact wpAny_bind (wpAny_specialOf ⟨_, Heap.get?_push_size _ rfl, rfl⟩ PySem.F.slot_tuple_iterator_next.lookup (wpAny_pure hQ))
theorem m_unpack {r : Addr} {o : Obj} {items : Array Value} {n : Nat} {Q : List Value → Shared → Prop} (hh : A.handled = none) (X : (K w.params).In s.heap) (hr : s.heap.get? r = some o) (hc : o.cls = .ref 135) (hd : o.data = .seq items n)
    (hQ : ∀ h', Heap.ExtBut s.heap.objs.size s.heap h' → Q items.toList { s with heap := h' }) : wpAny (model prog w) A (unpackItems (.ref r) items.size none) Q E s := by
  have ht : IsSeq s.heap r items := ⟨o, hr, n, hd⟩
  have hlt : r ≠ s.heap.objs.size := Nat.ne_of_lt ht.lt
  have sp : Looks (model prog w) s.heap (specialOf (.ref r) "__iter__") (some (.builtin "tuple.__iter__")) := (m_type (prog := prog) (w := w) hr hc).andThen (m_lookup_iter (prog := prog) X)
  unfold unpackItems notIterableAtAll
  refine wpAny_bind (wpAny_bind (sp.here ?_))
  refine wpAny_pure ?_
  simp only [Bool.false_eq_true, if_false]
  refine wpAny_bind (wpAny_holding (m_iter X hr hc ?_))
  refine wpAny_bind (wpAny_holding (seq_draw hlt items.size 0 _ _ ⟨_, Heap.get?_push_size _ rfl, rfl, rfl⟩ (ht.push _) (by (first | lia | omega)) fun h₁ hit₁ hs₁ => ?_))
  have hall : List.take items.size (List.drop 0 items.toList) = items.toList := by
    rw [List.drop_zero]; exact List.take_of_length_le (by simp)
  rw [hall, if_neg (by simp)]
  have ht₁ : IsSeq h₁ r items := (ht.push _).extBut hs₁.extBut hlt
  refine wpAny_bind (wpAny_holding (seq_end hh hit₁ ht₁ (by simp) fun h₂ he₂ => ?_))
  simp only [Option.isSome_none, Bool.false_eq_true, if_false]
  exact wpAny_pure (hQ h₂ fun b o hb e => he₂ b o hb (hs₁.extBut b o hb (Heap.get?_push_of_some _ e)))
theorem m_assign {h₀ : Heap} {L : Addr} {m : PySem.Str → Option Value} {news : List (Addr × Obj)} {env : Env} {elts : List PySem.Expr} {k} {pos : Pos} {r : Addr} {d : Option Addr} {items : Array Value} {n : Nat} {sl : Array (Option Value)} {Q : Unit → Shared → Prop} (F : Fr h₀ L s.heap m) (X₀ : (K w.params).In h₀) (N : News h₀ L s.heap news) (hr : (r, { cls := .ref 135, dict := d, data := .seq items n, slots := sl }) ∈ news)
    (hh : A.handled = none) (hn : (assignEach elts env).length = items.size) (hstar : (assignEach elts env).findIdx? (·.1) = none)
    (h : ∀ h', Fr h₀ L h' m → News h₀ L h' news → wpAny (model prog w) A (assignInOrder ((assignEach elts env).map (·.2)) items.toList) Q E { s with heap := h' }) :
    wpAny (model prog w) A (assign (.Tuple elts k pos) env (.ref r)) Q E s := by
  rw [assign_Tuple]
  refine wpAny_bind (wpAny_standAt ?_)
  unfold unpack
  rw [hn, hstar]
  exact wpAny_bind (wpAny_holding (m_unpack hh (X₀.keeps F.keep) (N _ hr).1 rfl rfl fun h' he => h h' (F.extBut he (Nat.le_refl _)) (N.extBut he (Nat.le_refl _))))
end
end
section
open PySem PySem.W PyProof.Rows PySem.Calls
set_option Elab.async false
set_option maxRecDepth 100000
set_option maxHeartbeats 4000000
/-- a tree of questions, answered by an order of keys -/
noncomputable def krun {α : Type} (k : Nat → Nat) : KasT α → α
  | .ret a => a
  | .ask i j f => krun k (f (decide (k i < k j)))
theorem krun_bind {α β : Type} {k : Nat → Nat} {f : α → KasT β} : ∀ (t : KasT α), krun k (t.bind f) = krun k (f (krun k t))
  | .ret _ => rfl
  | .ask i j g => krun_bind (g (decide (k i < k j)))
noncomputable def gk (k : Nat → Nat) (p : Array Nat) (i : Nat) : Nat := k (p.getD i 0)
noncomputable def Srt (k : Nat → Nat) (p : Array Nat) (m : Nat) : Prop := ∀ i j, i < j → j < m → gk k p i < gk k p j
noncomputable def Dsc (k : Nat → Nat) (p : Array Nat) (m : Nat) : Prop := ∀ i j, i < j → j < m → gk k p j < gk k p i
noncomputable def Dis (k : Nat → Nat) (p : Array Nat) : Prop := ∀ i j, i < j → j < p.size → gk k p i ≠ gk k p j
section
variable {k : Nat → Nat} {p : Array Nat}
theorem Srt.one : Srt k p 1 := fun i j h1 h2 => by (first | lia | omega)
theorem Srt.succ {m : Nat} (h : Srt k p m) (h1 : 1 ≤ m) (e : gk k p (m - 1) < gk k p m) : Srt k p (m + 1) := by
  intro i j hij hj
  by_cases q : j = m
  · subst q
    by_cases q2 : i = j - 1
    · subst q2; exact e
    · exact Nat.lt_trans (h i (j - 1) (by (first | lia | omega)) (by (first | lia | omega))) e
  · exact h i j hij (by (first | lia | omega))
theorem Dsc.succ {m : Nat} (h : Dsc k p m) (h1 : 1 ≤ m) (e : gk k p m < gk k p (m - 1)) : Dsc k p (m + 1) := by
  intro i j hij hj
  by_cases q : j = m
  · subst q
    by_cases q2 : i = j - 1
    · subst q2; exact e
    · exact Nat.lt_trans e (h i (j - 1) (by (first | lia | omega)) (by (first | lia | omega)))
  · exact h i j hij (by (first | lia | omega))
theorem gk_congr {xs ys : Array Nat} {i j : Nat} (h : xs[i]? = ys[j]?) : gk k xs i = gk k ys j := by
  have e : ∀ (zs : Array Nat) (n : Nat), zs.getD n 0 = (zs[n]?).getD 0 := fun zs n => by simp
  unfold gk; rw [e, e, h]
theorem asc_run (hd : Dis k p) : ∀ (f n : Nat), 1 ≤ n → n + f = p.size → Srt k p n → Srt k p (krun k (kas_asc p f n)) ∧ n ≤ krun k (kas_asc p f n) ∧ krun k (kas_asc p f n) ≤ p.size ∧ (krun k (kas_asc p f n) < p.size → gk k p (krun k (kas_asc p f n)) < gk k p (krun k (kas_asc p f n) - 1))
  | 0, n, h1, h2, hs => ⟨hs, Nat.le_refl _, (by show n ≤ p.size; (first | lia | omega)), fun h => by change n < p.size at h; (first | lia | omega)⟩
  | f + 1, n, h1, h2, hs => by
    unfold kas_asc
    simp only [krun]
    by_cases c : k (p.getD n 0) < k (p.getD (n - 1) 0)
    · simp only [c, decide_true, if_true, krun]
      exact ⟨hs, Nat.le_refl _, by (first | lia | omega), fun _ => c⟩
    · simp only [c, decide_false, Bool.false_eq_true, if_false]
      have hne := hd (n - 1) n (by (first | lia | omega)) (by (first | lia | omega))
      have hlt : gk k p (n - 1) < gk k p n := by
        have : ¬ gk k p n < gk k p (n - 1) := c
        (first | lia | omega)
      obtain ⟨a, b, c', d⟩ := asc_run hd f (n + 1) (by (first | lia | omega)) (by (first | lia | omega)) (hs.succ h1 hlt)
      exact ⟨a, by (first | lia | omega), c', d⟩
theorem desc_run (hd : Dis k p) : ∀ (f n : Nat), 1 ≤ n → n + f = p.size → Dsc k p n → ∃ m, krun k (kas_desc f p n 0) = (p, m, 0) ∧ n ≤ m ∧ m ≤ p.size ∧ Dsc k p m
  | 0, n, h1, h2, hs => ⟨n, rfl, Nat.le_refl _, by (first | lia | omega), hs⟩
  | f + 1, n, h1, h2, hs => by
    unfold kas_desc
    simp only [krun]
    have hne := hd (n - 1) n (by (first | lia | omega)) (by (first | lia | omega))
    by_cases c : k (p.getD n 0) < k (p.getD (n - 1) 0)
    · simp only [c, decide_true, if_true, Nat.lt_irrefl, if_false]
      obtain ⟨m, a, b, c', d⟩ := desc_run hd f (n + 1) (by (first | lia | omega)) (by (first | lia | omega)) (hs.succ h1 c)
      refine ⟨m, ?_, by (first | lia | omega), c', d⟩
      rw [← a]
      try simp
    · have c2 : k (p.getD (n - 1) 0) < k (p.getD n 0) := by
        have h3 : ¬ gk k p n < gk k p (n - 1) := c
        have : gk k p (n - 1) < gk k p n := by (first | lia | omega)
        exact this
      simp only [c, decide_false, Bool.false_eq_true, if_false, krun, c2, decide_true, if_true]
      exact ⟨n, rfl, Nat.le_refl _, by (first | lia | omega), hs⟩
theorem rev_gk {n : Nat} (hn : n ≤ p.size) (i : Nat) : gk k (kas_rev p 0 n) i = if i < n then gk k p (n - 1 - i) else gk k p i := by
  have e := getElem?_mirror_all (xs := p) (i := 0) (j := n) hn i
  unfold kas_rev
  by_cases h : i < n
  · rw [if_pos ⟨Nat.zero_le _, h⟩] at e
    rw [if_pos h, gk_congr e]
    congr 1; (first | lia | omega)
  · rw [if_neg (by (first | lia | omega))] at e
    rw [if_neg h, gk_congr e]
theorem rev_srt {m : Nat} (hm : m ≤ p.size) (h : Dsc k p m) : Srt k (kas_rev p 0 m) m := by
  intro i j hij hj
  rw [rev_gk hm, rev_gk hm, if_pos (by (first | lia | omega)), if_pos hj]
  exact h _ _ (by (first | lia | omega)) (by (first | lia | omega))
theorem rev_size (n : Nat) : (kas_rev p 0 n).size = p.size := mirror_size _ _ _ _
theorem rev_perm (n : Nat) : (kas_rev p 0 n).Perm p := mirror_perm _ _ _ _
noncomputable def IsP (n : Nat) (p : Array Nat) : Prop := p.Perm (List.toArray (List.range n))
theorem IsP.size {n : Nat} (h : IsP n p) : p.size = n := by
  have := Array.Perm.size_eq h; simpa using this
theorem IsP.dis {n : Nat} (h : IsP n p) (hk : ∀ i j, i < n → j < n → k i = k j → i = j) : Dis k p := by
  intro i j hij hj e
  have hp : p.toList.Perm (List.range n) := by simpa using Array.Perm.toList h
  have hnd : p.toList.Nodup := hp.nodup_iff.mpr List.nodup_range
  have hs := h.size
  have gi : ∀ i, i < p.size → p.getD i 0 < n ∧ p.toList[i]? = some (p.getD i 0) := fun i hi => by
    have e1 : p.getD i 0 = p[i] := by simp [Array.getD, hi]
    have : p[i] ∈ p.toList := by simp
    rw [e1]
    exact ⟨List.mem_range.mp (hp.mem_iff.mp this), by simp [hi]⟩
  obtain ⟨a1, a2⟩ := gi i (by (first | lia | omega))
  obtain ⟨b1, b2⟩ := gi j hj
  have := hk _ _ a1 b1 e
  rw [← this] at b2
  obtain ⟨x1, x2⟩ := List.getElem?_eq_some_iff.mp a2
  obtain ⟨y1, y2⟩ := List.getElem?_eq_some_iff.mp b2
  exact List.pairwise_iff_getElem.mp hnd i j x1 y1 hij (x2.trans y2.symm)
theorem count_run {n : Nat} (hk : ∀ i j, i < n → j < n → k i = k j → i = j) (h : IsP n p) (h2 : 2 ≤ n) : ∃ m p', krun k (kas_count n p) = (m, p') ∧ IsP n p' ∧ 1 ≤ m ∧ m ≤ n ∧ Srt k p' m := by
  have hd := h.dis hk
  have hs := h.size
  obtain ⟨a1, a2, a3, a4⟩ := asc_run hd (n - 1) 1 (Nat.le_refl _) (by (first | lia | omega)) Srt.one
  unfold kas_count
  rw [krun_bind]
  generalize krun k (kas_asc p (n - 1) 1) = m at a1 a2 a3 a4
  by_cases e : m = n
  · subst e
    simp only [BEq.rfl, if_true, krun]
    exact ⟨m, p, rfl, h, a2, Nat.le_refl _, a1⟩
  · have e' : (m == n) = false := by simp [e]
    simp only [e', Bool.false_eq_true, if_false]
    by_cases g : m > 1
    · have c : k (p.getD 0 0) < k (p.getD (m - 1) 0) := a1 0 (m - 1) (by (first | lia | omega)) (by (first | lia | omega))
      simp only [g, if_true, krun, c, decide_true]
      exact ⟨m, p, rfl, h, a2, by (first | lia | omega), a1⟩
    · have hm : m = 1 := by (first | lia | omega)
      subst hm
      simp only [Nat.lt_irrefl, gt_iff_lt, if_false]
      unfold kas_descPart
      rw [krun_bind]
      obtain ⟨m, b1, b2, b3, b4⟩ := desc_run hd (n - 2) 2 (by (first | lia | omega)) (by (first | lia | omega)) (show Dsc k p 2 from fun i j hij hj => by
        have : i = 0 := by (first | lia | omega)
        have : j = 1 := by (first | lia | omega)
        subst i; subst j
        exact a4 (by (first | lia | omega)))
      rw [show n - (1 + 1) = n - 2 by (first | lia | omega), show (1 + 1) = 2 from rfl, b1]
      simp only [Nat.lt_irrefl, gt_iff_lt, if_false]
      unfold kas_tail3
      rw [krun_bind]
      simp only [krun]
      have hp' : IsP n (kas_rev p 0 m) := (rev_perm m).trans h
      obtain ⟨c1, c2, c3, c4⟩ := asc_run (hp'.dis hk) (n - m) m (by (first | lia | omega)) (by rw [rev_size]; (first | lia | omega)) (rev_srt b3 b4)
      rw [rev_size] at c3
      exact ⟨_, _, rfl, hp', by (first | lia | omega), by (first | lia | omega), c1⟩
theorem place_run {n0 : Nat} (hd : Dis k p) (hn : n0 < p.size) (hs : Srt k p n0) : ∀ (f l r : Nat), r - l ≤ f → l ≤ r → r ≤ n0 → (∀ i, i < l → gk k p i < gk k p n0) → (∀ i, r ≤ i → i < n0 → gk k p n0 < gk k p i) →
    krun k (kas_place p n0 f l r) ≤ n0 ∧ (∀ i, i < krun k (kas_place p n0 f l r) → gk k p i < gk k p n0) ∧ (∀ i, krun k (kas_place p n0 f l r) ≤ i → i < n0 → gk k p n0 < gk k p i)
  | 0, l, r, h1, h2, h3, h4, h5 => by
    have : l = r := by (first | lia | omega)
    subst this
    exact ⟨h3, h4, h5⟩
  | f + 1, l, r, h1, h2, h3, h4, h5 => by
    unfold kas_place
    by_cases e : l ≥ r
    · have : l = r := by (first | lia | omega)
      subst this
      simp only [e, if_true, krun]
      exact ⟨h3, h4, h5⟩
    · simp only [e, if_false, krun]
      have hne := hd ((l + r) / 2) n0 (by (first | lia | omega)) hn
      by_cases c : k (p.getD n0 0) < k (p.getD ((l + r) / 2) 0)
      · simp only [c, decide_true, if_true]
        refine place_run hd hn hs f l ((l + r) / 2) (by (first | lia | omega)) (by (first | lia | omega)) (by (first | lia | omega)) h4 (fun i hi hi2 => ?_)
        by_cases q : i = (l + r) / 2
        · subst q; exact c
        · exact Nat.lt_trans c (hs _ _ (by (first | lia | omega)) hi2)
      · simp only [c, decide_false, Bool.false_eq_true, if_false]
        have c2 : gk k p ((l + r) / 2) < gk k p n0 := by
          have : ¬ gk k p n0 < gk k p ((l + r) / 2) := c
          (first | lia | omega)
        refine place_run hd hn hs f ((l + r) / 2 + 1) r (by (first | lia | omega)) (by (first | lia | omega)) h3 (fun i hi => ?_) h5
        by_cases q : i = (l + r) / 2
        · subst q; exact c2
        · exact Nat.lt_trans (hs _ _ (by (first | lia | omega)) (by (first | lia | omega))) c2
theorem bubble_srt {n0 l : Nat} (hn : n0 < p.size) (hl : l ≤ n0) (hs : Srt k p n0) (h1 : ∀ i, i < l → gk k p i < gk k p n0) (h2 : ∀ i, l ≤ i → i < n0 → gk k p n0 < gk k p i) : Srt k (bubble p n0 (n0 - l)) (n0 + 1) := by
  have g : ∀ i, gk k (bubble p n0 (n0 - l)) i = if i = l then gk k p n0 else if l < i ∧ i ≤ n0 then gk k p (i - 1) else gk k p i := fun i => by
    have e := getElem?_bubble hn (n0 - l) (by (first | lia | omega)) i
    rw [show n0 - (n0 - l) = l by (first | lia | omega)] at e
    by_cases q : i = l
    · rw [if_pos q] at e ⊢; exact gk_congr e
    · rw [if_neg q] at e ⊢
      by_cases q2 : l < i ∧ i ≤ n0
      · rw [if_pos q2] at e ⊢; exact gk_congr e
      · rw [if_neg q2] at e ⊢; exact gk_congr e
  intro i j hij hj
  rw [g, g]
  by_cases i1 : i = l
  · rw [if_pos i1, if_neg (by (first | lia | omega)), if_pos (by (first | lia | omega))]
    exact h2 _ (by (first | lia | omega)) (by (first | lia | omega))
  · rw [if_neg i1]
    by_cases i2 : l < i
    · rw [if_pos ⟨i2, by (first | lia | omega)⟩, if_neg (by (first | lia | omega)), if_pos ⟨by (first | lia | omega), by (first | lia | omega)⟩]
      exact hs _ _ (by (first | lia | omega)) (by (first | lia | omega))
    · rw [if_neg (by (first | lia | omega))]
      by_cases j1 : j = l
      · rw [if_pos j1]; exact h1 _ (by (first | lia | omega))
      · rw [if_neg j1]
        by_cases j2 : l < j
        · rw [if_pos ⟨j2, by (first | lia | omega)⟩]
          by_cases e : i = j - 1
          · (first | lia | omega)
          · exact hs _ _ (by (first | lia | omega)) (by (first | lia | omega))
        · rw [if_neg (by (first | lia | omega))]; exact hs _ _ hij (by (first | lia | omega))
theorem bin_run {n : Nat} (hk : ∀ i j, i < n → j < n → k i = k j → i = j) : ∀ (f : Nat) (p : Array Nat) (m : Nat), m + f = n → IsP n p → Srt k p m → IsP n (krun k (kas_bin f p m)) ∧ Srt k (krun k (kas_bin f p m)) n
  | 0, p, m, h1, h2, h3 => by
    have : m = n := by (first | lia | omega)
    subst this
    exact ⟨h2, h3⟩
  | f + 1, p, m, h1, h2, h3 => by
    have hs := h2.size
    unfold kas_bin
    rw [krun_bind]
    obtain ⟨a, b, c⟩ := place_run (h2.dis hk) (n0 := m) (by (first | lia | omega)) h3 m 0 m (by (first | lia | omega)) (by (first | lia | omega)) (Nat.le_refl _) (fun i hi => by (first | lia | omega)) (fun i hi hi2 => by (first | lia | omega))
    exact bin_run hk f _ (m + 1) (by (first | lia | omega)) ((bubble_perm _ _ _).trans h2) (bubble_srt (by (first | lia | omega)) a h3 b c)
theorem sort_run {n : Nat} (hk : ∀ i j, i < n → j < n → k i = k j → i = j) (h2 : 2 ≤ n) : IsP n (krun k (kas_sort n)) ∧ Srt k (krun k (kas_sort n)) n := by
  unfold kas_sort
  rw [krun_bind]
  obtain ⟨m, p', e, a, b, c, d⟩ := count_run hk (show IsP n (List.toArray (List.range n)) from Array.Perm.refl _) h2
  rw [e]
  dsimp only
  by_cases q : m < n
  · rw [if_pos q, show max m 1 = m by (first | lia | omega)]
    exact bin_run hk (n - m) p' m (by (first | lia | omega)) a d
  · rw [if_neg q]
    have : m = n := by (first | lia | omega)
    subst this
    exact ⟨a, d⟩
end
end
section
open PySem PySem.W PyProof.Rows PySem.Calls
set_option Elab.async false
set_option maxRecDepth 100000
set_option maxHeartbeats 4000000
theorem lt_int {prog : Program} {w : World} {A : Around} {E : Value → Shared → Prop} {s : Shared} {a b : Int} {t u : Tok} {Q : Value → Shared → Prop} (h : Q (.bool (decide (a < b))) s) : wpAny (model prog w) A (richCompare .Lt (.int a t) (.int b u)) Q E s :=
  CmpOf.ints_lt (P := fun i v => if i = 0 then v = .int a t else v = .int b u) (fun i => if i = 0 then a else b) (fun i v hi => by
    by_cases e : i = 0
    · simp only [e, if_true] at hi ⊢; exact ⟨_, hi⟩
    · simp only [e, if_false] at hi ⊢; exact ⟨_, hi⟩) 0 1 _ _ s Q E rfl rfl (by simpa using h)
noncomputable def lt3 (p q : NNN) : Bool := if p.1 = q.1 then (if p.2.1 = q.2.1 then decide (p.2.2 < q.2.2) else decide (p.2.1 < q.2.1)) else decide (p.1 < q.1)
noncomputable abbrev mN (d : Addr) (p : NNN) (t1 t2 t3 : Tok) : Obj := mObj d #[.int (p.1 : Int) t1, .int (p.2.1 : Int) t2, .int (p.2.2 : Int) t3]
/-- values that stand for Matches -/
noncomputable def OTM (p : NNN) (o : Obj) : Prop := ∃ d t1 t2 t3, o = mN d p t1 t2 t3
noncomputable def TM (nw : List (Addr × Obj)) (vs : List Value) (ps : List (NNN)) : Prop := TX OTM nw vs ps
theorem TM.nil {nw : List (Addr × Obj)} : TM nw [] [] := TX.nil
theorem TM.mono {nw nw' : List (Addr × Obj)} (k : ∀ p ∈ nw, p ∈ nw') {vs : List Value} {ps : List (NNN)} (h : TM nw vs ps) : TM nw' vs ps := TX.map (fun _ _ _ m _ => k _ m) h
theorem TM.append {nw : List (Addr × Obj)} {vs vs' : List Value} {ps ps' : List (NNN)} (h : TM nw vs ps) (h' : TM nw vs' ps') : TM nw (vs ++ vs') (ps ++ ps') := TX.append h h'
theorem TM.length {nw : List (Addr × Obj)} {vs : List Value} {ps : List (NNN)} (h : TM nw vs ps) : vs.length = ps.length := h.1
theorem TM.one {nw : List (Addr × Obj)} {c d : Addr} {p : NNN} {t1 t2 t3 : Tok} (h : (c, mN d p t1 t2 t3) ∈ nw) : TM nw [.ref c] [p] := TX.one h ⟨d, t1, t2, t3, rfl⟩
theorem TM.get {nw : List (Addr × Obj)} {vs : List Value} {ps : List NNN} {i : Nat} {v : Value} (h : TM nw vs ps) (e : vs[i]? = some v) : ∃ p c d t1 t2 t3, ps[i]? = some p ∧ v = .ref c ∧ (c, mN d p t1 t2 t3) ∈ nw := by
  obtain ⟨p, c, _, a, b, m, d, t1, t2, t3, rfl⟩ := h.2 i v e
  exact ⟨p, c, d, t1, t2, t3, a, b, m⟩
theorem TM.of {nw : List (Addr × Obj)} {vs : List Value} {ps : List NNN} (h : vs.length = ps.length) (k : ∀ (i : Nat) (p : NNN), ps[i]? = some p → ∃ c d t1 t2 t3, vs[i]? = some (Value.ref c) ∧ (c, mN d p t1 t2 t3) ∈ nw) : TM nw vs ps := by
  refine ⟨h, fun i v e => ?_⟩
  have hi := (List.getElem?_eq_some_iff.mp e).1
  have ep := List.getElem?_eq_getElem (h ▸ hi : i < ps.length)
  obtain ⟨c, d, t1, t2, t3, e', m⟩ := k i _ ep
  rw [e] at e'
  exact ⟨_, c, _, ep, Option.some.inj e', m, d, t1, t2, t3, rfl⟩
section
variable {prog : Program} {w : World} {A : Around} {E : Value → Shared → Prop} {s : Shared}
theorem csb {M : Model} {self : Value} {args : List Value} {name : PySem.Str} {id : String} {Q : Option Value → Shared → Prop} (l : Looks M s.heap (specialOf self name) (some (.builtin id))) (b : bindSpecial (.builtin id) self = pure (.builtin id, [self]))
    (hc : wpAny M A (call (.builtin id) (self :: args)) (fun v => Q (some v)) E s) : wpAny M A (callSpecialIfBound? self name args) Q E s := by
  simp only [callSpecialIfBound?, bindSpecialIfBound?]
  refine wpAny_holding (wpAny_bind (wpAny_bind (l.here ?_)))
  simp only [b]
  refine wpAny_bind (wpAny_askSetting (wpAny_ite ?_))
  have fin : wpAny M A (call (.builtin id) ([self] ++ args) >>= fun v => pure (some v)) Q E s :=
    wpAny_bind (wpAny_mono hc (fun v s' h' => wpAny_pure h') fun _ _ h' => h')
  split
  · exact wpAny_bind (wpAny_pure (wpAny_pure fin))
  · exact wpAny_tryCatch (wpAny_bind (wpAny_pure (wpAny_pure fin)))
theorem m_lookup_lt {h : Heap} (X : (K w.params).In h) : Looks (model prog w) h (typeLookup (.ref 135) "__lt__") (some (.builtin "tuple.__lt__")) := by
  have fill : K = K ∧ PySem.Challenge.rw_xe0001_01 = PySem.Challenge.rw_xe0001_01 := by (k_fill; exact ⟨rfl, rfl⟩)
  clear fill
  exact looks_findIn X (by k_is)
theorem m_lt_call {x y d d' : Addr} {p q : NNN} {t1 t2 t3 u1 u2 u3 : Tok} {Q : Value → Shared → Prop} (X : (K w.params).In s.heap) (hx : s.heap.get? x = some (mN d p t1 t2 t3)) (hy : s.heap.get? y = some (mN d' q u1 u2 u3)) (h : Q (.bool (lt3 p q)) s) :
    wpAny (model prog w) A (call (.builtin "tuple.__lt__") [.ref x, .ref y]) Q E s := by
  have i1 := m_sub (prog := prog) X hx rfl
  have i2 := m_sub (prog := prog) X hy rfl
  refine wpAny_call (codeAny_call_builtin (by decide +kernel) PySem.F.entry_tuple_lt (@check_slot (model prog w) _ _ _ "tuple.__lt__" "tuple" "__lt__" (.ref x) [.ref y] [] _ (by decide +kernel) (by decide +kernel) i1 (PySem.F.args_tuple_lt_2 _ _) ?_))
  show wpAny _ _ (isInstance (.ref y) (.type "tuple") >>= _) _ _ s
  refine wpAny_bind (i2.here ?_)
  simp only [Bool.not_true, Bool.false_eq_true, if_false]
  refine wpAny_bind (wpAny_tupleItemsOf hx rfl ?_)
  refine wpAny_bind (wpAny_tupleItemsOf hy rfl ?_)
  simp only [List.zip_cons_cons, List.zip_nil_left, List.forIn_cons, List.forIn_nil]
  unfold lt3 at h
  refine wpAny_bind (wpAny_bind ?_)
  refine wpAny_bind (wpAny_eqBool_int ?_)
  by_cases e1 : p.1 = q.1
  · rw [if_pos e1] at h
    simp only [e1, beq_self_eq_true, Bool.not_true, Bool.false_eq_true, if_false]
    refine wpAny_pure (wpAny_bind (wpAny_bind (wpAny_eqBool_int ?_)))
    by_cases e2 : p.2.1 = q.2.1
    · rw [if_pos e2] at h
      simp only [e2, beq_self_eq_true, Bool.not_true, Bool.false_eq_true, if_false]
      refine wpAny_pure (wpAny_bind (wpAny_bind (wpAny_eqBool_int ?_)))
      by_cases e3 : p.2.2 = q.2.2
      · simp only [e3, beq_self_eq_true, Bool.not_true, Bool.false_eq_true, if_false]
        refine wpAny_pure (wpAny_pure (wpAny_pure ?_))
        rw [e3] at h
        show Q (.bool (decide (3 < 3))) s
        simpa using h
      · have e3' : ((p.2.2 : Int) == (q.2.2 : Int)) = false := by simp; (first | lia | omega)
        simp only [e3', Bool.not_false, if_true]
        refine wpAny_bind (wpAny_rule (wpAny_bind (lt_int ?_)))
        refine wpAny_pure (wpAny_pure (wpAny_pure ?_))
        show Q (.bool _) s
        rw [show decide ((p.2.2 : Int) < (q.2.2 : Int)) = decide (p.2.2 < q.2.2) by simp]; exact h
    · rw [if_neg e2] at h
      have e2' : ((p.2.1 : Int) == (q.2.1 : Int)) = false := by simp; (first | lia | omega)
      simp only [e2', Bool.not_false, if_true]
      refine wpAny_bind (wpAny_rule (wpAny_bind (lt_int ?_)))
      refine wpAny_pure (wpAny_pure (wpAny_pure ?_))
      show Q (.bool _) s
      rw [show decide ((p.2.1 : Int) < (q.2.1 : Int)) = decide (p.2.1 < q.2.1) by simp]; exact h
  · rw [if_neg e1] at h
    have e1' : ((p.1 : Int) == (q.1 : Int)) = false := by simp; (first | lia | omega)
    simp only [e1', Bool.not_false, if_true]
    refine wpAny_bind (wpAny_rule (wpAny_bind (lt_int ?_)))
    refine wpAny_pure (wpAny_pure (wpAny_pure ?_))
    show Q (.bool _) s
    rw [show decide ((p.1 : Int) < (q.1 : Int)) = decide (p.1 < q.1) by simp]; exact h
theorem m_keyLt {x y d d' : Addr} {p q : NNN} {t1 t2 t3 u1 u2 u3 : Tok} {Q : Bool → Shared → Prop} (hu : A.units < cLine) (X : (K w.params).In s.heap) (hx : s.heap.get? x = some (mN d p t1 t2 t3)) (hy : s.heap.get? y = some (mN d' q u1 u2 u3)) (h : Q (lt3 p q) s) :
    wpAny (model prog w) A (keyLt' oneType' (.ref x) (.ref y)) Q E s := by
  have sp : Looks (model prog w) s.heap (specialOf (.ref x) "__lt__") (some (.builtin "tuple.__lt__")) := (m_type (prog := prog) (w := w) hx rfl).andThen (m_lookup_lt (prog := prog) X)
  rw [keyLt'_oneType, oneLt'_eq]
  simp only [if_true]
  refine wpAny_bind (wpAny_cRoomFor hu ?_)
  refine wpAny_bind (csb sp (PySem.F.slot_tuple_lt.bind (.ref x)) (m_lt_call X hx hy ?_))
  exact wpAny_truthy_bool h
end
end
section
open PySem PySem.W PyProof.Rows PySem.Calls
set_option Elab.async false
set_option maxRecDepth 100000
set_option maxHeartbeats 4000000
/-- a tree whose questions are about numbers below n -/
noncomputable def InR {α : Type} (n : Nat) (P : α → Prop) : KasT α → Prop
  | .ret a => P a
  | .ask i j f => i < n ∧ j < n ∧ ∀ b, InR n P (f b)
theorem InR.bind {α β : Type} {n : Nat} {P : α → Prop} {R : β → Prop} {f : α → KasT β} (hf : ∀ a, P a → InR n R (f a)) : ∀ (t : KasT α), InR n P t → InR n R (t.bind f)
  | .ret a, h => hf a h
  | .ask _ _ g, ⟨h1, h2, h3⟩ => ⟨h1, h2, fun b => InR.bind hf (g b) (h3 b)⟩
theorem kas_krunR {α : Type} {n : Nat} {P : α → Prop} {k : Nat → Nat} {cmp : Nat → Nat → (Bool → Shared → Prop) → Shared → Prop} {s : Shared} (hc : ∀ i j C, i < n → j < n → C (decide (k i < k j)) s → cmp i j C s) {Q : α → Shared → Prop} : ∀ (t : KasT α), InR n P t → Q (krun k t) s → t.kasWp cmp Q s
  | .ret _, _, h => h
  | .ask i j f, ⟨h1, h2, h3⟩, h => hc i j _ h1 h2 (kas_krunR hc (f (decide (k i < k j))) (h3 _) h)
noncomputable def Good (n : Nat) (p : Array Nat) : Prop := 0 < n ∧ ∀ x ∈ p.toList, x < n
section
variable {n : Nat} {p : Array Nat}
theorem Good.get (h : Good n p) (i : Nat) : p.getD i 0 < n := by
  by_cases hi : i < p.size
  · have e1 : p.getD i 0 = p[i] := by simp [Array.getD, hi]
    rw [e1]
    exact h.2 _ (by simp)
  · have e1 : p.getD i 0 = 0 := by simp [Array.getD, hi]
    rw [e1]; exact h.1
theorem Good.perm {p' : Array Nat} (h : Good n p) (hp : p'.Perm p) : Good n p' :=
  ⟨h.1, fun x hx => h.2 x ((Array.Perm.toList hp).mem_iff.mp hx)⟩
theorem Good.rev (h : Good n p) (i j : Nat) : Good n (kas_rev p i j) := h.perm (mirror_perm _ _ _ _)
theorem asc_in (h : Good n p) : ∀ f m, InR n (fun _ => True) (kas_asc p f m)
  | 0, _ => trivial
  | f + 1, m => ⟨h.get _, h.get _, fun b => by cases b <;> simp only [if_true, Bool.false_eq_true, if_false] <;> first | trivial | exact asc_in h f (m + 1)⟩
theorem desc_in : ∀ (f : Nat) (p : Array Nat) (m q : Nat), Good n p → InR n (fun r => Good n r.1) (kas_desc f p m q)
  | 0, p, _, _, h => h
  | f + 1, p, m, q, h => ⟨h.get _, h.get _, fun b => by
    cases b
    · simp only [Bool.false_eq_true, if_false]
      refine ⟨h.get _, h.get _, fun c => ?_⟩
      cases c
      · simp only [Bool.false_eq_true, if_false]; exact desc_in f p _ _ h
      · simp only [if_true]; exact h
    · simp only [if_true]
      split
      · exact desc_in f _ _ _ (h.rev _ _)
      · exact desc_in f _ _ _ h⟩
theorem tail3_in (h : Good n p) (m r : Nat) : InR n (fun r => Good n r.2) (kas_tail3 m r p) :=
  InR.bind (n := n) (P := fun _ => True) (R := fun r : Nat × Array Nat => Good n r.2) (f := fun x => .ret (x, kas_rev p 0 m)) (fun _ _ => (h.rev 0 m : Good n (kas_rev p 0 m))) (kas_asc (kas_rev p 0 m) (r - m) m) (asc_in (h.rev 0 m) (r - m) m)
theorem descPart_in (h : Good n p) (m r : Nat) : InR n (fun r => Good n r.2) (kas_descPart m r p) := by
  refine InR.bind (fun a ha => ?_) _ (desc_in _ _ _ _ h)
  split
  · exact tail3_in (ha.rev _ _) _ _
  · exact tail3_in ha _ _
theorem count_in (h : Good n p) (r : Nat) : InR n (fun r => Good n r.2) (kas_count r p) := by
  refine InR.bind (fun a _ => ?_) _ (asc_in h _ _)
  split
  · exact h
  · split
    · refine ⟨h.get _, h.get _, fun b => ?_⟩
      cases b
      · simp only [Bool.false_eq_true, if_false]; exact descPart_in (h.rev _ _) _ _
      · simp only [if_true]; exact h
    · exact descPart_in h _ _
theorem place_in (h : Good n p) (k : Nat) : ∀ f l r, InR n (fun _ => True) (kas_place p k f l r)
  | 0, _, _ => trivial
  | f + 1, l, r => by
    unfold kas_place
    split
    · trivial
    · refine ⟨h.get _, h.get _, fun b => ?_⟩
      cases b
      · simp only [Bool.false_eq_true, if_false]; exact place_in h k f _ _
      · simp only [if_true]; exact place_in h k f _ _
theorem bin_in : ∀ (f : Nat) (p : Array Nat) (k : Nat), Good n p → InR n (Good n) (kas_bin f p k)
  | 0, _, _, h => h
  | f + 1, p, k, h => InR.bind (fun _ _ => bin_in f _ _ (h.perm (bubble_perm _ _ _))) _ (place_in h k _ _ _)
theorem sort_in (h : 0 < n) : InR n (Good n) (kas_sort n) := by
  have hg : Good n (List.toArray (List.range n)) := ⟨h, fun x hx => by simpa using hx⟩
  refine InR.bind (fun a ha => ?_) _ (count_in hg n)
  split
  · exact bin_in _ _ _ ha
  · exact ha
end
theorem map_range_getD {α : Type} (d : α) (l : List α) : (List.range l.length).map (fun i => l.getD i d) = l := by
  apply List.ext_getElem
  · simp
  · intro i h1 h2
    simp [h2]
theorem sortedHeap_short {prog : Program} {w : World} {A : Around} {E : Value → Shared → Prop} {s : Shared} {h₀ : Heap} {L D : Addr} {m : PySem.Str → Option Value} {rest : List (Addr × Obj)} {vs : List Value} {n : Nat} {Q : Value → Shared → Prop}
    (F : Fr h₀ L s.heap m) (N : News h₀ L s.heap ((D, listOf vs.toArray n) :: rest)) (hoff : ∀ p ∈ rest, p.1 ≠ D) (h2 : vs.length < 2)
    (h : ∀ n' h', Fr h₀ L h' m → News h₀ L h' ((D, listOf vs.toArray n') :: rest) → Q .none { s with heap := h' }) :
    wpAny (model prog w) A (call (.builtin "list.sort") [.ref D]) Q E s := by
  have nz := N _ (.head _)
  have N₀ : News h₀ L s.heap rest := fun p hp => N p (.tail _ hp)
  have ho : s.heap.get? D = some (seqObj "list" vs.toArray n) := nz.1
  refine wpAny_call_entry slot_list_sort ⟨_, nz.1, rfl⟩ entry_list_sort ?_ (args_list_sort _)
  have ha : D < s.heap.objs.size := Heap.lt_size ho
  have s1 := Heap.SameBut.update s.heap D (Obj.mapSeq fun _ => (#[] : Array Value))
  obtain ⟨e1, ho1⟩ : ∃ e1, (s.heap.update D (Obj.mapSeq fun _ => (#[] : Array Value))).get? D = some (seqObj "list" #[] e1) := ⟨_, get?_update_seq ho fun _ => #[]⟩
  have F3 : Fr h₀ L (((s.heap.update D (Obj.mapSeq fun _ => (#[] : Array Value))).push (seqObj "tuple" vs.toArray 0)).push (seqObj "list" #[] 0)) m := ((kas_fr F s1 nz.2.1 nz.2.2).push _).push _
  have N2 : News h₀ L (((s.heap.update D (Obj.mapSeq fun _ => (#[] : Array Value))).push (seqObj "tuple" vs.toArray 0)).push (seqObj "list" #[] 0)) rest :=
    (kas_news N₀ s1 hoff).grown fun b x e => Heap.get?_push_of_some _ (Heap.get?_push_of_some _ e)
  have ho6 : (((s.heap.update D (Obj.mapSeq fun _ => (#[] : Array Value))).push (seqObj "tuple" vs.toArray 0)).push (seqObj "list" #[] 0)).get? D = some (seqObj "list" #[] e1) :=
    Heap.get?_push_of_some _ (Heap.get?_push_of_some _ ho1)
  rw [list_sort_plain]
  refine wpAny_bind (listItems_at ho rfl ?_)
  refine wpAny_bind (listUpdate_at ho rfl ?_ (by rw [List.size_toArray, sizeLine_eq]; (first | lia | omega)) (Nat.zero_le _))
  refine wpAny_bind (seqEpoch_at ho1 rfl ?_)
  refine wpAny_bind (wpAny_newTuple ?_ (by show vs.length ≤ _; rw [sizeLine_eq]; (first | lia | omega)))
  refine wpAny_bind (wpAny_newList ?_ (Nat.zero_le _))
  refine wpAny_holding ?_
  show wpAny (model prog w) _ _ _ E { s with heap := ((s.heap.update D (Obj.mapSeq fun _ => (#[] : Array Value))).push (seqObj "tuple" vs.toArray 0)).push (seqObj "list" #[] 0) }
  dsimp only
  have hn2 : vs.toArray.size < 2 := by rw [List.size_toArray]; (first | lia | omega)
  rw [if_pos hn2, if_pos hn2]
  refine wpAny_bind (wpAny_pure ?_)
  rw [StateT.run_pure]
  refine wpAny_bind (wpAny_pure ?_)
  dsimp only
  have hout : (vs.toArray.zip vs.toArray).map (·.2) = vs.toArray := by
    apply Array.toList_inj.mp
    rw [Array.toList_map, Array.toList_zip]
    apply List.ext_getElem
    · simp
    · intro i h1 h2; simp
  have hout' : (arrOf (SortSt.mk' general' (vs.toArray.zip vs.toArray) #[] 7 none)).map (·.2) = vs.toArray := hout
  rw [hout']
  refine wpAny_bind (seqEpoch_at ho6 rfl ?_)
  have s2 := Heap.SameBut.update (((s.heap.update D (Obj.mapSeq fun _ => (#[] : Array Value))).push (seqObj "tuple" vs.toArray 0)).push (seqObj "list" #[] 0)) D (Obj.mapSeq fun _ => vs.toArray)
  obtain ⟨c2, hc2⟩ : ∃ c2, ((((s.heap.update D (Obj.mapSeq fun _ => (#[] : Array Value))).push (seqObj "tuple" vs.toArray 0)).push (seqObj "list" #[] 0)).update D (Obj.mapSeq fun _ => vs.toArray)).get? D = some (seqObj "list" vs.toArray c2) := ⟨_, get?_update_seq ho6 fun _ => vs.toArray⟩
  refine wpAny_bind (listUpdate_at ho6 rfl ?_ (Nat.zero_le _) (by rw [List.size_toArray, sizeLine_eq]; (first | lia | omega)))
  simp only [bne_self_eq_false, Bool.false_eq_true, if_false]
  refine wpAny_pure ⟨_, rfl, h c2 _ (kas_fr F3 s2 nz.2.1 nz.2.2) ?_⟩
  exact fun p hp => (List.mem_cons.mp hp).elim (fun e => e ▸ ⟨hc2, nz.2⟩) fun hp => kas_news N2 s2 hoff p hp
theorem pw_short {α : Type} {R : α → α → Prop} {ps : List α} (h : ps.length < 2) : ps.Pairwise R := by
  cases ps with
  | nil => exact .nil
  | cons p r =>
    cases r with
    | nil => exact List.pairwise_singleton _ _
    | cons q r => exact absurd h (Nat.not_lt_of_le (Nat.le_add_left 2 r.length))
theorem m_sort {prog : Program} {w : World} {A : Around} {E : Value → Shared → Prop} {s : Shared} {h₀ : Heap} {L D : Addr} {m : PySem.Str → Option Value} {rest : List (Addr × Obj)} {vs : List Value} {n : Nat} {ps : List NNN} {Q : Value → Shared → Prop}
    (hu : A.units + 2 < cLine) (F : Fr h₀ L s.heap m) (X₀ : (K w.params).In h₀) (N : News h₀ L s.heap ((D, listOf vs.toArray n) :: rest)) (hoff : ∀ p ∈ rest, p.1 ≠ D) (hT : TM rest vs ps) (hz : ps.length < 64) (hd : ps.Pairwise fun p q => p.1 ≠ q.1)
    (h : ∀ vs' ps' n' h', Fr h₀ L h' m → News h₀ L h' ((D, listOf vs'.toArray n') :: rest) → TM rest vs' ps' → ps'.Perm ps → ps'.Pairwise (fun p q => p.1 < q.1) → Q .none { s with heap := h' }) :
    wpAny (model prog w) A (call (.builtin "list.sort") [.ref D]) Q E s := by
  have hlen := hT.length
  by_cases h2 : vs.length < 2
  · refine sortedHeap_short F N hoff h2 fun n' h' F' N' => h vs ps n' h' F' N' hT (List.Perm.refl _) ?_
    exact pw_short (hlen ▸ h2)
  · have h2' : 2 ≤ vs.length := by (first | lia | omega)
    have U : UpdF D (listOf vs.toArray n) ((D, listOf vs.toArray n) :: rest) (fun o' => (D, o') :: rest) := .head hoff
    have hR : ∀ {h' : Heap} {o : Obj}, News h₀ L h' ((D, o) :: rest) → News h₀ L h' rest := fun N' p hp => N' p (.tail _ hp)
    refine kas_lsort (vs := vs) (T := .ref 135) F N U rfl h2' (by (first | lia | omega)) (fun e1 h' F' N' v hv => ?_) (by decide) fun e1 h' F' N' => ?_
    · obtain ⟨i, hi⟩ := List.getElem?_of_mem hv
      obtain ⟨p, c, d, t1, t2, t3, hp, rfl, hc⟩ := hT.get hi
      exact m_type (hR N' _ hc).1 rfl
    · have gd : ∀ i, i < vs.length → ∃ p c d t1 t2 t3, ps.getD i (0, 0, 0) = p ∧ vs.getD i Value.none = .ref c ∧ (c, mN d p t1 t2 t3) ∈ rest := fun i hi => by
        obtain ⟨p, c, d, t1, t2, t3, hp, hv, hc⟩ := hT.get (i := i) (v := vs[i]) (by simp [hi])
        refine ⟨p, c, d, t1, t2, t3, ?_, ?_, hc⟩
        · rw [List.getD_eq_getElem?_getD, hp]; rfl
        · rw [List.getD_eq_getElem?_getD, ← hv]; simp [hi]
      have hinj : ∀ i j, i < vs.length → j < vs.length → (ps.getD i (0, 0, 0)).1 = (ps.getD j (0, 0, 0)).1 → i = j := fun i j hi hj e => by
        have gp : ∀ i, (hi : i < ps.length) → ps.getD i (0, 0, 0) = ps[i] := by
          intro i hi
          simp [hi]
        rcases Nat.lt_trichotomy i j with q | q | q
        · rw [gp i (hlen ▸ hi), gp j (hlen ▸ hj)] at e
          exact absurd e (List.pairwise_iff_getElem.mp hd i j (hlen ▸ hi) (hlen ▸ hj) q)
        · exact q
        · rw [gp i (hlen ▸ hi), gp j (hlen ▸ hj)] at e
          exact absurd e.symm (List.pairwise_iff_getElem.mp hd j i (hlen ▸ hj) (hlen ▸ hi) q)
      refine kas_krunR (n := vs.length) (P := Good vs.length) (k := fun i => (ps.getD i (0, 0, 0)).1) (fun i j C hi hj hC => ?_) _ (sort_in (by (first | lia | omega))) ?_
      · obtain ⟨p, c, d, t1, t2, t3, hp, hv, hc⟩ := gd i hi
        obtain ⟨p', c', d', u1, u2, u3, hp', hv', hc'⟩ := gd j hj
        unfold kas_ask
        rw [hv, hv']
        refine m_keyLt (by first | exact Nat.lt_of_le_of_lt (Nat.le_add_right _ _) hu | (show A.units + 1 < cLine; (first | lia | omega))) (X₀.keeps F'.keep) (hR N' _ hc).1 (hR N' _ hc').1 ?_
        by_cases e : i = j
        · subst e
          rw [hp] at hp'
          subst hp'
          simp only [Nat.lt_irrefl, decide_false] at hC
          unfold lt3
          simpa using hC
        · unfold lt3
          rw [hp, hp'] at hC
          rw [if_neg]
          · exact hC
          · intro q
            rw [← hp, ← hp'] at q
            exact e (hinj i j hi hj q)
      · obtain ⟨hP, hS⟩ := sort_run (k := fun i => (ps.getD i (0, 0, 0)).1) (n := vs.length) hinj h2'
        generalize krun (fun i => (ps.getD i (0, 0, 0)).1) (kas_sort vs.length) = p at hP hS
        have hsz := hP.size
        have hpl : p.toList.Perm (List.range vs.length) := by simpa using Array.Perm.toList hP
        refine KasFin.intro F' N' (.head hoff) fun h5 c F5 N5 => h _ (p.toList.map fun i => ps.getD i (0, 0, 0)) c h5 F5 N5 ?_ ?_ ?_
        · refine TM.of (by simp) fun i q hq => ?_
          rw [List.getElem?_map] at hq
          obtain ⟨x, hx, hq⟩ := Option.map_eq_some_iff.mp hq
          have hxl : x < vs.length := List.mem_range.mp (hpl.mem_iff.mp (List.mem_of_getElem? hx))
          obtain ⟨p0, c, d, t1, t2, t3, hp, hv, hc⟩ := gd x hxl
          refine ⟨c, d, t1, t2, t3, ?_, ?_⟩
          · rw [List.getElem?_map, hx]; exact congrArg some hv
          · rw [← hq, hp]; exact hc
        · have := hpl.map (fun i => ps.getD i (0, 0, 0))
          rw [hlen, map_range_getD] at this
          exact this
        · rw [List.pairwise_iff_getElem]
          intro i j hi hj hij
          have := hS i j hij (by simp at hj; (first | lia | omega))
          simp only [gk] at this
          simp only [List.length_map, Array.length_toList] at hi hj
          have e : ∀ i, (h : i < p.size) → p.getD i 0 = p[i] := fun i h => by simp [Array.getD, h]
          rw [e i hi, e j hj] at this
          simpa using this
end
section
open PySem PySem.W PyProof.Rows PySem.Calls
set_option Elab.async false
set_option maxRecDepth 100000
set_option maxHeartbeats 4000000
theorem mp_slot_next : Slot "map" "__next__" "map.__next__" :=
  .of (owner := "map") (n := "__next__") (by rw [typeLookup_type, builtinLookup_eq_fast]; kernel_rfl) (by decide +kernel) (by decide +kernel) (by decide +kernel)
    (by first | exact .inl (by decide +kernel) | exact .inr (by decide +kernel)) (by rw [isSubtype_type]; kernel_rfl)
theorem mp_entry_next : entryFor table "map.__next__" = some Builtin.«map.__next__» := entryFor_of_tree (by kernel_rfl)
theorem mp_args_next (a : Value) : argsOk "map.__next__" ⟨[a], []⟩ := by unfold argsOk; kernel_rfl
theorem mp_slot_iter : Slot "map" "__iter__" "map.__iter__" :=
  .of (owner := "map") (n := "__iter__") (by rw [typeLookup_type, builtinLookup_eq_fast]; kernel_rfl) (by decide +kernel) (by decide +kernel) (by decide +kernel)
    (by first | exact .inl (by decide +kernel) | exact .inr (by decide +kernel)) (by rw [isSubtype_type]; kernel_rfl)
theorem mp_args_iter (a : Value) : argsOk "map.__iter__" ⟨[a], []⟩ := by unfold argsOk; kernel_rfl
theorem mp_entry_iter : entryFor table "map.__iter__" = some Builtin.«dict_keyiterator.__iter__» :=
  entryFor_alias (id' := "dict_keyiterator.__iter__") (by kernel_rfl) (by first | rfl | decide +kernel | (unfold String.splitOn; simp +decide [String.splitOnAux])) (by decide +kernel) (by kernel_rfl)
theorem mp_slot_init : Slot "map" "__init__" "object.__init__" :=
  .of (owner := "object") (n := "__init__") (by rw [typeLookup_type, builtinLookup_eq_fast]; kernel_rfl) (by decide +kernel) (by decide +kernel) (by decide +kernel)
    (by first | exact .inl (by decide +kernel) | exact .inr (by decide +kernel)) (by rw [isSubtype_type]; kernel_rfl)
theorem mp_mro : mroOf (.type "map") = pure [.type "map", .type "object"] := by rw [mroOf_type]; kernel_rfl
theorem mp_lookup_new : typeLookup (.type "map") "__new__" = pure (some (.builtin "map.__new__")) := by rw [typeLookup_type, builtinLookup_eq_fast]; kernel_rfl
theorem mp_called : TypeCalled "map" "map.__new__" "object.__init__" :=
  ⟨by decide +kernel, by decide +kernel, ⟨_, _, mp_mro⟩, madeBy_type mp_mro mp_lookup_new (by decide +kernel), by decide +kernel, by rw [isSubtype_type]; kernel_rfl, mp_slot_init⟩
theorem mp_typeCall (a b : Value) : checkTypeCall "map" ⟨[a, b], []⟩ = pure () := by kernel_rfl
theorem mp_newCall (a b : Value) : checkBuiltinCall "map.__new__" ⟨[.type "map", a, b], []⟩ = pure () := by kernel_rfl
theorem mp_entry_new : entryFor table "map.__new__" = some Builtin.«map.__new__» := entryFor_of_tree (by kernel_rfl)
theorem mp_sub : isSubtype (.type "map") (.type "map") = pure true := by rw [isSubtype_type]; kernel_rfl
theorem mp_oi_args (a b c : Value) : argsOk "object.__init__" ⟨[a, b, c], []⟩ := by unfold argsOk; kernel_rfl
theorem mp_no_len : typeLookup (.type "map") "__len__" = pure none := by rw [typeLookup_type, builtinLookup_eq_fast]; kernel_rfl
theorem mp_no_hint : typeLookup (.type "map") "__length_hint__" = pure none := by rw [typeLookup_type, builtinLookup_eq_fast]; kernel_rfl
end
section
open PySem PySem.W PyProof.Rows PySem.Calls
set_option Elab.async false
set_option maxRecDepth 100000
set_option maxHeartbeats 4000000
noncomputable abbrev liObj (l : Addr) (i : Nat) : Obj := { cls := .type "list_iterator", data := .fields #[.ref l, .int (i : Int) 0] }
noncomputable abbrev mapObj (t : Addr) (f : Value) : Obj := { cls := .type "map", data := .fields #[.ref t, f] }
noncomputable abbrev tup1 (v : Value) : Obj := { cls := .type "tuple", data := .seq #[v] }
theorem meets_map_new (f : Value) (l : Addr) (items : Array Value) (n : Nat) :
    Meets (Builtin.«map.__new__» ⟨[.type "map", f, .ref l], []⟩) (fun _ R s => s.heap.get? l = some (listOf items n) ∧
      R (.ok (.ret (.ref (s.heap.objs.size + 2)))) { s with heap := ((s.heap.push (liObj l 0)).push (tup1 (.ref s.heap.objs.size))).push (mapObj (s.heap.objs.size + 1) f) }) :=
  .of_wp fun prog w A R s h => by
    obtain ⟨hl, h⟩ := h
    have hL : s.heap.IsList l items := ⟨_, hl, rfl, n, rfl⟩
    unfold Builtin.«map.__new__» Builtin.SmallTypes.newClass
    simp only [isType, mp_sub, pure_bind, Bool.not_true, Bool.false_eq_true, if_false]
    refine wpAny_bind (wpAny_of_eq (a := ()) (by first | rfl | kernel_rfl) ?_)
    rw [if_neg (by simp)]
    unfold Builtin.SmallTypes.iterAll
    simp only [List.drop_succ_cons, List.drop_zero, List.forIn_cons, List.forIn_nil]
    refine wpAny_bind (wpAny_bind (wpAny_bind (wpAny_bind (wpAny_holding (wpAny_pyIter_list hL ?_)))))
    refine wpAny_pure ?_
    refine wpAny_pure (wpAny_pure ?_)
    refine wpAny_bind (wpAny_newTuple ?_ (Nat.le_of_ble_eq_true rfl))
    unfold Builtin.SmallTypes.newRecord
    dsimp only
    refine wpAny_bind (wpAny_newObj_type (wpAny_pure ?_))
    refine ⟨_, rfl, ?_⟩
    have e1 : (s.heap.push { cls := .type "list_iterator", data := .fields #[.ref l, .int 0 0] }).objs.size = s.heap.objs.size + 1 := Heap.size_push ..
    have e2 : ((s.heap.push { cls := .type "list_iterator", data := .fields #[.ref l, .int 0 0] }).push (tup1 (.ref s.heap.objs.size))).objs.size = s.heap.objs.size + 2 := by rw [Heap.size_push, e1]
    have h' := h
    rw [← e1, ← e2] at h
    exact h
section
variable {prog : Program} {w : World} {A : Around} {E : Value → Shared → Prop} {s : Shared} {h₀ : Heap} {L : Addr} {m : PySem.Str → Option Value} {news : List (Addr × Obj)}
theorem map_call {l : Addr} {vs : List Value} {n : Nat} {f : Value} {Q : Value → Shared → Prop} (F : Fr h₀ L s.heap m) (N : News h₀ L s.heap news) (hl : (l, listOf vs.toArray n) ∈ news)
    (h : ∀ it t M h', Fr h₀ L h' m → News h₀ L h' ((M, mapObj t f) :: (t, tup1 (.ref it)) :: (it, liObj l 0) :: news) → (∀ p ∈ news, p.1 < it) → it < t → t < M → Q (.ref M) { s with heap := h' }) :
    wpAny (model prog w) A (call (.type "map") [f, .ref l]) Q E s := by
  refine callType_new mp_called (by decide) (mp_typeCall _ _) (mp_newCall _ _) (fun obj => mp_oi_args obj _ _) mp_entry_new (meets_map_new f l vs.toArray n) ⟨(N _ hl).1, ?_⟩
  show _ ∧ _
  have e1 : (s.heap.push (liObj l 0)).objs.size = s.heap.objs.size + 1 := Heap.size_push ..
  have e2 : ((s.heap.push (liObj l 0)).push (tup1 (.ref s.heap.objs.size))).objs.size = s.heap.objs.size + 2 := by rw [Heap.size_push, e1]
  have F1 := F.push (liObj l 0)
  have N1 := News.push F N (liObj l 0)
  have F2 := F1.push (tup1 (.ref s.heap.objs.size))
  have N2 := News.push F1 N1 (tup1 (.ref s.heap.objs.size))
  have F3 := F2.push (mapObj (s.heap.objs.size + 1) f)
  have N3 := News.push F2 N2 (mapObj (s.heap.objs.size + 1) f)
  rw [e2, e1] at N3
  refine ⟨⟨_, (N3 _ (.head _)).1, rfl⟩, h _ _ _ _ F3 N3 (fun p hp => Heap.lt_size (N p hp).1) (Nat.lt_succ_self _) (Nat.lt_succ_self _)⟩
theorem map_next_item {M t it l : Addr} {f x : Value} {i : Nat} {items : Array Value} {Q : Option Value → Shared → Prop} (hM : s.heap.get? M = some (mapObj t f)) (ht : s.heap.get? t = some (tup1 (.ref it))) (hit : s.heap.IsListIter it l i) (hl : s.heap.IsList l items) (hx : items[i]? = some x) (hMi : M ≠ it) (hh : A.handled = none)
    (h : ∀ h', h'.IsListIter it l (i + 1) → Heap.SameBut it s.heap h' → wpAny (model prog w) A.in1 (call f [x]) (fun v s'' => Q (some v) s'') NoE { s with heap := h' }) : wpAny (model prog w) A (pyNext (.ref M)) Q E s := by
  have hT : s.TypeIs (.ref M) "map" := ⟨_, hM, rfl⟩
  unfold pyNext
  refine wpAny_bind (wpAny_attempt (wpAny_callSpecial?_slot (name := Str.ofString "__next__") hT mp_slot_next (wpAny_call_entry mp_slot_next hT mp_entry_next ?_ (mp_args_next _))))
  unfold Builtin.«map.__next__»
  refine wpAny_bind (wpAny_of_eq (a := (Value.ref M, [])) rfl ?_)
  dsimp only
  refine wpAny_bind (wpAny_field hM rfl (x := .ref t) rfl ?_)
  refine wpAny_bind (wpAny_seqItems ht rfl ?_)
  dsimp only
  rw [← Array.forIn_toList]
  simp only [List.forIn_cons, List.forIn_nil]
  refine wpAny_bind (wpAny_bind (wpAny_bind (wpAny_holding (wpAny_nextOf_list_item hit hl hx fun h' hit' hs' => ?_))))
  refine wpAny_pure ?_
  dsimp only
  refine wpAny_pure ?_
  refine wpAny_bind (wpAny_field ((hs'.2 M hMi).trans hM) rfl (x := f) rfl ?_)
  refine wpAny_bind (wpAny_holding (wpAny_mono (h h' hit' hs') (fun v s'' hv => ?_) fun _ _ e => e.elim))
  refine wpAny_bind (wpAny_letGo (wpAny_pure ?_))
  exact ⟨_, rfl, wpAny_pure hv⟩
theorem map_next_end {M t it l : Addr} {f : Value} {i : Nat} {items : Array Value} {Q : Option Value → Shared → Prop} (hM : s.heap.get? M = some (mapObj t f)) (ht : s.heap.get? t = some (tup1 (.ref it))) (hit : s.heap.IsListIter it l i) (hl : s.heap.IsList l items) (hx : items[i]? = none) (hh : A.handled = none)
    (h : ∀ h', Heap.ExtBut it s.heap h' → Q none { s with heap := h' }) : wpAny (model prog w) A (pyNext (.ref M)) Q E s := by
  have hT : s.TypeIs (.ref M) "map" := ⟨_, hM, rfl⟩
  unfold pyNext
  refine wpAny_bind (wpAny_attempt (wpAny_callSpecial?_slot (name := Str.ofString "__next__") hT mp_slot_next (wpAny_call_entry mp_slot_next hT mp_entry_next ?_ (mp_args_next _))))
  unfold Builtin.«map.__next__»
  refine wpAny_bind (wpAny_of_eq (a := (Value.ref M, [])) rfl ?_)
  dsimp only
  refine wpAny_bind (wpAny_field hM rfl (x := .ref t) rfl ?_)
  refine wpAny_bind (wpAny_seqItems ht rfl ?_)
  dsimp only
  rw [← Array.forIn_toList]
  simp only [List.forIn_cons, List.forIn_nil]
  refine wpAny_bind (wpAny_bind (wpAny_bind (wpAny_holding (wpAny_nextOf_list_end hh hit hl hx fun h' e hk he => ?_))))
  obtain ⟨o, ho, hc⟩ := he
  refine wpAny_bind (wpAny_isInstance (T := "StopIteration") (b := true) ⟨o, ho, hc⟩ isSubtype_stop ?_)
  exact wpAny_pure (h h' hk)
end
end
section
open PySem PySem.W PyProof.Rows PySem.Calls
set_option Elab.async false
set_option maxRecDepth 100000
set_option maxHeartbeats 4000000
section
variable {prog : Program} {w : World} {A : Around} {h₀ : Heap} {L M t it l S : Addr} {m : PySem.Str → Option Value} {base : List (Addr × Obj)} {f : Value} {vs : List Value} {n : Nat} {ps : List NNN}
theorem map_loop {R : Result → Shared → Prop} (hh : A.handled = none) (hM : (M, mapObj t f) ∈ base) (ht : (t, tup1 (.ref it)) ∈ base) (hl : (l, listOf vs.toArray n) ∈ base) (hT : TR base vs ps) (hz : ps.length ≤ 1000)
    (step : ∀ (s' : Shared) (nw : List (Addr × Obj)) (c : Addr) (p : NNN) (t1 t2 t3 : Tok) (Q' : Value → Shared → Prop), (∀ q ∈ base, q ∈ nw) → (c, tupN p t1 t2 t3) ∈ base → Fr h₀ L s'.heap m → News h₀ L s'.heap nw →
      (∀ r d tl h' tk', Fr h₀ L h' m → News h₀ L h' ((r, mN d p t1 t2 t3) :: (tl ++ nw)) → Q' (.ref r) { s' with heap := h', toks := tk' }) → wpAny (model prog w) A.in1.in1 (call f [.ref c]) Q' NoE s') :
    ∀ (k i : Nat) (s : Shared) (acc : List Value) (c : Nat) (oi : Obj) (nx : List (Addr × Obj)), ps.length - i = k → i ≤ ps.length → Fr h₀ L s.heap m → News h₀ L s.heap ((S, listOf acc.toArray c) :: (it, oi) :: nx) → oi.cls = .type "list_iterator" → oi.data = .fields #[.ref l, .int (i : Int) 0] →
      (∀ p ∈ base, p ∈ nx) → (∀ p ∈ nx, p.1 ≠ S ∧ p.1 ≠ it) → S ≠ it → TM nx acc (ps.take i) →
      (∀ acc c nx h' tk', Fr h₀ L h' m → News h₀ L h' ((S, listOf acc.toArray c) :: nx) → (∀ p ∈ base, p ∈ nx) → (∀ p ∈ nx, p.1 ≠ S) → TM nx acc ps → R (.ok (.ret .none)) { s with heap := h', toks := tk' }) →
      codeAny (model prog w) A (.builtin "list.extend.loop" ⟨[.ref S, .ref M, .none], []⟩) R s := by
  intro k
  induction k with
  | zero =>
    intro i s acc c oi nx hk hi F N hc hd hb hoff hSi hTM hR
    have hin : i = ps.length := by (first | lia | omega)
    subst hin
    refine codeAny_builtin PySem.F.entry_extend_loop ?_
    rw [Around.under_plainId PySem.F.plain_extend_loop _]
    show wpAny _ A.in1 (pyNext (.ref M) >>= _) _ _ s
    have hlo := N _ (.tail _ (.tail _ (hb _ hl)))
    refine wpAny_bind (map_next_end (l := l) (i := ps.length) (items := vs.toArray) (N _ (.tail _ (.tail _ (hb _ hM)))).1 (N _ (.tail _ (.tail _ (hb _ ht)))).1 ⟨oi, (N _ (.tail _ (.head _))).1, hc, hd⟩ ⟨_, hlo.1, rfl, n, rfl⟩ (by simp [hT.length]) hh fun h' hx => ?_)
    have keep : ∀ b o, b ≠ it → s.heap.get? b = some o → h'.get? b = some o := fun b o hb e => hx b o hb e
    have ni := N (it, oi) (.tail _ (.head _))
    have F' : Fr h₀ L h' m := ⟨F.ns.at' fun o e => keep _ o (Ne.symm ni.2.1) e, fun b o e => keep b o (fun q => by rw [q] at e; have := ni.2.2; simp only at this; rw [this] at e; cases e) (F.keep b o e), F.above⟩
    refine wpAny_pure (hR acc c nx h' _ F' (fun p hp => ?_) hb (fun p hp => (hoff p hp).1) (by rw [List.take_length] at hTM; exact hTM))
    rcases List.mem_cons.mp hp with rfl | hp
    · exact ⟨keep _ _ hSi (N _ (.head _)).1, (N _ (.head _)).2⟩
    · exact ⟨keep _ _ (hoff p hp).2 (N _ (.tail _ (.tail _ hp))).1, (N _ (.tail _ (.tail _ hp))).2⟩
  | succ k ih =>
    intro i s acc c oi nx hk hi F N hc hd hb hoff hSi hTM hR
    have hlt : i < ps.length := by (first | lia | omega)
    refine codeAny_builtin PySem.F.entry_extend_loop ?_
    rw [Around.under_plainId PySem.F.plain_extend_loop _]
    show wpAny _ A.in1 (pyNext (.ref M) >>= _) _ _ s
    have hlo := N _ (.tail _ (.tail _ (hb _ hl)))
    have hlen := hT.length
    obtain ⟨p, c1, t1, t2, t3, hp, hv, hc1⟩ := hT.get (i := i) (v := vs[i]) (by simp)
    refine wpAny_bind (map_next_item (l := l) (i := i) (items := vs.toArray) (x := .ref c1) (N _ (.tail _ (.tail _ (hb _ hM)))).1 (N _ (.tail _ (.tail _ (hb _ ht)))).1 ⟨oi, (N _ (.tail _ (.head _))).1, hc, hd⟩ ⟨_, hlo.1, rfl, n, rfl⟩ (by rw [← hv]; simp) (hoff _ (hb _ hM)).2 hh fun h' hit' hs => ?_)
    obtain ⟨oi', hoi', hc', hd'⟩ := hit'
    have ni := N (it, oi) (.tail _ (.head _))
    have nS := N (S, listOf acc.toArray c) (.head _)
    have F' : Fr h₀ L h' m := kas_fr F hs ni.2.1 ni.2.2
    have N' : News h₀ L h' ((S, listOf acc.toArray c) :: (it, oi') :: nx) := by
      intro p hp
      rcases List.mem_cons.mp hp with rfl | hp
      · exact ⟨(hs.2 _ hSi).trans nS.1, nS.2⟩
      · rcases List.mem_cons.mp hp with rfl | hp
        · exact ⟨hoi', ni.2⟩
        · exact ⟨(hs.2 _ (hoff p hp).2).trans (N _ (.tail _ (.tail _ hp))).1, (N _ (.tail _ (.tail _ hp))).2⟩
    refine step _ _ c1 p t1 t2 t3 _ (fun q hq => .tail _ (.tail _ (hb q hq))) hc1 F' N' fun r d tl h5 tk5 F5 N5 => ?_
    have nS5 := N5 (S, listOf acc.toArray c) (.tail _ (List.mem_append_right _ (.head _)))
    have nr := N5 _ (.head _)
    have hrS : r ≠ S := ne_of_obj N5 (.head _) (.tail _ (List.mem_append_right _ (.head _))) (by show Value.ref 135 ≠ .type "list"; exact fun e => nomatch e)
    have hri : r ≠ it := ne_of_obj N5 (.head _) (.tail _ (List.mem_append_right _ (.tail _ (.head _)))) (by rw [hc']; exact fun e => nomatch e)
    show wpAny _ A.in1 (updateSeq S (·.push (.ref r)) >>= _) _ _ _
    have hlacc : acc.length = i := by rw [hTM.length, List.length_take]; (first | lia | omega)
    refine wpAny_bind (wpAny_updateSeq nS5.1 rfl (wpAny_pure ⟨plainId_quiet PySem.F.plain_extend_loop _, ?_⟩) (by rw [sizeLine_eq, List.size_toArray]; (first | lia | omega)) (by show (acc.toArray.push _).size ≤ _; rw [Array.size_push, sizeLine_eq, List.size_toArray]; (first | lia | omega)))
    have hs2 := Heap.SameBut.update h5 S (Obj.mapSeq fun a => a.push (Value.ref r))
    obtain ⟨c2, hc2⟩ : ∃ c2, (h5.update S (Obj.mapSeq fun a => a.push (Value.ref r))).get? S = some (listOf (acc ++ [Value.ref r]).toArray c2) := by
      have := get?_update_seq (c := "list") nS5.1 fun a => a.push (Value.ref r)
      rw [show acc.toArray.push (Value.ref r) = (acc ++ [Value.ref r]).toArray by simp] at this
      exact ⟨_, this⟩
    have F6 := kas_fr F5 hs2 nS5.2.1 nS5.2.2
    refine ih (i + 1) _ (acc ++ [.ref r]) c2 oi' ((r, mN d p t1 t2 t3) :: nx) (by (first | lia | omega)) hlt F6 (fun q hq => ?_) hc' hd' (fun q hq => .tail _ (hb q hq)) (fun q hq => ?_) hSi ?_ (fun acc c nx h' tk' F' N' => hR acc c nx h' tk' F' N')
    · rcases List.mem_cons.mp hq with rfl | hq
      · exact ⟨hc2, nS5.2⟩
      · rcases List.mem_cons.mp hq with rfl | hq
        · exact ⟨(hs2.2 _ (Ne.symm hSi)).trans (N5 _ (.tail _ (List.mem_append_right _ (.tail _ (.head _))))).1, (N5 _ (.tail _ (List.mem_append_right _ (.tail _ (.head _))))).2⟩
        · rcases List.mem_cons.mp hq with rfl | hq
          · exact ⟨(hs2.2 _ hrS).trans nr.1, nr.2⟩
          · have z := N5 q (.tail _ (List.mem_append_right _ (.tail _ (.tail _ hq))))
            exact ⟨(hs2.2 _ (hoff q hq).1).trans z.1, z.2⟩
    · rcases List.mem_cons.mp hq with rfl | hq
      · exact ⟨hrS, hri⟩
      · exact hoff q hq
    · rw [List.take_add_one, hp]
      exact (hTM.mono fun q hq => .tail _ hq).append (TM.one (.head _))
theorem list_map {E Q : Value → Shared → Prop} {s : Shared} {news : List (Addr × Obj)} (hh : A.handled = none) (F : Fr h₀ L s.heap m) (N : News h₀ L s.heap ((M, mapObj t f) :: (t, tup1 (.ref it)) :: (it, liObj l 0) :: news))
    (l1 : ∀ p ∈ news, p.1 < it) (l2 : it < t) (l3 : t < M) (hl : (l, listOf vs.toArray n) ∈ news) (hT : TR news vs ps) (hz : ps.length ≤ 1000)
    (step : ∀ (s' : Shared) (nw : List (Addr × Obj)) (c : Addr) (p : NNN) (t1 t2 t3 : Tok) (Q' : Value → Shared → Prop), (∀ q ∈ news, q ∈ nw) → (c, tupN p t1 t2 t3) ∈ nw → Fr h₀ L s'.heap m → News h₀ L s'.heap nw →
      (∀ r d tl h' tk', Fr h₀ L h' m → News h₀ L h' ((r, mN d p t1 t2 t3) :: (tl ++ nw)) → Q' (.ref r) { s' with heap := h', toks := tk' }) → wpAny (model prog w) A.in1.in1.in1 (call f [.ref c]) Q' NoE s')
    (h : ∀ S acc c nx h' tk', Fr h₀ L h' m → News h₀ L h' ((S, listOf acc.toArray c) :: nx) → (∀ p ∈ news, p ∈ nx) → (∀ p ∈ nx, p.1 ≠ S) → TM nx acc ps → Q (.ref S) { s with heap := h', toks := tk' }) :
    wpAny (model prog w) A (call (.type "list") [.ref M]) Q E s := by
  refine callType_codes (Q₁ := fun obj s₁ => obj = .ref s.heap.objs.size ∧ s₁ = { s with heap := s.heap.push { cls := .type "list", data := .seq #[] } }) PySem.F.called_list (PySem.F.typeCall_list_1 _) PySem.F.entry_list_init
    (code_list_new _ ⟨rfl, rfl⟩) fun obj s₁ h₁ => ?_
  obtain ⟨rfl, rfl⟩ := h₁
  have hS : (s.heap.push { cls := .type "list", data := .seq #[] }).get? s.heap.objs.size = some { cls := .type "list", data := .seq #[] } := Heap.get?_push_size _ rfl
  have F1 := F.push { cls := .type "list", data := .seq #[] }
  have N1 := News.push F N { cls := .type "list", data := .seq #[] }
  have hlt : ∀ p ∈ (M, mapObj t f) :: (t, tup1 (.ref it)) :: (it, liObj l 0) :: news, p.1 < s.heap.objs.size := fun p hp => Heap.lt_size (N p hp).1
  generalize hSd : s.heap.objs.size = S at *
  generalize (s.heap.push { cls := .type "list", data := .seq #[] }) = H at *
  refine ⟨⟨_, hS, rfl⟩, PySem.F.args_list_init_2 _ _, ?_⟩
  show wpAny _ A.in1.in1 (do let old ← Builtin.List.listItems (.ref S); Builtin.List.listUpdate (.ref S) (fun _ => #[]); letGo old.toList.reverse; Builtin.List.listExtendWith (.ref S) (.ref M) .none) _ _ _
  refine wpAny_bind ?_
  unfold Builtin.List.listItems
  refine wpAny_bind (wpAny_seqItems hS rfl (wpAny_pure ?_))
  show wpAny _ A.in1.in1 (updateSeq S (fun _ => #[]) >>= fun _ => letGo (#[] : Array Value).toList.reverse >>= fun _ => Builtin.List.listExtendWith (.ref S) (.ref M) .none) _ _ _
  have nS := N1 _ (.head _)
  have step1 : ∀ (H : Heap) (xs ys : Array Value) (c : Nat), Fr h₀ L H m → News h₀ L H ((S, listOf xs c) :: (M, mapObj t f) :: (t, tup1 (.ref it)) :: (it, liObj l 0) :: news) → ∃ c', Fr h₀ L (H.update S (Obj.mapSeq fun _ => ys)) m ∧ News h₀ L (H.update S (Obj.mapSeq fun _ => ys)) ((S, listOf ys c') :: (M, mapObj t f) :: (t, tup1 (.ref it)) :: (it, liObj l 0) :: news) := fun H xs ys c F N => by
    have hs := Heap.SameBut.update H S (Obj.mapSeq fun _ => ys)
    have z := N _ (.head _)
    refine ⟨if ys.size == xs.size then c else c + 1, kas_fr F hs z.2.1 z.2.2, fun p hp => ?_⟩
    rcases List.mem_cons.mp hp with rfl | hp
    · exact ⟨get?_update_seq (c := "list") z.1 fun _ => ys, z.2⟩
    · exact ⟨(hs.2 _ (Nat.ne_of_lt (hlt p hp))).trans (N _ (.tail _ hp)).1, (N _ (.tail _ hp)).2⟩
  obtain ⟨c1, F2, N2⟩ := step1 H #[] #[] 0 F1 N1
  refine wpAny_bind (wpAny_updateSeq nS.1 rfl ?_)
  generalize (H.update S (Obj.mapSeq fun _ => (#[] : Array Value))) = H2 at *
  refine wpAny_bind (wpAny_letGo ?_)
  unfold Builtin.List.listExtendWith
  have hT2 : ∀ {s' : Shared}, s'.heap = H2 → s'.TypeIs (.ref M) "map" := fun e => ⟨_, e ▸ (N2 _ (.tail _ (.head _))).1, rfl⟩
  refine wpAny_bind (wpAny_typeOf (T := "map") (hT2 rfl) ?_)
  have hSM : S ≠ M := Ne.symm (Nat.ne_of_lt (hlt _ (.head _)))
  have g1 : Builtin.List.listSameRef (.ref S) (.ref M) = false := by simp [Builtin.List.listSameRef, hSM]
  have g2 : (Value.type "map" == Value.type "list") = false := by decide
  have g3 : (Value.type "map" == Value.type "tuple") = false := by decide
  simp only [g1, g2, g3, Bool.or_false, Bool.false_eq_true, if_false]
  refine wpAny_bind (wpAny_pyIter_slot (hT2 rfl) mp_slot_iter (wpAny_call_entry mp_slot_iter (hT2 rfl) mp_entry_iter ?_ (mp_args_iter _)))
  show wpAny _ _ (ret (.ref M)) _ _ _
  refine wpAny_pure ⟨_, rfl, "map", _, hT2 rfl, mp_slot_next.lookup, ?_⟩
  refine wpAny_bind (wpAny_holding ?_)
  unfold Builtin.List.listLengthHint
  refine wpAny_bind (wpAny_specialOf (hT2 rfl) mp_no_len ?_)
  show wpAny _ _ (specialOf (Value.ref M) (Str.ofString "__length_hint__") >>= _) _ _ _
  refine wpAny_bind (wpAny_specialOf (hT2 rfl) mp_no_hint ?_)
  refine wpAny_pure ?_
  show wpAny _ _ (rule "list.extend.makes-room" >>= fun _ => Builtin.List.listTouch (.ref S) >>= fun _ =>
    again (.builtin "list.extend.loop" ⟨[.ref S, .ref M, .none], []⟩)) _ _ _
  refine wpAny_bind (wpAny_rule ?_)
  refine wpAny_bind ?_
  show wpAny _ _ (updateSeq S (·.push .none) >>= fun _ => updateSeq S (·.pop)) _ _ _
  have nS2 := N2 _ (.head _)
  refine wpAny_bind (wpAny_updateSeq nS2.1 rfl ?_)
  have hS₂ := Heap.get?_update_self (Obj.mapSeq (·.push Value.none)) nS2.1 rfl
  refine wpAny_updateSeq (hz := by seq_fits) hS₂ rfl ?_
  have hS₃ := Heap.get?_update_self (Obj.mapSeq (·.pop)) hS₂ rfl
  have hs3 : Heap.SameBut S H2 ((H2.update S (Obj.mapSeq (·.push Value.none))).update S (Obj.mapSeq (·.pop))) := (Heap.SameBut.update ..).trans (Heap.SameBut.update ..)
  generalize ((H2.update S (Obj.mapSeq (·.push Value.none))).update S (Obj.mapSeq (·.pop))) = H3 at *
  have F3 := kas_fr F2 hs3 nS2.2.1 nS2.2.2
  obtain ⟨c3, hc3⟩ : ∃ c3, H3.get? S = some (listOf ([] : List Value).toArray c3) := ⟨_, hS₃⟩
  have N3 : News h₀ L H3 ((S, listOf ([] : List Value).toArray c3) :: (it, liObj l 0) :: (M, mapObj t f) :: (t, tup1 (.ref it)) :: news) := fun p hp => by
    have go : ∀ q ∈ (M, mapObj t f) :: (t, tup1 (.ref it)) :: (it, liObj l 0) :: news, H3.get? q.1 = some q.2 ∧ q.1 ≠ L ∧ h₀.get? q.1 = none := fun q hq => ⟨(hs3.2 _ (Nat.ne_of_lt (hlt q hq))).trans (N2 _ (.tail _ hq)).1, (N2 _ (.tail _ hq)).2⟩
    rcases List.mem_cons.mp hp with rfl | hp
    · exact ⟨hc3, nS2.2⟩
    · rcases List.mem_cons.mp hp with rfl | hp
      · exact go _ (.tail _ (.tail _ (.head _)))
      · rcases List.mem_cons.mp hp with rfl | hp
        · exact go _ (.head _)
        · rcases List.mem_cons.mp hp with rfl | hp
          · exact go _ (.tail _ (.head _))
          · exact go _ (.tail _ (.tail _ (.tail _ hp)))
  have hoff : ∀ p ∈ (M, mapObj t f) :: (t, tup1 (.ref it)) :: news, p.1 ≠ S ∧ p.1 ≠ it := fun p hp => by
    refine ⟨Nat.ne_of_lt (hlt p ?_), ?_⟩
    · rcases List.mem_cons.mp hp with rfl | hp
      · exact .head _
      · rcases List.mem_cons.mp hp with rfl | hp
        · exact .tail _ (.head _)
        · exact .tail _ (.tail _ (.tail _ hp))
    · rcases List.mem_cons.mp hp with rfl | hp
      · exact Nat.ne_of_gt (Nat.lt_trans l2 l3)
      · rcases List.mem_cons.mp hp with rfl | hp
        · exact Nat.ne_of_gt l2
        · exact Nat.ne_of_lt (l1 p hp)
  refine wpAny_pure ⟨plainId_quiet PySem.F.plain_extend_loop _, map_loop (A := A.in1) (base := (M, mapObj t f) :: (t, tup1 (.ref it)) :: news) hh (.head _) (.tail _ (.head _)) (.tail _ (.tail _ hl)) (hT.mono fun p hp => .tail _ (.tail _ hp)) hz
    (fun s' nw c p t1 t2 t3 Q' hq hc F' N' k => step s' nw c p t1 t2 t3 Q' (fun q h => hq q (.tail _ (.tail _ h))) (hq _ hc) F' N' k) ps.length 0 _ [] c3 (liObj l 0) _ (Nat.sub_zero _) (Nat.zero_le _) F3 N3 rfl rfl (fun p hp => hp) hoff (Ne.symm (Nat.ne_of_lt (hlt _ (.tail _ (.tail _ (.head _)))))) TM.nil
    fun acc c nx h' tk' F' N' hb ho hTM => ⟨rfl, h S acc c nx h' tk' F' N' (fun p hp => hb p (.tail _ (.tail _ hp))) ho hTM⟩⟩
end
end
section
open PySem PySem.W PyProof.Rows PySem.Calls
set_option Elab.async false
set_option maxRecDepth 100000
set_option maxHeartbeats 4000000
section
variable {prog : Program} {w : World} {A : Around} {E : Value → Shared → Prop} {s : Shared}
theorem csp {M : Model} {self : Value} {args : List Value} {name : PySem.Str} {id : String} {Q : Option Value → Shared → Prop} (l : Looks M s.heap (specialOf self name) (some (.builtin id))) (b : bindSpecial (.builtin id) self = pure (.builtin id, [self]))
    (hc : wpAny M A (call (.builtin id) (self :: args)) (fun v => Q (some v)) E s) : wpAny M A (callSpecial? self name args) Q E s := by
  simp only [callSpecial?]
  refine wpAny_bind (l.here ?_)
  simp only [b]
  exact wpAny_holding (wpAny_bind (wpAny_pure (wpAny_bind (wpAny_mono hc (fun v s' h' => wpAny_pure h') fun _ _ h' => h'))))
theorem m_lookup_len {h : Heap} (X : (K w.params).In h) : Looks (model prog w) h (typeLookup (.ref 135) "__len__") (some (.builtin "tuple.__len__")) := by
  have fill : K = K ∧ PySem.Challenge.rw_xe0001_01 = PySem.Challenge.rw_xe0001_01 := by (k_fill; exact ⟨rfl, rfl⟩)
  clear fill
  exact looks_findIn X (by k_is)
theorem m_lookup_getitem {h : Heap} (X : (K w.params).In h) : Looks (model prog w) h (typeLookup (.ref 135) "__getitem__") (some (.builtin "tuple.__getitem__")) := by
  have fill : K = K ∧ PySem.Challenge.rw_xe0001_01 = PySem.Challenge.rw_xe0001_01 := by (k_fill; exact ⟨rfl, rfl⟩)
  clear fill
  exact looks_findIn X (by k_is)
theorem len_match {h₀ : Heap} {L : Addr} {m : PySem.Str → Option Value} {news : List (Addr × Obj)} {r d : Addr} {items : Array Value} {Q : Value → Shared → Prop} (F : Fr h₀ L s.heap m) (X₀ : (K w.params).In h₀) (N : News h₀ L s.heap news) (hr : (r, mObj d items) ∈ news) (hz : items.size ≤ 1000)
    (h : Q (.int ((items.size : Nat) : Int) (s.toks + 1)) { s with toks := s.toks + 1 + 1 }) : wpAny (model prog w) A (call (.builtin "len") [.ref r]) Q E s := by
  have X := X₀.keeps F.keep
  have ho := (N _ hr).1
  have i1 := m_sub (prog := prog) X ho rfl
  have sp : Looks (model prog w) s.heap (specialOf (.ref r) "__len__") (some (.builtin "tuple.__len__")) := (m_type (prog := prog) (w := w) ho rfl).andThen (m_lookup_len (prog := prog) X)
  refine Calls.call_function_entry kind_len plain_len entry_len (args_len1 _) ?_
  unfold Builtin.«len»
  refine wpAny_bind (m := oneArg "len" _) (wpAny_pure ?_)
  refine wpAny_bind (m := callSpecial? (.ref r) (Str.ofString "__len__")) (csp sp (PySem.F.slot_tuple_len.bind (.ref r)) ?_)
  refine wpAny_call (codeAny_call_builtin (by decide +kernel) PySem.F.entry_tuple_len (@check_slot (model prog w) _ _ _ "tuple.__len__" "tuple" "__len__" (.ref r) [] [] _ (by decide +kernel) (by decide +kernel) i1 (PySem.F.args_tuple_len_1 _) ?_))
  unfold Builtin.«tuple.__len__»
  refine wpAny_bind (wpAny_of_eq (a := (Value.ref r, [])) rfl ?_)
  dsimp only
  refine wpAny_bind (wpAny_tupleItemsOf ho rfl ?_)
  refine wpAny_bind (wpAny_mkInt (wpAny_pure ?_))
  refine wpAny_bind (wpAny_holding (wpAny_pure ?_))
  refine wpAny_bind (wpAny_letGo ?_)
  show wpAny _ _ (if ((items.size : Nat) : Int) < 0 then _ else _) _ _ _
  rw [if_neg (by (first | lia | omega))]
  show wpAny _ _ (if ((items.size : Nat) : Int) ≥ 2 ^ 63 then _ else _) _ _ _
  rw [if_neg (by (first | lia | omega))]
  exact wpAny_bind (wpAny_mkInt (wpAny_pure ⟨_, rfl, h⟩))
end
end
section
open PySem PySem.W PyProof.Rows PySem.Calls
set_option Elab.async false
set_option maxRecDepth 100000
set_option maxHeartbeats 4000000
section
variable {prog : Program} {w : World} {A : Around} {E : Value → Shared → Prop} {s : Shared}
theorem m_noseq {h : Heap} {M : Model} (X : (K w.params).In h) : Looks M h (seqItemTypes.anyM fun n => isSubtype (.ref 135) (.type n)) false := by
  have fill : K = K ∧ PySem.Challenge.rw_xe0001_01 = PySem.Challenge.rw_xe0001_01 := by (k_fill; exact ⟨rfl, rfl⟩)
  clear fill
  exact anyM_none X (show noSeq (K w.params) 135 = true by k_is)
theorem m_getItem {r : Addr} {o : Obj} {items : Array Value} {n : Nat} {k : Int} {u : Tok} {j : Nat} {x : Value} {Q : Value → Shared → Prop} (X : (K w.params).In s.heap) (hr : s.heap.get? r = some o) (hc : o.cls = .ref 135) (hd : o.data = .seq items n)
    (hlo : -(2 ^ 63) ≤ k) (hhi : k < 2 ^ 63) (hj : seqIndex? k items.size = some j) (hx : items[j]? = some x) (h : Q x s) : wpAny (model prog w) A (getItem (.ref r) (.int k u)) Q E s := by
  have t1 := m_type (prog := prog) (w := w) hr hc
  have i1 := m_sub (prog := prog) X hr hc
  have sp : Looks (model prog w) s.heap (specialOf (.ref r) "__getitem__") (some (.builtin "tuple.__getitem__")) := t1.andThen (m_lookup_getitem (prog := prog) X)
  unfold getItem sequenceKey
  refine wpAny_holding (wpAny_bind (wpAny_bind (t1.here ?_)))
  refine wpAny_bind ((m_noseq X).here ?_)
  rw [if_pos (show (!false) = true from rfl)]
  refine wpAny_pure (wpAny_bind (csp sp (slot_tuple_getitem.bind (.ref r)) ?_))
  refine wpAny_call (codeAny_call_builtin (by decide +kernel) entry_tuple_getitem (@check_slot (model prog w) _ _ _ "tuple.__getitem__" "tuple" "__getitem__" (.ref r) [.int k u] [] _ (by decide +kernel) (by decide +kernel) i1 (args_tuple_getitem _ _) ?_))
  show wpAny _ _ (Builtin.Tuple.tupleItemsOf (.ref r) >>= _) _ _ s
  refine wpAny_bind (wpAny_tupleItemsOf hr hd ?_)
  refine wpAny_bind (wpAny_typeOf (typeIs_int s k u) ?_)
  rw [if_neg (by decide)]
  refine wpAny_bind (wpAny_specialOf (T := "int") (typeIs_int s k u) int_index ?_)
  rw [if_neg (by simp)]
  refine wpAny_bind (wpAny_of_eq (a := k) rfl ?_)
  rw [if_neg (by simp only [Bool.or_eq_true, decide_eq_true_eq]; (first | lia | omega))]
  simp only [hj, Option.bind_some, hx]
  exact wpAny_pure (wpAny_pure h)
end
end
section
open PySem PySem.W PyProof.Rows PySem.Calls
set_option Elab.async false
set_option maxRecDepth 100000
set_option maxHeartbeats 4000000
section
variable {prog : Program} {w : World} {A : Around} {E : Value → Shared → Prop} {s : Shared}
theorem m_subTail {value slice : PySem.Expr} {r : Addr} {o : Obj} {items : Array Value} {n : Nat} {k : Int} {u : Tok} {j : Nat} {x : Value} {Q : Value → Shared → Prop} (X : (K w.params).In s.heap) (hr : s.heap.get? r = some o) (hc : o.cls = .ref 135) (hd : o.data = .seq items n)
    (hlo : -(2 ^ 63) ≤ k) (hhi : k < 2 ^ 63) (hj : seqIndex? k items.size = some j) (hx : items[j]? = some x) (h : Q x s)
    (hs : subscripted slice false (.ref r) (.int k u) = operate [.ref r, .int k u] (getItem (.ref r) (.int k u)) := by with_unfolding_all rfl) (ht : ∀ y, letTemporaryGo value (.ref r) y = pure () := by intro _; with_unfolding_all rfl) :
    wpAny (model prog w) A (subscriptTail value slice (.ref r) (.int k u)) Q E s := by
  have sp : Looks (model prog w) s.heap (specialOf (.ref r) "__getitem__") (some (.builtin "tuple.__getitem__")) := (m_type (prog := prog) (w := w) hr hc).andThen (m_lookup_getitem (prog := prog) X)
  unfold subscriptTail
  refine wpAny_bind ?_
  rw [getitemInPython_of_ne (o := Value.ref r) (by intro e; cases e)]
  refine wpAny_bind (sp.here ?_)
  have fin : wpAny (model prog w) A (subscripted slice false (.ref r) (.int k u)) (fun y s₃ => wpAny (model prog w) A (letTemporaryGo value (.ref r) y >>= fun _ => pure y) Q E s₃) E s := by
    rw [hs]
    exact wpAny_operating (wpAny_mono (m_getItem X hr hc hd hlo hhi hj hx h) (fun y s₃ h₃ => wpAny_bind (wpAny_of_eq (ht y) (wpAny_pure h₃))) fun _ _ x => x)
  first
    | exact wpAny_pure (wpAny_bind fin)
    | exact wpAny_bind (wpAny_pure (wpAny_bind fin))
    | exact wpAny_bind fin
theorem code_any {env : Env} {c P : Addr} {ps : Array Value} {pos : Pos} {qualname : PySem.Str} {scope : Scope} {Q : Value → Shared → Prop} (hc : env.code = .ref c) (C : CodeHd s.heap c P) (hP : s.heap.get? P = some (tabObj ps)) (ht : TriplesOk ps.toList)
    (hQ : ∀ code h' tk ps', Heap.ExtBut P s.heap h' → s.heap.objs.size ≤ h'.objs.size → h'.get? P = some (tabObj ps') → TriplesOk ps'.toList → Q code { s with heap := h', toks := tk }) :
    wpAny (model prog w) A (genexprCode env pos qualname scope) Q E s := by
  cases hf : codeAmong pos ps.toList with
  | some c' => exact wpAny_genexprCode_hit hc (C.code hP ht) hf (hQ c' s.heap s.toks ps (Heap.ExtBut.refl _ _) (Nat.le_refl _) hP ht)
  | none =>
    refine wpAny_genexprCodeX hc (C.code hP ht) (C.tab hP) hf fun c' h' tk hx h1 h2 hcode _ htab _ => ?_
    obtain ⟨_, _, _, _, _, _, _, _, _, _, _, _, _, _, _, _, _, _, _, htr, _⟩ := hcode
    exact hQ _ h' tk _ hx (Nat.le_trans h1 (Nat.le_of_lt h2)) htab.2 htr
theorem passing_all (n : Nat) : passing (fun _ => true) n 0 = List.range n := by simp [passing]
theorem gen_sizes {env : Env} {iter : PySem.Expr} {x : PySem.Str} {px p1 p2 p3 p4 pos : Pos} {scope : Scope} {cl : List (PySem.Str × Addr)} {h₀ : Heap} {L l : Addr} {m mg mb : PySem.Str → Option Value} {mean : ExcName → Option Value} {rest : List (Addr × Obj)} {ps : Array Value} {vs : List Value} {bl : List NNN} {n k0 : Nat} {Q : Value → Shared → Prop}
    (hh : A.handled = none) (hco : scope.isCoroutine = false) (hclos : closureFor scope env = pure cl) (hcell : ∀ y ∈ scope.names, y.2 ≠ .cell) (h0 : scope.names.lookup (".0" : PySem.Str) = some NameKind.local)
    (hx : scope.names.lookup x = some .local) (hkind : scope.kind = .function) (hroom : A.depth < recursionLimit) (hcode : env.code = .ref 224) (hgl : env.globals = mainGlobals) (hdbg : (x == ("__debug__" : PySem.Str)) = false)
    (hlk : ∀ C code, (genEnv scope cl C code builtinsNs env).kindOf x = some .local)
    (F : Fr h₀ L s.heap m) (X₀ : (K w.params).In h₀) (T : Top topProg LQ mean mg mb h₀) (N : News h₀ L s.heap ((220, tabObj ps) :: rest)) (hoff : ∀ p ∈ rest, p.1 ≠ 220) (htr : TriplesOk ps.toList) (C : CodeHd h₀ 224 220) (hG : AllBare s.gens)
    (hl : (l, listOf vs.toArray n) ∈ rest) (hTM : TM rest vs bl)
    (hiter : wpAny (model prog w) A (eval iter env) (fun xv s₁ => xv = .ref l ∧ ∃ h' tk', s₁ = { s with heap := h', toks := tk' } ∧ Fr h₀ L h' m ∧ News h₀ L h' ((220, tabObj ps) :: rest)) E s)
    (hfold : ∀ x, genFold iter env x = pure x)
    (hQ : ∀ a h₅ gs tk ps' Kb, Fr h₀ L h₅ m → News h₀ L h₅ ((220, tabObj ps') :: rest) → TriplesOk ps'.toList → AllBare gs → (∀ p ∈ (220, tabObj ps') :: rest, p.1 ≤ Kb) → L ≤ Kb →
      Gen prog w A Kb a bl.length (fun j y => ∃ p t, bl[j]? = some p ∧ y = .int ((p.2.2 : Nat) : Int) t) { s with heap := h₅, gens := gs, toks := tk } → Q (.ref a) { s with heap := h₅, gens := gs, toks := tk }) :
    wpAny (model prog w) A (eval (.GeneratorExp (.Subscript (.Name x p1) (.UnaryOp .USub (.Constant (.int 1) k0 p2) p3) p4) [⟨.Name x px, iter, [], 0⟩] scope pos) env) Q E s := by
  obtain ⟨bm, ob, M⟩ := bmod_of_top T
  refine wpAny_GeneratorExp_walksQ hh hco hclos hcell h0 hx hkind hroom (wpAny_mono hiter (fun xv s₁ h₁ => ?_) fun _ _ e => e) hfold
  obtain ⟨rfl, h', tk', rfl, F₁, N₁⟩ := h₁
  clear F N hiter
  have n220 := N₁ (220, tabObj ps) (.head _)
  have hlo := N₁ _ (.tail _ hl)
  have hLs : L < h'.objs.size := F₁.ns.lt
  have hbig : ∀ p ∈ (220, tabObj ps) :: rest, p.1 < h'.objs.size := fun p hp => Heap.lt_size (N₁ p hp).1
  refine wpAny_pyIter_list ⟨_, hlo.1, rfl, n, rfl⟩ ?_
  have F₂ := F₁.push (liObj l 0)
  have N₂ : News h₀ L (h'.push (liObj l 0)) ((220, tabObj ps) :: rest) := fun p hp => ⟨Heap.get?_push_of_some _ (N₁ p hp).1, (N₁ p hp).2⟩
  have hne : l ≠ h'.objs.size := Nat.ne_of_lt (hbig _ (.tail _ hl))
  refine ⟨T.nolimit.keeps F₂.keep, ?_⟩
  refine code_any hcode (C.keeps F₂.keep) (N₂ _ (.head _)).1 htr fun code h₃ tk₃ ps' hx₃ hsz₃ hP₃ ht₃ => ?_
  have F₃ : Fr h₀ L h₃ m := ⟨F₂.ns.at' fun o e => hx₃ _ o (Ne.symm n220.2.1) e, fun b o e => hx₃ b o (fun q => by rw [q] at e; have := n220.2.2; simp only at this; rw [this] at e; cases e) (F₂.keep b o e), F₂.above⟩
  have N₃ : News h₀ L h₃ ((220, tabObj ps') :: rest) := fun p hp => by
    rcases List.mem_cons.mp hp with rfl | hp
    · exact ⟨hP₃, n220.2⟩
    · exact ⟨hx₃ _ _ (hoff p hp) (N₂ p (.tail _ hp)).1, (N₂ p (.tail _ hp)).2⟩
  have hsz4 : h'.objs.size < h₃.objs.size := Nat.lt_of_lt_of_le (by show h'.objs.size < (h'.push _).objs.size; rw [Heap.size_push]; exact Nat.lt_succ_self _) hsz₃
  rw [hgl]
  refine wpAny_builtinsFor (M.ns.keeps F₃.keep) M.name M.ne (F₃.keep _ _ M.obj) M.cls M.dict M.data ?_
  have hcs : cStatics < h'.objs.size := let ⟨_, hn, _⟩ := T.nolimit.keeps F₁.keep; hn.lt
  have hlen := hTM.length
  refine ⟨h'.objs.size, [h'.objs.size, l], [h'.objs.size], vs.toArray.size, fun i v => vs.toArray[i]? = some v, fun i h => Heap.IsListIter h h'.objs.size l i ∧ Heap.IsList h l vs.toArray, fun _ => true, fun i y => ∃ p t, bl[i]? = some p ∧ y = .int ((p.2.2 : Nat) : Int) t, rfl,
    fun A' hA => Walks.list hA _ _ hne vs.toArray, ⟨⟨_, hx₃ _ _ (Nat.ne_of_gt (hbig _ (.head _))) (Heap.get?_push_size _ rfl), rfl, rfl⟩, ⟨_, (N₃ _ (.tail _ hl)).1, rfl, n, rfl⟩⟩, ?_, T.nolimit.keeps F₃.keep, ?_, ?_, ?_⟩
  · intro b hb
    rcases List.mem_cons.mp hb with rfl | hb
    · exact hsz4
    · rw [List.mem_singleton.mp hb]; exact Nat.lt_trans (hbig _ (.tail _ hl)) hsz4
  · intro hm
    exact Nat.ne_of_lt hcs (List.mem_singleton.mp hm)
  · intro href hhref
    refine ⟨fun A' E' i v s₂ m₂ _ _ _ _ _ => ?_, fun A' E' i v s₂ m₂ hA hP _ hn hm2 hk => ?_⟩
    · rw [List.forIn_nil]; exact wpAny_pure ⟨rfl, ⟨_, _, rfl, fun _ _ e => e⟩⟩
    · have keep : ∀ b o, b ≠ h'.objs.size → h₃.get? b = some o → s₂.heap.get? b = some o := fun b o hb e => hk b (List.mem_range.mpr (Heap.lt_size e)) (fun q => hb (List.mem_singleton.mp q)) o (hhref _ _ e)
      have X₂ : (K w.params).In s₂.heap := fun b o e => keep b o (Nat.ne_of_lt (Nat.lt_trans (Nat.lt_of_lt_of_le (Heap.lt_size (X₀ b o e)) F₁.above) hLs)) (F₃.keep _ _ (X₀ b o e))
      obtain ⟨p, c, d, t1, t2, t3, hp, rfl, hc⟩ := hTM.get (i := i) (v := v) (by simpa using hP)
      have hc2 := keep c _ (Nat.ne_of_lt (hbig _ (.tail _ hc))) (N₃ _ (.tail _ hc)).1
      refine Subscript_ ?_
      refine wpAny_Name (wpAny_loadName_local hkind (hlk _ _) hn hm2 ?_) hdbg
      refine UnaryOp_ ?_
      refine wpAny_Constant_int ?_
      refine neg_int ?_
      exact m_subTail (j := 2) X₂ hc2 rfl rfl (by decide) (by decide) rfl rfl ⟨⟨p, t3, hp, rfl⟩, ⟨_, _, rfl, fun _ _ e => e⟩⟩
  · intro a h₅ tk gs hgb hag hsz₅ hk₅ W hat
    have F₅ : Fr h₀ L h₅ m := Fr_grow F₃ hk₅
    have N₅ := News_grow N₃ hk₅
    have hKb : L ≤ h'.objs.size - 1 := Nat.le_sub_one_of_lt hLs
    refine hQ a h₅ (s.gens.push gs) tk ps' (h'.objs.size - 1) F₅ N₅ ht₃ (hG.push hgb) (fun p hp => ?_) hKb ?_
    · rcases List.mem_cons.mp hp with rfl | hp
      · exact Nat.le_sub_one_of_lt (hbig (220, tabObj ps) (.head _))
      · exact Nat.le_sub_one_of_lt (hbig _ (.tail _ hp))
    · have G : Gen prog w A (h'.objs.size - 1) a (passing (fun _ => true) vs.toArray.size 0).length (fun j y => ∃ i, (passing (fun _ => true) vs.toArray.size 0)[j]? = some i ∧ ∃ p t, bl[i]? = some p ∧ y = .int ((p.2.2 : Nat) : Int) t) { s with heap := h₅, gens := s.gens.push gs, toks := tk } := by
        refine ⟨_, _, _, _, W, hat, (fun i s' st => st.1.typeIs), List.mem_cons_self, ?_, ?_⟩
        · intro b hb
          show b < h₅.objs.size
          rw [hsz₅]
          rcases List.mem_cons.mp hb with rfl | hb
          · exact Nat.lt_succ_self _
          · rcases List.mem_cons.mp hb with rfl | hb
            · exact Nat.lt_succ_of_lt hag
            · exact Nat.lt_succ_of_lt (Nat.lt_trans (List.mem_range.mp hb) hag)
        · intro b hb
          rcases List.mem_cons.mp hb with rfl | hb
          · exact Nat.lt_of_le_of_lt (Nat.sub_le _ _) hsz4
          · rw [List.mem_singleton.mp hb]; exact Nat.sub_lt (Nat.lt_of_le_of_lt (Nat.zero_le _) hLs) Nat.one_pos
      rw [passing_all, List.length_range, show vs.toArray.size = bl.length from hlen] at G
      refine G.imp fun j y hy => ?_
      obtain ⟨i, hi, hp⟩ := hy
      have : i = j := by
        obtain ⟨hl, e⟩ := List.getElem?_eq_some_iff.mp hi
        simpa using e.symm
      subst this
      exact hp
theorem sum_sizes {a Kb : Addr} {bl : List NNN} {h₀ : Heap} {L : Addr} {m : PySem.Str → Option Value} {news : List (Addr × Obj)} {Q : Value → Shared → Prop} (F : Fr h₀ L s.heap m) (N : News h₀ L s.heap news) (hG : AllBare s.gens) (hKb : ∀ p ∈ news, p.1 ≤ Kb) (hL : L ≤ Kb)
    (X : Gen prog w A Kb a bl.length (fun j y => ∃ p t, bl[j]? = some p ∧ y = .int ((p.2.2 : Nat) : Int) t) s)
    (h : ∀ h' gs tk t', Fr h₀ L h' m → News h₀ L h' news → AllBare gs → Q (.int ((szs bl : Nat) : Int) t') { s with heap := h', gens := gs, toks := tk }) :
    wpAny (model prog w) A (call (.builtin "sum") [.ref a]) Q E s := by
  obtain ⟨fp, wr, g, St, W, hst, _, _, hfp, hwr⟩ := X
  have W := W.in4_1
  refine call_sum_walkAnyS (W.self 0 _ _ _ hst ⟨a, _, _, _, _, _, _, (fun j => (((bl.getD j (0, 0, 0)).2.2 : Nat) : Int)), rfl, W, hst, hfp, ?_, fun s' t' hm => ?_⟩)
  · rintro j v ⟨p, t, hp, rfl⟩
    refine ⟨t, ?_⟩
    simp only [List.getD_eq_getElem?_getD, hp, Option.getD_some]
  · have e : ∀ k, k ≤ bl.length → preSum (fun j => (((bl.getD j (0, 0, 0)).2.2 : Nat) : Int)) k = ((szs (bl.take k) : Nat) : Int) := by
      intro k
      induction k with
      | zero => intro _; rfl
      | succ k ih =>
        intro hk
        have hlt : k < bl.length := by (first | lia | omega)
        rw [preSum, ih (by (first | lia | omega)), List.take_add_one, szs_append]
        simp only [List.getD_eq_getElem?_getD, List.getElem?_eq_getElem hlt, Option.getD_some, Option.toList_some, szs, List.map_cons, List.map_nil, List.sum_cons, List.sum_nil, Nat.add_zero]
        push_cast; rfl
    rw [e bl.length (Nat.le_refl _), List.take_length]
    have keep : ∀ b o, b ≤ Kb → s.heap.get? b = some o → s'.heap.get? b = some o := fun b o hb e => hm.heap b o (fun hmem => Nat.lt_irrefl _ (Nat.lt_of_lt_of_le (hwr b hmem) hb)) e
    have F' : Fr h₀ L s'.heap m := F.moved hm fun b hb => Nat.lt_of_le_of_lt hL (hwr b hb)
    have hs' : s' = { s with heap := s'.heap, gens := s'.gens, toks := s'.toks } := by
      obtain ⟨h', g', d', tk', os'⟩ := s'
      have e1 : d' = s.drawn := hm.drawn
      have e2 : os' = s.os := hm.os
      subst e1 e2
      rfl
    rw [hs']
    exact h _ _ _ t' F' (fun p hp => ⟨keep _ _ (hKb p hp) (N p hp).1, (N p hp).2⟩) (hG.movedS hm)
end
end
section
open PySem PySem.W PyProof.Rows PySem.Calls
set_option Elab.async false
set_option maxRecDepth 100000
set_option maxHeartbeats 4000000
section
variable {prog : Program} {w : World} {A : Around} {E : Value → Shared → Prop} {s : Shared}
theorem len_match' {r d : Addr} {items : Array Value} {Q : Value → Shared → Prop} (X : (K w.params).In s.heap) (ho : s.heap.get? r = some (mObj d items)) (hz : items.size ≤ 1000)
    (h : Q (.int ((items.size : Nat) : Int) (s.toks + 1)) { s with toks := s.toks + 1 + 1 }) : wpAny (model prog w) A (call (.builtin "len") [.ref r]) Q E s := by
  have i1 := m_sub (prog := prog) X ho rfl
  have sp : Looks (model prog w) s.heap (specialOf (.ref r) "__len__") (some (.builtin "tuple.__len__")) := (m_type (prog := prog) (w := w) ho rfl).andThen (m_lookup_len (prog := prog) X)
  refine Calls.call_function_entry kind_len plain_len entry_len (args_len1 _) ?_
  unfold Builtin.«len»
  refine wpAny_bind (m := oneArg "len" _) (wpAny_pure ?_)
  refine wpAny_bind (m := callSpecial? (.ref r) (Str.ofString "__len__")) (csp sp (PySem.F.slot_tuple_len.bind (.ref r)) ?_)
  refine wpAny_call (codeAny_call_builtin (by decide +kernel) PySem.F.entry_tuple_len (@check_slot (model prog w) _ _ _ "tuple.__len__" "tuple" "__len__" (.ref r) [] [] _ (by decide +kernel) (by decide +kernel) i1 (PySem.F.args_tuple_len_1 _) ?_))
  unfold Builtin.«tuple.__len__»
  refine wpAny_bind (wpAny_of_eq (a := (Value.ref r, [])) rfl ?_)
  dsimp only
  refine wpAny_bind (wpAny_tupleItemsOf ho rfl ?_)
  refine wpAny_bind (wpAny_mkInt (wpAny_pure ?_))
  refine wpAny_bind (wpAny_holding (wpAny_pure ?_))
  refine wpAny_bind (wpAny_letGo ?_)
  show wpAny _ _ (if ((items.size : Nat) : Int) < 0 then _ else _) _ _ _
  rw [if_neg (by (first | lia | omega))]
  show wpAny _ _ (if ((items.size : Nat) : Int) ≥ 2 ^ 63 then _ else _) _ _ _
  rw [if_neg (by (first | lia | omega))]
  exact wpAny_bind (wpAny_mkInt (wpAny_pure ⟨_, rfl, h⟩))
/-- one after the other into a list -/
theorem m_extend {S I r : Addr} {items : Array Value} {R : Result → Shared → Prop} {res : Value} (hh : A.handled = none) (hSI : S ≠ I) (hrS : r ≠ S) (hrI : r ≠ I) (hsz : items.size ≤ 1000) :
    ∀ (k i : Nat) (s : Shared) (acc : Array Value) (c : Nat), items.size - i = k → i ≤ items.size → s.heap.IsTupleIter I r i → IsSeq s.heap r items → s.heap.get? S = some { cls := .type "list", dict := none, data := .seq acc c, slots := #[] } → acc.toList = items.toList.take i →
    (∀ h' acc' c', (∀ b o, b ≠ S → b ≠ I → s.heap.get? b = some o → h'.get? b = some o) → h'.get? S = some { cls := .type "list", dict := none, data := .seq acc' c', slots := #[] } → acc'.toList = items.toList → R (.ok (.ret res)) { s with heap := h' }) →
    codeAny (model prog w) A (.builtin "list.extend.loop" ⟨[.ref S, .ref I, res], []⟩) R s := by
  intro k
  induction k with
  | zero =>
    intro i s acc c hk hi hit ht hS hacc hR
    have hin : i = items.size := by (first | lia | omega)
    subst hin
    refine codeAny_builtin F.entry_extend_loop ?_
    rw [Around.under_plainId F.plain_extend_loop _]
    show wpAny _ A.in1 (pyNext (.ref I) >>= _) _ _ s
    refine wpAny_bind (seq_end hh hit ht (by simp) fun h' he => ?_)
    exact wpAny_pure (hR h' acc c (fun b o _ hb e => he b o hb e) (he S _ hSI hS) (by rw [hacc]; exact List.take_of_length_le (by simp)))
  | succ k ih =>
    intro i s acc c hk hi hit ht hS hacc hR
    have hlt : i < items.size := by (first | lia | omega)
    have hal : acc.size = i := by rw [← Array.length_toList, hacc]; simp; (first | lia | omega)
    refine codeAny_builtin F.entry_extend_loop ?_
    rw [Around.under_plainId F.plain_extend_loop _]
    show wpAny _ A.in1 (pyNext (.ref I) >>= _) _ _ s
    refine wpAny_bind (seq_next hit ht (x := items[i]) (by simp [hlt]) fun h₁ hit₁ hs₁ => ?_)
    have hS' := hs₁.extBut S _ hSI hS
    have ht' := ht.extBut hs₁.extBut hrI
    show wpAny _ A.in1 (updateSeq S (·.push items[i]) >>= _) _ _ _
    refine wpAny_bind ?_
    refine wpAny_updateSeq hS' rfl (wpAny_pure ⟨plainId_quiet F.plain_extend_loop _, ih (i + 1) _ (acc.push items[i]) _ (by (first | lia | omega)) hlt ?_ ?_ (Heap.get?_update_self _ hS' rfl) ?_ fun h'' acc' c' hk'' hS'' hacc' => ?_⟩)
      (by show acc.size ≤ sizeLine; simp only [sizeLine]; (first | lia | omega)) (by show (acc.push items[i]).size ≤ sizeLine + 1; rw [Array.size_push]; simp only [sizeLine]; (first | lia | omega))
    · obtain ⟨o, ho, r'⟩ := hit₁
      exact ⟨o, (Heap.get?_update_other _ _ hSI).trans ho, r'⟩
    · obtain ⟨o, ho, r'⟩ := ht'
      exact ⟨o, (Heap.get?_update_other _ _ (Ne.symm hrS)).trans ho, r'⟩
    · rw [Array.toList_push, hacc, List.take_add_one]; simp [hlt]
    · refine hR h'' acc' c' (fun b o hbS hbI e => hk'' b o hbS hbI ?_) hS'' hacc'
      exact (Heap.get?_update_other _ _ (Ne.symm hbS)).trans (hs₁.extBut b o hbI e)
theorem m_hint {r d : Addr} {items : Array Value} {Q : Bool → Shared → Prop} (X : (K w.params).In s.heap) (ho : s.heap.get? r = some (mObj d items)) (hz : items.size ≤ 1000) (hz0 : items.size ≠ 0)
    (h : Q true { s with toks := s.toks + 1 + 1 }) : wpAny (model prog w) A (Builtin.List.listLengthHint (.ref r)) Q E s := by
  have i1 := m_sub (prog := prog) X ho rfl
  have t1 := m_type (prog := prog) (w := w) ho rfl
  have sp : Looks (model prog w) s.heap (specialOf (.ref r) "__len__") (some (.builtin "tuple.__len__")) := t1.andThen (m_lookup_len (prog := prog) X)
  unfold Builtin.List.listLengthHint
  refine wpAny_bind (sp.here ?_)
  refine wpAny_mono (Q := Q) (E := E) ?_ (fun _ _ h => h) (fun _ _ h => h)
  show wpAny _ _ (isInstance (.ref r) (.type "tuple") >>= _) _ _ _
  refine wpAny_bind (i1.here ?_)
  refine wpAny_mono (Q := Q) (E := E) ?_ (fun _ _ h => h) (fun _ _ h => h)
  show wpAny _ _ (typeOf (.ref r) >>= _) _ _ _
  refine wpAny_bind (t1.here ?_)
  dsimp only
  refine wpAny_bind (len_match' X ho hz ?_)
  refine wpAny_bind (wpAny_of_eq (a := some ((items.size : Nat) : Int)) (by rfl) ?_)
  dsimp only
  refine wpAny_pure ?_
  rw [show (((items.size : Nat) : Int) != 0) = true by simpa using (by (first | lia | omega) : ¬ ((items.size : Nat) : Int) = 0)]
  exact h
theorem m_collect {r d : Addr} {items : Array Value} {Q : List Value → Shared → Prop} (hh : A.handled = none) (X : (K w.params).In s.heap) (ho : s.heap.get? r = some (mObj d items)) (hz : items.size ≤ 1000) (hz0 : items.size ≠ 0)
    (hQ : ∀ h' tk', (∀ b o', s.heap.get? b = some o' → h'.get? b = some o') → Q items.toList { s with heap := h', toks := tk' }) : wpAny (model prog w) A (collect (.ref r)) Q E s := by
  unfold collect
  refine wpAny_bind (wpAny_runValue (codeAny_builtin F.entry_proto_collect ?_))
  rw [Around.under_plainId F.plain_proto_collect _]
  show wpAny _ A.in1 (newList [] >>= fun l => again (.builtin "list.__iadd__" ⟨[l, .ref r], []⟩)) _ _ s
  refine wpAny_bind (wpAny_newObj_type ?_)
  refine wpAny_pure ⟨plainId_quiet F.plain_list_iadd _, codeAny_builtin F.entry_list_iadd ?_⟩
  rw [Around.under_plainId F.plain_list_iadd _]
  generalize hH : s.heap.push { cls := .type "list", data := .seq ([] : List Value).toArray } = H1
  have k1 : ∀ b o, s.heap.get? b = some o → H1.get? b = some o := fun b o e => hH ▸ Heap.get?_push_of_some _ e
  have hS : H1.get? s.heap.objs.size = some { cls := .type "list", data := .seq #[] 0 } := hH ▸ Heap.get?_push_size _ rfl
  have X1 := X.keeps k1
  have ho1 := k1 _ _ ho
  have hlt : r < s.heap.objs.size := Heap.lt_size ho
  have hs1 : H1.objs.size = s.heap.objs.size + 1 := by rw [← hH, Heap.size_push]
  have hne : r ≠ s.heap.objs.size := Nat.ne_of_lt hlt
  have hSI : s.heap.objs.size ≠ H1.objs.size := by rw [hs1]; exact Nat.ne_of_lt (Nat.lt_succ_self _)
  have hrI : r ≠ H1.objs.size := by rw [hs1]; exact Nat.ne_of_lt (Nat.lt_succ_of_lt hlt)
  show wpAny _ A.in1 (Builtin.List.listExtendWith (.ref s.heap.objs.size) (.ref r) (.ref s.heap.objs.size)) _ _ _
  unfold Builtin.List.listExtendWith
  refine wpAny_bind ((m_type (prog := prog) (w := w) ho1 rfl) _ _ _ { s with heap := H1 } (fun _ _ e => e) ?_)
  have h1 : Builtin.List.listSameRef (.ref s.heap.objs.size) (.ref r) = false := by show (s.heap.objs.size == r) = false; exact beq_false_of_ne (Ne.symm hne)
  have h2 : (Value.ref 135 == Value.type "list") = false := by decide
  have h3 : (Value.ref 135 == Value.type "tuple") = false := by decide
  simp only [h1, h2, h3, Bool.or_false, Bool.false_eq_true, if_false]
  refine wpAny_bind (m_iter (s := { s with heap := H1 }) X1 ho1 rfl ?_)
  refine wpAny_bind (wpAny_holding ?_)
  generalize hH2 : H1.push { cls := .type "tuple_iterator", data := .fields #[.ref r, .int 0 0] } = H2
  have k2 : ∀ b o, H1.get? b = some o → H2.get? b = some o := fun b o e => hH2 ▸ Heap.get?_push_of_some _ e
  refine m_hint (s := { s with heap := H2 }) (X1.keeps k2) (k2 _ _ ho1) hz hz0 ?_
  dsimp only
  refine wpAny_bind (wpAny_rule ?_)
  refine wpAny_bind ?_
  have hS₁ := k2 _ _ hS
  show wpAny _ A.in1 (updateSeq s.heap.objs.size (·.push .none) >>= fun _ => updateSeq s.heap.objs.size (·.pop)) _ _ _
  refine wpAny_bind (wpAny_updateSeq hS₁ rfl ?_)
  have hS₂ := Heap.get?_update_self (Obj.mapSeq (·.push Value.none)) hS₁ rfl
  refine wpAny_updateSeq hS₂ rfl ?_
  have hS₃ := Heap.get?_update_self (Obj.mapSeq (·.pop)) hS₂ rfl
  have oth : ∀ b o, b ≠ s.heap.objs.size → H2.get? b = some o → ((H2.update s.heap.objs.size (Obj.mapSeq (·.push Value.none))).update s.heap.objs.size (Obj.mapSeq (·.pop))).get? b = some o :=
    fun b o hb e => (Heap.get?_update_other _ _ (Ne.symm hb)).trans ((Heap.get?_update_other _ _ (Ne.symm hb)).trans e)
  have hI : H2.get? H1.objs.size = some { cls := .type "tuple_iterator", data := .fields #[.ref r, .int 0 0] } := hH2 ▸ Heap.get?_push_size _ rfl
  refine wpAny_pure ⟨plainId_quiet F.plain_extend_loop _, m_extend (r := r) (items := items) (by exact hh) hSI hne hrI hz items.size 0 _ _ _ rfl (Nat.zero_le _) ⟨_, oth _ _ (Ne.symm hSI) hI, rfl, rfl⟩ ⟨_, oth _ _ hne (k2 _ _ ho1), _, rfl⟩ hS₃ (by simp) fun h' acc' c' hk hS' hacc => ?_⟩
  show wpAny _ A (load s.heap.objs.size >>= _) _ _ _
  refine wpAny_bind (wpAny_load hS' ?_)
  dsimp only
  rw [hacc]
  refine wpAny_pure (hQ _ _ fun b o e => ?_)
  have hb : b < s.heap.objs.size := Heap.lt_size e
  have hb2 : b ≠ H1.objs.size := by rw [hs1]; exact Nat.ne_of_lt (Nat.lt_succ_of_lt hb)
  exact hk _ _ (Nat.ne_of_lt hb) hb2 (oth _ _ (Nat.ne_of_lt hb) (k2 _ _ (k1 _ _ e)))
theorem meets_tuple_match (r d : Addr) (items : Array Value) (hz : items.size ≤ 1000) (hz0 : items.size ≠ 0) :
    MeetsIn prog w (Builtin.«tuple.__new__» ⟨[.type "tuple", .ref r], []⟩)
      (fun A R s => A.handled = none ∧ (K w.params).In s.heap ∧ s.heap.get? r = some (mObj d items) ∧ ∀ (h' : Heap) tk', (∀ b o', s.heap.get? b = some o' → h'.get? b = some o') → R (.ok (.ret (.ref h'.objs.size))) { s with heap := h'.push { cls := .type "tuple", data := .seq items }, toks := tk' }) :=
  .of_wp fun A R s h => by
    obtain ⟨hp, g, dr, tk, os⟩ := s; obtain ⟨hh, X, ht, h⟩ := h
    have hsub := sub_tuple_self
    have hinit := init_tuple_lookup
    have hmh := madeHere_tuple
    have hT := m_type (prog := prog) (w := w) ht (rfl : (mObj d items).cls = .ref 135)
    wp_walk using AutoSeq1.wpAny_loadPart' ht, (m_collect (A := A.in1) hh X ht hz hz0)
    intro h' tk' hk
    show wpAny _ _ (Builtin.Tuple.tupleExact items.toList.toArray >>= fun v => ret v) _ _ _
    unfold Builtin.Tuple.tupleExact
    refine wpAny_bind (wpAny_newObj_type ?_ (by show items.toList.toArray.size ≤ sizeLine; simp [sizeLine]; (first | lia | omega)))
    refine wpAny_pure ⟨_, rfl, ?_⟩
    have e : items.toList.toArray = items := by simp
    rw [e]
    exact h h' tk' hk
theorem call_tuple_match {h₀ : Heap} {L r d : Addr} {m : PySem.Str → Option Value} {news : List (Addr × Obj)} {items : Array Value} {Q : Value → Shared → Prop} (hh : A.handled = none) (FR : Fr h₀ L s.heap m) (X₀ : (K w.params).In h₀) (N : News h₀ L s.heap news) (hr : (r, mObj d items) ∈ news) (hz : items.size ≤ 1000) (hz0 : items.size ≠ 0)
    (h : ∀ t h' tk', Fr h₀ L h' m → News h₀ L h' ((t, { cls := .type "tuple", data := .seq items }) :: news) → (∀ p ∈ news, p.1 < t) → Q (.ref t) { s with heap := h', toks := tk' }) :
    wpAny (model prog w) A (call (.type "tuple") [.ref r]) Q E s := by
  refine callType_newIn PySem.F.called_tuple (by decide) (PySem.F.typeCall_tuple_1 _) (PySem.F.newCall_tuple_1 _) (fun obj => PySem.F.args_object_init_2 obj _) PySem.F.entry_tuple_new
    (meets_tuple_match r d items hz hz0) ⟨hh, X₀.keeps FR.keep, (N _ hr).1, fun h' tk' hk => ⟨⟨_, Heap.get?_push_size _ rfl, rfl⟩, ?_⟩⟩
  have F1 := Fr_grow FR hk
  have N1 := News_grow N hk
  exact h _ _ _ (F1.push _) (N1.push F1 _) fun p hp => Heap.lt_size (N1 p hp).1
theorem call_tuple_tupN {h₀ : Heap} {L r : Addr} {news : List (Addr × Obj)} {items : Array Value} {n : Nat} {Q : Value → Shared → Prop} (N : News h₀ L s.heap news) (hr : (r, { cls := .type "tuple", data := .seq items n }) ∈ news) (h : Q (.ref r) s) : wpAny (model prog w) A (call (.type "tuple") [.ref r]) Q E s :=
  call_tuple_same ⟨_, (N _ hr).1, rfl, _, rfl⟩ h
end
end
section
open PySem PySem.W PyProof.Rows PySem.Calls
set_option Elab.async false
set_option maxRecDepth 100000
set_option maxHeartbeats 4000000
section
variable {prog : Program} {w : World} {A : Around} {E : Value → Shared → Prop} {s : Shared} {h₀ : Heap} {L : Addr} {m : PySem.Str → Option Value} {env : Env} {news : List (Addr × Obj)}
theorem NatsAre.get' : ∀ {vs : List Value} {ns : List Nat}, NatsAre vs ns → ∀ {i : Nat} {v : Value}, vs[i]? = some v → ∃ t, v = .int ((ns.getD i 0 : Nat) : Int) t
  | [], [], _, i, v, h => by simp at h
  | [], _ :: _, h, _, _, _ => h.elim
  | _ :: _, [], h, _, _, _ => h.elim
  | x :: xs, n :: ns, ⟨⟨t, e⟩, r⟩, 0, v, h => by
    simp at h; exact ⟨t, by rw [← h, e]; rfl⟩
  | x :: xs, n :: ns, ⟨_, r⟩, i + 1, v, h => by
    simp at h; obtain ⟨t, h2⟩ := NatsAre.get' r h
    exact ⟨t, by simpa using h2⟩
theorem sum_nats {l : Addr} {vs : List Value} {ns : List Nat} {n : Nat} {Q : Value → Shared → Prop} (hh : A.handled = none) (F : Fr h₀ L s.heap m) (N : News h₀ L s.heap news) (hl : (l, listOf vs.toArray n) ∈ news) (hv : NatsAre vs ns)
    (h : ∀ h' tk t', Fr h₀ L h' m → News h₀ L h' news → Q (.int ((ns.sum : Nat) : Int) t') { s with heap := h', toks := tk }) : wpAny (model prog w) A (call (.builtin "sum") [.ref l]) Q E s := by
  have hL : s.heap.IsList l vs.toArray := ⟨_, (N _ hl).1, rfl, n, rfl⟩
  have hne : l ≠ s.heap.objs.size := Nat.ne_of_lt (Heap.lt_size (N _ hl).1)
  refine call_sum_walkG (wpAny_pyIter_list hL ⟨_, _, _, vs.length, _, _, (fun j => ((ns.getD j 0 : Nat) : Int)), rfl, Walks.list (by exact hh) s.heap.objs.size l hne vs.toArray, ⟨⟨_, Heap.get?_push_size _ rfl, rfl, rfl⟩, hL.at fun o e => Heap.get?_push_of_some _ e⟩, ?_, ?_, fun h' tk t' hk => ?_⟩)
  · intro b hb
    show b < (s.heap.push _).objs.size
    rw [Heap.size_push]
    rcases List.mem_cons.mp hb with rfl | hb
    · exact Nat.lt_succ_self _
    · rw [List.mem_singleton.mp hb]; exact Nat.lt_succ_of_lt (Heap.lt_size (N _ hl).1)
  · intro i v hP
    exact hv.get' (by simpa using hP)
  · have hsum : ∀ (ns : List Nat), preSum (fun j => ((ns.getD j 0 : Nat) : Int)) ns.length = ((ns.sum : Nat) : Int) := by
      intro ns
      have : ∀ k, k ≤ ns.length → preSum (fun j => ((ns.getD j 0 : Nat) : Int)) k = (((ns.take k).sum : Nat) : Int) := by
        intro k
        induction k with
        | zero => intro _; rfl
        | succ k ih =>
          intro hk
          have hlt : k < ns.length := by (first | lia | omega)
          rw [preSum, ih (by (first | lia | omega)), List.take_add_one, List.sum_append]
          simp only [List.getD_eq_getElem?_getD, List.getElem?_eq_getElem hlt, Option.getD_some, Option.toList_some, List.sum_cons, List.sum_nil, Nat.add_zero]
          push_cast; rfl
      rw [this _ (Nat.le_refl _), List.take_length]
    rw [hv.length, hsum]
    have k : ∀ b o, s.heap.get? b = some o → h'.get? b = some o := fun b o e => hk b o (fun q => Nat.ne_of_lt (Heap.lt_size e) (List.mem_singleton.mp q)) (Heap.get?_push_of_some _ e)
    exact h _ _ _ (Fr_grow F k) (News_grow N k)
/-- what a comprehension's loop leaves as it was: all but the iterator, the new list and its own variables -/
noncomputable def Kept3 (I D C : Addr) (h h' : Heap) : Prop := ∀ b o, b ≠ I → b ≠ D → b ≠ C → h.get? b = some o → h'.get? b = some o
theorem ListComp_sz {iter : PySem.Expr} {x y z : PySem.Str} {px py pz pz' tp pos : Pos} {kx} {scope : Scope} {cl : List (PySem.Str × Addr)} {l : Addr} {vs : List Value} {bl : List NNN} {n : Nat} {Q : Value → Shared → Prop}
    (_F : Fr h₀ L s.heap m) (_N : News h₀ L s.heap news) (hclos : closureFor scope env = pure cl) (hcell : ∀ y ∈ scope.names, y.2 ≠ .cell) (hkind : scope.kind = .function)
    (hnames : ∀ y ∈ scope.names, y.2 = .local → scope.names.lookup y.1 = some .local) (hx : scope.names.lookup x = some .local) (hy : scope.names.lookup y = some .local) (hz : scope.names.lookup z = some .local) (hdbg : (z == ("__debug__" : PySem.Str)) = false)
    (hh : A.handled = none) (hl : (l, listOf vs.toArray n) ∈ news) (hTR : TR news vs bl) (hsz : vs.length ≤ 1000)
    (hiter : wpAny (model prog w) A (eval iter env) (fun xv s₁ => xv = .ref l ∧ ∃ h' tk', s₁ = { s with heap := h', toks := tk' } ∧ Fr h₀ L h' m ∧ News h₀ L h' news) E s)
    (hs : ∀ x, foldedSetIterable iter env x = pure x)
    (hQ : ∀ D h' tk' ys, Fr h₀ L h' m → News h₀ L h' ((D, listOf ys.toArray ys.length) :: news) → NatsAre ys (bl.map (·.2.2)) → Q (.ref D) { s with heap := h', toks := tk' }) :
    wpAny (model prog w) A (eval (.ListComp (.Name z pz') [⟨.Tuple [.Name x px, .Name y py, .Name z pz] kx tp, iter, [], 0⟩] scope pos) env) Q E s := by
  rw [eval_ListComp]
  refine wpAny_comprehension_free (use := none) rfl hs hclos hkind hnames (wpAny_mono hiter (fun xv s₁ h₁ => ?_) fun _ _ e => e)
  obtain ⟨rfl, g, tkg, rfl, F, N⟩ := h₁
  have hL : g.IsList l vs.toArray := ⟨_, (N _ hl).1, rfl, n, rfl⟩
  have hlt : l < g.objs.size := Heap.lt_size (N _ hl).1
  refine wpAny_pyIter_list hL ?_
  refine wpAny_newObj_type (wpAny_newFunctionEnv hcell (by intro y hy; simp at hy) (fun h₁ hns₁ hsb₁ => ?_) hkind)
  dsimp only at hns₁ hsb₁ ⊢
  have e1 : (g.push { cls := Value.type "list_iterator", data := .fields #[.ref l, .int 0 0] }).objs.size = g.objs.size + 1 := by rw [Heap.size_push]
  generalize hG : g.push { cls := Value.type "list_iterator", data := .fields #[.ref l, .int 0 0] } = G at *
  have e2 : (G.push { cls := Value.type "list", dict := none, data := .seq ([] : List Value).toArray }).objs.size = g.objs.size + 2 := by rw [Heap.size_push, e1]
  generalize hH : G.push { cls := Value.type "list", dict := none, data := .seq ([] : List Value).toArray } = H at *
  rw [e2] at hns₁ hsb₁
  rw [e1, e2]
  have upG : ∀ b o, g.get? b = some o → G.get? b = some o := fun b o e => hG ▸ Heap.get?_push_of_some _ e
  have upH : ∀ b o, G.get? b = some o → H.get? b = some o := fun b o e => hH ▸ Heap.get?_push_of_some _ e
  have n1 : ∀ b, b < g.objs.size → b ≠ g.objs.size ∧ b ≠ g.objs.size + 1 ∧ b ≠ g.objs.size + 2 := fun b hb => ⟨Nat.ne_of_lt hb, Nat.ne_of_lt (Nat.lt_succ_of_lt hb), Nat.ne_of_lt (Nat.lt_succ_of_lt (Nat.lt_succ_of_lt hb))⟩
  have old : ∀ b o, g.get? b = some o → h₁.get? b = some o := fun b o e => hsb₁.extBut b o (n1 b (Heap.lt_size e)).2.2 (Heap.get?_push_of_some _ (upH _ _ (upG _ _ e)))
  have dID : g.objs.size ≠ g.objs.size + 1 := Nat.ne_of_lt (Nat.lt_succ_self _)
  have dIC : g.objs.size ≠ g.objs.size + 2 := Nat.ne_of_lt (Nat.lt_succ_of_lt (Nat.lt_succ_self _))
  have dDC : g.objs.size + 1 ≠ g.objs.size + 2 := Nat.ne_of_lt (Nat.lt_succ_self _)
  have dLI : l ≠ g.objs.size := Nat.ne_of_lt hlt
  generalize hI : g.objs.size = I at *
  generalize hD : I + 1 = D at *
  generalize hC : I + 2 = C at *
  have hlI : h₁.IsListIter I l 0 := ⟨_, hsb₁.extBut _ _ dIC (Heap.get?_push_of_some _ (upH _ _ (by rw [← hG, ← hI]; exact Heap.get?_push_size _ rfl))), rfl, rfl⟩
  have hDD : h₁.get? D = some (listOf ([] : List Value).toArray 0) := hsb₁.extBut _ _ dDC (Heap.get?_push_of_some _ (by rw [← hH, ← e1]; exact Heap.get?_push_size _ rfl))
  have lk := TR.length hTR
  have dlD : l ≠ D := (n1 l hlt).2.1
  have dlC : l ≠ C := (n1 l hlt).2.2
  have W := Walks.list (prog := prog) (w := w) hh I l dLI vs.toArray
  have loop : ∀ tk, codeAny (model prog w) A (.compLoop (.ListComp (.Name z pz') [⟨.Tuple [.Name x px, .Name y py, .Name z pz] kx tp, iter, [], 0⟩] scope pos) 0 (.ref I) (.ref D) (compEnvC scope cl C env))
      (compPost (model prog w) A E none Q (.ref D) C) { s with heap := h₁, toks := tk } := by
    intro tk0
    refine LCp.codeAny_compLoop_pair
      (fun k s' => ∃ h' tk i ys m', s' = { s with heap := h', toks := tk } ∧ i ≤ vs.length ∧ k = vs.length + 1 - i ∧ (h'.IsListIter I l i ∧ h'.IsList l vs.toArray) ∧ h'.get? D = some (listOf ys.toArray ys.length) ∧ h'.Ns C m' ∧ Kept3 I D C h₁ h' ∧ NatsAre ys ((bl.map (·.2.2)).take i)) ?_ (vs.length + 1)
      ⟨h₁, _, 0, [], _, rfl, Nat.zero_le _, rfl, ⟨hlI, hL.at fun o e => old _ _ e⟩, hDD, hns₁, fun b o _ _ _ e => e, by simp [NatsAre]⟩
    rintro k s' ⟨h', tk, i, ys, m', rfl, hi, rfl, hst, hyD, hns, hk, hys⟩
    have hyl := hys.length
    simp only [List.length_take, List.length_map] at hyl
    by_cases hlt' : i < vs.length
    · refine W.item i _ _ _ (by simpa using hlt') hst fun v h₂ tk₂ hP hst₂ hk₂ => ?_
      obtain ⟨p, c, t1, t2, t3, hp, rfl, hc⟩ := TR.get hTR (i := i) (v := v) (by simpa using hP)
      have hcl : c < I := by have := Heap.lt_size (N _ hc).1; rw [hI] at this; exact this
      have k2 : Kept3 I D C h₁ h₂ := fun b o b1 b2 b3 e => hk₂ b o (fun q => b1 (List.mem_singleton.mp q)) (hk b o b1 b2 b3 e)
      have hct : IsTup h₂ c #[.int (p.1 : Nat) t1, .int (p.2.1 : Nat) t2, .int (p.2.2 : Nat) t3] := ⟨_, k2 c _ (n1 c hcl).1 (n1 c hcl).2.1 (n1 c hcl).2.2 (old _ _ (N _ hc).1), rfl, _, rfl⟩
      have hns2 := hns.at' fun o e => hk₂ C o (fun q => dIC (List.mem_singleton.mp q).symm) e
      refine wpAny_letOwnedTupleGo_listiter hst₂.1 ?_
      refine assign_Tuple_tuple hh hct rfl rfl fun h₅ he => ?_
      have he' : ∀ b o, h₂.get? b = some o → h₅.get? b = some o := fun b o e => he b o (Nat.ne_of_lt (Heap.lt_size e)) e
      refine assignInOrder_cons (wpAny_assign_Name (wpAny_storeName_local (lookup_relabel_local hx) (hns2.at' fun o e => he' _ o e) (fun h₆ hn₆ hs₆ => ?_) (by simp [compEnvC, relabel, hkind])))
      refine assignInOrder_cons (wpAny_assign_Name (wpAny_storeName_local (lookup_relabel_local hy) hn₆ (fun h₇ hn₇ hs₇ => ?_) (by simp [compEnvC, relabel, hkind])))
      refine assignInOrder_cons (wpAny_assign_Name (wpAny_storeName_local (lookup_relabel_local hz) hn₇ (fun h₃ hn₃ hs₃ => ?_) (by simp [compEnvC, relabel, hkind])))
      refine assignInOrder_nil ?_
      have old3 : ∀ b o, b ≠ C → h₂.get? b = some o → h₃.get? b = some o := fun b o hb e => hs₃.extBut b o hb (hs₇.extBut b o hb (hs₆.extBut b o hb (he' b o e)))
      refine wpAny_Name (wpAny_loadName_local (by simp [compEnvC, relabel, hkind]) (lookup_relabel_local hz) hn₃ (if_pos rfl) ?_) hdbg
      have hyD3 := old3 D _ dDC (hk₂ D _ (fun q => dID (List.mem_singleton.mp q).symm) hyD)
      refine append_at (hsz := by show ys.toArray.size ≤ sizeLine; rw [List.size_toArray, hyl]; simp only [sizeLine]; (first | lia | omega)) hyD3 fun h₈ hs₈ hD₈ => ?_
      refine ⟨vs.length + 1 - (i + 1), by (first | lia | omega), h₈, _, i + 1, ys ++ [.int (p.2.2 : Nat) t3], _, rfl, hlt', rfl, ?_, ?_, hn₃.sameBut hs₈ (Ne.symm dDC), ?_, ?_⟩
      · exact W.frame _ _ _ hst₂ fun b hb o e => hs₈.extBut b o (fun q => by
          rcases List.mem_cons.mp hb with e | hb
          · exact dID (e.symm.trans q)
          · exact dlD ((List.mem_singleton.mp hb).symm.trans q)) (old3 b o (fun q => by
          rcases List.mem_cons.mp hb with e | hb
          · exact dIC (e.symm.trans q)
          · exact dlC ((List.mem_singleton.mp hb).symm.trans q)) e)
      · rw [hD₈]; simp [PySem.W.listOf]
      · exact fun b o b1 b2 b3 e => hs₈.extBut b o b2 (old3 b o b3 (k2 b o b1 b2 b3 e))
      · rw [List.take_add_one]
        simp only [List.getElem?_map, hp, Option.map_some, Option.toList_some]
        exact hys.snoc
    · obtain rfl : i = vs.length := by (first | lia | omega)
      refine W.done _ _ _ (by simpa using hst) fun h₂ tk₂ hk₂ => ?_
      have k2 : Kept3 I D C h₁ h₂ := fun b o b1 b2 b3 e => hk₂ b o (fun q => b1 (List.mem_singleton.mp q)) (hk b o b1 b2 b3 e)
      have k3 : ∀ b o, g.get? b = some o → h₂.get? b = some o := fun b o e => by
        have hb : b < I := by rw [← hI]; exact Heap.lt_size e
        exact k2 b o (n1 b hb).1 (n1 b hb).2.1 (n1 b hb).2.2 (old _ _ e)
      refine ⟨m', hns.at' fun o e => hk₂ C o (fun q => dIC (List.mem_singleton.mp q).symm) e, fun h'' hs'' => ?_⟩
      have k4 : ∀ b o, g.get? b = some o → h''.get? b = some o := fun b o e => hs''.extBut b o (by have hb : b < I := (by rw [← hI]; exact Heap.lt_size e); exact (n1 b hb).2.2) (k3 b o e)
      rw [List.take_of_length_le (by simp [lk])] at hys
      have hLI : L < I := by rw [← hI]; exact F.ns.lt
      refine hQ D h'' _ ys (Fr_grow F k4) (fun q hq => ?_) hys
      rcases List.mem_cons.mp hq with rfl | hq
      · refine ⟨hs''.extBut D _ dDC (hk₂ D _ (fun q => dID (List.mem_singleton.mp q).symm) hyD), (n1 L hLI).2.1.symm, ?_⟩
        cases e : h₀.get? D with
        | none => rfl
        | some o' => have := Heap.lt_size (F.keep _ _ e); rw [hI, ← hD] at this; exact absurd this (Nat.not_lt.mpr (Nat.le_succ I))
      · exact News_grow N k4 q hq
  exact codeAny_compStart_list (loop _) (W.self 0 _ _ _ ⟨hlI, hL.at fun o e => old _ _ e⟩ (loop _))
end
end
section
open PySem PySem.W PyProof.Rows PySem.Calls
set_option Elab.async false
set_option maxRecDepth 100000
set_option maxHeartbeats 4000000
open LCg
section
variable {w : World} {A : Around} {E : Value → Shared → Prop} {s : Shared} {h₀ : Heap} {L : Addr} {m mg mb : PySem.Str → Option Value} {mean : ExcName → Option Value} {loose : List PySem.Str} {p : Program} {env : Env} {base : List (Addr × Obj)}
/-- `tuple(x)` in a comprehension's turn: its one argument -/
theorem eval_tuple {prog : Program} {x : PySem.Str} {p1 p2 p3 : Pos} {C : Addr} {scope : Scope} {cl : List (PySem.Str × Addr)} {oC : Obj} {m₂ : PySem.Str → Option Value} {v : Value} {news : List (Addr × Obj)} {Q : Value → Shared → Prop}
    (X : (K w.params).In h₀) (T : Top p loose mean mg mb h₀) (hg : env.globals = mainGlobals) (hb : env.builtins = builtinsNs) (hk : scope.kind = .function) (hl : scope.names.lookup x = some .local) (ht : (compEnvC scope cl C env).kindOf (PySem.Str.ofString "tuple") = some .globalImplicit) (hd : (x == ("__debug__" : PySem.Str)) = false)
    (F : Fr h₀ L s.heap m) (N : News h₀ L s.heap news) (hm : (C, oC) ∈ news) (hC : NsObj oC m₂) (hx : m₂ x = some v)
    (h : wpAny (model prog w) A (call (.type "tuple") [v]) Q E s) : wpAny (model prog w) A (eval (.Call (.Name (PySem.Str.ofString "tuple") p1) [.Name x p2] [] p3) (compEnvC scope cl C env)) Q E s := by
  have fill : K = K ∧ PySem.Challenge.rw_xe0001_01 = PySem.Challenge.rw_xe0001_01 := by (k_fill; exact ⟨rfl, rfl⟩)
  clear fill
  refine Call_ ?_
  have hk' : (compEnvC scope cl C env).scope.kind = .function := hk
  refine LCgL.ld_built (v := .type "tuple") F X T (by k_is) (by first | rfl | kernel_rfl) (by decide) ?_ hg hb hk' ht (by decide)
  refine PyProof.Rows.callWith_type1 ?_
  refine spliced_more ?_
  refine LCgL.ld_own N hm hC hx ?_ hk' (lookup_relabel_local hl) hd
  exact PySem.Calls.spliced_nil h
theorem comp_R {x : PySem.Str} {p1 p2 p3 : Pos} {scope : Scope} {cl : List (PySem.Str × Addr)} {l : Addr} {vs : List Value} {bl : List NNN} {n : Nat} {prog : Program} {Q : Value → Shared → Prop}
    (X : (K w.params).In h₀) (T : Top p loose mean mg mb h₀) (hg : env.globals = mainGlobals) (hb : env.builtins = builtinsNs) (hk : scope.kind = .function) (hl : scope.names.lookup x = some .local) (ht : ∀ C, (compEnvC scope cl C env).kindOf (PySem.Str.ofString "tuple") = some .globalImplicit) (hd : (x == ("__debug__" : PySem.Str)) = false)
    (hh : A.handled = none) (hm : (l, listOf vs.toArray n) ∈ base) (hTM : TM base vs bl)
    (hQ : ∀ D ys tl h tk, Fr h₀ L h m → News h₀ L h ((D, listOf ys.toArray ys.length) :: (tl ++ base)) → TR (tl ++ base) ys bl → Q (.ref D) { s with heap := h, toks := tk }) :
    ∀ k i ys tl, i + k = vs.length → TR (tl ++ base) ys (bl.take i) → CompRest prog w A h₀ L m env (.Call (.Name (PySem.Str.ofString "tuple") p1) [.Name x p2] [] p3) x scope cl s (SrcAt h₀ l vs.toArray) (fun i v => vs.toArray[i]? = some v) (FinE h₀ L m s Q) k i ys (tl ++ base)
  | 0, i, ys, tl, hi, hTR => by
    rw [List.take_of_length_le (by have := hTM.length; (first | lia | omega))] at hTR
    exact CompRest.zero fun D h tk F N _ => hQ D ys tl h tk F N hTR
  | k + 1, i, ys, tl, hi, hTR => CompRest.succ fun v I oI C oC D m₂ h tk E' hP hC hx F N off hne => by
    obtain ⟨q, c, d, t1, t2, t3, hq, rfl, hc⟩ := hTM.get (i := i) (v := v) (by simpa using hP)
    refine eval_tuple X T hg hb hk hl (ht C) hd F N (.tail _ (.head _)) hC hx ?_
    have hc' := List.mem_append_right tl hc
    refine call_tuple_match hh F X N (.tail _ (.tail _ (.tail _ hc'))) (Nat.le_of_ble_eq_true rfl) (Nat.succ_ne_zero _) ?_
    intro t h' tk' F' N' hlt
    have zI := hlt _ (.head _)
    have zC := hlt _ (.tail _ (.head _))
    have zD := hlt _ (.tail _ (.tail _ (.head _)))
    refine CompEnd.intro F' N' ((t, tupN q t1 t2 t3) :: (tl ++ base)) (fun p hp => ?_) ⟨⟨Nat.ne_of_gt zI, Nat.ne_of_gt zC, Nat.ne_of_gt zD⟩, off⟩ (.inr ⟨_, .tail _ (List.mem_append_right _ hm), rfl, _, rfl⟩) ?_
    · rcases List.mem_cons.mp hp with rfl | hp
      · exact .tail _ (.head _)
      rcases List.mem_cons.mp hp with rfl | hp
      · exact .tail _ (.tail _ (.head _))
      rcases List.mem_cons.mp hp with rfl | hp
      · exact .tail _ (.tail _ (.tail _ (.head _)))
      rcases List.mem_cons.mp hp with rfl | hp
      · exact .head _
      · exact .tail _ (.tail _ (.tail _ (.tail _ hp)))
    · refine comp_R X T hg hb hk hl ht hd hh hm hTM hQ k (i + 1) (ys ++ [.ref t]) ((t, tupN q t1 t2 t3) :: tl) (by (first | lia | omega)) ?_
      rw [List.take_add_one, hq]
      exact (hTR.mono fun p hp => .tail _ hp).append (TR.one (.head _))
theorem comp_C {x : PySem.Str} {p1 p2 p3 : Pos} {scope : Scope} {cl : List (PySem.Str × Addr)} {l : Addr} {vs : List Value} {bl : List Cd} {n : Nat} {prog : Program} {Q : Value → Shared → Prop}
    (X : (K w.params).In h₀) (T : Top p loose mean mg mb h₀) (hg : env.globals = mainGlobals) (hb : env.builtins = builtinsNs) (hk : scope.kind = .function) (hl : scope.names.lookup x = some .local) (ht : ∀ C, (compEnvC scope cl C env).kindOf (PySem.Str.ofString "tuple") = some .globalImplicit) (hd : (x == ("__debug__" : PySem.Str)) = false)
    (hh : A.handled = none) (hm : (l, listOf vs.toArray n) ∈ base) (hTM : TC base vs bl)
    (hQ : ∀ D ys h tk, Fr h₀ L h m → News h₀ L h ((D, listOf ys.toArray ys.length) :: base) → TC base ys bl → Q (.ref D) { s with heap := h, toks := tk }) :
    ∀ k i ys, i + k = vs.length → TC base ys (bl.take i) → CompRest prog w A h₀ L m env (.Call (.Name (PySem.Str.ofString "tuple") p1) [.Name x p2] [] p3) x scope cl s (SrcAt h₀ l vs.toArray) (fun i v => vs.toArray[i]? = some v) (FinE h₀ L m s Q) k i ys base
  | 0, i, ys, hi, hTR => by
    rw [List.take_of_length_le (by have := hTM.length; (first | lia | omega))] at hTR
    exact CompRest.zero fun D h tk F N _ => hQ D ys h tk F N hTR
  | k + 1, i, ys, hi, hTR => CompRest.succ fun v I oI C oC D m₂ h tk E' hP hC hx F N off hne => by
    obtain ⟨q, c, t0, t1, t2, t3, t4, hq, rfl, hc⟩ := hTM.get (i := i) (v := v) (by simpa using hP)
    refine eval_tuple X T hg hb hk hl (ht C) hd F N (.tail _ (.head _)) hC hx ?_
    refine call_tuple_tupN N (.tail _ (.tail _ (.tail _ hc))) ?_
    refine CompEnd.intro F N base (fun p hp => hp) off (.inr ⟨_, hm, rfl, _, rfl⟩) ?_
    refine comp_C X T hg hb hk hl ht hd hh hm hTM hQ k (i + 1) (ys ++ [.ref c]) (by (first | lia | omega)) ?_
    rw [List.take_add_one, hq]
    exact hTR.append (TC.one hc)
end
end
section
open PySem PySem.W PyProof.Rows PySem.Calls
set_option Elab.async false
set_option maxRecDepth 100000
open LCg LCt
/-- texts of one sign each -/
noncomputable def Signs (ys : List Value) : Prop := ∀ y ∈ ys, ∃ (z : PySem.Str) (t : Tok), y = .str z t ∧ z.cps.size = 1
theorem Signs.list : ∀ {ys : List Value}, Signs ys → ∃ l : List (PySem.Str × Tok), strValues l = ys ∧ ∀ p ∈ l, p.1.cps.size = 1
  | [], _ => ⟨[], rfl, fun _ h => by simp at h⟩
  | y :: ys, h => by
    obtain ⟨z, t, rfl, hz⟩ := h y (.head _)
    obtain ⟨l, hl, hp⟩ := Signs.list (ys := ys) fun y hy => h y (.tail _ hy)
    refine ⟨(z, t) :: l, by simp only [strValues, List.map_cons] at hl ⊢; rw [hl], fun p hp' => ?_⟩
    rcases List.mem_cons.mp hp' with rfl | hp'
    · exact hz
    · exact hp p hp'
theorem Signs.snoc {ys : List Value} {z : PySem.Str} {t : Tok} (h : Signs ys) (hz : z.cps.size = 1) : Signs (ys ++ [.str z t]) := fun y hy => by
  rcases List.mem_append.mp hy with hy | hy
  · exact h y hy
  · rw [List.mem_singleton.mp hy]; exact ⟨z, t, rfl, hz⟩
theorem glue_size : ∀ (l : List PySem.Str) (acc : Array Nat), (∀ p ∈ l, p.cps.size = 1) → (l.foldl (fun acc p => acc ++ (PySem.Str.ofString "").cps ++ p.cps) acc).size = acc.size + l.length
  | [], acc, _ => by simp
  | p :: l, acc, h => by
    rw [List.foldl_cons, glue_size l _ fun q hq => h q (.tail _ hq)]
    have e0 : (PySem.Str.ofString "").cps.size = 0 := by decide +kernel
    rw [Array.size_append, Array.size_append, e0, h p (.head _), List.length_cons]
    (first | lia | omega)
theorem len_fold : ∀ (l : List PySem.Str) (k : Nat), (∀ p ∈ l, p.cps.size = 1) → l.foldl (fun a b => a + b.length + (PySem.Str.ofString "").length) k = k + l.length
  | [], k, _ => by simp
  | p :: l, k, h => by
    rw [List.foldl_cons, len_fold l _ fun q hq => h q (.tail _ hq)]
    have e0 : (PySem.Str.ofString "").length = 0 := by decide +kernel
    have e1 : p.length = 1 := h p (.head _)
    rw [e0, e1, List.length_cons]
    (first | lia | omega)
theorem join_size (l : List PySem.Str) (h : ∀ p ∈ l, p.cps.size = 1) : (Txt.join (PySem.Str.ofString "") l).cps.size = l.length := by
  unfold Txt.join PySem.Builtin.Str.glued
  cases l with
  | nil => decide +kernel
  | cons p r =>
    simp only [List.drop_one, List.tail_cons, List.headD_cons]
    rw [glue_size r _ fun q hq => h q (.tail _ hq), h p (.head _), List.length_cons]
    (first | lia | omega)
section
variable {prog : Program} {w : World} {A : Around} {E : Value → Shared → Prop} {s : Shared} {h₀ : Heap} {L : Addr} {m : PySem.Str → Option Value} {env : Env} {news : List (Addr × Obj)}
theorem join_signs {D : Addr} {ys : List Value} {n : Nat} {t : Tok} {Q : Value → Shared → Prop} (N : News h₀ L s.heap news) (hD : (D, listOf ys.toArray n) ∈ news) (hs : Signs ys) (hl : ys.length ≤ 8)
    (h : ∀ z t' k, z.cps.size ≤ 8 → Q (.str z t') { s with toks := k }) : wpAny (model prog w) A (call (.builtin "str.join") [.str (PySem.Str.ofString "") t, .ref D]) Q E s := by
  obtain ⟨l, rfl, hp⟩ := hs.list
  have hp' : ∀ p ∈ l.map (·.1), p.cps.size = 1 := fun p hp1 => by
    obtain ⟨q, hq, rfl⟩ := List.mem_map.mp hp1
    exact hp q hq
  simp only [strValues, List.length_map] at hl
  refine SC.join (l := l) ⟨_, (N _ hD).1, rfl, n, rfl⟩ rfl ?_ fun t' k => h _ t' k (by rw [join_size _ hp', List.length_map]; exact hl)
  unfold JoinOk PySem.Builtin.Str.tooLong
  rw [List.foldl_toArray', len_fold _ _ hp', List.length_map]
  · rw [Bool.not_eq_true']
    exact decide_eq_false (by show ¬ (0 + l.length > 16777216); (first | lia | omega))
  · simp
/-- a comprehension that gathers signs, by a test -/
theorem comp_S {ct elt : PySem.Expr} {x : PySem.Str} {scope : Scope} {cl : List (PySem.Str × Addr)} {base : List (Addr × Obj)} {pz : Nat → Bool} {f : Nat → Nat} {n : Nat} {S : List (Addr × Obj) → Prop} {P : Nat → Value → Prop} {Q : Value → Shared → Prop}
    (hf : ∀ i, f i + (if pz i = true then 1 else 0) ≤ f (i + 1)) (hfn : f n ≤ 8) (hS : S base)
    (htest : ∀ i v C oC m₂ h tk (E' : Value → Shared → Prop) news, i < n → P i v → NsObj oC m₂ → m₂ x = some v → Fr h₀ L h m → News h₀ L h news → (C, oC) ∈ news → (∀ p ∈ base, p ∈ news) →
      wpAny (model prog w) A (isTrue ct (compEnvC scope cl C env) (eval ct (compEnvC scope cl C env))) (fun ok s' => ok = pz i ∧ ∃ tk', s' = { s with heap := h, toks := tk' }) E' { s with heap := h, toks := tk })
    (helt : ∀ i v C oC m₂ h tk (E' : Value → Shared → Prop) news, i < n → P i v → NsObj oC m₂ → m₂ x = some v → Fr h₀ L h m → News h₀ L h news → (C, oC) ∈ news → (∀ p ∈ base, p ∈ news) →
      wpAny (model prog w) A (eval elt (compEnvC scope cl C env)) (fun y s' => (∃ z t, y = .str z t ∧ z.cps.size = 1) ∧ ∃ tk', s' = { s with heap := h, toks := tk' }) E' { s with heap := h, toks := tk })
    (hQ : ∀ D ys h tk, Fr h₀ L h m → News h₀ L h ((D, listOf ys.toArray ys.length) :: base) → Signs ys → ys.length ≤ 8 → Q (.ref D) { s with heap := h, toks := tk }) :
    ∀ k i ys, i + k = n → Signs ys → ys.length ≤ f i → CompRestT prog w A h₀ L m env ct elt x scope cl s S P (FinE h₀ L m s Q) k i ys base
  | 0, i, ys, hi, hs, hl => fun D h tk F N _ => hQ D ys h tk F N hs (Nat.le_trans hl (by rw [show i = n by (first | lia | omega)]; exact hfn))
  | k + 1, i, ys, hi, hs, hl => fun v I oI C oC D m₂ h tk E' hP hC hx F N off hne => by
    have hb : ∀ p ∈ base, p ∈ (I, oI) :: (C, oC) :: (D, lst ys) :: base := fun p hp => .tail _ (.tail _ (.tail _ hp))
    refine wpAny_mono (htest i v C oC m₂ h tk E' _ (by (first | lia | omega)) hP hC hx F N (.tail _ (.head _)) hb) (fun ok s' hok => ?_) fun _ _ e => e
    obtain ⟨rfl, tk', rfl⟩ := hok
    have hfi := hf i
    cases hz : pz i with
    | true =>
      rw [if_pos rfl]
      rw [hz, if_pos rfl] at hfi
      refine wpAny_mono (helt i v C oC m₂ h tk' E' _ (by (first | lia | omega)) hP hC hx F N (.tail _ (.head _)) hb) (fun y s' hy => ?_) fun _ _ e => e
      obtain ⟨⟨z, t, rfl, hz1⟩, tk2, rfl⟩ := hy
      exact CompEnd.intro F N base (fun p hp => hp) off hS (comp_S hf hfn hS htest helt hQ k (i + 1) _ (by (first | lia | omega)) (hs.snoc hz1) (by rw [List.length_append, List.length_singleton]; (first | lia | omega)))
    | false =>
      rw [if_neg (by simp)]
      rw [hz] at hfi
      exact CompEnd.intro F N base (fun p hp => hp) off hS (comp_S hf hfn hS htest helt hQ k (i + 1) _ (by (first | lia | omega)) hs (by simp at hfi; (first | lia | omega)))
end
end
section
open PySem PySem.W PyProof.Rows PySem.Calls
set_option Elab.async false
set_option maxRecDepth 100000
set_option maxHeartbeats 4000000
set_option pp.deepTerms false
set_option pp.deepTerms.threshold 6
set_option linter.unusedSimpArgs false
local macro_rules | `(tactic| wtm_at "mx call") => `(tactic| ((with_reducible show wpAny _ _ (call (Value.ref _) [Value.str _ _]) _ _ _); refine scon_call (knd := PySem.strKind _ _) (S := fun _ => false) (n := 0) (by assumption) (by wtm_at "mt") (by wtm_at "mt") (by assumption) (by decide) (strKind_is _ _ _ _) rfl ?_))
noncomputable def FLo (w : World) (x y : PySem.Str) (tx ty : Tok) (b2 bj : Addr) (alo ahi blo bhi : Nat) (t1 t2 t3 t4 : Tok) (news : List (Addr × Obj)) (r : Nat) (m' : PySem.Str → Option Value) (nx : List (Addr × Obj)) : Prop :=
  ∀ R : Prop, (∀ (u d1 : Addr) (od1 : Obj) (ln : Addr) (kvs : List (Int × Value)) (bi bj' bk : Nat) (q1 q2 q3 : Tok), (u, bndObj "set.__contains__" (.ref bj)) ∈ nx →
    (d1, od1) ∈ nx →
    od1.IsDictOf (PySem.intKind PySem.Challenge.pw_xe0001_01 w) kvs →
    (d1 == sysModules) = false →
    (ln, listOf ([] : List Value).toArray 0) ∈ nx →
    (∀ p ∈ news, p ∈ nx) →
    OuterJ x.cps.toList y.cps.toList alo ahi blo bhi r kvs bi bj' bk →
    Kns m' [("a", .str x tx), ("b", .str y ty), ("b2j", .ref b2), ("isbjunk", .ref u), ("alo", .int alo t1), ("ahi", .int ahi t2), ("blo", .int blo t3), ("bhi", .int bhi t4), ("besti", .int (bi : Nat) q1), ("bestj", .int (bj' : Nat) q2), ("bestsize", .int (bk : Nat) q3), ("j2len", .ref d1), ("nothing", .ref ln)] → R) → R
noncomputable def FLm (w : World) (x y : PySem.Str) (tx ty : Tok) (b2 u : Addr) (alo ahi blo bhi : Nat) (t1 t2 t3 t4 : Tok) (i : Nat) (ln : Addr) (old : List (Addr × Obj)) (I : Addr) (oI : Obj) (m' : PySem.Str → Option Value) (nx2 : List (Addr × Obj)) : Prop :=
  ∀ R : Prop, (∀ (d2 : Addr) (od2 : Obj) (kvs2 : List (Int × Value)) (bi bj' bk : Nat) (q1 q2 q3 : Tok), (d2, od2) ∈ nx2 →
    od2.IsDictOf (PySem.intKind PySem.Challenge.pw_xe0001_01 w) kvs2 →
    (d2 == sysModules) = false →
    OuterJ x.cps.toList y.cps.toList alo ahi blo bhi (i + 1) kvs2 bi bj' bk →
    (∀ p ∈ old, p ∈ nx2) →
    (I, oI) ∈ nx2 →
    d2 ≠ I →
    Kns m' [("a", .str x tx), ("b", .str y ty), ("b2j", .ref b2), ("isbjunk", .ref u), ("alo", .int alo t1), ("ahi", .int ahi t2), ("blo", .int blo t3), ("bhi", .int bhi t4), ("besti", .int (bi : Nat) q1), ("bestj", .int (bj' : Nat) q2), ("bestsize", .int (bk : Nat) q3), ("newj2len", .ref d2), ("nothing", .ref ln)] → R) → R
noncomputable def FLi (w : World) (x y : PySem.Str) (tx ty : Tok) (b2 u : Addr) (alo ahi blo bhi : Nat) (t1 t2 t3 t4 t : Tok) (i : Nat) (ln d1 : Addr) (old : List (Addr × Obj)) (ps : List Nat) (t' : Nat) (m' : PySem.Str → Option Value) (nx2 : List (Addr × Obj)) : Prop :=
  ∀ R : Prop, (∀ (d2 u2 : Addr) (od2 : Obj) (kvs2 : List (Int × Value)) (ci cj ck : Nat) (r1 r2 r3 : Tok), (d2, od2) ∈ nx2 →
    od2.IsDictOf (PySem.intKind PySem.Challenge.pw_xe0001_01 w) kvs2 →
    (d2 == sysModules) = false →
    InnerJ x.cps.toList y.cps.toList alo ahi blo bhi i t' ps kvs2 ci cj ck →
    (u2, bndObj "dict.get" (.ref d1)) ∈ nx2 →
    u2 ≠ d2 →
    (∀ p ∈ old, p ∈ nx2 ∧ p.1 ≠ d2) →
    Kns m' [("a", .str x tx), ("b", .str y ty), ("b2j", .ref b2), ("isbjunk", .ref u), ("alo", .int alo t1), ("ahi", .int ahi t2), ("blo", .int blo t3), ("bhi", .int bhi t4), ("besti", .int (ci : Nat) r1), ("bestj", .int (cj : Nat) r2), ("bestsize", .int (ck : Nat) r3), ("newj2len", .ref d2), ("j2lenget", .ref u2), ("nothing", .ref ln), ("i", .int ((alo : Int) + (i : Int)) t)] → R) → R
theorem find_lg (w : World) (mean : ExcName → Option Value) (mg mb : PySem.Str → Option Value)
   (dp un : Nat) (gd : Option (List Code)) (cn : PySem.Str) (cs : Scope) (a : Addr) (ccd : Value) (cl : List (PySem.Str × Addr)) (outer : List Env) (A₀ : Around) (base h₀ : Heap) (L : Addr) (m : PySem.Str → Option Value) (news : List (Addr × Obj)) (s : Shared)
   (x y : PySem.Str) (tx ty : Tok) (xm D b2 bj bp : Addr) (mbv oc fc : Value) (oD : Obj) (alo ahi blo bhi : Nat) (t1 t2 t3 t4 : Tok) (Q E : Value → Shared → Prop)
    (B : Below A₀ base outer h₀) (F : Fr h₀ L s.heap m) (X : (K w.params).In h₀) (N : News h₀ L s.heap news) (T : Top topProg LQ mean mg mb h₀) (hk : cs.kind = .function)
    (hx : x.cps.size ≤ 100) (hy : y.cps.size ≤ 100) (ha1 : alo ≤ ahi) (ha2 : ahi ≤ x.cps.size) (hb1 : blo ≤ bhi) (hb2' : bhi ≤ y.cps.size)
    (hD : (D, oD) ∈ news) (hM : MD (FS x y tx ty mbv oc fc (.ref b2) (.ref bj) (.ref bp)) oD) (hR : MatR w y xm D b2 bj news)
    (hd : dp + 104 < recursionLimit) (hu : un + 1000 < cLine)
    (hret : ∀ r d q1 q2 q3 tl h' tk', Fr h₀ L h' m → News h₀ L h' ((r, mObj d #[.int ((lg x.cps.toList y.cps.toList alo ahi blo bhi).1 : Nat) q1, .int ((lg x.cps.toList y.cps.toList alo ahi blo bhi).2.1 : Nat) q2, .int ((lg x.cps.toList y.cps.toList alo ahi blo bhi).2.2 : Nat) q3]) :: (tl ++ news)) → Q (.ref r) { s with heap := h', toks := tk' }) :
    wpAny (model PySem.Challenge.pw_xe0001_01 w) (ktrTop dp un gd cn cs L a ccd cl outer) (call (.ref 196) [.ref xm, .int alo t1, .int ahi t2, .int blo t3, .int bhi t4]) Q E s := by
  have fill : K = K ∧ PySem.Challenge.rw_xe0001_01 = PySem.Challenge.rw_xe0001_01 := by (k_fill; exact ⟨rfl, rfl⟩)
  clear fill
  obtain ⟨sh0, sg0, sd0, st0, so0⟩ := s
  have hSt : Sts sg0 sd0 so0 := trivial
  dsimp only at F N hret
  obtain ⟨hxm, ⟨ob, kvb, hb2, hod, hlo, hB⟩, oj, hbj, hsj⟩ := hR
  refine wpAny_call ?_
  k_dflt (wtm_at "enter")
  refine wpAny_mono (E := NoE) ?_ (fun _ _ h => h) (fun _ _ h => h.elim)
  refine opq fun PQ hPQ => ?_
  wtm_at "ms"
  refine for_MF (by assumption) ?_ (by intro _; rfl)
  wtm_at "ms"
  refine iterM_range (n := ahi - alo) (fun r m' nx => FLo w x y tx ty b2 bj alo ahi blo bhi t1 t2 t3 t4 news r m' nx)
    rfl (by assumption) ?_ ?_ (by assumption) (by assumption) ?J0 ?turn ?done
  · exact rsmall (by (first | lia | omega)) (by (first | lia | omega))
  · exact rsize
  case J0 =>
    exact (fun R kR => kR _ _ _ _ ([]) alo blo 0 _ _ _ (by wtm_at "mt") (by wtm_at "mt") (by assumption) (by assumption) (.head _) (fun p hp => by wtm_at "mt") (OuterJ.start ha1 hb1) ⟨rfl, rfl, rfl, rfl, rfl, rfl, rfl, rfl, rfl, rfl, rfl, rfl, rfl, trivial⟩)
  case turn =>
    rintro i t m₁ nx h tk own I oI hi HJ hI ho hit hnI F₁ N₁
    refine opq2 fun PQ hPQ => ?_
    try dsimp only
    refine HJ _ fun u d1 od1 ln kvs bi bj' bk q1 q2 q3 hu1 hd1 hod1 hlo1 hln hsub hJ hkn => ?_
    replace F₁ := Fr_kn F₁ hkn
    wtm_at "ms"
    have ha3 : ahi ≤ x.cps.toList.length := by simpa using ha2
    have hb3 : bhi ≤ y.cps.toList.length := by simpa using hb2'
    obtain ⟨l, vs, n, hl, hlm, hna⟩ : ∃ l vs n, (valueAt kvb (sgn (x.cps.toList.getD (alo + i) 0))).getD (.ref ln) = .ref l ∧ (l, listOf vs.toArray n) ∈ nx ∧ NatsAre vs (places (x.cps.toList.getD (alo + i) 0) y.cps.toList 0) := by
      by_cases hmem : x.cps.toList.getD (alo + i) 0 ∈ y.cps.toList
      · obtain ⟨l, vs, n, hl, hlm, hna⟩ := hB.1 _ hmem
        exact ⟨l, vs, n, by rw [hl]; rfl, hsub _ hlm, hna⟩
      · exact ⟨ln, [], 0, by rw [hB.2.1 _ hmem]; rfl, hln, by rw [places_nil hmem]; trivial⟩
    generalize hps : places (x.cps.toList.getD (alo + i) 0) y.cps.toList 0 = ps at hna
    have hpl : ps.length ≤ 100 := by rw [← hps]; have := places_length' (x.cps.toList.getD (alo + i) 0) y.cps.toList 0; simp only [Array.length_toList] at this; (first | lia | omega)
    have hsort : ps.Pairwise (· < ·) := by rw [← hps]; exact places_sorted _ _
    rename Fr _ _ _ (fun y_1 => if y_1 = PySem.Str.ofString "newj2len" then _ else _) => F₂
    rename News _ _ _ ((_, _) :: (_, bndObj "dict.get" (Value.ref d1)) :: (nx ++ own)) => N₂
    have hfr2 := ‹∀ p ∈ nx ++ own, p.1 < _›
    have hlt2 := ‹_ < _ ∧ AllLt _ (nx ++ own)›
    refine join_at F₂ (fun m' nx2 => FLm w x y tx ty b2 u alo ahi blo bhi t1 t2 t3 t4 i ln (nx ++ own) I oI m' nx2) ?loop ?after
    case after =>
      rintro m₂ nx2 h2 tk2 HJ F₃ N₃
      refine HJ _ fun d2 od2 kvs2 ci cj ck r1 r2 r3 hd2 hod2 hlo2 hJ2 hsub2 hI2 hne2 hkn2 => ?_
      try dsimp only
      replace F₃ := Fr_kn F₃ hkn2
      wtm_at "ms"
      refine LPost_next (nx := (d2, od2) :: nx) (by assumption) (by assumption) (fun R kR => kR u d2 od2 ln kvs2 ci cj ck r1 r2 r3 (.tail _ hu1) (.head _) hod2 hlo2 (.tail _ hln) (fun p hp => .tail _ (hsub p hp)) hJ2 ⟨rfl, rfl, rfl, rfl, rfl, rfl, rfl, rfl, rfl, rfl, rfl, rfl, rfl, trivial⟩) ?_ ?_ ?_
      · intro p hp
        rcases List.mem_cons.mp hp with rfl | hp
        · exact hd2
        · exact hsub2 _ (List.mem_append_left _ hp)
      · exact fun p hp => hsub2 _ (List.mem_append_right _ hp)
      · intro p hp
        rcases List.mem_cons.mp hp with rfl | hp
        · exact hne2
        · exact hnI p hp
    case loop =>
      clear hkn F₁ N₁
      have hb2n := hsub _ hb2
      refine for_MF F₂ ?_ (by intro _; rfl)
      wtm_at "ms"
      show wpAny _ _ (call (.builtin "dict.get") [.ref b2, _, .ref ln]) _ _ _
      refine kdg_get2 (knd := PySem.strKind _ _) (by assumption) (.tail _ (.tail _ (List.mem_append_left _ hb2n))) hod hlo (strKind_is _ _ _ _) _ rfl ?_
      have e1 : chr x ((alo : Int) + (i : Int)).toNat = sgn (x.cps.toList.getD (alo + i) 0) := by
        rw [show ((alo : Int) + (i : Int)).toNat = alo + i by (first | lia | omega)]; rfl
      rw [e1, hl]
      wtm_at "ms"
      have hlm3 : (l, listOf vs.toArray n) ∈ nx ++ own := List.mem_append_left _ hlm
      refine iterM_list (items := vs.toArray) (fun t' m' nx2 => FLi w x y tx ty b2 u alo ahi blo bhi t1 t2 t3 t4 t i ln d1 (nx ++ own) ps t' m' nx2)
        rfl ⟨_, (News.get N₂ (.tail _ (.tail _ hlm3))), rfl, n, rfl⟩ ?ne2 F₂ N₂ ?J02 ?turn2 ?done2
      case ne2 => exact News_ne (o := listOf vs.toArray n) N₂ (.tail _ (.tail _ hlm3))
      case J02 =>
        refine (fun R kR => kR _ _ _ ([]) bi bj' bk q1 q2 q3 (.head _) (by assumption) (by assumption) (InnerJ.start hJ) (.tail _ (.head _)) (Nat.ne_of_lt hlt2.1) (fun p hp => ⟨.tail _ (.tail _ hp), Nat.ne_of_lt (allLt_mem hlt2.2 hp)⟩) ⟨rfl, rfl, rfl, rfl, rfl, rfl, rfl, rfl, rfl, rfl, rfl, rfl, rfl, rfl, rfl, trivial⟩)
      case turn2 =>
        rintro t' v m₂ nx2 h2 tk2 own2 I2 oI2 ht hv HJ hI2 ho2 hit2 hnI2 F₃ N₃ hL3
        refine opq2 fun PQ hPQ => ?_
        try dsimp only
        refine HJ _ fun d2 u2 od2 kvs2 ci cj ck r1 r2 r3 hd2 hod2 hlo2 hJ2 hu2 hud hsub2 hkn2 => ?_
        clear F₂ N₂
        replace F₃ := Fr_kn F₃ hkn2
        have hv' : vs[t']? = some v := by simpa using hv
        obtain ⟨p, tp, hp, rfl⟩ := hna.get hv'
        have hd1n := (hsub2 _ (List.mem_append_left own hd1)).1
        wtm_at "ms"
        · dsimp only
          rename (p : Int) < _ => hpb
          exact LPost_cont (nx := nx2) (by assumption) (by assumption) (fun R kR => kR d2 u2 od2 kvs2 ci cj ck r1 r2 r3 hd2 hod2 hlo2 (hJ2.skip hp (by (first | lia | omega))) hu2 hud hsub2 ⟨rfl, rfl, rfl, rfl, rfl, rfl, rfl, rfl, rfl, rfl, rfl, rfl, rfl, rfl, rfl, trivial⟩) (fun p hp => List.mem_append_left _ hp) (fun p hp => List.mem_append_right _ hp) hnI2
        · dsimp only
          rename _ ≤ (p : Int) => hpb
          refine ⟨rfl, WEnd_mk (nx' := nx2) (by assumption) (by assumption) (fun R kR => kR d2 od2 kvs2 ci cj ck r1 r2 r3 hd2 hod2 hlo2 (hJ2.fin hps.symm hb3 (break_end hsort hp (by (first | lia | omega))) ?_) (fun p hp => (hsub2 p hp).1) ((hsub2 _ (List.mem_append_right _ hI)).1) (fun e => (hsub2 _ (List.mem_append_right _ hI)).2 e.symm) ⟨rfl, rfl, rfl, rfl, rfl, rfl, rfl, rfl, rfl, rfl, rfl, rfl, rfl, trivial⟩) (fun p hp => List.mem_append_left _ hp)⟩
          have := (List.getElem?_eq_some_iff.mp hp).1
          (first | lia | omega)
        · have hp1 : blo ≤ p := by rename ¬ (p : Int) < _ => h; (first | lia | omega)
          have hp2 : p < bhi := by rename ¬ _ ≤ (p : Int) => h; (first | lia | omega)
          have hpm : p ∈ ps := List.mem_of_getElem? hp
          have hss := sf_step (r := i) (alo := alo) (a := x.cps.toList) (b := y.cps.toList) hps.symm hpm hp1
          have hz : ∀ z, ∃ t, (valueAt kvs ((p : Int) - 1)).getD (.int 0 z) = .int (sf x.cps.toList y.cps.toList alo blo i (p - blo) : Nat) t := fun z => by
            have := hJ.get (c := p - blo) (by (first | lia | omega)) z
            rwa [show (blo : Int) + ((p - blo : Nat) : Int) - 1 = (p : Int) - 1 by (first | lia | omega)] at this
          refine dget_row (by assumption) (List.mem_append_left _ hu2) (List.mem_append_left _ hd1n) hod1 hlo1 hz ?_
          intro tz
          have hkl : kvs2.length ≤ 1000 := by
            have := hJ2.2.2
            have := (List.getElem?_eq_some_iff.mp hp).1
            (first | lia | omega)
          wtm_at "ms"
          refine set_F (knd := PySem.intKind _ _) (by assumption) (by assumption) (List.mem_append_left _ hd2) hod2 (intKind_is _ _ _ _) hkl ?_
          intro h5 o5 F5 N5 hd5
          wtm_at "ms"
          all_goals (
            have es : ((sf x.cps.toList y.cps.toList alo blo i (p - blo) : Nat) : Int) + 1 = ((sf x.cps.toList y.cps.toList alo blo (i + 1) (p - blo + 1) : Nat) : Int) := by rw [hss]; push_cast; rfl
            rw [es] at hd5
            have hse := sf_le x.cps.toList y.cps.toList alo blo (i + 1) (p - blo + 1)
            have hm2 : ∀ p ∈ off d2 nx2, p ∈ off d2 (nx2 ++ own2) := fun p hp => mem_off.mpr ⟨List.mem_append_left _ (mem_off.mp hp).1, (mem_off.mp hp).2⟩
            have ho3 : ∀ p ∈ own2, p ∈ off d2 (nx2 ++ own2) := fun p hp => mem_off.mpr ⟨List.mem_append_right _ hp, fun e => by
              rcases ho2 p hp with q | q
              · exact hnI2 _ hd2 (e.symm.trans q)
              · exact (hsub2 _ hlm3).2 (q.symm.trans e)⟩)
          · rename _ < (_ : Int) + 1 => hck
            rename Fr _ _ _ (fun y_1 => if y_1 = PySem.Str.ofString "besti" then _ else _) => F7
            have ei : (alo : Int) + (i : Int) - ((sf x.cps.toList y.cps.toList alo blo i (p - blo) : Nat) + 1) + 1 = ((alo + (i + 1) - sf x.cps.toList y.cps.toList alo blo (i + 1) (p - blo + 1) : Nat) : Int) := by (first | lia | omega)
            have ej : (p : Int) - ((sf x.cps.toList y.cps.toList alo blo i (p - blo) : Nat) + 1) + 1 = ((blo + (p - blo + 1) - sf x.cps.toList y.cps.toList alo blo (i + 1) (p - blo + 1) : Nat) : Int) := by (first | lia | omega)
            rw [ei, ej, es] at F7
            refine LPost_next (nx := (d2, o5) :: off d2 nx2) F7 (by assumption) (fun R kR => kR d2 u2 o5 _ _ _ _ _ _ _ (.head _) hd5 hlo2 (hJ2.take hp hp1 hp2 (by (first | lia | omega)) (by (first | lia | omega))) (.tail _ (mem_off.mpr ⟨hu2, hud⟩)) hud (fun p hp => ⟨.tail _ (mem_off.mpr (hsub2 p hp)), (hsub2 p hp).2⟩) ⟨rfl, rfl, rfl, rfl, rfl, rfl, rfl, rfl, rfl, rfl, rfl, rfl, rfl, rfl, rfl, trivial⟩) ?_ ?_ ?_
            · intro p hp
              rcases List.mem_cons.mp hp with rfl | hp
              · wtm_at "mt"
              · have := hm2 p hp
                wtm_at "mt"
            · intro p hp
              have := ho3 p hp
              wtm_at "mt"
            · intro p hp
              rcases List.mem_cons.mp hp with rfl | hp
              · show d2 ≠ I2
                exact hnI2 (d2, od2) hd2
              · exact hnI2 p (mem_off.mp hp).1
          · rename ¬ _ < (_ : Int) + 1 => hck
            refine LPost_next (nx := (d2, o5) :: off d2 nx2) (by assumption) (by assumption) (fun R kR => kR d2 u2 o5 _ ci cj ck _ _ _ (.head _) hd5 hlo2 (hJ2.put hsort hp hp1 hp2 (by (first | lia | omega))) (.tail _ (mem_off.mpr ⟨hu2, hud⟩)) hud (fun p hp => ⟨.tail _ (mem_off.mpr (hsub2 p hp)), (hsub2 p hp).2⟩) ⟨rfl, rfl, rfl, rfl, rfl, rfl, rfl, rfl, rfl, rfl, rfl, rfl, rfl, rfl, rfl, trivial⟩) ?_ ?_ ?_
            · intro p hp
              rcases List.mem_cons.mp hp with rfl | hp
              · wtm_at "mt"
              · have := hm2 p hp
                wtm_at "mt"
            · intro p hp
              have := ho3 p hp
              wtm_at "mt"
            · intro p hp
              rcases List.mem_cons.mp hp with rfl | hp
              · show d2 ≠ I2
                exact hnI2 (d2, od2) hd2
              · exact hnI2 p (mem_off.mp hp).1
      case done2 =>
        rintro m₂ nx2 h2 tk2 HJ F₃ N₃
        refine HJ _ fun d2 u2 od2 kvs2 ci cj ck r1 r2 r3 hd2 hod2 hlo2 hJ2 hu2 hud hsub2 hkn2 => ?_
        try dsimp only
        have hlen : vs.toArray.size = ps.length := by rw [List.size_toArray]; exact hna.length
        refine ⟨rfl, WEnd_mk F₃ N₃ (fun R kR => kR d2 od2 kvs2 ci cj ck r1 r2 r3 hd2 hod2 hlo2 (hJ2.fin hps.symm hb3 (fun q hq _ => by rw [hlen, List.take_of_length_le (Nat.le_refl _)]; exact hq) (Nat.le_of_eq hlen)) (fun p hp => (hsub2 p hp).1) ((hsub2 _ (List.mem_append_right _ hI)).1) (fun e => (hsub2 _ (List.mem_append_right _ hI)).2 e.symm) ?_) (fun p hp => hp)⟩
        obtain ⟨e1, e2, e3, e4, e5, e6, e7, e8, e9, e10, e11, e12, e13, e14, e15, _⟩ := hkn2
        exact ⟨e1, e2, e3, e4, e5, e6, e7, e8, e9, e10, e11, e12, e14, trivial⟩
  case done =>
    rintro m₁ nx h tk HJ F₁ N₁
    refine HJ _ fun u d1 od1 ln kvs ci cj ck q1 q2 q3 hu1 hd1 hod1 hlo1 hln hsub hJ hkn => ?_
    try dsimp only
    replace F₁ := Fr_kn F₁ hkn
    clear hkn
    have ha3 : ahi ≤ x.cps.toList.length := by simpa using ha2
    have hb3 : bhi ≤ y.cps.toList.length := by simpa using hb2'
    have hLg := hJ.2.1.isLg ha3 hb3 (fun r c h1 h2 => ⟨by (first | lia | omega), by (first | lia | omega)⟩)
    obtain ⟨hE1, hE2⟩ := hLg.ends ha3 hb3
    obtain ⟨hg1, hg2, hg3, hg4, _⟩ := id hLg
    have hbjn := hsub _ hbj
    wtm_at "ms"
    refine while_not F₁ N₁ ?t1 ?d1
    case t1 =>
      intro h1 tk1 F₂ N₂
      refine opqb fun PB hPB => ?_
      try dsimp only
      wtm_at "ms"
      all_goals (first
        | exact TEnd_mk (by assumption) (by assumption)
        | (exfalso
           rename (chr _ _ == chr _ _) = _ => c3
           rw [chr_beq (k := ci - 1) (l := cj - 1) (by (first | lia | omega)) (by (first | lia | omega))] at c3
           exact hE1 (by (first | lia | omega)) (by (first | lia | omega)) (of_decide_eq_true c3)))
    case d1 =>
      intro h1 tk1 F₂ N₂
      clear F₁ N₁
      wtm_at "ms"
      refine while_not F₂ N₂ ?t2 ?d2
      case t2 =>
        intro h2 tk2 F₃ N₃
        refine opqb fun PB hPB => ?_
        try dsimp only
        wtm_at "ms"
        all_goals (first
          | exact TEnd_mk (by assumption) (by assumption)
          | (exfalso
             rename (chr _ _ == chr _ _) = _ => c3
             rw [chr_beq (k := ci + ck) (l := cj + ck) (by (first | lia | omega)) (by (first | lia | omega))] at c3
             exact hE2 (by (first | lia | omega)) (by (first | lia | omega)) (of_decide_eq_true c3)))
      case d2 =>
        intro h2 tk2 F₃ N₃
        clear F₂ N₂
        wtm_at "ms"
        refine while_not F₃ N₃ ?t3 ?d3
        case t3 =>
          intro h3 tk3 F₄ N₄
          refine opqb fun PB hPB => ?_
          try dsimp only
          wtm_at "ms"
          all_goals exact TEnd_mk (by assumption) (by assumption)
        case d3 =>
          intro h3 tk3 F₄ N₄
          clear F₃ N₃
          wtm_at "ms"
          refine while_not F₄ N₄ ?t4 ?d4
          case t4 =>
            intro h4 tk4 F₅ N₅
            refine opqb fun PB hPB => ?_
            try dsimp only
            wtm_at "ms"
            all_goals exact TEnd_mk (by assumption) (by assumption)
          case d4 =>
            intro h4 tk4 F₅ N₅
            clear F₄ N₄
            wtm_at "ms"
            refine mk_match w mean mg mb _ _ _ _ _ _ _ _ _ _ _ _ _ _ _ _ ci cj ck q1 q2 q3 _ _ (by assumption) (by assumption) (by assumption) (by assumption) (by assumption) rfl ?hd9 ?hu9 ?_
            case hd9 => show dp + 1 + 10 < recursionLimit; (first | lia | omega)
            case hu9 => show un + 3 + 100 < cLine; (first | lia | omega)
            intro r d tl h5 tk5 F6 N6
            wtm_at "ms"
            obtain ⟨z1, z2⟩ := lg_spec (a := x.cps.toList) (b := y.cps.toList) ha1 hb1 ha3 hb3
            obtain ⟨rfl, rfl, rfl⟩ := hLg.uniq z2
            refine hret r d q1 q2 q3 (tl ++ nx) _ _ (by assumption) (News_sub (by assumption) ?_)
            intro p hp
            rcases List.mem_cons.mp hp with rfl | hp
            · exact .head _
            · rcases List.mem_append.mp hp with hp | hp
              · exact .tail _ hp
              · exact .tail _ (List.mem_append_right _ (hsub _ hp))
end
section
open PySem PySem.W PyProof.Rows PySem.Calls
local macro_rules | `(tactic| wtm_at "mx") => `(tactic| ((with_reducible refine' getm_new ?a ?b ?c); (case a => assumption); (case b => assumption)))
local macro_rules | `(tactic| wtm_at "mx call") => `(tactic| ((first | (with_reducible refine' tn_match ?a ?b ?c ?d ?e ?f) | (with_reducible refine' len_match ?a ?b ?c ?d ?e ?f)); (case a => assumption); (case b => assumption); (case c => assumption); (case d => wtm_at "mt"); (case e => exact Nat.le_of_ble_eq_true rfl); intros))
section
open PySem PySem.W PyProof.Rows PySem.Calls
set_option Elab.async false
set_option maxRecDepth 100000
set_option maxHeartbeats 4000000
set_option pp.deepTerms false
set_option pp.deepTerms.threshold 6
set_option linter.unusedSimpArgs false
theorem make_m (w : World) (mean : ExcName → Option Value) (mg mb : PySem.Str → Option Value)
   (dp un : Nat) (gd : Option (List Code)) (cn : PySem.Str) (cs : Scope) (a : Addr) (ccd : Value) (cl : List (PySem.Str × Addr)) (outer : List Env) (A₀ : Around) (base h₀ : Heap) (L : Addr) (m : PySem.Str → Option Value) (news : List (Addr × Obj)) (s : Shared)
   (meth c : Addr) (p : NNN) (t1 t2 t3 : Tok) (Q E : Value → Shared → Prop)
    (B : Below A₀ base outer h₀) (F : Fr h₀ L s.heap m) (X : (K w.params).In h₀) (N : News h₀ L s.heap news) (T : Top topProg LQ mean mg mb h₀) (hk : cs.kind = .function)
    (hm : (meth, methodObj (.ref 89) (.ref 135)) ∈ news) (hc : (c, tupN p t1 t2 t3) ∈ news)
    (hd : dp + 10 < recursionLimit) (hu : un + 100 < cLine)
    (hret : ∀ (r d : Addr) (tl : List (Addr × Obj)) (h' : Heap) (tk' : Nat), Fr h₀ L h' m → News h₀ L h' ((r, mN d p t1 t2 t3) :: (tl ++ news)) → Q (.ref r) { s with heap := h', toks := tk' }) :
    wpAny (model PySem.Challenge.pw_xe0001_01 w) (ktrTop dp un gd cn cs L a ccd cl outer).in1.in1.in1 (call (.ref meth) [.ref c]) Q E s := by
  have fill : K = K ∧ PySem.Challenge.rw_xe0001_01 = PySem.Challenge.rw_xe0001_01 := by (k_fill; exact ⟨rfl, rfl⟩)
  clear fill
  obtain ⟨sh0, sg0, sd0, st0, so0⟩ := s
  have hSt : Sts sg0 sd0 so0 := trivial
  (try dsimp only at F); (try dsimp only at N); (try dsimp only at hret)
  refine call_meth N hm ?_
  k_dflt (wtm_at "enter")
  wtm_at "ms"
  rename Fr h₀ L _ m => F6
  rename News h₀ L _ ((_, mObj _ _) :: _) => N6
  exact hret _ _ [(_, _)] _ _ F6 N6
end
section
open PySem PySem.W PyProof.Rows PySem.Calls
set_option Elab.async false
set_option maxRecDepth 100000
set_option maxHeartbeats 4000000
noncomputable abbrev tup4 (w : Win) (t1 t2 t3 t4 : Tok) : Obj := { cls := .type "tuple", data := .seq [Value.int (w.1 : Int) t1, .int (w.2.1 : Int) t2, .int (w.2.2.1 : Int) t3, .int (w.2.2.2 : Int) t4].toArray }
/-- values that stand for windows -/
noncomputable def OTW (p : Win) (o : Obj) : Prop := ∃ t1 t2 t3 t4, o = tup4 p t1 t2 t3 t4
noncomputable def TW (nw : List (Addr × Obj)) (vs : List Value) (ps : List (Win)) : Prop := TX OTW nw vs ps
theorem TW.nil {nw : List (Addr × Obj)} : TW nw [] [] := TX.nil
theorem TW.mono {nw nw' : List (Addr × Obj)} (k : ∀ p ∈ nw, p ∈ nw') {vs : List Value} {ps : List (Win)} (h : TW nw vs ps) : TW nw' vs ps := TX.map (fun _ _ _ m _ => k _ m) h
theorem TW.append {nw : List (Addr × Obj)} {vs vs' : List Value} {ps ps' : List (Win)} (h : TW nw vs ps) (h' : TW nw vs' ps') : TW nw (vs ++ vs') (ps ++ ps') := TX.append h h'
theorem TW.length {nw : List (Addr × Obj)} {vs : List Value} {ps : List (Win)} (h : TW nw vs ps) : vs.length = ps.length := h.1
theorem TW.one {nw : List (Addr × Obj)} {c : Addr} {p : Win} {t1 t2 t3 t4 : Tok} (h : (c, tup4 p t1 t2 t3 t4) ∈ nw) : TW nw [.ref c] [p] := TX.one h ⟨t1, t2, t3, t4, rfl⟩
theorem TW.snoc {nw : List (Addr × Obj)} {vs : List Value} {ps : List Win} {p : Win} (h : TW nw vs (ps ++ [p])) : ∃ vs' c t1 t2 t3 t4, vs = vs' ++ [.ref c] ∧ TW nw vs' ps ∧ (c, tup4 p t1 t2 t3 t4) ∈ nw := by
  obtain ⟨vs', c, _, e, r, m, t1, t2, t3, t4, rfl⟩ := TX.snoc h
  exact ⟨vs', c, t1, t2, t3, t4, e, r, m⟩
section
variable {prog : Program} {w : World} {A : Around} {E : Value → Shared → Prop} {s : Shared} {h₀ : Heap} {L D : Addr} {m : PySem.Str → Option Value} {news news' : List (Addr × Obj)}
theorem pop_L {vs : List Value} {v : Value} {n : Nat} {Q : Value → Shared → Prop} (F : Fr h₀ L s.heap m) (N : News h₀ L s.heap news) (U : Upd D (listOf (vs ++ [v]).toArray n) (listOf vs.toArray (n + 1)) news news') (hz : vs.length ≤ 1000)
    (h : ∀ h', Fr h₀ L h' m → News h₀ L h' news' → Q v { s with heap := h' }) : wpAny (model prog w) A (call (.builtin "list.pop") [.ref D]) Q E s :=
  kl_pop F N (by simpa using kpa_last v vs) U (by simp only [List.length_append, List.length_cons, List.length_nil, sizeLine_eq]; (first | lia | omega)) h
theorem tr_list {l : Addr} {vs : List Value} {n : Nat} {Q : Bool → Shared → Prop} (N : News h₀ L s.heap news) (hl : (l, listOf vs.toArray n) ∈ news) (hz : vs.length ≤ 1000) (b : Bool) (hb : (!vs.isEmpty) = b)
    (h : Q b { s with toks := s.toks + 1 + 1 }) : wpAny (model prog w) A (truthy (.ref l)) Q E s :=
  wpAny_truthy_list ⟨_, (N _ hl).1, rfl, n, rfl⟩ (by simp only [List.size_toArray]; (first | lia | omega)) (by rw [List.isEmpty_toArray, hb]; exact h)
end
theorem LPost_X {h₀ h' : Heap} {L I ln : Addr} {J : (PySem.Str → Option Value) → List (Addr × Obj) → Prop} {own R2 : List (Addr × Obj)} {oI : Obj} {m' : PySem.Str → Option Value} {s₁ : Shared} {tk n : Nat} {Q : Flow → Shared → Prop} {vs : List Value} (X : List (Addr × Obj))
    (F : Fr h₀ L h' m') (N : News h₀ L h' (X ++ (ln, listOf vs.toArray n) :: (R2 ++ own))) (hX : ∀ p ∈ X, p.2.cls = .type "tuple") (hoff : ∀ p ∈ R2, p.1 ≠ ln) (hI : (I, oI) ∈ own) (hit : isIt oI = true) (hnI2 : ∀ p ∈ R2, p.1 ≠ I) (hnIl : ln ≠ I)
    (hJ : (∀ p ∈ X ++ R2, p.1 ≠ ln) → J m' ((ln, listOf vs.toArray n) :: (X ++ R2))) : LPost h₀ L I J own s₁ Q .next { s₁ with heap := h', toks := tk } := by
  have hl : (ln, listOf vs.toArray n) ∈ X ++ (ln, listOf vs.toArray n) :: (R2 ++ own) := List.mem_append_right _ (.head _)
  have hIn : (I, oI) ∈ X ++ (ln, listOf vs.toArray n) :: (R2 ++ own) := List.mem_append_right _ (.tail _ (List.mem_append_right _ hI))
  refine LPost_next F N (hJ fun p hp => ?_) (fun p hp => ?_) (fun p hp => List.mem_append_right _ (.tail _ (List.mem_append_right _ hp))) (fun p hp => ?_)
  · rcases List.mem_append.mp hp with hp | hp
    · exact ne_of_obj (o := p.2) N (List.mem_append_left _ hp) hl (by rw [hX p hp]; exact fun e => absurd (Value.type.inj e) (by decide))
    · exact hoff p hp
  · rcases List.mem_cons.mp hp with rfl | hp
    · exact hl
    · rcases List.mem_append.mp hp with hp | hp
      · exact List.mem_append_left _ hp
      · exact List.mem_append_right _ (.tail _ (List.mem_append_left _ hp))
  · rcases List.mem_cons.mp hp with rfl | hp
    · exact hnIl
    · rcases List.mem_append.mp hp with hp | hp
      · exact off_it (o := p.2) N (List.mem_append_left _ hp) hIn hit (by unfold isIt; rw [hX p hp]; rfl)
      · exact hnI2 p hp
/-- the Matches of a ledger -/
noncomputable def mats (nx : List (Addr × Obj)) : List (Addr × Obj) := nx.filter fun p => p.2.cls == .ref 135
theorem mem_mats {nx : List (Addr × Obj)} {p : Addr × Obj} : p ∈ mats nx ↔ p ∈ nx ∧ p.2.cls = .ref 135 := by simp [mats]
theorem TM.mats {nx : List (Addr × Obj)} {vs : List Value} {ps : List NNN} (t : TM nx vs ps) : TM (Mine.mats nx) vs ps :=
  TX.map (fun c o p m q => mem_mats.mpr ⟨m, by obtain ⟨_, _, _, _, rfl⟩ := q; rfl⟩) t
/-- a ledger in order: the matcher's fields first, then a list of Matches -/
theorem mat_norm {h₀ h : Heap} {L S D : Addr} {oD : Obj} {fs : List (PySem.Str × Value)} {vs : List Value} {c : Nat} {nx rest : List (Addr × Obj)} (N : News h₀ L h ((S, listOf vs.toArray c) :: nx)) (hM : MD fs oD) (hD : (D, oD) ∈ nx) (hr : ∀ p ∈ rest, p ∈ nx) (hoff : ∀ p ∈ rest, p.1 ≠ D) :
    News h₀ L h ((D, oD) :: (S, listOf vs.toArray c) :: (mats nx ++ rest)) ∧ ∀ p ∈ (S, listOf vs.toArray c) :: (mats nx ++ rest), p.1 ≠ D := by
  constructor
  · refine News_sub N fun p hp => ?_
    rcases List.mem_cons.mp hp with rfl | hp
    · exact .tail _ hD
    · rcases List.mem_cons.mp hp with rfl | hp
      · exact .head _
      · rcases List.mem_append.mp hp with hp | hp
        · exact .tail _ (mem_mats.mp hp).1
        · exact .tail _ (hr p hp)
  · refine List.forall_mem_cons.mpr ⟨ne_of_obj N (.head _) (.tail _ hD) (by rw [hM.cls]; exact fun e => absurd (Value.type.inj e) (by decide)), fun p hp => ?_⟩
    rcases List.mem_append.mp hp with hp | hp
    · exact ne_of_obj (o := p.2) N (.tail _ (mem_mats.mp hp).1) (.tail _ hD) (by rw [hM.cls, (mem_mats.mp hp).2]; exact fun e => nomatch e)
    · exact hoff p hp
/-- the tuples of a ledger -/
noncomputable def tups (nx : List (Addr × Obj)) : List (Addr × Obj) := nx.filter fun p => p.2.cls == .type "tuple"
theorem mem_tups {nx : List (Addr × Obj)} {p : Addr × Obj} : p ∈ tups nx ↔ p ∈ nx ∧ p.2.cls = .type "tuple" := by simp [tups]
theorem tup_norm {h₀ h : Heap} {L S D : Addr} {oD : Obj} {fs : List (PySem.Str × Value)} {vs : List Value} {c : Nat} {nx rest : List (Addr × Obj)} (N : News h₀ L h ((S, listOf vs.toArray c) :: nx)) (hM : MD fs oD) (hD : (D, oD) ∈ nx) (hr : ∀ p ∈ rest, p ∈ nx) (hoff : ∀ p ∈ rest, p.1 ≠ D) :
    News h₀ L h ((D, oD) :: (S, listOf vs.toArray c) :: (tups nx ++ rest)) ∧ ∀ p ∈ (S, listOf vs.toArray c) :: (tups nx ++ rest), p.1 ≠ D := by
  constructor
  · refine News_sub N fun p hp => ?_
    rcases List.mem_cons.mp hp with rfl | hp
    · exact .tail _ hD
    · rcases List.mem_cons.mp hp with rfl | hp
      · exact .head _
      · rcases List.mem_append.mp hp with hp | hp
        · exact .tail _ (mem_tups.mp hp).1
        · exact .tail _ (hr p hp)
  · refine List.forall_mem_cons.mpr ⟨ne_of_obj N (.head _) (.tail _ hD) (by rw [hM.cls]; exact fun e => absurd (Value.type.inj e) (by decide)), fun p hp => ?_⟩
    rcases List.mem_append.mp hp with hp | hp
    · exact ne_of_obj (o := p.2) N (.tail _ (mem_tups.mp hp).1) (.tail _ hD) (by rw [hM.cls, (mem_tups.mp hp).2]; exact fun e => absurd (Value.type.inj e) (by decide))
    · exact hoff p hp
theorem tup_all1 {a : Addr × Obj} (h : a.2.cls = .type "tuple") : ∀ p ∈ [a], p.2.cls = .type "tuple" := List.forall_mem_cons.mpr ⟨h, fun _ hp => nomatch hp⟩
theorem tup_all2 {a b : Addr × Obj} (h : a.2.cls = .type "tuple") (h' : b.2.cls = .type "tuple") : ∀ p ∈ [a, b], p.2.cls = .type "tuple" := List.forall_mem_cons.mpr ⟨h, tup_all1 h'⟩
theorem swap2 {α : Type} {p a b : α} {R : List α} (h : p ∈ b :: a :: R) : p ∈ a :: b :: R := by
  rcases List.mem_cons.mp h with rfl | h
  · exact .tail _ (.head _)
  · rcases List.mem_cons.mp h with rfl | h
    · exact .head _
    · exact .tail _ (.tail _ h)
end
section
open PySem PySem.W PyProof.Rows PySem.Calls
local macro_rules | `(tactic| wtm_at "mx call") => `(tactic| ((with_reducible refine' pop_L ?a ?b ?c ?d ?e); (case a => assumption); (case b => assumption); (case c => k_upd); (case d => wtm_at "om"); intro _ _ _))
local macro_rules | `(tactic| wtm_at "mx") => `(tactic| ((with_reducible show wpAny _ _ (assign (PySem.Expr.Tuple _ _ _) _ (Value.ref _)) _ _ _); (first | refine m_assign (by assumption) (by assumption) (by assumption) (by wtm_at "mt") (by exact rfl) (by exact rfl) (by exact rfl) ?_ | refine unpackN_ (by assumption) (by assumption) (News.isTup (by assumption) (by wtm_at "mt")) rfl rfl rfl ?_); intro _ _ _; (try dsimp only)))
local macro_rules | `(tactic| wtm_at "st exec") => `(tactic| with_reducible first | refine' zq20 ?_)
local macro_rules | `(tactic| wtm_at "st") => `(tactic| with_reducible first | refine' zq21 ?_)
local macro_rules | `(tactic| wtm_at "st call") => `(tactic| with_reducible first | refine' zq22 ?_)
section
open PySem PySem.W PyProof.Rows PySem.Calls
set_option Elab.async false
set_option maxRecDepth 100000
set_option maxHeartbeats 4000000
set_option pp.deepTerms false
set_option pp.deepTerms.threshold 6
set_option linter.unusedSimpArgs false
theorem WEnd_pick {h₀ h' : Heap} {L : Addr} {m' : PySem.Str → Option Value} {s : Shared} {tk' : Nat} {P : (PySem.Str → Option Value) → List (Addr × Obj) → Prop} {x a b : Addr × Obj} {R : List (Addr × Obj)} (F : Fr h₀ L h' m') (N : News h₀ L h' (x :: a :: b :: R)) (hP : P m' (a :: b :: x :: R)) : WEnd h₀ L P s { s with heap := h', toks := tk' } :=
  WEnd_mk F N hP fun p hp => by
    rcases List.mem_cons.mp hp with rfl | hp
    · exact .tail _ (.head _)
    · rcases List.mem_cons.mp hp with rfl | hp
      · exact .tail _ (.tail _ (.head _))
      · rcases List.mem_cons.mp hp with rfl | hp
        · exact .head _
        · exact .tail _ (.tail _ (.tail _ hp))
theorem WStep_pick {h₀ h' : Heap} {L : Addr} {m' : PySem.Str → Option Value} {s : Shared} {tk' n : Nat} {Q : Flow → Shared → Prop} {J : Nat → (PySem.Str → Option Value) → List (Addr × Obj) → Prop} {x a b : Addr × Obj} {R : List (Addr × Obj)} (n' : Nat) (F : Fr h₀ L h' m') (N : News h₀ L h' (x :: a :: b :: R)) (hn : n' < n) (hP : J n' m' (a :: b :: x :: R)) : WhileStep2 h₀ L s J Q n .next { s with heap := h', toks := tk' } :=
  WStep_next n' F N hn hP fun p hp => by
    rcases List.mem_cons.mp hp with rfl | hp
    · exact .tail _ (.head _)
    · rcases List.mem_cons.mp hp with rfl | hp
      · exact .tail _ (.tail _ (.head _))
      · rcases List.mem_cons.mp hp with rfl | hp
        · exact .head _
        · exact .tail _ (.tail _ (.tail _ hp))
noncomputable def GBw (x y : PySem.Str) (xm D : Addr) (oD : Obj) (rest : List (Addr × Obj)) (n : Nat) (m' : PySem.Str → Option Value) (nx : List (Addr × Obj)) : Prop :=
  ∀ Rz : Prop, (∀ (lq : Addr) (qv : List Value) (qn : Nat) (lm : Addr) (mv : List Value) (mn : Nat) (R : List (Addr × Obj)) (ws : List Win) (found : List NNN) (u1 u2 : Tok), n = wk ws →
    (∀ p ∈ (lq, listOf qv.toArray qn) :: (lm, listOf mv.toArray mn) :: R, p ∈ nx) →
    (∀ p ∈ R, p.1 ≠ lq) →
    (∀ p ∈ R, p.1 ≠ lm) →
    lq ≠ lm →
    TW R qv ws →
    TM R mv found →
    (∀ p ∈ (D, oD) :: rest, p ∈ R) →
    QI x.cps.toList y.cps.toList ws found →
    wk ws ≤ 121 →
    Kns m' [("self", .ref xm), ("la", .int (x.cps.size : Nat) u1), ("lb", .int (y.cps.size : Nat) u2), ("queue", .ref lq), ("matching_blocks", .ref lm)] → Rz) → Rz
noncomputable def GBd (x y : PySem.Str) (xm D : Addr) (oD : Obj) (rest : List (Addr × Obj)) (m' : PySem.Str → Option Value) (nx : List (Addr × Obj)) : Prop :=
  ∀ Rz : Prop, (∀ (lm : Addr) (mv : List Value) (mn : Nat) (R : List (Addr × Obj)) (found : List NNN) (u1 u2 : Tok), (∀ p ∈ (lm, listOf mv.toArray mn) :: R, p ∈ nx) →
    (∀ p ∈ R, p.1 ≠ lm) →
    TM R mv found →
    (∀ p ∈ (D, oD) :: rest, p ∈ R) →
    QI x.cps.toList y.cps.toList [] found →
    Kns m' [("self", .ref xm), ("la", .int (x.cps.size : Nat) u1), ("lb", .int (y.cps.size : Nat) u2), ("matching_blocks", .ref lm)] → Rz) → Rz
noncomputable def GBm (x y : PySem.Str) (xm lq lm r d : Addr) (q1 q2 q3 w2 w4 : Tok) (t : NNN) (wn : Win) (ws' : List Win) (mv : List Value) (mn : Nat) (R : List (Addr × Obj)) (u1 u2 : Tok) (m' : PySem.Str → Option Value) (nx : List (Addr × Obj)) : Prop :=
  ∀ Rz : Prop, (∀ (z1 : List Win) (qv1 : List Value) (qn1 : Nat) (R1 : List (Addr × Obj)), ((z1 = [(wn.1, t.1, wn.2.2.1, t.2.1)] ∨ (z1 = [] ∧ (wn.1 = t.1 ∨ wn.2.2.1 = t.2.1)))) →
    (∀ p ∈ (lq, listOf qv1.toArray qn1) :: (lm, listOf (mv ++ [Value.ref r]).toArray (mn + 1)) :: R1, p ∈ nx) →
    (∀ p ∈ (lm, listOf (mv ++ [Value.ref r]).toArray (mn + 1)) :: R1, p.1 ≠ lq) →
    (∀ p ∈ R1, p.1 ≠ lm) →
    TW R1 qv1 (ws' ++ z1) →
    (∀ p ∈ (r, mN d t q1 q2 q3) :: R, p ∈ R1) →
    qv1.length ≤ 501 →
    Kns m' [("self", .ref xm), ("la", .int (x.cps.size : Nat) u1), ("lb", .int (y.cps.size : Nat) u2), ("queue", .ref lq), ("matching_blocks", .ref lm), ("i", .int (t.1 : Nat) q1), ("j", .int (t.2.1 : Nat) q2), ("k", .int (t.2.2 : Nat) q3), ("ahi", .int (wn.2.1 : Nat) w2), ("bhi", .int (wn.2.2.2 : Nat) w4)] → Rz) → Rz
noncomputable def GBj (x y : PySem.Str) (xm lm : Addr) (ps : List NNN) (R : List (Addr × Obj)) (u1 u2 : Tok) (i : Nat) (m' : PySem.Str → Option Value) (nx : List (Addr × Obj)) : Prop :=
  ∀ Rz : Prop, (∀ (nd : List NNN) (i1 j1 k1 : Nat) (ln : Addr) (nv : List Value) (nn : Nat) (R2 : List (Addr × Obj)) (u3 u4 u5 : Tok), (ps.take i).foldl gstep ([], 0, 0, 0) = (nd, i1, j1, k1) →
    (∀ p ∈ (ln, listOf nv.toArray nn) :: R2, p ∈ nx) →
    (∀ p ∈ R2, p.1 ≠ ln) →
    ln ≠ lm →
    TR R2 nv nd →
    (∀ p ∈ R, p ∈ R2) →
    Kns m' [("self", .ref xm), ("la", .int (x.cps.size : Nat) u1), ("lb", .int (y.cps.size : Nat) u2), ("non_adjacent", .ref ln), ("i1", .int (i1 : Nat) u3), ("j1", .int (j1 : Nat) u4), ("k1", .int (k1 : Nat) u5)] → Rz) → Rz
theorem gmb (w : World) (mean : ExcName → Option Value) (mg mb : PySem.Str → Option Value)
   (dp un : Nat) (gd : Option (List Code)) (cn : PySem.Str) (cs : Scope) (a : Addr) (ccd : Value) (cl : List (PySem.Str × Addr)) (outer : List Env) (A₀ : Around) (base h₀ : Heap) (L : Addr) (m : PySem.Str → Option Value) (rest : List (Addr × Obj)) (s : Shared)
   (x y : PySem.Str) (tx ty : Tok) (xm D b2 bj bp : Addr) (oc fc : Value) (oD : Obj) (Q E : Value → Shared → Prop)
    (B : Below A₀ base outer h₀) (F : Fr h₀ L s.heap m) (X : (K w.params).In h₀) (N : News h₀ L s.heap ((D, oD) :: rest)) (T : Top topProg LQ mean mg mb h₀) (hk : cs.kind = .function)
    (hx : x.cps.size ≤ 60) (hy : y.cps.size ≤ 60) (hoff : ∀ p ∈ rest, p.1 ≠ D)
    (hM : MD (FS x y tx ty .none oc fc (.ref b2) (.ref bj) (.ref bp)) oD) (hR : MatR w y xm D b2 bj rest)
    (hd : dp + 120 < recursionLimit) (hu : un + 1200 < cLine)
    (hret : ∀ l vs n o' tl h' tk', Fr h₀ L h' m → News h₀ L h' ((D, o') :: (l, listOf vs.toArray n) :: (tl ++ rest)) → MD (FS x y tx ty (.ref l) oc fc (.ref b2) (.ref bj) (.ref bp)) o' → TM tl vs (blocksF x.cps.toList y.cps.toList) → (∀ p ∈ (l, listOf vs.toArray n) :: (tl ++ rest), p.1 ≠ D) → Q (.ref l) { s with heap := h', toks := tk' }) :
    wpAny (model PySem.Challenge.pw_xe0001_01 w) (ktrTop dp un gd cn cs L a ccd cl outer) (call (.ref 203) [.ref xm]) Q E s := by
  have fill : K = K ∧ PySem.Challenge.rw_xe0001_01 = PySem.Challenge.rw_xe0001_01 := by (k_fill; exact ⟨rfl, rfl⟩)
  clear fill
  obtain ⟨sh0, sg0, sd0, st0, so0⟩ := s
  have hSt : Sts sg0 sd0 so0 := trivial
  dsimp only at F N hret
  have hxm := hR.1
  have hx1 : x.cps.size ≤ 100 := by (first | lia | omega)
  have hy1 : y.cps.size ≤ 100 := by (first | lia | omega)
  refine wpAny_call ?_
  k_dflt (wtm_at "enter")
  refine wpAny_mono (E := NoE) ?_ (fun _ _ h => h) (fun _ _ h => h.elim)
  refine opq fun PQ hPQ => ?_
  wtm_at "ms"
  refine while_M (fun n m' nx => GBw x y xm D oD rest n m' nx)
    (fun m' nx => GBd x y xm D oD rest m' nx)
    (wk [(0, x.cps.toList.length, 0, y.cps.toList.length)]) (by assumption) (by assumption) ?J0 ?turn ?done
  case J0 =>
    rename _ < _ ∧ _ < _ ∧ _ < _ ∧ _ < _ ∧ AllLt _ rest => hA
    rename _ < _ ∧ _ < _ ∧ _ < _ ∧ AllLt _ rest => hB
    refine (fun _ kz => kz _ ([.ref _]) 0 _ ([]) 0 _ ([(0, x.cps.toList.length, 0, y.cps.toList.length)]) ([]) _ _ rfl (fun p hp => swap2 hp) ?_ ?_ (Nat.ne_of_lt hA.1) (TW.one (.head _)) TM.nil (fun p hp => .tail _ (.tail _ hp)) QI.start ?_ ⟨rfl, rfl, rfl, rfl, rfl, trivial⟩)
    · exact List.forall_mem_cons.mpr ⟨Nat.ne_of_lt hB.1, List.forall_mem_cons.mpr ⟨Nat.ne_of_lt hB.2.1, List.forall_mem_cons.mpr ⟨Nat.ne_of_lt hB.2.2.1, fun p hp => Nat.ne_of_lt (allLt_mem hB.2.2.2 hp)⟩⟩⟩
    · exact List.forall_mem_cons.mpr ⟨Nat.ne_of_lt hA.2.1, List.forall_mem_cons.mpr ⟨Nat.ne_of_lt hA.2.2.1, List.forall_mem_cons.mpr ⟨Nat.ne_of_lt hA.2.2.2.1, fun p hp => Nat.ne_of_lt (allLt_mem hA.2.2.2.2 hp)⟩⟩⟩
    · simp only [wk, Array.length_toList]; (first | lia | omega)
  case turn =>
    rintro n m₁ nx h tk HJ F₁ N₁
    refine opqw fun PQ VQ hPQ hVQ => ?_
    try dsimp only
    refine HJ _ fun lq qv qn lm mv mn R ws found u1 u2 hq_ hsub hoq hom hqm hTW hTM hb0 hQ hwk hkn => ?_
    subst hq_
    replace F₁ := Fr_kn F₁ hkn
    clear hkn
    replace N₁ := News_sub N₁ hsub
    clear hsub
    have hql : qv.length ≤ 1000 := by have := hTW.length; have := len_wk ws; (first | lia | omega)
    rcases List.eq_nil_or_concat ws with rfl | ⟨ws', wn, rfl⟩
    · have hq0 : qv = [] := List.eq_nil_of_length_eq_zero hTW.length
      subst hq0
      wtm_at "ms"
      refine tr_list (by assumption) (.head _) hql false rfl ?_
      simp only [Bool.false_eq_true, if_false]
      refine hVQ _ ?_
      exact WEnd_mk (nx' := (lm, listOf mv.toArray mn) :: R) (by assumption) (by assumption) (fun _ kz => kz lm mv mn R found u1 u2 (fun p hp => hp) hom hTM hb0 hQ ⟨rfl, rfl, rfl, rfl, trivial⟩) (fun p hp => .tail _ hp)
    · rw [List.concat_eq_append] at hTW hQ hwk
      obtain ⟨qv', wc, w1, w2, w3, w4, rfl, hTW', hwc⟩ := hTW.snoc
      simp only [List.length_append, List.length_cons, List.length_nil] at hql
      have hxmR := hb0 _ (.tail _ hxm)
      have hDR := hb0 _ (.head _)
      have hoqm : ∀ p ∈ (lm, listOf mv.toArray mn) :: R, p.1 ≠ lq := List.forall_mem_cons.mpr ⟨Ne.symm hqm, hoq⟩
      wtm_at "ms"
      refine tr_list (by assumption) (.head _) (by simp only [List.length_append, List.length_cons, List.length_nil]; (first | lia | omega)) true (by simp) ?_
      simp only [if_true]
      wtm_at "ms"
      obtain ⟨v1, v2, v3, v4⟩ := hQ.1 wn (by simp)
      refine find_lg w mean mg mb _ _ _ _ _ _ _ _ _ _ _ _ _ _ _ _ x y tx ty xm D b2 bj bp .none oc fc oD wn.1 wn.2.1 wn.2.2.1 wn.2.2.2 _ _ _ _ _ _ (by assumption) (by assumption) (by assumption) (by assumption) (by assumption) rfl hx1 hy1 v1 (by simpa using v2) v3 (by simpa using v4) (.tail _ (.tail _ hDR)) hM (hR.mono fun p hp => .tail _ (.tail _ (hb0 _ (.tail _ hp)))) ?hd ?hu ?_
      case hd => show dp + 1 + 104 < recursionLimit; (first | lia | omega)
      case hu => show un + 3 + 1000 < cLine; (first | lia | omega)
      intro r d q1 q2 q3 tl h5 tk5 F5 N5
      have hrq : r ≠ lq := ne_of_obj N5 (.head _) (.tail _ (List.mem_append_right _ (.head _))) (fun e => nomatch e)
      have hrm : r ≠ lm := ne_of_obj N5 (.head _) (.tail _ (List.mem_append_right _ (.tail _ (.head _)))) (fun e => nomatch e)
      replace N5 : News _ _ _ ((lq, listOf qv'.toArray (qn + 1)) :: (lm, listOf mv.toArray mn) :: (r, mN d (lgW x.cps.toList y.cps.toList wn) q1 q2 q3) :: R) := News_sub N5 (fun p hp => by
        rcases List.mem_cons.mp hp with rfl | hp
        · exact .tail _ (List.mem_append_right _ (.head _))
        · rcases List.mem_cons.mp hp with rfl | hp
          · exact .tail _ (List.mem_append_right _ (.tail _ (.head _)))
          · rcases List.mem_cons.mp hp with rfl | hp
            · exact .head _
            · exact .tail _ (List.mem_append_right _ (.tail _ (.tail _ hp))))
      have hoq5 : ∀ p ∈ (lm, listOf mv.toArray mn) :: (r, mN d (lgW x.cps.toList y.cps.toList wn) q1 q2 q3) :: R, p.1 ≠ lq := List.forall_mem_cons.mpr ⟨Ne.symm hqm, List.forall_mem_cons.mpr ⟨hrq, hoq⟩⟩
      have hom5 : ∀ p ∈ (r, mN d (lgW x.cps.toList y.cps.toList wn) q1 q2 q3) :: R, p.1 ≠ lm := List.forall_mem_cons.mpr ⟨hrm, hom⟩
      have hQ0 := fun h0 => hQ.skip (w := wn) h0
      have hQ1 := fun (z1 z2 : List Win) h0 h1 h2 => hQ.take (x := z1) (y := z2) (w := wn) h0 h1 h2
      have hmvl : mv.length ≤ 1000 := by have := hTM.length; have := hQ.length; simp only [Array.length_toList] at this; (first | lia | omega)
      obtain ⟨g1, g2, g3, g4, _⟩ := (show VW x.cps.toList y.cps.toList wn from ⟨v1, v2, v3, v4⟩).lg
      generalize lgW x.cps.toList y.cps.toList wn = t at *
      have hqvl : qv'.length ≤ 500 := by have := hTW'.length; have := len_wk ws'; rw [wk_append] at hwk; (first | lia | omega)
      wtm_at "ms"
      · rename Fr _ _ _ (fun y_1 => if y_1 = PySem.Str.ofString "x" then _ else _) => F6
        rename News _ _ _ ((lq, _) :: (lm, _) :: (r, _) :: R) => N6
        rename ¬ _ = _ => hkne
        (try clear F₁)
        refine join_at F6 (fun m' nx => GBm x y xm lq lm r d q1 q2 q3 w2 w4 t wn ws' mv mn R u1 u2 m' nx) ?if1 ?af1
        case if1 =>
          refine opq fun PQ hPQ => ?_
          have hoq7 : ∀ p ∈ (lm, listOf (mv ++ [Value.ref r]).toArray (mn + 1)) :: (r, mN d t q1 q2 q3) :: R, p.1 ≠ lq := List.forall_mem_cons.mpr ⟨Ne.symm hqm, List.forall_mem_cons.mpr ⟨hrq, hoq⟩⟩
          wtm_at "m1"
          wtm_at "ms"
          · rename _ < _ ∧ _ < _ ∧ _ < _ ∧ AllLt _ R => hc
            rename News _ _ _ (_ :: (lq, _) :: _) => N8
            refine WEnd_pick (by assumption) N8 (fun _ kz => kz ([(wn.1, t.1, wn.2.2.1, t.2.1)]) (qv' ++ [Value.ref _]) (qn + 1 + 1) (_ :: (r, mN d t q1 q2 q3) :: R) (.inl rfl) (fun p hp => hp) ?_ ?_ ((hTW'.mono fun p hp => .tail _ (.tail _ hp)).append (TW.one (t1 := w1) (t2 := q1) (t3 := w3) (t4 := q2) (.head _))) (fun p hp => .tail _ hp) ?_ ⟨rfl, rfl, rfl, rfl, rfl, rfl, rfl, rfl, rfl, rfl, trivial⟩)
            · exact List.forall_mem_cons.mpr ⟨Ne.symm hqm, List.forall_mem_cons.mpr ⟨Nat.ne_of_gt hc.1, List.forall_mem_cons.mpr ⟨hrq, hoq⟩⟩⟩
            · exact List.forall_mem_cons.mpr ⟨Nat.ne_of_gt hc.2.1, List.forall_mem_cons.mpr ⟨hrm, hom⟩⟩
            · simp only [List.length_append, List.length_cons, List.length_nil]; (first | lia | omega)
          all_goals
            exact (WEnd_mk (by assumption) (by assumption) (fun _ kz => kz ([]) qv' (qn + 1) _ (.inr ⟨rfl, by (first | lia | omega)⟩) (fun p hp => hp) (List.forall_mem_cons.mpr ⟨Ne.symm hqm, List.forall_mem_cons.mpr ⟨hrq, hoq⟩⟩) hom5 (by rw [List.append_nil]; exact hTW'.mono fun p hp => .tail _ hp) (fun p hp => hp) (by (first | lia | omega)) ⟨rfl, rfl, rfl, rfl, rfl, rfl, rfl, rfl, rfl, rfl, trivial⟩) (fun p hp => hp))
        case af1 =>
          rintro m₂ nx2 h2 tk2 HJ F7 N7
          refine HJ _ fun z1 qv1 qn1 R1 hz1 hsub2 hoq6 hom6 hTW6 hsubR hql1 hkn2 => ?_
          try dsimp only
          replace F7 := Fr_kn F7 hkn2
          clear hkn2
          replace N7 := News_sub N7 hsub2
          have hb1 : ∀ p ∈ (D, oD) :: rest, p ∈ R1 := fun p hp => hsubR p (.tail _ (hb0 p hp))
          have hTM1 : TM R1 (mv ++ [Value.ref r]) (found ++ [t]) := (hTM.mono fun p hp => hsubR p (.tail _ hp)).append (TM.one (hsubR _ (.head _)))
          have hk0 : t.2.2 ≠ 0 := by (first | lia | omega)
          wtm_at "ms"
          wtm_at "m1"
          wtm_at "ms"
          · rename _ < _ ∧ _ < _ ∧ AllLt _ R1 => hc
            obtain ⟨hQ2, hwk2⟩ := hQ1 z1 [(t.1 + t.2.2, wn.2.1, t.2.1 + t.2.2, wn.2.2.2)] hk0 hz1 (.inl rfl)
            rename News _ _ _ (_ :: (lq, _) :: _) => N8
            refine WStep_pick _ (by assumption) N8 (by rw [List.concat_eq_append]; exact hwk2) (fun _ kz => kz lq (qv1 ++ [Value.ref _]) (qn1 + 1) lm (mv ++ [Value.ref r]) (mn + 1) (_ :: R1) (ws' ++ z1 ++ [(t.1 + t.2.2, wn.2.1, t.2.1 + t.2.2, wn.2.2.2)]) (found ++ [t]) u1 u2 rfl (fun p hp => hp) ?_ ?_ hqm ((hTW6.mono fun p hp => .tail _ hp).append (TW.one (.head _))) (hTM1.mono fun p hp => .tail _ hp) (fun p hp => .tail _ (hb1 p hp)) hQ2 (by (first | lia | omega)) ⟨rfl, rfl, rfl, rfl, rfl, trivial⟩)
            · exact List.forall_mem_cons.mpr ⟨Nat.ne_of_gt hc.1, fun p hp => hoq6 p (.tail _ hp)⟩
            · exact List.forall_mem_cons.mpr ⟨Nat.ne_of_gt hc.2.1, hom6⟩
          all_goals
            obtain ⟨hQ2, hwk2⟩ := hQ1 z1 [] hk0 hz1 (.inr ⟨rfl, by (first | lia | omega)⟩)
            rw [List.append_nil] at hQ2 hwk2
            exact WStep_next _ (by assumption) (by assumption) (by rw [List.concat_eq_append]; exact hwk2) (fun _ kz => kz lq qv1 qn1 lm (mv ++ [Value.ref r]) (mn + 1) R1 _ (found ++ [t]) u1 u2 rfl (fun p hp => hp) (fun p hp => hoq6 p (.tail _ hp)) hom6 hqm hTW6 hTM1 hb1 hQ2 (by (first | lia | omega)) ⟨rfl, rfl, rfl, rfl, rfl, trivial⟩) (fun p hp => hp)
      · have hk0 : t.2.2 = 0 := by (first | lia | omega)
        exact WStep_next (wk ws') (by assumption) (by assumption) (by rw [List.concat_eq_append, wk_append]; simp only [wk]; (first | lia | omega)) (fun _ kz => kz lq qv' (qn + 1) lm mv mn ((r, mN d t q1 q2 q3) :: R) ws' found u1 u2 rfl (fun p hp => hp) (List.forall_mem_cons.mpr ⟨hrq, hoq⟩) hom5 hqm (hTW'.mono fun p hp => .tail _ hp) (hTM.mono fun p hp => .tail _ hp) (fun p hp => .tail _ (hb0 p hp)) (hQ0 hk0) (by rw [wk_append] at hwk; (first | lia | omega)) ⟨rfl, rfl, rfl, rfl, rfl, trivial⟩) (fun p hp => hp)
  case done =>
    rintro m₁ nx h tk HJ F₁ N₁
    refine HJ _ fun lm mv mn R found u1 u2 hsub hom hTM hb0 hQ hkn => ?_
    try dsimp only
    replace F₁ := Fr_kn F₁ hkn
    clear hkn
    replace N₁ := News_sub N₁ hsub
    clear hsub
    wtm_at "ms"
    refine m_sort ?hu9 (by assumption) (by assumption) (by assumption) hom hTM (by have := hQ.length; simp only [Array.length_toList] at this; (first | lia | omega)) hQ.ne ?_
    case hu9 => show un + 3 + 2 < cLine; (first | lia | omega)
    intro vs ps n5 h5 F5 N5 hT5 hp5 hs5
    have hps := hQ.sorted hp5 hs5
    subst hps
    have hlenM := hT5.length
    have hlenQ : vs.length ≤ 60 := by have := hp5.length_eq; have := hQ.length; simp only [Array.length_toList] at this; (first | lia | omega)
    generalize hps : pcs x.cps.toList y.cps.toList (0, x.cps.toList.length, 0, y.cps.toList.length) = ps at *
    wtm_at "ms"
    refine for_MF (by assumption) ?_ (by intro _; rfl)
    wtm_at "ms"
    refine iterM_list (items := vs.toArray) (fun i m' nx => GBj x y xm lm ps R u1 u2 i m' nx)
      rfl ⟨_, (News.get (by assumption) (by wtm_at "mt")), rfl, n5, rfl⟩ ?ne (by assumption) (by assumption) ?K0 ?turn ?done
    case ne => exact News_ne (o := listOf vs.toArray n5) (by assumption) (by wtm_at "mt")
    case K0 =>
      rename _ < _ ∧ AllLt _ R => hA
      exact (fun _ kz => kz ([]) 0 0 0 _ ([]) 0 ((lm, _) :: R) _ _ _ rfl (fun p hp => hp) (List.forall_mem_cons.mpr ⟨Nat.ne_of_lt hA.1, fun p hp => Nat.ne_of_lt (allLt_mem hA.2 hp)⟩) (Nat.ne_of_gt hA.1) TR.nil (fun p hp => .tail _ hp) ⟨rfl, rfl, rfl, rfl, rfl, rfl, rfl, trivial⟩)
    case turn =>
      rintro i v m₁ nx h tk own I oI hi hv HJ hI ho hit hnI F₁ N₁ hL
      refine opq2 fun PQ hPQ => ?_
      try dsimp only
      refine HJ _ fun nd i1 j1 k1 ln nv nn R2 u3 u4 u5 hfo hsub hoff2 hnm hTR hb2 hkn => ?_
      replace F₁ := Fr_kn F₁ hkn
      clear hkn
      have hv' : vs[i]? = some v := by simpa using hv
      obtain ⟨p, c, d, t1, t2, t3, hp, rfl, hc⟩ := hT5.get hv'
      have hc1 := hb2 _ hc
      have hs : (ps.take (i + 1)).foldl gstep ([], 0, 0, 0) = gstep ((ps.take i).foldl gstep ([], 0, 0, 0)) p := by rw [List.take_add_one, hp]; simp
      rw [hfo] at hs
      have hlen2 : nv.length ≤ 100 := by
        have e1 := hTR.length
        have e2 := foldg_length (ps.take i) ([], 0, 0, 0)
        rw [hfo] at e2
        simp only [List.length_take, List.length_nil] at e2
        (first | lia | omega)
      have hoffo : ∀ p ∈ R2 ++ own, p.1 ≠ ln := by
        intro p hp
        rcases List.mem_append.mp hp with hp | hp
        · exact hoff2 p hp
        · rcases ho p hp with e | e
          · rw [e]; exact fun e2 => hnI _ (hsub _ (.head _)) e2.symm
          · rw [e]; exact Ne.symm hnm
      replace N₁ : News _ _ _ ((ln, listOf nv.toArray nn) :: (R2 ++ own)) := News_sub N₁ (by
        intro p hp
        rcases List.mem_cons.mp hp with hp | hp
        · exact List.mem_append_left _ (hsub _ (hp ▸ .head _))
        · exact (List.mem_append.mp hp).elim (fun h => List.mem_append_left _ (hsub _ (.tail _ h))) fun h => List.mem_append_right _ h)
      have hnI2 : ∀ p ∈ R2, p.1 ≠ I := fun p hp => hnI _ (hsub _ (.tail _ hp))
      have hnIl : ln ≠ I := hnI _ (hsub _ (.head _))
      wtm_at "ms"
      wtm_at "m1"
      wtm_at "ms"
      · exact LPost_X [] (by assumption) (by assumption) (fun p hp => nomatch hp) hoff2 hI hit hnI2 hnIl fun ho3 => (fun _ kz => kz nd i1 j1 (k1 + p.2.2) ln nv nn R2 _ _ _ (hs.trans (by simp only [gstep]; rw [if_pos ⟨by (first | lia | omega), by (first | lia | omega)⟩])) (fun p hp => hp) ho3 hnm hTR hb2 ⟨rfl, rfl, rfl, rfl, rfl, rfl, rfl, trivial⟩)
      · rename News _ _ _ (_ :: _ :: (ln, _) :: _) => N9
        exact LPost_X [_, _] (by assumption) N9 (tup_all2 rfl rfl) hoff2 hI hit hnI2 hnIl fun ho3 => (fun _ kz => kz (nd ++ [(i1, j1, k1)]) p.1 p.2.1 p.2.2 ln (nv ++ [.ref _]) (nn + 1) _ _ _ _ (hs.trans (by simp only [gstep]; rw [if_neg (by (first | lia | omega)), if_neg (by (first | lia | omega))])) (fun p hp => hp) ho3 hnm ((hTR.mono fun p hp => .tail _ (.tail _ hp)).append (TR.one (p := (i1, j1, k1)) (.tail _ (.head _)))) (fun p hp => .tail _ (.tail _ (hb2 p hp))) ⟨rfl, rfl, rfl, rfl, rfl, rfl, rfl, trivial⟩)
      · rename News _ _ _ (_ :: (ln, _) :: _) => N9
        exact LPost_X [_] (by assumption) N9 (tup_all1 rfl) hoff2 hI hit hnI2 hnIl fun ho3 => (fun _ kz => kz nd p.1 p.2.1 p.2.2 ln nv nn _ _ _ _ (hs.trans (by simp only [gstep]; rw [if_neg (by (first | lia | omega)), if_pos (by (first | lia | omega))])) (fun p hp => hp) ho3 hnm (hTR.mono fun p hp => .tail _ hp) (fun p hp => .tail _ (hb2 p hp)) ⟨rfl, rfl, rfl, rfl, rfl, rfl, rfl, trivial⟩)
    case done =>
      rintro m₁ nx h tk HJ F₁ N₁
      refine HJ _ fun nd i1 j1 k1 ln nv nn R2 u3 u4 u5 hfo hsub hoff2 hnm hTR hb2 hkn => ?_
      try dsimp only
      replace F₁ := Fr_kn F₁ hkn
      clear hkn
      replace N₁ := News_sub N₁ hsub
      clear hsub
      have hfull : ps.take vs.toArray.size = ps := by rw [List.size_toArray, hlenM]; exact List.take_length
      rw [hfull] at hfo
      have hgo := gout_blocks x.cps.toList y.cps.toList
      rw [hps, hfo] at hgo
      have hlen2 : nv.length ≤ 100 := by
        have e1 := hTR.length
        have e2 := foldg_length ps ([], 0, 0, 0)
        rw [hfo] at e2
        simp only [List.length_nil] at e2
        (first | lia | omega)
      have hDR := hb2 _ (hb0 _ (.head _))
      have hxmR := hb2 _ (hb0 _ (.tail _ hxm))
      wtm_at "ms"
      · rename (k1 : Int) ≠ 0 => hk9
        rename News _ _ _ ((_, methodObj _ _) :: _) => N9
        have hbl : nd ++ [(i1, j1, k1)] ++ [(x.cps.toList.length, y.cps.toList.length, 0)] = blocksF x.cps.toList y.cps.toList := by rw [← hgo]; simp only [gout]; rw [if_neg (by (first | lia | omega))]
        refine map_call (by assumption) N9 (by wtm_at "mt") ?_
        intro it9 t9 M9 h7 F7 N7 l7 l8 l9
        wtm_at "ms"
        refine' list_map (ps := blocksF x.cps.toList y.cps.toList) rfl F7 N7 l7 l8 l9 ?hl ?hT ?hz ?step ?_
        case hl => wtm_at "mt"
        case hT => rw [← hbl]; exact TR.append (TR.append (hTR.mono fun p hp => .tail _ (.tail _ (.tail _ (.tail _ hp)))) (TR.one (p := (i1, j1, k1)) (.tail _ (.tail _ (.head _))))) (TR.one (p := (x.cps.toList.length, y.cps.toList.length, 0)) (.tail _ (.head _)))
        case hz => rw [← hbl]; simp only [List.length_append, List.length_cons, List.length_nil]; have := hTR.length; (first | lia | omega)
        case step =>
          intro s' nw c p t1 t2 t3 Q' hq hc F' N' hr
          exact make_m w mean mg mb _ _ _ _ _ _ _ _ _ _ _ _ _ _ _ _ _ c p t1 t2 t3 _ _ (by assumption) F' (by assumption) N' (by assumption) rfl (hq _ (.head _)) hc (by show dp + 1 + 10 < recursionLimit; (first | lia | omega)) (by show un + 3 + 100 < cLine; (first | lia | omega)) hr
        intro S acc cc nx9 h8 tk8 F8 N8 hsub8 hoff8 hT8
        obtain ⟨N10, hoff10⟩ := mat_norm (rest := rest) N8 hM (hsub8 _ (by wtm_at "mt")) (fun p hp => hsub8 _ (.tail _ (.tail _ (.tail _ (.tail _ (hb2 _ (hb0 _ (.tail _ hp)))))))) hoff
        clear N7 F7 N8
        wtm_at "ms"
        exact hret S acc cc _ (mats nx9) _ _ (by assumption) (by assumption) (by assumption) hT8.mats hoff10
      · rename (k1 : Int) = 0 => hk9
        rename News _ _ _ ((_, methodObj _ _) :: _) => N9
        have hbl : nd ++ [(x.cps.toList.length, y.cps.toList.length, 0)] = blocksF x.cps.toList y.cps.toList := by rw [← hgo]; simp only [gout]; rw [if_pos (by (first | lia | omega))]
        refine map_call (by assumption) N9 (by wtm_at "mt") ?_
        intro it9 t9 M9 h7 F7 N7 l7 l8 l9
        wtm_at "ms"
        refine' list_map (ps := blocksF x.cps.toList y.cps.toList) rfl F7 N7 l7 l8 l9 ?hl ?hT ?hz ?step ?_
        case hl => wtm_at "mt"
        case hT => rw [← hbl]; exact TR.append (hTR.mono fun p hp => .tail _ (.tail _ (.tail _ hp))) (TR.one (p := (x.cps.toList.length, y.cps.toList.length, 0)) (.tail _ (.head _)))
        case hz => rw [← hbl]; simp only [List.length_append, List.length_cons, List.length_nil]; have := hTR.length; (first | lia | omega)
        case step =>
          intro s' nw c p t1 t2 t3 Q' hq hc F' N' hr
          exact make_m w mean mg mb _ _ _ _ _ _ _ _ _ _ _ _ _ _ _ _ _ c p t1 t2 t3 _ _ (by assumption) F' (by assumption) N' (by assumption) rfl (hq _ (.head _)) hc (by show dp + 1 + 10 < recursionLimit; (first | lia | omega)) (by show un + 3 + 100 < cLine; (first | lia | omega)) hr
        intro S acc cc nx9 h8 tk8 F8 N8 hsub8 hoff8 hT8
        obtain ⟨N10, hoff10⟩ := mat_norm (rest := rest) N8 hM (hsub8 _ (by wtm_at "mt")) (fun p hp => hsub8 _ (.tail _ (.tail _ (.tail _ (hb2 _ (hb0 _ (.tail _ hp))))))) hoff
        clear N7 F7 N8
        wtm_at "ms"
        exact hret S acc cc _ (mats nx9) _ _ (by assumption) (by assumption) (by assumption) hT8.mats hoff10
end
section
open PySem PySem.W PyProof.Rows PySem.Calls
set_option Elab.async false
set_option maxRecDepth 100000
set_option maxHeartbeats 4000000
set_option pp.deepTerms false
set_option pp.deepTerms.threshold 6
set_option linter.unusedSimpArgs false
theorem gmb_c (w : World) (mean : ExcName → Option Value) (mg mb : PySem.Str → Option Value)
   (dp un : Nat) (gd : Option (List Code)) (cn : PySem.Str) (cs : Scope) (a : Addr) (ccd : Value) (cl : List (PySem.Str × Addr)) (outer : List Env) (A₀ : Around) (base h₀ : Heap) (L : Addr) (m : PySem.Str → Option Value) (news : List (Addr × Obj)) (s : Shared)
   (x y : PySem.Str) (tx ty : Tok) (xm D b2 bj bp l : Addr) (oc fc : Value) (oD : Obj) (Q E : Value → Shared → Prop)
    (B : Below A₀ base outer h₀) (F : Fr h₀ L s.heap m) (X : (K w.params).In h₀) (N : News h₀ L s.heap news) (T : Top topProg LQ mean mg mb h₀) (hk : cs.kind = .function)
    (hM : MD (FS x y tx ty (.ref l) oc fc (.ref b2) (.ref bj) (.ref bp)) oD) (hD : (D, oD) ∈ news) (hxm : (xm, instObj 242 D) ∈ news)
    (hd : dp + 20 < recursionLimit) (hu : un + 200 < cLine)
    (hret : ∀ h' tk', Fr h₀ L h' m → News h₀ L h' news → Q (.ref l) { s with heap := h', toks := tk' }) :
    wpAny (model PySem.Challenge.pw_xe0001_01 w) (ktrTop dp un gd cn cs L a ccd cl outer) (call (.ref 203) [.ref xm]) Q E s := by
  have fill : K = K ∧ PySem.Challenge.rw_xe0001_01 = PySem.Challenge.rw_xe0001_01 := by (k_fill; exact ⟨rfl, rfl⟩)
  clear fill
  obtain ⟨sh0, sg0, sd0, st0, so0⟩ := s
  have hSt : Sts sg0 sd0 so0 := trivial
  (try dsimp only at F); (try dsimp only at N); (try dsimp only at hret)
  refine wpAny_call ?_
  k_dflt (wtm_at "enter")
  wtm_at "ms"
  exact hret _ _ (by assumption) (by assumption)
end
section
open PySem PySem.W PyProof.Rows PySem.Calls
local macro_rules | `(tactic| wtm_at "st") => `(tactic| with_reducible first | refine' zq23 ?_)
section
open PySem PySem.W PyProof.Rows PySem.Calls
set_option Elab.async false
set_option maxRecDepth 100000
set_option maxHeartbeats 4000000
set_option pp.deepTerms false
set_option pp.deepTerms.threshold 6
set_option linter.unusedSimpArgs false
noncomputable def OCj (x y : PySem.Str) (tx ty : Tok) (xm D b2 bj bp l : Addr) (ps : List NNN) (fc : Value) (rest : List (Addr × Obj)) (i : Nat) (m' : PySem.Str → Option Value) (nx : List (Addr × Obj)) : Prop :=
  ∀ Rz : Prop, (∀ (cs1 : List Cd) (ci cj : Nat) (la : Addr) (nv : List Value) (nn : Nat) (R2 : List (Addr × Obj)) (u1 u2 : Tok) (oD' : Obj), MD (FS x y tx ty (.ref l) (.ref la) fc (.ref b2) (.ref bj) (.ref bp)) oD' →
    (ps.take i).foldl cstep ([], 0, 0) = (cs1, ci, cj) →
    (∀ p ∈ (la, listOf nv.toArray nn) :: R2, p ∈ nx) →
    (∀ p ∈ R2, p.1 ≠ la) →
    la ≠ l →
    TC R2 nv cs1 →
    (∀ p ∈ (D, oD') :: rest, p ∈ R2) →
    Kns m' [("self", .ref xm), ("answer", .ref la), ("i", .int (ci : Nat) u1), ("j", .int (cj : Nat) u2)] → Rz) → Rz
noncomputable def OCm (xm la I : Addr) (p : NNN) (cs1 : List Cd) (ci cj : Nat) (own R2 : List (Addr × Obj)) (t1 t2 t3 : Tok) (m' : PySem.Str → Option Value) (nx2 : List (Addr × Obj)) : Prop :=
  ∀ Rz : Prop, (∀ (cs2 : List Cd) (nv2 : List Value) (nn2 : Nat) (R3 : List (Addr × Obj)), (cs2 = cs1 ++ (if ci < p.1 ∨ cj < p.2.1 then [(if ci < p.1 ∧ cj < p.2.1 then "replace" else if ci < p.1 then "delete" else "insert", ci, p.1, cj, p.2.1)] else [])) →
    (∀ p ∈ (la, listOf nv2.toArray nn2) :: (R3 ++ own), p ∈ nx2) →
    (∀ p ∈ R3, p.1 ≠ la) →
    (∀ p ∈ R3, p.1 ≠ I) →
    (∀ p ∈ R2, p ∈ R3) →
    TC R3 nv2 cs2 →
    nv2.length ≤ 211 →
    Kns m' [("self", .ref xm), ("answer", .ref la), ("ai", .int (p.1 : Nat) t1), ("bj", .int (p.2.1 : Nat) t2), ("size", .int (p.2.2 : Nat) t3)] → Rz) → Rz
theorem opcodes (w : World) (mean : ExcName → Option Value) (mg mb : PySem.Str → Option Value)
   (dp un : Nat) (gd : Option (List Code)) (cn : PySem.Str) (cs : Scope) (a : Addr) (ccd : Value) (cl : List (PySem.Str × Addr)) (outer : List Env) (A₀ : Around) (base h₀ : Heap) (L : Addr) (m : PySem.Str → Option Value) (rest : List (Addr × Obj)) (s : Shared)
   (x y : PySem.Str) (tx ty : Tok) (xm D b2 bj bp l : Addr) (vb : List Value) (nb : Nat) (ps : List NNN) (fc : Value) (oD : Obj) (Q E : Value → Shared → Prop)
    (B : Below A₀ base outer h₀) (F : Fr h₀ L s.heap m) (X : (K w.params).In h₀) (N : News h₀ L s.heap ((D, oD) :: rest)) (T : Top topProg LQ mean mg mb h₀) (hk : cs.kind = .function)
    (hM : MD (FS x y tx ty (.ref l) .none fc (.ref b2) (.ref bj) (.ref bp)) oD) (hoff : ∀ p ∈ rest, p.1 ≠ D) (hxm : (xm, instObj 242 D) ∈ rest)
    (hlb : (l, listOf vb.toArray nb) ∈ rest) (hTB : TM rest vb ps) (hps : ps.length ≤ 100)
    (hd : dp + 120 < recursionLimit) (hu : un + 1200 < cLine)
    (hret : ∀ lo vs n o' tl h' tk', Fr h₀ L h' m → News h₀ L h' ((D, o') :: (lo, listOf vs.toArray n) :: (tl ++ rest)) → MD (FS x y tx ty (.ref l) (.ref lo) fc (.ref b2) (.ref bj) (.ref bp)) o' → TC tl vs (codesF ps) → (∀ p ∈ (lo, listOf vs.toArray n) :: (tl ++ rest), p.1 ≠ D) → Q (.ref lo) { s with heap := h', toks := tk' }) :
    wpAny (model PySem.Challenge.pw_xe0001_01 w) (ktrTop dp un gd cn cs L a ccd cl outer) (call (.ref 210) [.ref xm]) Q E s := by
  have fill : K = K ∧ PySem.Challenge.rw_xe0001_01 = PySem.Challenge.rw_xe0001_01 := by (k_fill; exact ⟨rfl, rfl⟩)
  clear fill
  obtain ⟨sh0, sg0, sd0, st0, so0⟩ := s
  have hSt : Sts sg0 sd0 so0 := trivial
  dsimp only at F N hret
  refine wpAny_call ?_
  k_dflt (wtm_at "enter")
  refine wpAny_mono (E := NoE) ?_ (fun _ _ h => h) (fun _ _ h => h.elim)
  refine opq fun PQ hPQ => ?_
  wtm_at "ms"
  refine for_MF (by assumption) ?_ (by intro _; rfl)
  wtm_at "ms"
  show wpAny _ _ (call (.ref 203) [.ref xm]) _ _ _
  rename MD _ _ => hM9
  refine gmb_c w mean mg mb _ _ _ _ _ _ _ _ _ _ _ _ _ _ _ _ x y tx ty xm D b2 bj bp l _ fc _ _ _ (by assumption) (by assumption) (by assumption) (by assumption) (by assumption) rfl hM9 (by wtm_at "mt") (by wtm_at "mt") (by show dp + 1 + 20 < recursionLimit; (first | lia | omega)) (by show un + 3 + 200 < cLine; (first | lia | omega)) ?_
  intro h5 tk5 F5 N5
  rename _ < _ ∧ AllLt _ rest => hA
  dsimp only
  refine iterM_list (items := vb.toArray) (fun i m' nx => OCj x y tx ty xm D b2 bj bp l ps fc rest i m' nx)
    rfl ⟨_, (News.get (by assumption) (by wtm_at "mt")), rfl, nb, rfl⟩ ?ne (by assumption) (by assumption) ?K0 ?turn ?done
  case ne => exact News_ne (o := listOf vb.toArray nb) (by assumption) (by wtm_at "mt")
  case K0 =>
    exact (fun _ kz => kz ([]) 0 0 _ ([]) 0 ((D, _) :: rest) _ _ _ hM9 rfl (fun p hp => hp) (List.forall_mem_cons.mpr ⟨Nat.ne_of_lt hA.1, fun p hp => Nat.ne_of_lt (allLt_mem hA.2 hp)⟩) (Nat.ne_of_gt (allLt_mem hA.2 hlb)) TC.nil (fun p hp => hp) ⟨rfl, rfl, rfl, rfl, trivial⟩)
  case turn =>
    rintro i v m₁ nx h tk own I oI hi hv HJ hI ho hit hnI F₁ N₁ hL
    refine opq2 fun PQ hPQ => ?_
    try dsimp only
    refine HJ _ fun cs1 ci cj la nv nn R2 u1 u2 oD' hM' hfo hsub hoff2 hnm hTC hb2 hkn => ?_
    replace F₁ := Fr_kn F₁ hkn
    clear hkn
    have hv' : vb[i]? = some v := by simpa using hv
    obtain ⟨p, c, d, t1, t2, t3, hp, rfl, hc⟩ := hTB.get hv'
    have hc1 := hb2 _ (.tail _ hc)
    have hs : (ps.take (i + 1)).foldl cstep ([], 0, 0) = cstep ((ps.take i).foldl cstep ([], 0, 0)) p := by rw [List.take_add_one, hp]; simp
    rw [hfo] at hs
    have hlen2 : nv.length ≤ 210 := by
      have e1 := hTC.length
      have e2 := foldc_length (ps.take i) ([], 0, 0)
      rw [hfo] at e2
      simp only [List.length_take, List.length_nil] at e2
      (first | lia | omega)
    have hoffo : ∀ p ∈ R2 ++ own, p.1 ≠ la := by
      intro p hp
      rcases List.mem_append.mp hp with hp | hp
      · exact hoff2 p hp
      · rcases ho p hp with e | e
        · rw [e]; exact fun e2 => hnI _ (hsub _ (.head _)) e2.symm
        · rw [e]; exact Ne.symm hnm
    replace N₁ : News _ _ _ ((la, listOf nv.toArray nn) :: (R2 ++ own)) := News_sub N₁ (by
      intro p hp
      rcases List.mem_cons.mp hp with hp | hp
      · exact List.mem_append_left _ (hsub _ (hp ▸ .head _))
      · exact (List.mem_append.mp hp).elim (fun h => List.mem_append_left _ (hsub _ (.tail _ h))) fun h => List.mem_append_right _ h)
    have hnI2 : ∀ p ∈ R2, p.1 ≠ I := fun p hp => hnI _ (hsub _ (.tail _ hp))
    have hnIl : la ≠ I := hnI _ (hsub _ (.head _))
    refine turn_cut 3 ?_
    wtm_at "ms"
    refine cut_at (by assumption) (fun m' nx2 => OCm xm la I p cs1 ci cj own R2 t1 t2 t3 m' nx2) ?part1 ?part2
    case part1 =>
      refine opq fun PQ2 hPQ2 => ?_
      try dsimp only
      simp only [List.take_succ_cons, List.take_zero]
      wtm_at "ms"
      wtm_at "m1"
      wtm_at "ms"
      rotate_right
      · exact WEnd_mk (by assumption) (by assumption) (fun _ kz => kz _ nv nn R2 rfl (fun p hp => hp) hoff2 hnI2 (fun p hp => hp) (by rw [if_neg (by (first | lia | omega)), List.append_nil]; exact hTC) (by (first | lia | omega)) ⟨rfl, rfl, rfl, rfl, rfl, trivial⟩) (fun p hp => hp)
      all_goals
        rename _ < _ ∧ AllLt _ (R2 ++ own) => hA9
        rename News _ _ _ (_ :: (la, _) :: _) => N8
        refine WEnd_mk (by assumption) N8 (fun _ kz => kz _ (nv ++ [Value.ref _]) (nn + 1) (_ :: R2) rfl (fun p hp => swap2 hp) (List.forall_mem_cons.mpr ⟨Nat.ne_of_gt hA9.1, hoff2⟩) (List.forall_mem_cons.mpr ⟨Nat.ne_of_gt (allLt_mem hA9.2 (List.mem_append_right _ hI)), hnI2⟩) (fun p hp => .tail _ hp) ?_ (by simp only [List.length_append, List.length_cons, List.length_nil]; (first | lia | omega)) ⟨rfl, rfl, rfl, rfl, rfl, trivial⟩) (fun p hp => hp)
        (repeat' split) <;> first
          | (exfalso; (first | lia | omega))
          | exact (hTC.mono fun p hp => .tail _ hp).append (TC.one (.head _))
    case part2 =>
      rintro m₂ nx2 h2 tk2 HJ F7 N7
      refine HJ _ fun cs2 nv2 nn2 R3 hcs2 hsub2 hoff3 hnI3 hsub3 hTC2 hnl2 hkn2 => ?_
      try dsimp only
      simp only [List.drop_succ_cons, List.drop_zero]
      replace F7 := Fr_kn F7 hkn2
      clear hkn2
      replace N7 := News_sub N7 hsub2
      have hoffo3 : ∀ p ∈ R3 ++ own, p.1 ≠ la := fun p hp => (List.mem_append.mp hp).elim (hoff3 p) fun hp => hoffo p (List.mem_append_right _ hp)
      wtm_at "ms"
      · rename News _ _ _ (_ :: _ :: (la, _) :: _) => N9
        exact LPost_X [_, _] (by assumption) N9 (tup_all2 rfl rfl) hoff3 hI hit hnI3 hnIl fun ho3 => (fun _ kz => kz (cs2 ++ [("equal", p.1, p.1 + p.2.2, p.2.1, p.2.1 + p.2.2)]) (p.1 + p.2.2) (p.2.1 + p.2.2) la (nv2 ++ [.ref _]) (nn2 + 1) _ _ _ oD' hM' (hs.trans (by rw [hcs2]; simp only [cstep]; rw [if_pos (show 0 < p.2.2 by (first | lia | omega))])) (fun p hp => hp) ho3 hnm ((hTC2.mono fun p hp => .tail _ (.tail _ hp)).append (TC.one (.head _))) (fun p hp => .tail _ (.tail _ (hsub3 _ (hb2 p hp)))) ⟨rfl, rfl, rfl, rfl, trivial⟩)
      · rename News _ _ _ (_ :: (la, _) :: _) => N9
        exact LPost_X [_] (by assumption) N9 (tup_all1 rfl) hoff3 hI hit hnI3 hnIl fun ho3 => (fun _ kz => kz cs2 (p.1 + p.2.2) (p.2.1 + p.2.2) la nv2 nn2 _ _ _ oD' hM' (hs.trans (by rw [hcs2]; simp only [cstep]; rw [if_neg (show ¬ 0 < p.2.2 by (first | lia | omega)), List.append_nil])) (fun p hp => hp) ho3 hnm (hTC2.mono fun p hp => .tail _ hp) (fun p hp => .tail _ (hsub3 _ (hb2 p hp))) ⟨rfl, rfl, rfl, rfl, trivial⟩)
  case done =>
    rintro m₁ nx h tk HJ F₁ N₁
    refine HJ _ fun cs1 ci cj la nv nn R2 u1 u2 oD' hM' hfo hsub hoff2 hnm hTC hb2 hkn => ?_
    try dsimp only
    replace F₁ := Fr_kn F₁ hkn
    clear hkn
    replace N₁ := News_sub N₁ hsub
    have hfull : ps.take vb.toArray.size = ps := by rw [List.size_toArray, hTB.length]; exact List.take_length
    rw [hfull] at hfo
    have hco : codesF ps = cs1 := by unfold codesF; rw [hfo]
    obtain ⟨N2, ho2⟩ := tup_norm (rest := rest) N₁ hM' (hb2 _ (.head _)) (fun p hp => hb2 _ (.tail _ hp)) hoff
    clear N₁
    wtm_at "ms"
    exact hret la nv nn oD' (tups R2) _ _ (by assumption) (by assumption) hM' (by rw [hco]; exact hTC.into fun p hp hc => mem_tups.mpr ⟨hp, hc⟩) ho2
end
section
open PySem PySem.W PyProof.Rows PySem.Calls
local macro_rules | `(tactic| wtm_at "st eval") => `(tactic| with_reducible first | refine' zq24 ?_)
section
open PySem PySem.W PyProof.Rows PySem.Calls
set_option Elab.async false
set_option maxRecDepth 100000
set_option maxHeartbeats 4000000
set_option pp.deepTerms false
set_option pp.deepTerms.threshold 6
set_option linter.unusedSimpArgs false
/-- twice m by n -/
noncomputable def RT (m n : Nat) : UInt64 := if n = 0 then 4607182418800017408 else Float64.div (Float64.mul 4611686018427387904 (Float64.ofInt ((m : Nat) : Int))) (Float64.ofInt ((n : Nat) : Int))
theorem calc_r (w : World) (mean : ExcName → Option Value) (mg mb : PySem.Str → Option Value)
   (dp un : Nat) (gd : Option (List Code)) (cn : PySem.Str) (cs : Scope) (a : Addr) (ccd : Value) (cl : List (PySem.Str × Addr)) (outer : List Env) (A₀ : Around) (base h₀ : Heap) (L : Addr) (m : PySem.Str → Option Value) (news : List (Addr × Obj)) (s : Shared)
   (mm nn : Nat) (k : Int) (t u : Tok) (Q E : Value → Shared → Prop)
    (B : Below A₀ base outer h₀) (F : Fr h₀ L s.heap m) (X : (K w.params).In h₀) (N : News h₀ L s.heap news) (T : Top topProg LQ mean mg mb h₀) (hk : cs.kind = .function)
    (hm : mm ≤ 1000) (hn : nn ≤ 1000) (hkn : k = ((nn : Nat) : Int))
    (hd : dp + 20 < recursionLimit) (hu : un + 200 < cLine)
    (hret : ∀ t' h' tk', Fr h₀ L h' m → News h₀ L h' news → Q (.float (RT mm nn) t') { s with heap := h', toks := tk' }) :
    wpAny (model PySem.Challenge.pw_xe0001_01 w) (ktrTop dp un gd cn cs L a ccd cl outer) (call (.ref 145) [.int ((mm : Nat) : Int) t, .int k u]) Q E s := by
  subst hkn
  have fill : K = K ∧ PySem.Challenge.rw_xe0001_01 = PySem.Challenge.rw_xe0001_01 := by (k_fill; exact ⟨rfl, rfl⟩)
  clear fill
  obtain ⟨sh0, sg0, sd0, st0, so0⟩ := s
  have hSt : Sts sg0 sd0 so0 := trivial
  (try dsimp only at F); (try dsimp only at N); (try dsimp only at hret)
  refine wpAny_call ?_
  k_dflt (wtm_at "enter")
  refine wpAny_mono (E := NoE) ?_ (fun _ _ h => h) (fun _ _ h => h.elim)
  refine opq fun PQ hPQ => ?_
  wtm_at "ms"
  · have e : RT mm nn = Float64.div (Float64.mul 4611686018427387904 (Float64.ofInt ((mm : Nat) : Int))) (Float64.ofInt ((nn : Nat) : Int)) := by unfold RT; rw [if_neg (by (first | lia | omega))]
    rw [e] at hret
    exact hret _ _ _ (by assumption) (by assumption)
  · have e : RT mm nn = 4607182418800017408 := by unfold RT; rw [if_pos (by (first | lia | omega))]
    rw [e] at hret
    exact hret _ _ _ (by assumption) (by assumption)
end
section
open PySem PySem.W PyProof.Rows PySem.Calls
set_option Elab.async false
set_option maxRecDepth 100000
noncomputable def rtRow (l : Nat) : List UInt64 := (List.range 9).map fun m => RT m l
noncomputable def rtOk (xs : List UInt64) : Bool := match xs with
  | [] => true
  | a :: r => (Float64.cmp a a == some Ordering.eq) && r.all (fun b => !(Float64.cmp b a == some Ordering.lt)) && rtOk r
theorem rtOk_all : ((List.range 25).all fun l => rtOk (rtRow l)) = true := by decide +kernel
theorem rtOk_self : ∀ {xs : List UInt64}, rtOk xs = true → ∀ {i : Nat} {a : UInt64}, xs[i]? = some a → Float64.cmp a a = some Ordering.eq
  | [], _, i, a, h => by simp at h
  | x :: r, e, 0, a, h => by
    simp at h; subst h
    unfold rtOk at e
    simp only [Bool.and_eq_true, beq_iff_eq] at e
    exact e.1.1
  | x :: r, e, i + 1, a, h => by
    unfold rtOk at e
    simp only [Bool.and_eq_true] at e
    exact rtOk_self e.2 (by simpa using h)
theorem rtOk_lt : ∀ {xs : List UInt64}, rtOk xs = true → ∀ {i j : Nat} {a b : UInt64}, i < j → xs[i]? = some a → xs[j]? = some b → (Float64.cmp b a == some Ordering.lt) = false
  | [], _, i, _, _, _, _, h, _ => by simp at h
  | x :: r, e, 0, j + 1, a, b, _, h, h2 => by
    simp at h; subst h
    unfold rtOk at e
    simp only [Bool.and_eq_true, List.all_eq_true] at e
    have := e.1.2 b (List.mem_of_getElem? (by simpa using h2))
    simpa using this
  | x :: r, e, i + 1, j + 1, a, b, hij, h, h2 => by
    unfold rtOk at e
    simp only [Bool.and_eq_true] at e
    exact rtOk_lt e.2 (Nat.lt_of_succ_lt_succ hij) (by simpa using h) (by simpa using h2)
theorem rtRow_get {l m : Nat} (h : m ≤ 8) : (rtRow l)[m]? = some (RT m l) := by
  unfold rtRow; simp [List.getElem?_map, List.getElem?_range (by (first | lia | omega) : m < 9)]
theorem rtRow_ok {l : Nat} (h : l ≤ 24) : rtOk (rtRow l) = true := List.all_eq_true.mp rtOk_all l (List.mem_range.mpr (by (first | lia | omega)))
theorem RT_self {m l : Nat} (hm : m ≤ 8) (hl : l ≤ 24) : Float64.cmp (RT m l) (RT m l) = some Ordering.eq := rtOk_self (rtRow_ok hl) (rtRow_get hm)
theorem RT_ne {m l : Nat} (hm : m ≤ 8) (hl : l ≤ 24) : (Float64.cmp (RT m l) (RT m l) != some Ordering.eq) = false := by rw [RT_self hm hl]; rfl
theorem RT_lt {m m' l : Nat} (h : m ≤ m') (hm : m' ≤ 8) (hl : l ≤ 24) : (Float64.cmp (RT m' l) (RT m l) == some Ordering.lt) = false := by
  rcases Nat.lt_or_eq_of_le h with h | rfl
  · exact rtOk_lt (rtRow_ok hl) h (rtRow_get (by (first | lia | omega))) (rtRow_get hm)
  · rw [RT_self hm hl]; rfl
end
section
open PySem PySem.W PyProof.Rows PySem.Calls
set_option Elab.async false
set_option maxRecDepth 100000
theorem strOk_of (x : String) : PyData.strOk (PySem.Str.ofString x) = true := by
  unfold PyData.strOk PySem.Str.ofString
  rw [cpsOfBytes_string, ← Array.all_toList, List.all_eq_true]
  intro n hn
  obtain ⟨c, _, rfl⟩ := List.mem_map.mp hn
  have h := c.valid
  unfold UInt32.isValidChar Nat.isValidChar at h
  refine decide_eq_true ?_
  show c.val.toNat < 1114112
  (first | lia | omega)
theorem lay_codes : ∀ ps : List Cd, PyData.canLayAll0 (ps.map codeD) = true
  | [] => rfl
  | p :: r => by simp [PyData.canLayAll0, PyData.canLay0, codeD, lay_codes r, strOk_of]
theorem depth_codes : ∀ ps : List Cd, PyData.depthAll (ps.map codeD) ≤ 1
  | [] => by simp [PyData.depthAll]
  | p :: r => by
    have := depth_codes r
    simp [PyData.depthAll, PyData.depth, codeD]
    (first | lia | omega)
theorem shaped_codes (ps : List Cd) : SeqAt.shaped (.list (ps.map codeD)) = true := by
  have := depth_codes ps
  simp only [SeqAt.shaped, PyData.canLay0, PyData.depth, lay_codes, Bool.true_and]
  exact decide_eq_true (by (first | lia | omega))
theorem eqv_codes : ∀ ps : List Cd, PyData.eqvAll (ps.map codeD) (ps.map codeD) = true
  | [] => by simp [PyData.eqvAll]
  | a :: r => by
    have : PyData.eqv (codeD a) (codeD a) = true := by simp [codeD, PyData.eqv, PyData.eqvAll]
    simp only [List.map_cons, PyData.eqvAll, eqv_codes r, this, Bool.and_self]
theorem shaped_trip (p : NNN) : SeqAt.shaped (tripD p) = true := by
  simp [SeqAt.shaped, PyData.canLay0, PyData.canLayAll0, PyData.depth, PyData.depthAll, tripD]
section
variable {prog : Program} {w : World} {A : Around} {E : Value → Shared → Prop} {s : Shared} {h₀ : Heap} {L : Addr} {news : List (Addr × Obj)}
theorem ne_codes {l l' : Addr} {vs vs' : List Value} {n n' : Nat} {ps : List Cd} {Q : Value → Shared → Prop} (N : News h₀ L s.heap news) (hl : (l, listOf vs.toArray n) ∈ news) (hl' : (l', listOf vs'.toArray n') ∈ news)
    (h1 : TC news vs ps) (h2 : TC news vs' ps) (hu : A.units + 64 < cLine) (h : Q (.bool false) s) : wpAny (model prog w) A (compareOp .NotEq (.ref l) (.ref l')) Q E s := by
  refine ne_dataH (reads_list_at (N.get hl) rfl rfl (TC.reads N h1)) (reads_list_at (N.get hl') rfl rfl (TC.reads N h2)) (shaped_codes _) (shaped_codes _) hu ?_
  simp only [PyData.eqv, eqv_codes]
  exact h
theorem ne_blocks {l l' : Addr} {vs vs' : List Value} {n n' : Nat} {ps : List NNN} {Q : Value → Shared → Prop} (N : News h₀ L s.heap news) (hl : (l, listOf vs.toArray n) ∈ news) (hl' : (l', listOf vs'.toArray n') ∈ news)
    (h1 : TR news vs ps) (h2 : TR news vs' ps) (hu : A.units + 64 < cLine) (h : Q (.bool false) s) : wpAny (model prog w) A (compareOp .NotEq (.ref l) (.ref l')) Q E s :=
  ne_trips N hl hl' h1 h2 hu (by simpa using h)
theorem ne_trip {l l' : Addr} {p : NNN} {t1 t2 t3 u1 u2 u3 : Tok} {Q : Value → Shared → Prop} (N : News h₀ L s.heap news) (hl : (l, tupN p t1 t2 t3) ∈ news) (hl' : (l', tupN p u1 u2 u3) ∈ news)
    (hu : A.units + 64 < cLine) (h : Q (.bool false) s) : wpAny (model prog w) A (compareOp .NotEq (.ref l) (.ref l')) Q E s := by
  refine ne_dataH (reads_tup N hl) (reads_tup N hl') (shaped_trip _) (shaped_trip _) hu ?_
  rw [eqv_trip, decide_eq_true rfl]
  exact h
end
end
section
open PySem PySem.W PyProof.Rows PySem.Calls
set_option Elab.async false
set_option maxRecDepth 100000
set_option maxHeartbeats 4000000
set_option pp.deepTerms false
set_option pp.deepTerms.threshold 6
set_option linter.unusedSimpArgs false
theorem ratio (w : World) (mean : ExcName → Option Value) (mg mb : PySem.Str → Option Value)
   (dp un : Nat) (gd : Option (List Code)) (cn : PySem.Str) (cs : Scope) (a : Addr) (ccd : Value) (cl : List (PySem.Str × Addr)) (outer : List Env) (A₀ : Around) (base h₀ : Heap) (L : Addr) (m : PySem.Str → Option Value) (rest : List (Addr × Obj)) (s : Shared)
   (x y : PySem.Str) (tx ty : Tok) (xm D b2 bj bp l : Addr) (vb : List Value) (nb : Nat) (bl : List NNN) (oc fc : Value) (oD : Obj) (ps : Array Value) (Q E : Value → Shared → Prop)
    (B : Below A₀ base outer h₀) (F : Fr h₀ L s.heap m) (X : (K w.params).In h₀) (N : News h₀ L s.heap ((220, tabObj ps) :: rest)) (T : Top topProg LQ mean mg mb h₀) (hk : cs.kind = .function)
    (hoff : ∀ p ∈ rest, p.1 ≠ 220) (htr : TriplesOk ps.toList) (C : CodeHd h₀ 224 220) (hG : AllBare s.gens) (hx : x.cps.size ≤ 100) (hy : y.cps.size ≤ 100)
    (hM : MD (FS x y tx ty (.ref l) oc fc (.ref b2) (.ref bj) (.ref bp)) oD) (hD : (D, oD) ∈ rest) (hxm : (xm, instObj 242 D) ∈ rest)
    (hlb : (l, listOf vb.toArray nb) ∈ rest) (hTB : TM rest vb bl) (hsz : szs bl ≤ 100)
    (hd : dp + 120 < recursionLimit) (hu : un + 1200 < cLine)
    (hret : ∀ ps' t' h' gs tk', Fr h₀ L h' m → News h₀ L h' ((220, tabObj ps') :: rest) → TriplesOk ps'.toList → AllBare gs → Q (.float (RT (szs bl) (x.cps.size + y.cps.size)) t') { s with heap := h', gens := gs, toks := tk' }) :
    wpAny (model PySem.Challenge.pw_xe0001_01 w) (ktrTop dp un gd cn cs L a ccd cl outer) (call (.ref 225) [.ref xm]) Q E s := by
  have fill : K = K ∧ PySem.Challenge.rw_xe0001_01 = PySem.Challenge.rw_xe0001_01 := by (k_fill; exact ⟨rfl, rfl⟩)
  clear fill
  refine wpAny_call ?_
  k_dflt (wtm_at "enter")
  refine wpAny_mono (E := NoE) ?_ (fun _ _ h => h) (fun _ _ h => h.elim)
  refine opq fun PQ hPQ => ?_
  wtm_at "ms"
  rename Fr h₀ L _ m => FG
  refine gen_sizes (ps := ps) (vs := vb) (bl := bl) (l := l) (n := nb) rfl rfl rfl (by decide) (by decide) (by decide) rfl ?hroom9 rfl rfl (by decide) (fun _ _ => rfl) (by assumption) (by assumption) (by assumption) (by assumption) hoff htr (C.keeps FG.keep) hG hlb hTB ?hiter (fun _ => rfl) ?_
  case hroom9 => show dp + 1 < recursionLimit; (first | lia | omega)
  case hiter =>
    wtm_at "ms"
    show wpAny _ _ (call (.ref 203) [.ref xm]) _ _ _
    refine gmb_c w mean mg mb _ _ _ _ _ _ _ _ _ _ _ _ _ _ _ _ x y tx ty xm D b2 bj bp l oc fc oD _ _ (by assumption) (by assumption) (by assumption) (by assumption) (by assumption) rfl hM (by wtm_at "mt") (by wtm_at "mt") (by show dp + 1 + 20 < recursionLimit; (first | lia | omega)) (by show un + 3 + 200 < cLine; (first | lia | omega)) ?_
    intro h5 tk5 F5 N5
    exact ⟨rfl, h5, tk5, rfl, F5, N5⟩
  intro g9 h5 gs5 tk5 ps5 Kb F5 N5 ht5 hg5 hb5 hl5 X5
  wtm_at "ms"
  refine sum_sizes F5 N5 hg5 hb5 hl5 X5 ?_
  intro h6 gs6 tk6 t6 F6 N6 hg6
  clear F5 N5 X5
  wtm_at "ms"
  refine calc_r w mean mg mb _ _ _ _ _ _ _ _ _ _ _ _ _ _ _ _ (szs bl) (x.cps.size + y.cps.size) _ _ _ _ _ (by assumption) (by assumption) (by assumption) (by assumption) (by assumption) rfl (by (first | lia | omega)) (by (first | lia | omega)) (by push_cast; rfl) (by show dp + 1 + 20 < recursionLimit; (first | lia | omega)) (by show un + 3 + 200 < cLine; (first | lia | omega)) ?_
  intro t' h7 tk7 F7 N7
  wtm_at "ms"
  exact hret ps5 _ _ _ _ (by assumption) (by assumption) ht5 hg6
end
section
open PySem PySem.W PyProof.Rows PySem.Calls
set_option Elab.async false
set_option maxRecDepth 100000
set_option maxHeartbeats 4000000
set_option pp.deepTerms false
set_option pp.deepTerms.threshold 6
set_option linter.unusedSimpArgs false
theorem real_qr (w : World) (mean : ExcName → Option Value) (mg mb : PySem.Str → Option Value)
   (dp un : Nat) (gd : Option (List Code)) (cn : PySem.Str) (cs : Scope) (a : Addr) (ccd : Value) (cl : List (PySem.Str × Addr)) (outer : List Env) (A₀ : Around) (base h₀ : Heap) (L : Addr) (m : PySem.Str → Option Value) (news : List (Addr × Obj)) (s : Shared)
   (x y : PySem.Str) (tx ty : Tok) (xm D b2 bj bp : Addr) (mbv oc fc : Value) (oD : Obj) (Q E : Value → Shared → Prop)
    (B : Below A₀ base outer h₀) (F : Fr h₀ L s.heap m) (X : (K w.params).In h₀) (N : News h₀ L s.heap news) (T : Top topProg LQ mean mg mb h₀) (hk : cs.kind = .function)
    (hx : x.cps.size ≤ 100) (hy : y.cps.size ≤ 100)
    (hM : MD (FS x y tx ty mbv oc fc (.ref b2) (.ref bj) (.ref bp)) oD) (hD : (D, oD) ∈ news) (hxm : (xm, instObj 242 D) ∈ news)
    (hd : dp + 120 < recursionLimit) (hu : un + 1200 < cLine)
    (hret : ∀ t' h' tk', Fr h₀ L h' m → News h₀ L h' news → Q (.float (RT (min x.cps.size y.cps.size) (x.cps.size + y.cps.size)) t') { s with heap := h', toks := tk' }) :
    wpAny (model PySem.Challenge.pw_xe0001_01 w) (ktrTop dp un gd cn cs L a ccd cl outer) (call (.ref 239) [.ref xm]) Q E s := by
  have fill : K = K ∧ PySem.Challenge.rw_xe0001_01 = PySem.Challenge.rw_xe0001_01 := by (k_fill; exact ⟨rfl, rfl⟩)
  clear fill
  obtain ⟨sh0, sg0, sd0, st0, so0⟩ := s
  have hSt : Sts sg0 sd0 so0 := trivial
  (try dsimp only at F); (try dsimp only at N); (try dsimp only at hret)
  refine wpAny_call ?_
  k_dflt (wtm_at "enter")
  refine wpAny_mono (E := NoE) ?_ (fun _ _ h => h) (fun _ _ h => h.elim)
  refine opq fun PQ hPQ => ?_
  wtm_at "ms"
  have emin : (if ((y.cps.size : Nat) : Int) < ((x.cps.size : Nat) : Int) then ((y.cps.size : Nat) : Int) else ((x.cps.size : Nat) : Int)) = ((min x.cps.size y.cps.size : Nat) : Int) := by split <;> (first | lia | omega)
  rw [emin]
  refine calc_r w mean mg mb _ _ _ _ _ _ _ _ _ _ _ _ _ _ _ _ (min x.cps.size y.cps.size) (x.cps.size + y.cps.size) _ _ _ _ _ (by assumption) (by assumption) (by assumption) (by assumption) (by assumption) rfl (by (first | lia | omega)) (by (first | lia | omega)) (by push_cast; rfl) (by show dp + 1 + 20 < recursionLimit; (first | lia | omega)) (by show un + 3 + 200 < cLine; (first | lia | omega)) ?_
  intro t' h7 tk7 F7 N7
  wtm_at "ms"
  exact hret _ _ _ (by assumption) (News_sub (by assumption) (fun p hp => .tail _ hp))
end
section
open PySem PySem.W PyProof.Rows PySem.Calls
set_option Elab.async false
noncomputable def CB (kvs : List (PySem.Str × Value)) (ys : List Nat) : Prop := kvs.length ≤ ys.length ∧ ∀ c z, ∃ t, (valueAt kvs (sgn c)).getD (.int 0 z) = .int ((ys.count c : Nat) : Int) t
theorem CB.nil : CB [] [] := ⟨Nat.le_refl _, fun _ z => ⟨z, rfl⟩⟩
theorem CB.step {kvs : List (PySem.Str × Value)} {ys : List Nat} {c : Nat} {t : Tok} (h : CB kvs ys) : CB (stored kvs (sgn c) (.int (((ys.count c : Nat) : Int) + 1) t)) (ys ++ [c]) := by
  refine ⟨?_, fun c' z => ?_⟩
  · have := stored_length_le kvs (sgn c) (.int (((ys.count c : Nat) : Int) + 1) t)
    have := h.1
    simp only [List.length_append, List.length_cons, List.length_nil]; (first | lia | omega)
  · rw [valueAt_stored]
    by_cases e : c = c'
    · subst e
      rw [if_pos rfl]
      refine ⟨t, ?_⟩
      simp [List.count_append]
    · rw [if_neg (fun q => e (sgn_inj.mp q))]
      obtain ⟨u, hu⟩ := h.2 c' z
      exact ⟨u, by rw [hu]; simp [List.count_append, List.count_cons, e]⟩
noncomputable def AV (kvs : List (PySem.Str × Value)) (pre ys : List Nat) : Prop := kvs.length ≤ pre.length ∧ (∀ c ∈ pre, ∃ t, valueAt kvs (sgn c) = some (.int (((ys.count c : Nat) : Int) - ((pre.count c : Nat) : Int)) t)) ∧ ∀ c, c ∉ pre → valueAt kvs (sgn c) = none
theorem AV.nil {ys : List Nat} : AV [] [] ys := ⟨Nat.le_refl _, fun c h => by simp at h, fun _ _ => rfl⟩
theorem AV.step {kvs : List (PySem.Str × Value)} {pre ys : List Nat} {c : Nat} {e : Int} {t : Tok} (h : AV kvs pre ys) (he : e = ((ys.count c : Nat) : Int) - ((pre.count c : Nat) : Int) - 1) : AV (stored kvs (sgn c) (.int e t)) (pre ++ [c]) ys := by
  refine ⟨?_, fun c' hc => ?_, fun c' hc => ?_⟩
  · have := stored_length_le kvs (sgn c) (.int e t)
    have := h.1
    simp only [List.length_append, List.length_cons, List.length_nil]; (first | lia | omega)
  · rw [valueAt_stored]
    by_cases q : c = c'
    · subst q
      rw [if_pos rfl]
      refine ⟨t, ?_⟩
      rw [he]
      have : List.count c (pre ++ [c]) = List.count c pre + 1 := by simp [List.count_append]
      rw [this]; congr 2; push_cast; (first | lia | omega)
    · rw [if_neg (fun q' => q (sgn_inj.mp q'))]
      have hc' : c' ∈ pre := by
        rcases List.mem_append.mp hc with h | h
        · exact h
        · exact absurd (List.mem_singleton.mp h).symm q
      obtain ⟨u, hu⟩ := h.2.1 c' hc'
      exact ⟨u, by rw [hu]; simp [List.count_append, List.count_cons, q]⟩
  · rw [valueAt_stored, if_neg (fun q => hc (by rw [sgn_inj.mp q]; simp))]
    exact h.2.2 c' fun q => hc (List.mem_append_left _ q)
noncomputable def qc (ys pre : List Nat) : Nat := (pre.foldl (qstep ys) ([], 0)).2
theorem qc_snoc (ys pre : List Nat) (c : Nat) : qc ys (pre ++ [c]) = qc ys pre + (if pre.count c < ys.count c then 1 else 0) := by
  unfold qc
  rw [List.foldl_append]
  simp only [List.foldl_cons, List.foldl_nil, qstep, qstep_fst, List.nil_append]
theorem qc_le (ys pre : List Nat) : qc ys pre ≤ pre.length := by
  unfold qc; rw [qfold0]; exact qm_le1 _ _
theorem take_snoc {x : PySem.Str} {i c : Nat} (h : x.cps[i]? = some c) : x.cps.toList.take (i + 1) = x.cps.toList.take i ++ [c] := by
  rw [List.take_add_one]; simp [h]
/-- one more place of a ledger's first entry -/
theorem News_first {h₀ h : Heap} {L f : Addr} {o o' : Obj} {R own : List (Addr × Obj)} (N : News h₀ L h ((f, o') :: off f (((f, o) :: R) ++ own))) (hR : ∀ p ∈ R, p.1 ≠ f) (ho : ∀ p ∈ own, p.1 ≠ f) : News h₀ L h (((f, o') :: R) ++ own) :=
  News_sub N fun p hp => by
    rcases List.mem_append.mp hp with hp | hp
    · rcases List.mem_cons.mp hp with rfl | hp
      · exact .head _
      · exact .tail _ (mem_off.mpr ⟨List.mem_append_left _ (.tail _ hp), hR p hp⟩)
    · exact .tail _ (mem_off.mpr ⟨List.mem_append_right _ hp, ho p hp⟩)
theorem LPost_first {h₀ h' : Heap} {L I f : Addr} {J : (PySem.Str → Option Value) → List (Addr × Obj) → Prop} {own R : List (Addr × Obj)} {o' o : Obj} {m' : PySem.Str → Option Value} {s₁ : Shared} {tk : Nat} {Q : Flow → Shared → Prop}
    (F : Fr h₀ L h' m') (N : News h₀ L h' (((f, o') :: R) ++ own)) (hI : ∀ p ∈ (f, o) :: R, p.1 ≠ I) (hJ : J m' ((f, o') :: R)) : LPost h₀ L I J own s₁ Q .next { s₁ with heap := h', toks := tk } :=
  LPost_next F N hJ (fun p hp => List.mem_append_left _ hp) (fun p hp => List.mem_append_right _ hp) fun p hp => by
    rcases List.mem_cons.mp hp with rfl | hp
    · exact hI (f, o) (.head _)
    · exact hI p (.tail _ hp)
noncomputable def FCok (w : World) (fc : Value) (ys : List Nat) (nx : List (Addr × Obj)) : Prop := fc = .none ∨ ∃ f of kvs, fc = .ref f ∧ (f, of) ∈ nx ∧ of.IsDictOf (PySem.strKind PySem.Challenge.pw_xe0001_01 w) kvs ∧ (f == sysModules) = false ∧ CB kvs ys
end
section
open PySem PySem.W PyProof.Rows PySem.Calls
local macro_rules | `(tactic| wtm_at "st exec") => `(tactic| with_reducible first | refine' zq25 ?_)
section
open PySem PySem.W PyProof.Rows PySem.Calls
set_option Elab.async false
set_option maxRecDepth 100000
set_option maxHeartbeats 4000000
set_option pp.deepTerms false
set_option pp.deepTerms.threshold 6
set_option linter.unusedSimpArgs false
local macro_rules | `(tactic| wtm_at "st call") => `(tactic| with_reducible show wpAny _ _ (call (Value.ref _) [_]) _ _ _)
local macro_rules | `(tactic| wtm_at "st subscriptTail") => `(tactic| with_reducible show wpAny _ _ (subscriptTail _ _ (Value.ref _) (Value.str _ _)) _ _ _)
noncomputable def QK0 (w : World) (x y : PySem.Str) (tx ty : Tok) (xm D b2 bj bp : Addr) (mbv oc : Value) (rest : List (Addr × Obj)) (m' : PySem.Str → Option Value) (nx : List (Addr × Obj)) : Prop :=
  ∀ Rz : Prop, (∀ (o' : Obj) (f : Addr) (of : Obj) (kvs : List (PySem.Str × Value)) (nf : List (Addr × Obj)), nx = (D, o') :: (nf ++ rest) → (∀ p ∈ nf ++ rest, p.1 ≠ D) → MD (FS x y tx ty mbv oc (.ref f) (.ref b2) (.ref bj) (.ref bp)) o' →
    (f, of) ∈ nf ++ rest → of.IsDictOf (PySem.strKind PySem.Challenge.pw_xe0001_01 w) kvs → (f == sysModules) = false → CB kvs y.cps.toList → Kns m' [("self", .ref xm)] → Rz) → Rz
noncomputable def QK1 (w : World) (xm ff : Addr) (R : List (Addr × Obj)) (ys : List Nat) (m' : PySem.Str → Option Value) (nx : List (Addr × Obj)) : Prop :=
  ∀ Rz : Prop, (∀ (of : Obj) (kvs : List (PySem.Str × Value)), nx = (ff, of) :: R → of.IsDictOf (PySem.strKind PySem.Challenge.pw_xe0001_01 w) kvs → CB kvs ys → Kns m' [("self", .ref xm), ("fullbcount", .ref ff)] → Rz) → Rz
noncomputable def QK2 (w : World) (xm f av uu : Addr) (R : List (Addr × Obj)) (ys xs : List Nat) (m' : PySem.Str → Option Value) (nx : List (Addr × Obj)) : Prop :=
  ∀ Rz : Prop, (∀ (oa : Obj) (kva : List (PySem.Str × Value)) (q : Tok), nx = (av, oa) :: R → oa.IsDictOf (PySem.strKind PySem.Challenge.pw_xe0001_01 w) kva → AV kva xs ys →
      Kns m' [("self", .ref xm), ("fullbcount", .ref f), ("avail", .ref av), ("availhas", .ref uu), ("matches", .int (qc ys xs : Nat) q)] → Rz) → Rz
theorem quick (w : World) (mean : ExcName → Option Value) (mg mb : PySem.Str → Option Value)
   (dp un : Nat) (gd : Option (List Code)) (cn : PySem.Str) (cs : Scope) (a : Addr) (ccd : Value) (cl : List (PySem.Str × Addr)) (outer : List Env) (A₀ : Around) (base h₀ : Heap) (L : Addr) (m : PySem.Str → Option Value) (rest : List (Addr × Obj)) (s : Shared)
   (x y : PySem.Str) (tx ty : Tok) (xm D b2 bj bp : Addr) (mbv oc fc : Value) (oD : Obj) (Q E : Value → Shared → Prop)
    (B : Below A₀ base outer h₀) (F : Fr h₀ L s.heap m) (X : (K w.params).In h₀) (N : News h₀ L s.heap ((D, oD) :: rest)) (T : Top topProg LQ mean mg mb h₀) (hk : cs.kind = .function)
    (hoff : ∀ p ∈ rest, p.1 ≠ D) (hx : x.cps.size ≤ 100) (hy : y.cps.size ≤ 100)
    (hM : MD (FS x y tx ty mbv oc fc (.ref b2) (.ref bj) (.ref bp)) oD) (hxm : (xm, instObj 242 D) ∈ rest) (hfc : FCok w fc y.cps.toList rest)
    (hd : dp + 120 < recursionLimit) (hu : un + 1200 < cLine)
    (hret : ∀ t' o' fc' nf h' tk', Fr h₀ L h' m → News h₀ L h' ((D, o') :: (nf ++ rest)) → (∀ p ∈ nf ++ rest, p.1 ≠ D) → MD (FS x y tx ty mbv oc fc' (.ref b2) (.ref bj) (.ref bp)) o' → FCok w fc' y.cps.toList (nf ++ rest) →
      Q (.float (RT (qm x.cps.toList y.cps.toList) (x.cps.size + y.cps.size)) t') { s with heap := h', toks := tk' }) :
    wpAny (model PySem.Challenge.pw_xe0001_01 w) (ktrTop dp un gd cn cs L a ccd cl outer) (call (.ref 232) [.ref xm]) Q E s := by
  have fill : K = K ∧ PySem.Challenge.rw_xe0001_01 = PySem.Challenge.rw_xe0001_01 := by (k_fill; exact ⟨rfl, rfl⟩)
  clear fill
  obtain ⟨sh0, sg0, sd0, st0, so0⟩ := s
  have hSt : Sts sg0 sd0 so0 := trivial
  dsimp only at F N hret
  refine wpAny_call ?_
  k_dflt (wtm_at "enter")
  refine wpAny_mono (E := NoE) ?_ (fun _ _ h => h) (fun _ _ h => h.elim)
  refine opq fun PQ hPQ => ?_
  wtm_at "ms"
  refine join_at (by assumption) (QK0 w x y tx ty xm D b2 bj bp mbv oc rest) ?first ?after
  case first =>
    refine opq fun PQ hPQ => ?_
    rcases hfc with rfl | ⟨f, of, kvs, rfl, hf, hof, hlo, hCB⟩
    · wtm_at "m1"
      wtm_at "ms"
      refine for_MF (by assumption) ?_ (by intro _; rfl)
      wtm_at "ms"
      show wpAny _ _ (pyIter (.str y ty)) _ _ _
      rename_i ff _ fo hlo hso _ _ _ hlt _ o1 hM1 _ F₁ N₁ _
      have hRf : ∀ p ∈ (D, o1) :: rest, p.1 ≠ ff := fun p hp => by
        rcases List.mem_cons.mp hp with rfl | hp
        · exact Nat.ne_of_lt hlt.1
        · exact Nat.ne_of_lt (allLt_mem hlt.2 hp)
      refine iterM_str (fun i m' nx => QK1 w xm ff ((D, o1) :: rest) (y.cps.toList.take i) m' nx) rfl F₁ N₁ ?J0 ?turn ?done
      case J0 => exact fun _ kz => kz fo [] rfl hso CB.nil ⟨rfl, rfl, trivial⟩
      case turn =>
        rintro i c t m₁ nx h tk own I oI hi hc HJ hI ho hit hnI F₄ N₄
        refine opq2 fun PQ hPQ => ?_
        try dsimp only
        refine HJ _ fun of kvs hq_ hof hCB hkn => ?_
        subst hq_
        clear HJ
        clear N₁ F₁
        replace F₄ := Fr_kn F₄ hkn
        have hkl : kvs.length ≤ 100 := by have := hCB.1; simp only [List.length_take] at this; (first | lia | omega)
        wtm_at "ms"
        refine kdg_get2 (knd := PySem.strKind _ _) (by assumption) (.head _) hof hlo (strKind_is _ _ _ _) _ rfl ?_
        obtain ⟨t1, e1⟩ := hCB.2 c ‹_›
        rw [e1]
        wtm_at "ms"
        refine set_F (knd := PySem.strKind _ _) (by assumption) (by assumption) (.head _) hof (strKind_is _ _ _ _) (by (first | lia | omega)) ?_
        intro h5 o5 F5 N5 hd5
        have N6 := News_first N5 hRf (fun p hp e => hnI (ff, of) (.head _) (e.symm.trans (ho p hp)))
        wtm_at "ms"
        exact LPost_first (o := of) (by assumption) (by assumption) hnI (fun _ kz => kz o5 _ rfl hd5 (by rw [take_snoc hc]; exact hCB.step) ⟨rfl, rfl, trivial⟩)
      case done =>
        intro m₁ nx h tk HJ F₄ N₄
        refine HJ _ fun of kvs hq_ hof hCB hkn => ?_
        subst hq_
        clear HJ
        try dsimp only
        clear N₁ F₁
        replace F₄ := Fr_kn F₄ hkn
        rw [List.take_of_length_le (by simp)] at hCB
        wtm_at "ms"
        refine WEnd_mk (nx' := (D, o1) :: ([(ff, of)] ++ rest)) (by assumption) (by assumption) (fun _ kz => kz o1 ff of kvs [(ff, of)] rfl ?_ hM1 (.head _) hof hlo hCB ⟨rfl, trivial⟩) (fun p hp => swap2 hp)
        intro p hp
        rcases List.mem_cons.mp hp with rfl | hp
        · exact fun e => hRf _ (.head _) e.symm
        · exact hoff p hp
    · wtm_at "m1"
      wtm_at "ms"
      refine WEnd_mk (nx' := (D, oD) :: rest) (by assumption) (by assumption) (fun _ kz => kz oD f of kvs [] rfl hoff hM hf hof hlo hCB ⟨rfl, trivial⟩) (fun p hp => hp)
  case after =>
    intro m₂ nx2 h2 tk2 HJ F₃ N₃
    refine HJ _ fun o' f of kvs nf hq_ hoff2 hM2 hf hof hlo hCB hkn2 => ?_
    subst hq_
    clear HJ
    try dsimp only
    replace F₃ := Fr_kn F₃ hkn2
    wtm_at "ms"
    refine for_MF (by assumption) ?_ (by intro _; rfl)
    wtm_at "ms"
    show wpAny _ _ (pyIter (.str x tx)) _ _ _
    rename_i av _ oa0 hloa hso _ _ _ hlt _ _ uu _ _ hltu _ _ hlt1 _ _ _ F₁ N₁ _
    refine iterM_str (fun i m' nx => QK2 w xm f av uu ((uu, bndObj "dict.__contains__" (.ref av)) :: (D, o') :: (nf ++ rest)) y.cps.toList (x.cps.toList.take i) m' nx) rfl F₁ (News_sub (news' := (av, oa0) :: (uu, bndObj "dict.__contains__" (.ref av)) :: (D, o') :: (nf ++ rest)) N₁ (by wtm_at "msub")) ?J0 ?turn ?done
    case J0 =>
      exact fun _ kz => kz _ [] _ rfl hso AV.nil ⟨rfl, rfl, rfl, rfl, rfl, trivial⟩
    case turn =>
      rintro i c t m₁ nx h tk own I oI hi hc HJ hI ho hit hnI F₄ N₄
      refine opq2 fun PQ hPQ => ?_
      try dsimp only
      refine HJ _ fun oa kva q hq_ hoa hAV hkn => ?_
      subst hq_
      clear HJ
      clear N₁ F₁
      replace F₄ := Fr_kn F₄ hkn
      have hkl : kva.length ≤ 100 := by have := hAV.1; simp only [List.length_take] at this; (first | lia | omega)
      have hRa : ∀ p ∈ (uu, bndObj "dict.__contains__" (.ref av)) :: (D, o') :: (nf ++ rest), p.1 ≠ av := fun p hp => by
        rcases List.mem_cons.mp hp with rfl | hp
        · exact Nat.ne_of_gt (hltu (av, oa0) (.head _))
        rcases List.mem_cons.mp hp with rfl | hp
        · exact Nat.ne_of_lt hlt.1
        · exact Nat.ne_of_lt (allLt_mem hlt.2 hp)
      have hqle := qc_le y.cps.toList (x.cps.toList.take i)
      by_cases hmem : c ∈ x.cps.toList.take i
      · obtain ⟨tv, hv⟩ := hAV.2.1 c hmem
        wtm_at "ms"
        refine dcon_call (knd := PySem.strKind _ _) (by assumption) (.tail _ (.head _)) (.head _) hoa hloa (strKind_is _ _ _ _) true (by rw [hv]; rfl) ?_
        wtm_at "ms"
        refine kda_item (knd := PySem.strKind _ _) (by assumption) (.head _) hoa (strKind_is _ _ _ _) hv ?_
        wtm_at "ms"
        refine set_F (knd := PySem.strKind _ _) (by assumption) (by assumption) (.head _) hoa (strKind_is _ _ _ _) (by (first | lia | omega)) ?_
        intro h5 o5 F5 N5 hd5
        have N6 := News_first N5 hRa (fun p hp e => hnI (av, oa) (.head _) (e.symm.trans (ho p hp)))
        wtm_at "ms"
        · have e2 : ((qc y.cps.toList (x.cps.toList.take i) : Nat) : Int) + 1 = ((qc y.cps.toList (x.cps.toList.take (i + 1)) : Nat) : Int) := by rw [take_snoc hc, qc_snoc, if_pos (by (first | lia | omega))]; push_cast; rfl
          exact LPost_first (o := oa) (by assumption) (by assumption) hnI (fun _ kz => kz o5 _ _ rfl hd5 (by rw [take_snoc hc]; exact hAV.step (by (first | lia | omega))) ⟨rfl, rfl, rfl, rfl, kint e2, trivial⟩)
        · have e2 : ((qc y.cps.toList (x.cps.toList.take i) : Nat) : Int) = ((qc y.cps.toList (x.cps.toList.take (i + 1)) : Nat) : Int) := by rw [take_snoc hc, qc_snoc, if_neg (by (first | lia | omega))]; rfl
          exact LPost_first (o := oa) (by assumption) (by assumption) hnI (fun _ kz => kz o5 _ _ rfl hd5 (by rw [take_snoc hc]; exact hAV.step (by (first | lia | omega))) ⟨rfl, rfl, rfl, rfl, kint e2, trivial⟩)
      · have hv := hAV.2.2 c hmem
        have hc0 : (x.cps.toList.take i).count c = 0 := List.count_eq_zero.mpr hmem
        wtm_at "ms"
        refine dcon_call (knd := PySem.strKind _ _) (by assumption) (.tail _ (.head _)) (.head _) hoa hloa (strKind_is _ _ _ _) false (by rw [hv]; rfl) ?_
        wtm_at "ms"
        refine kdg_get2 (knd := PySem.strKind _ _) (by assumption) (.tail _ (.tail _ (.tail _ (List.mem_append_left _ hf)))) hof hlo (strKind_is _ _ _ _) _ rfl ?_
        obtain ⟨t1, e1⟩ := hCB.2 c ‹_›
        rw [e1]
        wtm_at "ms"
        refine set_F (knd := PySem.strKind _ _) (by assumption) (by assumption) (.head _) hoa (strKind_is _ _ _ _) (by (first | lia | omega)) ?_
        intro h5 o5 F5 N5 hd5
        have N6 := News_first N5 hRa (fun p hp e => hnI (av, oa) (.head _) (e.symm.trans (ho p hp)))
        wtm_at "ms"
        · have e2 : ((qc y.cps.toList (x.cps.toList.take i) : Nat) : Int) + 1 = ((qc y.cps.toList (x.cps.toList.take (i + 1)) : Nat) : Int) := by rw [take_snoc hc, qc_snoc, if_pos (by (first | lia | omega))]; push_cast; rfl
          exact LPost_first (o := oa) (by assumption) (by assumption) hnI (fun _ kz => kz o5 _ _ rfl hd5 (by rw [take_snoc hc]; exact hAV.step (by (first | lia | omega))) ⟨rfl, rfl, rfl, rfl, kint e2, trivial⟩)
        · have e2 : ((qc y.cps.toList (x.cps.toList.take i) : Nat) : Int) = ((qc y.cps.toList (x.cps.toList.take (i + 1)) : Nat) : Int) := by rw [take_snoc hc, qc_snoc, if_neg (by (first | lia | omega))]; rfl
          exact LPost_first (o := oa) (by assumption) (by assumption) hnI (fun _ kz => kz o5 _ _ rfl hd5 (by rw [take_snoc hc]; exact hAV.step (by (first | lia | omega))) ⟨rfl, rfl, rfl, rfl, kint e2, trivial⟩)
    case done =>
      intro m₁ nx h tk HJ F₄ N₄
      refine HJ _ fun oa kva q hq_ hoa hAV hkn => ?_
      subst hq_
      clear HJ
      try dsimp only
      clear N₁ F₁
      replace F₄ := Fr_kn F₄ hkn
      wtm_at "ms"
      rw [List.take_of_length_le (by simp)] at *
      refine calc_r w mean mg mb _ _ _ _ _ _ _ _ _ _ _ _ _ _ _ _ (qc y.cps.toList x.cps.toList) (x.cps.size + y.cps.size) _ _ _ _ _ (by assumption) (by assumption) (by assumption) (by assumption) (by assumption) rfl (by have := qc_le y.cps.toList x.cps.toList; simp only [Array.length_toList] at this; (first | lia | omega)) (by (first | lia | omega)) (by push_cast; rfl) (by show dp + 1 + 20 < recursionLimit; (first | lia | omega)) (by show un + 3 + 200 < cLine; (first | lia | omega)) ?_
      intro t' h7 tk7 F7 N7
      wtm_at "ms"
      have eqm : qc y.cps.toList x.cps.toList = qm x.cps.toList y.cps.toList := qfold0 _ _
      rw [eqm]
      refine hret _ o' (.ref f) nf _ _ (by assumption) (News_sub (by assumption) (fun p hp => ?_)) hoff2 hM2 (.inr ⟨f, of, kvs, rfl, hf, hof, hlo, hCB⟩)
      exact .tail _ (.tail _ hp)
end
section
open PySem PySem.W PyProof.Rows PySem.Calls
local macro_rules | `(tactic| wtm_at "st eval") => `(tactic| with_reducible first | refine' zq26 ?_)
local macro_rules | `(tactic| wtm_at "st") => `(tactic| first | (with_reducible show LCt.CompSrcT _ _ _ _ _ _ _ _ _ _ _ _ _ _ _) | (with_reducible show LCg.CompSrc _ _ _ _ _ _ _ _ _ _ _ _ _ _))
local macro_rules | `(tactic| wtm_at "st call") => `(tactic| with_reducible first | refine' zq27 ?_)
section
open PySem PySem.W PyProof.Rows PySem.Calls
set_option Elab.async false
set_option maxRecDepth 100000
set_option maxHeartbeats 4000000
set_option pp.deepTerms false
set_option pp.deepTerms.threshold 6
set_option linter.unusedSimpArgs false
local macro_rules | `(tactic| wtm_at "st subscriptTail") => `(tactic| with_reducible show wpAny _ _ (subscriptTail _ _ _ _) _ _ _)
open LCg LCt in
theorem law_start (w : World) (mean : ExcName → Option Value) (mg mb : PySem.Str → Option Value)
   (dp un : Nat) (gd : Option (List Code)) (fa : Addr) (ccd : Value) (outer : List Env) (A₀ : Around) (base h₀ : Heap) (L : Addr) (m : PySem.Str → Option Value) (s : Shared)
   (sa : Addr) (vs : List Value) (xs : List Int) (oc : Obj) (ps : Array Value) (Q : Flow → Shared → Prop)
    (B : Below A₀ base outer h₀) (F : Fr h₀ L s.heap m) (X : (K w.params).In h₀) (N : News h₀ L s.heap [(L + 1, oc), (220, tabObj ps)]) (T : Top topProg LQ mean mg mb h₀)
    (hoc : oc.data = .cell (some (.ref sa))) (hsa : h₀.IsList sa vs.toArray) (hI : IntsAre vs xs) (hlen : vs.length ≤ 63)
    (hret : ∀ m' h' tk' y z ty tz, Fr h₀ L h' m' → News h₀ L h' [(L + 1, oc), (220, tabObj ps)] → y.cps.size ≤ 8 → z.cps.size ≤ 8 → m' (PySem.Str.ofString "one") = some (.str y ty) → m' (PySem.Str.ofString "other") = some (.str z tz) →
      wpAny (model PySem.Challenge.pw_xe0001_01 w) (ktrTop dp un gd (PySem.Str.ofString "law") (fScope (tSt 11)) L fa ccd [(PySem.Str.ofString "script", L + 1)] outer) (execs ((fBody (tSt 11)).drop 2) (envX (PySem.Str.ofString "law") (fScope (tSt 11)) L fa ccd [(PySem.Str.ofString "script", L + 1)])) Q NoE { s with heap := h', toks := tk' }) :
    wpAny (model PySem.Challenge.pw_xe0001_01 w) (ktrTop dp un gd (PySem.Str.ofString "law") (fScope (tSt 11)) L fa ccd [(PySem.Str.ofString "script", L + 1)] outer) (execs (fBody (tSt 11)) (envX (PySem.Str.ofString "law") (fScope (tSt 11)) L fa ccd [(PySem.Str.ofString "script", L + 1)])) Q NoE s := by
  have fill : K = K ∧ PySem.Challenge.rw_xe0001_01 = PySem.Challenge.rw_xe0001_01 := by (k_fill; exact ⟨rfl, rfl⟩)
  clear fill
  obtain ⟨sh0, sg0, sd0, st0, so0⟩ := s
  have hSt : Sts sg0 sd0 so0 := trivial
  (try dsimp only at F); (try dsimp only at N); (try dsimp only at hret)
  rw [show fBody (tSt 11) = (fBody (tSt 11)).take 2 ++ (fBody (tSt 11)).drop 2 from (List.take_append_drop 2 _).symm]
  refine cut_at F (fun m' nx => ∃ y ty z tz, nx = [(L + 1, oc), (220, tabObj ps)] ∧ y.cps.size ≤ 8 ∧ z.cps.size ≤ 8 ∧ Kns m' [("one", .str y ty), ("other", .str z tz)]) ?first ?after
  case after =>
    rintro m' nx h' tk' ⟨y, ty, z, tz, rfl, hy, hz, hkn⟩ F' N'
    exact hret m' h' tk' y z ty tz F' N' hy hz hkn.1 hkn.2.1
  refine opq fun PQ hPQ => ?_
  wtm_at "ms"
  refine ListComp_T (by assumption) (by with_unfolding_all rfl) (by decide) (by with_unfolding_all rfl) (by decide) (by with_unfolding_all rfl) ?_ (by intro _; with_unfolding_all rfl)
  wtm_at "ms"
  refine call_len_list (items := vs.toArray) (hsa.at fun o e => F.keep _ _ e) (by simp only [List.size_toArray]; (first | lia | omega)) ?_
  simp only [List.size_toArray]
  wtm_at "ms"
  have en : (if ((xs.length : Nat) : Int) < 16 then ((xs.length : Nat) : Int) else 16) = ((min 16 xs.length : Nat) : Int) := by split <;> (first | lia | omega)
  rename IsRange _ _ _ _ _ _ _ _ => hr
  rw [en] at hr
  refine CompSrcT.range (n := min 16 xs.length) rfl (by assumption) (by assumption) hr (rsmall (a := 0) (by (first | lia | omega)) (by (first | lia | omega))) (rsize (a := 0) (b := min 16 xs.length)) (by simp only [sizeLine]; (first | lia | omega)) (fun g => comp_S (pz := fun i => i % 2 == 0) (f := fun i => (i + 1) / 2) (n := min 16 xs.length) (fun i => ?_) (by (first | lia | omega)) trivial ?test ?elt ?fin _ 0 [] (by (first | lia | omega)) (fun _ h => by simp at h) (by simp))
  · by_cases h : i % 2 = 0 <;> simp [h] <;> (first | lia | omega)
  case test =>
    rintro i v C oC m₂ h5 tk5 E5 news5 hi ⟨tv, rfl⟩ hC hx F5 N5 hCm hb
    wtm_at "ms"
    rw [Int.fmod_eq_emod_of_nonneg _ (by (first | lia | omega))]
    rw [Bool.eq_iff_iff, beq_iff_eq, beq_iff_eq]
    (first | lia | omega)
  case elt =>
    rintro i v C oC m₂ h5 tk5 E5 news5 hi ⟨tv, rfl⟩ hC hx F5 N5 hCm hb
    have hoc5 : (L + 1, oc) ∈ news5 := hb _ (.head _)
    wtm_at "ms"
    refine item_list_ints (hsa.at fun o e => F5.keep _ _ e) (by assumption) (by (first | lia | omega)) (by (first | lia | omega)) (by (first | lia | omega)) ?_
    intro t2
    wtm_at "ms"
    have hab : (PySem.Str.ofString "abc").cps.size = 3 := by decide +kernel
    refine str_idx (by rw [Int.fmod_eq_emod_of_nonneg _ (by (first | lia | omega))]; (first | lia | omega)) (by rw [hab, Int.fmod_eq_emod_of_nonneg _ (by (first | lia | omega))]; (first | lia | omega)) (by rw [hab]; (first | lia | omega)) ?_
    wtm_at "ms"
  case fin =>
    intro D ys h6 tk6 F6 N6 hys hyl
    wtm_at "ms"
    refine join_signs N6 (.head _) hys hyl ?_
    intro z1 tz1 k1 hz1
    replace N6 : News h₀ L h6 [(L + 1, oc), (220, tabObj ps)] := News_sub N6 (fun p hp => .tail _ hp)
    wtm_at "ms"
    refine ListComp_T (by assumption) (by with_unfolding_all rfl) (by decide) (by with_unfolding_all rfl) (by decide) (by with_unfolding_all rfl) ?_ (by intro _; with_unfolding_all rfl)
    wtm_at "ms"
    rename IsRange _ _ _ _ _ _ _ _ => hr2
    rw [en] at hr2
    refine CompSrcT.range (n := min 16 xs.length) rfl (by assumption) (by assumption) hr2 (rsmall (a := 0) (by (first | lia | omega)) (by (first | lia | omega))) (rsize (a := 0) (b := min 16 xs.length)) (by simp only [sizeLine]; (first | lia | omega)) (fun g => comp_S (pz := fun i => i % 2 == 1) (f := fun i => i / 2) (n := min 16 xs.length) (fun i => ?_) (by (first | lia | omega)) trivial ?test2 ?elt2 ?fin2 _ 0 [] (by (first | lia | omega)) (fun _ h => by simp at h) (by simp))
    · by_cases h : i % 2 = 1 <;> simp [h] <;> (first | lia | omega)
    case test2 =>
      rintro i v C oC m₂ h5 tk5 E5 news5 hi ⟨tv, rfl⟩ hC hx F5 N5 hCm hb
      wtm_at "ms"
      rw [Int.fmod_eq_emod_of_nonneg _ (by (first | lia | omega))]
      rw [Bool.eq_iff_iff, beq_iff_eq, beq_iff_eq]
      (first | lia | omega)
    case elt2 =>
      rintro i v C oC m₂ h5 tk5 E5 news5 hi ⟨tv, rfl⟩ hC hx F5 N5 hCm hb
      have hoc5 : (L + 1, oc) ∈ news5 := hb _ (.head _)
      wtm_at "ms"
      refine item_list_ints (hsa.at fun o e => F5.keep _ _ e) (by assumption) (by (first | lia | omega)) (by (first | lia | omega)) (by (first | lia | omega)) ?_
      intro t2
      wtm_at "ms"
      have hab : (PySem.Str.ofString "abcd").cps.size = 4 := by decide +kernel
      refine str_idx (by rw [Int.fmod_eq_emod_of_nonneg _ (by (first | lia | omega))]; (first | lia | omega)) (by rw [hab, Int.fmod_eq_emod_of_nonneg _ (by (first | lia | omega))]; (first | lia | omega)) (by rw [hab]; (first | lia | omega)) ?_
      wtm_at "ms"
    case fin2 =>
      intro D2 ys2 h7 tk7 F7 N7 hys2 hyl2
      wtm_at "ms"
      refine join_signs N7 (.head _) hys2 hyl2 ?_
      intro z2 tz2 k2 hz2
      replace N7 : News h₀ L h7 [(L + 1, oc), (220, tabObj ps)] := News_sub N7 (fun p hp => .tail _ hp)
      wtm_at "ms"
      refine wpAny_execs_nil ?_
      refine hPQ _ _ ?_
      exact ⟨rfl, WEnd_mk (nx' := [(L + 1, oc), (220, tabObj ps)]) (by assumption) (by assumption) ⟨_, _, _, _, rfl, hz1, hz2, rfl, rfl, trivial⟩ (fun p hp => hp)⟩
end
section
open PySem PySem.W PyProof.Rows PySem.Calls
local macro_rules | `(tactic| wtm_at "st compareOp") => `(tactic| with_reducible first | refine' zq28 ?_)
section
open PySem PySem.W PyProof.Rows PySem.Calls
set_option Elab.async false
set_option maxRecDepth 100000
set_option maxHeartbeats 4000000
set_option pp.deepTerms false
set_option pp.deepTerms.threshold 6
set_option linter.unusedSimpArgs false
noncomputable def lawB : List Stmt := match (fBody (tSt 11)).drop 2 with
  | .For _ _ b _ _ :: _ => b
  | _ => []
noncomputable abbrev lawE (L fa : Addr) (ccd : Value) : Env := envX (PySem.Str.ofString "law") (fScope (tSt 11)) L fa ccd [(PySem.Str.ofString "script", L + 1)]
noncomputable abbrev lawA (dp un : Nat) (gd : Option (List Code)) (L fa : Addr) (ccd : Value) (outer : List Env) : Around := ktrTop dp un gd (PySem.Str.ofString "law") (fScope (tSt 11)) L fa ccd [(PySem.Str.ofString "script", L + 1)] outer
noncomputable def StA (w : World) (x y : PySem.Str) (tx ty : Tok) (R0 : List (Addr × Obj)) (m' : PySem.Str → Option Value) (nx : List (Addr × Obj)) : Prop :=
  ∃ D oD xm b2 bj bp R, nx = (D, oD) :: R ∧ (∀ p ∈ R, p.1 ≠ D) ∧ MD (FS x y tx ty .none .none .none (.ref b2) (.ref bj) (.ref bp)) oD ∧ MatR w y xm D b2 bj R ∧ (∀ p ∈ R0, p ∈ R) ∧
    Kns m' [("first", .str x tx), ("second", .str y ty), ("matcher", .ref xm)]
section
variable (w : World) (mean : ExcName → Option Value) (mg mb : PySem.Str → Option Value)
   (dp un : Nat) (gd : Option (List Code)) (fa : Addr) (ccd : Value) (outer : List Env) (A₀ : Around) (base h₀ : Heap) (L : Addr)
theorem turn_A (m : PySem.Str → Option Value) (s : Shared) (R0 : List (Addr × Obj)) (x y : PySem.Str) (tx ty : Tok)
    (B : Below A₀ base outer h₀) (F : Fr h₀ L s.heap m) (X : (K w.params).In h₀) (N : News h₀ L s.heap R0) (T : Top topProg LQ mean mg mb h₀)
    (hx : x.cps.size ≤ 60) (hy : y.cps.size ≤ 60) (h1 : m (PySem.Str.ofString "first") = some (.str x tx)) (h2 : m (PySem.Str.ofString "second") = some (.str y ty))
    (hd : dp + 140 < recursionLimit) (hu : un + 1400 < cLine) :
    wpAny (model PySem.Challenge.pw_xe0001_01 w) (lawA dp un gd L fa ccd outer) (execs (lawB.take 1) (lawE L fa ccd)) (fun f s' => f = .next ∧ WEnd h₀ L (StA w x y tx ty R0) s s') NoE s := by
  have fill : K = K ∧ PySem.Challenge.rw_xe0001_01 = PySem.Challenge.rw_xe0001_01 := by (k_fill; exact ⟨rfl, rfl⟩)
  clear fill
  obtain ⟨sh0, sg0, sd0, st0, so0⟩ := s
  have hSt : Sts sg0 sd0 so0 := trivial
  (try dsimp only at F); (try dsimp only at N); (try dsimp only at hret)
  refine opq fun PQ hPQ => ?_
  replace F := Fr_kn F (l := [("first", .str x tx), ("second", .str y ty)]) ⟨h1, h2, trivial⟩
  wtm_at "ms"
  show wpAny _ _ (call (.ref 242) [.none, .str x tx, .str y ty] [("autojunk", .bool false)]) _ _ _
  refine make w mean mg mb _ _ _ _ _ _ _ _ _ _ _ _ _ _ _ _ x y tx ty _ _ B (by assumption) X (by assumption) T rfl (by (first | lia | omega)) (by (first | lia | omega)) (by (first | lia | omega)) (by (first | lia | omega)) ?_
  intro xm D o' b2 bj bp nx h' tk' F' N' hM hR hoff hsub
  wtm_at "ms"
  refine wpAny_execs_nil ?_
  refine hPQ _ _ ?_
  exact ⟨rfl, WEnd_mk (nx' := (D, o') :: nx) (by assumption) (by assumption) ⟨D, o', xm, b2, bj, bp, nx, rfl, hoff, hM, hR, hsub, rfl, rfl, rfl, trivial⟩ (fun p hp => hp)⟩
theorem turn_B (m : PySem.Str → Option Value) (s : Shared) (R0 nx : List (Addr × Obj)) (x y : PySem.Str) (tx ty : Tok)
    (B : Below A₀ base outer h₀) (F : Fr h₀ L s.heap m) (X : (K w.params).In h₀) (N : News h₀ L s.heap nx) (T : Top topProg LQ mean mg mb h₀)
    (hx : x.cps.size ≤ 60) (hy : y.cps.size ≤ 60) (hS : StA w x y tx ty R0 m nx)
    (hd : dp + 140 < recursionLimit) (hu : un + 1400 < cLine) :
    wpAny (model PySem.Challenge.pw_xe0001_01 w) (lawA dp un gd L fa ccd outer) (execs ((lawB.drop 1).take 2) (lawE L fa ccd)) (fun f s' => f = .next ∧ WEnd h₀ L (StA w x y tx ty R0) s s') NoE s := by
  have fill : K = K ∧ PySem.Challenge.rw_xe0001_01 = PySem.Challenge.rw_xe0001_01 := by (k_fill; exact ⟨rfl, rfl⟩)
  clear fill
  obtain ⟨sh0, sg0, sd0, st0, so0⟩ := s
  have hSt : Sts sg0 sd0 so0 := trivial
  (try dsimp only at F); (try dsimp only at N); (try dsimp only at hret)
  refine opq fun PQ hPQ => ?_
  obtain ⟨D, oD, xm, b2, bj, bp, R, rfl, hoff, hM, hR, hsub, hkn⟩ := hS
  replace F := Fr_kn F hkn
  have hx2 : x.cps.size ≤ 100 := by (first | lia | omega)
  have hy2 : y.cps.size ≤ 100 := by (first | lia | omega)
  have hxm := hR.1
  wtm_at "ms"
  refine longest_use (alo := 0) (ahi := x.cps.size) (blo := 0) (bhi := y.cps.size) B (by assumption) X (by assumption) T rfl (Nat.zero_le _) (Nat.le_refl _) (Nat.zero_le _) (Nat.le_refl _) hx2 hy2 (by (first | lia | omega)) (by (first | lia | omega)) ?_
  intro c u1 u2 u3 h5 tk5 F5 N5
  wtm_at "ms"
  refine find_lg w mean mg mb _ _ _ _ _ _ _ _ _ _ _ _ _ _ _ _ x y tx ty xm D b2 bj bp _ _ _ oD 0 x.cps.size 0 y.cps.size _ _ _ _ _ _ B (by assumption) X (by assumption) T rfl hx2 hy2 (Nat.zero_le _) (Nat.le_refl _) (Nat.zero_le _) (Nat.le_refl _) (by wtm_at "mt") hM (hR.mono fun p hp => .tail _ (.tail _ hp)) (by (first | lia | omega)) (by (first | lia | omega)) ?_
  intro r d q1 q2 q3 tl h6 tk6 F6 N6
  wtm_at "ms"
  refine call_tuple_match rfl F6 X N6 (.head _) (Nat.le_of_ble_eq_true rfl) (Nat.succ_ne_zero _) ?_
  intro t h7 tk7 F7 N7 _
  wtm_at "ms"
  refine ne_trip (p := lg x.cps.toList y.cps.toList 0 x.cps.size 0 y.cps.size) (by assumption) (.head _) (.tail _ (.tail _ (List.mem_append_right _ (.head _)))) (by show un + 64 < cLine; (first | lia | omega)) ?_
  wtm_at "ms"
  dsimp only
  refine wpAny_execs_nil ?_
  refine hPQ _ _ ?_
  exact ⟨rfl, WEnd_mk (nx' := (D, oD) :: R) (by assumption) N7 ⟨D, oD, xm, b2, bj, bp, R, rfl, hoff, hM, hR, hsub, rfl, rfl, rfl, trivial⟩ (fun p hp => .tail _ (.tail _ (List.mem_append_right _ (.tail _ hp))))⟩
end
end
section
open PySem PySem.W PyProof.Rows PySem.Calls
set_option Elab.async false
set_option maxRecDepth 100000
set_option maxHeartbeats 4000000
set_option pp.deepTerms false
set_option pp.deepTerms.threshold 6
set_option linter.unusedSimpArgs false
theorem TR.into {nw nw' : List (Addr × Obj)} (k : ∀ p ∈ nw, p.2.cls = .type "tuple" → p ∈ nw') {vs : List Value} {ps : List NNN} (t : TR nw vs ps) : TR nw' vs ps :=
  TX.map (fun c o p m q => k _ m (by obtain ⟨_, _, _, rfl⟩ := q; rfl)) t
noncomputable def StC (w : World) (x y : PySem.Str) (tx ty : Tok) (R0 : List (Addr × Obj)) (m' : PySem.Str → Option Value) (nx : List (Addr × Obj)) : Prop :=
  ∃ D oD xm b2 bj bp l vm nm lo lb vb nb R, nx = (D, oD) :: R ∧ (∀ p ∈ R, p.1 ≠ D) ∧ MD (FS x y tx ty (.ref l) (.ref lo) .none (.ref b2) (.ref bj) (.ref bp)) oD ∧ (xm, instObj 242 D) ∈ R ∧
    (l, listOf vm.toArray nm) ∈ R ∧ TM R vm (blocksF x.cps.toList y.cps.toList) ∧ (lb, listOf vb.toArray nb) ∈ R ∧ TR R vb (blocksF x.cps.toList y.cps.toList) ∧ (∀ p ∈ R0, p ∈ R) ∧
    Kns m' [("first", .str x tx), ("second", .str y ty), ("matcher", .ref xm), ("blocks", .ref lb)]
section
variable (w : World) (mean : ExcName → Option Value) (mg mb : PySem.Str → Option Value)
   (dp un : Nat) (gd : Option (List Code)) (fa : Addr) (ccd : Value) (outer : List Env) (A₀ : Around) (base h₀ : Heap) (L : Addr)
theorem turn_C (m : PySem.Str → Option Value) (s : Shared) (R0 nx : List (Addr × Obj)) (x y : PySem.Str) (tx ty : Tok)
    (B : Below A₀ base outer h₀) (F : Fr h₀ L s.heap m) (X : (K w.params).In h₀) (N : News h₀ L s.heap nx) (T : Top topProg LQ mean mg mb h₀)
    (hx : x.cps.size ≤ 60) (hy : y.cps.size ≤ 60) (hS : StA w x y tx ty R0 m nx)
    (hd : dp + 140 < recursionLimit) (hu : un + 1400 < cLine) :
    wpAny (model PySem.Challenge.pw_xe0001_01 w) (lawA dp un gd L fa ccd outer) (execs ((lawB.drop 3).take 2) (lawE L fa ccd)) (fun f s' => f = .next ∧ WEnd h₀ L (StC w x y tx ty R0) s s') NoE s := by
  have fill : K = K ∧ PySem.Challenge.rw_xe0001_01 = PySem.Challenge.rw_xe0001_01 := by (k_fill; exact ⟨rfl, rfl⟩)
  clear fill
  obtain ⟨sh0, sg0, sd0, st0, so0⟩ := s
  have hSt : Sts sg0 sd0 so0 := trivial
  (try dsimp only at F); (try dsimp only at N); (try dsimp only at hret)
  refine opq fun PQ hPQ => ?_
  obtain ⟨D, oD, xm, b2, bj, bp, R, rfl, hoff, hM, hR, hsub, hkn⟩ := hS
  replace F := Fr_kn F hkn
  have hx2 : x.cps.size ≤ 100 := by (first | lia | omega)
  have hy2 : y.cps.size ≤ 100 := by (first | lia | omega)
  have hxm := hR.1
  wtm_at "ms"
  refine blocks w mean mg mb _ _ _ _ _ _ _ _ _ _ _ _ _ _ _ _ x y tx ty _ _ B (by assumption) X (by assumption) T rfl hx2 hy2 (by (first | lia | omega)) (by (first | lia | omega)) ?_
  intro lb vb nb tl h5 tk5 F5 N5 hTR
  have hvl := hTR.length
  have hbl : (blocksF x.cps.toList y.cps.toList).length ≤ x.cps.size + 1 := by have := blocksF_length x.cps.toList y.cps.toList; simpa using this
  have hoff5 : ∀ p ∈ (lb, listOf vb.toArray nb) :: (tups tl ++ R), p.1 ≠ D := fun p hp => by
    rcases List.mem_cons.mp hp with rfl | hp
    · exact ne_of_obj N5 (.head _) (.tail _ (List.mem_append_right _ (.head _))) (by rw [hM.cls]; show Value.type "list" ≠ .type "dict"; decide)
    rcases List.mem_append.mp hp with hp | hp
    · have := mem_tups.mp hp
      exact ne_of_obj (o := p.2) N5 (.tail _ (List.mem_append_left _ this.1)) (.tail _ (List.mem_append_right _ (.head _))) (by rw [hM.cls, this.2]; decide)
    · exact hoff p hp
  replace hTR : TR (tups tl) vb (blocksF x.cps.toList y.cps.toList) := hTR.into fun p hp hc => mem_tups.mpr ⟨hp, hc⟩
  replace N5 : News h₀ L h5 ((D, oD) :: (lb, listOf vb.toArray nb) :: (tups tl ++ R)) := News_sub N5 fun p hp => by
    rcases List.mem_cons.mp hp with rfl | hp
    · exact .tail _ (List.mem_append_right _ (.head _))
    rcases List.mem_cons.mp hp with rfl | hp
    · exact .head _
    rcases List.mem_append.mp hp with hp | hp
    · exact .tail _ (List.mem_append_left _ (mem_tups.mp hp).1)
    · exact .tail _ (List.mem_append_right _ (.tail _ hp))
  wtm_at "ms"
  wtm_at "m1"
  wtm_at "ms"
  rename Fr h₀ L _ (fun y_1 => if y_1 = PySem.Str.ofString "blocks" then _ else _) => F6
  rename News h₀ L _ _ => N6
  have hR6 : MatR w y xm D b2 bj ((lb, listOf vb.toArray nb) :: (tups tl ++ R)) := hR.mono fun p hp => .tail _ (List.mem_append_right _ hp)
  refine LCg.ListComp_U F6 (by with_unfolding_all rfl) (by decide) (by with_unfolding_all rfl) (by decide) (by with_unfolding_all rfl) ?_ (by intro _; with_unfolding_all rfl)
  wtm_at "ms"
  refine gmb w mean mg mb _ _ _ _ _ _ _ _ _ _ _ _ _ _ _ _ x y tx ty xm D b2 bj bp _ _ oD _ _ B F6 X N6 T rfl hx hy hoff5 hM hR6 (by (first | lia | omega)) (by (first | lia | omega)) ?_
  intro l vm nm o7 tl7 h7 tk7 F7 N7 hM7 hTM7 hoff7
  have hm7 := hTM7.length
  refine LCg.CompSrc.ledger rfl F7 N7 (.tail _ (.head _)) (by simp only [List.size_toArray, sizeLine]; (first | lia | omega)) (fun g => comp_R (tl := []) X T rfl rfl (by with_unfolding_all rfl) (by with_unfolding_all rfl) (fun _ => by with_unfolding_all rfl) (by decide) rfl (.tail _ (.head _)) (hTM7.mono fun p hp => .tail _ (.tail _ (List.mem_append_left _ hp))) ?fin _ 0 [] (by simp) TR.nil)
  case fin =>
    intro D8 ys8 tl8 h8 tk8 F8 N8 hTR8
    wtm_at "ms"
    have hlb8 : (lb, listOf vb.toArray nb) ∈ (D8, listOf ys8.toArray ys8.length) :: (tl8 ++ (D, o7) :: (l, listOf vm.toArray nm) :: (tl7 ++ (lb, listOf vb.toArray nb) :: (tups tl ++ R))) := .tail _ (List.mem_append_right _ (.tail _ (.tail _ (List.mem_append_right _ (.head _)))))
    refine ne_blocks N8 (.head _) hlb8 (hTR8.mono fun p hp => .tail _ hp) (hTR.mono fun p hp => .tail _ (List.mem_append_right _ (.tail _ (.tail _ (List.mem_append_right _ (.tail _ (List.mem_append_left _ hp))))))) (by show un + 64 < cLine; (first | lia | omega)) ?_
    clear hlb8
    replace N8 : News h₀ L h8 ((D, o7) :: (l, listOf vm.toArray nm) :: (tl7 ++ (lb, listOf vb.toArray nb) :: (tups tl ++ R))) := News_sub N8 (fun p hp => .tail _ (List.mem_append_right _ hp))
    clear N7 N6 F6 F7
    wtm_at "ms"
    refine LCg.ListComp_U F8 (by with_unfolding_all rfl) (by decide) (by with_unfolding_all rfl) (by decide) (by with_unfolding_all rfl) ?_ (by intro _; with_unfolding_all rfl)
    have hxm8 : (xm, instObj 242 D) ∈ (l, listOf vm.toArray nm) :: (tl7 ++ (lb, listOf vb.toArray nb) :: (tups tl ++ R)) := .tail _ (List.mem_append_right _ (.tail _ (List.mem_append_right _ hxm)))
    wtm_at "ms"
    refine opcodes w mean mg mb _ _ _ _ _ _ _ _ _ _ _ _ _ _ _ _ x y tx ty xm D b2 bj bp l vm nm (blocksF x.cps.toList y.cps.toList) _ o7 _ _ B F8 X N8 T rfl hM7 hoff7 hxm8 (.head _) (hTM7.mono fun p hp => .tail _ (List.mem_append_left _ hp)) (by (first | lia | omega)) (by (first | lia | omega)) (by (first | lia | omega)) ?_
    intro lo vo no o9 tl9 h9 tk9 F9 N9 hM9 hTC9 hoff9
    have hm9 := hTC9.length
    have hcl : (codesF (blocksF x.cps.toList y.cps.toList)).length ≤ 2 * (blocksF x.cps.toList y.cps.toList).length := by have := foldc_length (blocksF x.cps.toList y.cps.toList) ([], 0, 0); simpa [codesF] using this
    refine LCg.CompSrc.ledger rfl F9 N9 (.tail _ (.head _)) (by simp only [List.size_toArray, sizeLine]; (first | lia | omega)) (fun g => comp_C X T rfl rfl (by with_unfolding_all rfl) (by with_unfolding_all rfl) (fun _ => by with_unfolding_all rfl) (by decide) rfl (.tail _ (.head _)) (hTC9.mono fun p hp => .tail _ (.tail _ (List.mem_append_left _ hp))) ?fin2 _ 0 [] (by simp) TC.nil)
    case fin2 =>
      intro D10 ys10 h10 tk10 F10 N10 hTC10
      wtm_at "ms"
      have kR : ∀ p ∈ (lb, listOf vb.toArray nb) :: (tups tl ++ R), p ∈ (D10, listOf ys10.toArray ys10.length) :: (D, o9) :: (lo, listOf vo.toArray no) :: (tl9 ++ (l, listOf vm.toArray nm) :: (tl7 ++ (lb, listOf vb.toArray nb) :: (tups tl ++ R))) :=
        fun p hp => .tail _ (.tail _ (.tail _ (List.mem_append_right _ (.tail _ (List.mem_append_right _ hp)))))
      generalize hps : (pieces x.cps.toList y.cps.toList (x.cps.toList.length + 1) 0 x.cps.toList.length 0 y.cps.toList.length).foldl bstep [] = ps0
      have hbe : blocksF x.cps.toList y.cps.toList = ps0 ++ [(x.cps.toList.length, y.cps.toList.length, 0)] := by unfold blocksF; rw [hps]
      have hp0 : ps0.length ≤ 100 := by rw [hbe] at hbl; simp only [List.length_append, List.length_cons, List.length_nil] at hbl; (first | lia | omega)
      refine codes w mean mg mb _ _ _ _ _ _ _ _ _ _ _ _ _ _ _ _ lb vb nb ps0 x.cps.toList.length y.cps.toList.length _ _ B F10 X N10 T rfl (kR _ (.head _)) (by rw [← hbe]; exact hTR.mono fun p hp => kR p (.tail _ (List.mem_append_left _ hp))) hp0 (by (first | lia | omega)) (by (first | lia | omega)) ?_
      intro lc vc nc tlc h11 tk11 F11 N11 hTC11
      rw [← hbe] at hTC11
      wtm_at "ms"
      refine ne_codes (vs := ys10) (vs' := vc) N11 (.tail _ (List.mem_append_right _ (.head _))) (.head _) (hTC10.mono fun p hp => .tail _ (List.mem_append_right _ (.tail _ hp))) (hTC11.mono fun p hp => .tail _ (List.mem_append_left _ hp)) (by show un + 64 < cLine; (first | lia | omega)) ?_
      wtm_at "ms"
      dsimp only
      refine wpAny_execs_nil ?_
      refine hPQ _ _ ?_
      refine ⟨rfl, WEnd_mk (nx' := (D, o9) :: (lo, listOf vo.toArray no) :: (tl9 ++ (l, listOf vm.toArray nm) :: (tl7 ++ (lb, listOf vb.toArray nb) :: (tups tl ++ R)))) (by assumption) N11 ⟨D, o9, xm, b2, bj, bp, l, vm, nm, lo, lb, vb, nb, _, rfl, hoff9, hM9, ?_, ?_, ?_, ?_, ?_, ?_, rfl, rfl, rfl, rfl, trivial⟩ (fun p hp => .tail _ (List.mem_append_right _ (.tail _ hp)))⟩
      · exact .tail _ (List.mem_append_right _ hxm8)
      · exact .tail _ (List.mem_append_right _ (.head _))
      · exact hTM7.mono fun p hp => .tail _ (List.mem_append_right _ (.tail _ (List.mem_append_left _ hp)))
      · exact .tail _ (List.mem_append_right _ (.tail _ (List.mem_append_right _ (.head _))))
      · exact hTR.mono fun p hp => .tail _ (List.mem_append_right _ (.tail _ (List.mem_append_right _ (.tail _ (List.mem_append_left _ hp)))))
      · exact fun p hp => .tail _ (List.mem_append_right _ (.tail _ (List.mem_append_right _ (.tail _ (List.mem_append_right _ (hsub p hp))))))
end
end
section
open PySem PySem.W PyProof.Rows PySem.Calls
set_option Elab.async false
set_option maxRecDepth 100000
set_option maxHeartbeats 4000000
set_option pp.deepTerms false
set_option pp.deepTerms.threshold 6
set_option linter.unusedSimpArgs false
theorem cat_ne (x y : PySem.Str) : (x ++ y != PySem.Str.ofString "") = !(x.cps.size + y.cps.size == 0) := by
  have e : PySem.Str.ofString "" = ⟨#[]⟩ := by decide +kernel
  rw [e]
  show (!((⟨x.cps ++ y.cps⟩ : PySem.Str) == ⟨#[]⟩)) = _
  congr 1
  rw [Bool.eq_iff_iff, beq_iff_eq, beq_iff_eq, ← Array.size_append]
  constructor
  · intro h
    have := congrArg (fun z : PySem.Str => z.cps.size) h
    simpa using this
  · intro h
    have := Array.eq_empty_of_size_eq_zero h
    rw [this]
noncomputable def StD (w : World) (x y : PySem.Str) (tx ty : Tok) (R0 : List (Addr × Obj)) (m' : PySem.Str → Option Value) (nx : List (Addr × Obj)) : Prop :=
  ∃ D oD xm b2 bj bp l vm nm lo R t, nx = (D, oD) :: R ∧ (∀ p ∈ R, p.1 ≠ D) ∧ MD (FS x y tx ty (.ref l) (.ref lo) .none (.ref b2) (.ref bj) (.ref bp)) oD ∧ (xm, instObj 242 D) ∈ R ∧
    (l, listOf vm.toArray nm) ∈ R ∧ TM R vm (blocksF x.cps.toList y.cps.toList) ∧ (∀ p ∈ R0, p ∈ R) ∧
    Kns m' [("first", .str x tx), ("second", .str y ty), ("matcher", .ref xm), ("due", .float (RT (szs (blocksF x.cps.toList y.cps.toList)) (x.cps.size + y.cps.size)) t)]
section
variable (w : World) (mean : ExcName → Option Value) (mg mb : PySem.Str → Option Value)
   (dp un : Nat) (gd : Option (List Code)) (fa : Addr) (ccd : Value) (outer : List Env) (A₀ : Around) (base h₀ : Heap) (L : Addr)
theorem turn_D (m : PySem.Str → Option Value) (s : Shared) (R0 nx : List (Addr × Obj)) (x y : PySem.Str) (tx ty : Tok)
    (B : Below A₀ base outer h₀) (F : Fr h₀ L s.heap m) (X : (K w.params).In h₀) (N : News h₀ L s.heap nx) (T : Top topProg LQ mean mg mb h₀)
    (hx : x.cps.size ≤ 60) (hy : y.cps.size ≤ 60) (hS : StC w x y tx ty R0 m nx)
    (hd : dp + 140 < recursionLimit) (hu : un + 1400 < cLine) :
    wpAny (model PySem.Challenge.pw_xe0001_01 w) (lawA dp un gd L fa ccd outer) (execs ((lawB.drop 5).take 2) (lawE L fa ccd)) (fun f s' => f = .next ∧ WEnd h₀ L (StD w x y tx ty R0) s s') NoE s := by
  have fill : K = K ∧ PySem.Challenge.rw_xe0001_01 = PySem.Challenge.rw_xe0001_01 := by (k_fill; exact ⟨rfl, rfl⟩)
  clear fill
  obtain ⟨sh0, sg0, sd0, st0, so0⟩ := s
  have hSt : Sts sg0 sd0 so0 := trivial
  (try dsimp only at F); (try dsimp only at N); (try dsimp only at hret)
  refine opq fun PQ hPQ => ?_
  obtain ⟨D, oD, xm, b2, bj, bp, l, vm, nm, lo, lb, vb, nb, R, rfl, hoff, hM, hxm, hl, hTM, hlb, hTR, hsub, hkn⟩ := hS
  replace F := Fr_kn F hkn
  have hx2 : x.cps.size ≤ 100 := by (first | lia | omega)
  have hy2 : y.cps.size ≤ 100 := by (first | lia | omega)
  have hvl := hTR.length
  have hbl : (blocksF x.cps.toList y.cps.toList).length ≤ x.cps.size + 1 := by have := blocksF_length x.cps.toList y.cps.toList; simpa using this
  have hszs := szs_qm x.cps.toList y.cps.toList
  have hq1 := qm_le1 x.cps.toList y.cps.toList
  rw [Array.length_toList] at hq1
  wtm_at "ms"
  refine ListComp_sz (l := lb) (vs := vb) (n := nb) (bl := blocksF x.cps.toList y.cps.toList) F N (by with_unfolding_all rfl) (by decide) (by with_unfolding_all rfl) (by decide) (by with_unfolding_all rfl) (by with_unfolding_all rfl) (by with_unfolding_all rfl) (by decide) rfl (.tail _ hlb) (hTR.mono fun p hp => .tail _ hp) (by (first | lia | omega)) ?iter (by intro _; with_unfolding_all rfl) ?fin
  case iter =>
    wtm_at "m1"
    exact ⟨rfl, _, _, rfl, F, N⟩
  case fin =>
    intro D5 h5 tk5 ys5 F5 N5 hys5
    wtm_at "ms"
    refine sum_nats rfl F5 N5 (.head _) hys5 ?_
    intro h6 tk6 t6 F6 N6
    replace N6 : News h₀ L h6 ((D, oD) :: R) := News_sub N6 (fun p hp => .tail _ hp)
    have hmm : ((blocksF x.cps.toList y.cps.toList).map (·.2.2)).sum ≤ 1000 := by have : szs (blocksF x.cps.toList y.cps.toList) = ((blocksF x.cps.toList y.cps.toList).map (·.2.2)).sum := rfl; (first | lia | omega)
    have hmz : szs (blocksF x.cps.toList y.cps.toList) = ((blocksF x.cps.toList y.cps.toList).map (·.2.2)).sum := rfl
    generalize hmq : ((blocksF x.cps.toList y.cps.toList).map (·.2.2)).sum = mm at *
    clear hszs hq1 hvl hbl hys5
    have hc := cat_ne x y
    wtm_at "ms"
    · rename ((x.cps.size : Nat) : Int) + _ = 0 => hz
      rename (x ++ y != _) = true => hb
      rw [hc] at hb
      exfalso
      have : x.cps.size + y.cps.size = 0 := by (first | lia | omega)
      rw [this] at hb
      exact absurd hb (by decide)
    · rename (x ++ y != _) = true => hb
      rw [hc] at hb
      have hn : x.cps.size + y.cps.size ≠ 0 := fun q => by rw [q] at hb; exact absurd hb (by decide)
      have e : RT (szs (blocksF x.cps.toList y.cps.toList)) (x.cps.size + y.cps.size) = Float64.div (Float64.mul 4611686018427387904 (Float64.ofInt ((mm : Nat) : Int))) (Float64.ofInt (((x.cps.size : Nat) : Int) + ((y.cps.size : Nat) : Int))) := by
        show RT ((blocksF x.cps.toList y.cps.toList).map (·.2.2)).sum _ = _
        rw [hmq]; unfold RT; rw [if_neg hn]; push_cast; rfl
      refine wpAny_execs_nil ?_
      refine hPQ _ _ ?_
      exact ⟨rfl, WEnd_mk (nx' := (D, oD) :: R) (by assumption) (by assumption) ⟨D, oD, xm, b2, bj, bp, l, vm, nm, lo, R, _, rfl, hoff, hM, hxm, hl, hTM, hsub, rfl, rfl, rfl, by rw [e]; rfl, trivial⟩ (fun p hp => hp)⟩
    · rename (x ++ y != _) = false => hb
      rw [hc] at hb
      have hn : x.cps.size + y.cps.size = 0 := by simpa using hb
      have e : RT (szs (blocksF x.cps.toList y.cps.toList)) (x.cps.size + y.cps.size) = 4607182418800017408 := by
        unfold RT; rw [if_pos hn]
      refine wpAny_execs_nil ?_
      refine hPQ _ _ ?_
      exact ⟨rfl, WEnd_mk (nx' := (D, oD) :: R) (by assumption) (by assumption) ⟨D, oD, xm, b2, bj, bp, l, vm, nm, lo, R, _, rfl, hoff, hM, hxm, hl, hTM, hsub, rfl, rfl, rfl, by rw [e]; rfl, trivial⟩ (fun p hp => hp)⟩
end
end
section
open PySem PySem.W PyProof.Rows PySem.Calls
local macro_rules | `(tactic| wtm_at "st compareOp") => `(tactic| with_reducible first | refine' zq29 ?_)
section
open PySem PySem.W PyProof.Rows PySem.Calls
set_option Elab.async false
set_option maxRecDepth 100000
set_option maxHeartbeats 4000000
set_option pp.deepTerms false
set_option pp.deepTerms.threshold 6
set_option linter.unusedSimpArgs false
noncomputable def GTurn (h₀ : Heap) (L : Addr) (rest : List (Addr × Obj)) (s : Shared) (f : Flow) (s₂ : Shared) : Prop :=
  f = .next ∧ ∃ h' gs tk m' ps', s₂ = { s with heap := h', gens := gs, toks := tk } ∧ AllBare gs ∧ Fr h₀ L h' m' ∧ News h₀ L h' ((220, tabObj ps') :: rest) ∧ TriplesOk ps'.toList
section
variable (w : World) (mean : ExcName → Option Value) (mg mb : PySem.Str → Option Value)
   (dp un : Nat) (gd : Option (List Code)) (fa : Addr) (ccd : Value) (outer : List Env) (A₀ : Around) (base h₀ : Heap) (L : Addr)
theorem turn_E (m : PySem.Str → Option Value) (s : Shared) (rest nx : List (Addr × Obj)) (ps : Array Value) (x y : PySem.Str) (tx ty : Tok)
    (B : Below A₀ base outer h₀) (F : Fr h₀ L s.heap m) (X : (K w.params).In h₀) (N : News h₀ L s.heap nx) (T : Top topProg LQ mean mg mb h₀)
    (hx : x.cps.size ≤ 60) (hy : y.cps.size ≤ 60) (hmin : y.cps.size ≤ 8) (hsum : x.cps.size + y.cps.size ≤ 24) (hS : StD w x y tx ty ((220, tabObj ps) :: rest) m nx)
    (hoff0 : ∀ p ∈ rest, p.1 ≠ 220) (htr : TriplesOk ps.toList) (C : CodeHd h₀ 224 220) (hG : AllBare s.gens)
    (hd : dp + 140 < recursionLimit) (hu : un + 1400 < cLine) :
    wpAny (model PySem.Challenge.pw_xe0001_01 w) (lawA dp un gd L fa ccd outer) (execs (lawB.drop 7) (lawE L fa ccd)) (GTurn h₀ L rest s) NoE s := by
  have fill : K = K ∧ PySem.Challenge.rw_xe0001_01 = PySem.Challenge.rw_xe0001_01 := by (k_fill; exact ⟨rfl, rfl⟩)
  clear fill
  obtain ⟨D, oD, xm, b2, bj, bp, l, vm, nm, lo, R, t0, rfl, hoff, hM, hxm, hl, hTM, hsub, hkn⟩ := hS
  replace F := Fr_kn F hkn
  have hx2 : x.cps.size ≤ 100 := by (first | lia | omega)
  have hy2 : y.cps.size ≤ 100 := by (first | lia | omega)
  have hszs := szs_qm x.cps.toList y.cps.toList
  have hq2 := qm_le2 x.cps.toList y.cps.toList
  have hq1 := qm_le1 x.cps.toList y.cps.toList
  simp only [Array.length_toList] at hq1 hq2
  have h220 : (220, tabObj ps) ∈ (D, oD) :: R := .tail _ (hsub _ (.head _))
  have n220 : ∀ p ∈ (D, oD) :: R, p.2.cls ≠ .none → p.1 ≠ 220 := fun p hp hc => ne_of_obj (o := p.2) (o' := tabObj ps) N hp h220 hc
  have hD220 : D ≠ 220 := n220 (D, oD) (.head _) (by rw [hM.cls]; decide)
  have hoffR : off 220 ((D, oD) :: R) = (D, oD) :: off 220 R := off_cons hD220
  have NR : News h₀ L s.heap ((220, tabObj ps) :: (D, oD) :: off 220 R) := by have := News_off N h220; rwa [hoffR] at this
  have hxmR : (xm, instObj 242 D) ∈ off 220 R := mem_off.mpr ⟨hxm, n220 (xm, instObj 242 D) (.tail _ hxm) (by show Value.ref 242 ≠ .none; decide)⟩
  have hlR : (l, listOf vm.toArray nm) ∈ off 220 R := mem_off.mpr ⟨hl, n220 (l, listOf vm.toArray nm) (.tail _ hl) (by show Value.type "list" ≠ .none; decide)⟩
  have hTMR : TM (off 220 R) vm (blocksF x.cps.toList y.cps.toList) := hTM.mats.mono fun p hp => mem_off.mpr ⟨(mem_mats.mp hp).1, n220 p (.tail _ (mem_mats.mp hp).1) (by rw [(mem_mats.mp hp).2]; decide)⟩
  clear N
  wtm_at "ms"
  wtm_at "m1"
  wtm_at "ms"
  show wpAny _ _ (call (.ref 225) [.ref xm]) _ _ _
  have hoff5 : ∀ p ∈ (D, oD) :: off 220 R, p.1 ≠ 220 := fun p hp => by
    rcases List.mem_cons.mp hp with rfl | hp
    · exact hD220
    · exact (mem_off.mp hp).2
  refine ratio w mean mg mb _ _ _ _ _ _ _ _ _ _ _ _ _ _ ((D, oD) :: off 220 R) _ x y tx ty xm D b2 bj bp l vm nm (blocksF x.cps.toList y.cps.toList) _ _ oD ps _ _ B (by assumption) X NR T rfl hoff5 htr C hG hx2 hy2 hM (.head _) (.tail _ hxmR) (.tail _ hlR) (hTMR.mono fun p hp => .tail _ hp) (by (first | lia | omega)) (by (first | lia | omega)) (by (first | lia | omega)) ?_
  intro ps5 t5 h5 gs5 tk5 F5 N5 ht5 hg5
  wtm_at "ms"
  refine PySem.AutoFloatOps.ne_0 ?_
  rw [RT_ne (by (first | lia | omega)) hsum]
  have hDq : ∀ p ∈ (220, tabObj ps5) :: off 220 R, p.1 ≠ D := fun p hp => by
    rcases List.mem_cons.mp hp with rfl | hp
    · exact Ne.symm hD220
    · exact hoff p (mem_off.mp hp).1
  replace N5 : News h₀ L h5 ((D, oD) :: (220, tabObj ps5) :: off 220 R) := News_sub N5 fun p hp => by
    rcases List.mem_cons.mp hp with rfl | hp
    · exact .tail _ (.head _)
    rcases List.mem_cons.mp hp with rfl | hp
    · exact .head _
    · exact .tail _ (.tail _ hp)
  wtm_at "ms"
  show wpAny _ _ (call (.ref 232) [.ref xm]) _ _ _
  refine quick w mean mg mb _ _ _ _ _ _ _ _ _ _ _ _ _ _ ((220, tabObj ps5) :: off 220 R) _ x y tx ty xm D b2 bj bp _ _ _ oD _ _ B (by assumption) X N5 T rfl hDq hx2 hy2 hM (.tail _ hxmR) (.inl rfl) (by (first | lia | omega)) (by (first | lia | omega)) ?_
  intro t6 o6 fc6 nf6 h6 tk6 F6 N6 hoff6 hM6 hfc6
  wtm_at "ms"
  refine PySem.AutoFloatOps.lt_0 ?_
  rw [RT_lt hszs (by (first | lia | omega)) hsum]
  wtm_at "ms"
  show wpAny _ _ (call (.ref 239) [.ref xm]) _ _ _
  have hxm6 : (xm, instObj 242 D) ∈ nf6 ++ (220, tabObj ps5) :: off 220 R := List.mem_append_right _ (.tail _ hxmR)
  refine real_qr w mean mg mb _ _ _ _ _ _ _ _ _ _ _ _ _ _ _ _ x y tx ty xm D b2 bj bp _ _ _ o6 _ _ B (by assumption) X N6 T rfl hx2 hy2 hM6 (.head _) (.tail _ hxm6) (by (first | lia | omega)) (by (first | lia | omega)) ?_
  intro t7 h7 tk7 F7 N7
  wtm_at "ms"
  show wpAny _ _ (call (.ref 232) [.ref xm]) _ _ _
  refine quick w mean mg mb _ _ _ _ _ _ _ _ _ _ _ _ _ _ (nf6 ++ (220, tabObj ps5) :: off 220 R) _ x y tx ty xm D b2 bj bp _ _ _ o6 _ _ B (by assumption) X N7 T rfl hoff6 hx2 hy2 hM6 hxm6 hfc6 (by (first | lia | omega)) (by (first | lia | omega)) ?_
  intro t8 o8 fc8 nf8 h8 tk8 F8 N8 hoff8 hM8 hfc8
  wtm_at "ms"
  refine PySem.AutoFloatOps.lt_0 ?_
  rw [RT_lt (m := qm x.cps.toList y.cps.toList) (m' := min x.cps.size y.cps.size) (by (first | lia | omega)) (by (first | lia | omega)) hsum]
  wtm_at "ms"
  refine ⟨rfl, h8, gs5, tk8, _, ps5, rfl, hg5, F8, News_sub N8 (fun p hp => .tail _ (List.mem_append_right _ (List.mem_append_right _ ?_))), ht5⟩
  rcases List.mem_cons.mp hp with rfl | hp
  · exact .head _
  · exact .tail _ (mem_off.mpr ⟨hsub _ (.tail _ hp), hoff0 p hp⟩)
theorem turn (m : PySem.Str → Option Value) (s : Shared) (rest : List (Addr × Obj)) (ps : Array Value) (x y : PySem.Str) (tx ty : Tok)
    (B : Below A₀ base outer h₀) (F : Fr h₀ L s.heap m) (X : (K w.params).In h₀) (N : News h₀ L s.heap ((220, tabObj ps) :: rest)) (T : Top topProg LQ mean mg mb h₀)
    (hx : x.cps.size ≤ 60) (hy : y.cps.size ≤ 8) (hsum : x.cps.size + y.cps.size ≤ 24)
    (h1 : m (PySem.Str.ofString "first") = some (.str x tx)) (h2 : m (PySem.Str.ofString "second") = some (.str y ty))
    (hoff0 : ∀ p ∈ rest, p.1 ≠ 220) (htr : TriplesOk ps.toList) (C : CodeHd h₀ 224 220) (hG : AllBare s.gens)
    (hd : dp + 140 < recursionLimit) (hu : un + 1400 < cLine) :
    wpAny (model PySem.Challenge.pw_xe0001_01 w) (lawA dp un gd L fa ccd outer) (execs lawB (lawE L fa ccd)) (GTurn h₀ L rest s) NoE s := by
  have hy6 : y.cps.size ≤ 60 := by (first | lia | omega)
  rw [show lawB = lawB.take 1 ++ ((lawB.drop 1).take 2 ++ ((lawB.drop 3).take 2 ++ ((lawB.drop 5).take 2 ++ lawB.drop 7))) from rfl]
  refine cut_at F (StA w x y tx ty ((220, tabObj ps) :: rest)) (turn_A w mean mg mb dp un gd fa ccd outer A₀ base h₀ L m s _ x y tx ty B F X N T hx hy6 h1 h2 hd hu) ?_
  intro m1 n1 g1 k1 S1 F1 N1
  refine cut_at F1 (StA w x y tx ty ((220, tabObj ps) :: rest)) (turn_B w mean mg mb dp un gd fa ccd outer A₀ base h₀ L m1 _ _ n1 x y tx ty B F1 X N1 T hx hy6 S1 hd hu) ?_
  intro m2 n2 g2 k2 S2 F2 N2
  refine cut_at F2 (StC w x y tx ty ((220, tabObj ps) :: rest)) (turn_C w mean mg mb dp un gd fa ccd outer A₀ base h₀ L m2 _ _ n2 x y tx ty B F2 X N2 T hx hy6 S2 hd hu) ?_
  intro m3 n3 g3 k3 S3 F3 N3
  refine cut_at F3 (StD w x y tx ty ((220, tabObj ps) :: rest)) (turn_D w mean mg mb dp un gd fa ccd outer A₀ base h₀ L m3 _ _ n3 x y tx ty B F3 X N3 T hx hy6 S3 hd hu) ?_
  intro m4 n4 g4 k4 S4 F4 N4
  exact turn_E w mean mg mb dp un gd fa ccd outer A₀ base h₀ L m4 _ rest n4 ps x y tx ty B F4 X N4 T hx hy6 hy hsum S4 hoff0 htr C hG hd hu
end
end
section
open PySem PySem.W PyProof.Rows PySem.Calls
local macro_rules | `(tactic| wtm_at "st") => `(tactic| with_reducible first | refine' zq30 ?_)
section
open PySem PySem.W PyProof.Rows PySem.Calls
set_option Elab.async false
set_option maxRecDepth 100000
set_option maxHeartbeats 4000000
set_option pp.deepTerms false
set_option pp.deepTerms.threshold 6
set_option linter.unusedSimpArgs false
section
variable (w : World) (mean : ExcName → Option Value) (mg mb : PySem.Str → Option Value)
   (dp un : Nat) (gd : Option (List Code)) (fa : Addr) (ccd : Value) (outer : List Env) (A₀ : Around) (base h₀ : Heap) (L : Addr)
theorem law_end (m : PySem.Str → Option Value) (s : Shared) (oc : Obj) (ps : Array Value) (y z : PySem.Str) (ty tz : Tok) (Q : Flow → Shared → Prop)
    (B : Below A₀ base outer h₀) (F : Fr h₀ L s.heap m) (X : (K w.params).In h₀) (N : News h₀ L s.heap [(L + 1, oc), (220, tabObj ps)]) (T : Top topProg LQ mean mg mb h₀)
    (hy : y.cps.size ≤ 8) (hz : z.cps.size ≤ 8) (h1 : m (PySem.Str.ofString "one") = some (.str y ty)) (h2 : m (PySem.Str.ofString "other") = some (.str z tz))
    (htr : TriplesOk ps.toList) (C : CodeHd h₀ 224 220) (hG : AllBare s.gens)
    (hd : dp + 140 < recursionLimit) (hu : un + 1400 < cLine)
    (hret : ∀ m' h' gs tk' ps', Fr h₀ L h' m' → News h₀ L h' [(220, tabObj ps')] → AllBare gs → Q (.ret (.bool true)) { s with heap := h', gens := gs, toks := tk' }) :
    wpAny (model PySem.Challenge.pw_xe0001_01 w) (lawA dp un gd L fa ccd outer) (execs ((fBody (tSt 11)).drop 2) (lawE L fa ccd)) Q NoE s := by
  have fill : K = K ∧ PySem.Challenge.rw_xe0001_01 = PySem.Challenge.rw_xe0001_01 := by (k_fill; exact ⟨rfl, rfl⟩)
  clear fill
  replace F := Fr_kn F (l := [("one", .str y ty), ("other", .str z tz)]) ⟨h1, h2, trivial⟩
  replace N : News h₀ L s.heap [(220, tabObj ps)] := News_sub N (fun p hp => .tail _ hp)
  wtm_at "ms"
  refine for_G h₀ ?_ (by intro _; rfl)
  wtm_at "ms"
  rename_i d1 _ g1 d2 _ g2 t3 _ hyz d3 _ g3 lst _ F5 N5 g5
  have hlL : lst ≠ L := (N5 _ (.head _)).2.1
  have hl220 : lst ≠ 220 := Nat.ne_of_gt g5.2.2.2
  have e12 : (y ++ z).cps.size ≤ 16 := by have : (y ++ z).cps.size = (y ++ z).length := rfl; have : y.cps.size = y.length := rfl; have : z.cps.size = z.length := rfl; (first | lia | omega)
  have hm : ∀ ps' : Array Value, ∀ p ∈ [(d1, ({ cls := .type "tuple", data := .seq [.str y ty, .str z tz].toArray } : Obj)), (d2, { cls := .type "tuple", data := .seq [.str z tz, .str y ty].toArray }), (d3, { cls := .type "tuple", data := .seq [.str (y ++ z) t3, .str z tz].toArray })], p.1 ≠ 220 := fun ps' p hp => by
    rcases List.mem_cons.mp hp with rfl | hp
    · exact Nat.ne_of_gt g1
    rcases List.mem_cons.mp hp with rfl | hp
    · exact Nat.ne_of_gt g2.2
    · rw [List.mem_singleton.mp hp]; exact Nat.ne_of_gt g3.2.2
  refine iterG_list (items := #[.ref d1, .ref d2, .ref d3]) (fun _ _ nx => ∃ ps', nx = [(220, tabObj ps'), (d1, ({ cls := .type "tuple", data := .seq [.str y ty, .str z tz].toArray } : Obj)), (d2, { cls := .type "tuple", data := .seq [.str z tz, .str y ty].toArray }), (d3, { cls := .type "tuple", data := .seq [.str (y ++ z) t3, .str z tz].toArray })] ∧ TriplesOk ps'.toList)
    rfl ⟨_, (N5 _ (.head _)).1, rfl, _, rfl⟩ hlL hG F5 (News_sub (news' := [(220, tabObj ps), (d1, ({ cls := .type "tuple", data := .seq [.str y ty, .str z tz].toArray } : Obj)), (d2, { cls := .type "tuple", data := .seq [.str z tz, .str y ty].toArray }), (d3, { cls := .type "tuple", data := .seq [.str (y ++ z) t3, .str z tz].toArray })]) N5 ?sub) ⟨ps, rfl, htr⟩ ?turn ?done
  case sub =>
    intro p hp
    rcases List.mem_cons.mp hp with rfl | hp
    · exact .tail _ (.tail _ (.tail _ (.tail _ (.head _))))
    rcases List.mem_cons.mp hp with rfl | hp
    · exact .tail _ (.tail _ (.tail _ (.head _)))
    rcases List.mem_cons.mp hp with rfl | hp
    · exact .tail _ (.tail _ (.head _))
    · rw [List.mem_singleton.mp hp]; exact .tail _ (.head _)
  case done =>
    rintro m₁ nx h gs tk ⟨ps', rfl, _⟩ hg F₁ N₁
    replace N₁ : News h₀ L h [(220, tabObj ps')] := News_sub N₁ (fun p hp => by rw [List.mem_singleton.mp hp]; exact .head _)
    wtm_at "ms"
    exact hret _ _ _ _ ps' F₁ N₁ hg
  case turn =>
    rintro i v m₁ nx h gs tk own I oI hi hv HJ hg hI ho hnI F₁ N₁
    obtain ⟨ps', rfl, htr'⟩ := HJ
    have hrest : ∀ p ∈ [(d1, ({ cls := .type "tuple", data := .seq [.str y ty, .str z tz].toArray } : Obj)), (d2, { cls := .type "tuple", data := .seq [.str z tz, .str y ty].toArray }), (d3, { cls := .type "tuple", data := .seq [.str (y ++ z) t3, .str z tz].toArray })] ++ own, p.1 ≠ 220 := fun p hp => by
      rcases List.mem_append.mp hp with hp | hp
      · exact hm ps' p hp
      · rcases ho p hp with e | e
        · rw [e]; exact Ne.symm (hnI (220, tabObj ps') (.head _))
        · rw [e]; exact hl220
    obtain ⟨d, x', tx', y', ty', rfl, hd', hx', hy'⟩ : ∃ d x' tx' y' ty', v = .ref d ∧ (d, ({ cls := .type "tuple", data := .seq [.str x' tx', .str y' ty'].toArray } : Obj)) ∈ [(d1, ({ cls := .type "tuple", data := .seq [.str y ty, .str z tz].toArray } : Obj)), (d2, { cls := .type "tuple", data := .seq [.str z tz, .str y ty].toArray }), (d3, { cls := .type "tuple", data := .seq [.str (y ++ z) t3, .str z tz].toArray })] ∧ x'.cps.size ≤ 16 ∧ y'.cps.size ≤ 8 := by
      match i, hi, hv with
      | 0, _, hv => exact ⟨d1, _, _, _, _, (Option.some.inj hv).symm, .head _, by (first | lia | omega), hz⟩
      | 1, _, hv => exact ⟨d2, _, _, _, _, (Option.some.inj hv).symm, .tail _ (.head _), by (first | lia | omega), hy⟩
      | 2, _, hv => exact ⟨d3, _, _, _, _, (Option.some.inj hv).symm, .tail _ (.tail _ (.head _)), e12, hz⟩
      | i + 3, hi, _ => exact absurd hi (by simp)
    have hd2 : (d, ({ cls := .type "tuple", data := .seq [.str x' tx', .str y' ty'].toArray } : Obj)) ∈ [(220, tabObj ps'), (d1, ({ cls := .type "tuple", data := .seq [.str y ty, .str z tz].toArray } : Obj)), (d2, { cls := .type "tuple", data := .seq [.str z tz, .str y ty].toArray }), (d3, { cls := .type "tuple", data := .seq [.str (y ++ z) t3, .str z tz].toArray })] ++ own := List.mem_append_left _ (.tail _ hd')
    refine unpackN_ (by assumption) (by assumption) (News.isTup N₁ hd2) rfl rfl rfl ?_
    intro h6 F6 N6
    dsimp only
    wtm_at "ms"
    show wpAny _ _ (execs lawB (lawE L fa ccd)) _ _ _
    refine wpAny_mono (turn w mean mg mb dp un gd fa ccd outer A₀ base h₀ L _ _ ([(d1, ({ cls := .type "tuple", data := .seq [.str y ty, .str z tz].toArray } : Obj)), (d2, { cls := .type "tuple", data := .seq [.str z tz, .str y ty].toArray }), (d3, { cls := .type "tuple", data := .seq [.str (y ++ z) t3, .str z tz].toArray })] ++ own) ps' x' y' tx' ty' B (by assumption) X (by assumption) T (by (first | lia | omega)) hy' (by (first | lia | omega)) rfl rfl hrest htr' C hg hd hu) (fun f s' hf => ?_) (fun _ _ e => e)
    obtain ⟨rfl, h9, gs9, tk9, m9, ps9, rfl, hb9, F9, N9, ht9⟩ := hf
    refine fun _ kz => kz h9 gs9 tk9 m9 ([(220, tabObj ps9), (d1, ({ cls := .type "tuple", data := .seq [.str y ty, .str z tz].toArray } : Obj)), (d2, { cls := .type "tuple", data := .seq [.str z tz, .str y ty].toArray }), (d3, { cls := .type "tuple", data := .seq [.str (y ++ z) t3, .str z tz].toArray })]) _ rfl rfl hb9 F9 N9 (fun p hp => ?_) (fun p hp => .tail _ (List.mem_append_right _ hp)) (fun p hp => ?_) ⟨ps9, rfl, ht9⟩
    · rcases List.mem_cons.mp hp with rfl | hp
      · exact .head _
      · exact .tail _ (List.mem_append_left _ hp)
    · rcases List.mem_cons.mp hp with rfl | hp
      · exact hnI (220, tabObj ps') (.head _)
      · exact hnI p (.tail _ hp)
end
end
end
end
end
end
end
end
end
end
end
end
end
end
section
open PySem PySem.W PyProof.Rows
set_option Elab.async false
set_option maxRecDepth 100000
set_option maxHeartbeats 8000000
noncomputable def dLaw : DefRec := ⟨Str.ofString "law", fArgs (tSt 11), fBody (tSt 11), fScope (tSt 11), (tSt 11).pos⟩
theorem hd (hc : WalkO q loose (XL q []) (kHook KT KTA KTA_eq).says PySem.Challenge.rw_xe0001_01.row.toRowW dLaw [] (fun f vs => PySem.call f vs)) : PySem.Challenge.rw_xe0001_01.Holds := by
  w_on
  refine holds_law ((congrFun PySem.W.Fast.te9446332074065402090 PySem.Challenge.rw_xe0001_01).trans (by kernel_rfl)) ?_
  intro _
  refine holds_open (q := q) (loose := loose) (Xt := Xt) (XP := XL q []) (Yf := Hook.obs hk) (Ya := Hook.val hk) (YP := Hook.says hk) (N := 4694) left (Hook.of hk) (Hook.keeps hk) (fun s e => xl_of s (Bool.and_eq_true_iff.mp e).1) XL.keeps (by rfl) (by rfl) (by rfl) (fun s e => recFacts_of (Bool.and_eq_true_iff.mp e).2) (by rfl) (by assumption) (by kernel_rfl) ⟨rfl, rfl, rfl, rfl, rfl, by decide +kernel⟩ ?hw ?hc
  case hw => w_witness2
  case hc => exact hc
end
section
open PySem PySem.W PyProof.Rows PySem.Calls
set_option Elab.async false
set_option maxRecDepth 100000
set_option maxHeartbeats 4000000
set_option linter.unusedSimpArgs false
theorem kn_postG {M : Model} {A : Around} {cd : Code} {s s₁ : Shared} {cw : ClaimW} {cl : PySem.Str → Option Addr} {mean : ExcName → Option Value} {args : List WData} {tabs : List (Addr × Addr)} (hT : TabsAt tabs s₁.heap) (hr : ∀ a x, cw.raises a x = false)
    (h : codeAny M A cd (fun r s' => GoodW cw cl mean args { s₁ with heap := ghostOf s₁.heap tabs } r { s' with gens := #[] } ∧ AllBare s'.gens ∧ GrownAll tabs s'.heap) s) : codeAny M A cd (GoodWG cw cl mean args s₁) s :=
  codeAny_mono h fun r s' hh => by
    obtain ⟨⟨hc, hk, hos, hg⟩, hbare, hgr⟩ := hh
    have keep : ∀ b o, b ∉ tabs.map (·.2) → s₁.heap.get? b = some o → s'.heap.get? b = some o := fun b o hb e => hk b o (ghost_ne e hb)
    have grown : ∀ b o, b ∈ tabs.map (·.2) → s₁.heap.get? b = some o → isCodeTable s₁.heap b ∧ o = tabObj #[] ∧ ∃ ps, s'.heap.get? b = some (tabObj ps) := fun b o hb e => by
      obtain ⟨q, hq, rfl⟩ := List.mem_map.mp hb
      have e2 := (hT q hq).2
      rw [e] at e2
      exact ⟨((hT q hq).1.tab (hT q hq).2).isCodeTable, Option.some.inj e2, hgr.get q hq⟩
    refine ⟨?_, ⟨fun b o e => ?_, fun b o e => ?_⟩, hos, hbare⟩
    · rcases hc with ⟨v, d, as, r1, r2, r3, r4, r5⟩ | ⟨e, ob, x, _, _, _, r4, _⟩
      · refine .inl ⟨v, d, as, r1, r2, r3, r4, fun q => ⟨(r5 q).1, fun a ha => ?_⟩⟩
        cases q1 : s₁.heap.get? a with
        | none => rfl
        | some o =>
          by_cases hb : a ∈ tabs.map (·.2)
          · obtain ⟨_, _, ps, hP⟩ := grown a o hb q1
            exact absurd ha (readsW_apart hP rfl r3)
          · have e3 := (r5 q).2 a ha
            rw [show (ghostOf s₁.heap tabs).get? a = some o from ghost_ne q1 hb] at e3
            cases e3
      · rw [hr] at r4; cases r4
    · by_cases hb : b ∈ tabs.map (·.2)
      · obtain ⟨ht, rfl, ps, hP⟩ := grown b o hb e
        exact .inr (.inl ⟨ht, rfl, #[], ps, rfl, by rw [Array.empty_append]; exact hP⟩)
      · exact .inl (keep b o hb e)
    · by_cases hb : b ∈ tabs.map (·.2)
      · obtain ⟨_, _, ps, hP⟩ := grown b o hb e
        exact ⟨_, hP⟩
      · exact ⟨o, keep b o hb e⟩
theorem kt_look {P : Params} {a : Addr} {o : Obj} (e : (K P).lookup a = some o) : (KT P).lookup a = some o := by
  unfold KT
  rw [List.lookup_cons]
  by_cases h : a = 220
  · subst h
    have : (K P).lookup 220 = none := by kernel_rfl
    rw [this] at e; cases e
  · rw [beq_false_of_ne h]; exact e
theorem hc : WalkO q loose (XL q []) (kHook KT KTA KTA_eq).says PySem.Challenge.rw_xe0001_01.row.toRowW dLaw [] (fun f vs => PySem.call f vs) := by
  k_fill
  intro w s₀ s₁ mg mb G Y fa o pm cd doc dV kV ho hd hcd hD hmg hg args vals as hpre hlay hrd hwl hlo
  have KX := kIn_of Y
  have X : (K w.params).In s₁.heap := fun a o e => KX a o (kt_look e)
  have h220 : s₁.heap.get? 220 = some (tabObj #[]) := KX 220 _ rfl
  have V := (Ground.X G).2
  refine Ground.open G ?_
  intro T B D TE TW
  refine guard_noD D (by decide +kernel) ?_
  clear D
  have hT9 : TabsAt [(224, 220)] s₁.heap := List.forall_mem_cons.mpr ⟨⟨codeHd_of_K (c := 224) (P := 220) X (by kernel_rfl), h220⟩, fun _ h => nomatch h⟩
  clear hmg KX Y
  wrow_args hpre hlay hrd hwl hlo
  refine enter_call ?_
  w_top on
  refine kn_postG hT9 (fun _ _ => rfl) ?_
  w_call any ho hd hcd hD T F
  clear hd
  kn_ghosts F T
  k_drop
  rename_i xs _ _ _ _ _ _ _ sa vs _ _ ra _ _ hI _ hlen _ _ _ oc hoc hcl X' T' K' F' N' l0
  dsimp only [dLaw]
  refine wpAny_mono (E := NoE) ?_ (fun _ _ h => h) (fun _ _ h => h.elim)
  have hvl : vs.length = xs.length := hI.length

  have hc1 : oc.data = .cell (some (.ref sa)) := by rw [hoc]; rfl
  show wpAny (model PySem.Challenge.pw_xe0001_01 w) (ktrTop (1 + claimMargin + 1) 7 (some []) (PySem.Str.ofString "law") (fScope (tSt 11)) s₁.heap.objs.size fa cd [(PySem.Str.ofString "script", s₁.heap.objs.size + 1)] []) (execs (fBody (tSt 11)) (envX (PySem.Str.ofString "law") (fScope (tSt 11)) s₁.heap.objs.size fa cd [(PySem.Str.ofString "script", s₁.heap.objs.size + 1)])) _ NoE _
  refine law_start w _ mg mb _ _ _ _ _ _ callerA _ _ _ _ _ sa vs xs oc #[] _ K' F' X' N' T' hc1 lifted hI (by (first | lia | omega)) ?_
  intro m2 h2 tk2 y z ty tz F2 N2 hy hz h1 h2
  refine law_end w _ mg mb _ _ _ _ _ _ callerA _ _ _ m2 _ oc #[] y z ty tz _ K' F2 X' N2 T' hy hz h1 h2 trivial codeHd (.of_eq hg) (by decide) (by decide) ?_
  intro m3 h3 gs3 tk3 ps3 F3 N3 hb3
  exact ⟨goodW_bool F3 rfl (fun _ => rfl) (by kc_post) rfl, hb3, GrownAt.of N3 (.head _), trivial⟩
end
end Mine
set_option maxRecDepth 100000 in
set_option maxHeartbeats 8000000 in
theorem PySem.Challenge.cw_xe0001_01_holds : PySem.Challenge.rw_xe0001_01.Holds :=
  Mine.hd Mine.hc
