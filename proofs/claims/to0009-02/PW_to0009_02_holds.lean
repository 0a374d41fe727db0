import PyProof.Rows.All
import Wide.All
import OpenK.AllK
import Wide.FinOn
import PySem.Challenge.RW_to0009_02
open PySem PySem.W PySem.Calls PyProof.Rows
set_option Elab.async false
set_option maxRecDepth 100000
set_option maxHeartbeats 8000000
set_option linter.unusedVariables false
set_option linter.unusedSimpArgs false
namespace Mine
noncomputable section
def theDef (s : Option Stmt) : Arguments × List Stmt × Scope := match s with
  | some (.FunctionDef _ a b _ _ _ sc _ _ _) => (a, b, sc)
  | _ => ({ posonlyargs := [], args := [], vararg := none, kwonlyargs := [], kw_defaults := [], kwarg := none, defaults := [] }, [], { kind := .function, names := [], isGenerator := false, isCoroutine := false })
def modDef (k : Nat) : Arguments × List Stmt × Scope := theDef (PySem.Challenge.rw_to0009_02.row.prog.main.body[k]?)
def inCls (s : Option Stmt) (j : Nat) : Option Stmt := match s with
  | some (.ClassDef _ _ _ b _ _ _ _ _ _ _) => b[j]?
  | _ => none
def clsDef (j : Nat) : Arguments × List Stmt × Scope := theDef (inCls (PySem.Challenge.rw_to0009_02.row.prog.main.body[9]?) j)
def fnObj (d : Arguments × List Stmt × Scope) (name qualname : Str) (globals : Addr) (closure : List (Str × Addr)) (defaults kwdefaults doc pyModule : Value) (annotations : Option Addr) (code closureTuple : Value) (builtins : Addr) : Obj :=
  { cls := .type "function", dict := none, data := .func (FuncData.mk name qualname d.1 (.stmts d.2.1) d.2.2 globals closure defaults kwdefaults doc pyModule annotations code closureTuple builtins), slots := #[] }
abbrev tabNil : Obj := { cls := .none, dict := none, data := .fields #[], slots := #[] }
def heapM (P : Params) : Frag := [
   (2, { cls := PySem.Value.none, data := PySem.Data.dict #[] })
  , (3, { cls := PySem.Value.type "dict", data := PySem.Data.dict #[{ hash := PySem.PyData.keyHash P (PySem.Str.ofString "__name__"), key := PySem.Value.str (PySem.Str.ofString "__name__") 165, val := PySem.Value.str (PySem.Str.ofString "law_to0009_02") 344 }, { hash := PySem.PyData.keyHash P (PySem.Str.ofString "__doc__"), key := PySem.Value.str (PySem.Str.ofString "__doc__") 166, val := PySem.Value.none }, { hash := PySem.PyData.keyHash P (PySem.Str.ofString "__package__"), key := PySem.Value.str (PySem.Str.ofString "__package__") 167, val := PySem.Value.none }, { hash := PySem.PyData.keyHash P (PySem.Str.ofString "__loader__"), key := PySem.Value.str (PySem.Str.ofString "__loader__") 168, val := PySem.Value.builtin "__main__.__loader__#opaque" }, { hash := PySem.PyData.keyHash P (PySem.Str.ofString "__spec__"), key := PySem.Value.str (PySem.Str.ofString "__spec__") 169, val := PySem.Value.none }, { hash := PySem.PyData.keyHash P (PySem.Str.ofString "__annotations__"), key := PySem.Value.str (PySem.Str.ofString "__annotations__") 170, val := PySem.Value.ref 6 }, { hash := PySem.PyData.keyHash P (PySem.Str.ofString "__builtins__"), key := PySem.Value.str (PySem.Str.ofString "__builtins__") 171, val := PySem.Value.ref 4 }, { hash := PySem.PyData.keyHash P (PySem.Str.ofString "__file__"), key := PySem.Value.str (PySem.Str.ofString "__file__") 173, val := PySem.Value.str (PySem.Str.ofString "/claim/cut.py") 172 }, { hash := PySem.PyData.keyHash P (PySem.Str.ofString "__cached__"), key := PySem.Value.str (PySem.Str.ofString "__cached__") 174, val := PySem.Value.none }, { hash := PySem.PyData.keyHash P (PySem.Str.ofString "_wall"), key := PySem.Value.str (PySem.Str.ofString "_wall") 193, val := PySem.Value.ref 21 }, { hash := PySem.PyData.keyHash P (PySem.Str.ofString "rgb_to_hsv"), key := PySem.Value.str (PySem.Str.ofString "rgb_to_hsv") 213, val := PySem.Value.ref 28 }, { hash := PySem.PyData.keyHash P (PySem.Str.ofString "hsv_to_rgb"), key := PySem.Value.str (PySem.Str.ofString "hsv_to_rgb") 227, val := PySem.Value.ref 35 }, { hash := PySem.PyData.keyHash P (PySem.Str.ofString "ELLIPSIS_MARKER"), key := PySem.Value.str (PySem.Str.ofString "ELLIPSIS_MARKER") 231, val := PySem.Value.str (PySem.Str.ofString "...") 230 }, { hash := PySem.PyData.keyHash P (PySem.Str.ofString "_ellipsis_match"), key := PySem.Value.str (PySem.Str.ofString "_ellipsis_match") 243, val := PySem.Value.ref 42 }, { hash := PySem.PyData.keyHash P (PySem.Str.ofString "EMPTYSTRING"), key := PySem.Value.str (PySem.Str.ofString "EMPTYSTRING") 247, val := PySem.Value.str (PySem.Str.ofString "") 246 }, { hash := PySem.PyData.keyHash P (PySem.Str.ofString "_Accumulator"), key := PySem.Value.str (PySem.Str.ofString "_Accumulator") 343, val := PySem.Value.ref 122 }, { hash := PySem.PyData.keyHash P (PySem.Str.ofString "_law_light"), key := PySem.Value.str (PySem.Str.ofString "_law_light") 351, val := PySem.Value.ref 131 }, { hash := PySem.PyData.keyHash P (PySem.Str.ofString "_law_run"), key := PySem.Value.str (PySem.Str.ofString "_law_run") 357, val := PySem.Value.ref 136 }, { hash := PySem.PyData.keyHash P (PySem.Str.ofString "_law_back"), key := PySem.Value.str (PySem.Str.ofString "_law_back") 370, val := PySem.Value.ref 143 }, { hash := PySem.PyData.keyHash P (PySem.Str.ofString "_law_code"), key := PySem.Value.str (PySem.Str.ofString "_law_code") 376, val := PySem.Value.ref 148 }, { hash := PySem.PyData.keyHash P (PySem.Str.ofString "_law_single"), key := PySem.Value.str (PySem.Str.ofString "_law_single") 388, val := PySem.Value.ref 155 }, { hash := PySem.PyData.keyHash P (PySem.Str.ofString "law"), key := PySem.Value.str (PySem.Str.ofString "law") 394, val := PySem.Value.ref 160 }] 22 })
  , (27, { cls := PySem.Value.type "code", data := PySem.Data.fields #[PySem.Value.str (PySem.Str.ofString "rgb_to_hsv") 196, PySem.Value.str (PySem.Str.ofString "rgb_to_hsv") 197, PySem.Value.str (PySem.Str.ofString "/claim/cut.py") 198, PySem.Value.int 5 0, PySem.Value.int 3 0, PySem.Value.int 0 0, PySem.Value.int 0 0, PySem.Value.int 3 0, PySem.Value.ref 22, PySem.Value.bool Bool.true, PySem.Value.int 181 0, PySem.Value.ref 23, PySem.Value.none, PySem.Value.ref 24, PySem.Value.ref 25, PySem.Value.ref 26, PySem.Value.int 211 0, PySem.Value.int 5 0, PySem.Value.str (PySem.Str.ofString "/claim/cut.py") 212] })
  , (28, fnObj (modDef 2) (PySem.Str.ofString "rgb_to_hsv") (PySem.Str.ofString "rgb_to_hsv") (3) ([]) (PySem.Value.none) (PySem.Value.none) (PySem.Value.none) (PySem.Value.str (PySem.Str.ofString "cpy313.colorsys") 194) (Option.none) (PySem.Value.ref 27) (PySem.Value.none) (0))
  , (34, { cls := PySem.Value.type "code", data := PySem.Data.fields #[PySem.Value.str (PySem.Str.ofString "hsv_to_rgb") 214, PySem.Value.str (PySem.Str.ofString "hsv_to_rgb") 215, PySem.Value.str (PySem.Str.ofString "/claim/cut.py") 216, PySem.Value.int 24 0, PySem.Value.int 3 0, PySem.Value.int 0 0, PySem.Value.int 0 0, PySem.Value.int 3 0, PySem.Value.ref 29, PySem.Value.bool Bool.true, PySem.Value.int 181 0, PySem.Value.ref 30, PySem.Value.none, PySem.Value.ref 31, PySem.Value.ref 32, PySem.Value.ref 33, PySem.Value.int 225 0, PySem.Value.int 24 0, PySem.Value.str (PySem.Str.ofString "/claim/cut.py") 226] })
  , (35, fnObj (modDef 3) (PySem.Str.ofString "hsv_to_rgb") (PySem.Str.ofString "hsv_to_rgb") (3) ([]) (PySem.Value.none) (PySem.Value.none) (PySem.Value.none) (PySem.Value.str (PySem.Str.ofString "cpy313.colorsys") 194) (Option.none) (PySem.Value.ref 34) (PySem.Value.none) (0))
  , (41, { cls := PySem.Value.type "code", data := PySem.Data.fields #[PySem.Value.str (PySem.Str.ofString "_ellipsis_match") 232, PySem.Value.str (PySem.Str.ofString "_ellipsis_match") 233, PySem.Value.str (PySem.Str.ofString "/claim/cut.py") 234, PySem.Value.int 47 0, PySem.Value.int 2 0, PySem.Value.int 0 0, PySem.Value.int 0 0, PySem.Value.int 3 0, PySem.Value.ref 36, PySem.Value.bool Bool.true, PySem.Value.int 181 0, PySem.Value.ref 37, PySem.Value.none, PySem.Value.ref 38, PySem.Value.ref 39, PySem.Value.ref 40, PySem.Value.int 241 0, PySem.Value.int 47 0, PySem.Value.str (PySem.Str.ofString "/claim/cut.py") 242] })
  , (42, fnObj (modDef 6) (PySem.Str.ofString "_ellipsis_match") (PySem.Str.ofString "_ellipsis_match") (3) ([]) (PySem.Value.none) (PySem.Value.none) (PySem.Value.none) (PySem.Value.str (PySem.Str.ofString "cpy313.doctest") 228) (Option.none) (PySem.Value.ref 41) (PySem.Value.none) (0))
  , (46, { cls := PySem.Value.type "cell", data := PySem.Data.cell (Option.some (PySem.Value.ref 122)) })
  , (51, { cls := PySem.Value.type "tuple", data := PySem.Data.seq #[PySem.Value.int 0 260] })
  , (58, { cls := PySem.Value.type "code", data := PySem.Data.fields #[PySem.Value.str (PySem.Str.ofString "__init__") 261, PySem.Value.str (PySem.Str.ofString "_Accumulator.__init__") 262, PySem.Value.str (PySem.Str.ofString "/claim/cut.py") 263, PySem.Value.int 79 0, PySem.Value.int 2 0, PySem.Value.int 0 0, PySem.Value.int 0 0, PySem.Value.int 3 0, PySem.Value.ref 53, PySem.Value.bool Bool.true, PySem.Value.int 181 0, PySem.Value.ref 54, PySem.Value.none, PySem.Value.ref 55, PySem.Value.ref 56, PySem.Value.ref 57, PySem.Value.int 267 0, PySem.Value.int 79 0, PySem.Value.str (PySem.Str.ofString "/claim/cut.py") 268] })
  , (59, fnObj (clsDef 0) (PySem.Str.ofString "__init__") (PySem.Str.ofString "_Accumulator.__init__") (3) ([(PySem.Str.ofString "__class__", 46)]) (PySem.Value.ref 51) (PySem.Value.none) (PySem.Value.none) (PySem.Value.str (PySem.Str.ofString "cpy313.email.header") 244) (Option.none) (PySem.Value.ref 58) (PySem.Value.ref 52) (0))
  , (65, { cls := PySem.Value.type "code", data := PySem.Data.fields #[PySem.Value.str (PySem.Str.ofString "push") 270, PySem.Value.str (PySem.Str.ofString "_Accumulator.push") 271, PySem.Value.str (PySem.Str.ofString "/claim/cut.py") 272, PySem.Value.int 83 0, PySem.Value.int 3 0, PySem.Value.int 0 0, PySem.Value.int 0 0, PySem.Value.int 3 0, PySem.Value.ref 60, PySem.Value.bool Bool.true, PySem.Value.int 181 0, PySem.Value.ref 61, PySem.Value.none, PySem.Value.ref 62, PySem.Value.ref 63, PySem.Value.ref 64, PySem.Value.int 276 0, PySem.Value.int 83 0, PySem.Value.str (PySem.Str.ofString "/claim/cut.py") 277] })
  , (66, fnObj (clsDef 1) (PySem.Str.ofString "push") (PySem.Str.ofString "_Accumulator.push") (3) ([]) (PySem.Value.none) (PySem.Value.none) (PySem.Value.none) (PySem.Value.str (PySem.Str.ofString "cpy313.email.header") 244) (Option.none) (PySem.Value.ref 65) (PySem.Value.none) (0))
  , (67, { cls := PySem.Value.type "tuple", data := PySem.Data.seq #[PySem.Value.int 0 279] })
  , (73, { cls := PySem.Value.type "code", data := PySem.Data.fields #[PySem.Value.str (PySem.Str.ofString "pop_from") 280, PySem.Value.str (PySem.Str.ofString "_Accumulator.pop_from") 281, PySem.Value.str (PySem.Str.ofString "/claim/cut.py") 282, PySem.Value.int 86 0, PySem.Value.int 2 0, PySem.Value.int 0 0, PySem.Value.int 0 0, PySem.Value.int 3 0, PySem.Value.ref 68, PySem.Value.bool Bool.true, PySem.Value.int 181 0, PySem.Value.ref 69, PySem.Value.none, PySem.Value.ref 70, PySem.Value.ref 71, PySem.Value.ref 72, PySem.Value.int 286 0, PySem.Value.int 86 0, PySem.Value.str (PySem.Str.ofString "/claim/cut.py") 287] })
  , (74, fnObj (clsDef 2) (PySem.Str.ofString "pop_from") (PySem.Str.ofString "_Accumulator.pop_from") (3) ([]) (PySem.Value.ref 67) (PySem.Value.none) (PySem.Value.none) (PySem.Value.str (PySem.Str.ofString "cpy313.email.header") 244) (Option.none) (PySem.Value.ref 73) (PySem.Value.none) (0))
  , (81, { cls := PySem.Value.type "code", data := PySem.Data.fields #[PySem.Value.str (PySem.Str.ofString "pop") 289, PySem.Value.str (PySem.Str.ofString "_Accumulator.pop") 290, PySem.Value.str (PySem.Str.ofString "/claim/cut.py") 291, PySem.Value.int 91 0, PySem.Value.int 1 0, PySem.Value.int 0 0, PySem.Value.int 0 0, PySem.Value.int 3 0, PySem.Value.ref 76, PySem.Value.bool Bool.true, PySem.Value.int 181 0, PySem.Value.ref 77, PySem.Value.none, PySem.Value.ref 78, PySem.Value.ref 79, PySem.Value.ref 80, PySem.Value.int 294 0, PySem.Value.int 91 0, PySem.Value.str (PySem.Str.ofString "/claim/cut.py") 295] })
  , (82, fnObj (clsDef 3) (PySem.Str.ofString "pop") (PySem.Str.ofString "_Accumulator.pop") (3) ([(PySem.Str.ofString "__class__", 46)]) (PySem.Value.none) (PySem.Value.none) (PySem.Value.none) (PySem.Value.str (PySem.Str.ofString "cpy313.email.header") 244) (Option.none) (PySem.Value.ref 81) (PySem.Value.ref 75) (0))
  , (88, { cls := PySem.Value.type "code", data := PySem.Data.fields #[PySem.Value.str (PySem.Str.ofString "__len__") 297, PySem.Value.str (PySem.Str.ofString "_Accumulator.__len__") 298, PySem.Value.str (PySem.Str.ofString "/claim/cut.py") 299, PySem.Value.int 96 0, PySem.Value.int 1 0, PySem.Value.int 0 0, PySem.Value.int 0 0, PySem.Value.int 3 0, PySem.Value.ref 83, PySem.Value.bool Bool.true, PySem.Value.int 181 0, PySem.Value.ref 84, PySem.Value.none, PySem.Value.ref 85, PySem.Value.ref 86, PySem.Value.ref 87, PySem.Value.int 301 0, PySem.Value.int 96 0, PySem.Value.str (PySem.Str.ofString "/claim/cut.py") 302] })
  , (89, fnObj (clsDef 4) (PySem.Str.ofString "__len__") (PySem.Str.ofString "_Accumulator.__len__") (3) ([]) (PySem.Value.none) (PySem.Value.none) (PySem.Value.none) (PySem.Value.str (PySem.Str.ofString "cpy313.email.header") 244) (Option.none) (PySem.Value.ref 88) (PySem.Value.none) (0))
  , (95, { cls := PySem.Value.type "code", data := PySem.Data.fields #[PySem.Value.str (PySem.Str.ofString "__str__") 304, PySem.Value.str (PySem.Str.ofString "_Accumulator.__str__") 305, PySem.Value.str (PySem.Str.ofString "/claim/cut.py") 306, PySem.Value.int 99 0, PySem.Value.int 1 0, PySem.Value.int 0 0, PySem.Value.int 0 0, PySem.Value.int 3 0, PySem.Value.ref 90, PySem.Value.bool Bool.true, PySem.Value.int 181 0, PySem.Value.ref 91, PySem.Value.none, PySem.Value.ref 92, PySem.Value.ref 93, PySem.Value.ref 94, PySem.Value.int 308 0, PySem.Value.int 99 0, PySem.Value.str (PySem.Str.ofString "/claim/cut.py") 309] })
  , (96, fnObj (clsDef 5) (PySem.Str.ofString "__str__") (PySem.Str.ofString "_Accumulator.__str__") (3) ([]) (PySem.Value.none) (PySem.Value.none) (PySem.Value.none) (PySem.Value.str (PySem.Str.ofString "cpy313.email.header") 244) (Option.none) (PySem.Value.ref 95) (PySem.Value.none) (0))
  , (118, { cls := PySem.Value.type "code", data := PySem.Data.fields #[PySem.Value.str (PySem.Str.ofString "part_count") 326, PySem.Value.str (PySem.Str.ofString "_Accumulator.part_count") 327, PySem.Value.str (PySem.Str.ofString "/claim/cut.py") 328, PySem.Value.int 108 0, PySem.Value.int 1 0, PySem.Value.int 0 0, PySem.Value.int 0 0, PySem.Value.int 3 0, PySem.Value.ref 113, PySem.Value.bool Bool.true, PySem.Value.int 181 0, PySem.Value.ref 114, PySem.Value.none, PySem.Value.ref 115, PySem.Value.ref 116, PySem.Value.ref 117, PySem.Value.int 331 0, PySem.Value.int 108 0, PySem.Value.str (PySem.Str.ofString "/claim/cut.py") 332] })
  , (119, fnObj (clsDef 8) (PySem.Str.ofString "part_count") (PySem.Str.ofString "_Accumulator.part_count") (3) ([(PySem.Str.ofString "__class__", 46)]) (PySem.Value.none) (PySem.Value.none) (PySem.Value.none) (PySem.Value.str (PySem.Str.ofString "cpy313.email.header") 244) (Option.none) (PySem.Value.ref 118) (PySem.Value.ref 112) (0))
  , (121, { cls := PySem.Value.type "dict", data := PySem.Data.dict #[{ hash := PySem.PyData.keyHash P (PySem.Str.ofString "__module__"), key := PySem.Value.str (PySem.Str.ofString "__module__") 255, val := PySem.Value.str (PySem.Str.ofString "cpy313.email.header") 244 }, { hash := PySem.PyData.keyHash P (PySem.Str.ofString "__firstlineno__"), key := PySem.Value.str (PySem.Str.ofString "__firstlineno__") 259, val := PySem.Value.int 77 258 }, { hash := PySem.PyData.keyHash P (PySem.Str.ofString "__init__"), key := PySem.Value.str (PySem.Str.ofString "__init__") 269, val := PySem.Value.ref 59 }, { hash := PySem.PyData.keyHash P (PySem.Str.ofString "push"), key := PySem.Value.str (PySem.Str.ofString "push") 278, val := PySem.Value.ref 66 }, { hash := PySem.PyData.keyHash P (PySem.Str.ofString "pop_from"), key := PySem.Value.str (PySem.Str.ofString "pop_from") 288, val := PySem.Value.ref 74 }, { hash := PySem.PyData.keyHash P (PySem.Str.ofString "pop"), key := PySem.Value.str (PySem.Str.ofString "pop") 296, val := PySem.Value.ref 82 }, { hash := PySem.PyData.keyHash P (PySem.Str.ofString "__len__"), key := PySem.Value.str (PySem.Str.ofString "__len__") 303, val := PySem.Value.ref 89 }, { hash := PySem.PyData.keyHash P (PySem.Str.ofString "__str__"), key := PySem.Value.str (PySem.Str.ofString "__str__") 310, val := PySem.Value.ref 96 }, { hash := PySem.PyData.keyHash P (PySem.Str.ofString "reset"), key := PySem.Value.str (PySem.Str.ofString "reset") 318, val := PySem.Value.ref 104 }, { hash := PySem.PyData.keyHash P (PySem.Str.ofString "is_onlyws"), key := PySem.Value.str (PySem.Str.ofString "is_onlyws") 325, val := PySem.Value.ref 111 }, { hash := PySem.PyData.keyHash P (PySem.Str.ofString "part_count"), key := PySem.Value.str (PySem.Str.ofString "part_count") 333, val := PySem.Value.ref 119 }, { hash := PySem.PyData.keyHash P (PySem.Str.ofString "__static_attributes__"), key := PySem.Value.str (PySem.Str.ofString "__static_attributes__") 335, val := PySem.Value.ref 120 }, { hash := PySem.PyData.keyHash P (PySem.Str.ofString "__dict__"), key := PySem.Value.str (PySem.Str.ofString "__dict__") 338, val := PySem.Value.ref 123 }, { hash := PySem.PyData.keyHash P (PySem.Str.ofString "__weakref__"), key := PySem.Value.str (PySem.Str.ofString "__weakref__") 340, val := PySem.Value.ref 124 }, { hash := PySem.PyData.keyHash P (PySem.Str.ofString "__doc__"), key := PySem.Value.str (PySem.Str.ofString "__doc__") 341, val := PySem.Value.none }] 5 })
  , (122, { cls := PySem.Value.type "type", data := PySem.Data.cls { name := PySem.Str.ofString "_Accumulator", bases := [PySem.Value.type "list"], mro := [PySem.Value.ref 122, PySem.Value.type "list", PySem.Value.type "object"], ns := 121, qualname := PySem.Str.ofString "_Accumulator" }, slots := #[Option.some (PySem.Value.ref 43), Option.none, Option.some (PySem.Value.str (PySem.Str.ofString "_Accumulator") 248), Option.some (PySem.Value.str (PySem.Str.ofString "_Accumulator") 256), Option.some (PySem.Value.builtin "list.__new__"), Option.some (PySem.Value.bool Bool.true)] })
  , (130, { cls := PySem.Value.type "code", data := PySem.Data.fields #[PySem.Value.str (PySem.Str.ofString "_law_light") 346, PySem.Value.str (PySem.Str.ofString "_law_light") 347, PySem.Value.str (PySem.Str.ofString "/claim/cut.py") 348, PySem.Value.int 111 0, PySem.Value.int 2 0, PySem.Value.int 0 0, PySem.Value.int 0 0, PySem.Value.int 3 0, PySem.Value.ref 127, PySem.Value.bool Bool.true, PySem.Value.int 181 0, PySem.Value.ref 128, PySem.Value.none, PySem.Value.none, PySem.Value.none, PySem.Value.ref 129, PySem.Value.int 349 0, PySem.Value.int 111 0, PySem.Value.str (PySem.Str.ofString "/claim/cut.py") 350] })
  , (131, fnObj (modDef 11) (PySem.Str.ofString "_law_light") (PySem.Str.ofString "_law_light") (3) ([]) (PySem.Value.none) (PySem.Value.none) (PySem.Value.none) (PySem.Value.str (PySem.Str.ofString "law_to0009_02") 344) (Option.none) (PySem.Value.ref 130) (PySem.Value.none) (0))
  , (135, { cls := PySem.Value.type "code", data := PySem.Data.fields #[PySem.Value.str (PySem.Str.ofString "_law_run") 352, PySem.Value.str (PySem.Str.ofString "_law_run") 353, PySem.Value.str (PySem.Str.ofString "/claim/cut.py") 354, PySem.Value.int 121 0, PySem.Value.int 2 0, PySem.Value.int 0 0, PySem.Value.int 0 0, PySem.Value.int 3 0, PySem.Value.ref 132, PySem.Value.bool Bool.true, PySem.Value.int 181 0, PySem.Value.ref 133, PySem.Value.none, PySem.Value.none, PySem.Value.none, PySem.Value.ref 134, PySem.Value.int 355 0, PySem.Value.int 121 0, PySem.Value.str (PySem.Str.ofString "/claim/cut.py") 356] })
  , (136, fnObj (modDef 12) (PySem.Str.ofString "_law_run") (PySem.Str.ofString "_law_run") (3) ([]) (PySem.Value.none) (PySem.Value.none) (PySem.Value.none) (PySem.Value.str (PySem.Str.ofString "law_to0009_02") 344) (Option.none) (PySem.Value.ref 135) (PySem.Value.none) (0))
  , (142, { cls := PySem.Value.type "code", data := PySem.Data.fields #[PySem.Value.str (PySem.Str.ofString "_law_back") 358, PySem.Value.str (PySem.Str.ofString "_law_back") 359, PySem.Value.str (PySem.Str.ofString "/claim/cut.py") 360, PySem.Value.int 141 0, PySem.Value.int 2 0, PySem.Value.int 0 0, PySem.Value.int 0 0, PySem.Value.int 3 0, PySem.Value.ref 137, PySem.Value.bool Bool.true, PySem.Value.int 181 0, PySem.Value.ref 138, PySem.Value.none, PySem.Value.ref 139, PySem.Value.ref 140, PySem.Value.ref 141, PySem.Value.int 368 0, PySem.Value.int 141 0, PySem.Value.str (PySem.Str.ofString "/claim/cut.py") 369] })
  , (143, fnObj (modDef 13) (PySem.Str.ofString "_law_back") (PySem.Str.ofString "_law_back") (3) ([]) (PySem.Value.none) (PySem.Value.none) (PySem.Value.none) (PySem.Value.str (PySem.Str.ofString "law_to0009_02") 344) (Option.none) (PySem.Value.ref 142) (PySem.Value.none) (0))
  , (147, { cls := PySem.Value.type "code", data := PySem.Data.fields #[PySem.Value.str (PySem.Str.ofString "_law_code") 371, PySem.Value.str (PySem.Str.ofString "_law_code") 372, PySem.Value.str (PySem.Str.ofString "/claim/cut.py") 373, PySem.Value.int 151 0, PySem.Value.int 1 0, PySem.Value.int 0 0, PySem.Value.int 0 0, PySem.Value.int 3 0, PySem.Value.ref 144, PySem.Value.bool Bool.true, PySem.Value.int 181 0, PySem.Value.ref 145, PySem.Value.none, PySem.Value.none, PySem.Value.none, PySem.Value.ref 146, PySem.Value.int 374 0, PySem.Value.int 151 0, PySem.Value.str (PySem.Str.ofString "/claim/cut.py") 375] })
  , (148, fnObj (modDef 14) (PySem.Str.ofString "_law_code") (PySem.Str.ofString "_law_code") (3) ([]) (PySem.Value.none) (PySem.Value.none) (PySem.Value.none) (PySem.Value.str (PySem.Str.ofString "law_to0009_02") 344) (Option.none) (PySem.Value.ref 147) (PySem.Value.none) (0))
  , (154, { cls := PySem.Value.type "code", data := PySem.Data.fields #[PySem.Value.str (PySem.Str.ofString "_law_single") 377, PySem.Value.str (PySem.Str.ofString "_law_single") 378, PySem.Value.str (PySem.Str.ofString "/claim/cut.py") 379, PySem.Value.int 157 0, PySem.Value.int 1 0, PySem.Value.int 0 0, PySem.Value.int 0 0, PySem.Value.int 3 0, PySem.Value.ref 149, PySem.Value.bool Bool.true, PySem.Value.int 181 0, PySem.Value.ref 150, PySem.Value.none, PySem.Value.ref 151, PySem.Value.ref 152, PySem.Value.ref 153, PySem.Value.int 386 0, PySem.Value.int 157 0, PySem.Value.str (PySem.Str.ofString "/claim/cut.py") 387] })
  , (155, fnObj (modDef 15) (PySem.Str.ofString "_law_single") (PySem.Str.ofString "_law_single") (3) ([]) (PySem.Value.none) (PySem.Value.none) (PySem.Value.none) (PySem.Value.str (PySem.Str.ofString "law_to0009_02") 344) (Option.none) (PySem.Value.ref 154) (PySem.Value.none) (0))
  , (159, { cls := PySem.Value.type "code", data := PySem.Data.fields #[PySem.Value.str (PySem.Str.ofString "law") 389, PySem.Value.str (PySem.Str.ofString "law") 390, PySem.Value.str (PySem.Str.ofString "/claim/cut.py") 391, PySem.Value.int 170 0, PySem.Value.int 1 0, PySem.Value.int 0 0, PySem.Value.int 0 0, PySem.Value.int 3 0, PySem.Value.ref 156, PySem.Value.bool Bool.true, PySem.Value.int 181 0, PySem.Value.ref 157, PySem.Value.none, PySem.Value.none, PySem.Value.none, PySem.Value.ref 158, PySem.Value.int 392 0, PySem.Value.int 170 0, PySem.Value.str (PySem.Str.ofString "/claim/cut.py") 393] })
  , (160, fnObj (modDef 16) (PySem.Str.ofString "law") (PySem.Str.ofString "law") (3) ([]) (PySem.Value.none) (PySem.Value.none) (PySem.Value.none) (PySem.Value.str (PySem.Str.ofString "law_to0009_02") 344) (Option.none) (PySem.Value.ref 159) (PySem.Value.none) (0))
]
def heapT (P : Params) : Frag := (84, tabNil) :: (91, tabNil) :: heapM P
def asT : List Addr := [84,91,2,3,27,28,34,35,41,42,46,51,58,59,65,66,67,73,74,81,82,88,89,95,96,118,119,121,122,130,131,135,136,142,143,147,148,154,155,159,160]
theorem asT_eq (P : Params) : asT = (heapT P).map (·.1) := by kernel_rfl
end
end Mine
namespace Mine

/-- plain values: what the text's values are, with no heap; a list is a place of the store -/
inductive PV where
  | none
  | bool (b : Bool)
  | int (i : Int)
  | flt (x : UInt64)
  | str (x : Str)
  | tup (l : List PV)
  | loc (i : Nat)
  | rng (lo hi : Int)
  | ext (a : Addr)

/-- what may change: lists, and piles (the text's own subclass of list) -/
inductive MO where
  | lst (l : List PV)
  | pil (k : Int) (l : List (Str × Str))

abbrev Mu := List MO
abbrev Iota := List Addr

abbrev tupOf (vs : List Value) (n : Nat) : Obj := { cls := .type "tuple", dict := none, data := .seq vs.toArray n, slots := #[] }
abbrev lstOf (vs : List Value) (n : Nat) : Obj := { cls := .type "list", dict := none, data := .seq vs.toArray n, slots := #[] }

mutual
def RepV (h : Heap) (ι : Iota) : PV → Value → Prop
  | .none, v => v = .none
  | .bool b, v => v = .bool b
  | .int i, v => ∃ t, v = .int i t
  | .flt x, v => ∃ t, v = .float x t ∧ t ≠ 0
  | .str x, v => ∃ t, v = .str x t
  | .tup ps, v => ∃ a vs n, v = .ref a ∧ h.get? a = some (tupOf vs n) ∧ RepL h ι ps vs
  | .loc i, v => ∃ a, v = .ref a ∧ ι[i]? = some a
  | .rng lo hi, v => ∃ a t u w, v = .ref a ∧ IsRange h a lo hi 1 t u w
  | .ext a, v => v = .ref a
def RepL (h : Heap) (ι : Iota) : List PV → List Value → Prop
  | [], vs => vs = []
  | p :: ps, vs => ∃ v r, vs = v :: r ∧ RepV h ι p v ∧ RepL h ι ps r
end

/-- the steady part of a run: the program, the heap that the law found, the code tables that may grow, the piles' class -/
structure Cx where
  prog : Program
  w : World
  hB : Heap
  os : OsState
  X : List Addr
  C : Addr
  mg : Str → Option Value
  mb : Str → Option Value
  T : Heap → Prop

def dictIs (h : Heap) (d : Addr) (k : Int) : Prop := ∃ hsh tk tk' m, h.get? d = some { cls := .type "dict", dict := none, data := .dict #[⟨hsh, .str "_initial_size" tk, .int k tk'⟩] m, slots := #[] }

def pairPV (p : Str × Str) : PV := .tup [.str p.1, .str p.2]

def MoAt (c : Cx) (h : Heap) (ι : Iota) (a : Addr) : MO → Prop
  | .lst ps => ∃ vs n, h.get? a = some (lstOf vs n) ∧ RepL h ι ps vs
  | .pil k its => ∃ d vs n, h.get? a = some { cls := .ref c.C, dict := some d, data := .seq vs.toArray n, slots := #[] } ∧ dictIs h d k ∧ c.hB.get? d = none ∧ RepL h ι (its.map pairPV) vs

structure Cx.Ok (c : Cx) : Prop where
  lim : c.hB.NoLimit
  g : c.hB.Ns mainGlobals c.mg
  b : c.hB.Ns builtinsNs c.mb
  nb : ∃ mc, c.hB.Ns cStatics mc ∧ mc sharingNotToldKey = none
  sX : cStatics ∉ c.X ∧ mainGlobals ∉ c.X ∧ builtinsNs ∉ c.X
  tX : ∀ h, c.T h → ∀ a ∈ c.X, ∃ vs, h.get? a = some { cls := .none, dict := none, data := .fields vs, slots := #[] }
  tk : ∀ (h h' : Heap), c.T h → (∀ b o, h.get? b = some o → (o.cls = .none ∨ o.cls = .type "code") → (∃ vs, o.data = .fields vs) → h'.get? b = some o) → c.T h'

structure Inv (c : Cx) (s : Shared) (ι : Iota) (μ : Mu) : Prop where
  old : ∀ b o, c.hB.get? b = some o → b ∉ c.X → s.heap.get? b = some o
  new : ∀ a ∈ ι, c.hB.get? a = none
  len : ι.length = μ.length
  nodup : ι.Nodup
  mo : ∀ (i : Nat) (a : Addr) (m : MO), ι[i]? = some a → μ[i]? = some m → MoAt c s.heap ι a m
  tab : c.T s.heap
  bare : AllBare s.gens
  os : s.os = c.os
  tp : 0 < s.toks

structure Step (c : Cx) (s : Shared) (ι : Iota) (s' : Shared) (ι' : Iota) : Prop where
  keep : ∀ b o, s.heap.get? b = some o → b ∉ ι → b ∉ c.X → s'.heap.get? b = some o
  there : ∀ b o, s.heap.get? b = some o → ∃ o', s'.heap.get? b = some o'
  ext : ∃ l, ι' = ι ++ l ∧ ∀ a ∈ l, s.heap.get? a = none

theorem Step.refl (c : Cx) (s : Shared) (ι : Iota) : Step c s ι s ι := ⟨fun _ _ e _ _ => e, fun _ o e => ⟨o, e⟩, [], by simp, by simp⟩
theorem Step.off {c : Cx} {s s' : Shared} {ι ι' : Iota} (x : Step c s ι s' ι') {b : Addr} {o : Obj} (e : s.heap.get? b = some o) (hb : b ∉ ι) : b ∉ ι' := fun hm => by
  obtain ⟨l, rfl, hl⟩ := x.ext
  rcases List.mem_append.mp hm with h | h
  · exact hb h
  · rw [hl b h] at e; cases e
theorem Step.trans {c : Cx} {s s₁ s₂ : Shared} {ι ι₁ ι₂ : Iota} (x : Step c s ι s₁ ι₁) (y : Step c s₁ ι₁ s₂ ι₂) : Step c s ι s₂ ι₂ := by
  refine ⟨fun b o e hb hX => y.keep b o (x.keep b o e hb hX) (x.off e hb) hX, fun b o e => ?_, ?_⟩
  · obtain ⟨o', e'⟩ := x.there b o e
    exact y.there b o' e'
  · obtain ⟨l, rfl, hl⟩ := x.ext
    obtain ⟨l', rfl, hl'⟩ := y.ext
    refine ⟨l ++ l', by simp, fun a ha => ?_⟩
    rcases List.mem_append.mp ha with h | h
    · exact hl a h
    · cases q : s.heap.get? a with
      | none => rfl
      | some o => obtain ⟨o', e'⟩ := x.there a o q; rw [hl' a h] at e'; cases e'

theorem getElem?_ext {α : Type} {l : List α} {i : Nat} {a : α} (e : l[i]? = some a) (l' : List α) : (l ++ l')[i]? = some a := by
  obtain ⟨h, _⟩ := List.getElem?_eq_some_iff.mp e
  rw [List.getElem?_append_left h]; exact e

/-- what never changes: tuples, ranges -/
def Imm (o : Obj) : Prop := (o.cls = .type "tuple" ∧ ∃ vs n, o.data = .seq vs n) ∨ (o.cls = .type "range" ∧ ∃ vs, o.data = .fields vs)
theorem Imm.ne {o : Obj} (x : Imm o) : o.cls ≠ .type "list" ∧ (∀ C, o.cls ≠ .ref C) ∧ o.cls ≠ .none ∧ (∀ es n, o.data ≠ .dict es n) ∧ ∀ v, o.data ≠ .cell v := by
  rcases x with ⟨h, vs, n, d⟩ | ⟨h, vs, d⟩ <;> rw [h, d] <;> refine ⟨by decide, fun C q => (by cases q), by decide, fun _ _ q => (by cases q), fun _ q => (by cases q)⟩

mutual
theorem RepV.mono {h h' : Heap} {ι : Iota} {l : Iota} (k : ∀ b o, h.get? b = some o → Imm o → h'.get? b = some o) : ∀ (p : PV) (v : Value), RepV h ι p v → RepV h' (ι ++ l) p v
  | .none, _, e => by simpa only [RepV] using e
  | .bool _, _, e => by simpa only [RepV] using e
  | .int _, _, e => by simpa only [RepV] using e
  | .flt _, _, e => by simpa only [RepV] using e
  | .str _, _, e => by simpa only [RepV] using e
  | .tup ps, _, e => by
    simp only [RepV] at e ⊢
    obtain ⟨a, vs, n, e1, e2, e3⟩ := e
    exact ⟨a, vs, n, e1, k _ _ e2 (.inl ⟨rfl, _, _, rfl⟩), RepL.mono k ps vs e3⟩
  | .loc i, _, e => by
    simp only [RepV] at e ⊢
    obtain ⟨a, e1, e2⟩ := e
    exact ⟨a, e1, getElem?_ext e2 l⟩
  | .rng lo hi, _, e => by
    simp only [RepV] at e ⊢
    obtain ⟨a, t, u, w, e1, e2⟩ := e
    exact ⟨a, t, u, w, e1, k _ _ e2 (.inr ⟨rfl, _, rfl⟩)⟩
  | .ext _, _, e => by simpa only [RepV] using e
theorem RepL.mono {h h' : Heap} {ι : Iota} {l : Iota} (k : ∀ b o, h.get? b = some o → Imm o → h'.get? b = some o) : ∀ (ps : List PV) (vs : List Value), RepL h ι ps vs → RepL h' (ι ++ l) ps vs
  | [], _, e => by simpa only [RepL] using e
  | p :: ps, _, e => by
    simp only [RepL] at e ⊢
    obtain ⟨v, r, e1, e2, e3⟩ := e
    exact ⟨v, r, e1, RepV.mono k p v e2, RepL.mono k ps r e3⟩
end

theorem RepL.length {h : Heap} {ι : Iota} : ∀ (ps : List PV) (vs : List Value), RepL h ι ps vs → vs.length = ps.length
  | [], vs, r => by simp only [RepL] at r; rw [r]; rfl
  | p :: ps, vs, r => by
    simp only [RepL] at r
    obtain ⟨v, r', rfl, _, h⟩ := r
    simp [RepL.length ps r' h]

theorem MoAt.cls {c : Cx} {h : Heap} {ι : Iota} {a : Addr} {m : MO} (x : MoAt c h ι a m) : ∃ o, h.get? a = some o ∧ (o.cls = .type "list" ∨ o.cls = .ref c.C) := by
  cases m with
  | lst ps => obtain ⟨vs, n, e, _⟩ := x; exact ⟨_, e, .inl rfl⟩
  | pil k its => obtain ⟨d, vs, n, e, _⟩ := x; exact ⟨_, e, .inr rfl⟩

theorem Inv.at {c : Cx} {s : Shared} {ι : Iota} {μ : Mu} (I : Inv c s ι μ) {a : Addr} (ha : a ∈ ι) : ∃ o, s.heap.get? a = some o ∧ (o.cls = .type "list" ∨ o.cls = .ref c.C) := by
  obtain ⟨i, hi⟩ := List.getElem?_of_mem ha
  have hl : i < μ.length := by rw [← I.len]; exact (List.getElem?_eq_some_iff.mp hi).1
  exact (I.mo i a μ[i] hi (by simp [hl])).cls

/-- an object of another class is none of the store's, nor a table -/
theorem Inv.off {c : Cx} (O : c.Ok) {s : Shared} {ι : Iota} {μ : Mu} (I : Inv c s ι μ) {b : Addr} {o : Obj} (e : s.heap.get? b = some o) (h1 : o.cls ≠ .type "list") (h2 : ∀ C, o.cls ≠ .ref C) (h3 : o.cls ≠ .none) : b ∉ ι ∧ b ∉ c.X := by
  refine ⟨fun hm => ?_, fun hm => ?_⟩
  · obtain ⟨o', e', hc⟩ := I.at hm
    rw [e] at e'; cases e'
    rcases hc with hc | hc
    · exact h1 hc
    · exact h2 _ hc
  · obtain ⟨vs, e'⟩ := O.tX _ I.tab b hm
    rw [e] at e'; cases e'
    exact h3 rfl

theorem Inv.rep {c : Cx} (O : c.Ok) {s s' : Shared} {ι ι' : Iota} {μ : Mu} (I : Inv c s ι μ) (S : Step c s ι s' ι') {p : PV} {v : Value} (r : RepV s.heap ι p v) : RepV s'.heap ι' p v := by
  obtain ⟨l, rfl, _⟩ := S.ext
  refine RepV.mono (fun b o e hc => ?_) p v r
  have := I.off O e hc.ne.1 hc.ne.2.1 hc.ne.2.2.1
  exact S.keep b o e this.1 this.2
theorem Inv.repL {c : Cx} (O : c.Ok) {s s' : Shared} {ι ι' : Iota} {μ : Mu} (I : Inv c s ι μ) (S : Step c s ι s' ι') {p : List PV} {v : List Value} (r : RepL s.heap ι p v) : RepL s'.heap ι' p v := by
  obtain ⟨l, rfl, _⟩ := S.ext
  refine RepL.mono (fun b o e hc => ?_) p v r
  have := I.off O e hc.ne.1 hc.ne.2.1 hc.ne.2.2.1
  exact S.keep b o e this.1 this.2

/-- a step that makes and changes nothing of the store -/
theorem Inv.grow {c : Cx} (O : c.Ok) {s : Shared} {ι : Iota} {μ : Mu} (I : Inv c s ι μ) {s' : Shared} (k : ∀ b o, s.heap.get? b = some o → s'.heap.get? b = some o) (hg : AllBare s'.gens) (ho : s'.os = s.os) (ht : 0 < s'.toks) : Inv c s' ι μ ∧ Step c s ι s' ι := by
  have S : Step c s ι s' ι := ⟨fun b o e _ _ => k b o e, fun b o e => ⟨o, k b o e⟩, [], by simp, by simp⟩
  refine ⟨⟨fun b o e hX => k _ _ (I.old b o e hX), I.new, I.len, I.nodup, fun i a m hi hm => ?_, O.tk _ _ I.tab fun b o e _ _ => k b o e, hg, ho.trans I.os, ht⟩, S⟩
  have x := I.mo i a m hi hm
  cases m with
  | lst ps => obtain ⟨vs, n, e, r⟩ := x; exact ⟨vs, n, k _ _ e, I.repL O S r⟩
  | pil q its =>
    obtain ⟨d, vs, n, e, ⟨hsh, tk, tk', m', ed⟩, hn, r⟩ := x
    exact ⟨d, vs, n, k _ _ e, ⟨hsh, tk, tk', m', k _ _ ed⟩, hn, I.repL O S r⟩
end Mine
namespace Mine

abbrev Rho := List (Str × PV)

structure AOk (n : Nat) (A : Around) : Prop where
  h : A.handled = none
  d : A.depth + n < 900
  u : A.units + 20 * n < 9000

theorem AOk.mono {n m : Nat} {A : Around} (a : AOk n A) (h : m ≤ n) : AOk m A := ⟨a.h, by have := a.d; omega, by have := a.u; omega⟩
theorem AOk.in1 {n : Nat} {A : Around} (a : AOk (n + 1) A) : AOk n A.in1 := ⟨a.h, by have := a.d; show A.depth + n < 900; omega, by have := a.u; show A.units + 1 + 20 * n < 9000; omega⟩
theorem AOk.deeper {n : Nat} {A : Around} (a : AOk (n + 1) A) (env : Env) : AOk n (A.deeper env) := ⟨a.h, by have := a.d; show A.depth + 1 + n < 900; omega, by have := a.u; show A.units + 3 + 20 * n < 9000; omega⟩

/-- the name x of the frame stands for p -/
def NameIs (env : Env) (h : Heap) (ι : Iota) (m : Str → Option Value) (x : Str) (p : PV) : Prop :=
  (x == ("__debug__" : Str)) = false ∧ ((env.kindOf x = some .local ∧ ∃ v, m x = some v ∧ RepV h ι p v) ∨
  ((env.kindOf x = some .cell ∨ (env.kindOf x = some .free ∧ (x == ("__classdict__" : Str)) = false)) ∧ ∃ cc v, env.cells.lookup x = some cc ∧ h.IsCell cc (some v) ∧ RepV h ι p v))

structure EnvOk (c : Cx) (env : Env) (ρ : Rho) (s : Shared) (ι : Iota) : Prop where
  kind : env.scope.kind = .function
  glo : env.globals = mainGlobals
  bi : env.builtins = builtinsNs
  ini : env.kindOf ("_initial_size" : Str) = none
  ns : ∃ m, s.heap.Ns env.locals m ∧ m ("_initial_size" : Str) = none ∧ ∀ x p, (x, p) ∈ ρ → NameIs env s.heap ι m x p
  nd : (ρ.map (·.1)).Nodup
  loc : env.locals ∉ ι ∧ env.locals ∉ c.X ∧ c.hB.get? env.locals = none
  cell : ∀ x cc, env.cells.lookup x = some cc → (∃ v, s.heap.IsCell cc v) ∧ cc ∉ ι ∧ cc ∉ c.X ∧ cc ≠ env.locals ∧ c.hB.get? cc = none
  inj : ∀ x y cc, env.cells.lookup x = some cc → env.cells.lookup y = some cc → x = y

theorem NameIs.step {c : Cx} (O : c.Ok) {env : Env} {ρ : Rho} {s s' : Shared} {ι ι' : Iota} {μ : Mu} (I : Inv c s ι μ) (V : EnvOk c env ρ s ι) (S : Step c s ι s' ι') {m : Str → Option Value} {x : Str} {p : PV}
    (n : NameIs env s.heap ι m x p) : NameIs env s'.heap ι' m x p := by
  obtain ⟨h1, h2⟩ := n
  refine ⟨h1, ?_⟩
  rcases h2 with ⟨a, v, b, r⟩ | ⟨a, cc, v, b, ⟨o, e, d⟩, r⟩
  · exact .inl ⟨a, v, b, I.rep O S r⟩
  · have q := V.cell x cc b
    exact .inr ⟨a, cc, v, b, ⟨o, S.keep _ _ e q.2.1 q.2.2.1, d⟩, I.rep O S r⟩

theorem EnvOk.step {c : Cx} (O : c.Ok) {env : Env} {ρ : Rho} {s s' : Shared} {ι ι' : Iota} {μ : Mu} (V : EnvOk c env ρ s ι) (I : Inv c s ι μ) (S : Step c s ι s' ι') : EnvOk c env ρ s' ι' := by
  obtain ⟨m, hn, hi, hm⟩ := V.ns
  obtain ⟨oL, es, ep, eL, rL⟩ := hn
  refine ⟨V.kind, V.glo, V.bi, V.ini, ⟨m, ⟨oL, es, ep, S.keep _ _ eL V.loc.1 V.loc.2.1, rL⟩, hi, fun x p h => (hm x p h).step O I V S⟩, V.nd, ⟨S.off eL V.loc.1, V.loc.2⟩, fun x cc h => ?_, V.inj⟩
  obtain ⟨⟨v, o, e, d⟩, h1, h2, h3, h4⟩ := V.cell x cc h
  exact ⟨⟨v, o, S.keep _ _ e h1 h2, d⟩, S.off e h1, h2, h3, h4⟩

/-- the tree t, from a state of (ρ, μ), ends in a value that stands for some p, in a store μ', with K p μ' -/
structure WT (c : Cx) (A : Around) (t : Sem Value) (env : Env) (ρ : Rho) (μ : Mu) (K : PV → Mu → Prop) : Prop where
  run : ∀ (s : Shared) (ι : Iota) (E Q : Value → Shared → Prop), Inv c s ι μ → EnvOk c env ρ s ι →
    (∀ v s' ι' p μ', Step c s ι s' ι' → Inv c s' ι' μ' → RepV s'.heap ι' p v → K p μ' → Q v s') → wpAny (model c.prog c.w) A t Q E s
structure WE (c : Cx) (A : Around) (e : Expr) (env : Env) (ρ : Rho) (μ : Mu) (K : PV → Mu → Prop) : Prop where
  run : ∀ (s : Shared) (ι : Iota) (E Q : Value → Shared → Prop), Inv c s ι μ → EnvOk c env ρ s ι →
    (∀ v s' ι' p μ', Step c s ι s' ι' → Inv c s' ι' μ' → RepV s'.heap ι' p v → K p μ' → Q v s') → wpAny (model c.prog c.w) A (eval e env) Q E s
/-- a list of expressions, in order -/
structure WEs (c : Cx) (A : Around) (es : List Expr) (env : Env) (ρ : Rho) (μ : Mu) (K : List PV → Mu → Prop) : Prop where
  run : ∀ (s : Shared) (ι : Iota) (E : Value → Shared → Prop) (Q : List Value → Shared → Prop) (pos : Pos), Inv c s ι μ → EnvOk c env ρ s ι →
    (∀ vs s' ι' ps μ', Step c s ι s' ι' → Inv c s' ι' μ' → RepL s'.heap ι' ps vs → K ps μ' → Q vs s') → wpAny (model c.prog c.w) A (spliced (backTo pos (starEach es env))) Q E s
/-- a test -/
structure WB (c : Cx) (A : Around) (e : Expr) (env : Env) (ρ : Rho) (μ : Mu) (K : Bool → Mu → Prop) : Prop where
  run : ∀ (s : Shared) (ι : Iota) (E : Value → Shared → Prop) (Q : Bool → Shared → Prop), Inv c s ι μ → EnvOk c env ρ s ι →
    (∀ b s' ι' μ', Step c s ι s' ι' → Inv c s' ι' μ' → K b μ' → Q b s') → wpAny (model c.prog c.w) A (isTrue e env (eval e env)) Q E s
/-- a tree upon values in hand -/
structure WV (c : Cx) (A : Around) (f : List Value → Sem Value) (ps : List PV) (μ : Mu) (K : PV → Mu → Prop) : Prop where
  run : ∀ (s : Shared) (ι : Iota) (E Q : Value → Shared → Prop) (vs : List Value), Inv c s ι μ → RepL s.heap ι ps vs →
    (∀ v s' ι' p μ', Step c s ι s' ι' → Inv c s' ι' μ' → RepV s'.heap ι' p v → K p μ' → Q v s') → wpAny (model c.prog c.w) A (f vs) Q E s

abbrev f2 (f : Value → Value → Sem Value) : List Value → Sem Value := fun vs => match vs with | [a, b] => f a b | _ => unsupported ""
abbrev f1 (f : Value → Sem Value) : List Value → Sem Value := fun vs => match vs with | [a] => f a | _ => unsupported ""

section
variable {c : Cx} {A : Around} {env : Env} {ρ : Rho} {μ : Mu}

theorem WE.mono {e : Expr} {K K' : PV → Mu → Prop} (h : WE c A e env ρ μ K) (k : ∀ p m, K p m → K' p m) : WE c A e env ρ μ K' :=
  ⟨fun s ι E Q I V hQ => h.run s ι E Q I V fun v s' ι' p μ' S I' r x => hQ v s' ι' p μ' S I' r (k _ _ x)⟩
theorem toks_inv {s : Shared} {ι : Iota} (O : c.Ok) (I : Inv c s ι μ) (k : Nat) (hk : 0 < k := by omega) : Inv c { s with toks := k } ι μ ∧ Step c s ι { s with toks := k } ι := I.grow O (s' := { s with toks := k }) (fun _ _ e => e) I.bare rfl hk

theorem WE.int {i : Int} {k : Nat} {pos : Pos} {K : PV → Mu → Prop} (O : c.Ok) (h : K (.int i) μ) : WE c A (.Constant (.int i) k pos) env ρ μ K := ⟨fun s ι E Q I V hQ => by
  have t := toks_inv O I (s.toks + 1)
  exact wpAny_Constant_int (hQ _ _ ι (.int i) μ t.2 t.1 (by simp only [RepV]; exact ⟨_, rfl⟩) h)⟩
theorem WE.str {x : Str} {k : Nat} {pos : Pos} {K : PV → Mu → Prop} (O : c.Ok) (h : K (.str x) μ) : WE c A (.Constant (.str x) k pos) env ρ μ K := ⟨fun s ι E Q I V hQ => by
  have t := toks_inv O I (s.toks + 1)
  exact wpAny_Constant_str (hQ _ _ ι (.str x) μ t.2 t.1 (by simp only [RepV]; exact ⟨_, rfl⟩) h)⟩
theorem WE.flt {x : UInt64} {k : Nat} {pos : Pos} {K : PV → Mu → Prop} (O : c.Ok) (h : K (.flt x) μ) : WE c A (.Constant (.float x) k pos) env ρ μ K := ⟨fun s ι E Q I V hQ => by
  have t := toks_inv O I (s.toks + 1)
  exact wpAny_Constant_float (hQ _ _ ι (.flt x) μ t.2 t.1 (by simp only [RepV]; exact ⟨_, rfl, Nat.pos_iff_ne_zero.mp I.tp⟩) h)⟩
theorem WE.bool {b : Bool} {k : Nat} {pos : Pos} {K : PV → Mu → Prop} (h : K (.bool b) μ) : WE c A (.Constant (.bool b) k pos) env ρ μ K := ⟨fun s ι E Q I V hQ =>
  wpAny_Constant_bool (hQ _ _ ι (.bool b) μ (Step.refl ..) I (by simp only [RepV]) h)⟩
theorem name_run {x : Str} {p : PV} {s : Shared} {ι : Iota} {E Q : Value → Shared → Prop} (V : EnvOk c env ρ s ι) (hx : (x, p) ∈ ρ) (h : ∀ v, RepV s.heap ι p v → Q v s) : wpAny (model c.prog c.w) A (loadName env x) Q E s := by
  obtain ⟨m, hn, _, hm⟩ := V.ns
  obtain ⟨hd, h2⟩ := hm x p hx
  rcases h2 with ⟨a, v, b, r⟩ | ⟨a, cc, v, b, hc, r⟩
  · exact wpAny_loadName_local V.kind a hn b (h v r)
  · rcases a with a | ⟨a, a'⟩
    · exact wpAny_loadName_cell V.kind a b hc (h v r)
    · exact wpAny_loadName_free V.kind a b hc (h v r) a'
theorem WE.name {x : Str} {pos : Pos} {p : PV} {K : PV → Mu → Prop} (hx : (x, p) ∈ ρ) (h : K p μ) : WE c A (.Name x pos) env ρ μ K := ⟨fun s ι E Q I V hQ => by
  obtain ⟨m, hn, _, hm⟩ := V.ns
  exact wpAny_Name (name_run V hx fun v r => hQ _ _ ι p μ (Step.refl ..) I r h) (hm x p hx).1⟩

/-- a name of the text's top, or a built-in: the very value -/
theorem glob_ld (O : c.Ok) {x : Str} {pos : Pos} {v : Value} {s : Shared} {ι : Iota} {E Q : Value → Shared → Prop} (I : Inv c s ι μ) (V : EnvOk c env ρ s ι) (hk : env.kindOf x = some .globalImplicit) (hx : c.mg x = some v) (hd : (x == ("__debug__" : Str)) = false)
    (h : Q v s) : wpAny (model c.prog c.w) A (eval (.Name x pos) env) Q E s := by
  obtain ⟨o, es, ep, e, r⟩ := O.g
  exact Calls.Name_function_global V.kind hk (Calls.loadGlobal_global (mg := c.mg) (by rw [V.glo]; exact ⟨o, es, ep, I.old _ _ e O.sX.2.1, r⟩) hx h) hd
theorem buil_ld (O : c.Ok) {x : Str} {pos : Pos} {v : Value} {s : Shared} {ι : Iota} {E Q : Value → Shared → Prop} (I : Inv c s ι μ) (V : EnvOk c env ρ s ι) (hk : env.kindOf x = some .globalImplicit) (hn : c.mg x = .none) (hx : c.mb x = some v) (hd : (x == ("__debug__" : Str)) = false)
    (h : Q v s) : wpAny (model c.prog c.w) A (eval (.Name x pos) env) Q E s := by
  obtain ⟨o, es, ep, e, r⟩ := O.g
  obtain ⟨o', es', ep', e', r'⟩ := O.b
  exact Calls.Name_function_global V.kind hk (Calls.loadGlobal_builtin (mg := c.mg) (mb := c.mb) (by rw [V.glo]; exact ⟨o, es, ep, I.old _ _ e O.sX.2.1, r⟩) hn
    (by rw [V.bi]; exact ⟨o', es', ep', I.old _ _ e' O.sX.2.2, r'⟩) hx h) hd
/-- a text that stands at the top under a name -/
theorem WE.glob_str {x : Str} {pos : Pos} {y : Str} {t : Tok} {K : PV → Mu → Prop} (O : c.Ok) (hx : c.mg x = some (.str y t)) (hk : env.kindOf x = some .globalImplicit) (hd : (x == ("__debug__" : Str)) = false) (h : K (.str y) μ) : WE c A (.Name x pos) env ρ μ K := ⟨fun s ι E Q I V hQ =>
  glob_ld O I V hk hx hd (hQ _ _ ι (.str y) μ (Step.refl ..) I (by simp only [RepV]; exact ⟨_, rfl⟩) h)⟩

theorem WE.bin {l r : Expr} {op : Operator} {pos : Pos} {K : PV → Mu → Prop} (O : c.Ok)
    (h : WE c A l env ρ μ fun p μ₁ => WE c A r env ρ μ₁ fun q μ₂ => WV c A (f2 (binaryOp op)) [p, q] μ₂ K) : WE c A (.BinOp l op r pos) env ρ μ K := ⟨fun s ι E Q I V hQ => by
  refine wpAny_BinOp (h.run s ι E _ I V fun a s₁ ι₁ p μ₁ S₁ I₁ r₁ k₁ => ?_)
  refine k₁.run s₁ ι₁ E _ I₁ (V.step O I S₁) fun b s₂ ι₂ q μ₂ S₂ I₂ r₂ k₂ => ?_
  exact k₂.run s₂ ι₂ E _ [a, b] I₂ (by simp only [RepL]; exact ⟨_, _, rfl, I₁.rep O S₂ r₁, _, _, rfl, r₂, rfl⟩) fun v s₃ ι₃ x μ₃ S₃ I₃ r₃ k₃ => hQ v s₃ ι₃ x μ₃ ((S₁.trans S₂).trans S₃) I₃ r₃ k₃⟩
theorem WE.cmp1 {l r : Expr} {op : CmpOp} {pos : Pos} {K : PV → Mu → Prop} (O : c.Ok)
    (h : WE c A l env ρ μ fun p μ₁ => WE c A r env ρ μ₁ fun q μ₂ => WV c A (f2 (compareOp op)) [p, q] μ₂ K) (hb : behindInMarks op r = false) : WE c A (.Compare l [op] [r] pos) env ρ μ K := ⟨fun s ι E Q I V hQ => by
  refine wpAny_Compare1 (h.run s ι E _ I V fun a s₁ ι₁ p μ₁ S₁ I₁ r₁ k₁ => ?_) hb
  refine k₁.run s₁ ι₁ E _ I₁ (V.step O I S₁) fun b s₂ ι₂ q μ₂ S₂ I₂ r₂ k₂ => ?_
  exact k₂.run s₂ ι₂ E _ [a, b] I₂ (by simp only [RepL]; exact ⟨_, _, rfl, I₁.rep O S₂ r₁, _, _, rfl, r₂, rfl⟩) fun v s₃ ι₃ x μ₃ S₃ I₃ r₃ k₃ => hQ v s₃ ι₃ x μ₃ ((S₁.trans S₂).trans S₃) I₃ r₃ k₃⟩
theorem WE.una {e : Expr} {op : UnaryOp} {pos : Pos} {K : PV → Mu → Prop}
    (h : WE c A e env ρ μ fun p μ₁ => WV c A (f1 (unaryOp op)) [p] μ₁ K) : WE c A (.UnaryOp op e pos) env ρ μ K := ⟨fun s ι E Q I V hQ => by
  refine wpAny_UnaryOp (h.run s ι E _ I V fun a s₁ ι₁ p μ₁ S₁ I₁ r₁ k₁ => ?_)
  exact k₁.run s₁ ι₁ E _ [a] I₁ (by simp only [RepL]; exact ⟨_, _, rfl, r₁, rfl⟩) fun v s₃ ι₃ x μ₃ S₃ I₃ r₃ k₃ => hQ v s₃ ι₃ x μ₃ (S₁.trans S₃) I₃ r₃ k₃⟩
theorem WE.ife {t b e : Expr} {pos : Pos} {K : PV → Mu → Prop} (O : c.Ok)
    (h : WB c A t env ρ μ fun x μ₁ => if x = true then WE c A b env ρ μ₁ K else WE c A e env ρ μ₁ K) : WE c A (.IfExp t b e pos) env ρ μ K := ⟨fun s ι E Q I V hQ => by
  refine wpAny_IfExp (h.run s ι E _ I V fun x s₁ ι₁ μ₁ S₁ I₁ k₁ => ?_)
  cases x with
  | true => exact k₁.run s₁ ι₁ E _ I₁ (V.step O I S₁) fun v s₂ ι₂ q μ₂ S₂ I₂ r₂ k₂ => hQ v s₂ ι₂ q μ₂ (S₁.trans S₂) I₂ r₂ k₂
  | false => exact k₁.run s₁ ι₁ E _ I₁ (V.step O I S₁) fun v s₂ ι₂ q μ₂ S₂ I₂ r₂ k₂ => hQ v s₂ ι₂ q μ₂ (S₁.trans S₂) I₂ r₂ k₂⟩

def notStar : Expr → Bool
  | .Starred .. => false
  | _ => true
theorem starEach_cons {e : Expr} {es : List Expr} (h : notStar e = true) : starEach (e :: es) env = (false, eval e env) :: starEach es env := by
  cases e <;> first | rfl | cases h
theorem WEs.nil {K : List PV → Mu → Prop} (h : K [] μ) : WEs c A [] env ρ μ K := ⟨fun s ι E Q pos I V hQ =>
  Calls.spliced_nil (hQ [] s ι [] μ (Step.refl ..) I (by simp only [RepL]) h)⟩
theorem WEs.cons {e : Expr} {es : List Expr} {K : List PV → Mu → Prop} (O : c.Ok) (h : WE c A e env ρ μ fun p μ₁ => WEs c A es env ρ μ₁ fun ps μ₂ => K (p :: ps) μ₂) (hs : notStar e = true) : WEs c A (e :: es) env ρ μ K := ⟨fun s ι E Q pos I V hQ => by
  rw [starEach_cons hs]
  refine Calls.spliced_cons (h.run s ι E _ I V fun a s₁ ι₁ p μ₁ S₁ I₁ r₁ k₁ => ?_)
  refine k₁.run s₁ ι₁ E _ pos I₁ (V.step O I S₁) fun vs s₂ ι₂ ps μ₂ S₂ I₂ r₂ k₂ => ?_
  exact hQ _ s₂ ι₂ (p :: ps) μ₂ (S₁.trans S₂) I₂ (by simp only [RepL]; exact ⟨_, _, rfl, I₁.rep O S₂ r₁, r₂⟩) k₂⟩

/-- a new tuple of values in hand -/
theorem tup_new (O : c.Ok) {s : Shared} {ι : Iota} {ps : List PV} {vs : List Value} (I : Inv c s ι μ) (r : RepL s.heap ι ps vs) :
    Step c s ι { s with heap := s.heap.push (tupOf vs 0) } ι ∧ Inv c { s with heap := s.heap.push (tupOf vs 0) } ι μ ∧ RepV (s.heap.push (tupOf vs 0)) ι (.tup ps) (.ref s.heap.objs.size) := by
  have t := I.grow O (s' := { s with heap := s.heap.push (tupOf vs 0) }) (fun b o e => Heap.get?_push_of_some _ e) I.bare rfl I.tp
  refine ⟨t.2, t.1, ?_⟩
  simp only [RepV]
  exact ⟨_, vs, 0, rfl, Heap.get?_push_size _ rfl, I.repL O t.2 r⟩
theorem WE.tuple {es : List Expr} {k : Nat} {pos : Pos} {K : PV → Mu → Prop} (O : c.Ok) (h : WEs c A es env ρ μ fun ps μ₁ => ps.length ≤ 1000 ∧ K (.tup ps) μ₁) : WE c A (.Tuple es k pos) env ρ μ K := ⟨fun s ι E Q I V hQ => by
  refine wpAny_Tuple_spliced (h.run s ι E _ pos I V fun vs s₁ ι₁ ps μ₁ S₁ I₁ r₁ k₁ => ?_)
  have hl : vs.length = ps.length := RepL.length ps vs r₁
  have t := tup_new O I₁ r₁
  exact ⟨by rw [hl, sizeLine_eq]; omega, hQ _ _ ι₁ (.tup ps) μ₁ (S₁.trans t.1) t.2.1 t.2.2 k₁.2⟩⟩

/-- a new list of values in hand -/
theorem lst_new (O : c.Ok) {s : Shared} {ι : Iota} {ps : List PV} {vs : List Value} (I : Inv c s ι μ) (r : RepL s.heap ι ps vs) {h' : Heap} {D : Addr} {n : Nat} (hD : s.heap.get? D = .none) (e : h'.get? D = some (lstOf vs n)) (k : ∀ b o, s.heap.get? b = some o → h'.get? b = some o) {tk : Nat} (htk : 0 < tk) :
    Step c s ι { s with heap := h', toks := tk } (ι ++ [D]) ∧ Inv c { s with heap := h', toks := tk } (ι ++ [D]) (μ ++ [.lst ps]) ∧ RepV h' (ι ++ [D]) (.loc μ.length) (.ref D) := by
  have S : Step c s ι { s with heap := h', toks := tk } (ι ++ [D]) := ⟨fun b o e _ _ => k b o e, fun b o e => ⟨o, k b o e⟩, [D], rfl, fun a ha => by rw [List.mem_singleton.mp ha]; exact hD⟩
  have hB : c.hB.get? D = .none := by
    cases q : c.hB.get? D with
    | none => rfl
    | some o =>
      by_cases hx : D ∈ c.X
      · obtain ⟨vs', e'⟩ := O.tX _ I.tab D hx
        rw [hD] at e'; cases e'
      · rw [I.old D o q hx] at hD; cases hD
  have hDi : D ∉ ι := fun hm => by
    obtain ⟨o, e', _⟩ := I.at hm
    rw [hD] at e'; cases e'
  refine ⟨S, ⟨fun b o e hX => k _ _ (I.old b o e hX), fun a ha => ?_, by simp [I.len], ?_, fun i a m hi hm => ?_, O.tk _ _ I.tab fun b o e _ _ => k b o e, I.bare, I.os, htk⟩, ?_⟩
  · rcases List.mem_append.mp ha with h | h
    · exact I.new a h
    · rw [List.mem_singleton.mp h]; exact hB
  · rw [List.nodup_append]
    refine ⟨I.nodup, by simp, fun a ha b hb q => ?_⟩
    rw [List.mem_singleton.mp hb] at q
    exact hDi (q ▸ ha)
  · by_cases hl : i < ι.length
    · rw [List.getElem?_append_left hl] at hi
      rw [List.getElem?_append_left (by rw [← I.len]; exact hl)] at hm
      have x := I.mo i a m hi hm
      cases m with
      | lst ps => obtain ⟨vs, n, e, r⟩ := x; exact ⟨vs, n, k _ _ e, I.repL O S r⟩
      | pil q its =>
        obtain ⟨d, vs, n, e, ⟨hsh, tk, tk', m', ed⟩, hn, r⟩ := x
        exact ⟨d, vs, n, k _ _ e, ⟨hsh, tk, tk', m', k _ _ ed⟩, hn, I.repL O S r⟩
    · have hi' : i = ι.length := by
        have := (List.getElem?_eq_some_iff.mp hi).1
        simp at this; omega
      subst hi'
      simp at hi
      have hm' : (MO.lst ps) = m := by
        rw [List.getElem?_append_right (by rw [I.len]; exact Nat.le_refl _)] at hm
        simpa [I.len] using hm
      subst hi hm'
      exact ⟨vs, n, e, I.repL O S r⟩
  · simp only [RepV]
    exact ⟨D, rfl, by rw [← I.len]; simp⟩
theorem fresh_size (h : Heap) : h.get? h.objs.size = .none := by
  cases e : h.get? h.objs.size with
  | none => rfl
  | some o => exact absurd (Heap.lt_size e) (Nat.lt_irrefl _)
theorem WE.list {es : List Expr} {pos : Pos} {K : PV → Mu → Prop} (O : c.Ok) (h : WEs c A es env ρ μ fun ps μ₁ => ps.length ≤ 1000 ∧ K (.loc μ₁.length) (μ₁ ++ [.lst ps])) : WE c A (.List es pos) env ρ μ K := ⟨fun s ι E Q I V hQ => by
  refine wpAny_List_spliced (h.run s ι E _ pos I V fun vs s₁ ι₁ ps μ₁ S₁ I₁ r₁ k₁ => ?_)
  have hl : vs.length = ps.length := RepL.length ps vs r₁
  have t := lst_new O I₁ r₁ (h' := s₁.heap.push (lstOf vs 0)) (D := s₁.heap.objs.size) (n := 0) (tk := s₁.toks) (fresh_size _) (Heap.get?_push_size _ rfl) (fun b o e => Heap.get?_push_of_some _ e) I₁.tp
  exact ⟨by rw [hl, sizeLine_eq]; omega, hQ _ _ _ _ _ (S₁.trans t.1) t.2.1 t.2.2 k₁.2⟩⟩
end
end Mine
namespace Mine

inductive UpdI : Rho → Str → PV → Rho → Prop
  | nil {x p} : UpdI [] x p [(x, p)]
  | head {x p q r} : UpdI ((x, q) :: r) x p ((x, p) :: r)
  | tail {x y p q r r'} : y ≠ x → UpdI r x p r' → UpdI ((y, q) :: r) x p ((y, q) :: r')
theorem UpdI.keys {ρ ρ' : Rho} {x : Str} {p : PV} (u : UpdI ρ x p ρ') : ∀ y, y ∈ ρ'.map (·.1) → y = x ∨ y ∈ ρ.map (·.1) := by
  induction u with
  | nil => intro y hy; simp at hy; exact .inl hy
  | head => intro y hy; rw [List.map_cons, List.mem_cons] at hy ⊢; exact .inr hy
  | tail hne _ ih =>
    intro y hy
    rw [List.map_cons, List.mem_cons] at hy
    rcases hy with h | h
    · exact .inr (by rw [List.map_cons]; exact List.mem_cons.mpr (.inl h))
    · rcases ih y h with h | h
      · exact .inl h
      · exact .inr (by rw [List.map_cons]; exact List.mem_cons.mpr (.inr h))
theorem UpdI.nd {ρ ρ' : Rho} {x : Str} {p : PV} (u : UpdI ρ x p ρ') (h : (ρ.map (·.1)).Nodup) : (ρ'.map (·.1)).Nodup := by
  induction u with
  | nil => simp
  | head => simpa using h
  | tail hne u ih =>
    rw [List.map_cons, List.nodup_cons] at h ⊢
    refine ⟨fun hm => ?_, ih h.2⟩
    rcases u.keys _ hm with q | q
    · exact hne q
    · exact h.1 q
theorem UpdI.mem {ρ ρ' : Rho} {x : Str} {p : PV} (u : UpdI ρ x p ρ') (h : (ρ.map (·.1)).Nodup) : ∀ y q, (y, q) ∈ ρ' → (y = x ∧ q = p) ∨ (y ≠ x ∧ (y, q) ∈ ρ) := by
  induction u with
  | nil => intro y q hy; simp at hy; exact .inl hy
  | head =>
    intro y q hy
    rw [List.map_cons, List.nodup_cons] at h
    rcases List.mem_cons.mp hy with e | hy
    · cases e; exact .inl ⟨rfl, rfl⟩
    · refine .inr ⟨fun e => h.1 ?_, .tail _ hy⟩
      rw [← e]; exact List.mem_map.mpr ⟨_, hy, rfl⟩
  | tail hne u ih =>
    intro y q hy
    rw [List.map_cons, List.nodup_cons] at h
    rcases List.mem_cons.mp hy with e | hy
    · cases e; exact .inr ⟨hne, .head _⟩
    · rcases ih h.2 y q hy with h | ⟨a, b⟩
      · exact .inl h
      · exact .inr ⟨a, .tail _ b⟩

structure StepF (c : Cx) (env : Env) (s : Shared) (ι : Iota) (s' : Shared) (ι' : Iota) : Prop where
  keep : ∀ b o, s.heap.get? b = some o → b ∉ ι → b ∉ c.X → b ≠ env.locals → (∀ x, env.cells.lookup x ≠ some b) → s'.heap.get? b = some o
  there : ∀ b o, s.heap.get? b = some o → ∃ o', s'.heap.get? b = some o'
  ext : ∃ l, ι' = ι ++ l ∧ ∀ a ∈ l, s.heap.get? a = none
theorem Step.f {c : Cx} {env : Env} {s s' : Shared} {ι ι' : Iota} (S : Step c s ι s' ι') : StepF c env s ι s' ι' := ⟨fun b o e h1 h2 _ _ => S.keep b o e h1 h2, S.there, S.ext⟩
theorem StepF.refl (c : Cx) (env : Env) (s : Shared) (ι : Iota) : StepF c env s ι s ι := (Step.refl ..).f
theorem StepF.off {c : Cx} {env : Env} {s s' : Shared} {ι ι' : Iota} (x : StepF c env s ι s' ι') {b : Addr} {o : Obj} (e : s.heap.get? b = some o) (hb : b ∉ ι) : b ∉ ι' := fun hm => by
  obtain ⟨l, rfl, hl⟩ := x.ext
  rcases List.mem_append.mp hm with h | h
  · exact hb h
  · rw [hl b h] at e; cases e
theorem StepF.trans {c : Cx} {env : Env} {s s₁ s₂ : Shared} {ι ι₁ ι₂ : Iota} (x : StepF c env s ι s₁ ι₁) (y : StepF c env s₁ ι₁ s₂ ι₂) : StepF c env s ι s₂ ι₂ := by
  refine ⟨fun b o e hb hX hL hC => y.keep b o (x.keep b o e hb hX hL hC) (x.off e hb) hX hL hC, fun b o e => ?_, ?_⟩
  · obtain ⟨o', e'⟩ := x.there b o e
    exact y.there b o' e'
  · obtain ⟨l, rfl, hl⟩ := x.ext
    obtain ⟨l', rfl, hl'⟩ := y.ext
    refine ⟨l ++ l', by simp, fun a ha => ?_⟩
    rcases List.mem_append.mp ha with h | h
    · exact hl a h
    · cases q : s.heap.get? a with
      | none => rfl
      | some o => obtain ⟨o', e'⟩ := x.there a o q; rw [hl' a h] at e'; cases e'

theorem Inv.immF {c : Cx} (O : c.Ok) {env : Env} {ρ : Rho} {s s' : Shared} {ι ι' : Iota} {μ : Mu} (I : Inv c s ι μ) (V : EnvOk c env ρ s ι) (S : StepF c env s ι s' ι') (b : Addr) (o : Obj) (e : s.heap.get? b = some o) (hc : Imm o) : s'.heap.get? b = some o := by
  have h := I.off O e hc.ne.1 hc.ne.2.1 hc.ne.2.2.1
  refine S.keep b o e h.1 h.2 (fun q => ?_) fun x q => ?_
  · obtain ⟨m, ⟨oL, es, ep, eL, hd, _⟩, _, _⟩ := V.ns
    rw [q, eL] at e; cases e
    exact hc.ne.2.2.2.1 _ _ hd
  · obtain ⟨⟨v, o', e', d'⟩, _⟩ := V.cell x b q
    rw [e] at e'; cases e'
    exact hc.ne.2.2.2.2 _ d'
theorem Inv.repF {c : Cx} (O : c.Ok) {env : Env} {ρ : Rho} {s s' : Shared} {ι ι' : Iota} {μ : Mu} (I : Inv c s ι μ) (V : EnvOk c env ρ s ι) (S : StepF c env s ι s' ι') {p : PV} {v : Value} (r : RepV s.heap ι p v) : RepV s'.heap ι' p v := by
  obtain ⟨l, rfl, _⟩ := S.ext
  exact RepV.mono (I.immF O V S) p v r
theorem Inv.repLF {c : Cx} (O : c.Ok) {env : Env} {ρ : Rho} {s s' : Shared} {ι ι' : Iota} {μ : Mu} (I : Inv c s ι μ) (V : EnvOk c env ρ s ι) (S : StepF c env s ι s' ι') {p : List PV} {v : List Value} (r : RepL s.heap ι p v) : RepL s'.heap ι' p v := by
  obtain ⟨l, rfl, _⟩ := S.ext
  exact RepL.mono (I.immF O V S) p v r

theorem dict_ne {c : Cx} {env : Env} {ρ : Rho} {s : Shared} {ι : Iota} (V : EnvOk c env ρ s ι) {d : Addr} {k : Int} (h : dictIs s.heap d k) : d ≠ env.locals ∧ ∀ x, env.cells.lookup x ≠ some d := by
  obtain ⟨hsh, tk, tk', m', ed⟩ := h
  refine ⟨fun q => ?_, fun x q => ?_⟩
  · obtain ⟨m, ⟨oL, es, ep, eL, hd, _, hf⟩, hi, _⟩ := V.ns
    rw [q, eL] at ed; cases ed
    cases hd
    have := hf ("_initial_size" : Str)
    rw [hi] at this
    simp [nsFind, findBy, Value.isStr] at this
  · obtain ⟨⟨v, o', e', d'⟩, _⟩ := V.cell x d q
    rw [ed] at e'; cases e'
    cases d'

/-- the frame's own things turn -/
theorem Inv.frame {c : Cx} (O : c.Ok) {env : Env} {ρ : Rho} {s s' : Shared} {ι : Iota} {μ : Mu} (I : Inv c s ι μ) (V : EnvOk c env ρ s ι) (S : StepF c env s ι s' ι)
    (k : ∀ b o, s.heap.get? b = some o → b ≠ env.locals → (∀ x, env.cells.lookup x ≠ some b) → s'.heap.get? b = some o) (hg : AllBare s'.gens) (ho : s'.os = s.os) (ht : 0 < s'.toks) : Inv c s' ι μ := by
  have nl : ∀ b, b ∈ ι → b ≠ env.locals ∧ ∀ x, env.cells.lookup x ≠ some b := fun b hb => ⟨fun q => V.loc.1 (q ▸ hb), fun x q => (V.cell x b q).2.1 hb⟩
  refine ⟨fun b o e hX => k _ _ (I.old b o e hX) (fun q => ?_) fun x q => ?_, I.new, I.len, I.nodup, fun i a m hi hm => ?_, O.tk _ _ I.tab fun b o e _ hc => k b o e (fun q => ?_) fun x q => ?_, hg, ho.trans I.os, ht⟩
  · rw [q, V.loc.2.2] at e; cases e
  · rw [(V.cell x b q).2.2.2.2] at e; cases e
  · have x := I.mo i a m hi hm
    have na := nl a (List.mem_of_getElem? hi)
    cases m with
    | lst ps => obtain ⟨vs, n, e, r⟩ := x; exact ⟨vs, n, k _ _ e na.1 na.2, I.repLF O V S r⟩
    | pil q its =>
      obtain ⟨d, vs, n, e, hd, hn, r⟩ := x
      have nd := dict_ne V hd
      obtain ⟨hsh, tk, tk', m', ed⟩ := hd
      exact ⟨d, vs, n, k _ _ e na.1 na.2, ⟨hsh, tk, tk', m', k _ _ ed nd.1 nd.2⟩, hn, I.repLF O V S r⟩
  · obtain ⟨m, ⟨oL, es, ep, eL, hd, _⟩, _, _⟩ := V.ns
    rw [q, eL] at e; cases e
    obtain ⟨vs, hc⟩ := hc
    rw [hd] at hc; cases hc
  · obtain ⟨⟨v, o', e', d'⟩, _⟩ := V.cell x b q
    rw [e] at e'; cases e'
    obtain ⟨vs, hc⟩ := hc
    rw [d'] at hc; cases hc

/-- a store under a name of the frame -/
theorem store_run {c : Cx} (O : c.Ok) {A : Around} {env : Env} {ρ ρ' : Rho} {s : Shared} {ι : Iota} {μ : Mu} {x : Str} {p : PV} {v : Value} {E : Value → Shared → Prop} {Q : Unit → Shared → Prop}
    (I : Inv c s ι μ) (V : EnvOk c env ρ s ι) (r : RepV s.heap ι p v) (u : UpdI ρ x p ρ')
    (hk : env.kindOf x = some .local ∨ (env.kindOf x = some .cell ∧ (env.cells.lookup x).isSome = true)) (hd : (x == ("__debug__" : Str)) = false)
    (h : ∀ s', StepF c env s ι s' ι → Inv c s' ι μ → EnvOk c env ρ' s' ι → Q () s') : wpAny (model c.prog c.w) A (storeName env x v) Q E s := by
  obtain ⟨m, hn, hi, hm⟩ := V.ns
  have xi : x ≠ ("_initial_size" : Str) := fun q => by
    have := V.ini
    rcases hk with a | ⟨a, _⟩ <;> rw [q, this] at a <;> cases a
  rcases hk with hk | ⟨hk, hc⟩
  · have hp : (env.scope.kind == .class || (env.scope.kind == .module && env.locals != env.globals)) = false := by rw [V.kind]; rfl
    refine wpAny_storeName_local hk hn (fun h' hn' hs' => ?_) hp
    have S : StepF c env s ι { s with heap := h', toks := s.toks + 1 } ι := ⟨fun b o e _ _ hb _ => hs'.extBut b o hb e, fun b o e => by
      by_cases hb : b = env.locals
      · subst hb; obtain ⟨o', _, _, e', _⟩ := hn'; exact ⟨o', e'⟩
      · exact ⟨o, hs'.extBut b o hb e⟩, [], by simp, by simp⟩
    have I' := I.frame O V S (fun b o e hb _ => hs'.extBut b o hb e) I.bare rfl (Nat.succ_pos _)
    refine h _ S I' ⟨V.kind, V.glo, V.bi, V.ini, ⟨_, hn', by rw [if_neg (Ne.symm xi)]; exact hi, fun y q hy => ?_⟩, u.nd V.nd, V.loc, fun y cc hcc => ?_, V.inj⟩
    · rcases u.mem V.nd y q hy with ⟨rfl, rfl⟩ | ⟨hne, hy⟩
      · exact ⟨hd, .inl ⟨hk, v, by simp, I.repF O V S r⟩⟩
      · obtain ⟨h1, h2⟩ := hm y q hy
        refine ⟨h1, ?_⟩
        rcases h2 with ⟨a, v', b, r'⟩ | ⟨a, cc, v', b, ⟨o, e, d⟩, r'⟩
        · exact .inl ⟨a, v', (if_neg hne).trans b, I.repF O V S r'⟩
        · exact .inr ⟨a, cc, v', b, ⟨o, hs'.extBut _ _ (V.cell y cc b).2.2.2.1 e, d⟩, I.repF O V S r'⟩
    · obtain ⟨⟨v', o, e, d⟩, h1, h2, h3, h4⟩ := V.cell y cc hcc
      exact ⟨⟨v', o, hs'.extBut _ _ h3 e, d⟩, h1, h2, h3, h4⟩
  · obtain ⟨cc, hcc⟩ := Option.isSome_iff_exists.mp hc
    obtain ⟨⟨v₀, hv₀⟩, c1, c2, c3, c4⟩ := V.cell x cc hcc
    refine wpAny_storeName_cell V.kind hk hcc hv₀ fun h' hv' hs' => ?_
    have S : StepF c env s ι { s with heap := h' } ι := ⟨fun b o e _ _ _ hb => hs'.extBut b o (fun q => hb x (q ▸ hcc)) e, fun b o e => by
      by_cases hb : b = cc
      · subst hb; obtain ⟨o', e', _⟩ := hv'; exact ⟨o', e'⟩
      · exact ⟨o, hs'.extBut b o hb e⟩, [], by simp, by simp⟩
    have I' := I.frame O V S (fun b o e _ hb => hs'.extBut b o (fun q => hb x (q ▸ hcc)) e) I.bare rfl I.tp
    refine h _ S I' ⟨V.kind, V.glo, V.bi, V.ini, ⟨m, hn.sameBut hs' (Ne.symm c3), hi, fun y q hy => ?_⟩, u.nd V.nd, V.loc, fun y cc' hcc' => ?_, V.inj⟩
    · rcases u.mem V.nd y q hy with ⟨rfl, rfl⟩ | ⟨hne, hy⟩
      · exact ⟨hd, .inr ⟨.inl hk, cc, v, hcc, hv', I.repF O V S r⟩⟩
      · obtain ⟨h1, h2⟩ := hm y q hy
        refine ⟨h1, ?_⟩
        rcases h2 with ⟨a, v', b, r'⟩ | ⟨a, cc', v', b, ⟨o, e, d⟩, r'⟩
        · exact .inl ⟨a, v', b, I.repF O V S r'⟩
        · exact .inr ⟨a, cc', v', b, ⟨o, hs'.extBut _ _ (fun q => hne (V.inj y x cc (q ▸ b) hcc)) e, d⟩, I.repF O V S r'⟩
    · obtain ⟨⟨v', o, e, d⟩, h1, h2, h3, h4⟩ := V.cell y cc' hcc'
      by_cases q : cc' = cc
      · subst q; exact ⟨⟨_, hv'⟩, h1, h2, h3, h4⟩
      · exact ⟨⟨v', o, hs'.extBut _ _ q e, d⟩, h1, h2, h3, h4⟩

/-- fewer names -/
theorem EnvOk.less {c : Cx} {env : Env} {ρ ρ' : Rho} {s : Shared} {ι : Iota} (V : EnvOk c env ρ s ι) (h : ∀ y ∈ ρ', y ∈ ρ) (nd : (ρ'.map (·.1)).Nodup) : EnvOk c env ρ' s ι := by
  obtain ⟨m, hn, hi, hm⟩ := V.ns
  exact ⟨V.kind, V.glo, V.bi, V.ini, ⟨m, hn, hi, fun x p hx => hm x p (h _ hx)⟩, nd, V.loc, V.cell, V.inj⟩

inductive PF where
  | next | brk | cont
  | ret (p : PV)
def RepF (h : Heap) (ι : Iota) : PF → Flow → Prop
  | .next, f => f = .next
  | .brk, f => f = .brk
  | .cont, f => f = .cont
  | .ret p, f => ∃ v, f = .ret v ∧ RepV h ι p v

structure WS (c : Cx) (A : Around) (st : Stmt) (env : Env) (ρ : Rho) (μ : Mu) (K : PF → Rho → Mu → Prop) : Prop where
  run : ∀ (s : Shared) (ι : Iota) (E : Value → Shared → Prop) (Q : Flow → Shared → Prop), Inv c s ι μ → EnvOk c env ρ s ι →
    (∀ f s' ι' pf ρ' μ', StepF c env s ι s' ι' → Inv c s' ι' μ' → EnvOk c env ρ' s' ι' → RepF s'.heap ι' pf f → K pf ρ' μ' → Q f s') → wpAny (model c.prog c.w) A (exec st env) Q E s
structure WSs (c : Cx) (A : Around) (st : List Stmt) (env : Env) (ρ : Rho) (μ : Mu) (K : PF → Rho → Mu → Prop) : Prop where
  run : ∀ (s : Shared) (ι : Iota) (E : Value → Shared → Prop) (Q : Flow → Shared → Prop), Inv c s ι μ → EnvOk c env ρ s ι →
    (∀ f s' ι' pf ρ' μ', StepF c env s ι s' ι' → Inv c s' ι' μ' → EnvOk c env ρ' s' ι' → RepF s'.heap ι' pf f → K pf ρ' μ' → Q f s') → wpAny (model c.prog c.w) A (execs st env) Q E s
/-- an assignment of a value in hand to a target -/
structure WA (c : Cx) (A : Around) (t : Expr) (env : Env) (p : PV) (ρ : Rho) (μ : Mu) (K : Rho → Prop) : Prop where
  run : ∀ (s : Shared) (ι : Iota) (E : Value → Shared → Prop) (Q : Unit → Shared → Prop) (v : Value), Inv c s ι μ → EnvOk c env ρ s ι → RepV s.heap ι p v →
    (∀ s' ρ', StepF c env s ι s' ι → Inv c s' ι μ → EnvOk c env ρ' s' ι → K ρ' → Q () s') → wpAny (model c.prog c.w) A (assign t env v) Q E s

section
variable {c : Cx} {A : Around} {env : Env} {ρ : Rho} {μ : Mu} {K : PF → Rho → Mu → Prop}

theorem WS.mono {st : Stmt} {K K' : PF → Rho → Mu → Prop} (h : WS c A st env ρ μ K) (k : ∀ f p m, K f p m → K' f p m) : WS c A st env ρ μ K' :=
  ⟨fun s ι E Q I V hQ => h.run s ι E Q I V fun f s' ι' pf ρ' μ' S I' V' r x => hQ f s' ι' pf ρ' μ' S I' V' r (k _ _ _ x)⟩
theorem WSs.mono {st : List Stmt} {K K' : PF → Rho → Mu → Prop} (h : WSs c A st env ρ μ K) (k : ∀ f p m, K f p m → K' f p m) : WSs c A st env ρ μ K' :=
  ⟨fun s ι E Q I V hQ => h.run s ι E Q I V fun f s' ι' pf ρ' μ' S I' V' r x => hQ f s' ι' pf ρ' μ' S I' V' r (k _ _ _ x)⟩

theorem WSs.nil (h : K .next ρ μ) : WSs c A [] env ρ μ K := ⟨fun s ι E Q I V hQ => wpAny_execs_nil (hQ _ s ι .next ρ μ (StepF.refl ..) I V rfl h)⟩
abbrev thenK (c : Cx) (A : Around) (rest : List Stmt) (env : Env) (K : PF → Rho → Mu → Prop) (f : PF) (ρ : Rho) (μ : Mu) : Prop := match f with
  | .next => WSs c A rest env ρ μ K
  | f => K f ρ μ
theorem WSs.cons {st : Stmt} {rest : List Stmt} (O : c.Ok) (h : WS c A st env ρ μ (thenK c A rest env K)) : WSs c A (st :: rest) env ρ μ K := ⟨fun s ι E Q I V hQ => by
  refine wpAny_execs_cons (h.run s ι E _ I V fun f s₁ ι₁ pf ρ₁ μ₁ S₁ I₁ V₁ r₁ k₁ => ?_)
  cases pf with
  | next =>
    simp only [RepF] at r₁; subst r₁
    exact WSs.run k₁ s₁ ι₁ E Q I₁ V₁ fun f s₂ ι₂ pf ρ₂ μ₂ S₂ I₂ V₂ r₂ k₂ => hQ f s₂ ι₂ pf ρ₂ μ₂ (S₁.trans S₂) I₂ V₂ r₂ k₂
  | brk => simp only [RepF] at r₁; subst r₁; exact hQ _ s₁ ι₁ .brk ρ₁ μ₁ S₁ I₁ V₁ rfl k₁
  | cont => simp only [RepF] at r₁; subst r₁; exact hQ _ s₁ ι₁ .cont ρ₁ μ₁ S₁ I₁ V₁ rfl k₁
  | ret p =>
    simp only [RepF] at r₁
    obtain ⟨v, rfl, r₁⟩ := r₁
    exact hQ _ s₁ ι₁ (.ret p) ρ₁ μ₁ S₁ I₁ V₁ ⟨v, rfl, r₁⟩ k₁⟩

theorem WS.ret {e : Expr} {pos : Pos} (O : c.Ok) (h : WE c A e env ρ μ fun p μ' => K (.ret p) ρ μ') : WS c A (.Return (some e) pos) env ρ μ K := ⟨fun s ι E Q I V hQ =>
  wpAny_Return_some (h.run s ι E _ I V fun v s' ι' p μ' S I' r k => hQ _ s' ι' (.ret p) ρ μ' S.f I' (V.step O I S) ⟨v, rfl, r⟩ k)⟩
theorem WS.ite {t : Expr} {b e : List Stmt} {pos : Pos} (O : c.Ok) (h : WB c A t env ρ μ fun x μ₁ => if x = true then WSs c A b env ρ μ₁ K else WSs c A e env ρ μ₁ K) : WS c A (.If t b e pos) env ρ μ K := ⟨fun s ι E Q I V hQ => by
  refine wpAny_If (h.run s ι E _ I V fun x s₁ ι₁ μ₁ S₁ I₁ k₁ => ?_)
  cases x with
  | true => exact WSs.run k₁ s₁ ι₁ E Q I₁ (V.step O I S₁) fun f s₂ ι₂ pf ρ₂ μ₂ S₂ I₂ V₂ r₂ k₂ => hQ f s₂ ι₂ pf ρ₂ μ₂ (S₁.f.trans S₂) I₂ V₂ r₂ k₂
  | false => exact WSs.run k₁ s₁ ι₁ E Q I₁ (V.step O I S₁) fun f s₂ ι₂ pf ρ₂ μ₂ S₂ I₂ V₂ r₂ k₂ => hQ f s₂ ι₂ pf ρ₂ μ₂ (S₁.f.trans S₂) I₂ V₂ r₂ k₂⟩
theorem WS.assert_ {t : Expr} {msg : Option Expr} {pos : Pos} (O : c.Ok) (h : WB c A t env ρ μ fun x μ₁ => x = true ∧ K .next ρ μ₁) : WS c A (.Assert t msg pos) env ρ μ K := ⟨fun s ι E Q I V hQ =>
  wpAny_Assert_holds (h.run s ι E _ I V fun x s₁ ι₁ μ₁ S₁ I₁ k₁ => ⟨k₁.1, hQ _ s₁ ι₁ .next ρ μ₁ S₁.f I₁ (V.step O I S₁) rfl k₁.2⟩)⟩

theorem WA.name {x : Str} {pos : Pos} {p : PV} {K : Rho → Prop} {ρ' : Rho} (O : c.Ok) (u : UpdI ρ x p ρ')
    (hk : env.kindOf x = some .local ∨ (env.kindOf x = some .cell ∧ (env.cells.lookup x).isSome = true)) (hd : (x == ("__debug__" : Str)) = false) (h : K ρ') : WA c A (.Name x pos) env p ρ μ K := ⟨fun s ι E Q v I V r hQ =>
  wpAny_assign_Name (store_run O I V r u hk hd fun s' S I' V' => hQ s' ρ' S I' V' h)⟩

theorem WS.assign_name {x : Str} {pos' pos : Pos} {e : Expr} (O : c.Ok) 
    (h : WE c A e env ρ μ fun p μ' => ∃ ρ', UpdI ρ x p ρ' ∧ K .next ρ' μ') (hk : env.kindOf x = some .local ∨ (env.kindOf x = some .cell ∧ (env.cells.lookup x).isSome = true)) (hd : (x == ("__debug__" : Str)) = false)
    (hs : swapsWith e (some (.Name x pos')) pos.line env = pure false) : WS c A (.Assign [.Name x pos'] e pos) env ρ μ K := ⟨fun s ι E Q I V hQ => by
  refine wpAny_Assign_Name (h.run s ι E _ I V fun v s' ι' p μ' S I' r k => ?_) hs
  obtain ⟨ρ', u, k⟩ := k
  exact store_run O I' (V.step O I S) r u hk hd fun s₂ S₂ I₂ V₂ => hQ _ s₂ ι' .next ρ' μ' (S.f.trans S₂) I₂ V₂ rfl k⟩
theorem WS.aug_name {x : Str} {pos' pos : Pos} {op : Operator} {e : Expr} {q : PV} (O : c.Ok) (hx : (x, q) ∈ ρ)
    (h : WE c A e env ρ μ fun p μ' => WV c A (f2 (inplaceOp op)) [q, p] μ' fun r μ'' => ∃ ρ', UpdI ρ x r ρ' ∧ K .next ρ' μ'') (hk : env.kindOf x = some .local ∨ (env.kindOf x = some .cell ∧ (env.cells.lookup x).isSome = true)) (hd : (x == ("__debug__" : Str)) = false) :
    WS c A (.AugAssign (.Name x pos') op e pos) env ρ μ K := ⟨fun s ι E Q I V hQ => by
  refine wpAny_AugAssign_Name (name_run V hx fun v₀ r₀ => ?_)
  refine h.run s ι E _ I V fun v s₁ ι₁ p μ₁ S₁ I₁ r₁ k₁ => ?_
  refine k₁.run s₁ ι₁ E _ [v₀, v] I₁ (by simp only [RepL]; exact ⟨_, _, rfl, I.rep O S₁ r₀, _, _, rfl, r₁, rfl⟩) fun v₂ s₂ ι₂ p₂ μ₂ S₂ I₂ r₂ k₂ => ?_
  obtain ⟨ρ', u, k⟩ := k₂
  exact store_run O I₂ ((V.step O I S₁).step O I₁ S₂) r₂ u hk hd fun s₃ S₃ I₃ V₃ => hQ _ s₃ ι₂ .next ρ' μ₂ ((S₁.trans S₂).f.trans S₃) I₃ V₃ rfl k⟩
end
end Mine
namespace Mine

def signPV (n : Nat) : PV := .str ⟨#[n]⟩
def itemsOf (μ : Mu) : PV → Option (List PV)
  | .loc i => match μ[i]? with
    | some (.lst l) => some l
    | some (.pil _ l) => some (l.map pairPV)
    | none => none
  | .str x => some (x.cps.toList.map signPV)
  | .rng lo hi => some ((List.range (hi - lo).toNat).map fun (k : Nat) => .int (lo + (k : Int)))
  | .tup l => some l
  | _ => none

/-- the iterator I over p stands at place j -/
def IterAt (h : Heap) (ι : Iota) (I : Addr) (j : Nat) : PV → Prop
  | .loc i => ∃ a, ι[i]? = some a ∧ h.IsListIter I a j
  | .str x => ∃ T t, (T = "str_ascii_iterator" ∨ T = "str_iterator") ∧ h.IsStrIter I T x t j
  | .rng lo hi => IsRangeIter h I (lo + j) (((hi - lo).toNat : Int) - j) 1
  | .tup ps => ∃ a vs n, h.IsTupleIter I a j ∧ h.get? a = some (tupOf vs n) ∧ RepL h ι ps vs
  | _ => False

/-- an iterator's object -/
def isIter (o : Obj) : Prop := (∃ T, o.cls = .type T ∧ (T = "list_iterator" ∨ T = "str_ascii_iterator" ∨ T = "str_iterator" ∨ T = "range_iterator" ∨ T = "tuple_iterator")) ∧ ∃ vs, o.data = .fields vs
theorem IterAt.obj {h : Heap} {ι : Iota} {I : Addr} {j : Nat} {p : PV} (x : IterAt h ι I j p) : ∃ o, h.get? I = some o ∧ isIter o := by
  cases p <;> simp only [IterAt] at x
  case loc i => obtain ⟨a, _, o, e, hc, hd⟩ := x; exact ⟨o, e, ⟨_, hc, .inl rfl⟩, _, hd⟩
  case str y => obtain ⟨T, t, hT, o, e, hc, hd⟩ := x; exact ⟨o, e, ⟨T, hc, by rcases hT with h | h <;> simp [h]⟩, _, hd⟩
  case rng lo hi => exact ⟨_, x, ⟨_, rfl, by simp⟩, _, rfl⟩
  case tup ps => obtain ⟨a, vs, n, ⟨o, e, hc, hd⟩, _⟩ := x; exact ⟨o, e, ⟨_, hc, by simp⟩, _, hd⟩
theorem isIter.ne {o : Obj} (x : isIter o) : o.cls ≠ .type "list" ∧ (∀ C, o.cls ≠ .ref C) ∧ o.cls ≠ .none ∧ o.cls ≠ .type "code" ∧ o.cls ≠ .type "dict" ∧ ¬ Imm o ∧ (∀ es n, o.data ≠ .dict es n) ∧ ∀ v, o.data ≠ .cell v := by
  obtain ⟨⟨T, hc, hT⟩, vs, hd⟩ := x
  have hT' : T ≠ "list" ∧ T ≠ "code" ∧ T ≠ "dict" ∧ T ≠ "tuple" ∧ T ≠ "range" := by rcases hT with h | h | h | h | h <;> subst h <;> decide
  refine ⟨fun q => hT'.1 (by rw [hc] at q; exact Value.type.inj q), fun C q => (by rw [hc] at q; cases q), fun q => (by rw [hc] at q; cases q), fun q => hT'.2.1 (by rw [hc] at q; exact Value.type.inj q), fun q => hT'.2.2.1 (by rw [hc] at q; exact Value.type.inj q), fun q => ?_, fun es n q => (by rw [hd] at q; cases q), fun v q => (by rw [hd] at q; cases q)⟩
  rcases q with ⟨q, _⟩ | ⟨q, _⟩
  · exact hT'.2.2.2.1 (by rw [hc] at q; exact Value.type.inj q)
  · exact hT'.2.2.2.2 (by rw [hc] at q; exact Value.type.inj q)

section
variable {c : Cx} {A : Around} {env : Env} {ρ : Rho} {μ : Mu}

/-- only a scratch object turned -/
theorem Inv.scratch (O : c.Ok) {s : Shared} {ι : Iota} (I : Inv c s ι μ) {J : Addr} {oJ : Obj} (eJ : s.heap.get? J = some oJ) (hJ : isIter oJ) (nB : c.hB.get? J = none) {s' : Shared}
    (k : ∀ b o, s.heap.get? b = some o → b ≠ J → s'.heap.get? b = some o) (hg : AllBare s'.gens) (ho : s'.os = s.os) (ht : 0 < s'.toks) :
    Inv c s' ι μ ∧ (∀ p v, RepV s.heap ι p v → RepV s'.heap ι p v) ∧ (∀ p v, RepL s.heap ι p v → RepL s'.heap ι p v) ∧ (EnvOk c env ρ s ι → EnvOk c env ρ s' ι) := by
  have hne := hJ.ne
  have imm : ∀ b o, s.heap.get? b = some o → Imm o → s'.heap.get? b = some o := fun b o e hi => k b o e fun q => by rw [q, eJ] at e; cases e; exact hne.2.2.2.2.2.1 hi
  have rv : ∀ p v, RepV s.heap ι p v → RepV s'.heap ι p v := fun p v r => by have := RepV.mono (l := []) imm p v r; rwa [List.append_nil] at this
  have rl : ∀ p v, RepL s.heap ι p v → RepL s'.heap ι p v := fun p v r => by have := RepL.mono (l := []) imm p v r; rwa [List.append_nil] at this
  have ji : ∀ a ∈ ι, a ≠ J := fun a ha q => by
    obtain ⟨o, e, hc⟩ := I.at ha
    rw [q, eJ] at e; cases e
    rcases hc with h | h
    · exact hne.1 h
    · exact hne.2.1 _ h
  refine ⟨⟨fun b o e hX => k _ _ (I.old b o e hX) (fun q => by rw [q, nB] at e; cases e), I.new, I.len, I.nodup, fun i a m hi hm => ?_, O.tk _ _ I.tab fun b o e hc _ => k b o e fun q => ?_, hg, ho.trans I.os, ht⟩, rv, rl, fun V => ?_⟩
  · have x := I.mo i a m hi hm
    have na := ji a (List.mem_of_getElem? hi)
    cases m with
    | lst ps => obtain ⟨vs, n, e, r⟩ := x; exact ⟨vs, n, k _ _ e na, rl _ _ r⟩
    | pil q its =>
      obtain ⟨d, vs, n, e, ⟨hsh, tk, tk', m', ed⟩, hn, r⟩ := x
      exact ⟨d, vs, n, k _ _ e na, ⟨hsh, tk, tk', m', k _ _ ed fun q => by rw [q, eJ] at ed; cases ed; exact hne.2.2.2.2.1 rfl⟩, hn, rl _ _ r⟩
  · rw [q, eJ] at e; cases e
    rcases hc with h | h
    · exact hne.2.2.1 h
    · exact hne.2.2.2.1 h
  · obtain ⟨m, hn, hi, hm⟩ := V.ns
    have nl : env.locals ≠ J := fun q => by obtain ⟨o, es, ep, e, hd, _⟩ := hn; rw [q, eJ] at e; cases e; exact hne.2.2.2.2.2.2.1 _ _ hd
    have nc : ∀ x cc, env.cells.lookup x = some cc → cc ≠ J := fun x cc h q => by obtain ⟨⟨v, o, e, hd⟩, _⟩ := V.cell x cc h; rw [q, eJ] at e; cases e; exact hne.2.2.2.2.2.2.2 _ hd
    obtain ⟨oL, es, ep, eL, rL⟩ := hn
    refine ⟨V.kind, V.glo, V.bi, V.ini, ⟨m, ⟨oL, es, ep, k _ _ eL nl, rL⟩, hi, fun x p h => ?_⟩, V.nd, V.loc, fun x cc h => ?_, V.inj⟩
    · obtain ⟨h1, h2⟩ := hm x p h
      refine ⟨h1, ?_⟩
      rcases h2 with ⟨a, v, b, r⟩ | ⟨a, cc, v, b, ⟨o, e, d⟩, r⟩
      · exact .inl ⟨a, v, b, rv _ _ r⟩
      · exact .inr ⟨a, cc, v, b, ⟨o, k _ _ e (nc x cc b), d⟩, rv _ _ r⟩
    · obtain ⟨⟨v, o, e, d⟩, h1, h2, h3, h4⟩ := V.cell x cc h
      exact ⟨⟨v, o, k _ _ e (nc x cc h), d⟩, h1, h2, h3, h4⟩

theorem RepL.get {h : Heap} {ι : Iota} : ∀ (ps : List PV) (vs : List Value) (j : Nat), RepL h ι ps vs → (∀ q, ps[j]? = some q → ∃ v, vs[j]? = some v ∧ RepV h ι q v) ∧ (ps[j]? = none → vs[j]? = none)
  | [], vs, j, r => by simp only [RepL] at r; subst r; exact ⟨fun q e => by simp at e, fun _ => by simp⟩
  | p :: ps, vs, j, r => by
    simp only [RepL] at r
    obtain ⟨v, r', rfl, h1, h2⟩ := r
    cases j with
    | zero => exact ⟨fun q e => by simp at e; subst e; exact ⟨v, rfl, h1⟩, fun e => by simp at e⟩
    | succ j => simpa using RepL.get ps r' j h2

theorem next_run (O : c.Ok) (a : A.handled = none) {s : Shared} {ι : Iota} {J : Addr} {j : Nat} {p : PV} {its : List PV} {E : Value → Shared → Prop} {Q : Option Value → Shared → Prop}
    (I : Inv c s ι μ) (x : IterAt s.heap ι J j p) (hits : itemsOf μ p = some its) (hp : ∀ i, p = .loc i → ∃ l, μ[i]? = some (.lst l))
    (h1 : ∀ q v h' tk, s.toks ≤ tk → its[j]? = some q → (∀ b o, s.heap.get? b = some o → b ≠ J → h'.get? b = some o) → IterAt h' ι J (j + 1) p → RepV s.heap ι q v → Q (some v) { s with heap := h', toks := tk })
    (h2 : ∀ h' tk, s.toks ≤ tk → its[j]? = none → (∀ b o, s.heap.get? b = some o → b ≠ J → h'.get? b = some o) → Q none { s with heap := h', toks := tk }) :
    wpAny (model c.prog c.w) A (pyNext (.ref J)) Q E s := by
  cases p <;> simp only [IterAt] at x
  case loc i =>
    obtain ⟨l, hl⟩ := hp i rfl
    obtain ⟨a', ha, hit⟩ := x
    obtain ⟨vs, n, e, r⟩ := I.mo i a' _ ha hl
    simp only [itemsOf, hl] at hits
    cases hits
    have hL : s.heap.IsList a' vs.toArray := ⟨_, e, rfl, n, rfl⟩
    have g := RepL.get its vs j r
    have na : a' ≠ J := fun q => by
      obtain ⟨o, e', hc, _⟩ := hit
      rw [← q, e] at e'; cases e'
      exact absurd (show Value.type "list" = Value.type "list_iterator" from hc) (by decide)
    cases q : its[j]? with
    | some q' =>
      obtain ⟨v, hv, r'⟩ := g.1 q' q
      refine wpAny_pyNext_list_item hit hL (x := v) (by simpa using hv) fun h' hit' hs' => ?_
      exact h1 q' v h' s.toks (Nat.le_refl _) q (fun b o e hb => hs'.extBut b o hb e) ⟨a', ha, hit'⟩ r'
    | none => exact wpAny_pyNext_list_end a hit hL (by simpa using g.2 q) fun h' he' => h2 h' s.toks (Nat.le_refl _) q fun b o e hb => he' b o hb e
  case str y =>
    obtain ⟨T, t, hT, hit⟩ := x
    simp only [itemsOf] at hits
    cases hits
    have hg : (y.cps.toList.map signPV)[j]? = (y.cps[j]?).map signPV := by simp
    cases q : y.cps[j]? with
    | some n =>
      rw [q] at hg
      rcases hT with rfl | rfl
      · refine wpAny_pyNext_ascii_item hit q fun h' hit' hs' => ?_
        exact h1 (signPV n) _ h' _ (Nat.le_succ _) hg (fun b o e hb => hs'.extBut b o hb e) ⟨_, t, .inl rfl, hit'⟩ (by simp only [signPV, RepV]; exact ⟨_, rfl⟩)
      · refine wpAny_pyNext_wide_item hit q fun h' hit' hs' => ?_
        exact h1 (signPV n) _ h' _ (Nat.le_succ _) hg (fun b o e hb => hs'.extBut b o hb e) ⟨_, t, .inr rfl, hit'⟩ (by simp only [signPV, RepV]; exact ⟨_, rfl⟩)
    | none =>
      rw [q] at hg
      rcases hT with rfl | rfl
      · exact wpAny_pyNext_ascii_end a hit q fun h' he' => h2 h' s.toks (Nat.le_refl _) hg fun b o e hb => he' b o hb e
      · exact wpAny_pyNext_wide_end a hit q fun h' he' => h2 h' s.toks (Nat.le_refl _) hg fun b o e hb => he' b o hb e
  case rng lo hi =>
    simp only [itemsOf] at hits
    cases hits
    by_cases hj : j < (hi - lo).toNat
    · refine wpAny_pyNext_range_item x (by omega) fun h' hit' hs' => ?_
      refine h1 (.int (lo + (j : Int))) _ h' _ (Nat.le_succ _) (by simp [hj]) (fun b o e hb => hs'.extBut b o hb e) ?_ (by simp only [RepV]; exact ⟨_, rfl⟩)
      have e1 : lo + (j : Int) + 1 = lo + ((j + 1 : Nat) : Int) := by omega
      have e2 : ((hi - lo).toNat : Int) - (j : Int) - 1 = ((hi - lo).toNat : Int) - ((j + 1 : Nat) : Int) := by omega
      rw [e1, e2] at hit'
      exact hit'
    · exact wpAny_pyNext_range_end a x (by omega) fun h' he' => h2 h' s.toks (Nat.le_refl _) (by simp; omega) fun b o e hb => he' b o hb e
  case tup ps =>
    obtain ⟨a', vs, n, hit, e, r⟩ := x
    simp only [itemsOf] at hits
    cases hits
    have hL : s.heap.IsTuple a' vs.toArray := ⟨_, e, rfl, n, rfl⟩
    have g := RepL.get its vs j r
    have na : a' ≠ J := fun q => by
      obtain ⟨o, e', hc, _⟩ := hit
      rw [← q, e] at e'; cases e'
      exact absurd (show Value.type "tuple" = Value.type "tuple_iterator" from hc) (by decide)
    cases q : its[j]? with
    | some q' =>
      obtain ⟨v, hv, r'⟩ := g.1 q' q
      refine wpAny_pyNext_tuple_item hit hL (x := v) (by simpa using hv) fun h' hit' hs' => ?_
      have k : ∀ b o, s.heap.get? b = some o → b ≠ J → h'.get? b = some o := fun b o e hb => hs'.extBut b o hb e
      refine h1 q' v h' s.toks (Nat.le_refl _) q k ⟨a', vs, n, hit', k _ _ e na, ?_⟩ r'
      have := RepL.mono (l := []) (fun b o e hi => k b o e fun q => by
        obtain ⟨o', e', hc, hd⟩ := hit
        rw [q, e'] at e; cases e
        rcases hi with ⟨h, _⟩ | ⟨h, _⟩ <;> rw [hc] at h <;> exact absurd h (by decide)) its vs r
      rwa [List.append_nil] at this
    | none => exact wpAny_pyNext_tuple_end a hit hL (by simpa using g.2 q) fun h' he' => h2 h' s.toks (Nat.le_refl _) q fun b o e hb => he' b o hb e

/-- an iterator over what p stands for -/
theorem iter_run (O : c.Ok) {s : Shared} {ι : Iota} {p : PV} {v : Value} {its : List PV} {E Q : Value → Shared → Prop} (I : Inv c s ι μ) (r : RepV s.heap ι p v) (hits : itemsOf μ p = some its) (hp : ∀ i, p = .loc i → ∃ l, μ[i]? = some (.lst l))
    (hr : ∀ lo hi, p = .rng lo hi → -1000000 ≤ lo ∧ lo ≤ 1000000 ∧ -1000000 ≤ hi ∧ hi ≤ 1000000)
    (h : ∀ h' J, s.heap.get? J = none → (∀ b o, s.heap.get? b = some o → h'.get? b = some o) → IterAt h' ι J 0 p → Q (.ref J) { s with heap := h' }) : wpAny (model c.prog c.w) A (pyIter v) Q E s := by
  cases p <;> simp only [RepV] at r <;> simp only [itemsOf] at hits
  case none => cases hits
  case bool => cases hits
  case int => cases hits
  case flt => cases hits
  case ext => cases hits
  case str x =>
    obtain ⟨t, rfl⟩ := r
    cases ha : x.cps.all (· < 128)
    · exact wpAny_pyIter_wide ha (h _ _ (fresh_size _) (fun b o e => Heap.get?_push_of_some _ e) ⟨_, t, .inr rfl, _, Heap.get?_push_size _ rfl, rfl, rfl⟩)
    · exact wpAny_pyIter_ascii ha (h _ _ (fresh_size _) (fun b o e => Heap.get?_push_of_some _ e) ⟨_, t, .inl rfl, _, Heap.get?_push_size _ rfl, rfl, rfl⟩)
  case tup ps =>
    obtain ⟨a, vs, n, rfl, e, rl⟩ := r
    refine wpAny_pyIter_tuple (items := vs.toArray) ⟨_, e, rfl, n, rfl⟩ (h _ _ (fresh_size _) (fun b o e => Heap.get?_push_of_some _ e) ⟨a, vs, n, ⟨_, Heap.get?_push_size _ rfl, rfl, rfl⟩, Heap.get?_push_of_some _ e, ?_⟩)
    have := RepL.mono (l := []) (fun b o e _ => Heap.get?_push_of_some { cls := .type "tuple_iterator", data := .fields #[.ref a, .int 0 0] } e) ps vs rl
    rwa [List.append_nil] at this
  case loc i =>
    obtain ⟨a, rfl, ha⟩ := r
    obtain ⟨l, hl⟩ := hp i rfl
    obtain ⟨vs, n, e, rl⟩ := I.mo i a _ ha hl
    exact wpAny_pyIter_list (items := vs.toArray) ⟨_, e, rfl, n, rfl⟩ (h _ _ (fresh_size _) (fun b o e => Heap.get?_push_of_some _ e) ⟨a, ha, _, Heap.get?_push_size _ rfl, rfl, rfl⟩)
  case rng lo hi =>
    obtain ⟨a, t, u, w, rfl, e⟩ := r
    have hb := hr lo hi rfl
    have hz : Builtin.Range.rangeSize lo hi 1 = ((hi - lo).toNat : Int) := by
      unfold Builtin.Range.rangeSize
      rw [if_pos (by decide)]
      by_cases hlt : lo < hi
      · rw [if_pos hlt]; omega
      · rw [if_neg hlt]; omega
    have fit : ∀ x : Int, -2000002 ≤ x → x ≤ 2000002 → Builtin.Range.rangeFitsLong x = true := fun x h1 h2 => by
      unfold Builtin.Range.rangeFitsLong
      simp only [Bool.and_eq_true, decide_eq_true_eq]
      omega
    have hs : Builtin.Range.small lo hi 1 = true := by
      unfold Builtin.Range.small
      rw [hz, fit lo (by omega) (by omega), fit hi (by omega) (by omega), fit 1 (by decide) (by decide), fit _ (by omega) (by omega), if_pos (by decide), fit (hi + (1 - 1)) (by omega) (by omega)]
      simp
    refine wpAny_pyIter_range e hs (h _ _ (fresh_size _) (fun b o e => Heap.get?_push_of_some _ e) ?_)
    simp only [IterAt]
    have e1 : lo + ((0 : Nat) : Int) = lo := by omega
    have e2 : ((hi - lo).toNat : Int) - ((0 : Nat) : Int) = ((hi - lo).toNat : Int) := by omega
    rw [e1, e2, ← hz]
    exact Heap.get?_push_size _ rfl

structure StepJ (c : Cx) (env : Env) (J : Addr) (s : Shared) (ι : Iota) (s' : Shared) (ι' : Iota) : Prop where
  keep : ∀ b o, s.heap.get? b = some o → b ∉ ι → b ∉ c.X → b ≠ env.locals → (∀ x, env.cells.lookup x ≠ some b) → b ≠ J → s'.heap.get? b = some o
  there : ∀ b o, s.heap.get? b = some o → ∃ o', s'.heap.get? b = some o'
  ext : ∃ l, ι' = ι ++ l ∧ ∀ a ∈ l, s.heap.get? a = none
theorem StepF.j {J : Addr} {s s' : Shared} {ι ι' : Iota} (S : StepF c env s ι s' ι') : StepJ c env J s ι s' ι' := ⟨fun b o e h1 h2 h3 h4 _ => S.keep b o e h1 h2 h3 h4, S.there, S.ext⟩
theorem StepJ.off {J : Addr} {s s' : Shared} {ι ι' : Iota} (x : StepJ c env J s ι s' ι') {b : Addr} {o : Obj} (e : s.heap.get? b = some o) (hb : b ∉ ι) : b ∉ ι' := fun hm => by
  obtain ⟨l, rfl, hl⟩ := x.ext
  rcases List.mem_append.mp hm with h | h
  · exact hb h
  · rw [hl b h] at e; cases e
theorem StepJ.trans {J : Addr} {s s₁ s₂ : Shared} {ι ι₁ ι₂ : Iota} (x : StepJ c env J s ι s₁ ι₁) (y : StepJ c env J s₁ ι₁ s₂ ι₂) : StepJ c env J s ι s₂ ι₂ := by
  refine ⟨fun b o e hb hX hL hC hJ => y.keep b o (x.keep b o e hb hX hL hC hJ) (x.off e hb) hX hL hC hJ, fun b o e => ?_, ?_⟩
  · obtain ⟨o', e'⟩ := x.there b o e
    exact y.there b o' e'
  · obtain ⟨l, rfl, hl⟩ := x.ext
    obtain ⟨l', rfl, hl'⟩ := y.ext
    refine ⟨l ++ l', by simp, fun a ha => ?_⟩
    rcases List.mem_append.mp ha with h | h
    · exact hl a h
    · cases q : s.heap.get? a with
      | none => rfl
      | some o => obtain ⟨o', e'⟩ := x.there a o q; rw [hl' a h] at e'; cases e'
structure StepW (c : Cx) (env : Env) (J : Addr) (s : Shared) (ι : Iota) (s' : Shared) (ι' : Iota) : Prop where
  keep : ∀ b o, s.heap.get? b = some o → b ∉ ι → b ∉ c.X → b ≠ env.locals → (∀ x, env.cells.lookup x ≠ some b) → b ≠ J → s'.heap.get? b = some o
  there : ∀ b o, s.heap.get? b = some o → b ≠ J → ∃ o', s'.heap.get? b = some o'
  ext : ∃ l, ι' = ι ++ l ∧ ∀ a ∈ l, s.heap.get? a = none
theorem StepJ.w {J : Addr} {s s' : Shared} {ι ι' : Iota} (S : StepJ c env J s ι s' ι') : StepW c env J s ι s' ι' := ⟨S.keep, fun b o e _ => S.there b o e, S.ext⟩
theorem StepJ.transW {J : Addr} {s s₁ s₂ : Shared} {ι ι₁ ι₂ : Iota} (x : StepJ c env J s ι s₁ ι₁) (y : StepW c env J s₁ ι₁ s₂ ι₂) : StepW c env J s ι s₂ ι₂ := by
  refine ⟨fun b o e hb hX hL hC hJ => y.keep b o (x.keep b o e hb hX hL hC hJ) (x.off e hb) hX hL hC hJ, fun b o e hb => ?_, ?_⟩
  · obtain ⟨o', e'⟩ := x.there b o e
    exact y.there b o' e' hb
  · obtain ⟨l, rfl, hl⟩ := x.ext
    obtain ⟨l', rfl, hl'⟩ := y.ext
    refine ⟨l ++ l', by simp, fun a ha => ?_⟩
    rcases List.mem_append.mp ha with h | h
    · exact hl a h
    · cases q : s.heap.get? a with
      | none => rfl
      | some o => obtain ⟨o', e'⟩ := x.there a o q; rw [hl' a h] at e'; cases e'
/-- behind a loop: the iterator was not there ahead of it -/
theorem StepW.f {J : Addr} {s s₁ s₂ : Shared} {ι ι₁ : Iota} (hJ : s.heap.get? J = none) (k : ∀ b o, s.heap.get? b = some o → s₁.heap.get? b = some o) (y : StepW c env J s₁ ι s₂ ι₁) : StepF c env s ι s₂ ι₁ := by
  have nJ : ∀ b o, s.heap.get? b = some o → b ≠ J := fun b o e q => by rw [q, hJ] at e; cases e
  refine ⟨fun b o e hb hX hL hC => y.keep b o (k b o e) hb hX hL hC (nJ b o e), fun b o e => y.there b o (k b o e) (nJ b o e), ?_⟩
  obtain ⟨l, rfl, hl⟩ := y.ext
  refine ⟨l, rfl, fun a ha => ?_⟩
  cases q : s.heap.get? a with
  | none => rfl
  | some o => have := k a o q; rw [hl a ha] at this; cases this

/-- the iterator stays where it is while a frame works -/
theorem IterAt.stepF (O : c.Ok) {s s' : Shared} {ι ι' : Iota} {J : Addr} {j : Nat} {p : PV} (I : Inv c s ι μ) (V : EnvOk c env ρ s ι) (S : StepF c env s ι s' ι') (x : IterAt s.heap ι J j p) : IterAt s'.heap ι' J j p := by
  obtain ⟨oJ, eJ, hJ⟩ := x.obj
  have hne := hJ.ne
  have off := I.off O eJ hne.1 hne.2.1 hne.2.2.1
  have nl : J ≠ env.locals := fun q => by obtain ⟨m, ⟨o, es, ep, e, hd, _⟩, _⟩ := V.ns; rw [← q, eJ] at e; cases e; exact hne.2.2.2.2.2.2.1 _ _ hd
  have nc : ∀ x, env.cells.lookup x ≠ some J := fun x h => by obtain ⟨⟨v, o, e, hd⟩, _⟩ := V.cell x J h; rw [eJ] at e; cases e; exact hne.2.2.2.2.2.2.2 _ hd
  have kJ : s'.heap.get? J = some oJ := S.keep J oJ eJ off.1 off.2 nl nc
  obtain ⟨l, rfl, _⟩ := S.ext
  cases p <;> simp only [IterAt] at x ⊢
  case loc i =>
    obtain ⟨a, ha, o, e, hc, hd⟩ := x
    rw [eJ] at e; cases e
    exact ⟨a, getElem?_ext ha l, _, kJ, hc, hd⟩
  case str y =>
    obtain ⟨T, t, hT, o, e, hc, hd⟩ := x
    rw [eJ] at e; cases e
    exact ⟨T, t, hT, _, kJ, hc, hd⟩
  case rng lo hi => exact S.keep J _ x off.1 off.2 nl nc
  case tup ps =>
    obtain ⟨a, vs, n, ⟨o, e, hc, hd⟩, e2, r⟩ := x
    rw [eJ] at e; cases e
    exact ⟨a, vs, n, ⟨_, kJ, hc, hd⟩, I.immF O V S _ _ e2 (.inl ⟨rfl, _, _, rfl⟩), RepL.mono (I.immF O V S) ps vs r⟩

theorem letGo_run {s : Shared} {J : Addr} {o : Obj} {tgt : Expr} {v : Value} {E : Value → Shared → Prop} {Q : Unit → Shared → Prop} (e : s.heap.get? J = some o) (hi : isIter o) (h : Q () s) : wpAny (model c.prog c.w) A (letOwnedTupleGo tgt (.ref J) v) Q E s := by
  obtain ⟨⟨T, hc, hT⟩, vs, hd⟩ := hi
  have hno : (["enumerate", "zip", "dict_itemiterator", "dict_reverseitemiterator", "odict_iterator", "itertools.zip_longest", "itertools.pairwise"] : List String).contains T = false := by
    rcases hT with h | h | h | h | h <;> subst h <;> decide
  have go : ∀ a, wpAny (model c.prog c.w) A (do
      let o ← load J
      match o.cls, o.data with
      | .type n, .fields vs =>
        if (["enumerate", "zip", "dict_itemiterator", "dict_reverseitemiterator", "odict_iterator", "itertools.zip_longest", "itertools.pairwise"] : List String).contains n && vs[0]? == some (rawInt a) then
          rule "for.unpacks-the-owned-tuple"
          updateField J 0 .none
      | _, _ => pure ()) Q E s := fun a => by
    refine wpAny_bind (wpAny_load e ?_)
    rw [hc, hd]
    dsimp only
    rw [hno]
    exact wpAny_pure h
  unfold letOwnedTupleGo
  split
  · cases v <;> first | exact wpAny_pure h | exact go _
  · cases v <;> first | exact wpAny_pure h | exact go _
  · exact wpAny_pure h

abbrev loopK (L : Nat → Rho → Mu → Prop) (K : PF → Rho → Mu → Prop) (j : Nat) (f : PF) (ρ : Rho) (μ : Mu) : Prop := match f with
  | .next => L (j + 1) ρ μ
  | .cont => L (j + 1) ρ μ
  | .brk => K .next ρ μ
  | .ret v => K (.ret v) ρ μ
/-- a for's turns from place j on -/
structure WL (c : Cx) (A : Around) (tgt : Expr) (body : List Stmt) (env : Env) (p : PV) (K : PF → Rho → Mu → Prop) (j : Nat) (ρ : Rho) (μ : Mu) : Prop where
  run : ∀ (s : Shared) (ι : Iota) (J : Addr) (R : Result → Shared → Prop), Inv c s ι μ → EnvOk c env ρ s ι → IterAt s.heap ι J j p → c.hB.get? J = none →
    (∀ f s' ι' pf ρ' μ', StepW c env J s ι s' ι' → Inv c s' ι' μ' → EnvOk c env ρ' s' ι' → RepF s'.heap ι' pf f → K pf ρ' μ' → R (.ok f) s') → codeAny (model c.prog c.w) A (.forLoop tgt (.ref J) body [] env) R s

theorem forLoop_turn {tgt : Expr} {it : Value} {body : List Stmt} {R : Result → Shared → Prop} {s : Shared}
    (h : ∀ E, wpAny (model c.prog c.w) A (pyNext it) (fun r s₁ => match r with
      | none => R (.ok .next) s₁
      | some v => wpAny (model c.prog c.w) A (letOwnedTupleGo tgt it v) (fun _ s₁' => wpAny (model c.prog c.w) A (assign tgt env v) (fun _ s₂ => wpAny (model c.prog c.w) A (execs body env) (fun f s₃ => match f with
            | .next | .cont => codeAny (model c.prog c.w) A (.forLoop tgt it body [] env) R s₃
            | .brk => R (.ok .next) s₃
            | .ret v => R (.ok (.ret v)) s₃) E s₂) E s₁') E s₁) E s) : codeAny (model c.prog c.w) A (.forLoop tgt it body [] env) R s := by
  refine codeAny_of_tree ?_
  show wpAny _ A ((forTurn tgt it body [] env).onRaise (fun x => do noteFrame x env; theTreesLotGoes x)) _ _ s
  refine wpAny_noted ?_
  simp only [forTurn]
  refine wpAny_bind (wpAny_standAt (wpAny_bind (wpAny_onRaise (wpAny_mono (h _) (fun r s₁ h₁ => ?_) fun _ _ h' => wpAny_standAt h'))))
  cases r with
  | none => exact wpAny_pure ⟨rfl, codeAny_block (wpAny_execs_nil h₁)⟩
  | some v =>
    refine wpAny_bind (wpAny_mono h₁ (fun _ s₁' h₁' => ?_) fun _ _ h' => h')
    refine wpAny_bind (wpAny_mono h₁' (fun _ s₂ h₂ => wpAny_bind (wpAny_mono h₂ (fun f s₃ h₃ => ?_) fun _ _ h' => h')) fun _ _ h' => h')
    cases f with
    | next => exact wpAny_pure ⟨rfl, h₃⟩
    | cont => exact wpAny_pure ⟨rfl, h₃⟩
    | brk => exact wpAny_pure h₃
    | ret v => exact wpAny_pure h₃

theorem WL.step {tgt : Expr} {body : List Stmt} {p : PV} {K : PF → Rho → Mu → Prop} {j : Nat} {its : List PV} {q : PV} (O : c.Ok) (a : A.handled = none) (hits : itemsOf μ p = some its) (hq : its[j]? = some q)
    (h : WA c A tgt env q ρ μ fun ρ' => WSs c A body env ρ' μ (loopK (WL c A tgt body env p K) K j)) (hp : ∀ i, p = .loc i → ∃ l, μ[i]? = some (.lst l)) : WL c A tgt body env p K j ρ μ := ⟨fun s ι J R I V x nB hR => by
  refine forLoop_turn fun E => ?_
  refine next_run O a I x hits hp (fun q' v h' tk htk hq' k x' r => ?_) (fun h' tk _ hn _ => by rw [hq] at hn; cases hn)
  rw [hq] at hq'; cases hq'
  obtain ⟨oJ, eJ, hJ⟩ := x.obj
  have sc := I.scratch (env := env) (ρ := ρ) O eJ hJ nB (s' := { s with heap := h', toks := tk }) k I.bare rfl (Nat.lt_of_lt_of_le I.tp htk)
  obtain ⟨oJ', eJ', hJ'⟩ := x'.obj
  refine letGo_run eJ' hJ' ?_
  have S0 : StepJ c env J s ι { s with heap := h', toks := tk } ι := ⟨fun b o e _ _ _ _ hb => k b o e hb, fun b o e => by
    by_cases hb : b = J
    · subst hb; exact ⟨_, eJ'⟩
    · exact ⟨o, k b o e hb⟩, [], by simp, by simp⟩
  refine h.run _ ι E _ v sc.1 (sc.2.2.2 V) (sc.2.1 _ _ r) fun s₂ ρ₂ S₂ I₂ V₂ k₂ => ?_
  refine WSs.run k₂ s₂ ι E _ I₂ V₂ fun f s₃ ι₃ pf ρ₃ μ₃ S₃ I₃ V₃ r₃ k₃ => ?_
  have x₂ : IterAt s₂.heap ι J (j + 1) p := IterAt.stepF O sc.1 (sc.2.2.2 V) S₂ x'
  have x₃ : IterAt s₃.heap ι₃ J (j + 1) p := IterAt.stepF O I₂ V₂ S₃ x₂
  have S : StepJ c env J s ι s₃ ι₃ := S0.trans (S₂.j.trans S₃.j)
  cases pf with
  | next =>
    simp only [RepF] at r₃; subst r₃
    exact WL.run k₃ s₃ ι₃ J R I₃ V₃ x₃ nB fun f s' ι' pf ρ' μ' S' I' V' r' k' => hR f s' ι' pf ρ' μ' (S.transW S') I' V' r' k'
  | cont =>
    simp only [RepF] at r₃; subst r₃
    exact WL.run k₃ s₃ ι₃ J R I₃ V₃ x₃ nB fun f s' ι' pf ρ' μ' S' I' V' r' k' => hR f s' ι' pf ρ' μ' (S.transW S') I' V' r' k'
  | brk =>
    simp only [RepF] at r₃; subst r₃
    exact hR _ s₃ ι₃ .next ρ₃ μ₃ S.w I₃ V₃ rfl k₃
  | ret v =>
    simp only [RepF] at r₃
    obtain ⟨v', rfl, r₃⟩ := r₃
    exact hR _ s₃ ι₃ (.ret v) ρ₃ μ₃ S.w I₃ V₃ ⟨v', rfl, r₃⟩ k₃⟩
theorem WL.done {tgt : Expr} {body : List Stmt} {p : PV} {K : PF → Rho → Mu → Prop} {j : Nat} {its : List PV} (O : c.Ok) (a : A.handled = none) (hits : itemsOf μ p = some its) (hq : its[j]? = none) (h : K .next ρ μ)
    (hp : ∀ i, p = .loc i → ∃ l, μ[i]? = some (.lst l)) : WL c A tgt body env p K j ρ μ := ⟨fun s ι J R I V x nB hR => by
  refine forLoop_turn fun E => ?_
  refine next_run O a I x hits hp (fun q' v h' tk _ hq' k x' r => by rw [hq] at hq'; cases hq') (fun h' tk htk hn k => ?_)
  obtain ⟨oJ, eJ, hJ⟩ := x.obj
  have sc := I.scratch (env := env) (ρ := ρ) O eJ hJ nB (s' := { s with heap := h', toks := tk }) k I.bare rfl (Nat.lt_of_lt_of_le I.tp htk)
  exact hR _ _ ι .next ρ μ ⟨fun b o e _ _ _ _ hb => k b o e hb, fun b o e hb => ⟨o, k b o e hb⟩, [], by simp, by simp⟩ sc.1 (sc.2.2.2 V) rfl h⟩

theorem WS.for_ {tgt iter : Expr} {body : List Stmt} {pos : Pos} {K : PF → Rho → Mu → Prop} (O : c.Ok)
    (h : WE c A iter env ρ μ fun p μ₁ => (∃ its, itemsOf μ₁ p = some its) ∧ (∀ i, p = .loc i → ∃ l, μ₁[i]? = some (.lst l)) ∧ (∀ lo hi, p = .rng lo hi → -1000000 ≤ lo ∧ lo ≤ 1000000 ∧ -1000000 ≤ hi ∧ hi ≤ 1000000) ∧ WL c A tgt body env p K 0 ρ μ₁)
    (hs : ∀ x, foldedSetIterable iter env x = pure x) : WS c A (.For tgt iter body [] pos) env ρ μ K := ⟨fun s ι E Q I V hQ => by
  refine wpAny_For (h.run s ι E _ I V fun v s₁ ι₁ p μ₁ S₁ I₁ r₁ k₁ => ?_) hs
  obtain ⟨⟨its, hits⟩, hp, hr, k₁⟩ := k₁
  refine iter_run O I₁ r₁ hits hp hr fun h' J hJ k x => ?_
  have g := I₁.grow O (s' := { s₁ with heap := h' }) k I₁.bare rfl I₁.tp
  have nB : c.hB.get? J = none := by
    cases q : c.hB.get? J with
    | none => rfl
    | some o =>
      by_cases hx : J ∈ c.X
      · obtain ⟨vs', e'⟩ := O.tX _ I₁.tab J hx
        rw [hJ] at e'; cases e'
      · rw [I₁.old J o q hx] at hJ; cases hJ
  refine k₁.run _ ι₁ J _ g.1 ((V.step O I S₁).step O I₁ g.2) x nB fun f s' ι' pf ρ' μ' S' I' V' r' k' => ?_
  have SF : StepF c env s₁ ι₁ s' ι' := StepW.f hJ k S'
  exact hQ f s' ι' pf ρ' μ' (S₁.f.trans SF) I' V' r' k'⟩
end
end Mine
namespace Mine
section
variable {c : Cx} {A : Around} {env : Env} {ρ : Rho} {μ : Mu}

theorem WV.of1 {f : Value → Sem Value} {p : PV} {K : PV → Mu → Prop}
    (h : ∀ (s : Shared) (ι : Iota) (E Q : Value → Shared → Prop) (v : Value), Inv c s ι μ → RepV s.heap ι p v → (∀ v s' ι' p μ', Step c s ι s' ι' → Inv c s' ι' μ' → RepV s'.heap ι' p v → K p μ' → Q v s') → wpAny (model c.prog c.w) A (f v) Q E s) :
    WV c A (f1 f) [p] μ K := ⟨fun s ι E Q vs I r hQ => by
  simp only [RepL] at r
  obtain ⟨v, _, rfl, r1, rfl⟩ := r
  exact h s ι E Q v I r1 hQ⟩
theorem WV.of2 {f : Value → Value → Sem Value} {p q : PV} {K : PV → Mu → Prop}
    (h : ∀ (s : Shared) (ι : Iota) (E Q : Value → Shared → Prop) (v w : Value), Inv c s ι μ → RepV s.heap ι p v → RepV s.heap ι q w → (∀ v s' ι' p μ', Step c s ι s' ι' → Inv c s' ι' μ' → RepV s'.heap ι' p v → K p μ' → Q v s') → wpAny (model c.prog c.w) A (f v w) Q E s) :
    WV c A (f2 f) [p, q] μ K := ⟨fun s ι E Q vs I r hQ => by
  simp only [RepL] at r
  obtain ⟨v, _, rfl, r1, w, _, rfl, r2, rfl⟩ := r
  exact h s ι E Q v w I r1 r2 hQ⟩

/-- upon two ints, an int -/
theorem WV.ii {f : Value → Value → Sem Value} {a b r : Int} {K : PV → Mu → Prop} (O : c.Ok)
    (h : ∀ (s : Shared) (t u : Tok) (E Q : Value → Shared → Prop), Q (.int r s.toks) { s with toks := s.toks + 1 } → wpAny (model c.prog c.w) A (f (.int a t) (.int b u)) Q E s) (k : K (.int r) μ) : WV c A (f2 f) [.int a, .int b] μ K :=
  WV.of2 fun s ι E Q v w I r1 r2 hQ => by
    simp only [RepV] at r1 r2
    obtain ⟨t, rfl⟩ := r1
    obtain ⟨u, rfl⟩ := r2
    have g := toks_inv O I (s.toks + 1)
    exact h s t u E Q (hQ _ _ ι (.int r) μ g.2 g.1 (by simp only [RepV]; exact ⟨_, rfl⟩) k)
theorem WV.add_int {a b : Int} {K : PV → Mu → Prop} (O : c.Ok) (k : K (.int (a + b)) μ) : WV c A (f2 (binaryOp .Add)) [.int a, .int b] μ K := WV.ii O (fun s t u E Q h => PyProof.Rows.add_int h) k
theorem WV.sub_int {a b : Int} {K : PV → Mu → Prop} (O : c.Ok) (k : K (.int (a - b)) μ) : WV c A (f2 (binaryOp .Sub)) [.int a, .int b] μ K := WV.ii O (fun s t u E Q h => PyProof.Rows.sub_int h) k
theorem WV.mul_int {a b : Int} {K : PV → Mu → Prop} (O : c.Ok) (hb : -(2 ^ 64) < a ∧ a < 2 ^ 64) (k : K (.int (a * b)) μ) : WV c A (f2 (binaryOp .Mult)) [.int a, .int b] μ K := WV.ii O (fun s t u E Q h => PyProof.Rows.mul_int h (IntMulOk.of_left (intBits_le_64 hb.1 hb.2))) k
theorem WV.mod_int {a b : Int} {K : PV → Mu → Prop} (O : c.Ok) (hb : b ≠ 0) (k : K (.int (a.fmod b)) μ) : WV c A (f2 (binaryOp .Mod)) [.int a, .int b] μ K := WV.ii O (fun s t u E Q h => PyProof.Rows.mod_int' hb h) k
theorem WV.pow_int {a b : Int} {K : PV → Mu → Prop} (O : c.Ok) (hb : 0 ≤ b ∧ b ≤ 1000000 ∧ a.natAbs < 2 ^ 64) (k : K (.int (a ^ b.toNat)) μ) : WV c A (f2 (binaryOp .Pow)) [.int a, .int b] μ K := WV.ii O (fun s t u E Q h => PyProof.Rows.pow_int_small hb.1 hb.2.1 hb.2.2 h) k
theorem WV.iadd_int {a b : Int} {K : PV → Mu → Prop} (O : c.Ok) (k : K (.int (a + b)) μ) : WV c A (f2 (inplaceOp .Add)) [.int a, .int b] μ K := WV.ii O (fun s t u E Q h => PyProof.Rows.iadd_int h) k
theorem WV.isub_int {a b : Int} {K : PV → Mu → Prop} (O : c.Ok) (k : K (.int (a - b)) μ) : WV c A (f2 (inplaceOp .Sub)) [.int a, .int b] μ K := WV.ii O (fun s t u E Q h => PyProof.Rows.isub_int h) k
theorem WV.neg_int {a : Int} {K : PV → Mu → Prop} (O : c.Ok) (k : K (.int (-a)) μ) : WV c A (f1 (unaryOp .USub)) [.int a] μ K := WV.of1 fun s ι E Q v I r1 hQ => by
  simp only [RepV] at r1
  obtain ⟨t, rfl⟩ := r1
  have g := toks_inv O I (s.toks + 1)
  exact PyProof.Rows.neg_int (hQ _ _ ι (.int (-a)) μ g.2 g.1 (by simp only [RepV]; exact ⟨_, rfl⟩) k)

/-- a bool of two values, nothing turned -/
theorem WV.cmp {f : Value → Value → Sem Value} {p q : PV} {b : Bool} {K : PV → Mu → Prop}
    (h : ∀ (s : Shared) (ι : Iota) (v w : Value) (E Q : Value → Shared → Prop), RepV s.heap ι p v → RepV s.heap ι q w → Q (.bool b) s → wpAny (model c.prog c.w) A (f v w) Q E s) (k : K (.bool b) μ) : WV c A (f2 f) [p, q] μ K :=
  WV.of2 fun s ι E Q v w I r1 r2 hQ => h s ι v w E Q r1 r2 (hQ _ _ ι (.bool b) μ (Step.refl ..) I (by simp only [RepV]) k)
theorem WV.cii {f : Value → Value → Sem Value} {a b : Int} {r : Bool} {K : PV → Mu → Prop}
    (h : ∀ (s : Shared) (t u : Tok) (E Q : Value → Shared → Prop), Q (.bool r) s → wpAny (model c.prog c.w) A (f (.int a t) (.int b u)) Q E s) (k : K (.bool r) μ) : WV c A (f2 f) [.int a, .int b] μ K :=
  WV.cmp (fun s ι v w E Q r1 r2 hq => by
    simp only [RepV] at r1 r2
    obtain ⟨t, rfl⟩ := r1
    obtain ⟨u, rfl⟩ := r2
    exact h s t u E Q hq) k
theorem WV.eq_int {a b : Int} {K : PV → Mu → Prop} (k : K (.bool (a == b)) μ) : WV c A (f2 (compareOp .Eq)) [.int a, .int b] μ K := WV.cii (fun s t u E Q h => PyProof.Rows.eq_int h) k
theorem WV.ne_int {a b : Int} {K : PV → Mu → Prop} (k : K (.bool (a != b)) μ) : WV c A (f2 (compareOp .NotEq)) [.int a, .int b] μ K := WV.cii (fun s t u E Q h => PyProof.Rows.ne_int h) k
theorem WV.lt_int {a b : Int} {K : PV → Mu → Prop} (k : K (.bool (decide (a < b))) μ) : WV c A (f2 (compareOp .Lt)) [.int a, .int b] μ K := WV.cii (fun s t u E Q h => PyProof.Rows.lt_int h) k
theorem WV.le_int {a b : Int} {K : PV → Mu → Prop} (k : K (.bool (decide (a ≤ b))) μ) : WV c A (f2 (compareOp .LtE)) [.int a, .int b] μ K := WV.cii (fun s t u E Q h => PyProof.Rows.le_int h) k
theorem WV.gt_int {a b : Int} {K : PV → Mu → Prop} (k : K (.bool (decide (b < a))) μ) : WV c A (f2 (compareOp .Gt)) [.int a, .int b] μ K := WV.cii (fun s t u E Q h => PyProof.Rows.gt_int h) k
theorem WV.ge_int {a b : Int} {K : PV → Mu → Prop} (k : K (.bool (decide (b ≤ a))) μ) : WV c A (f2 (compareOp .GtE)) [.int a, .int b] μ K := WV.cii (fun s t u E Q h => PyProof.Rows.ge_int h) k

theorem WV.css {f : Value → Value → Sem Value} {a b : Str} {r : Bool} {K : PV → Mu → Prop}
    (h : ∀ (s : Shared) (t u : Tok) (E Q : Value → Shared → Prop), Q (.bool r) s → wpAny (model c.prog c.w) A (f (.str a t) (.str b u)) Q E s) (k : K (.bool r) μ) : WV c A (f2 f) [.str a, .str b] μ K :=
  WV.cmp (fun s ι v w E Q r1 r2 hq => by
    simp only [RepV] at r1 r2
    obtain ⟨t, rfl⟩ := r1
    obtain ⟨u, rfl⟩ := r2
    exact h s t u E Q hq) k
/-- y in x -/
def inB (y x : Str) : Bool := !(Builtin.Str.occurrences x y 0 x.length 1).isEmpty
theorem WV.eq_str {a b : Str} {K : PV → Mu → Prop} (k : K (.bool (a == b)) μ) : WV c A (f2 (compareOp .Eq)) [.str a, .str b] μ K := WV.css (fun s t u E Q h => PyProof.Rows.eq_str h) k
theorem WV.ne_str {a b : Str} {K : PV → Mu → Prop} (k : K (.bool (a != b)) μ) : WV c A (f2 (compareOp .NotEq)) [.str a, .str b] μ K := WV.css (fun s t u E Q h => PyProof.Rows.ne_str h) k
theorem WV.in_str {a b : Str} {K : PV → Mu → Prop} (k : K (.bool (inB a b)) μ) : WV c A (f2 (compareOp .In)) [.str a, .str b] μ K := WV.css (fun s t u E Q h => PyProof.Rows.in_str h) k
theorem WV.notin_str {a b : Str} {K : PV → Mu → Prop} (k : K (.bool (!inB a b)) μ) : WV c A (f2 (compareOp .NotIn)) [.str a, .str b] μ K := WV.css (fun s t u E Q h => PyProof.Rows.notIn_str h) k
theorem WV.isnot_bool {a b : Bool} {K : PV → Mu → Prop} (k : K (.bool (a != b)) μ) : WV c A (f2 (compareOp .IsNot)) [.bool a, .bool b] μ K :=
  WV.cmp (fun s ι v w E Q r1 r2 hq => by simp only [RepV] at r1 r2; subst r1 r2; exact PyProof.Rows.isnot_bool hq) k
theorem WV.cff {f : Value → Value → Sem Value} {a b : UInt64} {r : Bool} {K : PV → Mu → Prop}
    (h : ∀ (s : Shared) (t u : Tok) (E Q : Value → Shared → Prop), Q (.bool r) s → wpAny (model c.prog c.w) A (f (.float a t) (.float b u)) Q E s) (k : K (.bool r) μ) : WV c A (f2 f) [.flt a, .flt b] μ K :=
  WV.cmp (fun s ι v w E Q r1 r2 hq => by
    simp only [RepV] at r1 r2
    obtain ⟨t, rfl, _⟩ := r1
    obtain ⟨u, rfl, _⟩ := r2
    exact h s t u E Q hq) k
theorem WV.eq_flt {a b : UInt64} {K : PV → Mu → Prop} (k : K (.bool (Float64.cmp a b == some .eq)) μ) : WV c A (f2 (compareOp .Eq)) [.flt a, .flt b] μ K := WV.cff (fun s t u E Q h => PySem.AutoFloatOps.eq_0 h) k
theorem WV.gt_fi {a : UInt64} {n : Int} {K : PV → Mu → Prop} (k : K (.bool (Float64.cmpInt a n == some .gt)) μ) : WV c A (f2 (compareOp .Gt)) [.flt a, .int n] μ K :=
  WV.cmp (fun s ι v w E Q r1 r2 hq => by
    simp only [RepV] at r1 r2
    obtain ⟨t, rfl, _⟩ := r1
    obtain ⟨u, rfl⟩ := r2
    exact PyProof.Rows.gt_fi hq) k

theorem WV.add_str {a b : Str} {K : PV → Mu → Prop} (O : c.Ok) (hb : a.length ≤ 1000000 ∧ b.length ≤ 1000000) (k : K (.str (a ++ b)) μ) : WV c A (f2 (binaryOp .Add)) [.str a, .str b] μ K :=
  WV.of2 fun s ι E Q v w I r1 r2 hQ => by
    simp only [RepV] at r1 r2
    obtain ⟨t, rfl⟩ := r1
    obtain ⟨u, rfl⟩ := r2
    refine wpAny_with_toks (Nat.le_refl s.toks) (PyProof.Rows.add_str (fun t' tk htk => ?_) (by rw [sizeLine_eq]; omega))
    have g := toks_inv O I tk (Nat.lt_of_lt_of_le I.tp htk)
    exact hQ _ _ ι (.str (a ++ b)) μ g.2 g.1 (by simp only [RepV]; exact ⟨_, rfl⟩) k
theorem WV.mul_str {a : Str} {n : Int} {K : PV → Mu → Prop} (O : c.Ok) (hb : a.length ≤ 1000000 ∧ 1 ≤ n ∧ n ≤ 10) (k : K (.str (Txt.mul a n)) μ) : WV c A (f2 (binaryOp .Mult)) [.str a, .int n] μ K :=
  WV.of2 fun s ι E Q v w I r1 r2 hQ => by
    simp only [RepV] at r1 r2
    obtain ⟨t, rfl⟩ := r1
    obtain ⟨u, rfl⟩ := r2
    refine wpAny_with_toks (Nat.le_refl s.toks) (SB.mul ⟨?_, fun _ _ => ?_, fun _ _ => ?_⟩ (fun t' tk htk => ?_))
    · simp only [Bool.or_eq_false_iff, decide_eq_false_iff_not]; omega
    · obtain ⟨h1, h2, h3⟩ := hb
      have h4 : n = 1 ∨ n = 2 ∨ n = 3 ∨ n = 4 ∨ n = 5 ∨ n = 6 ∨ n = 7 ∨ n = 8 ∨ n = 9 ∨ n = 10 := by omega
      rcases h4 with h | h | h | h | h | h | h | h | h | h <;> subst h <;> omega
    · unfold Builtin.Str.tooLong
      rw [decide_eq_false_iff_not]
      have h5 : a.length * n.toNat ≤ 1000000 * 10 := Nat.mul_le_mul hb.1 (by omega)
      rw [sizeLine_eq]
      omega
    · have g := toks_inv O I tk (Nat.lt_of_lt_of_le I.tp htk)
      exact hQ _ _ ι (.str (Txt.mul a n)) μ g.2 g.1 (by simp only [RepV]; exact ⟨_, rfl⟩) k
end
end Mine
namespace Mine
section
variable {c : Cx} {A : Around} {env : Env} {ρ : Rho} {μ : Mu}

theorem WV.div_int {a b : Int} {K : PV → Mu → Prop} (O : c.Ok) (hb : b ≠ 0 ∧ b.natAbs < 2 ^ 64) (k : K (.int (a.fdiv b)) μ) : WV c A (f2 (binaryOp .FloorDiv)) [.int a, .int b] μ K :=
  WV.ii O (fun s t u E Q h => PyProof.Rows.floordiv_int hb.1 h (.inl (PyProof.noPylong_of_log2 (by
    have h1 : b.natAbs ≠ 0 := by have := hb.1; omega
    have h2 : b.natAbs.log2 < 64 := (Nat.log2_lt h1).mpr hb.2
    omega)))) k
theorem WV.ff {f : Value → Value → Sem Value} {a b r : UInt64} {K : PV → Mu → Prop} (O : c.Ok)
    (h : ∀ (s : Shared) (t u : Tok) (E Q : Value → Shared → Prop), Q (.float r s.toks) { s with toks := s.toks + 1 } → wpAny (model c.prog c.w) A (f (.float a t) (.float b u)) Q E s) (k : K (.flt r) μ) : WV c A (f2 f) [.flt a, .flt b] μ K :=
  WV.of2 fun s ι E Q v w I r1 r2 hQ => by
    simp only [RepV] at r1 r2
    obtain ⟨t, rfl, _⟩ := r1
    obtain ⟨u, rfl, _⟩ := r2
    have g := toks_inv O I (s.toks + 1)
    exact h s t u E Q (hQ _ _ ι (.flt r) μ g.2 g.1 (by simp only [RepV]; exact ⟨_, rfl, Nat.pos_iff_ne_zero.mp I.tp⟩) k)
theorem WV.add_flt {a b : UInt64} {K : PV → Mu → Prop} (O : c.Ok) (k : K (.flt (Float64.add a b)) μ) : WV c A (f2 (binaryOp .Add)) [.flt a, .flt b] μ K := WV.ff O (fun s t u E Q h => PyProof.Rows.add_float h) k
theorem WV.sub_flt {a b : UInt64} {K : PV → Mu → Prop} (O : c.Ok) (k : K (.flt (Float64.sub a b)) μ) : WV c A (f2 (binaryOp .Sub)) [.flt a, .flt b] μ K := WV.ff O (fun s t u E Q h => PyProof.Rows.sub_float h) k
theorem WV.mul_flt {a b : UInt64} {K : PV → Mu → Prop} (O : c.Ok) (k : K (.flt (Float64.mul a b)) μ) : WV c A (f2 (binaryOp .Mult)) [.flt a, .flt b] μ K := WV.ff O (fun s t u E Q h => PyProof.Rows.mul_float h) k
theorem WV.div_flt {a b : UInt64} {K : PV → Mu → Prop} (O : c.Ok) (hb : ¬Float64.isZero b = true) (k : K (.flt (Float64.div a b)) μ) : WV c A (f2 (binaryOp .Div)) [.flt a, .flt b] μ K := WV.ff O (fun s t u E Q h => PySem.AutoFloatOps.truediv_1 hb h) k
theorem WV.mod_flt {a b : UInt64} {K : PV → Mu → Prop} (O : c.Ok) (hb : ¬Float64.isZero b = true) (k : K (.flt (Float64.divmod a b).2) μ) : WV c A (f2 (binaryOp .Mod)) [.flt a, .flt b] μ K := WV.ff O (fun s t u E Q h => PySem.AutoFloatOps.mod_1 hb h) k
theorem WV.sub_fi {a : UInt64} {n : Int} {K : PV → Mu → Prop} (O : c.Ok) (hb : n.natAbs < 2 ^ 1023) (k : K (.flt (Float64.sub a (Float64.ofInt n))) μ) : WV c A (f2 (binaryOp .Sub)) [.flt a, .int n] μ K :=
  WV.of2 fun s ι E Q v w I r1 r2 hQ => by
    simp only [RepV] at r1 r2
    obtain ⟨t, rfl, _⟩ := r1
    obtain ⟨u, rfl⟩ := r2
    have g := toks_inv O I (s.toks + 1)
    exact PyProof.Rows.sub_fi_fits hb (hQ _ _ ι (.flt _) μ g.2 g.1 (by simp only [RepV]; exact ⟨_, rfl, Nat.pos_iff_ne_zero.mp I.tp⟩) k)
theorem WV.mul_if {a : UInt64} {n : Int} {K : PV → Mu → Prop} (O : c.Ok) (hb : n.natAbs < 2 ^ 1023) (k : K (.flt (Float64.mul (Float64.ofInt n) a)) μ) : WV c A (f2 (binaryOp .Mult)) [.int n, .flt a] μ K :=
  WV.of2 fun s ι E Q v w I r1 r2 hQ => by
    simp only [RepV] at r1 r2
    obtain ⟨t, rfl⟩ := r1
    obtain ⟨u, rfl, _⟩ := r2
    have g := toks_inv O I (s.toks + 1)
    exact PyProof.Rows.mul_if_fits hb (hQ _ _ ι (.flt _) μ g.2 g.1 (by simp only [RepV]; exact ⟨_, rfl, Nat.pos_iff_ne_zero.mp I.tp⟩) k)
/-- a / b of two ints -/
def fdiv (a b : Int) : UInt64 := Float64.ofFrac (decide (a < 0) != decide (b < 0)) a.natAbs b.natAbs
theorem WV.tdiv_int {a b : Int} {K : PV → Mu → Prop} (O : c.Ok) (ha : A.handled = none) (hb : a.natAbs < 2 ^ 1023 ∧ b ≠ 0) (k : K (.flt (fdiv a b)) μ) : WV c A (f2 (binaryOp .Div)) [.int a, .int b] μ K :=
  WV.of2 fun s ι E Q v w I r1 r2 hQ => by
    simp only [RepV] at r1 r2
    obtain ⟨t, rfl⟩ := r1
    obtain ⟨u, rfl⟩ := r2
    have g := toks_inv O I (s.toks + 1)
    exact PySem.Flt.div_ii_fits ha hb.1 (fun h => absurd h hb.2) (fun _ _ => hQ _ _ ι (.flt _) μ g.2 g.1 (by simp only [RepV]; exact ⟨_, rfl, Nat.pos_iff_ne_zero.mp I.tp⟩) k)

/-- two lists, one behind the other -/
theorem RepL.append {h : Heap} {ι : Iota} : ∀ (ps qs : List PV) (vs ws : List Value), RepL h ι ps vs → RepL h ι qs ws → RepL h ι (ps ++ qs) (vs ++ ws)
  | [], qs, vs, ws, r, r' => by simp only [RepL] at r; subst r; exact r'
  | p :: ps, qs, vs, ws, r, r' => by
    simp only [RepL] at r
    obtain ⟨v, r0, rfl, h1, h2⟩ := r
    simp only [List.cons_append, RepL]
    exact ⟨_, _, rfl, h1, RepL.append ps qs r0 ws h2 r'⟩
theorem Inv.lst {c : Cx} {s : Shared} {ι : Iota} {μ : Mu} (I : Inv c s ι μ) {i : Nat} {ps : List PV} (hm : μ[i]? = some (.lst ps)) {v : Value} (r : RepV s.heap ι (.loc i) v) :
    ∃ a vs n, v = .ref a ∧ ι[i]? = some a ∧ s.heap.get? a = some (lstOf vs n) ∧ RepL s.heap ι ps vs := by
  simp only [RepV] at r
  obtain ⟨a, rfl, ha⟩ := r
  obtain ⟨vs, n, e, rl⟩ := I.mo i a _ ha hm
  exact ⟨a, vs, n, rfl, ha, e, rl⟩
theorem WV.add_lst {i j : Nat} {ps qs : List PV} {K : PV → Mu → Prop} (O : c.Ok) (hi : μ[i]? = some (.lst ps)) (hj : μ[j]? = some (.lst qs)) (hb : ps.length ≤ 1000000 ∧ qs.length ≤ 1000000) (k : K (.loc μ.length) (μ ++ [.lst (ps ++ qs)])) :
    WV c A (f2 (binaryOp .Add)) [.loc i, .loc j] μ K := WV.of2 fun s ι E Q v w I r1 r2 hQ => by
  obtain ⟨a, vs, n, rfl, ha, ea, ra⟩ := I.lst hi r1
  obtain ⟨b, ws, m, rfl, hb', eb, rb⟩ := I.lst hj r2
  have t := lst_new O I (RepL.append ps qs vs ws ra rb) (h' := s.heap.push (lstOf (vs ++ ws) 0)) (D := s.heap.objs.size) (n := 0) (tk := s.toks) (fresh_size _) (Heap.get?_push_size _ rfl) (fun b o e => Heap.get?_push_of_some _ e) I.tp
  refine PySem.P.add_list (items := vs.toArray) (items2 := ws.toArray) (n := n) (n2 := m) ea eb ?_ ?_
  · have := hQ _ _ _ _ _ t.1 t.2.1 t.2.2 k
    simpa [lstOf] using this
  · have h1 := RepL.length ps vs ra
    have h2 := RepL.length qs ws rb
    rw [sizeLine_eq]
    simp only [List.size_toArray]
    omega

/- ---- tests ---- -/
theorem WB.cmp1 {l r : Expr} {op : CmpOp} {pos : Pos} {K : Bool → Mu → Prop} (O : c.Ok)
    (h : WE c A l env ρ μ fun p μ₁ => WE c A r env ρ μ₁ fun q μ₂ => WV c A (f2 (compareOp op)) [p, q] μ₂ fun x μ₃ => ∃ b, x = .bool b ∧ K b μ₃) (hb : behindInMarks op r = false) : WB c A (.Compare l [op] [r] pos) env ρ μ K := ⟨fun s ι E Q I V hQ => by
  refine wpAny_isTrue_Compare1 (h.run s ι E _ I V fun a s₁ ι₁ p μ₁ S₁ I₁ r₁ k₁ => ?_) hb
  refine k₁.run s₁ ι₁ E _ I₁ (V.step O I S₁) fun b s₂ ι₂ q μ₂ S₂ I₂ r₂ k₂ => ?_
  refine k₂.run s₂ ι₂ E _ [a, b] I₂ (by simp only [RepL]; exact ⟨_, _, rfl, I₁.rep O S₂ r₁, _, _, rfl, r₂, rfl⟩) fun v s₃ ι₃ x μ₃ S₃ I₃ r₃ k₃ => ?_
  obtain ⟨b', rfl, k₃⟩ := k₃
  simp only [RepV] at r₃
  subst r₃
  exact wpAny_truthy_bool (hQ b' s₃ ι₃ μ₃ ((S₁.trans S₂).trans S₃) I₃ k₃)⟩
/-- all of them (and), or one of them (or) -/
structure WAll (c : Cx) (A : Around) (op : BoolOp) (es : List Expr) (env : Env) (ρ : Rho) (μ : Mu) (K : Bool → Mu → Prop) : Prop where
  run : ∀ (s : Shared) (ι : Iota) (E : Value → Shared → Prop) (Q : Bool → Shared → Prop), Inv c s ι μ → EnvOk c env ρ s ι →
    (∀ b s' ι' μ', Step c s ι s' ι' → Inv c s' ι' μ' → K b μ' → Q b s') → wpAny (model c.prog c.w) A (allTrue op es env) Q E s
theorem WB.boolop {op : BoolOp} {es : List Expr} {pos : Pos} {K : Bool → Mu → Prop} (h : WAll c A op es env ρ μ K) : WB c A (.BoolOp op es pos) env ρ μ K := ⟨fun s ι E Q I V hQ =>
  wpAny_isTrue_BoolOp (h.run s ι E Q I V hQ)⟩
theorem WAll.or_nil {K : Bool → Mu → Prop} (h : K false μ) : WAll c A .Or [] env ρ μ K := ⟨fun s ι E Q I V hQ => wpAny_allTrue_Or_nil (hQ _ s ι μ (Step.refl ..) I h)⟩
theorem WAll.or {e : Expr} {es : List Expr} {K : Bool → Mu → Prop} (O : c.Ok) (h : WB c A e env ρ μ fun b μ₁ => if b = true then K true μ₁ else WAll c A .Or es env ρ μ₁ K) : WAll c A .Or (e :: es) env ρ μ K := ⟨fun s ι E Q I V hQ => by
  refine wpAny_allTrue_Or_cons (h.run s ι E _ I V fun b s₁ ι₁ μ₁ S₁ I₁ k₁ => ?_)
  cases b with
  | true => exact hQ _ s₁ ι₁ μ₁ S₁ I₁ k₁
  | false => exact WAll.run k₁ s₁ ι₁ E Q I₁ (V.step O I S₁) fun b s₂ ι₂ μ₂ S₂ I₂ k₂ => hQ b s₂ ι₂ μ₂ (S₁.trans S₂) I₂ k₂⟩
/-- what a value is taken for -/
inductive TruthIs : PV → Bool → Prop
  | bool (b : Bool) : TruthIs (.bool b) b
  | int (i : Int) : TruthIs (.int i) (i != 0)
  | str (x : Str) : x.length ≤ 1000000000 → TruthIs (.str x) ((x.length : Int) != 0)
theorem truth_run (O : c.Ok) {p : PV} {b : Bool} {s : Shared} {ι : Iota} {E : Value → Shared → Prop} {Q : Bool → Shared → Prop} {v : Value} (I : Inv c s ι μ) (r : RepV s.heap ι p v) (t : TruthIs p b)
    (h : ∀ s', Step c s ι s' ι → Inv c s' ι μ → Q b s') : wpAny (model c.prog c.w) A (truthy v) Q E s := by
  cases t with
  | bool b => simp only [RepV] at r; subst r; exact wpAny_truthy_bool (h _ (Step.refl ..) I)
  | int i => simp only [RepV] at r; obtain ⟨t, rfl⟩ := r; exact PyProof.Rows.truthy_int (h _ (Step.refl ..) I)
  | str x hx =>
    simp only [RepV] at r; obtain ⟨t, rfl⟩ := r
    have g := toks_inv O I (s.toks + 1 + 1)
    refine PySem.P.truthy_str (by omega) (h _ g.2 g.1)
abbrev plainTest (e : Expr) (env : Env) : Prop := ∀ whole, isTrue e env whole = (do let v ← whole; standAt e.pos; holding [v] (truthy v))
theorem WB.value {e : Expr} {K : Bool → Mu → Prop} (O : c.Ok) (h : WE c A e env ρ μ fun p μ₁ => ∃ b, TruthIs p b ∧ K b μ₁) (hp : plainTest e env) : WB c A e env ρ μ K := ⟨fun s ι E Q I V hQ => by
  refine wpAny_isTrue_value (h.run s ι E _ I V fun v s₁ ι₁ p μ₁ S₁ I₁ r₁ k₁ => ?_) (hp _)
  obtain ⟨b, t, k₁⟩ := k₁
  exact truth_run O I₁ r₁ t fun s' S I' => hQ b s' ι₁ μ₁ (S₁.trans S) I' k₁⟩

/- ---- and / or as a value ---- -/
theorem WE.bool_one {op : BoolOp} {e : Expr} {pos : Pos} {K : PV → Mu → Prop} (h : WE c A e env ρ μ K) : WE c A (.BoolOp op [e] pos) env ρ μ K := ⟨fun s ι E Q I V hQ => PyProof.Rows.BoolOp_one (h.run s ι E Q I V hQ)⟩
theorem WE.and {e₁ e₂ : Expr} {es : List Expr} {pos : Pos} {K : PV → Mu → Prop} (O : c.Ok) (h : WE c A e₁ env ρ μ fun p μ₁ => ∃ b, TruthIs p b ∧ (if b = true then WE c A (.BoolOp .And (e₂ :: es) pos) env ρ μ₁ K else K p μ₁)) : WE c A (.BoolOp .And (e₁ :: e₂ :: es) pos) env ρ μ K := ⟨fun s ι E Q I V hQ => by
  refine PyProof.Rows.BoolOp_and (h.run s ι E _ I V fun v s₁ ι₁ p μ₁ S₁ I₁ r₁ k₁ => ?_)
  obtain ⟨b, t, k₁⟩ := k₁
  refine truth_run O I₁ r₁ t fun s' S I' => ?_
  cases b with
  | true => exact WE.run k₁ s' ι₁ E Q I' (V.step O I (S₁.trans S)) fun v s₂ ι₂ q μ₂ S₂ I₂ r₂ k₂ => hQ v s₂ ι₂ q μ₂ ((S₁.trans S).trans S₂) I₂ r₂ k₂
  | false => exact hQ v s' ι₁ p μ₁ (S₁.trans S) I' (I₁.rep O S r₁) k₁⟩
end
end Mine
namespace Mine

def eqPs (f : PV → PV → Option Bool) : List PV → List PV → Option Bool
  | [], [] => some true
  | [], _ :: _ => some false
  | _ :: _, [] => some false
  | p :: ps, q :: qs => match f p q, eqPs f ps qs with
    | some a, some b => some (a && b)
    | _, _ => none
/-- p == q, n deep; none: not of the kinds that are told here -/
def eqP (μ : Mu) : Nat → PV → PV → Option Bool
  | _, .none, .none => some true
  | _, .bool a, .bool b => some (a == b)
  | _, .int a, .int b => some (a == b)
  | _, .str a, .str b => some (a == b)
  | _, .flt a, .flt b => if (Float64.cmp a b == some .eq) = true then some true else none
  | n + 1, .tup ps, .tup qs => eqPs (eqP μ n) ps qs
  | n + 1, .loc i, .loc j => match μ[i]?, μ[j]? with
    | some (.lst ps), some (.lst qs) => eqPs (eqP μ n) ps qs
    | _, _ => none
  | _, _, _ => none

theorem eqPs_self {f : PV → PV → Option Bool} {h : Heap} {ι : Iota} (hf : ∀ p q v b, RepV h ι p v → RepV h ι q v → f p q = some b → b = true) : ∀ (ps qs : List PV) (vs : List Value) (b : Bool), RepL h ι ps vs → RepL h ι qs vs → eqPs f ps qs = some b → b = true
  | [], [], vs, b, _, _, e => by simp only [eqPs, Option.some.injEq] at e; exact e.symm
  | [], q :: qs, vs, b, r1, r2, e => by
    simp only [RepL] at r1 r2
    obtain ⟨_, _, h, _⟩ := r2
    subst r1; cases h
  | p :: ps, [], vs, b, r1, r2, e => by
    simp only [RepL] at r1 r2
    obtain ⟨_, _, h, _⟩ := r1
    subst r2; cases h
  | p :: ps, q :: qs, vs, b, r1, r2, e => by
    simp only [RepL] at r1 r2
    obtain ⟨v, r, rfl, h1, h2⟩ := r1
    obtain ⟨v', r', h, h3, h4⟩ := r2
    cases h
    unfold eqPs at e
    split at e
    · rename_i a b' ea eb
      cases e
      rw [hf p q v a h1 h3 ea, eqPs_self hf ps qs r b' h2 h4 eb]; rfl
    · cases e

theorem eqP_self {c : Cx} {s : Shared} {ι : Iota} {μ : Mu} (I : Inv c s ι μ) : ∀ (n : Nat) (p q : PV) (v : Value) (b : Bool), RepV s.heap ι p v → RepV s.heap ι q v → eqP μ n p q = some b → b = true := by
  intro n
  induction n with
  | zero =>
    intro p q v b r1 r2 e
    cases p <;> cases q <;> simp only [eqP, reduceCtorEq] at e <;> simp only [RepV] at r1 r2
    case none.none => cases e; rfl
    case bool.bool => subst r1; cases r2; cases e; simp
    case int.int => obtain ⟨t, rfl⟩ := r1; obtain ⟨u, h⟩ := r2; cases h; cases e; simp
    case str.str => obtain ⟨t, rfl⟩ := r1; obtain ⟨u, h⟩ := r2; cases h; cases e; simp
    case flt.flt a a' =>
      split at e
      · cases e; rfl
      · cases e
  | succ n ih =>
    intro p q v b r1 r2 e
    cases p <;> cases q <;> simp only [eqP, reduceCtorEq] at e <;> simp only [RepV] at r1 r2
    case none.none => cases e; rfl
    case bool.bool => subst r1; cases r2; cases e; simp
    case int.int => obtain ⟨t, rfl⟩ := r1; obtain ⟨u, h⟩ := r2; cases h; cases e; simp
    case str.str => obtain ⟨t, rfl⟩ := r1; obtain ⟨u, h⟩ := r2; cases h; cases e; simp
    case flt.flt a a' =>
      split at e
      · cases e; rfl
      · cases e
    case tup.tup ps qs =>
      obtain ⟨a, vs, m, rfl, ea, ra⟩ := r1
      obtain ⟨a', vs', m', h, eb, rb⟩ := r2
      cases h
      rw [ea] at eb
      have : vs = vs' := by injection eb with h; injection h with _ _ h _; injection h with h _; simpa using h
      subst this
      exact eqPs_self ih ps qs vs b ra rb e
    case loc.loc i j =>
      obtain ⟨a, rfl, ha⟩ := r1
      obtain ⟨a', h, hb⟩ := r2
      cases h
      have hij : i = j := by
        have hi := (List.getElem?_eq_some_iff.mp ha).1
        exact (List.getElem?_inj hi I.nodup).mp (ha.trans hb.symm)
      subst hij
      split at e
      · rename_i ps qs h1 h2
        rw [h1] at h2; cases h2
        obtain ⟨vs, m, _, rl⟩ := I.mo i a _ ha h1
        exact eqPs_self ih ps ps vs b rl rl e
      · cases e

/-- the pairs' verdicts -/
abbrev pairE (f : PV → PV → Option Bool) (ps qs : List PV) (j : Nat) : Bool := (f (ps[j]?.getD .none) (qs[j]?.getD .none)).getD true
theorem eqPs_at {f : PV → PV → Option Bool} : ∀ (ps qs : List PV) (b : Bool) (j : Nat) (p q : PV), eqPs f ps qs = some b → ps[j]? = some p → qs[j]? = some q → f p q = some (pairE f ps qs j)
  | p :: ps, q :: qs, b, j, x, y, e, h1, h2 => by
    unfold eqPs at e
    split at e
    · rename_i a b' ea eb
      cases j with
      | zero => simp at h1 h2; subst h1 h2; simp [pairE, ea]
      | succ j => simpa [pairE] using eqPs_at ps qs b' j x y eb (by simpa using h1) (by simpa using h2)
    · cases e
  | [], _, _, _, _, _, _, h1, _ => by simp at h1
  | _ :: _, [], _, _, _, _, _, _, h2 => by simp at h2
theorem eqPs_eq {f : PV → PV → Option Bool} : ∀ (ps qs : List PV) (b : Bool), eqPs f ps qs = some b → ((List.range (min ps.length qs.length)).all (pairE f ps qs) && ps.length == qs.length) = b
  | [], [], b, e => by cases e; rfl
  | [], _ :: _, b, e => by cases e; simp
  | _ :: _, [], b, e => by cases e; simp
  | x :: xs, y :: ys, b, e => by
    unfold eqPs at e
    split at e
    · rename_i a b' ea eb
      cases e
      have ih := eqPs_eq xs ys b' eb
      have e1 : min (x :: xs).length (y :: ys).length = min xs.length ys.length + 1 := by simp only [List.length_cons]; omega
      have e2 : ((x :: xs).length == (y :: ys).length) = (xs.length == ys.length) := by simp
      have e3 : (List.range (min xs.length ys.length + 1)).all (pairE f (x :: xs) (y :: ys)) = (a && (List.range (min xs.length ys.length)).all (pairE f xs ys)) := by
        rw [List.range_succ_eq_map, List.all_cons, List.all_map]
        simp [pairE, Function.comp_def, ea]
      rw [e1, e2, e3, ← ih, Bool.and_assoc]
    · cases e
theorem eqPs_other {f : PV → PV → Option Bool} {ps qs : List PV} {b : Bool} (e : eqPs f ps qs = some b) (h : ps.length ≠ qs.length) : b = false := by
  rw [← eqPs_eq ps qs b e]; simp [h]
theorem eqPs_same {f : PV → PV → Option Bool} {ps qs : List PV} {b : Bool} (e : eqPs f ps qs = some b) (h : ps.length = qs.length) : (List.range ps.length).all (pairE f ps qs) = b := by
  have := eqPs_eq ps qs b e
  rw [← h, Nat.min_self] at this
  simpa using this

section
open SeqAt
variable {A : Around} {s : Shared}
theorem rc_flt (a b : UInt64) (t u : Tok) : RcAt A s (.float a t) (.float b u) (Float64.cmp a b == some .eq) := fun prog w E Q h => PySem.AutoFloatOps.eq_0 h
theorem eq_flt (hb : NoneBooked s.heap) (a b : UInt64) (t u : Tok) (h0 : t ≠ 0 ∧ u ≠ 0) (x : Bool) (h : (if (Float64.cmp a b == some .eq) = true then some true else none) = some x) : EqAt A s (.float a t) (.float b u) x := fun prog w E Q hq => by
  have hx : x = true := by
    split at h
    · cases h; rfl
    · cases h
  have hc : (Float64.cmp a b == some .eq) = true := by
    split at h
    · assumption
    · cases h
  subst hx
  have rc : wpAny (model prog w) A (do truthOfDropped (← richCompare .Eq (.float a t) (.float b u))) Q E s := wpAny_bind (rc_flt a b t u prog w E _ (wpAny_truthy_bool (by rw [hc]; exact hq)))
  unfold eqBool
  refine wpAny_holding ?_
  refine wpAny_ite_split (fun hab => wpAny_bind (wpAny_rule (wpAny_pure hq))) (fun _ => ?_)
  have hs : wpAny (model prog w) A (isSame.created (a == b && !Float64.isNaN a) t u) (fun b' s' => s' = s) E s := by
    unfold isSame.created
    refine wpAny_ite ?_
    split
    · rename_i h; simp at h; exact absurd h (by rintro (h | h); exact h0.1 h; exact h0.2 h)
    refine wpAny_ite ?_
    split
    · exact wpAny_pure rfl
    refine wpAny_ite ?_
    split
    · exact wpAny_pure rfl
    refine wpAny_bind (wpAny_sharingNotTold_none hb ?_)
    first | rw [if_neg Bool.false_ne_true] | simp only [Bool.false_eq_true, if_false]
    refine wpAny_bind (wpAny_sharingNotTold_none hb ?_)
    first | rw [if_neg Bool.false_ne_true] | simp only [Bool.false_eq_true, if_false]
    exact wpAny_bind (wpAny_rule (wpAny_bind (wpAny_askSetting (wpAny_pure rfl))))
  refine wpAny_bind (wpAny_mono hs (fun b' s' e => ?_) fun _ _ h => h)
  subst e
  cases b' with
  | true => exact wpAny_pure hq
  | false => exact rc
end

theorem lst_isList {h : Heap} {a : Addr} {vs : List Value} {n : Nat} (e : h.get? a = some (lstOf vs n)) : h.IsList a vs.toArray := ⟨_, e, rfl, n, rfl⟩
theorem tup_isTuple {h : Heap} {a : Addr} {vs : List Value} {n : Nat} (e : h.get? a = some (tupOf vs n)) : h.IsTuple a vs.toArray := ⟨_, e, rfl, n, rfl⟩

theorem pairs_at {f : PV → PV → Option Bool} {A : Around} {s : Shared} {ι : Iota} {ps qs : List PV} {vs ws : List Value} {b : Bool} (r1 : RepL s.heap ι ps vs) (r2 : RepL s.heap ι qs ws) (e : eqPs f ps qs = some b)
    (hf : ∀ p q v w b, RepV s.heap ι p v → RepV s.heap ι q w → f p q = some b → SeqAt.EqAt A s v w b) (j : Nat) (h1 : j < vs.toArray.size) (h2 : j < ws.toArray.size) : SeqAt.EqAt A s vs.toArray[j] ws.toArray[j] (pairE f ps qs j) := by
  have l1 := RepL.length ps vs r1
  have l2 := RepL.length qs ws r2
  have j1 : j < ps.length := by rw [← l1]; simpa using h1
  have j2 : j < qs.length := by rw [← l2]; simpa using h2
  have g1 : ps[j]? = some ps[j] := List.getElem?_eq_getElem j1
  have g2 : qs[j]? = some qs[j] := List.getElem?_eq_getElem j2
  obtain ⟨v, ev, rv⟩ := (RepL.get ps vs j r1).1 _ g1
  obtain ⟨w, ew, rw'⟩ := (RepL.get qs ws j r2).1 _ g2
  have e1 : vs.toArray[j] = v := by
    have : vs[j]? = some vs.toArray[j] := by simp
    rw [ev] at this; injection this with h; exact h.symm
  have e2 : ws.toArray[j] = w := by
    have : ws[j]? = some ws.toArray[j] := by simp
    rw [ew] at this; injection this with h; exact h.symm
  rw [e1, e2]
  exact hf _ _ _ _ _ rv rw' (eqPs_at ps qs b j _ _ e g1 g2)

theorem Inv.noneBooked {c : Cx} (O : c.Ok) {s : Shared} {ι : Iota} {μ : Mu} (I : Inv c s ι μ) : NoneBooked s.heap := by
  obtain ⟨mc, ⟨o, es, ep, e, r⟩, hk⟩ := O.nb
  exact ⟨mc, ⟨o, es, ep, I.old _ _ e O.sX.1, r⟩, hk⟩
theorem eqP_at {c : Cx} (O : c.Ok) {s : Shared} {ι : Iota} {μ : Mu} (I : Inv c s ι μ) : ∀ (n : Nat) (A : Around) (p q : PV) (v w : Value) (b : Bool), A.units + n < cLine → RepV s.heap ι p v → RepV s.heap ι q w → eqP μ n p q = some b → SeqAt.EqAt A s v w b := by
  intro n
  induction n with
  | zero =>
    intro A p q v w b hu r1 r2 e
    cases p <;> cases q <;> simp only [eqP, reduceCtorEq] at e <;> simp only [RepV] at r1 r2
    case none.none => subst r1 r2; cases e; exact SeqAt.EqAt.same _
    case bool.bool => subst r1 r2; cases e; exact SeqAt.EqAt.bool_bool _ _
    case int.int => obtain ⟨t, rfl⟩ := r1; obtain ⟨u, rfl⟩ := r2; cases e; exact SeqAt.EqAt.int_int _ _ _ _
    case str.str => obtain ⟨t, rfl⟩ := r1; obtain ⟨u, rfl⟩ := r2; cases e; exact SeqAt.EqAt.str_str _ _ _ _
    case flt.flt => obtain ⟨t, rfl, ht⟩ := r1; obtain ⟨u, rfl, hu'⟩ := r2; exact eq_flt (I.noneBooked O) _ _ _ _ ⟨ht, hu'⟩ _ e
  | succ n ih =>
    intro A p q v w b hu r1 r2 e
    cases p <;> cases q <;> simp only [eqP, reduceCtorEq] at e <;> simp only [RepV] at r1 r2
    case none.none => subst r1 r2; cases e; exact SeqAt.EqAt.same _
    case bool.bool => subst r1 r2; cases e; exact SeqAt.EqAt.bool_bool _ _
    case int.int => obtain ⟨t, rfl⟩ := r1; obtain ⟨u, rfl⟩ := r2; cases e; exact SeqAt.EqAt.int_int _ _ _ _
    case str.str => obtain ⟨t, rfl⟩ := r1; obtain ⟨u, rfl⟩ := r2; cases e; exact SeqAt.EqAt.str_str _ _ _ _
    case flt.flt => obtain ⟨t, rfl, ht⟩ := r1; obtain ⟨u, rfl, hu'⟩ := r2; exact eq_flt (I.noneBooked O) _ _ _ _ ⟨ht, hu'⟩ _ e
    case tup.tup ps qs =>
      obtain ⟨a, vs, m, rfl, ea, ra⟩ := r1
      obtain ⟨a', ws, m', rfl, eb, rb⟩ := r2
      by_cases hne : a = a'
      · subst hne
        rw [ea] at eb
        have : vs = ws := by injection eb with h; injection h with _ _ h _; injection h with h _; simpa using h
        subst this
        rw [eqPs_self (fun p q v b => eqP_self I n p q v b) ps qs vs b ra rb e]
        exact SeqAt.EqAt.same _
      · refine SeqAt.EqAt.of_refs hne ?_
        have l1 := RepL.length ps vs ra
        have l2 := RepL.length qs ws rb
        have := SeqAt.RcAt.tuples (A := A) (e := pairE (eqP μ n) ps qs) (tup_isTuple ea) (tup_isTuple eb) (by omega)
          (pairs_at (A := A.in1) ra rb e fun p q v w b r1 r2 e => ih A.in1 p q v w b (by show A.units + 1 + n < cLine; omega) r1 r2 e)
        rw [show vs.toArray.size = ps.length by simp [l1], show ws.toArray.size = qs.length by simp [l2], eqPs_eq ps qs b e] at this
        exact this
    case loc.loc i j =>
      split at e
      · rename_i ps qs h1 h2
        obtain ⟨a, vs, m, rfl, ha, ea, ra⟩ := I.lst h1 (by simpa only [RepV] using r1)
        obtain ⟨a', ws, m', rfl, hb, eb, rb⟩ := I.lst h2 (by simpa only [RepV] using r2)
        by_cases hne : a = a'
        · subst hne
          rw [ea] at eb
          have : vs = ws := by injection eb with h; injection h with _ _ h _; injection h with h _; simpa using h
          subst this
          rw [eqPs_self (fun p q v b => eqP_self I n p q v b) ps qs vs b ra rb e]
          exact SeqAt.EqAt.same _
        · refine SeqAt.EqAt.of_refs hne ?_
          have l1 := RepL.length ps vs ra
          have l2 := RepL.length qs ws rb
          by_cases hl : ps.length = qs.length
          · have := SeqAt.RcAt.lists (A := A) (e := pairE (eqP μ n) ps qs) (lst_isList ea) (lst_isList eb) (by simp [l1, l2, hl]) (by omega)
              (pairs_at (A := A.in1) ra rb e fun p q v w b r1 r2 e => ih A.in1 p q v w b (by show A.units + 1 + n < cLine; omega) r1 r2 e)
            rw [show vs.toArray.size = ps.length by simp [l1], eqPs_same e hl] at this
            exact this
          · rw [eqPs_other e hl]
            exact SeqAt.RcAt.lists_lengths (lst_isList ea) (lst_isList eb) (by simp [l1, l2, hl]) (by omega)
      · cases e

section
variable {c : Cx} {A : Around} {env : Env} {ρ : Rho} {μ : Mu}
theorem WV.ne_lst {i j : Nat} {ps qs : List PV} {b : Bool} {K : PV → Mu → Prop} (O : c.Ok) (a : AOk 1 A) (hi : μ[i]? = some (.lst ps)) (hj : μ[j]? = some (.lst qs)) (e : eqPs (eqP μ 8) ps qs = some b) (k : K (.bool (!b)) μ) : WV c A (f2 (compareOp .NotEq)) [.loc i, .loc j] μ K :=
  WV.of2 fun s ι E Q v w I r1 r2 hQ => by
    obtain ⟨x, vs, m, rfl, ha, ea, ra⟩ := I.lst hi r1
    obtain ⟨y, ws, m', rfl, hb, eb, rb⟩ := I.lst hj r2
    have l1 := RepL.length ps vs ra
    have l2 := RepL.length qs ws rb
    have hu := a.u
    have hq := hQ (.bool (!b)) s ι (.bool (!b)) μ (Step.refl ..) I (by simp only [RepV]) k
    by_cases hl : ps.length = qs.length
    · have := SeqAt.RcNeAt.lists (A := A) (e := pairE (eqP μ 8) ps qs) (lst_isList ea) (lst_isList eb) (by simp [l1, l2, hl]) (by unfold cLine; omega)
        (pairs_at (A := A.in1) ra rb e fun p q v w b r1 r2 e => eqP_at O I 8 A.in1 p q v w b (by show A.units + 1 + 8 < 9900; omega) r1 r2 e)
      rw [show vs.toArray.size = ps.length by simp [l1], eqPs_same e hl] at this
      exact this c.prog c.w E Q hq
    · rw [eqPs_other e hl] at hq
      exact SeqAt.RcNeAt.lists_lengths (lst_isList ea) (lst_isList eb) (by simp [l1, l2, hl]) (by unfold cLine; omega) c.prog c.w E Q hq
theorem WV.ne_tup {ps qs : List PV} {b : Bool} {K : PV → Mu → Prop} (O : c.Ok) (a : AOk 1 A) (e : eqPs (eqP μ 8) ps qs = some b) (k : K (.bool (!b)) μ) : WV c A (f2 (compareOp .NotEq)) [.tup ps, .tup qs] μ K :=
  WV.of2 fun s ι E Q v w I r1 r2 hQ => by
    simp only [RepV] at r1 r2
    obtain ⟨x, vs, m, rfl, ea, ra⟩ := r1
    obtain ⟨y, ws, m', rfl, eb, rb⟩ := r2
    have l1 := RepL.length ps vs ra
    have l2 := RepL.length qs ws rb
    have hu := a.u
    have hq := hQ (.bool (!b)) s ι (.bool (!b)) μ (Step.refl ..) I (by simp only [RepV]) k
    have := SeqAt.RcNeAt.tuples (A := A) (e := pairE (eqP μ 8) ps qs) (tup_isTuple ea) (tup_isTuple eb) (by unfold cLine; omega)
      (pairs_at (A := A.in1) ra rb e fun p q v w b r1 r2 e => eqP_at O I 8 A.in1 p q v w b (by show A.units + 1 + 8 < 9900; omega) r1 r2 e)
    rw [show vs.toArray.size = ps.length by simp [l1], show ws.toArray.size = qs.length by simp [l2], eqPs_eq ps qs b e] at this
    exact this c.prog c.w E Q hq
/-- a bool in a list of bools -/
theorem RepL.bools {h : Heap} {ι : Iota} : ∀ (bs : List Bool) (ws : List Value), RepL h ι (bs.map .bool) ws → ws = bs.map .bool := by
  intro bs
  induction bs with
  | nil => intro ws r; simpa only [List.map_nil, RepL] using r
  | cons b bs ih =>
    intro ws r
    simp only [List.map_cons, RepL] at r
    obtain ⟨v, r', rfl, hv, hr⟩ := r
    simp only [RepV] at hv
    rw [hv, ih _ hr]; rfl
theorem bools_any (x : Bool) (bs : List Bool) : ((bs.map Value.bool).toArray.any fun v => v == .bool x) = bs.contains x := by
  simp only [List.any_toArray, List.any_map]
  induction bs with
  | nil => rfl
  | cons b bs ih =>
    rw [List.any_cons, List.contains_cons, ih]
    congr 1
    cases b <;> cases x <;> decide
/-- a bool in a list of bools -/
theorem WV.in_bools {i : Nat} {bs : List Bool} {x : Bool} {K : PV → Mu → Prop} (hi : μ[i]? = some (.lst (bs.map .bool))) (k : K (.bool (bs.contains x)) μ) : WV c A (f2 (compareOp .In)) [.bool x, .loc i] μ K :=
  WV.of2 fun s ι E Q v w I r1 r2 hQ => by
    obtain ⟨y, ws, m', rfl, hb, eb, rb⟩ := I.lst hi r2
    simp only [RepV] at r1
    subst r1
    have hw' := RepL.bools bs ws rb
    subst hw'
    refine SeqAt.in_listAt (fun v => v == .bool x) (lst_isList eb) (fun z hz => ?_) ?_
    · obtain ⟨b, _, rfl⟩ : ∃ b, b ∈ bs ∧ Value.bool b = z := List.mem_map.mp (List.mem_toArray.mp hz)
      have : (Value.bool b == Value.bool x) = (b == x) := by cases b <;> cases x <;> decide
      rw [this]
      exact SeqAt.EqAt.bool_bool b x
    · rw [bools_any]
      exact hQ _ s ι (.bool _) μ (Step.refl ..) I (by simp only [RepV]) k

/- ---- chains ---- -/
end
end Mine
namespace Mine

/-- a text of these signs -/
abbrev S (l : List Nat) : Str := ⟨l.toArray⟩
theorem S_length (l : List Nat) : (S l).length = l.length := by simp [Str.length]
theorem S_append (a b : List Nat) : S a ++ S b = S (a ++ b) := by
  show (⟨a.toArray ++ b.toArray⟩ : Str) = _
  simp
theorem S_inj {a b : List Nat} : S a = S b ↔ a = b := by
  constructor
  · intro h; injection h with h; simpa using h
  · rintro rfl; rfl
theorem S_beq (a b : List Nat) : (S a == S b) = (a == b) := by
  rw [Bool.eq_iff_iff, beq_iff_eq, beq_iff_eq]; exact S_inj
/-- the part of a row, as a slice picks it -/
def cutL {α : Type} (xs : List α) (lo hi : Option Int) : List α := (xs.drop (lo.elim 0 (clipAt xs.length))).take (hi.elim xs.length (clipAt xs.length) - lo.elim 0 (clipAt xs.length))
theorem cutL_pick (vs : List Value) (lo hi : Option Int) : slicePick vs.toArray lo hi none = (cutL vs lo hi).toArray := by
  rw [slicePick_plain]; simp [cutL]
theorem cutL_str (l : List Nat) (lo hi : Option Int) : Txt.slice (S l) lo hi = S (cutL l lo hi) := by
  have h1 : ((1 : Int) > 0) := by decide
  have e : Builtin.Str.strSliceIndices lo hi 1 l.length = (List.range ((hi.elim l.length (clipAt l.length)) - (lo.elim 0 (clipAt l.length)))).map ((lo.elim 0 (clipAt l.length)) + ·) := by
    rw [← sliceRange_one]
    unfold Builtin.Str.strSliceIndices
    simp only [h1, if_true]
    congr 1
    · cases lo <;> simp [clipAt_cast]
    · cases hi <;> simp [clipAt_cast]
  have e2 : (Builtin.Str.strSliceIndices lo hi 1 l.length).filterMap ((S l).cps[·]?) = cutL l lo hi := by
    rw [e, pick_run]; rfl
  unfold Txt.slice
  rw [show (S l).length = l.length from S_length l]
  split
  · rename_i hc
    simp only [beq_self_eq_true, Bool.true_and, beq_iff_eq] at hc
    have hc' := hc
    rw [e] at hc'
    simp only [List.length_map, List.length_range] at hc'
    have hle : hi.elim l.length (clipAt l.length) ≤ l.length := by
      cases hi with
      | none => exact Nat.le_refl _
      | some i => have := clipAt_cast l.length i; simp only [Option.elim]; omega
    have e3 : (cutL l lo hi).length = l.length := by
      unfold cutL
      simp only [List.length_take, List.length_drop]
      omega
    have e4 : (cutL l lo hi).Sublist l := ((List.take_sublist _ _).trans (List.drop_sublist _ _))
    rw [e4.eq_of_length e3]
  · rw [e2]

theorem RepL.drop {h : Heap} {ι : Iota} : ∀ (n : Nat) (ps : List PV) (vs : List Value), RepL h ι ps vs → RepL h ι (ps.drop n) (vs.drop n)
  | 0, ps, vs, r => r
  | n + 1, [], vs, r => by simp only [RepL] at r; subst r; simp only [List.drop_nil, RepL]
  | n + 1, p :: ps, vs, r => by
    simp only [RepL] at r
    obtain ⟨v, r', rfl, h1, h2⟩ := r
    exact RepL.drop n ps r' h2
theorem RepL.take {h : Heap} {ι : Iota} : ∀ (n : Nat) (ps : List PV) (vs : List Value), RepL h ι ps vs → RepL h ι (ps.take n) (vs.take n)
  | 0, ps, vs, r => by simp only [List.take_zero, RepL]
  | n + 1, [], vs, r => by simp only [RepL] at r; subst r; simp only [List.take_nil, RepL]
  | n + 1, p :: ps, vs, r => by
    simp only [RepL] at r
    obtain ⟨v, r', rfl, h1, h2⟩ := r
    simp only [List.take_succ_cons, RepL]
    exact ⟨v, _, rfl, h1, RepL.take n ps r' h2⟩
theorem RepL.cut {h : Heap} {ι : Iota} {ps : List PV} {vs : List Value} (r : RepL h ι ps vs) (lo hi : Option Int) : RepL h ι (cutL ps lo hi) (cutL vs lo hi) := by
  unfold cutL
  rw [RepL.length ps vs r]
  exact RepL.take _ _ _ (RepL.drop _ _ _ r)
theorem RepL.reverse {h : Heap} {ι : Iota} : ∀ (ps : List PV) (vs : List Value), RepL h ι ps vs → RepL h ι ps.reverse vs.reverse
  | [], vs, r => by simp only [RepL] at r; subst r; simp only [List.reverse_nil, RepL]
  | p :: ps, vs, r => by
    simp only [RepL] at r
    obtain ⟨v, r', rfl, h1, h2⟩ := r
    simp only [List.reverse_cons]
    exact RepL.append _ _ _ _ (RepL.reverse ps r' h2) (by simp only [RepL]; exact ⟨v, _, rfl, h1, rfl⟩)

section
variable {c : Cx} {A : Around} {env : Env} {ρ : Rho} {μ : Mu}

/-- a subscript's base of one of the built-in kinds -/
def SubOk (μ : Mu) : PV → Prop
  | .str _ => True
  | .tup _ => True
  | .loc i => ∃ ps, μ[i]? = some (.lst ps)
  | _ => False
theorem SubOk.type {s : Shared} {ι : Iota} {p : PV} {v : Value} (I : Inv c s ι μ) (h : SubOk μ p) (r : RepV s.heap ι p v) : ∃ T id, typeLookup (.type T) "__getitem__" = pure (some (.builtin id)) ∧ s.TypeIs v T := by
  cases p <;> simp only [SubOk] at h
  case str x => simp only [RepV] at r; obtain ⟨t, rfl⟩ := r; exact ⟨"str", _, F.slot_str_getitem.lookup, rfl⟩
  case tup ps => simp only [RepV] at r; obtain ⟨a, vs, n, rfl, e, _⟩ := r; exact ⟨"tuple", _, F.slot_tuple_getitem.lookup, _, e, rfl⟩
  case loc i =>
    obtain ⟨ps, h⟩ := h
    obtain ⟨a, vs, n, rfl, _, e, _⟩ := I.lst h r
    exact ⟨"list", _, F.slot_list_getitem.lookup, _, e, rfl⟩

theorem subTail {value slice : Expr} {o i : Value} {T id : String} {s : Shared} {E Q : Value → Shared → Prop} (hT : s.TypeIs o T)
    (hl : typeLookup (.type T) "__getitem__" = pure (some (.builtin id))) (h : wpAny (model c.prog c.w) A (getItem o i) Q E s)
    (hs : subscripted slice false o i = operate [o, i] (getItem o i) ∨ subscripted slice false o i = operate [i, o] (getItem o i)) :
    wpAny (model c.prog c.w) A (subscriptTail value slice o i) Q E s := by
  unfold subscriptTail
  refine wpAny_bind ?_
  rw [getitemInPython_of_ne hT.not_modules]
  refine wpAny_bind (wpAny_specialOf hT hl ?_)
  have fin : wpAny (model c.prog c.w) A (subscripted slice false o i) (fun r s₃ => wpAny (model c.prog c.w) A (letTemporaryGo value o r >>= fun _ => pure r) Q E s₃) E s := by
    rcases hs with hs | hs <;> rw [hs] <;> exact wpAny_operating (wpAny_mono h (fun r s₃ h₃ => wpAny_bind (wpAny_letTemporaryGo (wpAny_pure h₃))) fun _ _ x => x)
  first
    | exact wpAny_pure (wpAny_bind fin)
    | exact wpAny_bind (wpAny_pure (wpAny_bind fin))
    | exact wpAny_bind fin
abbrev plainIdx (e : Expr) : Prop := ∀ o i, subscripted e false o i = operate [o, i] (getItem o i)
theorem WE.sub {value idx : Expr} {pos : Pos} {K : PV → Mu → Prop} (O : c.Ok)
    (h : WE c A value env ρ μ fun p μ₁ => WE c A idx env ρ μ₁ fun q μ₂ => SubOk μ₂ p ∧ WV c A (f2 getItem) [p, q] μ₂ K) (hs : plainIdx idx) : WE c A (.Subscript value idx pos) env ρ μ K := ⟨fun s ι E Q I V hQ => by
  refine PyProof.Rows.Subscript_ (h.run s ι E _ I V fun o s₁ ι₁ p μ₁ S₁ I₁ r₁ k₁ => ?_)
  refine k₁.run s₁ ι₁ E _ I₁ (V.step O I S₁) fun i s₂ ι₂ q μ₂ S₂ I₂ r₂ k₂ => ?_
  obtain ⟨hb, k₂⟩ := k₂
  have r₁' := I₁.rep O S₂ r₁
  obtain ⟨T, id, hl, hT⟩ := hb.type I₂ r₁'
  exact subTail hT hl (k₂.run s₂ ι₂ E _ [o, i] I₂ (by simp only [RepL]; exact ⟨_, _, rfl, r₁', _, _, rfl, r₂, rfl⟩) fun v s₃ ι₃ x μ₃ S₃ I₃ r₃ k₃ => hQ v s₃ ι₃ x μ₃ ((S₁.trans S₂).trans S₃) I₃ r₃ k₃) (.inl (hs _ _))⟩

theorem WV.item_lst {i : Nat} {n : Int} {ps : List PV} {k : Nat} {q : PV} {K : PV → Mu → Prop} (hi : μ[i]? = some (.lst ps)) (hk : seqIndex? n ps.length = some k) (hq : ps[k]? = some q) (hb : ps.length ≤ 1000000) (h : K q μ) : WV c A (f2 getItem) [.loc i, .int n] μ K :=
  WV.of2 fun s ι E Q v w I r1 r2 hQ => by
    obtain ⟨a, vs, m, rfl, ha, ea, ra⟩ := I.lst hi r1
    simp only [RepV] at r2
    obtain ⟨t, rfl⟩ := r2
    have hl := RepL.length ps vs ra
    obtain ⟨v, hv, rv⟩ := (RepL.get ps vs k ra).1 q hq
    have hk' : (if n < 0 then n + (ps.length : Int) else n) = k ∧ 0 ≤ (if n < 0 then n + (ps.length : Int) else n) ∧ (if n < 0 then n + (ps.length : Int) else n) < (ps.length : Int) := by
      unfold seqIndex? at hk
      dsimp only at hk
      generalize (if n < 0 then n + (ps.length : Int) else n) = j at hk ⊢
      split at hk
      · rename_i h
        simp only [Bool.and_eq_true, decide_eq_true_eq] at h
        cases hk
        omega
      · cases hk
    have hf := hQ v s ι q μ (Step.refl ..) I rv h
    by_cases hn : n < 0
    · rw [if_pos hn] at hk'
      refine wpAny_getItem_list_neg (items := vs.toArray) (lst_isList ea) hn (by simp [hl]; omega) (by omega) (x := v) ?_ hf
      have : (n + (vs.toArray.size : Int)).toNat = k := by simp [hl]; omega
      rw [this]; simpa using hv
    · rw [if_neg hn] at hk'
      refine wpAny_getItem_list (items := vs.toArray) (lst_isList ea) (by omega) (by omega) (x := v) ?_ hf
      have : n.toNat = k := by omega
      rw [this]; simpa using hv
theorem WV.item_tup {n : Int} {ps : List PV} {k : Nat} {q : PV} {K : PV → Mu → Prop} (hk : seqIndex? n ps.length = some k) (hq : ps[k]? = some q) (hb : -1000000 ≤ n ∧ n ≤ 1000000) (h : K q μ) : WV c A (f2 getItem) [.tup ps, .int n] μ K :=
  WV.of2 fun s ι E Q v w I r1 r2 hQ => by
    simp only [RepV] at r1 r2
    obtain ⟨a, vs, m, rfl, ea, ra⟩ := r1
    obtain ⟨t, rfl⟩ := r2
    have hl := RepL.length ps vs ra
    obtain ⟨v, hv, rv⟩ := (RepL.get ps vs k ra).1 q hq
    exact PySem.P.getItem_tuple (items := vs.toArray) (n := m) (k := k) (y := v) ea (by omega) (by omega) (by rw [show vs.toArray.size = ps.length by simp [hl]]; exact hk) (by simpa using hv) (hQ v s ι q μ (Step.refl ..) I rv h)
theorem WV.item_str {l : List Nat} {n : Int} {k : Nat} {q : Nat} {K : PV → Mu → Prop} (O : c.Ok) (hk : seqIndex? n l.length = some k) (hq : l[k]? = some q) (hb : -1000000 ≤ n ∧ n ≤ 1000000) (h : K (.str (S [q])) μ) : WV c A (f2 getItem) [.str (S l), .int n] μ K :=
  WV.of2 fun s ι E Q v w I r1 r2 hQ => by
    simp only [RepV] at r1 r2
    obtain ⟨t, rfl⟩ := r1
    obtain ⟨u, rfl⟩ := r2
    have g := toks_inv O I (s.toks + 1)
    refine PyProof.Rows.getItem_str (c := q) ?_ ?_ (hQ _ _ ι (.str (S [q])) μ g.2 g.1 (by simp only [RepV]; exact ⟨_, rfl⟩) h)
    · simp only [Bool.or_eq_false_iff, decide_eq_false_iff_not]; omega
    · rw [S_length, hk]; simpa [S] using hq

/- ---- slices ---- -/
def partIs (l : Option Int) (v : Value) : Prop := match l with
  | none => v = .none
  | some i => ∃ t, v = .int i t
/-- a slice's part -/
structure WPart (c : Cx) (A : Around) (e : Option Expr) (env : Env) (ρ : Rho) (μ : Mu) (K : Option Int → Mu → Prop) : Prop where
  run : ∀ (s : Shared) (ι : Iota) (E Q : Value → Shared → Prop), Inv c s ι μ → EnvOk c env ρ s ι →
    (∀ v s' ι' p μ', Step c s ι s' ι' → Inv c s' ι' μ' → partIs p v → K p μ' → Q v s') → wpAny (model c.prog c.w) A (evalPart e env) Q E s
theorem WPart.none {K : Option Int → Mu → Prop} (h : K .none μ) : WPart c A .none env ρ μ K := ⟨fun s ι E Q I V hQ => wpAny_evalPart_none (hQ _ s ι .none μ (Step.refl ..) I rfl h)⟩
theorem WPart.some {e : Expr} {K : Option Int → Mu → Prop} (h : WE c A e env ρ μ fun p μ₁ => ∃ i, p = .int i ∧ K (.some i) μ₁) : WPart c A (.some e) env ρ μ K := ⟨fun s ι E Q I V hQ => by
  refine wpAny_evalPart_some (h.run s ι E _ I V fun v s₁ ι₁ p μ₁ S₁ I₁ r₁ k₁ => ?_)
  obtain ⟨i, rfl, k₁⟩ := k₁
  simp only [RepV] at r₁
  exact hQ v s₁ ι₁ (.some i) μ₁ S₁ I₁ r₁ k₁⟩
theorem partIs.isPart {l : Option Int} {v : Value} (h : partIs l v) : IsPart v l := by
  cases l with
  | none => simp only [partIs] at h; subst h; exact IsPart.none
  | some i => obtain ⟨t, rfl⟩ := h; exact IsPart.int i t
theorem partIs.val {l : Option Int} {v : Value} (h : partIs l v) : ∃ x : Option (Int × Tok), v = partValue x ∧ x.map (·.1) = l := by
  cases l with
  | none => simp only [partIs] at h; subst h; exact ⟨Option.none, rfl, rfl⟩
  | some i => obtain ⟨t, rfl⟩ := h; exact ⟨Option.some (i, t), rfl, rfl⟩

/-- x[lo:hi] -/
inductive CutIs (μ : Mu) (lo hi : Option Int) : PV → PV → Mu → Prop
  | str (l : List Nat) : l.length ≤ 1000000 → CutIs μ lo hi (.str (S l)) (.str (S (cutL l lo hi))) μ
  | lst (i : Nat) (ps : List PV) : μ[i]? = some (.lst ps) → ps.length ≤ 1000000 → CutIs μ lo hi (.loc i) (.loc μ.length) (μ ++ [.lst (cutL ps lo hi)])
theorem WE.slice {value : Expr} {lo hi : Option Expr} {p pos : Pos} {K : PV → Mu → Prop} (O : c.Ok)
    (h : WE c A value env ρ μ fun b μ₁ => WPart c A lo env ρ μ₁ fun l μ₂ => WPart c A hi env ρ μ₂ fun u μ₃ => ∃ r μ₄, CutIs μ₃ l u b r μ₄ ∧ K r μ₄) : WE c A (.Subscript value (.Slice lo hi .none p) pos) env ρ μ K := ⟨fun s ι E Q I V hQ => by
  refine PyProof.Rows.Subscript_ (h.run s ι E _ I V fun o s₁ ι₁ b μ₁ S₁ I₁ r₁ k₁ => ?_)
  refine wpAny_Slice (k₁.run s₁ ι₁ E _ I₁ (V.step O I S₁) fun vl s₂ ι₂ l μ₂ S₂ I₂ r₂ k₂ => ?_)
  refine k₂.run s₂ ι₂ E _ I₂ (V.step O I (S₁.trans S₂)) fun vu s₃ ι₃ u μ₃ S₃ I₃ r₃ k₃ => ?_
  refine wpAny_evalPart_none ?_
  obtain ⟨r, μ₄, hc, k₄⟩ := k₃
  have g := I₃.grow O (s' := { s₃ with heap := s₃.heap.push { cls := .type "slice", data := .fields #[vl, vu, .none] } }) (fun b o e => Heap.get?_push_of_some _ e) I₃.bare rfl I₃.tp
  have r₁' := (I₁.rep O ((S₂.trans S₃).trans g.2) r₁)
  cases hc with
  | str x hx =>
    simp only [RepV] at r₁'
    obtain ⟨t, rfl⟩ := r₁'
    obtain ⟨xl, rfl, hl⟩ := r₂.val
    obtain ⟨xu, rfl, hu⟩ := r₃.val
    refine subTail (T := "str") rfl F.slot_str_getitem.lookup ?_ (.inr rfl)
    refine wpAny_with_toks (Nat.le_refl _) (wpAny_getItem_str_slice (l := xl) (u := xu) (st := .none) ⟨_, Heap.get?_push_size _ rfl, rfl, rfl⟩ rfl
      (post_val_or_str ⟨Nat.le_trans (Txt.slice_le (S x) _ _) (by rw [S_length, sizeLine_eq]; omega), fun t' tk htk => ?_⟩))
    have g' := toks_inv O g.1 tk (Nat.lt_of_lt_of_le g.1.tp htk)
    have e : Txt.slice (S x) (xl.map (·.1)) (xu.map (·.1)) = S (cutL x l u) := by rw [hl, hu]; exact cutL_str x l u
    have := hQ (.str (S (cutL x l u)) t') _ ι₃ _ _ ((((S₁.trans S₂).trans S₃).trans g.2).trans g'.2) g'.1 (by simp only [RepV]; exact ⟨_, rfl⟩) k₄
    rw [← e] at this
    exact this
  | lst i ps hi hx =>
    obtain ⟨a, vs, n, rfl, ha, ea, ra⟩ := g.1.lst hi r₁'
    have hl := RepL.length ps vs ra
    refine subTail (T := "list") ⟨_, ea, rfl⟩ F.slot_list_getitem.lookup ?_ (.inr rfl)
    have t := lst_new O g.1 (ra.cut l u) (h' := (s₃.heap.push { cls := .type "slice", data := .fields #[vl, vu, .none] }).push (lstOf (cutL vs l u) 0)) (D := s₃.heap.objs.size + 1) (n := 0) (tk := s₃.toks) (by
        have := fresh_size (s₃.heap.push { cls := .type "slice", data := .fields #[vl, vu, .none] })
        simpa [Heap.push] using this) (by
        have := Heap.get?_push_size (s₃.heap.push { cls := .type "slice", data := .fields #[vl, vu, .none] }) (o := lstOf (cutL vs l u) 0) rfl
        simpa [Heap.push] using this) (fun b o e => Heap.get?_push_of_some _ e) I₃.tp
    refine wpAny_getItem_list_slice (items := vs.toArray) (lo := l) (hi := u) (st := .none) (lst_isList ea) ⟨_, Heap.get?_push_size _ rfl, rfl, rfl⟩ r₂.isPart r₃.isPart (partIs.isPart (l := .none) rfl) (by simp) ?_ (by simp only [List.size_toArray]; rw [hl, sizeLine_eq]; omega)
    rw [cutL_pick]
    have := hQ _ _ _ _ _ ((((S₁.trans S₂).trans S₃).trans g.2).trans t.1) t.2.1 t.2.2 k₄
    simpa [Heap.push, lstOf] using this⟩
end
end Mine
namespace Mine
section
variable {c : Cx} {A : Around} {env : Env} {ρ : Rho} {μ : Mu}

/-- an object of the store is put anew -/
theorem Inv.put {c : Cx} (O : c.Ok) {s : Shared} {ι : Iota} {μ : Mu} (I : Inv c s ι μ) {i : Nat} {a : Addr} {m : MO} (ha : ι[i]? = some a) {s' : Shared}
    (k : ∀ b o, s.heap.get? b = some o → b ≠ a → s'.heap.get? b = some o) (there : ∃ o, s'.heap.get? a = some o) (hm : (∀ p v, RepV s.heap ι p v → RepV s'.heap ι p v) → (∀ p v, RepL s.heap ι p v → RepL s'.heap ι p v) → MoAt c s'.heap ι a m) (hg : AllBare s'.gens) (ho : s'.os = s.os) (ht : 0 < s'.toks) :
    Inv c s' ι (μ.set i m) ∧ Step c s ι s' ι := by
  have hai : a ∈ ι := List.mem_of_getElem? ha
  obtain ⟨oa, ea, hca⟩ := I.at hai
  have S : Step c s ι s' ι := ⟨fun b o e hb _ => k b o e fun q => hb (q ▸ hai), fun b o e => by
    by_cases hb : b = a
    · subst hb; exact there
    · exact ⟨o, k b o e hb⟩, [], by simp, by simp⟩
  have rv : ∀ p v, RepV s.heap ι p v → RepV s'.heap ι p v := fun p v r => I.rep O S r
  have rl : ∀ p v, RepL s.heap ι p v → RepL s'.heap ι p v := fun p v r => I.repL O S r
  refine ⟨⟨fun b o e hX => k _ _ (I.old b o e hX) fun q => ?_, I.new, by simp [I.len], I.nodup, fun j b m' hj hm' => ?_, O.tk _ _ I.tab fun b o e hc _ => k b o e fun q => ?_, hg, ho.trans I.os, ht⟩, S⟩
  · rw [q, I.new a hai] at e; cases e
  · by_cases hij : j = i
    · subst hij
      rw [ha] at hj; cases hj
      have hl : j < μ.length := by rw [← I.len]; exact (List.getElem?_eq_some_iff.mp ha).1
      rw [List.getElem?_set_self hl] at hm'
      cases hm'
      exact hm rv rl
    · rw [List.getElem?_set_ne (Ne.symm hij)] at hm'
      have hb : b ≠ a := fun q => hij ((List.getElem?_inj (List.getElem?_eq_some_iff.mp hj).1 I.nodup).mp (by rw [hj, ha, q]))
      have x := I.mo j b m' hj hm'
      cases m' with
      | lst ps => obtain ⟨vs, n, e, r⟩ := x; exact ⟨vs, n, k _ _ e hb, rl _ _ r⟩
      | pil q its =>
        obtain ⟨d, vs, n, e, ⟨hsh, tk, tk', mm, ed⟩, hn, r⟩ := x
        refine ⟨d, vs, n, k _ _ e hb, ⟨hsh, tk, tk', mm, k _ _ ed fun q => ?_⟩, hn, rl _ _ r⟩
        subst q
        rw [ea] at ed; cases ed
        rcases hca with h | h <;> exact absurd h (by simp)
  · subst q
    rw [ea] at e; cases e
    rcases hca with h | h <;> rw [h] at hc <;> rcases hc with hc | hc <;> exact absurd hc (by simp)

/- ---- calls ---- -/
/-- f called with values in hand -/
abbrev WC (c : Cx) (A : Around) (f : Value) (ps : List PV) (μ : Mu) (K : PV → Mu → Prop) : Prop := WV c A (fun vs => call f vs) ps μ K

theorem starEach_plain {es : List Expr} (h : es.all notStar = true) (pos : Pos) : (backTo pos (starEach es env)).any (·.1) = false := by
  have h1 : ∀ es : List Expr, es.all notStar = true → (starEach es env).any (·.1) = false := by
    intro es
    induction es with
    | nil => intro _; rfl
    | cons e es ih =>
      intro h
      rw [List.all_cons, Bool.and_eq_true] at h
      rw [starEach_cons h.1, List.any_cons, ih h.2]; rfl
  have h2 : ∀ l : List (Bool × Sem Value), l.any (·.1) = false → (backTo pos l).any (·.1) = false := by
    intro l hl
    simpa [backTo, List.any_map, Function.comp_def] using hl
  exact h2 _ (h1 es h)
theorem WEs.args {e : Expr} {es : List Expr} {K : List PV → Mu → Prop} {f : Value} {pos : Pos} (h : WEs c A (e :: es) env ρ μ K) (hs : (e :: es).all notStar = true) {s : Shared} {ι : Iota} {E : Value → Shared → Prop} {Q : Args → Shared → Prop} (I : Inv c s ι μ) (V : EnvOk c env ρ s ι)
    (hQ : ∀ vs s' ι' ps μ', Step c s ι s' ι' → Inv c s' ι' μ' → RepL s'.heap ι' ps vs → K ps μ' → Q ⟨vs, []⟩ s') : wpAny (model c.prog c.w) A (evalArgs f true (backTo pos (starEach (e :: es) env)) []) Q E s := by
  have h' := h.run s ι E (fun vs s' => Q ⟨vs, []⟩ s') pos I V hQ
  rw [List.all_cons, Bool.and_eq_true] at hs
  rw [starEach_cons hs.1] at h' ⊢
  exact Calls.evalArgs_plain h'

/-- what stands at a function's address -/
structure FnAt (c : Cx) (a : Addr) (fd : FuncData) : Prop where
  at' : ∃ o, c.hB.get? a = some o ∧ o.data = .func fd
  off : a ∉ c.X
theorem FnAt.here {a : Addr} {fd : FuncData} (F : FnAt c a fd) {s : Shared} {ι : Iota} {μ : Mu} (I : Inv c s ι μ) : ∃ o, s.heap.get? a = some o ∧ o.data = .func fd := by
  obtain ⟨o, e, d⟩ := F.at'
  exact ⟨o, I.old _ _ e F.off, d⟩

/-- a call, the called in hand -/
abbrev callsPlain (func : Expr) (args : List Expr) (pos : Pos) (env : Env) : Prop :=
  eval (.Call func args [] pos) env = (do callWith pos (← eval func env) [] (backTo pos (starEach args env)) (backToKw pos (keywordEach [] env)))
theorem callWith_bi {pos : Pos} {id : String} {first : List Value} {e : Expr} {es : List Expr} {K : List PV → Mu → Prop} {s : Shared} {ι : Iota} {E Q : Value → Shared → Prop} (h : WEs c A (e :: es) env ρ μ K) (hs : (e :: es).all notStar = true) (I : Inv c s ι μ) (V : EnvOk c env ρ s ι)
    (hQ : ∀ vs s' ι' ps μ', Step c s ι s' ι' → Inv c s' ι' μ' → RepL s'.heap ι' ps vs → K ps μ' → wpAny (model c.prog c.w) A (call (.builtin id) (first ++ vs)) Q E s') : wpAny (model c.prog c.w) A (callWith pos (.builtin id) first (backTo pos (starEach (e :: es) env)) []) Q E s :=
  Calls.callWith_builtin (starEach_plain hs pos) (h.args hs I V hQ)
theorem callWith_ty {pos : Pos} {id : String} {e : Expr} {es : List Expr} {K : List PV → Mu → Prop} {s : Shared} {ι : Iota} {E Q : Value → Shared → Prop} (h : WEs c A (e :: es) env ρ μ K) (hs : (e :: es).all notStar = true) (I : Inv c s ι μ) (V : EnvOk c env ρ s ι)
    (hQ : ∀ vs s' ι' ps μ', Step c s ι s' ι' → Inv c s' ι' μ' → RepL s'.heap ι' ps vs → K ps μ' → wpAny (model c.prog c.w) A (call (.type id) vs) Q E s') : wpAny (model c.prog c.w) A (callWith pos (.type id) [] (backTo pos (starEach (e :: es) env)) []) Q E s :=
  PySem.callWith_type (first := []) (starEach_plain hs pos) (h.args hs I V hQ)

theorem WE.call_def {x : Str} {p pos : Pos} {e : Expr} {es : List Expr} {a : Addr} {fd : FuncData} {K : PV → Mu → Prop} (O : c.Ok) (hx : c.mg x = some (.ref a)) (F : FnAt c a fd)
    (h : WEs c A (e :: es) env ρ μ fun ps μ₁ => WC c A (.ref a) ps μ₁ K) (hs : (e :: es).all notStar = true) (hk : env.kindOf x = some .globalImplicit) (hd : (x == ("__debug__" : Str)) = false) (hc : callsPlain (.Name x p) (e :: es) pos env) : WE c A (.Call (.Name x p) (e :: es) [] pos) env ρ μ K := ⟨fun s ι E Q I V hQ => by
  refine PyProof.Rows.Call_ (glob_ld O I V hk hx hd ?_) hc
  obtain ⟨o, eo, d⟩ := F.at'
  refine Calls.callWith_function (o := o) (fd := fd) (h.args hs I V fun vs s₁ ι₁ ps μ₁ S₁ I₁ r₁ k₁ => ⟨⟨I₁.old _ _ eo F.off, d⟩, ?_⟩)
  exact k₁.run s₁ ι₁ E Q vs I₁ r₁ fun v s₂ ι₂ q μ₂ S₂ I₂ r₂ k₂ => hQ v s₂ ι₂ q μ₂ (S₁.trans S₂) I₂ r₂ k₂⟩
theorem WE.call_bi {x : Str} {p pos : Pos} {e : Expr} {es : List Expr} {id : String} {K : PV → Mu → Prop} (O : c.Ok) (hn : c.mg x = .none) (hx : c.mb x = some (.builtin id))
    (h : WEs c A (e :: es) env ρ μ fun ps μ₁ => WC c A (.builtin id) ps μ₁ K) (hs : (e :: es).all notStar = true) (hk : env.kindOf x = some .globalImplicit) (hd : (x == ("__debug__" : Str)) = false) (hc : callsPlain (.Name x p) (e :: es) pos env) : WE c A (.Call (.Name x p) (e :: es) [] pos) env ρ μ K := ⟨fun s ι E Q I V hQ => by
  refine PyProof.Rows.Call_ (buil_ld O I V hk hn hx hd ?_) hc
  refine callWith_bi (first := []) h hs I V fun vs s₁ ι₁ ps μ₁ S₁ I₁ r₁ k₁ => ?_
  exact k₁.run s₁ ι₁ E Q vs I₁ r₁ fun v s₂ ι₂ q μ₂ S₂ I₂ r₂ k₂ => hQ v s₂ ι₂ q μ₂ (S₁.trans S₂) I₂ r₂ k₂⟩
theorem WE.call_ty {x : Str} {p pos : Pos} {e : Expr} {es : List Expr} {id : String} {K : PV → Mu → Prop} (O : c.Ok) (hn : c.mg x = .none) (hx : c.mb x = some (.type id))
    (h : WEs c A (e :: es) env ρ μ fun ps μ₁ => WC c A (.type id) ps μ₁ K) (hs : (e :: es).all notStar = true) (hk : env.kindOf x = some .globalImplicit) (hd : (x == ("__debug__" : Str)) = false) (hc : callsPlain (.Name x p) (e :: es) pos env) : WE c A (.Call (.Name x p) (e :: es) [] pos) env ρ μ K := ⟨fun s ι E Q I V hQ => by
  refine PyProof.Rows.Call_ (buil_ld O I V hk hn hx hd ?_) hc
  refine callWith_ty h hs I V fun vs s₁ ι₁ ps μ₁ S₁ I₁ r₁ k₁ => ?_
  exact k₁.run s₁ ι₁ E Q vs I₁ r₁ fun v s₂ ι₂ q μ₂ S₂ I₂ r₂ k₂ => hQ v s₂ ι₂ q μ₂ (S₁.trans S₂) I₂ r₂ k₂⟩

/-- a method's call reads its base, then its method -/
abbrev callsMethod (o : Expr) (name : Str) (apos : Pos) (args : List Expr) (pos : Pos) (env : Env) : Prop :=
  ∃ pl, eval (.Call (.Attribute o name apos) args [] pos) env = (do
      let ov ← eval o env
      standAt apos.atName
      let (f, first) ← holding [ov] (getMethod ov name pl)
      callWith pos f first (backTo pos (starEach args env)) [])
/-- a value of a built-in kind with no own dictionary -/
def KindIs (μ : Mu) (T : String) : PV → Prop
  | .str _ => T = "str"
  | .loc i => T = "list" ∧ ∃ ps, μ[i]? = some (.lst ps)
  | _ => False
theorem KindIs.type {T : String} {s : Shared} {ι : Iota} {p : PV} {v : Value} (I : Inv c s ι μ) (h : KindIs μ T p) (r : RepV s.heap ι p v) : s.TypeIs v T ∧ ∀ a, v = .ref a → ∃ o, s.heap.get? a = some o ∧ o.dict = none := by
  cases p <;> simp only [KindIs] at h
  case str x => simp only [RepV] at r; obtain ⟨t, rfl⟩ := r; subst h; exact ⟨rfl, fun a q => nomatch q⟩
  case loc i =>
    obtain ⟨rfl, ps, h⟩ := h
    obtain ⟨a, vs, n, rfl, _, e, _⟩ := I.lst h r
    exact ⟨⟨_, e, rfl⟩, fun b q => by cases q; exact ⟨_, e, rfl⟩⟩
theorem WE.meth {o : Expr} {name : Str} {apos pos : Pos} {e : Expr} {es : List Expr} {T id : String} {K : PV → Mu → Prop} (O : c.Ok) (pa : PlainAttrs T) (sl : Slot T name id) (ty : typeOf (.builtin id) = pure (.type "method_descriptor"))
    (h : WE c A o env ρ μ fun p μ₁ => KindIs μ₁ T p ∧ WEs c A (e :: es) env ρ μ₁ fun ps μ₂ => WC c A (.builtin id) (p :: ps) μ₂ K) (hs : (e :: es).all notStar = true) (hc : callsMethod o name apos (e :: es) pos env) : WE c A (.Call (.Attribute o name apos) (e :: es) [] pos) env ρ μ K := ⟨fun s ι E Q I V hQ => by
  obtain ⟨pl, hc⟩ := hc
  refine PyProof.Rows.MethodCall_ (h.run s ι E _ I V fun ov s₁ ι₁ p μ₁ S₁ I₁ r₁ k₁ => ?_) hc
  obtain ⟨kd, k₁⟩ := k₁
  have kt := kd.type I₁ r₁
  refine getMethod_builtin kt.1 pa sl ty kt.2 ?_
  refine callWith_bi k₁ hs I₁ (V.step O I S₁) fun vs s₂ ι₂ ps μ₂ S₂ I₂ r₂ k₂ => ?_
  exact k₂.run s₂ ι₂ E Q (ov :: vs) I₂ (by simp only [RepL]; exact ⟨_, _, rfl, I₁.rep O S₂ r₁, r₂⟩) fun v s₃ ι₃ q μ₃ S₃ I₃ r₃ k₃ => hQ v s₃ ι₃ q μ₃ ((S₁.trans S₂).trans S₃) I₃ r₃ k₃⟩
/- ---- statements ---- -/
variable {KS : PF → Rho → Mu → Prop}
theorem WS.expr {e : Expr} {pos : Pos} (O : c.Ok) (h : WE c A e env ρ μ fun _ μ' => KS .next ρ μ') (hi : interactive env = false) (hs : swapsWith e none pos.line env = pure false) : WS c A (.Expr e pos) env ρ μ KS := ⟨fun s ι E Q I V hQ =>
  wpAny_Expr_any (h.run s ι E _ I V fun v s' ι' p μ' S I' r k => hQ _ s' ι' .next ρ μ' S.f I' (V.step O I S) rfl k) hi hs⟩
theorem WS.del1 {o i : Expr} {p pos : Pos} (O : c.Ok)
    (h : WE c A o env ρ μ fun p μ₁ => WE c A i env ρ μ₁ fun q μ₂ => ∃ j n ps k, p = .loc j ∧ q = .int n ∧ μ₂[j]? = some (.lst ps) ∧ seqIndex? n ps.length = some k ∧ ps.length ≤ 1000000 ∧ -1000000 ≤ n ∧ n ≤ 1000000 ∧ KS .next ρ (μ₂.set j (.lst (ps.eraseIdx k)))) : WS c A (.Delete [.Subscript o i p] pos) env ρ μ KS := ⟨fun s ι E Q I V hQ => by
  refine wpAny_Delete (wpAny_deleteEach_cons (wpAny_delete_Subscript (h.run s ι E _ I V fun ov s₁ ι₁ p μ₁ S₁ I₁ r₁ k₁ => ?_)))
  refine k₁.run s₁ ι₁ E _ I₁ (V.step O I S₁) fun iv s₂ ι₂ q μ₂ S₂ I₂ r₂ k₂ => ?_
  obtain ⟨j, n, ps, k, rfl, rfl, hj, hk, hb, hn1, hn2, k₂⟩ := k₂
  obtain ⟨a, vs, m, rfl, ha, ea, ra⟩ := I₂.lst hj (I₁.rep O S₂ r₁)
  simp only [RepV] at r₂
  obtain ⟨t, rfl⟩ := r₂
  have hl := RepL.length ps vs ra
  refine wpAny_delItem_plain (items := vs.toArray) (k := k) ⟨m, ea⟩ ?_ (by rw [show vs.toArray.size = ps.length by simp [hl]]; exact hk) (fun h' e' sb => ?_) (by simp only [List.size_toArray]; rw [hl, sizeLine_eq]; omega)
  · unfold Builtin.List.listFitsIndex; simp only [Bool.and_eq_true, decide_eq_true_eq]; omega
  · obtain ⟨m', e'⟩ := e'
    have rr : ∀ (ps : List PV) (vs : List Value) (k : Nat), RepL s₂.heap ι₂ ps vs → RepL s₂.heap ι₂ (ps.eraseIdx k) (vs.eraseIdx k) := by
      intro ps
      induction ps with
      | nil => intro vs k r; simp only [RepL] at r; subst r; simp only [List.eraseIdx_nil, RepL]
      | cons p ps ih =>
        intro vs k r
        simp only [RepL] at r
        obtain ⟨v, r', rfl, h1, h2⟩ := r
        cases k with
        | zero => simpa only [List.eraseIdx_cons_zero] using h2
        | succ k => simp only [List.eraseIdx_cons_succ, RepL]; exact ⟨v, _, rfl, h1, ih _ _ h2⟩
    have ev : (vs.toArray.eraseIdxIfInBounds k) = (vs.eraseIdx k).toArray := by simp
    rw [ev] at e'
    have g := I₂.put O ha (s' := { s₂ with heap := h' }) (m := .lst (ps.eraseIdx k)) (fun b o e hb => sb.extBut b o hb e) ⟨_, e'⟩ (fun _ rl => ⟨_, m', e', rl _ _ (rr ps vs k ra)⟩) I₂.bare rfl I₂.tp
    exact wpAny_deleteEach_nil (hQ _ _ ι₂ .next ρ _ ((S₁.trans S₂).trans g.2).f g.1 (((V.step O I S₁).step O I₁ S₂).step O I₂ g.2) rfl k₂)⟩
theorem WC.append {i : Nat} {ps : List PV} {p : PV} {K : PV → Mu → Prop} (O : c.Ok) (hi : μ[i]? = some (.lst ps)) (hb : ps.length ≤ 1000000) (k : K .none (μ.set i (.lst (ps ++ [p])))) : WC c A (.builtin "list.append") [.loc i, p] μ K := ⟨fun s ι E Q vs I r hQ => by
  simp only [RepL] at r
  obtain ⟨v, _, rfl, r1, w, _, rfl, r2, rfl⟩ := r
  obtain ⟨a, vs, m, rfl, ha, ea, ra⟩ := I.lst hi r1
  have hl := RepL.length ps vs ra
  refine wpAny_list_append_plain (items := vs.toArray) ⟨m, ea⟩ (fun h' e' sb => ?_) (by simp only [List.size_toArray]; rw [hl, sizeLine_eq]; omega)
  obtain ⟨m', e'⟩ := e'
  have ev : vs.toArray.push w = (vs ++ [w]).toArray := by simp
  rw [ev] at e'
  have g := I.put O ha (s' := { s with heap := h' }) (m := .lst (ps ++ [p])) (fun b o e hb => sb.extBut b o hb e) ⟨_, e'⟩ (fun rv rl => ⟨_, m', e', RepL.append _ _ _ _ (rl _ _ ra) (by simp only [RepL]; exact ⟨_, _, rfl, rv _ _ r2, rfl⟩)⟩) I.bare rfl I.tp
  exact hQ _ _ ι .none _ g.2 g.1 (by simp only [RepV]) k⟩

/- ---- tuples as targets ---- -/
inductive UpdL : Rho → List (Str × PV) → Rho → Prop
  | nil {σ : Rho} : UpdL σ [] σ
  | cons {σ ρ₁ ρ₂ : Rho} {x : Str} {p : PV} {r : List (Str × PV)} : UpdI σ x p ρ₁ → UpdL ρ₁ r ρ₂ → UpdL σ ((x, p) :: r) ρ₂
/-- stores of values in hand, one after the other -/
structure WAs (c : Cx) (A : Around) (ts : List (Value → Sem Unit)) (env : Env) (ps : List PV) (ρ : Rho) (μ : Mu) (K : Rho → Prop) : Prop where
  run : ∀ (s : Shared) (ι : Iota) (E : Value → Shared → Prop) (Q : Unit → Shared → Prop) (vs : List Value), Inv c s ι μ → EnvOk c env ρ s ι → RepL s.heap ι ps vs →
    (∀ s' ρ', StepF c env s ι s' ι → Inv c s' ι μ → EnvOk c env ρ' s' ι → K ρ' → Q () s') → wpAny (model c.prog c.w) A (assignInOrder ts vs) Q E s
theorem WAs.nil {K : Rho → Prop} (h : K ρ) : WAs c A [] env [] ρ μ K := ⟨fun s ι E Q vs I V r hQ => by
  simp only [RepL] at r; subst r
  exact wpAny_assignInOrder_none (hQ s ρ (StepF.refl ..) I V h)⟩
theorem WAs.cons {t : Expr} {ts : List (Value → Sem Unit)} {p : PV} {ps : List PV} {K : Rho → Prop} (O : c.Ok) (h : WA c A t env p ρ μ fun ρ' => WAs c A ts env ps ρ' μ K) : WAs c A ((fun v => assign t env v) :: ts) env (p :: ps) ρ μ K := ⟨fun s ι E Q vs I V r hQ => by
  simp only [RepL] at r
  obtain ⟨v, r', rfl, h1, h2⟩ := r
  refine wpAny_assignInOrder_more (h.run s ι E _ v I V h1 fun s₁ ρ₁ S₁ I₁ V₁ k₁ => ?_)
  exact k₁.run s₁ ι E Q r' I₁ V₁ (I.repLF O V S₁ h2) fun s₂ ρ₂ S₂ I₂ V₂ k₂ => hQ s₂ ρ₂ (S₁.trans S₂) I₂ V₂ k₂⟩
theorem WAs.bind {x : Str} {ts : List (Value → Sem Unit)} {p : PV} {ps : List PV} {ρ' : Rho} {K : Rho → Prop} (O : c.Ok) (u : UpdI ρ x p ρ')
    (hk : env.kindOf x = some .local ∨ (env.kindOf x = some .cell ∧ (env.cells.lookup x).isSome = true)) (hd : (x == ("__debug__" : Str)) = false) (h : WAs c A ts env ps ρ' μ K) : WAs c A ((fun v => bindName env x v) :: ts) env (p :: ps) ρ μ K := ⟨fun s ι E Q vs I V r hQ => by
  simp only [RepL] at r
  obtain ⟨v, r', rfl, h1, h2⟩ := r
  refine wpAny_assignInOrder_more (wpAny_bindName (store_run O I V h1 u hk hd fun s₁ S₁ I₁ V₁ => ?_))
  exact h.run s₁ ι E Q r' I₁ V₁ (I.repLF O V S₁ h2) fun s₂ ρ₂ S₂ I₂ V₂ k₂ => hQ s₂ ρ₂ (S₁.trans S₂) I₂ V₂ k₂⟩
theorem extBut_new {h h' : Heap} (e : Heap.ExtBut h.objs.size h h') (b : Addr) (o : Obj) (x : h.get? b = some o) : h'.get? b = some o :=
  e b o (fun q => by rw [q, fresh_size] at x; cases x) x
theorem WA.tuple {elts : List Expr} {k : Nat} {pos : Pos} {ps : List PV} {K : Rho → Prop} (O : c.Ok) (a : A.handled = none) (hl : elts.all notStar = true) (hn : elts.length = ps.length)
    (h : WAs c A (elts.map fun t v => assign t env v) env ps ρ μ K) : WA c A (.Tuple elts k pos) env (.tup ps) ρ μ K := ⟨fun s ι E Q v I V r hQ => by
  simp only [RepV] at r
  obtain ⟨b, vs, n, rfl, e, rl⟩ := r
  have hlen := RepL.length ps vs rl
  have ea : ∀ es : List Expr, es.all notStar = true → assignEach es env = es.map fun t => (false, fun v => assign t env v) := by
    intro es
    induction es with
    | nil => intro _; rfl
    | cons x xs ih =>
      intro hx
      rw [List.all_cons, Bool.and_eq_true] at hx
      rw [List.map_cons, ← ih hx.2]
      cases x <;> first | rfl | (exact absurd hx.1 (by simp [notStar]))
  have e1 := ea elts hl
  refine wpAny_assign_Tuple (items := vs.toArray) a (tup_isTuple e) (by rw [e1]; simp [hlen, hn]) (by
    rw [e1]
    simp [List.findIdx?_map, Function.comp_def]) fun h' eb => ?_
  have g := I.grow O (s' := { s with heap := h' }) (extBut_new eb) I.bare rfl I.tp
  rw [e1, List.map_map]
  exact h.run _ ι E Q vs g.1 (V.step O I g.2) (I.repL O g.2 rl) fun s₂ ρ₂ S₂ I₂ V₂ k₂ => hQ s₂ ρ₂ (g.2.f.trans S₂) I₂ V₂ k₂⟩
theorem WS.assign_tup {elts : List Expr} {k : Nat} {tpos pos : Pos} {e : Expr} (O : c.Ok)
    (h : WE c A e env ρ μ fun p μ' => WA c A (.Tuple elts k tpos) env p ρ μ' fun ρ' => KS .next ρ' μ')
    (h1 : swapsWithSole [.Tuple elts k tpos] e pos.line env = pure false) (h2 : swappedStores [.Tuple elts k tpos] e env = pure none) : WS c A (.Assign [.Tuple elts k tpos] e pos) env ρ μ KS := ⟨fun s ι E Q I V hQ => by
  refine PyProof.Rows.Assign_Tuple (h.run s ι E _ I V fun v s₁ ι₁ p μ₁ S₁ I₁ r₁ k₁ => ?_) h1 h2
  exact k₁.run s₁ ι₁ E _ v I₁ (V.step O I S₁) r₁ fun s₂ ρ₂ S₂ I₂ V₂ k₂ => hQ _ s₂ ι₁ .next ρ₂ μ₁ (S₁.f.trans S₂) I₂ V₂ rfl k₂⟩
theorem RepL.rev {h : Heap} {ι : Iota} {ps : List PV} {vs : List Value} (r : RepL h ι ps vs) : RepL h ι ps.reverse vs.reverse := RepL.reverse ps vs r
theorem WS.assign_swap {elts : List Expr} {k : Nat} {tpos pos : Pos} {e : Expr} {names : List Str} (O : c.Ok) (a : A.handled = none)
    (h : WE c A e env ρ μ fun p μ' => ∃ ps, p = .tup ps ∧ ps.length = names.length ∧ WAs c A (names.reverse.map fun n v => bindName env n v) env ps.reverse ρ μ' fun ρ' => KS .next ρ' μ')
    (h1 : swapsWithSole [.Tuple elts k tpos] e pos.line env = pure false) (h2 : swappedStores [.Tuple elts k tpos] e env = pure (some names)) : WS c A (.Assign [.Tuple elts k tpos] e pos) env ρ μ KS := ⟨fun s ι E Q I V hQ => by
  refine PyProof.Rows.Assign_Tuple_swapped (h.run s ι E _ I V fun v s₁ ι₁ p μ₁ S₁ I₁ r₁ k₁ => ?_) h1 h2
  obtain ⟨ps, rfl, hl, k₁⟩ := k₁
  simp only [RepV] at r₁
  obtain ⟨b, vs, n, rfl, eb, rl⟩ := r₁
  have hlen := RepL.length ps vs rl
  have hn : names.length = vs.toArray.size := by simp [hlen, hl]
  rw [hn]
  refine wpAny_unpackItems_tuple a (tup_isTuple eb) fun h' ex => ?_
  have g := I₁.grow O (s' := { s₁ with heap := h' }) (extBut_new ex) I₁.bare rfl I₁.tp
  exact k₁.run _ ι₁ E _ vs.reverse g.1 (V.step O I (S₁.trans g.2)) (I₁.repL O g.2 rl).rev fun s₂ ρ₂ S₂ I₂ V₂ k₂ => hQ _ s₂ ι₁ .next ρ₂ μ₁ ((S₁.trans g.2).f.trans S₂) I₂ V₂ rfl k₂⟩
end
end Mine
namespace Mine

/-- what a comprehension may touch: the store, its own variables (L), its iterator (J) -/
structure StepC (c : Cx) (L J : Addr) (s : Shared) (ι : Iota) (s' : Shared) (ι' : Iota) : Prop where
  keep : ∀ b o, s.heap.get? b = some o → b ∉ ι → b ∉ c.X → b ≠ L → b ≠ J → s'.heap.get? b = some o
  there : ∀ b o, s.heap.get? b = some o → b ≠ J → ∃ o', s'.heap.get? b = some o'
  ext : ∃ l, ι' = ι ++ l ∧ ∀ a ∈ l, s.heap.get? a = none
theorem StepC.off {c : Cx} {L J : Addr} {s s' : Shared} {ι ι' : Iota} (x : StepC c L J s ι s' ι') {b : Addr} {o : Obj} (e : s.heap.get? b = some o) (hb : b ∉ ι) : b ∉ ι' := fun hm => by
  obtain ⟨l, rfl, hl⟩ := x.ext
  rcases List.mem_append.mp hm with h | h
  · exact hb h
  · rw [hl b h] at e; cases e
/-- the iterator is still there in the midst -/
theorem StepC.trans {c : Cx} {L J : Addr} {s s₁ s₂ : Shared} {ι ι₁ ι₂ : Iota} (x : StepC c L J s ι s₁ ι₁) (hJ : ∃ o, s₁.heap.get? J = some o) (y : StepC c L J s₁ ι₁ s₂ ι₂) : StepC c L J s ι s₂ ι₂ := by
  refine ⟨fun b o e hb hX hL hJ => y.keep b o (x.keep b o e hb hX hL hJ) (x.off e hb) hX hL hJ, fun b o e hb => ?_, ?_⟩
  · obtain ⟨o', e'⟩ := x.there b o e hb
    exact y.there b o' e' hb
  · obtain ⟨l, rfl, hl⟩ := x.ext
    obtain ⟨l', rfl, hl'⟩ := y.ext
    refine ⟨l ++ l', by simp, fun a ha => ?_⟩
    rcases List.mem_append.mp ha with h | h
    · exact hl a h
    · cases q : s.heap.get? a with
      | none => rfl
      | some o =>
        by_cases hq : a = J
        · subst hq; obtain ⟨o', e'⟩ := hJ; rw [hl' a h] at e'; cases e'
        · obtain ⟨o', e'⟩ := x.there a o q hq; rw [hl' a h] at e'; cases e'
theorem Step.c {c : Cx} {L J : Addr} {s s' : Shared} {ι ι' : Iota} (S : Step c s ι s' ι') : StepC c L J s ι s' ι' := ⟨fun b o e h1 h2 _ _ => S.keep b o e h1 h2, fun b o e _ => S.there b o e, S.ext⟩

/-- stores into the frame's own variables alone -/
structure StepL (c : Cx) (L : Addr) (s : Shared) (ι : Iota) (s' : Shared) (ι' : Iota) : Prop where
  keep : ∀ b o, s.heap.get? b = some o → b ∉ ι → b ∉ c.X → b ≠ L → s'.heap.get? b = some o
  there : ∀ b o, s.heap.get? b = some o → ∃ o', s'.heap.get? b = some o'
  ext : ∃ l, ι' = ι ++ l ∧ ∀ a ∈ l, s.heap.get? a = none
theorem StepL.c {c : Cx} {L J : Addr} {s s' : Shared} {ι ι' : Iota} (S : StepL c L s ι s' ι') : StepC c L J s ι s' ι' := ⟨fun b o e h1 h2 h3 _ => S.keep b o e h1 h2 h3, fun b o e _ => S.there b o e, S.ext⟩
theorem StepL.f {c : Cx} {env : Env} {s s' : Shared} {ι ι' : Iota} (S : StepL c env.locals s ι s' ι') : StepF c env s ι s' ι' := ⟨fun b o e h1 h2 h3 _ => S.keep b o e h1 h2 h3, S.there, S.ext⟩
section
variable {c : Cx} {A : Around} {env : Env} {ρ : Rho} {μ : Mu}

/-- an assignment that touches the frame's own variables alone -/
structure WAL (c : Cx) (A : Around) (t : Expr) (env : Env) (p : PV) (ρ : Rho) (μ : Mu) (K : Rho → Prop) : Prop where
  run : ∀ (s : Shared) (ι : Iota) (E : Value → Shared → Prop) (Q : Unit → Shared → Prop) (v : Value), Inv c s ι μ → EnvOk c env ρ s ι → RepV s.heap ι p v →
    (∀ s' ρ', StepL c env.locals s ι s' ι → Inv c s' ι μ → EnvOk c env ρ' s' ι → K ρ' → Q () s') → wpAny (model c.prog c.w) A (assign t env v) Q E s

theorem store_runL (O : c.Ok) {ρ' : Rho} {s : Shared} {ι : Iota} {x : Str} {p : PV} {v : Value} {E : Value → Shared → Prop} {Q : Unit → Shared → Prop}
    (I : Inv c s ι μ) (V : EnvOk c env ρ s ι) (r : RepV s.heap ι p v) (u : UpdI ρ x p ρ') (hk : env.kindOf x = some .local) (hd : (x == ("__debug__" : Str)) = false)
    (h : ∀ s', StepL c env.locals s ι s' ι → Inv c s' ι μ → EnvOk c env ρ' s' ι → Q () s') : wpAny (model c.prog c.w) A (storeName env x v) Q E s := by
  obtain ⟨m, hn, hi, hm⟩ := V.ns
  have xi : x ≠ ("_initial_size" : Str) := fun q => by
    have := V.ini
    rw [q, this] at hk; cases hk
  have hp : (env.scope.kind == .class || (env.scope.kind == .module && env.locals != env.globals)) = false := by rw [V.kind]; rfl
  refine wpAny_storeName_local hk hn (fun h' hn' hs' => ?_) hp
  have S : StepL c env.locals s ι { s with heap := h', toks := s.toks + 1 } ι := ⟨fun b o e _ _ hb => hs'.extBut b o hb e, fun b o e => by
    by_cases hb : b = env.locals
    · subst hb; obtain ⟨o', _, _, e', _⟩ := hn'; exact ⟨o', e'⟩
    · exact ⟨o, hs'.extBut b o hb e⟩, [], by simp, by simp⟩
  have I' := I.frame O V S.f (fun b o e hb _ => hs'.extBut b o hb e) I.bare rfl (Nat.succ_pos _)
  refine h _ S I' ⟨V.kind, V.glo, V.bi, V.ini, ⟨_, hn', by rw [if_neg (Ne.symm xi)]; exact hi, fun y q hy => ?_⟩, u.nd V.nd, V.loc, fun y cc hcc => ?_, V.inj⟩
  · rcases u.mem V.nd y q hy with ⟨rfl, rfl⟩ | ⟨hne, hy⟩
    · exact ⟨hd, .inl ⟨hk, v, by simp, I.repF O V S.f r⟩⟩
    · obtain ⟨h1, h2⟩ := hm y q hy
      refine ⟨h1, ?_⟩
      rcases h2 with ⟨a, v', b, r'⟩ | ⟨a, cc, v', b, ⟨o, e, d⟩, r'⟩
      · exact .inl ⟨a, v', (if_neg hne).trans b, I.repF O V S.f r'⟩
      · exact .inr ⟨a, cc, v', b, ⟨o, hs'.extBut _ _ (V.cell y cc b).2.2.2.1 e, d⟩, I.repF O V S.f r'⟩
  · obtain ⟨⟨v', o, e, d⟩, h1, h2, h3, h4⟩ := V.cell y cc hcc
    exact ⟨⟨v', o, hs'.extBut _ _ h3 e, d⟩, h1, h2, h3, h4⟩
theorem WAL.name {x : Str} {pos : Pos} {p : PV} {K : Rho → Prop} {ρ' : Rho} (O : c.Ok) (u : UpdI ρ x p ρ') (hk : env.kindOf x = some .local) (hd : (x == ("__debug__" : Str)) = false) (h : K ρ') : WAL c A (.Name x pos) env p ρ μ K := ⟨fun s ι E Q v I V r hQ =>
  wpAny_assign_Name (store_runL O I V r u hk hd fun s' S I' V' => hQ s' ρ' S I' V' h)⟩
structure WALs (c : Cx) (A : Around) (ts : List (Value → Sem Unit)) (env : Env) (ps : List PV) (ρ : Rho) (μ : Mu) (K : Rho → Prop) : Prop where
  run : ∀ (s : Shared) (ι : Iota) (E : Value → Shared → Prop) (Q : Unit → Shared → Prop) (vs : List Value), Inv c s ι μ → EnvOk c env ρ s ι → RepL s.heap ι ps vs →
    (∀ s' ρ', StepL c env.locals s ι s' ι → Inv c s' ι μ → EnvOk c env ρ' s' ι → K ρ' → Q () s') → wpAny (model c.prog c.w) A (assignInOrder ts vs) Q E s
/-- a comprehension's tests -/
structure WIfs (c : Cx) (A : Around) (ifs : List Expr) (env : Env) (ρ : Rho) (μ : Mu) (K : Bool → Mu → Prop) : Prop where
  run : ∀ (s : Shared) (ι : Iota) (E : Value → Shared → Prop) (Q : Bool → Shared → Prop), Inv c s ι μ → EnvOk c env ρ s ι →
    (∀ b s' ι' μ', Step c s ι s' ι' → Inv c s' ι' μ' → K b μ' → Q b s') → wpAny (model c.prog c.w) A (forIn ifs true fun t r => if r = true then do let ok ← isTrue t env (eval t env); pure (ForInStep.yield ok) else pure (ForInStep.yield r)) Q E s
theorem WIfs.nil {K : Bool → Mu → Prop} (h : K true μ) : WIfs c A [] env ρ μ K := ⟨fun s ι E Q I V hQ => wpAny_tests_nil (hQ true s ι μ (Step.refl ..) I h)⟩
theorem WIfs.one {t : Expr} {K : Bool → Mu → Prop} (h : WB c A t env ρ μ K) : WIfs c A [t] env ρ μ K := ⟨fun s ι E Q I V hQ => wpAny_tests_one (h.run s ι E Q I V hQ)⟩

theorem compLoop_turn {elt target iter : Expr} {ifs : List Expr} {scope : Scope} {pos : Pos} {it acc : Value} {cenv : Env} {R : Result → Shared → Prop} {s : Shared}
    (h : ∀ E, wpAny (model c.prog c.w) A (pyNext it) (fun r s₁ => match r with
      | none => R (.ok .next) s₁
      | some v => wpAny (model c.prog c.w) A (letOwnedTupleGo target it v) (fun _ s₁' => wpAny (model c.prog c.w) A (assign target cenv v) (fun _ s₂ =>
          wpAny (model c.prog c.w) A (forIn ifs true fun t r => if r = true then do let ok ← isTrue t cenv (eval t cenv); pure (ForInStep.yield ok) else pure (ForInStep.yield r)) (fun ok s₃ =>
            if ok = true then wpAny (model c.prog c.w) A (eval elt cenv) (fun x s₄ =>
              wpAny (model c.prog c.w) A (call (.builtin "list.append") [acc, x]) (fun _ s₅ => codeAny (model c.prog c.w) A (.compLoop (.ListComp elt [⟨target, iter, ifs, 0⟩] scope pos) 0 it acc cenv) R s₅) E s₄) E s₃
            else codeAny (model c.prog c.w) A (.compLoop (.ListComp elt [⟨target, iter, ifs, 0⟩] scope pos) 0 it acc cenv) R s₃) E s₂) E s₁') E s₁) E s) :
    codeAny (model c.prog c.w) A (.compLoop (.ListComp elt [⟨target, iter, ifs, 0⟩] scope pos) 0 it acc cenv) R s := by
  refine codeAny_of_tree ?_
  show wpAny _ A ((compTurn (.ListComp elt [⟨target, iter, ifs, 0⟩] scope pos) 0 it acc cenv).onRaise (fun x => do noteFrame x cenv; theTreesLotGoes x)) _ _ s
  refine wpAny_noted ?_
  rw [compTurn_list]
  refine wpAny_bind (wpAny_standAt (wpAny_bind (wpAny_mono (h _) (fun r s₁ h₁ => ?_) fun _ _ h' => h')))
  cases r with
  | none => exact wpAny_pure h₁
  | some v =>
    refine wpAny_bind (wpAny_mono h₁ (fun _ s₁' h₁' => ?_) fun _ _ h' => h')
    refine wpAny_bind (wpAny_mono h₁' (fun _ s₂ h₂ => wpAny_bind (wpAny_mono h₂ (fun ok s₃ h₃ => ?_) fun _ _ h' => h')) fun _ _ h' => h')
    cases ok with
    | false => exact wpAny_pure ⟨rfl, h₃⟩
    | true =>
      exact wpAny_bind (wpAny_bind (wpAny_mono h₃ (fun x s₄ h₄ => wpAny_bind (wpAny_mono h₄ (fun _ s₅ h₅ => wpAny_pure (wpAny_pure ⟨rfl, h₅⟩)) fun _ _ h' => h')) fun _ _ h' => h'))

/-- a comprehension's turns from place j on; the list under way stands at place i of the store -/
structure WCL (c : Cx) (A : Around) (e : Expr) (cenv : Env) (p : PV) (i : Nat) (ρ : Rho) (K : Mu → Prop) (j : Nat) (μ : Mu) : Prop where
  run : ∀ (s : Shared) (ι : Iota) (J D : Addr) (R : Result → Shared → Prop), Inv c s ι μ → EnvOk c cenv ρ s ι → IterAt s.heap ι J j p → c.hB.get? J = none → ι[i]? = some D →
    (∀ s' ι' μ', StepC c cenv.locals J s ι s' ι' → Inv c s' ι' μ' → EnvOk c cenv ρ s' ι' → K μ' → R (.ok .next) s') → codeAny (model c.prog c.w) A (.compLoop e 0 (.ref J) (.ref D) cenv) R s

theorem WCL.step {elt tgt iter : Expr} {ifs : List Expr} {scope : Scope} {pos : Pos} {cenv : Env} {p : PV} {i j : Nat} {K : Mu → Prop} {its : List PV} {q : PV} (O : c.Ok) (a : A.handled = none) (hits : itemsOf μ p = some its) (hq : its[j]? = some q)
    (hp : ∀ i, p = .loc i → ∃ l, μ[i]? = some (.lst l))
    (h : WAL c A tgt cenv q ρ μ fun ρ' => (∀ y ∈ ρ, y ∈ ρ') ∧ WIfs c A ifs cenv ρ' μ fun ok μ₁ => if ok = true then
        WE c A elt cenv ρ' μ₁ fun x μ₂ => ∃ ps, μ₂[i]? = some (.lst ps) ∧ ps.length ≤ 1000000 ∧ WCL c A (.ListComp elt [⟨tgt, iter, ifs, 0⟩] scope pos) cenv p i ρ K (j + 1) (μ₂.set i (.lst (ps ++ [x])))
      else WCL c A (.ListComp elt [⟨tgt, iter, ifs, 0⟩] scope pos) cenv p i ρ K (j + 1) μ₁) : WCL c A (.ListComp elt [⟨tgt, iter, ifs, 0⟩] scope pos) cenv p i ρ K j μ := ⟨fun s ι J D R I V x nB hD hR => by
  refine compLoop_turn fun E => ?_
  refine next_run O a I x hits hp (fun q' v h' tk htk hq' k x' r => ?_) (fun h' tk _ hn _ => by rw [hq] at hn; cases hn)
  rw [hq] at hq'; cases hq'
  obtain ⟨oJ, eJ, hJ⟩ := x.obj
  have sc := I.scratch (env := cenv) (ρ := ρ) O eJ hJ nB (s' := { s with heap := h', toks := tk }) k I.bare rfl (Nat.lt_of_lt_of_le I.tp htk)
  obtain ⟨oJ', eJ', hJ'⟩ := x'.obj
  refine letGo_run eJ' hJ' ?_
  have S0 : StepC c cenv.locals J s ι { s with heap := h', toks := tk } ι := ⟨fun b o e _ _ _ hb => k b o e hb, fun b o e hb => ⟨o, k b o e hb⟩, [], by simp, by simp⟩
  refine h.run _ ι E _ v sc.1 (sc.2.2.2 V) (sc.2.1 _ _ r) fun s₂ ρ₂ S₂ I₂ V₂ k₂ => ?_
  obtain ⟨hsub, k₂⟩ := k₂
  have x₂ : IterAt s₂.heap ι J (j + 1) p := IterAt.stepF O sc.1 (sc.2.2.2 V) S₂.f x'
  refine k₂.run s₂ ι E _ I₂ V₂ fun ok s₃ ι₃ μ₃ S₃ I₃ k₃ => ?_
  have x₃ : IterAt s₃.heap ι₃ J (j + 1) p := IterAt.stepF O I₂ V₂ S₃.f x₂
  have V₃ := V₂.step O I₂ S₃
  have nd := V.nd
  have ex₂ := x₂.obj
  have S02 : StepC c cenv.locals J s ι s₂ ι := S0.trans ⟨_, eJ'⟩ S₂.c
  have hJ₂ : ∃ o, s₂.heap.get? J = some o := ⟨_, ex₂.choose_spec.1⟩
  have S03 := S02.trans hJ₂ (S₃.c (L := cenv.locals) (J := J))
  have hJ₃ : ∃ o, s₃.heap.get? J = some o := ⟨_, x₃.obj.choose_spec.1⟩
  have hD₃ : ι₃[i]? = some D := by obtain ⟨l, rfl, _⟩ := S₃.ext; exact getElem?_ext hD l
  cases ok with
  | false =>
    exact WCL.run k₃ s₃ ι₃ J D R I₃ (V₃.less hsub nd) x₃ nB hD₃ fun s' ι' μ' S' I' V' k' => hR s' ι' μ' (S03.trans hJ₃ S') I' V' k'
  | true =>
    refine WE.run k₃ s₃ ι₃ E _ I₃ V₃ fun xv s₄ ι₄ xp μ₄ S₄ I₄ r₄ k₄ => ?_
    obtain ⟨ps, hps, hb, k₄⟩ := k₄
    have x₄ : IterAt s₄.heap ι₄ J (j + 1) p := IterAt.stepF O I₃ V₃ S₄.f x₃
    have V₄ := V₃.step O I₃ S₄
    have hJ₄ : ∃ o, s₄.heap.get? J = some o := ⟨_, x₄.obj.choose_spec.1⟩
    have S04 := S03.trans hJ₃ (S₄.c (L := cenv.locals) (J := J))
    have hD₄ : ι₄[i]? = some D := by obtain ⟨l, rfl, _⟩ := S₄.ext; exact getElem?_ext hD₃ l
    refine (WC.append (p := xp) (K := fun _ m => m = μ₄.set i (.lst (ps ++ [xp]))) O hps hb rfl).run s₄ ι₄ E _ [.ref D, xv] I₄ (by simp only [RepL, RepV]; exact ⟨_, _, rfl, ⟨D, rfl, hD₄⟩, _, _, rfl, r₄, rfl⟩) fun v₅ s₅ ι₅ p₅ μ₅ S₅ I₅ r₅ k₅ => ?_
    subst k₅
    have x₅ : IterAt s₅.heap ι₅ J (j + 1) p := IterAt.stepF O I₄ V₄ S₅.f x₄
    have hD₅ : ι₅[i]? = some D := by obtain ⟨l, rfl, _⟩ := S₅.ext; exact getElem?_ext hD₄ l
    have hJ₅ : ∃ o, s₅.heap.get? J = some o := ⟨_, x₅.obj.choose_spec.1⟩
    have S05 := S04.trans hJ₄ (S₅.c (L := cenv.locals) (J := J))
    exact WCL.run k₄ s₅ ι₅ J D R I₅ ((V₄.step O I₄ S₅).less hsub nd) x₅ nB hD₅ fun s' ι' μ' S' I' V' k' => hR s' ι' μ' (S05.trans hJ₅ S') I' V' k'⟩
theorem WCL.done {elt tgt iter : Expr} {ifs : List Expr} {scope : Scope} {pos : Pos} {cenv : Env} {p : PV} {i j : Nat} {K : Mu → Prop} {its : List PV} (O : c.Ok) (a : A.handled = none) (hits : itemsOf μ p = some its) (hq : its[j]? = none)
    (hp : ∀ i, p = .loc i → ∃ l, μ[i]? = some (.lst l)) (h : K μ) : WCL c A (.ListComp elt [⟨tgt, iter, ifs, 0⟩] scope pos) cenv p i ρ K j μ := ⟨fun s ι J D R I V x nB hD hR => by
  refine compLoop_turn fun E => ?_
  refine next_run O a I x hits hp (fun q' v h' tk _ hq' k x' r => by rw [hq] at hq'; cases hq') (fun h' tk htk hn k => ?_)
  obtain ⟨oJ, eJ, hJ⟩ := x.obj
  have sc := I.scratch (env := cenv) (ρ := ρ) O eJ hJ nB (s' := { s with heap := h', toks := tk }) k I.bare rfl (Nat.lt_of_lt_of_le I.tp htk)
  exact hR _ ι μ ⟨fun b o e _ _ _ hb => k b o e hb, fun b o e hb => ⟨o, k b o e hb⟩, [], by simp, by simp⟩ sc.1 (sc.2.2.2 V) h⟩

/-- iter of an iterator is itself -/
theorem selfIter_run {s : Shared} {ι : Iota} {J : Addr} {j : Nat} {p : PV} {E Q : Value → Shared → Prop} (x : IterAt s.heap ι J j p) (h : Q (.ref J) s) : wpAny (model c.prog c.w) A (pyIter (.ref J)) Q E s := by
  cases p <;> simp only [IterAt] at x
  case loc i => obtain ⟨a, _, hx⟩ := x; exact wpAny_pyIter_listiter hx h
  case str y =>
    obtain ⟨T, t, hT, hx⟩ := x
    rcases hT with rfl | rfl
    · exact wpAny_pyIter_striter_ascii hx h
    · exact wpAny_pyIter_striter_wide hx h
  case rng lo hi => exact wpAny_pyIter_rangeiter x h
  case tup ps => obtain ⟨a, vs, n, hx, _⟩ := x; exact wpAny_pyIter_tupleiter hx h

/-- what a comprehension's own frame must be -/
structure CompOk (scope : Scope) (env : Env) (cl : List (Str × Addr)) (ρ ρc : Rho) : Prop where
  clos : closureFor scope env = pure cl
  kind : scope.kind = .function
  names : ∀ x ∈ scope.names, x.2 = .local → scope.names.lookup x.1 = some .local
  nocell : ∀ x ∈ scope.names, x.2 ≠ .cell
  ini : ∀ C, (compEnvC scope cl C env).kindOf ("_initial_size" : Str) = none
  sub : ∀ x cc, cl.lookup x = some cc → env.cells.lookup x = some cc
  rho : ∀ x p, (x, p) ∈ ρc → (x, p) ∈ ρ ∧ (cl.lookup x).isSome = true ∧ (∀ C, (compEnvC scope cl C env).kindOf x = some .cell) ∧ (env.kindOf x = some .cell ∨ env.kindOf x = some .free)
  nd : (ρc.map (·.1)).Nodup

theorem Inv.fresh (O : c.Ok) {s : Shared} {ι : Iota} (I : Inv c s ι μ) {a : Addr} (h : s.heap.get? a = none) : a ∉ ι ∧ a ∉ c.X ∧ c.hB.get? a = none := by
  refine ⟨fun hm => ?_, fun hm => ?_, ?_⟩
  · obtain ⟨o, e', _⟩ := I.at hm
    rw [h] at e'; cases e'
  · obtain ⟨vs', e'⟩ := O.tX _ I.tab a hm
    rw [h] at e'; cases e'
  · cases q : c.hB.get? a with
    | none => rfl
    | some o =>
      by_cases hx : a ∈ c.X
      · obtain ⟨vs', e'⟩ := O.tX _ I.tab a hx
        rw [h] at e'; cases e'
      · rw [I.old a o q hx] at h; cases h

theorem comp_core {elt tgt iter : Expr} {ifs : List Expr} {scope : Scope} {pos cpos : Pos} {cl : List (Str × Addr)} {ρc : Rho} {use : Option (Value → Sem Unit)} {K : Nat → Mu → Prop} (O : c.Ok) (ok : CompOk scope env cl ρ ρc)
    (hfold : ∀ x, foldedSetIterable iter env x = pure x)
    (h : WE c A iter env ρ μ fun p μ₁ => (∃ its, itemsOf μ₁ p = some its) ∧ (∀ i, p = .loc i → ∃ l, μ₁[i]? = some (.lst l)) ∧ (∀ lo hi, p = .rng lo hi → -1000000 ≤ lo ∧ lo ≤ 1000000 ∧ -1000000 ≤ hi ∧ hi ≤ 1000000) ∧
      ∀ C, WCL c A (.ListComp elt [⟨tgt, iter, ifs, 0⟩] scope pos) (compEnvC scope cl C env) p μ₁.length ρc (K μ₁.length) 0 (μ₁ ++ [.lst []]))
    {s : Shared} {ι : Iota} {E Q : Value → Shared → Prop} (I : Inv c s ι μ) (V : EnvOk c env ρ s ι)
    (hQ : ∀ D C s' ι' i μ', Step c s ι s' ι' → Inv c s' ι' μ' → ι'[i]? = some D → K i μ' → s.heap.get? C = none → EnvOk c (compEnvC scope cl C env) ρc s' ι' → compPost (model c.prog c.w) A E use Q (.ref D) C (.ok .next) s') :
    wpAny (model c.prog c.w) A (comprehension (.ListComp elt [⟨tgt, iter, ifs, 0⟩] scope pos) scope env cpos (newList []) false (eval iter env) use) Q E s := by
  refine wpAny_comprehension_free (g := ⟨tgt, iter, ifs, 0⟩) (gs := []) rfl hfold ok.clos ok.kind ok.names ?_
  refine h.run s ι E _ I V fun v s₁ ι₁ p μ₁ S₁ I₁ r₁ k₁ => ?_
  obtain ⟨⟨its, hits⟩, hp, hr, k₁⟩ := k₁
  refine iter_run O I₁ r₁ hits hp hr fun h₁ J hJ kJ xJ => ?_
  have g₁ := I₁.grow O (s' := { s₁ with heap := h₁ }) kJ I₁.bare rfl I₁.tp
  have nJ := (I₁.fresh O hJ).2.2
  have V₁ := V.step O I S₁
  have V₂ := V₁.step O I₁ g₁.2
  refine wpAny_newObj_type ?_
  have t := lst_new O g₁.1 (ps := []) (vs := []) (by simp only [RepL]) (h' := h₁.push (lstOf [] 0)) (D := h₁.objs.size) (n := 0) (tk := s₁.toks) (fresh_size _) (Heap.get?_push_size _ rfl) (fun b o e => Heap.get?_push_of_some _ e) I₁.tp
  refine wpAny_newFunctionEnv ok.nocell (by intro y hy; simp at hy) (fun h₂ hn₂ sb₂ => ?_) ok.kind
  dsimp only at hn₂ sb₂ ⊢
  have hC0 : (h₁.push (lstOf [] 0)).get? (h₁.push (lstOf [] 0)).objs.size = none := fresh_size _
  have k₂ : ∀ b o, (h₁.push (lstOf [] 0)).get? b = some o → h₂.get? b = some o := fun b o e => sb₂.extBut b o (fun q => by rw [q, hC0] at e; cases e) (Heap.get?_push_of_some _ e)
  have g₂ := t.2.1.grow O (s' := { s₁ with heap := h₂, toks := s₁.toks + ([] : List (Str × Value)).length }) k₂ I₁.bare rfl (by simpa using I₁.tp)
  have fr := t.2.1.fresh O hC0
  have V₃ := (V₂.step O g₁.1 t.1).step O t.2.1 g₂.2
  generalize hCe : (h₁.push (lstOf [] 0)).objs.size = C at *
  have hC1 : h₁.get? C = none := by
    cases q : h₁.get? C with
    | none => rfl
    | some o => have := Heap.get?_push_of_some (lstOf [] 0) q; rw [hC0] at this; cases this
  have hCs : s.heap.get? C = none := by
    cases q : s.heap.get? C with
    | none => rfl
    | some o => obtain ⟨o', e'⟩ := (S₁.trans g₁.2).there C o q; rw [hC1] at e'; cases e'
  -- the comprehension's frame
  have Vc : EnvOk c (compEnvC scope cl C env) ρc { s₁ with heap := h₂, toks := s₁.toks + ([] : List (Str × Value)).length } (ι₁ ++ [h₁.objs.size]) := by
    obtain ⟨mo, hno, hio, hmo⟩ := V₃.ns
    refine ⟨ok.kind, V₃.glo, V₃.bi, ok.ini C, ⟨_, hn₂, rfl, fun x q hx => ?_⟩, ok.nd, ⟨fr.1, fr.2.1, fr.2.2⟩, fun x cc hx => ?_, fun x y cc hx hy => V₃.inj x y cc (ok.sub x cc hx) (ok.sub y cc hy)⟩
    · obtain ⟨h1, h2, h3, h4⟩ := ok.rho x q hx
      obtain ⟨cc, hcc⟩ := Option.isSome_iff_exists.mp h2
      obtain ⟨hd, hv⟩ := hmo x q h1
      refine ⟨hd, .inr ⟨.inl (h3 C), cc, ?_⟩⟩
      rcases hv with ⟨hl, _⟩ | ⟨_, cc', v', hc', hi', hr'⟩
      · rcases h4 with h4 | h4 <;> rw [h4] at hl <;> cases hl
      · have := ok.sub x cc hcc
        rw [hc'] at this; cases this
        exact ⟨v', hcc, hi', hr'⟩
    · have q := V₃.cell x cc (ok.sub x cc hx)
      refine ⟨q.1, q.2.1, q.2.2.1, fun hq => ?_, q.2.2.2.2⟩
      obtain ⟨⟨v', o, e, d⟩, _⟩ := q
      obtain ⟨oC, es, ep, eC, hdC, _⟩ := hn₂
      rw [hq] at e
      have e2 : h₂.get? C = some o := e
      rw [eC] at e2; cases e2
      rw [d] at hdC; cases hdC
  have xJ₁ : IterAt (h₁.push (lstOf [] 0)) (ι₁ ++ [h₁.objs.size]) J 0 p := IterAt.stepF (s' := { s₁ with heap := h₁.push (lstOf [] 0) }) O g₁.1 V₂ t.1.f xJ
  have xJ₂ : IterAt h₂ (ι₁ ++ [h₁.objs.size]) J 0 p := IterAt.stepF (s' := { s₁ with heap := h₂, toks := s₁.toks + ([] : List (Str × Value)).length }) O t.2.1 (V₂.step O g₁.1 t.1) g₂.2.f xJ₁
  have loop : codeAny (model c.prog c.w) A (.compLoop (.ListComp elt [⟨tgt, iter, ifs, 0⟩] scope pos) 0 (.ref J) (.ref h₁.objs.size) (compEnvC scope cl C env)) (compPost (model c.prog c.w) A E use Q (.ref h₁.objs.size) C) { s₁ with heap := h₂, toks := s₁.toks + ([] : List (Str × Value)).length } := by
    have hD : (ι₁ ++ [h₁.objs.size])[μ₁.length]? = some h₁.objs.size := by rw [← I₁.len]; simp
    refine (k₁ C).run _ _ J h₁.objs.size _ g₂.1 Vc xJ₂ nJ hD fun s' ι' μ' S' I' V' k' => ?_
    have Sall : Step c s₁ ι₁ s' ι' := by
      have old : ∀ b o, s₁.heap.get? b = some o → h₂.get? b = some o ∧ b ≠ C ∧ b ≠ J ∧ b ≠ h₁.objs.size := fun b o e => by
        have e1 := kJ b o e
        refine ⟨k₂ _ _ (Heap.get?_push_of_some _ e1), fun q => ?_, fun q => ?_, fun q => ?_⟩
        · rw [q, hC1] at e1; cases e1
        · rw [q, hJ] at e; cases e
        · rw [q, fresh_size] at e1; cases e1
      refine ⟨fun b o e hb hX => ?_, fun b o e => ?_, ?_⟩
      · obtain ⟨h1, h2, h3, h4⟩ := old b o e
        exact S'.keep b o h1 (by simp [hb, h4]) hX h2 h3
      · obtain ⟨h1, h2, h3, h4⟩ := old b o e
        exact S'.there b o h1 h3
      · obtain ⟨l, hl, hl'⟩ := S'.ext
        refine ⟨[h₁.objs.size] ++ l, by rw [hl]; simp, fun a ha => ?_⟩
        cases q : s₁.heap.get? a with
        | none => rfl
        | some o =>
          obtain ⟨h1, h2, h3, h4⟩ := old a o q
          rcases List.mem_append.mp ha with h | h
          · exact absurd (List.mem_singleton.mp h) h4
          · rw [show ({ s₁ with heap := h₂, toks := s₁.toks + ([] : List (Str × Value)).length } : Shared).heap.get? a = h₂.get? a from rfl] at *
            rw [hl' a h] at h1; cases h1
    have hD' : ι'[μ₁.length]? = some h₁.objs.size := by obtain ⟨l, rfl, _⟩ := S'.ext; exact getElem?_ext hD l
    exact hQ _ C s' ι' _ μ' (S₁.trans Sall) I' hD' k' hCs V'
  exact codeAny_compStart_list loop (selfIter_run xJ₂ loop)
end
end Mine
namespace Mine
section
variable {c : Cx} {A : Around} {env : Env} {ρ : Rho} {μ : Mu}

theorem EnvOk.imm_ne {s : Shared} {ι : Iota} (V : EnvOk c env ρ s ι) {b : Addr} {o : Obj} (e : s.heap.get? b = some o) (hc : Imm o) : b ≠ env.locals ∧ ∀ x, env.cells.lookup x ≠ some b := by
  refine ⟨fun q => ?_, fun x q => ?_⟩
  · obtain ⟨m, ⟨oL, es, ep, eL, hd, _⟩, _, _⟩ := V.ns
    rw [q, eL] at e; cases e
    exact hc.ne.2.2.2.1 _ _ hd
  · obtain ⟨⟨v, o', e', d'⟩, _⟩ := V.cell x b q
    rw [e] at e'; cases e'
    exact hc.ne.2.2.2.2 _ d'
/-- a frame's own dictionary turns, or goes -/
theorem Inv.frameL (O : c.Ok) {s s' : Shared} {ι : Iota} (I : Inv c s ι μ) (V : EnvOk c env ρ s ι)
    (k : ∀ b o, s.heap.get? b = some o → b ≠ env.locals → s'.heap.get? b = some o) (hg : AllBare s'.gens) (ho : s'.os = s.os) (ht : 0 < s'.toks) : Inv c s' ι μ ∧ (∀ p v, RepV s.heap ι p v → RepV s'.heap ι p v) ∧ ∀ p v, RepL s.heap ι p v → RepL s'.heap ι p v := by
  have imm : ∀ b o, s.heap.get? b = some o → Imm o → s'.heap.get? b = some o := fun b o e hi => k b o e (V.imm_ne e hi).1
  have rv : ∀ p v, RepV s.heap ι p v → RepV s'.heap ι p v := fun p v r => by have := RepV.mono (l := []) imm p v r; rwa [List.append_nil] at this
  have rl : ∀ p v, RepL s.heap ι p v → RepL s'.heap ι p v := fun p v r => by have := RepL.mono (l := []) imm p v r; rwa [List.append_nil] at this
  have nl : ∀ b, b ∈ ι → b ≠ env.locals := fun b hb q => V.loc.1 (q ▸ hb)
  refine ⟨⟨fun b o e hX => k _ _ (I.old b o e hX) (fun q => ?_), I.new, I.len, I.nodup, fun i a m hi hm => ?_, O.tk _ _ I.tab fun b o e _ hc => k b o e (fun q => ?_), hg, ho.trans I.os, ht⟩, rv, rl⟩
  · rw [q, V.loc.2.2] at e; cases e
  · have x := I.mo i a m hi hm
    have na := nl a (List.mem_of_getElem? hi)
    cases m with
    | lst ps => obtain ⟨vs, n, e, r⟩ := x; exact ⟨vs, n, k _ _ e na, rl _ _ r⟩
    | pil q its =>
      obtain ⟨d, vs, n, e, hd, hn, r⟩ := x
      have nd := dict_ne V hd
      obtain ⟨hsh, tk, tk', m', ed⟩ := hd
      exact ⟨d, vs, n, k _ _ e na, ⟨hsh, tk, tk', m', k _ _ ed nd.1⟩, hn, rl _ _ r⟩
  · obtain ⟨m, ⟨oL, es, ep, eL, hd, _⟩, _, _⟩ := V.ns
    rw [q, eL] at e; cases e
    obtain ⟨vs, hc⟩ := hc
    rw [hd] at hc; cases hc

/-- the comprehension's variables are let go -/
theorem comp_end (O : c.Ok) {cenv : Env} {ρc : Rho} {s s' : Shared} {ι ι' : Iota} (I : Inv c s' ι' μ) (V : EnvOk c cenv ρc s' ι') (S : Step c s ι s' ι') (hC : s.heap.get? cenv.locals = none) {h' : Heap} (sb : Heap.SameBut cenv.locals s'.heap h') :
    Inv c { s' with heap := h' } ι' μ ∧ Step c s ι { s' with heap := h' } ι' := by
  refine ⟨(I.frameL O V (s' := { s' with heap := h' }) (fun b o e hb => sb.extBut b o hb e) I.bare rfl I.tp).1, ?_⟩
  have nC : ∀ b o, s.heap.get? b = some o → b ≠ cenv.locals := fun b o e q => by rw [q, hC] at e; cases e
  refine ⟨fun b o e hb hX => sb.extBut b o (nC b o e) (S.keep b o e hb hX), fun b o e => ?_, S.ext⟩
  obtain ⟨o', e'⟩ := S.there b o e
  exact ⟨o', sb.extBut b o' (nC b o e) e'⟩
theorem WE.comp {elt tgt iter : Expr} {ifs : List Expr} {scope : Scope} {pos : Pos} {cl : List (Str × Addr)} {ρc : Rho} {K : PV → Mu → Prop} (O : c.Ok) (ok : CompOk scope env cl ρ ρc)
    (h : WE c A iter env ρ μ fun p μ₁ => (∃ its, itemsOf μ₁ p = some its) ∧ (∀ i, p = .loc i → ∃ l, μ₁[i]? = some (.lst l)) ∧ (∀ lo hi, p = .rng lo hi → -1000000 ≤ lo ∧ lo ≤ 1000000 ∧ -1000000 ≤ hi ∧ hi ≤ 1000000) ∧
      ∀ C, WCL c A (.ListComp elt [⟨tgt, iter, ifs, 0⟩] scope pos) (compEnvC scope cl C env) p μ₁.length ρc (fun m => K (.loc μ₁.length) m) 0 (μ₁ ++ [.lst []]))
    (hfold : ∀ x, foldedSetIterable iter env x = pure x) : WE c A (.ListComp elt [⟨tgt, iter, ifs, 0⟩] scope pos) env ρ μ K := ⟨fun s ι E Q I V hQ => by
  rw [eval_ListComp]
  refine comp_core (use := .none) (K := fun i m => K (.loc i) m) O ok hfold h I V fun D C s' ι' i μ' S I' hD k hC V' => ?_
  obtain ⟨m, hn, _⟩ := V'.ns
  refine ⟨m, hn, fun h' sb => ?_⟩
  have e := comp_end O I' V' S hC sb
  exact hQ _ _ ι' (.loc i) μ' e.2 e.1 (by simp only [RepV]; exact ⟨D, rfl, hD⟩) k⟩

/-- x = [..], where the variables are let go behind the store -/
theorem WS.assign_comp {x : Str} {elt tgt iter : Expr} {ifs : List Expr} {scope : Scope} {pos pos' spos : Pos} {cl : List (Str × Addr)} {ρc : Rho} {KS : PF → Rho → Mu → Prop} (O : c.Ok) (ok : CompOk scope env cl ρ ρc)
    (h : WE c A iter env ρ μ fun p μ₁ => (∃ its, itemsOf μ₁ p = some its) ∧ (∀ i, p = .loc i → ∃ l, μ₁[i]? = some (.lst l)) ∧ (∀ lo hi, p = .rng lo hi → -1000000 ≤ lo ∧ lo ≤ 1000000 ∧ -1000000 ≤ hi ∧ hi ≤ 1000000) ∧
      ∀ C, WCL c A (.ListComp elt [⟨tgt, iter, ifs, 0⟩] scope pos) (compEnvC scope cl C env) p μ₁.length ρc (fun m => ∃ ρ', UpdI ρ x (.loc μ₁.length) ρ' ∧ KS .next ρ' m) 0 (μ₁ ++ [.lst []]))
    (hfold : ∀ x, foldedSetIterable iter env x = pure x) (hk : env.kindOf x = some .local) (hd : (x == ("__debug__" : Str)) = false)
    (hs : swapsWith (.ListComp elt [⟨tgt, iter, ifs, 0⟩] scope pos) (some (.Name x pos')) spos.line env = pure true) : WS c A (.Assign [.Name x pos'] (.ListComp elt [⟨tgt, iter, ifs, 0⟩] scope pos) spos) env ρ μ KS := ⟨fun s ι E Q I V hQ => by
  rw [exec_Assign_Name_used _ _ _ _ hs]
  refine wpAny_bind (wpAny_standAt (wpAny_bind ?_))
  show wpAny _ A (do let _ ← comprehension (.ListComp elt [⟨tgt, iter, ifs, 0⟩] scope pos) scope env _ (newList []) false (eval iter env) (some (assign (.Name x pos') env))) _ _ s
  refine wpAny_bind (wpAny_mono (comp_core (use := some (assign (.Name x pos') env)) (Q := fun _ s' => Q .next s') (K := fun i m => ∃ ρ', UpdI ρ x (.loc i) ρ' ∧ KS .next ρ' m) O ok hfold h I V fun D C s' ι' i μ' S I' hD k hC V' => ?_) (fun _ s' hq => wpAny_pure (wpAny_pure hq)) fun _ _ e => e)
  obtain ⟨ρ', u, k⟩ := k
  have Vo := V.step O I S
  show wpAny _ A (assign (.Name x pos') env (.ref D)) _ _ _
  have hCn : C ≠ env.locals := fun q => by
    obtain ⟨mo, ⟨oL, es, ep, eL, _⟩, _⟩ := V.ns
    rw [← q, hC] at eL; cases eL
  have hCc : ∀ y, env.cells.lookup y ≠ some C := fun y hy => by
    obtain ⟨⟨v, o, e, _⟩, _⟩ := V.cell y C hy
    rw [hC] at e; cases e
  refine wpAny_assign_Name (store_runL O I' Vo (by simp only [RepV]; exact ⟨D, rfl, hD⟩) u hk hd fun s₂ S₂ I₂ V₂ => ?_)
  -- the comprehension's frame is still there
  have Vc₂ : EnvOk c (compEnvC scope cl C env) [] s₂ ι' := by
    obtain ⟨m, ⟨oL, es, ep, eL, rL⟩, hi, _⟩ := V'.ns
    refine ⟨V'.kind, V'.glo, V'.bi, V'.ini, ⟨m, ⟨oL, es, ep, S₂.keep _ _ eL V'.loc.1 V'.loc.2.1 hCn, rL⟩, hi, fun y q hy => by cases hy⟩, by simp, V'.loc, fun y cc hy => ?_, V'.inj⟩
    obtain ⟨⟨v, o, e, d⟩, h1, h2, h3, h4⟩ := V'.cell y cc hy
    have ho := Vo.cell y cc (ok.sub y cc hy)
    exact ⟨⟨v, o, S₂.keep _ _ e h1 h2 ho.2.2.2.1, d⟩, h1, h2, h3, h4⟩
  obtain ⟨m, hn, _⟩ := Vc₂.ns
  refine ⟨m, hn, fun h' sb => ?_⟩
  have e := I₂.frameL O Vc₂ (s' := { s₂ with heap := h' }) (fun b o e hb => sb.extBut b o hb e) I₂.bare rfl I₂.tp
  have kb : ∀ b o, b ≠ C → s₂.heap.get? b = some o → h'.get? b = some o := fun b o hb e => sb.extBut b o hb e
  refine hQ .next _ ι' .next ρ' μ' ?_ e.1 ?_ rfl k
  · have nC : ∀ b o, s.heap.get? b = some o → b ≠ C := fun b o e q => by rw [q, hC] at e; cases e
    refine ⟨fun b o e hb hX hL hc => kb b o (nC b o e) (S₂.keep b o (S.keep b o e hb hX) (S.off e hb) hX hL), fun b o e => ?_, ?_⟩
    · obtain ⟨o', e'⟩ := S.there b o e
      obtain ⟨o'', e''⟩ := S₂.there b o' e'
      exact ⟨o'', kb b o'' (nC b o e) e''⟩
    · exact S.ext
  · obtain ⟨mo, ⟨oL, es, ep, eL, rL⟩, hi, hm⟩ := V₂.ns
    refine ⟨V₂.kind, V₂.glo, V₂.bi, V₂.ini, ⟨mo, ⟨oL, es, ep, kb _ _ (Ne.symm hCn) eL, rL⟩, hi, fun y q hy => ?_⟩, V₂.nd, V₂.loc, fun y cc hy => ?_, V₂.inj⟩
    · obtain ⟨h1, h2⟩ := hm y q hy
      refine ⟨h1, ?_⟩
      rcases h2 with ⟨a, v', b, r'⟩ | ⟨a, cc, v', b, ⟨o, e', d⟩, r'⟩
      · exact .inl ⟨a, v', b, e.2.1 _ _ r'⟩
      · exact .inr ⟨a, cc, v', b, ⟨o, kb _ _ (fun q => hCc y (q ▸ b)) e', d⟩, e.2.1 _ _ r'⟩
    · obtain ⟨⟨v', o, e', d⟩, h1, h2, h3, h4⟩ := V₂.cell y cc hy
      exact ⟨⟨v', o, kb _ _ (fun q => hCc y (q ▸ hy)) e', d⟩, h1, h2, h3, h4⟩⟩
end
end Mine
namespace Mine

theorem lookup_mem_nodup : ∀ (l : List (Str × Value)) (x : Str) (v : Value), (l.map (·.1)).Nodup → (x, v) ∈ l → l.lookup x = some v
  | [], _, _, _, h => by cases h
  | (y, w) :: r, x, v, nd, h => by
    rw [List.map_cons, List.nodup_cons] at nd
    rcases List.mem_cons.mp h with e | h
    · cases e; simp
    · have hne : x ≠ y := fun q => nd.1 (q ▸ List.mem_map.mpr ⟨(x, v), h, rfl⟩)
      have hb : (x == y) = false := by simpa using hne
      rw [List.lookup_cons, hb]
      exact lookup_mem_nodup r x v nd.2 h
theorem RepL.zip {h : Heap} {ι : Iota} : ∀ (names : List Str) (ps : List PV) (vs : List Value) (x : Str) (p : PV), RepL h ι ps vs → (x, p) ∈ names.zip ps → ∃ v, (x, v) ∈ names.zip vs ∧ RepV h ι p v
  | [], _, _, _, _, _, hm => by simp at hm
  | _ :: _, [], _, _, _, _, hm => by simp at hm
  | n :: names, q :: ps, vs, x, p, r, hm => by
    simp only [RepL] at r
    obtain ⟨v, r', rfl, h1, h2⟩ := r
    rw [List.zip_cons_cons, List.mem_cons] at hm
    rcases hm with e | hm
    · cases e; exact ⟨v, by simp, h1⟩
    · obtain ⟨w, hw, rw'⟩ := RepL.zip names ps r' x p h2 hm
      exact ⟨w, by rw [List.zip_cons_cons]; exact List.mem_cons_of_mem _ hw, rw'⟩
theorem zip_keys {α : Type} : ∀ (names : List Str) (vs : List α), vs.length = names.length → (names.zip vs).map (·.1) = names
  | [], [], _ => rfl
  | [], _ :: _, h => by simp at h
  | _ :: _, [], h => by simp at h
  | n :: names, v :: vs, h => by simp [zip_keys names vs (by simpa using h)]

/-- a plain def of the text: no cells, no closure, no defaults -/
structure DefOk (c : Cx) (a : Addr) (fd : FuncData) (body : List Stmt) (names : List Str) : Prop where
  fn : FnAt c a fd
  code : ∃ cc o vs t, fd.code = .ref cc ∧ c.hB.get? cc = some o ∧ cc ∉ c.X ∧ o.data = .fields vs ∧ vs[1]? = some (.str fd.qualname t)
  body : fd.body = .stmts body
  bind : ∀ (s : Shared) (vs : List Value), (∀ b o, c.hB.get? b = some o → b ∉ c.X → s.heap.get? b = some o) → vs.length = names.length → BindsTo s fd ⟨vs, []⟩ (names.zip vs)
  nd : names.Nodup
  dbg : ∀ x ∈ names, (x == ("__debug__" : Str)) = false
  clo : fd.closure = []
  glo : fd.globals = mainGlobals
  bi : fd.builtins = builtinsNs
  co : fd.scope.isCoroutine = false
  gen : fd.scope.isGenerator = false
  kind : fd.scope.kind = .function

section
variable {c : Cx} {A : Around} {μ : Mu}

abbrev retK (K : PV → Mu → Prop) (f : PF) (ρ : Rho) (μ : Mu) : Prop := match f with
  | .ret p => K p μ
  | .next => K .none μ
  | _ => False

theorem DefOk.codeRec {a : Addr} {fd : FuncData} {body : List Stmt} {names : List Str} (D : DefOk c a fd body names) {s : Shared} {ι : Iota} (I : Inv c s ι μ) : s.heap.CodeRec fd.code fd.qualname := by
  obtain ⟨cc, o, vs, t, e1, e2, e3, e4, e5⟩ := D.code
  exact ⟨cc, o, vs, t, e1, I.old _ _ e2 e3, e4, e5⟩
theorem Inv.noLimit (O : c.Ok) {s : Shared} {ι : Iota} (I : Inv c s ι μ) : s.heap.NoLimit := by
  obtain ⟨mc, ⟨o, es, ep, e, r⟩, hk⟩ := O.lim
  exact ⟨mc, ⟨o, es, ep, I.old _ _ e O.sX.1, r⟩, hk⟩

theorem WC.def {a : Addr} {fd : FuncData} {body : List Stmt} {names : List Str} {ps : List PV} {n : Nat} {K : PV → Mu → Prop} (O : c.Ok) (D : DefOk c a fd body names) (ao : AOk (n + 1) A)
    (hl : ps.length = names.length) (hcell : ∀ x ∈ fd.scope.names, x.2 ≠ .cell) (hloc : ∀ x ∈ names, fd.scope.names.lookup x = some .local)
    (hini : ∀ L, (callEnv fd L a).kindOf ("_initial_size" : Str) = none) (hni : ("_initial_size" : Str) ∉ names) (hk : ∀ L, ∀ x ∈ names, (callEnv fd L a).kindOf x = some .local)
    (h : ∀ L A', AOk n A' → WSs c A' body (callEnv fd L a) (names.zip ps) μ (retK K)) : WC c A (.ref a) ps μ K := ⟨fun s ι E Q vs I r hQ => by
  have hv : vs.length = names.length := (RepL.length ps vs r).trans hl
  obtain ⟨o, ho, hd⟩ := D.fn.here I
  have kz := zip_keys names vs hv
  refine wpAny_call (codeAny_call_def (body := body) (binds := names.zip vs) (by have := ao.d; show A.depth < 1000; omega) ho hd (I.noLimit O) (D.codeRec I) D.body (D.bind s vs I.old hv) hcell (fun x hx => hloc _ (by rw [← kz]; exact List.mem_map.mpr ⟨x, hx, rfl⟩)) (fun h₀ hn k => ?_) D.co D.gen D.kind)
  generalize hL : s.heap.objs.size = L at *
  have fL : s.heap.get? L = none := by rw [← hL]; exact fresh_size _
  have fr := I.fresh O fL
  have g := I.grow O (s' := { s with heap := h₀, toks := s.toks + (names.zip vs).length }) k I.bare rfl (by have := I.tp; show 0 < s.toks + _; omega)
  have V : EnvOk c (callEnv fd L a) (names.zip ps) { s with heap := h₀, toks := s.toks + (names.zip vs).length } ι := by
    refine ⟨D.kind, D.glo, D.bi, hini L, ⟨_, hn, ?_, fun x p hx => ?_⟩, by rw [zip_keys names ps hl]; exact D.nd, fr, fun x cc hx => ?_, fun x y cc hx => ?_⟩
    · cases q : (names.zip vs).reverse.lookup ("_initial_size" : Str) with
      | none => rfl
      | some v =>
        exact absurd (by
          have : ∀ (l : List (Str × Value)) (x : Str) (v : Value), l.lookup x = some v → x ∈ l.map (·.1) := by
            intro l
            induction l with
            | nil => intro x v h; simp at h
            | cons y l ih =>
              intro x v h
              rw [List.lookup_cons] at h
              split at h
              · rename_i hb; rw [List.map_cons, List.mem_cons]; exact .inl (by simpa using hb)
              · rw [List.map_cons, List.mem_cons]; exact .inr (ih x v h)
          have := this _ _ _ q
          rw [List.map_reverse, List.mem_reverse, kz] at this
          exact this) hni
    · obtain ⟨v, hv', rv⟩ := RepL.zip names ps vs x p r hx
      have hxn : x ∈ names := by rw [← kz]; exact List.mem_map.mpr ⟨_, hv', rfl⟩
      refine ⟨D.dbg x hxn, .inl ⟨hk L x hxn, v, lookup_mem_nodup _ x v (by rw [List.map_reverse, kz]; exact (List.reverse_perm names).nodup_iff.mpr D.nd) (List.mem_reverse.mpr hv'), I.rep O g.2 rv⟩⟩
    · have : (callEnv fd L a).cells = fd.closure := rfl
      rw [this, D.clo] at hx; cases hx
    · have : (callEnv fd L a).cells = fd.closure := rfl
      rw [this, D.clo] at hx; cases hx
  refine (h L _ (ao.deeper _)).run _ ι _ _ g.1 V fun f s' ι' pf ρ' μ' S I' V' rf k' => ?_
  have Sx : Step c s ι s' ι' := by
    refine ⟨fun b o e hb hX => S.keep b o (k b o e) hb hX (fun q => by rw [show (callEnv fd L a).locals = L from rfl] at q; rw [q, fL] at e; cases e) (fun x q => ?_), fun b o e => S.there b o (k b o e), ?_⟩
    · have : (callEnv fd L a).cells = fd.closure := rfl
      rw [this, D.clo] at q; cases q
    · obtain ⟨l, hl, hl'⟩ := S.ext
      refine ⟨l, hl, fun b hb => ?_⟩
      cases q : s.heap.get? b with
      | none => rfl
      | some o => have := k b o q; rw [hl' b hb] at this; cases this
  cases pf with
  | next => simp only [RepF] at rf; subst rf; exact hQ .none s' ι' .none μ' Sx I' (by simp only [RepV]) k'
  | brk => exact absurd k' (by simp [retK])
  | cont => exact absurd k' (by simp [retK])
  | ret p =>
    simp only [RepF] at rf
    obtain ⟨v, rfl, rv⟩ := rf
    exact hQ v s' ι' p μ' Sx I' rv k'⟩

theorem bindL_off (kd : Str → Option NameKind) : ∀ (l : List (Str × Value)) (m : Str → Option Value) (x : Str), x ∉ l.map (·.1) → bindL kd l m x = m x
  | [], m, x, _ => rfl
  | (n, v) :: r, m, x, h => by
    rw [List.map_cons, List.mem_cons, not_or] at h
    unfold bindL
    rw [bindL_off kd r _ x h.2]
    split
    · simp only; rw [if_neg h.1]
    · rfl
theorem bindL_on (kd : Str → Option NameKind) : ∀ (l : List (Str × Value)) (m : Str → Option Value) (x : Str) (v : Value), (l.map (·.1)).Nodup → (x, v) ∈ l → kd x = some .local → bindL kd l m x = some v
  | [], m, x, v, _, h, _ => by cases h
  | (n, w) :: r, m, x, v, nd, h, hk => by
    rw [List.map_cons, List.nodup_cons] at nd
    rcases List.mem_cons.mp h with e | h
    · cases e
      unfold bindL
      rw [bindL_off kd r _ _ nd.1, if_pos hk]; simp
    · unfold bindL
      exact bindL_on kd r _ x v nd.2 h hk
theorem bindC_off (kd : Str → Option NameKind) : ∀ (l : List (Str × Value)) (m : Str → Option Value) (x : Str), x ∉ l.map (·.1) → bindC kd l m x = m x
  | [], m, x, _ => rfl
  | (n, v) :: r, m, x, h => by
    rw [List.map_cons, List.mem_cons, not_or] at h
    unfold bindC
    rw [bindC_off kd r _ x h.2]
    split
    · rfl
    · simp only; rw [if_neg h.1]
theorem bindC_on (kd : Str → Option NameKind) : ∀ (l : List (Str × Value)) (m : Str → Option Value) (x : Str) (v : Value), (l.map (·.1)).Nodup → (x, v) ∈ l → kd x ≠ some .local → bindC kd l m x = some v
  | [], m, x, v, _, h, _ => by cases h
  | (n, w) :: r, m, x, v, nd, h, hk => by
    rw [List.map_cons, List.nodup_cons] at nd
    rcases List.mem_cons.mp h with e | h
    · cases e
      unfold bindC
      rw [bindC_off kd r _ _ nd.1, if_neg hk]; simp
    · unfold bindC
      exact bindC_on kd r _ x v nd.2 h hk
theorem lookup_mem : ∀ (l : List (Str × Addr)) (x : Str) (v : Addr), l.lookup x = some v → (x, v) ∈ l
  | [], x, v, h => by simp at h
  | (y, w) :: l, x, v, h => by
    rw [List.lookup_cons] at h
    split at h
    · rename_i hb
      cases h
      rw [show x = y by simpa using hb]; exact List.mem_cons_self
    · exact List.mem_cons_of_mem _ (lookup_mem l x v h)

theorem pw_inj : ∀ (l : List (Str × Addr)) (x y : Str) (cc : Addr), l.Pairwise (fun x y => x.2 ≠ y.2) → (x, cc) ∈ l → (y, cc) ∈ l → x = y
  | [], _, _, _, _, h, _ => by cases h
  | p :: l, x, y, cc, pw, h1, h2 => by
    rw [List.pairwise_cons] at pw
    rcases List.mem_cons.mp h1 with e1 | h1 <;> rcases List.mem_cons.mp h2 with e2 | h2
    · rw [← e1] at e2; exact (Prod.mk.inj e2).1.symm
    · exact absurd (by rw [← e1]) (pw.1 _ h2)
    · exact absurd (by rw [← e2]) (pw.1 _ h1)
    · exact pw_inj l x y cc pw.2 h1 h2
theorem codeAny_call_cells' {R : Result → Shared → Prop} {prog : Program} {w : World} {s : Shared} {a : Addr} {o : Obj} {fd : FuncData} {body : List Stmt} {vals : List Value} {binds : List (Str × Value)}
    (hroom : A.depth < recursionLimit) (ho : s.heap.get? a = some o) (hdata : o.data = .func fd) (hlim : s.heap.NoLimit) (hcd : s.heap.CodeRec fd.code fd.qualname)
    (hbody : fd.body = .stmts body) (hbind : BindsTo s fd ⟨vals, []⟩ binds) (hclo : fd.closure = [])
    (hkind : ∀ x ∈ binds, fd.scope.names.lookup x.1 = some .local ∨ (fd.scope.names.lookup x.1 = some .cell ∧ ((cellsFrom (s.heap.objs.size + 1) fd.scope.names []).lookup x.1).isSome = true))
    (h : ∀ s₁, s.toks ≤ s₁.toks → InCallC s (callEnvC fd s.heap.objs.size a).locals (bindL (callEnvC fd s.heap.objs.size a).kindOf binds fun _ => none) (callEnvC fd s.heap.objs.size a).cells
        (bindC (callEnvC fd s.heap.objs.size a).kindOf binds fun _ => none) s₁ →
      wpAny (model prog w) (A.deeper (callEnvC fd s.heap.objs.size a)) (execs body (callEnvC fd s.heap.objs.size a)) (fun f s' => R (.ok (.ret (match f with | .ret v => v | _ => .none))) s')
        (fun e s' => wpAny (model prog w) (A.deeper (callEnvC fd s.heap.objs.size a)) (leaving (callEnvC fd s.heap.objs.size a) e) (fun _ s'' => R (.error e) s'') (fun e' s'' => R (.error e') s'') s') s₁)
    (hco : fd.scope.isCoroutine = false) (hgen : fd.scope.isGenerator = false) (hk : fd.scope.kind = .function) :
    codeAny (model prog w) A (.call (.ref a) ⟨vals, []⟩) R s := by
  refine codeAny_call_function hroom ho hdata hco hgen hbody hcd ?_
  rw [hclo]
  refine hbind _ _ _ _ (wpAny_with_toks (Nat.le_refl s.toks) (wpAny_newFunctionEnv_cells hk hkind fun env he s' x htk => ?_))
  subst he
  exact ⟨hlim.keeps x.toInCall.keep, codeAny_func (h s' htk x)⟩
/-- a def some names of which are cells -/
theorem WC.defC {a : Addr} {fd : FuncData} {body : List Stmt} {names : List Str} {ps : List PV} {n : Nat} {K : PV → Mu → Prop} (O : c.Ok) (D : DefOk c a fd body names) (ao : AOk (n + 1) A)
    (hl : ps.length = names.length) (hloc : ∀ L, ∀ x ∈ names, fd.scope.names.lookup x = some .local ∨ (fd.scope.names.lookup x = some .cell ∧ ((cellsFrom (L + 1) fd.scope.names []).lookup x).isSome = true))
    (hini : ∀ L, (callEnvC fd L a).kindOf ("_initial_size" : Str) = none) (hni : ("_initial_size" : Str) ∉ names)
    (hk : ∀ L, ∀ x ∈ names, (callEnvC fd L a).kindOf x = some .local ∨ ((callEnvC fd L a).kindOf x = some .cell ∧ ((callEnvC fd L a).cells.lookup x).isSome = true))
    (h : ∀ L A', AOk n A' → WSs c A' body (callEnvC fd L a) (names.zip ps) μ (retK K)) : WC c A (.ref a) ps μ K := ⟨fun s ι E Q vs I r hQ => by
  have hv : vs.length = names.length := (RepL.length ps vs r).trans hl
  obtain ⟨o, ho, hd⟩ := D.fn.here I
  have kz := zip_keys names vs hv
  refine wpAny_call (codeAny_call_cells' (body := body) (binds := names.zip vs) (by have := ao.d; show A.depth < 1000; omega) ho hd (I.noLimit O) (D.codeRec I) D.body (D.bind s vs I.old hv) D.clo (fun x hx => hloc _ _ (by rw [← kz]; exact List.mem_map.mpr ⟨x, hx, rfl⟩)) (fun s₁ hts X => ?_) D.co D.gen D.kind)
  generalize hL : s.heap.objs.size = L at *
  have fL : s.heap.get? L = none := by rw [← hL]; exact fresh_size _
  have hLe : (callEnvC fd L a).locals = L := rfl
  rw [hLe] at X
  have fr := I.fresh O fL
  obtain ⟨h', tk, es, k⟩ := X.done
  have htk : 0 < s₁.toks := Nat.lt_of_lt_of_le I.tp hts
  have g := I.grow O (s' := s₁) (by rw [es]; exact k) (by rw [es]; exact I.bare) (by rw [es]) htk
  have fc : ∀ x cc, (callEnvC fd L a).cells.lookup x = some cc → s.heap.get? cc = none := fun x cc hx => by
    have hab := X.above x cc (lookup_mem _ x cc hx)
    cases q : s.heap.get? cc with
    | none => rfl
    | some o => exact absurd (Heap.lt_size q) (by rw [hL]; exact Nat.not_lt.mpr (Nat.le_of_lt hab))
  have V : EnvOk c (callEnvC fd L a) (names.zip ps) s₁ ι := by
    refine ⟨D.kind, D.glo, D.bi, hini L, ⟨_, X.toInCall.ns, ?_, fun x p hx => ?_⟩, by rw [zip_keys names ps hl]; exact D.nd, fr, fun x cc hx => ?_, fun x y cc hx hy => ?_⟩
    · rw [bindL_off _ _ _ _ (by rw [kz]; exact hni)]
    · obtain ⟨v, hv', rv⟩ := RepL.zip names ps vs x p r hx
      have hxn : x ∈ names := by rw [← kz]; exact List.mem_map.mpr ⟨_, hv', rfl⟩
      have ndz : ((names.zip vs).map (·.1)).Nodup := by rw [kz]; exact D.nd
      refine ⟨D.dbg x hxn, ?_⟩
      rcases hk L x hxn with h1 | ⟨h1, h2⟩
      · exact .inl ⟨h1, v, bindL_on _ _ _ x v ndz hv' h1, I.rep O g.2 rv⟩
      · obtain ⟨cc, hcc⟩ := Option.isSome_iff_exists.mp h2
        have := X.cell x cc hcc
        rw [bindC_on _ _ _ x v ndz hv' (by rw [h1]; decide)] at this
        exact .inr ⟨.inl h1, cc, v, hcc, this, I.rep O g.2 rv⟩
    · have fcc := I.fresh O (fc x cc hx)
      exact ⟨⟨_, X.cell x cc hx⟩, fcc.1, fcc.2.1, fun q => by have hab := X.above x cc (lookup_mem _ x cc hx); rw [hLe] at q; exact absurd (q ▸ hab) (Nat.lt_irrefl _), fcc.2.2⟩
    · exact pw_inj _ x y cc X.apart (lookup_mem _ x cc hx) (lookup_mem _ y cc hy)
  refine (h L _ (ao.deeper _)).run _ ι _ _ g.1 V fun f s' ι' pf ρ' μ' S I' V' rf k' => ?_
  have ke : ∀ b o, s.heap.get? b = some o → s₁.heap.get? b = some o := by rw [es]; exact k
  have Sx : Step c s ι s' ι' := by
    refine ⟨fun b o e hb hX => S.keep b o (ke b o e) hb hX (fun q => by rw [hLe] at q; rw [q, fL] at e; cases e) (fun x q => by rw [fc x b q] at e; cases e), fun b o e => S.there b o (ke b o e), ?_⟩
    obtain ⟨l, hl, hl'⟩ := S.ext
    refine ⟨l, hl, fun b hb => ?_⟩
    cases q : s.heap.get? b with
    | none => rfl
    | some o => have := ke b o q; rw [hl' b hb] at this; cases this
  cases pf with
  | next => simp only [RepF] at rf; subst rf; exact hQ .none s' ι' .none μ' Sx I' (by simp only [RepV]) k'
  | brk => exact absurd k' (by simp [retK])
  | cont => exact absurd k' (by simp [retK])
  | ret p =>
    simp only [RepF] at rf
    obtain ⟨v, rfl, rv⟩ := rf
    exact hQ v s' ι' p μ' Sx I' rv k'⟩
end
end Mine
namespace Mine
open Builtin.Str (occurrences lastOccurrence subAt strSub partsBetween strKind)

/-- y stands in x at i, no further than hi -/
def atB (x y : List Nat) (hi i : Nat) : Bool := decide (i + y.length ≤ hi) && ((x.drop i).take y.length == y)
def findB (x y : List Nat) (lo hi : Nat) : Option Nat := (List.range' lo (hi + 1 - lo)).find? (atB x y hi)
def rfindB (x y : List Nat) : Option Nat := (List.range' 0 (x.length + 1)).reverse.find? (atB x y x.length)
theorem lim {n a N : Nat} (h : n ≤ a) (d : a ≤ N := by decide) : n ≤ N := Nat.le_trans h d
theorem lapp {a b : List Nat} {A B N : Nat} (ha : a.length ≤ A) (hb : b.length ≤ B) (d : A + B ≤ N := by decide) : (a ++ b).length ≤ N := by
  rw [List.length_append]; exact Nat.le_trans (Nat.add_le_add ha hb) d
def preB (y x : List Nat) : Bool := x.take y.length == y
def sufB (y x : List Nat) : Bool := decide (y.length ≤ x.length) && (x.drop (x.length - y.length) == y)
def optI (o : Option Nat) : Int := match o with
  | some i => (i : Int)
  | none => -1

def headI : List Nat → Int
  | k :: _ => (k : Int)
  | [] => -1

theorem subAt_S (x y : List Nat) (i : Nat) : subAt (S x) (S y) i = ((x.drop i).take y.length == y) := by
  unfold subAt
  rw [S_length]
  have e : (S x).cps.extract i (i + y.length) = ((x.drop i).take y.length).toArray := by
    apply Array.toList_inj.mp
    simp [List.extract_eq_take_drop]
  rw [e, Bool.eq_iff_iff, beq_iff_eq, beq_iff_eq]
  exact ⟨fun h => by simpa using h, fun h => by rw [h]⟩
theorem At_S (x y : List Nat) (hi i : Nat) : StrLaws.At (S x) (S y) hi i ↔ atB x y hi i = true := by
  unfold StrLaws.At atB
  rw [subAt_S, S_length]
  simp
theorem occ_S (x y : List Nat) (lo hi : Nat) : headI (occurrences (S x) (S y) lo hi 1) = optI (findB x y lo hi) ∧ (!(occurrences (S x) (S y) lo hi 1).isEmpty) = (findB x y lo hi).isSome := by
  have key := StrLaws.occ_first (S x) (S y) hi 1 (Nat.le_refl 1) (List.range' lo (hi + 1 - lo)) lo (fun i hi' => by have := List.mem_range'_1.mp hi'; omega)
  rw [StrLaws.occ_eq]
  rcases key with ⟨h0, hn⟩ | ⟨pre, a, post, e, h0, ha, hn⟩
  · have : findB x y lo hi = none := by
      unfold findB
      rw [List.find?_eq_none]
      intro i hi' h
      exact hn i hi' ((At_S ..).mpr h)
    rw [this, h0]
    exact ⟨rfl, rfl⟩
  · have : findB x y lo hi = some a := by
      unfold findB
      rw [e, List.find?_append]
      have h1 : pre.find? (atB x y hi) = none := by
        rw [List.find?_eq_none]
        intro i hi' h
        exact hn i hi' ((At_S ..).mpr h)
      rw [h1, List.find?_cons, (At_S ..).mp ha]; rfl
    rw [this]
    generalize (forIn (List.range' lo (hi + 1 - lo)) ((#[] : Array Nat), lo) (StrLaws.occBody (S x) (S y) hi 1)).run.fst = arr at h0
    have h1 : arr.toList[0]? = some a := by simpa using h0
    cases hL : arr.toList with
    | nil => rw [hL] at h1; cases h1
    | cons b t => rw [hL] at h1; simp at h1; subst h1; exact ⟨rfl, rfl⟩
theorem inB_S (y x : List Nat) : inB (S y) (S x) = (findB x y 0 x.length).isSome := by
  unfold inB
  rw [S_length]
  exact (occ_S x y 0 x.length).2
theorem startswith_S (x y : List Nat) : Txt.startswith (S x) (S y) = preB y x := by
  unfold Txt.startswith preB
  rw [subAt_S, S_length, S_length, List.drop_zero, Nat.zero_add]
  by_cases h : y.length ≤ x.length
  · simp [h]
  · simp only [h, decide_false, Bool.false_and]
    symm
    rw [Bool.eq_false_iff]
    intro hc
    have := congrArg List.length (eq_of_beq hc)
    simp at this; omega
theorem endswith_S (x y : List Nat) : Txt.endswith (S x) (S y) = sufB y x := by
  unfold Txt.endswith sufB
  rw [subAt_S, S_length, S_length, Nat.zero_add]
  by_cases h : y.length ≤ x.length
  · have : (x.drop (x.length - y.length)).take y.length = x.drop (x.length - y.length) := List.take_of_length_le (by simp; omega)
    rw [this]
  · simp [h]
theorem find_S (x y : List Nat) : Txt.find (S x) (S y) = optI (findB x y 0 x.length) := by
  unfold Txt.find
  rw [S_length]
  exact (occ_S x y 0 x.length).1
theorem rfind_S (x y : List Nat) : Txt.rfind (S x) (S y) = optI (rfindB x y) := by
  unfold Txt.rfind
  have key := StrLaws.last_spec (S x) (S y)
  rw [S_length] at key ⊢
  have hf : ∀ a, StrLaws.At (S x) (S y) x.length a → (∀ k, a < k → ¬ StrLaws.At (S x) (S y) x.length k) → rfindB x y = some a := by
    intro a ha hk
    unfold rfindB
    have hle : a ≤ x.length := by have := ha.1; omega
    have e : List.range' 0 (x.length + 1) = List.range' 0 a ++ a :: List.range' (a + 1) (x.length - a) := by
      have h1 : x.length + 1 = a + (x.length - a + 1) := by omega
      rw [h1, ← List.range'_append_1, List.range'_succ]; simp
    rw [e, List.reverse_append, List.reverse_cons, List.append_assoc, List.find?_append]
    have h1 : (List.range' (a + 1) (x.length - a)).reverse.find? (atB x y x.length) = none := by
      rw [List.find?_eq_none]
      intro i hi' h
      rw [List.mem_reverse, List.mem_range'_1] at hi'
      exact hk i (by omega) ((At_S ..).mpr h)
    rw [h1]
    simp [(At_S ..).mp ha]
  rcases key with ⟨h0, hn⟩ | ⟨a, h0, ha, hk⟩
  · rw [h0]
    have : rfindB x y = none := by
      unfold rfindB
      rw [List.find?_eq_none]
      intro i _ h
      exact hn i ((At_S ..).mpr h)
    rw [this]; rfl
  · rw [h0, hf a ha hk]; rfl
theorem mul_S (x : List Nat) (n : Int) : Txt.mul (S x) n = S ((List.replicate n.toNat x).flatten) := by
  unfold Txt.mul
  have fold : ∀ (k : Nat) (acc : Array Nat), (List.replicate k (S x).cps).foldl (· ++ ·) acc = acc ++ ((List.replicate k x).flatten).toArray := by
    intro k
    induction k with
    | zero => intro acc; simp
    | succ k ih => intro acc; rw [List.replicate_succ, List.foldl_cons, ih, List.replicate_succ, List.flatten_cons]; simp
  by_cases h : n < 1
  · have e : n.toNat = 0 := by omega
    rw [if_pos h, e]; rfl
  · rw [if_neg h, S_length]
    split
    · rename_i hc
      rw [Bool.or_eq_true, beq_iff_eq, beq_iff_eq] at hc
      rcases hc with rfl | hc
      · simp
      · have hx : x = [] := List.length_eq_zero_iff.mp hc
        subst hx
        have : (List.replicate n.toNat ([] : List Nat)).flatten = [] := by simp
        rw [this]
    · rw [fold]; simp

/-- the parts between dots -/
def splitD : List Nat → List Nat → List (List Nat)
  | 46 :: 46 :: 46 :: r, cur => cur :: splitD r []
  | c :: r, cur => splitD r (cur ++ [c])
  | [], cur => [cur]
abbrev dots : List Nat := [46, 46, 46]
theorem splitD_dots (r cur : List Nat) : splitD (46 :: 46 :: 46 :: r) cur = cur :: splitD r [] := by rw [splitD]
theorem splitD_plain (a : Nat) (r cur : List Nat) (h : (a :: r).take 3 ≠ dots) : splitD (a :: r) cur = splitD r (cur ++ [a]) := by
  rw [splitD]
  intro r' hr
  cases hr
  exact fun q => h (by rw [q]; rfl)
theorem splitD_run : ∀ (k : Nat) (w cur : List Nat), k ≤ w.length → (∀ i, i < k → ((w.drop i).take 3 == dots) = false) → splitD w cur = splitD (w.drop k) (cur ++ w.take k)
  | 0, w, cur, _, _ => by simp
  | k + 1, [], cur, h, _ => by simp at h
  | k + 1, a :: w, cur, h, hn => by
    have h0 := hn 0 (by omega)
    rw [List.drop_zero, beq_eq_false_iff_ne] at h0
    rw [splitD_plain a w cur h0, splitD_run k w (cur ++ [a]) (by simpa using h) (fun i hi => by simpa using hn (i + 1) (by omega))]
    simp
theorem partsFrom_S (x : List Nat) : ∀ (cuts : List Nat) (a f : Nat), a ≤ x.length → StrLaws.ChainG (S x) (S dots) x.length a cuts f → (∀ k, f ≤ k → ¬ StrLaws.At (S x) (S dots) x.length k) →
    StrLaws.partsFrom (S x) 3 a cuts = (splitD (x.drop a) []).map S
  | [], a, f, ha, h, hn => by
    have e : f = a := h
    subst e
    have hno : ∀ i, i < x.length - f → (((x.drop f).drop i).take 3 == dots) = false := fun i hi => by
      rw [List.drop_drop]
      cases q : ((x.drop (f + i)).take 3 == dots) with
      | false => rfl
      | true =>
        have hl := congrArg List.length (eq_of_beq q)
        simp at hl
        exact absurd ((At_S x dots x.length (f + i)).mpr (by unfold atB; rw [show dots.length = 3 from rfl, q]; simp; omega)) (hn (f + i) (by omega))
    rw [splitD_run (x.length - f) (x.drop f) [] (by simp) hno]
    have e1 : (x.drop f).drop (x.length - f) = [] := by simp; omega
    have e2 : (x.drop f).take (x.length - f) = x.drop f := List.take_of_length_le (by simp)
    rw [e1, e2]
    show [strSub (S x) f (S x).length] = [S ([] ++ x.drop f)]
    rw [S_length]
    unfold strSub
    congr 1
    show (⟨(S x).cps.extract f x.length⟩ : Str) = ⟨_⟩
    congr 1
    apply Array.toList_inj.mp
    simp [e2]
  | c :: r, a, f, ha, h, hn => by
    obtain ⟨h1, h2, h3, h4⟩ := h
    rw [show (S dots).length = 3 from rfl] at h4
    have hc : c + 3 ≤ x.length := by have := h2.1; rw [show (S dots).length = 3 from rfl] at this; exact this
    have hd : (x.drop c).take 3 = dots := by
      have := ((At_S x dots x.length c).mp h2)
      unfold atB at this
      simp at this
      exact this.2
    have hno : ∀ i, i < c - a → (((x.drop a).drop i).take 3 == dots) = false := fun i hi => by
      rw [List.drop_drop]
      cases q : ((x.drop (a + i)).take 3 == dots) with
      | false => rfl
      | true => exact absurd ((At_S x dots x.length (a + i)).mpr (by unfold atB; rw [show dots.length = 3 from rfl, q]; simp; omega)) (h3 (a + i) (by omega) (by omega))
    rw [splitD_run (c - a) (x.drop a) [] (by simp; omega) hno]
    have e1 : (x.drop a).drop (c - a) = x.drop c := by rw [List.drop_drop]; congr 1; omega
    have e2 : x.drop c = 46 :: 46 :: 46 :: x.drop (c + 3) := by
      have := List.take_append_drop 3 (x.drop c)
      rw [hd, List.drop_drop] at this
      exact this.symm
    rw [e1, e2, splitD_dots]
    show strSub (S x) a c :: StrLaws.partsFrom (S x) 3 (c + 3) r = S ([] ++ (x.drop a).take (c - a)) :: (splitD (x.drop (c + 3)) []).map S
    rw [partsFrom_S x r (c + 3) f hc h4 hn]
    congr 1
    unfold strSub
    show (⟨(S x).cps.extract a c⟩ : Str) = ⟨_⟩
    congr 1
    apply Array.toList_inj.mp
    simp [List.extract_eq_take_drop]
theorem splitD_none (x : List Nat) (h : ∀ i, ((x.drop i).take 3 == dots) = false) : splitD x [] = [x] := by
  rw [splitD_run x.length x [] (Nat.le_refl _) (fun i _ => h i)]
  simp [splitD]
theorem split_S (x : List Nat) : Txt.split (S x) (S dots) = (splitD x []).map S := by
  obtain ⟨f, hG, hn⟩ := StrLaws.occ_tight (S x) (S dots) (by show 1 ≤ 3; omega)
  rw [S_length] at hG hn
  have kd : ¬ Builtin.Str.strKind (S x) < Builtin.Str.strKind (S dots) := by
    have k1 : Builtin.Str.strKind (S dots) = 1 := by unfold Builtin.Str.strKind; simp
    rw [k1]
    unfold Builtin.Str.strKind
    split
    · omega
    · split <;> omega
  unfold Txt.split
  rw [decide_eq_false kd, S_length, show (S dots).length = 3 from rfl, Bool.or_false]
  by_cases hs : x.length < 3
  · rw [if_pos (by simp [hs])]
    rw [splitD_none x (fun i => ?_)]
    · rfl
    · rw [beq_eq_false_iff_ne]
      intro q
      have := congrArg List.length q
      simp at this; omega
  · rw [if_neg (by simp [hs])]
    split
    · rename_i he
      have e0 : occurrences (S x) (S dots) 0 x.length (x.length + 1) = [] := List.isEmpty_iff.mp he
      rw [e0] at hG
      have := partsFrom_S x [] 0 f (Nat.zero_le _) hG hn
      rw [List.drop_zero] at this
      rw [← this]
      show [S x] = [strSub (S x) 0 (S x).length]
      rw [StrLaws.sub_whole]
    · rw [StrLaws.partsBetween_eq]
      have := partsFrom_S x _ 0 f (Nat.zero_le _) hG hn
      rw [List.drop_zero] at this
      exact this
end Mine
namespace Mine
section
variable {c : Cx} {A : Around} {μ : Mu} {K : PV → Mu → Prop}

theorem WC.of1 {f : Value} {p : PV}
    (h : ∀ (s : Shared) (ι : Iota) (E Q : Value → Shared → Prop) (v : Value), Inv c s ι μ → RepV s.heap ι p v → (∀ v s' ι' p μ', Step c s ι s' ι' → Inv c s' ι' μ' → RepV s'.heap ι' p v → K p μ' → Q v s') → wpAny (model c.prog c.w) A (call f [v]) Q E s) :
    WC c A f [p] μ K := ⟨fun s ι E Q vs I r hQ => by
  simp only [RepL] at r
  obtain ⟨v, _, rfl, r1, rfl⟩ := r
  exact h s ι E Q v I r1 hQ⟩
theorem WC.of2 {f : Value} {p q : PV}
    (h : ∀ (s : Shared) (ι : Iota) (E Q : Value → Shared → Prop) (v w : Value), Inv c s ι μ → RepV s.heap ι p v → RepV s.heap ι q w → (∀ v s' ι' p μ', Step c s ι s' ι' → Inv c s' ι' μ' → RepV s'.heap ι' p v → K p μ' → Q v s') → wpAny (model c.prog c.w) A (call f [v, w]) Q E s) :
    WC c A f [p, q] μ K := ⟨fun s ι E Q vs I r hQ => by
  simp only [RepL] at r
  obtain ⟨v, _, rfl, r1, w, _, rfl, r2, rfl⟩ := r
  exact h s ι E Q v w I r1 r2 hQ⟩

theorem WE.strS {x : Str} {l : List Nat} {k : Nat} {pos : Pos} {env : Env} {ρ : Rho} (O : c.Ok) (e : x = S l) (h : K (.str (S l)) μ) : WE c A (.Constant (.str x) k pos) env ρ μ K := WE.str O (by rw [e]; exact h)
theorem WE.negint {n : Int} {k : Nat} {pos p : Pos} {env : Env} {ρ : Rho} (O : c.Ok) (h : K (.int (-n)) μ) : WE c A (.UnaryOp .USub (.Constant (.int n) k p) pos) env ρ μ K := WE.una (WE.int O (WV.neg_int O h))
theorem WC.len_str {l : List Nat} (O : c.Ok) (hb : l.length ≤ 1000000) (k : K (.int l.length) μ) : WC c A (.builtin "len") [.str (S l)] μ K := WC.of1 fun s ι E Q v I r hQ => by
  simp only [RepV] at r
  obtain ⟨t, rfl⟩ := r
  have g := toks_inv O I (s.toks + 1 + 1)
  refine PySem.P.len_str (by rw [S_length]; omega) ?_
  rw [S_length]
  exact hQ _ _ ι (.int l.length) μ g.2 g.1 (by simp only [RepV]; exact ⟨_, rfl⟩) k
theorem WC.len_lst {i : Nat} {ps : List PV} (O : c.Ok) (hi : μ[i]? = some (.lst ps)) (hb : ps.length ≤ 1000000) (k : K (.int ps.length) μ) : WC c A (.builtin "len") [.loc i] μ K := WC.of1 fun s ι E Q v I r hQ => by
  obtain ⟨a, vs, n, rfl, ha, ea, ra⟩ := I.lst hi r
  have hl := RepL.length ps vs ra
  have g := toks_inv O I (s.toks + 1 + 1)
  refine Calls.call_len_list (items := vs.toArray) (lst_isList ea) (by simp only [List.size_toArray]; rw [hl]; omega) ?_
  have := hQ (.int ps.length (s.toks + 1)) _ ι (.int ps.length) μ g.2 g.1 (by simp only [RepV]; exact ⟨_, rfl⟩) k
  simpa [hl] using this
theorem WC.range1 {n : Int} (O : c.Ok) (k : K (.rng 0 n) μ) : WC c A (.type "range") [.int n] μ K := WC.of1 fun s ι E Q v I r hQ => by
  simp only [RepV] at r
  obtain ⟨t, rfl⟩ := r
  have g := I.grow O (s' := { s with heap := s.heap.push { cls := .type "range", data := .fields #[.int 0 s.toks, .int n t, .int 1 (s.toks + 1)] }, toks := s.toks + 1 + 1 }) (fun b o e => Heap.get?_push_of_some _ e) I.bare rfl (Nat.succ_pos _)
  exact PySem.call_range_1 (hQ _ _ ι (.rng 0 n) μ g.2 g.1 (by simp only [RepV]; exact ⟨_, _, _, _, rfl, IsRange.new ..⟩) k)
theorem WC.range2 {a b : Int} (O : c.Ok) (k : K (.rng a b) μ) : WC c A (.type "range") [.int a, .int b] μ K := WC.of2 fun s ι E Q v w I r1 r2 hQ => by
  simp only [RepV] at r1 r2
  obtain ⟨t, rfl⟩ := r1
  obtain ⟨u, rfl⟩ := r2
  have g := I.grow O (s' := { s with heap := s.heap.push { cls := .type "range", data := .fields #[.int a t, .int b u, .int 1 s.toks] }, toks := s.toks + 1 }) (fun b o e => Heap.get?_push_of_some _ e) I.bare rfl (Nat.succ_pos _)
  exact PySem.call_range_2 (hQ _ _ ι (.rng a b) μ g.2 g.1 (by simp only [RepV]; exact ⟨_, _, _, _, rfl, IsRange.new ..⟩) k)
theorem WC.int_flt {x : UInt64} {sg : Bool} {m : Nat} {e : Int} (O : c.Ok) (hd : Float64.decode x = .fin sg m e) (k : K (.int (Float64.truncOf sg m e)) μ) : WC c A (.type "int") [.flt x] μ K := WC.of1 fun s ι E Q v I r hQ => by
  simp only [RepV] at r
  obtain ⟨t, rfl, _⟩ := r
  have g := toks_inv O I (s.toks + 1)
  exact PySem.call_int_float hd (hQ _ _ ι (.int _) μ g.2 g.1 (by simp only [RepV]; exact ⟨_, rfl⟩) k)

theorem WC.bool2 {f : Value} {x y : List Nat} {b : Bool}
    (h : ∀ (s : Shared) (t u : Tok) (E Q : Value → Shared → Prop), Q (.bool b) s → wpAny (model c.prog c.w) A (call f [.str (S x) t, .str (S y) u]) Q E s) (k : K (.bool b) μ) : WC c A f [.str (S x), .str (S y)] μ K := WC.of2 fun s ι E Q v w I r1 r2 hQ => by
  simp only [RepV] at r1 r2
  obtain ⟨t, rfl⟩ := r1
  obtain ⟨u, rfl⟩ := r2
  exact h s t u E Q (hQ _ s ι (.bool b) μ (Step.refl ..) I (by simp only [RepV]) k)
theorem WC.startswith {x y : List Nat} (k : K (.bool (preB y x)) μ) : WC c A (.builtin "str.startswith") [.str (S x), .str (S y)] μ K := WC.bool2 (fun s t u E Q h => SC.startswith (by rw [startswith_S]; exact h)) k
theorem WC.endswith {x y : List Nat} (k : K (.bool (sufB y x)) μ) : WC c A (.builtin "str.endswith") [.str (S x), .str (S y)] μ K := WC.bool2 (fun s t u E Q h => SC.endswith (by rw [endswith_S]; exact h)) k
theorem WC.int2 {f : Value} {x y : List Nat} {b : Int} (O : c.Ok)
    (h : ∀ (s : Shared) (t u : Tok) (E Q : Value → Shared → Prop), Q (.int b s.toks) { s with toks := s.toks + 1 } → wpAny (model c.prog c.w) A (call f [.str (S x) t, .str (S y) u]) Q E s) (k : K (.int b) μ) : WC c A f [.str (S x), .str (S y)] μ K := WC.of2 fun s ι E Q v w I r1 r2 hQ => by
  simp only [RepV] at r1 r2
  obtain ⟨t, rfl⟩ := r1
  obtain ⟨u, rfl⟩ := r2
  have g := toks_inv O I (s.toks + 1)
  exact h s t u E Q (hQ _ _ ι (.int b) μ g.2 g.1 (by simp only [RepV]; exact ⟨_, rfl⟩) k)
theorem WC.find {x y : List Nat} (O : c.Ok) (k : K (.int (optI (findB x y 0 x.length))) μ) : WC c A (.builtin "str.find") [.str (S x), .str (S y)] μ K := WC.int2 O (fun s t u E Q h => SC.find (by rw [find_S]; exact h)) k
theorem WC.rfind {x y : List Nat} (O : c.Ok) (k : K (.int (optI (rfindB x y))) μ) : WC c A (.builtin "str.rfind") [.str (S x), .str (S y)] μ K := WC.int2 O (fun s t u E Q h => SC.rfind (by rw [rfind_S]; exact h)) k

open Builtin Builtin.Str Builtin.Int in
theorem gives_find4 (x y : Str) (i j : Int) (t u v w : Tok) : Gives (Builtin.«str.find» ⟨[.str x t, .str y u, .int i v, .int j w], []⟩) (.int (headI (Builtin.Str.occurrences x y (fromIndex x.length i) (min (fromIndex x.length j) x.length) 1))) := by
  show Gives (match Builtin.Str.occurrences x y (fromIndex x.length i) (min (fromIndex x.length j) x.length) 1 with | k :: _ => retInt k | [] => (do rule "str.find.not-found"; retInt (-1))) _
  cases Builtin.Str.occurrences x y (fromIndex x.length i) (min (fromIndex x.length j) x.length) 1 with
  | nil => exact .rule (.of_eq rfl)
  | cons k _ => exact .of_eq rfl
theorem WC.find4 {x y : List Nat} {lo hi : Nat} (O : c.Ok) (hh : hi ≤ x.length) (k : K (.int (optI (findB x y lo hi))) μ) : WC c A (.builtin "str.find") [.str (S x), .str (S y), .int lo, .int hi] μ K := ⟨fun s ι E Q vs I r hQ => by
  simp only [RepL, RepV] at r
  obtain ⟨v1, _, rfl, ⟨t1, rfl⟩, v2, _, rfl, ⟨t2, rfl⟩, v3, _, rfl, ⟨t3, rfl⟩, v4, _, rfl, ⟨t4, rfl⟩, rfl⟩ := r
  have g := toks_inv O I (s.toks + 1)
  refine call_gives F.slot_str_find (typeIs_str _ _ _) F.entry_str_find (F.args_str_find_4 _ _ _ _) (gives_find4 (S x) (S y) lo hi t1 t2 t3 t4) ?_
  have e1 : fromIndex (S x).length (lo : Int) = lo := by unfold fromIndex; rw [if_neg (by omega)]; omega
  have e2 : min (fromIndex (S x).length (hi : Int)) (S x).length = hi := by rw [S_length]; unfold fromIndex; rw [if_neg (by omega)]; omega
  rw [e1, e2, (occ_S x y lo hi).1]
  exact hQ _ _ ι (.int _) μ g.2 g.1 (by simp only [RepV]; exact ⟨_, rfl⟩) k⟩

theorem RepL.strs {h : Heap} {ι : Iota} : ∀ (l : List (Str × Tok)), RepL h ι (l.map fun p => .str p.1) (strValues l)
  | [] => by simp only [List.map_nil, RepL]; rfl
  | p :: l => by simp only [List.map_cons, RepL, RepV]; exact ⟨.str p.1 p.2, strValues l, rfl, ⟨_, rfl⟩, RepL.strs l⟩
theorem RepL.strsAre {h : Heap} {ι : Iota} : ∀ (l : List Str) (vs : List Value), RepL h ι (l.map .str) vs → StrsAre vs l
  | [], vs, r => by simp only [List.map_nil, RepL] at r; subst r; exact .nil
  | x :: l, vs, r => by
    simp only [List.map_cons, RepL, RepV] at r
    obtain ⟨v, r', rfl, ⟨t, rfl⟩, h2⟩ := r
    exact .cons x t (RepL.strsAre l r' h2)
theorem split_run {x y : Str} {t u : Tok} {s : Shared} {E Q : Value → Shared → Prop} (hy : (y.length == 0) = false) (hsz : x.length + 2 ≤ sizeLine)
    (hq : ∀ (l : List (Str × Tok)) (tk : Nat), s.toks ≤ tk → l.map (·.1) = Txt.split x y → Q (.ref s.heap.objs.size) { s with heap := s.heap.push (lstOf (strValues l) 0), toks := tk }) :
    wpAny (model c.prog c.w) A (call (.builtin "str.split") [.str x t, .str y u]) Q E s := by
  refine wpAny_with_toks (Nat.le_refl s.toks) ?_
  cases h1 : (decide (x.length < y.length) || decide (Builtin.Str.strKind x < Builtin.Str.strKind y))
  · cases hf : (Builtin.Str.occurrences x y 0 x.length (x.length + 1)).isEmpty
    · refine call_meets F.slot_str_split (typeIs_str _ _ _) F.entry_str_split (F.args_str_split_2 _ _) (meets_str_split_sep x y t u h1 hy hf (by omega) ?_) ?_
      · have h2 := StrLaws.occ_length_le x y 0 x.length (x.length + 1)
        have h3 : ∀ (cuts : List Nat) (a : Nat), (StrLaws.partsFrom x y.length a cuts).length = cuts.length + 1 := by
          intro cuts
          induction cuts with
          | nil => intro a; rfl
          | cons d r ih => intro a; simp only [StrLaws.partsFrom, List.length_cons, ih]
        rw [StrLaws.partsBetween_eq, h3]
        omega
      · show wants _ _ _ { s with toks := _, heap := s.heap.push { cls := .type "list", data := .seq (strsFrom s.toks (Builtin.Str.partsBetween x (Builtin.Str.occurrences x y 0 x.length (x.length + 1)) y.length)).toArray } }
        rw [strsFrom_eq]
        exact fun htk => hq (numbered s.toks _) _ htk ((numbered_texts _ _).trans ((if_neg (ne_true_of_eq_false h1)).trans (if_neg (ne_true_of_eq_false hf))).symm)
    · exact call_meets F.slot_str_split (typeIs_str _ _ _) F.entry_str_split (F.args_str_split_2 _ _) (meets_str_split_not_found x y t u h1 hy hf)
        (fun htk => hq [(x, t)] _ htk ((if_neg (ne_true_of_eq_false h1)).trans (if_pos hf)).symm)
  · exact call_meets F.slot_str_split (typeIs_str _ _ _) F.entry_str_split (F.args_str_split_2 _ _) (meets_str_split_cannot_occur x y t u h1)
      (fun htk => hq [(x, t)] _ htk (if_pos h1).symm)
theorem WC.split {x : List Nat} (O : c.Ok) (hb : x.length ≤ 1000000) (k : K (.loc μ.length) (μ ++ [.lst ((splitD x []).map fun p => .str (S p))])) : WC c A (.builtin "str.split") [.str (S x), .str (S dots)] μ K := WC.of2 fun s ι E Q v w I r1 r2 hQ => by
  simp only [RepV] at r1 r2
  obtain ⟨t, rfl⟩ := r1
  obtain ⟨u, rfl⟩ := r2
  refine split_run (by decide) (by rw [S_length, sizeLine_eq]; omega) fun l tk htk hl => ?_
  have t := lst_new O I (RepL.strs l) (h' := s.heap.push (lstOf (strValues l) 0)) (D := s.heap.objs.size) (n := 0) (tk := tk) (fresh_size _) (Heap.get?_push_size _ rfl) (fun b o e => Heap.get?_push_of_some _ e) (Nat.lt_of_lt_of_le I.tp htk)
  have e : (l.map fun p => PV.str p.1) = (splitD x []).map fun p => .str (S p) := by
    have := congrArg (List.map PV.str) (hl.trans (split_S x))
    simpa [List.map_map, Function.comp_def] using this
  rw [e] at t
  exact hQ _ _ _ _ _ t.1 t.2.1 t.2.2 k
/-- the glue of the parts -/
def joinL (sep : List Nat) : List (List Nat) → List Nat
  | [] => []
  | [x] => x
  | x :: y :: r => x ++ sep ++ joinL sep (y :: r)
theorem join_S (sep : List Nat) : ∀ l : List (List Nat), Txt.join (S sep) (l.map S) = S (joinL sep l) := by
  intro l
  unfold Txt.join
  rw [StrLaws.glued_eq_join]
  induction l with
  | nil => rfl
  | cons x r ih =>
    cases r with
    | nil => rfl
    | cons y r =>
      rw [List.map_cons, List.map_cons]
      rw [List.map_cons] at ih
      unfold Str.join joinL
      rw [ih, ← S_append, ← S_append]
theorem WC.join {sep : List Nat} {i : Nat} {l : List (List Nat)} (O : c.Ok) (hi : μ[i]? = some (.lst (l.map fun x => .str (S x)))) (hb : (l.map (·.length)).sum + l.length * sep.length ≤ 1000000) (k : K (.str (S (joinL sep l))) μ) : WC c A (.builtin "str.join") [.str (S sep), .loc i] μ K := WC.of2 fun s ι E Q v w I r1 r2 hQ => by
  simp only [RepV] at r1
  obtain ⟨t, rfl⟩ := r1
  obtain ⟨a, vs, n, rfl, ha, ea, ra⟩ := I.lst hi r2
  have ra' : RepL s.heap ι ((l.map S).map .str) vs := by simpa [List.map_map, Function.comp_def] using ra
  refine wpAny_with_toks (Nat.le_refl s.toks) (PyProof.Rows.join_list (items := vs.toArray) (lst_isList ea) (RepL.strsAre _ _ ra') ?_ fun t' tk htk => ?_)
  · simp only [List.map_map, Function.comp_def, S_length, List.length_map]; omega
  · have g := toks_inv O I tk (Nat.lt_of_lt_of_le I.tp htk)
    rw [join_S]
    exact hQ _ _ ι (.str _) μ g.2 g.1 (by simp only [RepV]; exact ⟨_, rfl⟩) k

/- ---- ints in a list ---- -/
theorem RepL.ints {h : Heap} {ι : Iota} : ∀ (is : List Int) (vs : List Value), RepL h ι (is.map .int) vs → ∃ xs : List (Int × Tok), vs.toArray = intItems xs.toArray ∧ xs.map (·.1) = is := by
  intro is
  induction is with
  | nil => intro vs r; simp only [List.map_nil, RepL] at r; subst r; exact ⟨[], by simp [intItems], rfl⟩
  | cons i is ih =>
    intro vs r
    simp only [List.map_cons, RepL, RepV] at r
    obtain ⟨v, r', rfl, ⟨t, rfl⟩, h2⟩ := r
    obtain ⟨xs, e1, e2⟩ := ih r' h2
    refine ⟨(i, t) :: xs, ?_, by simp [e2]⟩
    apply Array.toList_inj.mp
    have := congrArg Array.toList e1
    simp [intItems] at this ⊢
    exact this
theorem numAt_S (xs : List (Int × Tok)) (j : Nat) : numAt xs.toArray j = ((xs.map (·.1))[j]?).getD 0 := by
  unfold numAt; simp
theorem preSum_take (is : List Int) : ∀ n, n ≤ is.length → preSum (fun j => (is[j]?).getD 0) n = (is.take n).sum
  | 0, _ => by simp [preSum]
  | n + 1, h => by
    have h2 : is[n]? = some is[n] := List.getElem?_eq_getElem (by omega)
    have h1 : is.take (n + 1) = is.take n ++ [is[n]] := by rw [List.take_add_one, h2]; rfl
    rw [preSum, preSum_take is n (by omega), h1, List.sum_append, h2]; simp
theorem WC.suml {i : Nat} {is : List Int} (O : c.Ok) (a : A.handled = none) (hi : μ[i]? = some (.lst (is.map .int))) (hb : ∀ n, n ≤ is.length → -1000000000000 ≤ (is.take n).sum ∧ (is.take n).sum ≤ 1000000000000) (hb' : ∀ x ∈ is, -1000000000000 ≤ x ∧ x ≤ 1000000000000) (k : K (.int is.sum) μ) : WC c A (.builtin "sum") [.loc i] μ K := WC.of1 fun s ι E Q v I r hQ => by
  obtain ⟨b, vs, n, rfl, ha, ea, ra⟩ := I.lst hi r
  obtain ⟨xs, e1, e2⟩ := RepL.ints is vs ra
  have hlen : xs.length = is.length := by rw [← e2]; simp
  have en : numAt xs.toArray = fun j => (is[j]?).getD 0 := by funext j; rw [numAt_S, e2]
  refine wpAny_with_toks (Nat.le_refl s.toks) (sum_intList (xs := xs.toArray) a (by rw [← e1]; exact lst_isList ea) (fun j hj => ?_) fun h' tk t' kk htk => ?_)
  · simp only [List.size_toArray] at hj
    rw [en]
    constructor
    · have : is[j]? = some is[j] := List.getElem?_eq_getElem (by omega)
      show InLong ((is[j]?).getD 0)
      rw [this]
      have := hb' is[j] (List.getElem_mem _)
      unfold InLong
      simp only [Option.getD_some]
      omega
    · have := hb (j + 1) (by omega)
      rw [preSum_take is (j + 1) (by omega)]
      unfold InLong
      omega
  · have g := I.grow O (s' := { s with heap := h', toks := tk }) kk I.bare rfl (Nat.lt_of_lt_of_le I.tp htk)
    rw [en, show xs.toArray.size = is.length by simp [hlen], preSum_take is _ (Nat.le_refl _), List.take_length]
    exact hQ _ _ ι (.int is.sum) μ g.2 g.1 (by simp only [RepV]; exact ⟨_, rfl⟩) k
end
end Mine
namespace Mine
section
variable {c : Cx} {A : Around} {μ : Mu} {K : PV → Mu → Prop}

/-- the greater, the lesser of two floats, the first of equals -/
def gtF (a b : UInt64) : UInt64 := if (Float64.cmp a b == some .lt) = true then b else a
def ltF (a b : UInt64) : UInt64 := if (Float64.cmp b a == some .lt) = true then b else a

theorem max3_run {s : Shared} {E Q : Value → Shared → Prop} {a b d : UInt64} {t u w : Tok} (hh : A.handled = none)
    (h : ∀ h' tk v, (∀ x o, s.heap.get? x = some o → h'.get? x = some o) → v = .float (gtF (gtF a b) d) t ∨ v = .float (gtF (gtF a b) d) u ∨ v = .float (gtF (gtF a b) d) w → Q v { s with heap := h', toks := tk }) :
    wpAny (model c.prog c.w) A (call (.builtin "max") [.float a t, .float b u, .float d w]) Q E s := by
  have hT : (s.heap.push { cls := .type "tuple", data := .seq #[Value.float a t, .float b u, .float d w] }).IsTuple s.heap.objs.size #[Value.float a t, .float b u, .float d w] := ⟨_, Heap.get?_push_size _ rfl, rfl, 0, rfl⟩
  refine call_max_three (wpAny_pyIter_tuple hT ?_)
  have hsz : (s.heap.push { cls := .type "tuple", data := .seq #[Value.float a t, .float b u, .float d w] }).objs.size = s.heap.objs.size + 1 := Heap.size_push ..
  refine ⟨_, [_, s.heap.objs.size], [_], _, _, _, _, rfl, Walks.tuple (A := A.in1) hh _ s.heap.objs.size (by rw [hsz]; exact Nat.ne_of_lt (Nat.lt_succ_self _)) #[Value.float a t, .float b u, .float d w],
    ⟨⟨_, Heap.get?_push_size _ rfl, rfl, rfl⟩, hT.push _⟩, fun x hx => ?_, by simp, Flt.cmpOf_gt #[Value.float a t, .float b u, .float d w] (by simp; exact ⟨.float _ _, .float _ _, .float _ _⟩), fun v h' tk hP hk => ?_⟩
  · show x < ((s.heap.push _).push _).objs.size
    rw [Heap.size_push, hsz]
    rcases List.mem_cons.mp hx with rfl | hx
    · rw [hsz]; exact Nat.lt_succ_self _
    · rcases List.mem_cons.mp hx with rfl | hx
      · exact Nat.lt_succ_of_lt (Nat.lt_succ_self _)
      · cases hx
  · have hold : ∀ x o, s.heap.get? x = some o → h'.get? x = some o := fun x o e => by
      refine hk x o (fun hm => ?_) (Heap.get?_push_of_some _ (Heap.get?_push_of_some _ e))
      rcases List.mem_cons.mp hm with e1 | hm
      · have := Heap.lt_size e; rw [e1, hsz] at this; exact Nat.lt_irrefl _ (Nat.lt_of_succ_lt this)
      · cases hm
    refine h h' tk v hold ?_
    cases h1 : (Float64.cmp a b == some .lt) <;> cases h2 : (Float64.cmp (gtF a b) d == some .lt) <;> simp only [gtF, h1, Bool.false_eq_true, if_false, if_true] at h2 <;> simp [argBest, Flt.ltV, h1, h2] at hP <;> simp [gtF, h1, h2, hP]
theorem min3_run {s : Shared} {E Q : Value → Shared → Prop} {a b d : UInt64} {t u w : Tok} (hh : A.handled = none)
    (h : ∀ h' tk v, (∀ x o, s.heap.get? x = some o → h'.get? x = some o) → v = .float (ltF (ltF a b) d) t ∨ v = .float (ltF (ltF a b) d) u ∨ v = .float (ltF (ltF a b) d) w → Q v { s with heap := h', toks := tk }) :
    wpAny (model c.prog c.w) A (call (.builtin "min") [.float a t, .float b u, .float d w]) Q E s := by
  have hT : (s.heap.push { cls := .type "tuple", data := .seq #[Value.float a t, .float b u, .float d w] }).IsTuple s.heap.objs.size #[Value.float a t, .float b u, .float d w] := ⟨_, Heap.get?_push_size _ rfl, rfl, 0, rfl⟩
  refine call_min_three (wpAny_pyIter_tuple hT ?_)
  have hsz : (s.heap.push { cls := .type "tuple", data := .seq #[Value.float a t, .float b u, .float d w] }).objs.size = s.heap.objs.size + 1 := Heap.size_push ..
  refine ⟨_, [_, s.heap.objs.size], [_], _, _, _, _, rfl, Walks.tuple (A := A.in1) hh _ s.heap.objs.size (by rw [hsz]; exact Nat.ne_of_lt (Nat.lt_succ_self _)) #[Value.float a t, .float b u, .float d w],
    ⟨⟨_, Heap.get?_push_size _ rfl, rfl, rfl⟩, hT.push _⟩, fun x hx => ?_, by simp, Flt.cmpOf_lt #[Value.float a t, .float b u, .float d w] (by simp; exact ⟨.float _ _, .float _ _, .float _ _⟩), fun v h' tk hP hk => ?_⟩
  · show x < ((s.heap.push _).push _).objs.size
    rw [Heap.size_push, hsz]
    rcases List.mem_cons.mp hx with rfl | hx
    · rw [hsz]; exact Nat.lt_succ_self _
    · rcases List.mem_cons.mp hx with rfl | hx
      · exact Nat.lt_succ_of_lt (Nat.lt_succ_self _)
      · cases hx
  · have hold : ∀ x o, s.heap.get? x = some o → h'.get? x = some o := fun x o e => by
      refine hk x o (fun hm => ?_) (Heap.get?_push_of_some _ (Heap.get?_push_of_some _ e))
      rcases List.mem_cons.mp hm with e1 | hm
      · have := Heap.lt_size e; rw [e1, hsz] at this; exact Nat.lt_irrefl _ (Nat.lt_of_succ_lt this)
      · cases hm
    refine h h' tk v hold ?_
    cases h1 : (Float64.cmp b a == some .lt) <;> cases h2 : (Float64.cmp d (ltF a b) == some .lt) <;> simp only [ltF, h1, Bool.false_eq_true, if_false, if_true] at h2 <;> simp [argBest, Flt.ltV, h1, h2] at hP <;> simp [ltF, h1, h2, hP]
theorem WC.max3 {a b d : UInt64} (O : c.Ok) (hh : A.handled = none) (k : K (.flt (gtF (gtF a b) d)) μ) : WC c A (.builtin "max") [.flt a, .flt b, .flt d] μ K := ⟨fun s ι E Q vs I r hQ => by
  simp only [RepL, RepV] at r
  obtain ⟨v1, _, rfl, ⟨t1, rfl, n1⟩, v2, _, rfl, ⟨t2, rfl, n2⟩, v3, _, rfl, ⟨t3, rfl, n3⟩, rfl⟩ := r
  refine wpAny_with_toks (Nat.le_refl s.toks) (max3_run hh fun h' tk v kk hv htk => ?_)
  have g := I.grow O (s' := { s with heap := h', toks := tk }) kk I.bare rfl (Nat.lt_of_lt_of_le I.tp htk)
  refine hQ v _ ι (.flt _) μ g.2 g.1 ?_ k
  simp only [RepV]
  rcases hv with rfl | rfl | rfl
  · exact ⟨_, rfl, n1⟩
  · exact ⟨_, rfl, n2⟩
  · exact ⟨_, rfl, n3⟩⟩
theorem WC.min3 {a b d : UInt64} (O : c.Ok) (hh : A.handled = none) (k : K (.flt (ltF (ltF a b) d)) μ) : WC c A (.builtin "min") [.flt a, .flt b, .flt d] μ K := ⟨fun s ι E Q vs I r hQ => by
  simp only [RepL, RepV] at r
  obtain ⟨v1, _, rfl, ⟨t1, rfl, n1⟩, v2, _, rfl, ⟨t2, rfl, n2⟩, v3, _, rfl, ⟨t3, rfl, n3⟩, rfl⟩ := r
  refine wpAny_with_toks (Nat.le_refl s.toks) (min3_run hh fun h' tk v kk hv htk => ?_)
  have g := I.grow O (s' := { s with heap := h', toks := tk }) kk I.bare rfl (Nat.lt_of_lt_of_le I.tp htk)
  refine hQ v _ ι (.flt _) μ g.2 g.1 ?_ k
  simp only [RepV]
  rcases hv with rfl | rfl | rfl
  · exact ⟨_, rfl, n1⟩
  · exact ⟨_, rfl, n2⟩
  · exact ⟨_, rfl, n3⟩⟩

/-- the greatest, the least of a row -/
def maxI (is : List Int) : Int := is.foldl max (is.headD 0)
def minI (is : List Int) : Int := is.foldl min (is.headD 0)
theorem argBest_max (f : Nat → Int) : ∀ n, f (argBest (fun i j => decide (f i > f j)) n) = ((List.range (n + 1)).map f).foldl max (f 0) ∧ argBest (fun i j => decide (f i > f j)) n ≤ n
  | 0 => by simp [argBest]
  | n + 1 => by
    obtain ⟨h1, h2⟩ := argBest_max f n
    rw [List.range_succ, List.map_append, List.foldl_append, ← h1]
    simp only [argBest, decide_eq_true_eq, List.map_cons, List.map_nil, List.foldl_cons, List.foldl_nil]
    split
    · constructor
      · omega
      · exact Nat.le_refl _
    · constructor
      · omega
      · omega
theorem argBest_min (f : Nat → Int) : ∀ n, f (argBest (fun i j => decide (f i < f j)) n) = ((List.range (n + 1)).map f).foldl min (f 0) ∧ argBest (fun i j => decide (f i < f j)) n ≤ n
  | 0 => by simp [argBest]
  | n + 1 => by
    obtain ⟨h1, h2⟩ := argBest_min f n
    rw [List.range_succ, List.map_append, List.foldl_append, ← h1]
    simp only [argBest, decide_eq_true_eq, List.map_cons, List.map_nil, List.foldl_cons, List.foldl_nil]
    split
    · constructor
      · omega
      · exact Nat.le_refl _
    · constructor
      · omega
      · omega
theorem range_at (is : List Int) : (List.range is.length).map (fun j => (is[j]?).getD 0) = is := by
  apply List.ext_getElem
  · simp
  · intro i h1 h2
    simp at h1 ⊢
    simp [h1]
theorem at_zero (is : List Int) : (is[0]?).getD 0 = is.headD 0 := by cases is <;> rfl
theorem WC.maxl {i : Nat} {is : List Int} (O : c.Ok) (a : A.handled = none) (hi : μ[i]? = some (.lst (is.map .int))) (hn : is ≠ []) (k : K (.int (maxI is)) μ) : WC c A (.builtin "max") [.loc i] μ K := WC.of1 fun s ι E Q v I r hQ => by
  obtain ⟨b, vs, n, rfl, ha, ea, ra⟩ := I.lst hi r
  obtain ⟨xs, e1, e2⟩ := RepL.ints is vs ra
  have hlen : xs.length = is.length := by rw [← e2]; simp
  have hpos : 0 < is.length := List.length_pos_iff.mpr hn
  have en : numAt xs.toArray = fun j => (is[j]?).getD 0 := by funext j; rw [numAt_S, e2]
  refine wpAny_with_toks (Nat.le_refl s.toks) (max_intList (xs := xs.toArray) a (by rw [← e1]; exact lst_isList ea) (by simp [hlen]; exact hpos) fun v h' tk hv kk htk => ?_)
  have g := I.grow O (s' := { s with heap := h', toks := tk }) kk I.bare rfl (Nat.lt_of_lt_of_le I.tp htk)
  obtain ⟨t, rfl⟩ := intItems_at hv
  have key := argBest_max (numAt xs.toArray) (xs.toArray.size - 1)
  have hs : xs.toArray.size - 1 + 1 = is.length := by simp [hlen]; omega
  rw [hs] at key
  have kv : numAt xs.toArray (argBest (fun i j => decide (numAt xs.toArray i > numAt xs.toArray j)) (xs.toArray.size - 1)) = maxI is := by
    rw [key.1, en, range_at]; show List.foldl _ ((is[0]?).getD 0) is = _; rw [at_zero]; rfl
  exact hQ _ _ ι (.int (maxI is)) μ g.2 g.1 (by simp only [RepV]; rw [kv]; exact ⟨_, rfl⟩) k
theorem WC.minl {i : Nat} {is : List Int} (O : c.Ok) (a : A.handled = none) (hi : μ[i]? = some (.lst (is.map .int))) (hn : is ≠ []) (k : K (.int (minI is)) μ) : WC c A (.builtin "min") [.loc i] μ K := WC.of1 fun s ι E Q v I r hQ => by
  obtain ⟨b, vs, n, rfl, ha, ea, ra⟩ := I.lst hi r
  obtain ⟨xs, e1, e2⟩ := RepL.ints is vs ra
  have hlen : xs.length = is.length := by rw [← e2]; simp
  have hpos : 0 < is.length := List.length_pos_iff.mpr hn
  have en : numAt xs.toArray = fun j => (is[j]?).getD 0 := by funext j; rw [numAt_S, e2]
  refine wpAny_with_toks (Nat.le_refl s.toks) (min_intList (xs := xs.toArray) a (by rw [← e1]; exact lst_isList ea) (by simp [hlen]; exact hpos) fun v h' tk hv kk htk => ?_)
  have g := I.grow O (s' := { s with heap := h', toks := tk }) kk I.bare rfl (Nat.lt_of_lt_of_le I.tp htk)
  obtain ⟨t, rfl⟩ := intItems_at hv
  have key := argBest_min (numAt xs.toArray) (xs.toArray.size - 1)
  have hs : xs.toArray.size - 1 + 1 = is.length := by simp [hlen]; omega
  rw [hs] at key
  have kv : numAt xs.toArray (argBest (fun i j => decide (numAt xs.toArray i < numAt xs.toArray j)) (xs.toArray.size - 1)) = minI is := by
    rw [key.1, en, range_at]; show List.foldl _ ((is[0]?).getD 0) is = _; rw [at_zero]; rfl
  exact hQ _ _ ι (.int (minI is)) μ g.2 g.1 (by simp only [RepV]; rw [kv]; exact ⟨_, rfl⟩) k
end
end Mine
namespace Mine

theorem iteT {b : Bool} {X Y : Prop} (h : b = true) (x : X) : if b = true then X else Y := by rw [if_pos h]; exact x
theorem iteF {b : Bool} {X Y : Prop} (h : b = false) (y : Y) : if b = true then X else Y := by rw [h]; exact y
theorem at_end (μ : Mu) (m : MO) (g : Mu) : (μ ++ m :: g)[μ.length]? = some m := by simp
theorem set_end (μ : Mu) (m m' : MO) (g : Mu) : (μ ++ m :: g).set μ.length m' = μ ++ m' :: g := by simp
theorem kindStr {μ : Mu} {x : Str} {P : Prop} (h : P) : KindIs μ "str" (.str x) ∧ P := ⟨rfl, h⟩
theorem kindLst {μ : Mu} {i : Nat} {ps : List PV} {P : Prop} (hi : μ[i]? = some (.lst ps)) (h : P) : KindIs μ "list" (.loc i) ∧ P := ⟨⟨rfl, ps, hi⟩, h⟩
theorem subStr {μ : Mu} {x : Str} {P : Prop} (h : P) : SubOk μ (.str x) ∧ P := ⟨trivial, h⟩
theorem subTup {μ : Mu} {x : List PV} {P : Prop} (h : P) : SubOk μ (.tup x) ∧ P := ⟨trivial, h⟩
theorem subLst {μ : Mu} {i : Nat} {ps : List PV} {P : Prop} (hi : μ[i]? = some (.lst ps)) (h : P) : SubOk μ (.loc i) ∧ P := ⟨⟨ps, hi⟩, h⟩
theorem loopLst {μ : Mu} {i : Nat} {ps : List PV} {P : Prop} (hi : μ[i]? = some (.lst ps)) (h : P) : (∃ its, itemsOf μ (.loc i) = some its) ∧ (∀ j, PV.loc i = .loc j → ∃ l, μ[j]? = some (.lst l)) ∧ (∀ lo hi, PV.loc i = .rng lo hi → -1000000 ≤ lo ∧ lo ≤ 1000000 ∧ -1000000 ≤ hi ∧ hi ≤ 1000000) ∧ P :=
  ⟨⟨ps, by simp [itemsOf, hi]⟩, fun j e => by cases e; exact ⟨ps, hi⟩, fun lo hi e => (by cases e), h⟩
theorem loopStr {μ : Mu} {x : Str} {P : Prop} (h : P) : (∃ its, itemsOf μ (.str x) = some its) ∧ (∀ j, PV.str x = .loc j → ∃ l, μ[j]? = some (.lst l)) ∧ (∀ lo hi, PV.str x = .rng lo hi → -1000000 ≤ lo ∧ lo ≤ 1000000 ∧ -1000000 ≤ hi ∧ hi ≤ 1000000) ∧ P :=
  ⟨⟨_, rfl⟩, fun j e => (by cases e), fun lo hi e => (by cases e), h⟩
theorem loopTup {μ : Mu} {x : List PV} {P : Prop} (h : P) : (∃ its, itemsOf μ (.tup x) = some its) ∧ (∀ j, PV.tup x = .loc j → ∃ l, μ[j]? = some (.lst l)) ∧ (∀ lo hi, PV.tup x = .rng lo hi → -1000000 ≤ lo ∧ lo ≤ 1000000 ∧ -1000000 ≤ hi ∧ hi ≤ 1000000) ∧ P :=
  ⟨⟨_, rfl⟩, fun j e => (by cases e), fun lo hi e => (by cases e), h⟩
theorem loopRng {μ : Mu} {lo hi : Int} {P : Prop} (hb : -1000000 ≤ lo ∧ lo ≤ 1000000 ∧ -1000000 ≤ hi ∧ hi ≤ 1000000) (h : P) : (∃ its, itemsOf μ (.rng lo hi) = some its) ∧ (∀ j, PV.rng lo hi = .loc j → ∃ l, μ[j]? = some (.lst l)) ∧ (∀ a b, PV.rng lo hi = .rng a b → -1000000 ≤ a ∧ a ≤ 1000000 ∧ -1000000 ≤ b ∧ b ≤ 1000000) ∧ P :=
  ⟨⟨_, rfl⟩, fun j e => (by cases e), fun a b e => (by cases e; exact hb), h⟩
theorem updE {ρ ρ' : Rho} {x : Str} {p : PV} {K : Rho → Prop} (u : UpdI ρ x p ρ') (k : K ρ') : ∃ ρ', UpdI ρ x p ρ' ∧ K ρ' := ⟨ρ', u, k⟩
/-- a loop behind an invariant -/
abbrev invK (V : Nat → Rho → Mu → Prop) (K : PF → Rho → Mu → Prop) (j : Nat) (f : PF) (ρ : Rho) (μ : Mu) : Prop := match f with
  | .next => V (j + 1) ρ μ
  | .cont => V (j + 1) ρ μ
  | .brk => K .next ρ μ
  | .ret v => K (.ret v) ρ μ
theorem WL.inv {c : Cx} {A : Around} {env : Env} {ρ : Rho} {μ : Mu} {tgt : Expr} {body : List Stmt} {p : PV} {K : PF → Rho → Mu → Prop} (V : Nat → Rho → Mu → Prop) (its : List PV) (O : c.Ok) (a : A.handled = none) (h0 : V 0 ρ μ)
    (hits : ∀ j ρ μ, V j ρ μ → itemsOf μ p = some its ∧ ∀ i, p = .loc i → ∃ l, μ[i]? = some (.lst l))
    (step : ∀ j q ρ μ, its[j]? = some q → V j ρ μ → WA c A tgt env q ρ μ fun ρ' => WSs c A body env ρ' μ (invK V K j))
    (done : ∀ ρ μ, V its.length ρ μ → K .next ρ μ) : WL c A tgt body env p K 0 ρ μ := by
  have key : ∀ (n j : Nat) (ρ : Rho) (μ : Mu), j ≤ its.length → its.length - j = n → V j ρ μ → WL c A tgt body env p K j ρ μ := by
    intro n
    induction n with
    | zero =>
      intro j ρ μ hj hn hv
      have e : j = its.length := by omega
      subst e
      exact WL.done O a (hits _ _ _ hv).1 (by simp) (done ρ μ hv) (hits _ _ _ hv).2
    | succ n ih =>
      intro j ρ μ hj hn hv
      have hlt : j < its.length := by omega
      refine WL.step O a (hits _ _ _ hv).1 (List.getElem?_eq_getElem hlt) ?_ (hits _ _ _ hv).2
      have st := step j its[j] ρ μ (List.getElem?_eq_getElem hlt) hv
      refine ⟨fun s ι E Q v I W r hQ => st.run s ι E Q v I W r fun s' ρ' S I' W' k => hQ s' ρ' S I' W' (WSs.mono k fun f ρ₂ μ₂ kf => ?_)⟩
      cases f with
      | next => exact ih (j + 1) ρ₂ μ₂ (by omega) (by omega) kf
      | cont => exact ih (j + 1) ρ₂ μ₂ (by omega) (by omega) kf
      | brk => exact kf
      | ret v => exact kf
  exact key _ 0 ρ μ (Nat.zero_le _) rfl h0
theorem WAL.mono {c : Cx} {A : Around} {env : Env} {ρ : Rho} {μ : Mu} {t : Expr} {p : PV} {K K' : Rho → Prop} (h : WAL c A t env p ρ μ K) (k : ∀ r, K r → K' r) : WAL c A t env p ρ μ K' :=
  ⟨fun s ι E Q v I V r hQ => h.run s ι E Q v I V r fun s' ρ' S I' V' x => hQ s' ρ' S I' V' (k _ x)⟩
theorem WIfs.mono {c : Cx} {A : Around} {env : Env} {ρ : Rho} {μ : Mu} {ifs : List Expr} {K K' : Bool → Mu → Prop} (h : WIfs c A ifs env ρ μ K) (k : ∀ b m, K b m → K' b m) : WIfs c A ifs env ρ μ K' :=
  ⟨fun s ι E Q I V hQ => h.run s ι E Q I V fun b s' ι' μ' S I' x => hQ b s' ι' μ' S I' (k _ _ x)⟩
/-- a comprehension behind an invariant; the rows' part of the store is told by it -/
theorem WCL.inv {c : Cx} {A : Around} {ρ : Rho} {μ : Mu} {elt tgt iter : Expr} {ifs : List Expr} {scope : Scope} {pos : Pos} {cenv : Env} {p : PV} {i : Nat} {K : Mu → Prop} (V : Nat → Mu → Prop) (its : List PV) (O : c.Ok) (a : A.handled = none) (h0 : V 0 μ)
    (hits : ∀ j μ, V j μ → itemsOf μ p = some its ∧ ∀ i, p = .loc i → ∃ l, μ[i]? = some (.lst l))
    (step : ∀ j q μ, its[j]? = some q → V j μ → WAL c A tgt cenv q ρ μ fun ρ' => (∀ y ∈ ρ, y ∈ ρ') ∧ WIfs c A ifs cenv ρ' μ fun ok μ₁ => if ok = true then
        WE c A elt cenv ρ' μ₁ fun x μ₂ => ∃ ps, μ₂[i]? = some (.lst ps) ∧ ps.length ≤ 1000000 ∧ V (j + 1) (μ₂.set i (.lst (ps ++ [x])))
      else V (j + 1) μ₁)
    (done : ∀ μ, V its.length μ → K μ) : WCL c A (.ListComp elt [⟨tgt, iter, ifs, 0⟩] scope pos) cenv p i ρ K 0 μ := by
  have key : ∀ (n j : Nat) (μ : Mu), j ≤ its.length → its.length - j = n → V j μ → WCL c A (.ListComp elt [⟨tgt, iter, ifs, 0⟩] scope pos) cenv p i ρ K j μ := by
    intro n
    induction n with
    | zero =>
      intro j μ hj hn hv
      have e : j = its.length := by omega
      subst e
      exact WCL.done O a (hits _ _ hv).1 (by simp) (hits _ _ hv).2 (done μ hv)
    | succ n ih =>
      intro j μ hj hn hv
      have hlt : j < its.length := by omega
      refine WCL.step O a (hits _ _ hv).1 (List.getElem?_eq_getElem hlt) (hits _ _ hv).2 ?_
      refine (step j its[j] μ (List.getElem?_eq_getElem hlt) hv).mono fun r x => ⟨x.1, x.2.mono fun b m y => ?_⟩
      cases b with
      | false => exact ih (j + 1) m (by omega) (by omega) y
      | true =>
        refine WE.mono y fun x m₂ z => ?_
        obtain ⟨ps, h1, h2, h3⟩ := z
        exact ⟨ps, h1, h2, ih (j + 1) _ (by omega) (by omega) h3⟩
  exact key _ 0 μ (Nat.zero_le _) rfl h0
abbrev strL (l : List (List Nat)) : List PV := l.map fun p => .str (S p)
theorem strL_at (l : List (List Nat)) (k : Nat) : (strL l)[k]? = (l[k]?).map fun p => .str (S p) := by simp [strL]
theorem truth_S (a : List Nat) : (((S a).length : Int) != 0) = decide (a ≠ []) := by
  rw [S_length]
  cases a with
  | nil => rfl
  | cons x r => simp; omega
theorem preB_nil (x : List Nat) : preB [] x = true := by simp [preB]
theorem sufB_nil (x : List Nat) : sufB [] x = true := by simp [sufB]
theorem lastAt (l : List (List Nat)) (h : l ≠ []) : (strL l)[l.length - 1]? = some (.str (S (l.getLastD []))) := by
  rw [strL_at, ← List.getLast?_eq_getElem?]
  cases l with
  | nil => exact absurd rfl h
  | cons x r => rw [List.getLastD_eq_getLast?, List.getLast?_cons]; simp
theorem erase_last (l : List (List Nat)) (h : l ≠ []) : (strL l).eraseIdx (l.length - 1) = strL l.dropLast := by
  have e : (strL l).length = l.length := by simp
  rw [← e, List.eraseIdx_length_sub_one]
  simp [strL]
theorem sufB_le {y x : List Nat} (h : sufB y x = true) : y.length ≤ x.length := by
  unfold sufB at h; simp at h; exact h.1
/-- the middle parts, one behind the other -/
def ellGo (got : List Nat) (hi : Nat) : Nat → List (List Nat) → Bool
  | _, [] => true
  | lo, w :: ws => match findB got w lo hi with
    | some i => ellGo got hi (i + w.length) ws
    | none => false
/-- the parts without an empty or a matched head -/
def ws1 (ws : List (List Nat)) : List (List Nat) := if ws.headD [] = [] then ws else ws.tail
def ws2 (ws : List (List Nat)) : List (List Nat) := if ws.getLastD [] = [] then ws else ws.dropLast
/-- what _ellipsis_match answers -/
def ellB (want got : List Nat) : Bool :=
  if (findB want dots 0 want.length).isSome = false then want == got else
  if preB ((splitD want []).headD []) got = false then false else
  if sufB ((ws1 (splitD want [])).getLastD []) got = false then false else
  if got.length < ((splitD want []).headD []).length + ((ws1 (splitD want [])).getLastD []).length then false else
  ellGo got (got.length - ((ws1 (splitD want [])).getLastD []).length) ((splitD want []).headD []).length (ws2 (ws1 (splitD want [])))

theorem splitD_ne (w cur : List Nat) : splitD w cur ≠ [] := by
  induction w, cur using splitD.induct with
  | case1 r cur ih => rw [splitD_dots]; simp
  | case2 c r cur h ih => rw [splitD]; exact ih; exact h
  | case3 cur => rw [splitD]; simp
theorem findB_some {x y : List Nat} {lo hi i : Nat} (h : findB x y lo hi = some i) : lo ≤ i ∧ i + y.length ≤ hi ∧ (x.drop i).take y.length = y ∧ ∀ j, lo ≤ j → j < i → atB x y hi j = false := by
  unfold findB at h
  have h1 := List.find?_some h
  have h2 := List.mem_of_find?_eq_some h
  rw [List.mem_range'_1] at h2
  unfold atB at h1
  simp only [Bool.and_eq_true, decide_eq_true_eq, beq_iff_eq] at h1
  refine ⟨h2.1, h1.1, h1.2, fun j hj1 hj2 => ?_⟩
  obtain ⟨as, bs, e, hn⟩ := (List.find?_eq_some_iff_append.mp h).2
  have hm : j ∈ as := by
    have : j ∈ List.range' lo (hi + 1 - lo) := by rw [List.mem_range'_1]; omega
    rw [e] at this
    rcases List.mem_append.mp this with hm | hm
    · exact hm
    · have pw : (List.range' lo (hi + 1 - lo)).Pairwise (· < ·) := List.pairwise_lt_range'
      rw [e] at pw
      have := (List.pairwise_append.mp pw).2.1
      rw [List.pairwise_cons] at this
      rcases List.mem_cons.mp hm with rfl | hm
      · omega
      · have := this.1 j hm; omega
  simpa using hn j hm
theorem findB_none {x y : List Nat} {lo hi : Nat} (h : findB x y lo hi = none) : ∀ j, lo ≤ j → atB x y hi j = false := by
  intro j hj
  unfold findB at h
  rw [List.find?_eq_none] at h
  cases q : atB x y hi j with
  | false => rfl
  | true =>
    have hq := q
    unfold atB at hq
    simp only [Bool.and_eq_true, decide_eq_true_eq] at hq
    exact absurd q (h j (by rw [List.mem_range'_1]; omega))
theorem splitD_two {w : List Nat} (h : (findB w dots 0 w.length).isSome = true) : ∃ a b r, splitD w [] = a :: b :: r := by
  obtain ⟨i, hi⟩ := Option.isSome_iff_exists.mp h
  obtain ⟨_, h2, h3, h4⟩ := findB_some hi
  have hl : dots.length = 3 := rfl
  rw [hl] at h2 h3
  have hno : ∀ j, j < i → ((w.drop j).take 3 == dots) = false := fun j hj => by
    have := h4 j (Nat.zero_le _) hj
    unfold atB at this
    rw [hl] at this
    simp only [Bool.and_eq_false_iff, decide_eq_false_iff_not] at this
    rcases this with h | h
    · omega
    · exact h
  rw [splitD_run i w [] (by omega) hno]
  have e2 : w.drop i = 46 :: 46 :: 46 :: w.drop (i + 3) := by
    have := List.take_append_drop 3 (w.drop i)
    rw [h3, List.drop_drop] at this
    exact this.symm
  rw [e2, splitD_dots]
  cases q : splitD (w.drop (i + 3)) [] with
  | nil => exact absurd q (splitD_ne _ _)
  | cons b r => exact ⟨_, b, r, rfl⟩
theorem splitD_len (w cur : List Nat) : ∀ p ∈ splitD w cur, p.length ≤ w.length + cur.length := by
  induction w, cur using splitD.induct with
  | case1 r cur ih =>
    rw [splitD_dots]
    intro p hp
    rcases List.mem_cons.mp hp with rfl | hp
    · (first | (simp; done) | ((first | (simp; done) | (simp; omega))))
    · have := ih p hp; simp at this ⊢; omega
  | case2 c r cur h ih =>
    rw [splitD]
    · intro p hp; have := ih p hp; simp at this ⊢; omega
    · exact h
  | case3 cur => rw [splitD]; simp
theorem splitD_count (w cur : List Nat) : (splitD w cur).length ≤ w.length + 1 := by
  induction w, cur using splitD.induct with
  | case1 r cur ih => rw [splitD_dots]; (first | (simp; done) | (simp; omega))
  | case2 c r cur h ih =>
    rw [splitD]
    · simp; omega
    · exact h
  | case3 cur => rw [splitD]; simp
end Mine
namespace Mine
abbrev pilOf (C d : Addr) (vs : List Value) (n : Nat) : Obj := { cls := .ref C, dict := some d, data := .seq vs.toArray n, slots := #[] }
theorem kd_append : builtinKind "list.append" = some .slot ∨ builtinKind "list.append" = some .method := .inr (by kernel_rfl)
theorem sp_append : splitId "list.append" = some ("list", "append") := by kernel_rfl
theorem kd_getitem : builtinKind "list.__getitem__" = some .slot ∨ builtinKind "list.__getitem__" = some .method := .inr (by kernel_rfl)
theorem sp_getitem : splitId "list.__getitem__" = some ("list", "__getitem__") := by kernel_rfl
theorem kd_iter : builtinKind "list.__iter__" = some .slot ∨ builtinKind "list.__iter__" = some .method := .inl (by kernel_rfl)
theorem sp_iter : splitId "list.__iter__" = some ("list", "__iter__") := by kernel_rfl
theorem kd_setitem : builtinKind "list.__setitem__" = some .slot ∨ builtinKind "list.__setitem__" = some .method := .inl (by kernel_rfl)
theorem sp_setitem : splitId "list.__setitem__" = some ("list", "__setitem__") := by kernel_rfl
/-- a built-in method called upon an object of a class that stands below its owner -/
theorem check_own {M : Model} {A : Around} {E : Value → Shared → Prop} {s : Shared} {i owner n : String} {self : Value} {rest : List Value} {kw : List (Str × Value)} {Q : Unit → Shared → Prop}
    (hk : builtinKind i = some .slot ∨ builtinKind i = some .method) (hs : splitId i = some (owner, n)) (hi : Looks M s.heap (isInstance self (.type owner)) true) (ha : argsOk i ⟨self :: rest, kw⟩) (q : Q () s) :
    wpAny M A (checkBuiltinCall i ⟨self :: rest, kw⟩) Q E s := by
  rcases hk with hk | hk <;>
  · simp only [checkBuiltinCall, hk, hs]
    refine wpAny_bind (hi.here ?_)
    simp only [Bool.not_true, Bool.false_eq_true, if_false]
    cases hsig : Manifest.signature? i with
    | none => exact wpAny_pure q
    | some sig =>
      simp only [argsOk, hsig] at ha
      have h2 : Bind.checkArgs i sig ⟨self :: rest, kw⟩ = pure () := ha
      show wpAny M A (Bind.checkArgs i sig ⟨self :: rest, kw⟩) Q E s
      rw [h2]; exact wpAny_pure q
open AutoSeq1 (wpAny_loadPart')
section
variable {prog : Program} {w : World} {A : Around} {E : Value → Shared → Prop} {s : Shared} {K : Frag} {a C d : Addr} {vs : List Value} {n : Nat} {od : Obj}

theorem looks_list (X : K.In s.heap) (I : W.InstAt s.heap a (pilOf C d vs n) C (some od)) (hsub : mroIn K C (.type "list") = some true) : Looks (model prog w) s.heap (isInstance (.ref a) (.type "list")) true :=
  I.type.andThen (looks_mroIn X hsub)

theorem pil_append {x : Value} {Q : Value → Shared → Prop} (X : K.In s.heap) (I : W.InstAt s.heap a (pilOf C d vs n) C (some od)) (hsub : mroIn K C (.type "list") = some true)
    (hb : vs.length ≤ 1000000) (hq : Q .none { s with heap := s.heap.update a (Obj.mapSeq fun xs => xs.push x) }) : wpAny (model prog w) A (call (.builtin "list.append") [.ref a, x]) Q E s := by
  refine wpAny_call (codeAny_call_builtin F.slot_list_append.plain F.entry_list_append ?_)
  have hl0 := @looks_list prog w s K a C d vs n od X I hsub
  refine check_own (M := model prog w) (i := "list.append") (owner := "list") (n := "append") (self := .ref a) (rest := [x]) (kw := []) kd_append sp_append hl0 (F.args_list_append_2 _ _) ?_
  obtain ⟨hp, g, dr, tk, os⟩ := s
  have hl := I.at_
  have hz : vs.toArray.size ≤ sizeLine := by rw [sizeLine_eq]; simp; omega
  have hz' : (vs.toArray.push x).size ≤ sizeLine + 1 := by rw [sizeLine_eq]; simp; omega
  wp_walk using (wpAny_updateSeq hl rfl (hz := hz) (_hz' := hz')), wpAny_loadPart' hl
  exact hq
theorem pil_iter {Q : Value → Shared → Prop} (X : K.In s.heap) (I : W.InstAt s.heap a (pilOf C d vs n) C (some od)) (hsub : mroIn K C (.type "list") = some true)
    (hq : Q (.ref s.heap.objs.size) { s with heap := s.heap.push { cls := .type "list_iterator", data := .fields #[.ref a, .int 0 0] } }) : wpAny (model prog w) A (call (.builtin "list.__iter__") [.ref a]) Q E s := by
  refine wpAny_call (codeAny_call_builtin F.slot_list_iter.plain F.entry_list_iter ?_)
  have hl0 := @looks_list prog w s K a C d vs n od X I hsub
  refine check_own (M := model prog w) (i := "list.__iter__") (owner := "list") (n := "__iter__") (self := .ref a) (rest := []) (kw := []) kd_iter sp_iter hl0 (F.args_list_iter_1 _) ?_
  obtain ⟨hp, g, dr, tk, os⟩ := s
  have hl := I.at_
  wp_walk using wpAny_loadPart' hl
  exact hq
/-- a special method of the class that is list's own -/
theorem pil_special {name : Str} {id : String} {args : List Value} {Q : Option Value → Shared → Prop} (X : K.In s.heap) (I : W.InstAt s.heap a (pilOf C d vs n) C (some od)) (hs : findIn K (.ref C) name = some (some (.builtin id))) (sl : ∀ self, bindSpecial (.builtin id) self = pure (.builtin id, [self]))
    (h : wpAny (model prog w) A (call (.builtin id) (.ref a :: args)) (fun v => Q (some v)) E s) : wpAny (model prog w) A (callSpecial? (.ref a) name args) Q E s := by
  unfold callSpecial? specialOf
  refine wpAny_bind (wpAny_bind (I.type.here ((looks_findIn X hs).here ?_)))
  refine wpAny_holding ?_
  rw [sl]
  refine wpAny_bind (wpAny_pure ?_)
  exact wpAny_bind (wpAny_mono h (fun _ _ z => wpAny_pure z) fun _ _ z => z)
theorem pil_slice {sl : Addr} {vl vu : Value} {lo hi : Option Int} {Q : Value → Shared → Prop} (X : K.In s.heap) (I : W.InstAt s.heap a (pilOf C d vs n) C (some od)) (hsub : mroIn K C (.type "list") = some true)
    (hq0 : noSeq K C = true) (hs : findIn K (.ref C) "__getitem__" = some (some (.builtin "list.__getitem__"))) (hsl : s.heap.IsSliceOf sl vl vu .none) (pl : IsPart vl lo) (pu : IsPart vu hi)
    (hb : vs.length ≤ 1000000) (hq : Q (.ref s.heap.objs.size) { s with heap := s.heap.push { cls := .type "list", data := .seq (slicePick vs.toArray lo hi none) } }) : wpAny (model prog w) A (getItem (.ref a) (.ref sl)) Q E s := by
  unfold getItem sequenceKey
  refine wpAny_holding (wpAny_bind (wpAny_bind (I.type.here ?_)))
  refine wpAny_bind ((anyM_none X hq0).here ?_)
  rw [if_pos (show (!false) = true from rfl)]
  refine wpAny_pure (wpAny_bind (pil_special X I hs F.slot_list_getitem.bind ?_))
  refine wpAny_call (codeAny_call_builtin F.slot_list_getitem.plain F.entry_list_getitem ?_)
  have hl0 := @looks_list prog w s K a C d vs n od X I hsub
  refine check_own (M := model prog w) (i := "list.__getitem__") (owner := "list") (n := "__getitem__") (self := .ref a) (rest := [.ref sl]) (kw := []) kd_getitem sp_getitem hl0 (F.args_list_getitem_2 _ _) ?_
  obtain ⟨os, hos, hcs, hds⟩ := id hsl
  have hTs : s.TypeIs (.ref sl) "slice" := ⟨os, hos, hcs⟩
  show wpAny _ _ (Builtin.List.listSubscript? (.ref sl) >>= _) _ _ s
  refine wpAny_bind ?_
  unfold Builtin.List.listSubscript?
  refine wpAny_bind (wpAny_specialOf hTs slice_no_index ?_)
  simp only [Option.isNone_none, if_true]
  refine wpAny_pure ?_
  show wpAny _ _ (typeOf (.ref sl) >>= _) _ _ s
  refine wpAny_bind (wpAny_typeOf hTs ?_)
  rw [if_neg (by decide)]
  rw [listSliceParts_eq]
  have hstep : ¬ ((rawPart none == rawInt 0) = true) := Bool.false_ne_true
  refine wpAny_bind (wpAny_bind (wpAny_field hos hds (x := .none) rfl (wpAny_bind (wpAny_listPart .none ?_))))
  rw [if_neg hstep]
  refine wpAny_bind (wpAny_field hos hds (x := vl) rfl (wpAny_bind (wpAny_listPart pl ?_)))
  refine wpAny_bind (wpAny_field hos hds (x := vu) rfl (wpAny_bind (wpAny_listPart pu (wpAny_pure ?_))))
  refine wpAny_bind (PyProof.Rows.listItems_at I.at_ rfl ?_)
  refine wpAny_bind (wpAny_of_eq (sliceIndices_raw lo hi none vs.toArray.size (by simp)) ?_)
  refine wpAny_bind (wpAny_newObj_type (wpAny_pure (wpAny_pure hq)) (Nat.le_trans (slicePick_size_le vs.toArray lo hi none) (by rw [sizeLine_eq]; simp; omega)))
end
end Mine
namespace Mine
theorem canon_lga : (Manifest.canonical "list.__getattribute__" != "object.__getattribute__") = false := by decide +kernel
section
variable {prog : Program} {w : World} {A : Around} {E : Value → Shared → Prop} {s : Shared} {K : Frag} {a C d f : Addr} {vs : List Value} {n : Nat} {od : Obj}

/-- a method of the class, to be called upon the pile -/
theorem pil_method {name : Str} {m tm : Value} {pl : Sem Bool} {Q : Value × List Value → Shared → Prop} (X : K.In s.heap) (I : W.InstAt s.heap a (pilOf C d vs n) C (some od)) (hga : findIn K (.ref C) "__getattribute__" = some (some (.builtin "list.__getattribute__"))) (hk : findIn K (.ref C) "__getattr__" = some none)
    (hf : findIn K (.ref C) name = some (some m)) (ht : typeIn K m = some tm) (htm : (tm != .type "function" && tm != .type "method_descriptor" && tm != .type "wrapper_descriptor") = false) (hs : lookIn name od = some none) (h : Q (m, [.ref a]) s) :
    wpAny (model prog w) A (getMethod (.ref a) name pl) Q E s := by
  have hcan := canon_lga
  unfold getMethod specialOf
  refine wpAny_bind (wpAny_bind (I.type.here ((looks_findIn X hga).here ?_)))
  dsimp only
  rw [hcan, if_neg (by decide)]
  refine wpAny_bind (wpAny_bind (I.type.here ((looks_findIn X hk).here ?_)))
  refine wpAny_bind (wpAny_bind (I.type.here ((looks_findIn X hf).here (wpAny_bind ((looks_typeIn X ht).here ?_)))))
  rw [htm, if_neg (by decide)]
  refine wpAny_bind (wpAny_loadPart I.at_ ?_)
  have hd : s.heap.get? d = some od := I.dict
  refine wpAny_bind (wpAny_bind (wpAny_loadPart hd ?_))
  rw [nsLook_of hs]
  refine wpAny_pure ?_
  exact wpAny_bind (wpAny_rule (wpAny_pure h))
theorem kd_ga : builtinKind "list.__getattribute__" = some .slot ∨ builtinKind "list.__getattribute__" = some .method := .inl (by kernel_rfl)
theorem sp_ga : splitId "list.__getattribute__" = some ("list", "__getattribute__") := by kernel_rfl
theorem ar_ga (a b : Value) : argsOk "list.__getattribute__" ⟨[a, b], []⟩ := by unfold argsOk; kernel_rfl
theorem en_ga : entryFor table "list.__getattribute__" = some Builtin.«object.__getattribute__» := PySem.F.entry_list_ga
theorem bs_ga : ∀ self, bindSpecial (.builtin "list.__getattribute__") self = pure (.builtin "list.__getattribute__", [self]) :=
  (Slot.of (T := "list") (name := "__getattribute__") (owner := "list") (n := "__getattribute__") (by rw [typeLookup_type, builtinLookup_eq_fast]; kernel_rfl) (by kernel_rfl) (by kernel_rfl) (by kernel_rfl)
    (.inl (by kernel_rfl)) (by rw [isSubtype_type]; kernel_rfl)).bind
theorem pl_ga : plainId "list.__getattribute__" = true := by kernel_rfl
/-- a value of the pile's own dictionary -/
theorem pil_get {name : Str} {v : Value} {expr : Bool} {Q : Value → Shared → Prop} (X : K.In s.heap) (I : W.InstAt s.heap a (pilOf C d vs n) C (some od)) (hga : findIn K (.ref C) "__getattribute__" = some (some (.builtin "list.__getattribute__"))) (hk : findIn K (.ref C) "__getattr__" = some none)
    (hsub : mroIn K C (.type "list") = some true) (hf : findObj K C (some od) name = some (.value v)) (hh : handedIn v = true) (h : Q v { s with toks := s.toks + 1 }) : wpAny (model prog w) A (getAttr (.ref a) name expr) Q E s := by
  obtain ⟨hp, g, dr, t, os⟩ := s
  have L0 := I.type (M := model prog w)
  have L1 := looks_findIn (M := model prog w) X hga
  have L2 := looks_findIn (M := model prog w) X hk
  have L3 := looks_find (M := model prog w) X I hf
  have hl0 := @looks_list prog w ⟨hp, g, dr, t + 1, os⟩ K a C d vs n od X I hsub
  unfold getAttr getAttrBy
  refine wpAny_bind (wpAny_mkText (wpAny_holding (wpAny_bind (L0.at (wpAny_bind (L1.at ?_))))))
  show wpAny _ _ (getAttrByItsOwn (.ref a) (.str name t) (.ref C) (.builtin "list.__getattribute__") true expr) _ _ _
  unfold getAttrByItsOwn hookBefore callGetattribute
  refine wpAny_bind ?_
  rw [if_pos (show onTheHeap (.ref C) = true from rfl)]
  refine L2.at (wpAny_bind (wpAny_attempt (wpAny_holding ?_)))
  rw [show (expr && onTheHeap (.builtin "list.__getattribute__")) = false from Bool.and_false _, if_neg (by decide)]
  unfold boundAndCalled
  rw [bs_ga]
  refine wpAny_bind (wpAny_pure ?_)
  refine wpAny_mono (Q := fun r s' => r = v ∧ s' = ⟨hp, g, dr, t + 1, os⟩) (E := fun _ _ => False) ?_ (fun r s' hr => ?_) fun _ _ z => z.elim
  · refine wpAny_call (codeAny_call_builtin pl_ga en_ga ?_)
    refine check_own (M := model prog w) (i := "list.__getattribute__") (owner := "list") (n := "__getattribute__") (self := .ref a) (rest := [.str name t]) (kw := []) kd_ga sp_ga hl0 (ar_ga _ _) ?_
    refine wpAny_bind (wpAny_pure (wpAny_bind (wpAny_pure (wpAny_bind (L0.at (wpAny_bind (L3.at ?_)))))))
    exact wpAny_pure ⟨rfl, rfl⟩
  · obtain ⟨rfl, rfl⟩ := hr
    show wpAny _ _ (handedOut r) _ _ _
    rw [handedOut_of hh]
    exact wpAny_pure h
open Builtin Builtin.ObjectAttr in
theorem refuse_list (self : Value) : refuseLoop self "__setattr__" [.type "list", .type "object"] = pure () := by kernel_rfl
open Builtin Builtin.ObjectAttr in
/-- the first store into the pile's own dictionary -/
theorem pil_set {name : Str} {v : Value} {cd : ClassData} {Q : Unit → Shared → Prop} (X : K.In s.heap) (I : W.InstAt s.heap a (pilOf C d vs n) C (some emptyDict)) (hs : findIn K (.ref C) "__setattr__" = some (some (.builtin "object.__setattr__")))
    (hc : clsIn K C = some cd) (hm : cd.mro = [.ref C, .type "list", .type "object"]) (hdict : cd.hasDict = true) (ht : findIn K (.ref C) name = some none)
    (h : Q () { s with heap := s.heap.update d (Obj.putName name (PyData.keyHash w.params name) (.str name (s.toks + 1)) v), toks := s.toks + 2 }) :
    wpAny (model prog w) A (setAttr (.ref a) name v) Q E s := by
  obtain ⟨hp, g, dr, t, os⟩ := s
  refine set_plain X I hs ?_
  have SF := PySem.F.store_object
  have I' : W.InstAt hp a (pilOf C d vs n) C (some emptyDict) := I
  have sub : Looks (model prog w) hp (isInstance (.ref a) (.type "object")) true := I'.type.andThen (looks_mroIn X (by unfold mroIn; rw [hc, Option.bind_some, hm]; rfl))
  refine codeAny_call_builtin SF.slot.plain SF.entry (@check_slot (model prog w) _ _ ⟨hp, g, dr, t + 1, os⟩ "object.__setattr__" "object" "__setattr__" (.ref a) [.str name t, v] [] _ SF.kind SF.split sub (SF.args (.ref a) (.str name t) v) ?_)
  have hml : Looks (model prog w) hp (mroOf (.ref C)) [.ref C, .type "list", .type "object"] := by rw [← hm]; exact (looks_clsIn X hc).andThen .now
  have L0 := I'.type (M := model prog w)
  have L1 : Looks (model prog w) hp (typeLookup (.ref C) name) none := looks_findIn X ht
  have L2 : Looks (model prog w) hp (classData C) cd := looks_clsIn X hc
  rw [osa_eq, refuse_eq]
  refine wpAny_bind (wpAny_bind (L0.at (wpAny_bind (hml.at ?_))))
  rw [refuseLoop_ref, refuse_list]
  refine wpAny_pure (wpAny_bind (L0.at (wpAny_bind (L1.at (wpAny_bind (wpAny_pure ?_))))))
  have hx := I'.at_
  have D : hp.get? d = some emptyDict := I'.dict
  refine wpAny_bind (wpAny_pure (wpAny_bind (wpAny_bind (wpAny_loadPart hx (wpAny_bind (L2.at ?_))))))
  rw [hdict]
  refine wpAny_pure (a := some d) (wpAny_bind (wpAny_pure (wpAny_bind ?_)))
  unfold nsSet
  refine wpAny_bind (wpAny_bind (wpAny_askSetting (wpAny_pure (wpAny_bind (wpAny_mkText (wpAny_bind (wpAny_loadPart D ?_)))))))
  dsimp only
  rw [show aRefKeyMayBeTheName name #[] = false from rfl]
  refine wpAny_updatePart D ?_
  have D' : (hp.update d (Obj.putName name (PyData.keyHash w.params name) (.str name (t + 1)) v)).get? d = some (Obj.putName name (PyData.keyHash w.params name) (.str name (t + 1)) v emptyDict) := Heap.get?_update_self _ D rfl
  refine wpAny_bind (wpAny_lookBehind D' (pastItsLine_dict (by rw [sizeLine_eq]; show 1 ≤ _; omega)) ?_)
  exact wpAny_pure h
end
end Mine
namespace Mine
theorem ln_kind : builtinKind "list.__new__" = some .builtinFn := by kernel_rfl
theorem ln_split : splitId "list.__new__" = some ("list", "__new__") := by kernel_rfl
/-- a class of the text that stands right upon list -/
structure MakesL (M : Model) (h : Heap) (C : Addr) : Prop where
  obj : ∃ oc od cd sl, h.get? C = some ⟨oc, od, .cls cd, sl⟩ ∧ cd.abstract = false ∧ cd.hasDel = false ∧ cd.mro.isEmpty = false
  made : Looks M h (Bind.madeBy (.ref C)) (some "list.__new__")
  base : Looks M h (Bind.staticBase (.ref C)) (.ref C)
  self : Looks M h (isSubtype (.ref C) (.ref C)) true
  top : Looks M h (isSubtype (.ref C) (.type "list")) true
  call : Looks M h (specialOf (.ref C) "__call__") (some (.builtin "type.__call__"))
  typ : Looks M h (isInstance (.ref C) (.type "type")) true
theorem makesL_of {K : Frag} {M : Model} {h : Heap} (X : K.In h) {C : Addr} {oc : Value} {od : Option Addr} {cd : ClassData} {sl : Array (Option Value)} (ho : K.lookup C = some ⟨oc, od, .cls cd, sl⟩) (e1 : cd.abstract = false) (e2 : cd.hasDel = false)
    (e3 : (sl.toList[4]?).join = some (.builtin "list.__new__")) (hm : cd.mro = [.ref C, .type "list", .type "object"]) (e7 : specialIn K (.ref C) "__call__" = some (some (.builtin "type.__call__"))) (e8 : instIn K (.ref C) (.type "type") = some true) : MakesL M h C := by
  have hc : clsIn K C = some cd := by unfold clsIn; rw [ho]
  have e4 : cd.mro.isEmpty = false := by rw [hm]; rfl
  have hml : Looks M h (mroOf (.ref C)) cd.mro := (looks_clsIn X hc).andThen .now
  have made : Looks M h (Bind.madeBy (.ref C)) (some "list.__new__") := by
    intro A Q E s k q
    unfold Bind.madeBy
    refine wpAny_bind (hml A _ E s k ?_)
    rw [hm, List.forIn_cons]
    refine wpAny_bind (wpAny_bind (wpAny_bind (wpAny_bind (wpAny_loadPart (k _ _ (X _ _ ho)) (wpAny_pure ?_)))))
    dsimp only
    rw [← Array.getElem?_toList, e3]
    exact wpAny_pure (wpAny_pure (wpAny_pure q))
  refine ⟨⟨oc, od, cd, sl, X _ _ ho, e1, e2, e4⟩, made, ?_, looks_mroIn X ?_, looks_mroIn X ?_, looks_specialIn X e7, looks_instIn X e8⟩
  · intro A Q E s k q
    unfold Bind.staticBase
    refine wpAny_bind (hml A _ E s k ?_)
    rw [hm, List.forIn_cons]
    exact wpAny_bind (wpAny_bind (wpAny_bind (made A _ E s k (wpAny_pure (wpAny_pure (wpAny_pure q))))))
  · unfold mroIn; rw [hc, Option.bind_some, if_neg (by rw [e4]; decide), hm]; simp
  · unfold mroIn; rw [hc, Option.bind_some, if_neg (by rw [e4]; decide), hm]; rfl
section
variable {prog : Program} {w : World} {A : Around} {C : Addr} {R : Result → Shared → Prop} {h : Heap} {g : Array GenState} {d : Drawn} {t : Nat} {os : OsState}
theorem new_L {rest : List Value} (Y : MakesL (model prog w) h C) 
    (hq : R (.ok (.ret (.ref (h.objs.size + 1)))) ⟨(h.push emptyDict).push (pilOf C h.objs.size [] 0), g, d, t, os⟩) :
    codeAny (model prog w) A (.call (.builtin "list.__new__") ⟨.ref C :: rest, []⟩) R ⟨h, g, d, t, os⟩ := by
  obtain ⟨⟨oc, od, cd, sl, hC, e1, e2, e4⟩, made, base, self, top, call, typ⟩ := Y
  refine codeAny_call_builtin_code (plainId_quiet F.plain_list_new _) ?_
  simp only [checkBuiltinCall, ln_kind, ln_split]
  have fin : codeAny (model prog w) A (.builtin "list.__new__" ⟨.ref C :: rest, []⟩) R ⟨h, g, d, t, os⟩ := by
    refine codeAny_builtin_stack F.entry_list_new rfl fun p st => ?_
    have hown := owner_list_new
    simp only [hown]
    repeat (first | simp only [Bool.not_true, bne_self_eq_false, Bool.false_eq_true, if_false] | lk)
    have hC2 : ((h.push emptyDict).push (pilOf C h.objs.size [] 0)).get? C = some ⟨oc, od, .cls cd, sl⟩ := Heap.get?_push_of_some _ (Heap.get?_push_of_some _ hC)
    refine nd_load hC2 ?_
    refine wpAny_pure ?_
    refine wpAny_pure (a := cd.hasDel) ?_
    rw [e2]
    refine wpAny_pure (wpAny_pure ?_)
    show R _ _
    have hz : (h.push emptyDict).objs.size = h.objs.size + 1 := Heap.size_push ..
    rw [hz]
    exact hq
  repeat (first | simp only [beq_self_eq_true, if_true, Bool.not_true, bne_self_eq_false, Bool.false_eq_true, if_false] | lk)
  exact fin
/-- the class called: a new pile, then its __init__ -/
theorem make_L {K : Frag} {rest : List Value} {fI : Addr} (Y : MakesL (model prog w) h C) (X : K.In h) (hi : findIn K (.ref C) "__init__" = some (some (.ref fI))) (hf : typeIn K (.ref fI) = some (.type "function"))
    (hq : codeAny (model prog w) (A.under (.builtin "type.__call__" ⟨.ref C :: rest, []⟩)) (.call (.ref fI) ⟨.ref (h.objs.size + 1) :: rest, []⟩) (InitBack (h.objs.size + 1) R) ⟨(h.push emptyDict).push (pilOf C h.objs.size [] 0), g, d, t, os⟩) :
    codeAny (model prog w) A (.call (.ref C) ⟨rest, []⟩) R ⟨h, g, d, t, os⟩ := by
  have Y' := Y
  obtain ⟨⟨oc, od, cd, sl, hC, e1, e2, e4⟩, made, base, self, top, call, typ⟩ := Y
  have hil : Looks (model prog w) h (typeLookup (.ref C) "__init__") (some (.ref fI)) := looks_findIn X hi
  refine codeAny_of_tree ?_
  show wpAny _ _ (callAny (.ref C) _) _ _ _
  refine nd_load hC ?_
  show wpAny _ _ (callAny.viaDunder (.ref C) _) _ _ _
  unfold callAny.viaDunder
  refine wpAny_bind (call.at ?_)
  dsimp only
  rw [tc_bind]
  refine wpAny_bind (wpAny_pure (wpAny_bind (wpAny_pure ?_)))
  refine wpAny_pure (a := Fin.again (.call (.builtin "type.__call__") ⟨.ref C :: rest, []⟩)) (And.intro rfl ?_)
  refine codeAny_call_builtin_at (Code.quiet_builtin _ (by decide +kernel)) entry_typeCall (check_slot tc_kind tc_split typ (tc_args _ _ _) ?_)
  unfold Builtin.«type.__call__»
  have hm : Looks (model prog w) h (mroOf (.ref C)) cd.mro := ((Looks.ld (part := none) hC).andThen .now).andThen .now
  repeat (first | simp only [e4, Bool.false_eq_true, if_false] | with_reducible refine wpAny_call ?_ | lk)
  refine new_L Y' ?_
  have k : ∀ b o, h.get? b = some o → ((h.push emptyDict).push (pilOf C h.objs.size [] 0)).get? b = some o := fun b o e => Heap.get?_push_of_some _ (Heap.get?_push_of_some _ e)
  have hx : ((h.push emptyDict).push (pilOf C h.objs.size [] 0)).get? (h.objs.size + 1) = some (pilOf C h.objs.size [] 0) := by
    have hz : (h.push emptyDict).objs.size = h.objs.size + 1 := Heap.size_push ..
    rw [← hz]; exact Heap.get?_push_size _ rfl
  have t1 : Looks (model prog w) ((h.push emptyDict).push (pilOf C h.objs.size [] 0)) (typeOf (.ref (h.objs.size + 1))) (.ref C) := (Looks.ld hx).andThen .now
  have s1 := self.keeps k
  have i1 := hil.keeps k
  have b1 := (bind_fn (M := model prog w) X (.ref (h.objs.size + 1)) hf).keeps k
  unfold isInstance callSpecial? specialOf
  repeat (first | with_reducible refine wpAny_call ?_ | lk)
  refine codeAny_mono hq fun r s' z => ?_
  rcases r with e | (v | _ | _ | _) <;> first | exact z | exact z.elim | skip
  obtain ⟨rfl, z⟩ := z
  exact wpAny_pure (wpAny_pure z)
end
end Mine
namespace Mine
section
variable {prog : Program} {w : World} {A : Around} {E : Value → Shared → Prop} {s : Shared} {K : Frag} {a C d : Addr} {n : Nat} {od : Obj}

/-- the tail of a pile from place k on struck out -/
theorem pil_cut {vs : List Value} {k : Nat} {t : Tok} {sl l : Addr} {Q : Unit → Shared → Prop} (X : K.In s.heap) (I : W.InstAt s.heap a (pilOf C d vs n) C (some od)) (hsub : mroIn K C (.type "list") = some true)
    (hq0 : noSeq K C = true) (hs : findIn K (.ref C) "__setitem__" = some (some (.builtin "list.__setitem__"))) (hsl : s.heap.IsSliceOf sl (.int k t) .none .none) (hla : l ≠ a) (hl : s.heap.IsList l #[]) (hk : k ≤ vs.length)
    (hb : vs.length ≤ 1000000) (hq : Q () { s with heap := s.heap.update a (Obj.mapSeq fun xs => xs.extract 0 k ++ #[] ++ xs.extract vs.length xs.size) }) : wpAny (model prog w) A (setItem (.ref a) (.ref sl) (.ref l)) Q E s := by
  unfold setItem sequenceKey
  refine wpAny_holding (wpAny_bind (wpAny_bind (I.type.here ?_)))
  refine wpAny_bind ((anyM_none X hq0).here ?_)
  rw [if_pos (show (!false) = true from rfl)]
  refine wpAny_pure (wpAny_bind (pil_special X I hs F.slot_list_setitem.bind ?_))
  refine wpAny_call (codeAny_call_builtin F.slot_list_setitem.plain F.entry_list_setitem ?_)
  have hl0 := @looks_list prog w s K a C d vs n od X I hsub
  refine check_own (M := model prog w) (i := "list.__setitem__") (owner := "list") (n := "__setitem__") (self := .ref a) (rest := [.ref sl, .ref l]) (kw := []) kd_setitem sp_setitem hl0 (F.args_list_setitem_3 _ _ _) ?_
  obtain ⟨os, hos, hcs, hds⟩ := id hsl
  have hTs : s.TypeIs (.ref sl) "slice" := ⟨os, hos, hcs⟩
  show wpAny _ _ (Builtin.List.listSubscript? (.ref sl) >>= _) _ _ s
  refine wpAny_bind ?_
  unfold Builtin.List.listSubscript?
  refine wpAny_bind (wpAny_specialOf hTs slice_no_index ?_)
  simp only [Option.isNone_none, if_true]
  refine wpAny_pure ?_
  show wpAny _ _ (typeOf (.ref sl) >>= _) _ _ s
  refine wpAny_bind (wpAny_typeOf hTs ?_)
  rw [if_neg (by decide)]
  rw [listSliceParts_eq]
  have hstep : ¬ ((rawPart none == rawInt 0) = true) := Bool.false_ne_true
  refine wpAny_bind (wpAny_bind (wpAny_field hos hds (x := .none) rfl (wpAny_bind (wpAny_listPart .none ?_))))
  rw [if_neg hstep]
  refine wpAny_bind (wpAny_field hos hds (x := .int k t) rfl (wpAny_bind (wpAny_listPart (.int k t) ?_)))
  refine wpAny_bind (wpAny_field hos hds (x := .none) rfl (wpAny_bind (wpAny_listPart .none (wpAny_pure ?_))))
  have hsame : Builtin.List.listSameRef (.ref a) (.ref l) = false := by
    show decide (a = l) = false
    exact decide_eq_false (fun e => hla e.symm)
  dsimp only
  rw [hsame, if_neg (by decide)]
  obtain ⟨ol, hol, hcl, nl, hdl⟩ := id hl
  have hTl : s.TypeIs (.ref l) "list" := ⟨ol, hol, hcl⟩
  unfold Builtin.List.listAllItems
  refine wpAny_bind (wpAny_bind (wpAny_typeOf hTl ?_))
  rw [if_pos (show ((Value.type "list" == .type "list" || Value.type "list" == .type "tuple")) = true by decide)]
  refine PyProof.Rows.listItems_at hol hdl ?_
  refine wpAny_bind (PyProof.Rows.listItems_at I.at_ rfl ?_)
  refine wpAny_bind (wpAny_of_eq (sliceIndices_raw (some (k : Int)) none none vs.toArray.size (by simp)) ?_)
  have hbd : sliceBounds (some (k : Int)) none none vs.toArray.size = ((k : Int), (vs.length : Int), 1) := by
    simp only [sliceBounds, Option.getD_none]
    simp
    omega
  rw [hbd]
  dsimp only
  rw [if_pos (show ((1 : Int) == 1) = true from rfl)]
  refine wpAny_bind (wpAny_rule ?_)
  have hnl : Builtin.List.listTooLong (vs.toArray.size + (#[] : Array Value).size) = false := by
    unfold Builtin.List.listTooLong
    rw [sizeLine_eq]; simp; omega
  rw [hnl, if_neg (by decide)]
  have hmx : (max (k : Int) (vs.length : Int)).toNat = vs.length := by omega
  have hkn : ((k : Int)).toNat = k := by omega
  rw [hmx, hkn]
  have hz : vs.toArray.size ≤ sizeLine := by rw [sizeLine_eq]; simp; omega
  refine wpAny_bind (wpAny_updateSeq I.at_ rfl (hz := hz) (_hz' := by rw [sizeLine_eq]; simp; omega) ?_)
  refine wpAny_bind (wpAny_letGo ?_)
  exact wpAny_pure (wpAny_pure hq)
end
end Mine
namespace Mine
theorem wd_slot : Slot "wrapper_descriptor" "__get__" "wrapper_descriptor.__get__" := .of (owner := "wrapper_descriptor") (n := "__get__") (by rw [typeLookup_type, builtinLookup_eq_fast]; kernel_rfl) (by decide +kernel) (by decide +kernel) (by decide +kernel)
  (by first | exact .inl (by decide +kernel) | exact .inr (by decide +kernel)) (by rw [isSubtype_type]; kernel_rfl)
theorem wd_entry : entryFor table "wrapper_descriptor.__get__" = some Builtin.«wrapper_descriptor.__get__» := entryFor_of_tree (by kernel_rfl)
theorem wd_args (a b c : Value) : argsOk "wrapper_descriptor.__get__" ⟨[a, b, c], []⟩ := by unfold argsOk; kernel_rfl
theorem md_slot : Slot "method_descriptor" "__get__" "method_descriptor.__get__" := .of (owner := "method_descriptor") (n := "__get__") (by rw [typeLookup_type, builtinLookup_eq_fast]; kernel_rfl) (by decide +kernel) (by decide +kernel) (by decide +kernel)
  (by first | exact .inl (by decide +kernel) | exact .inr (by decide +kernel)) (by rw [isSubtype_type]; kernel_rfl)
theorem md_entry : entryFor table "method_descriptor.__get__" = some Builtin.«method_descriptor.__get__» := entryFor_of_tree (by kernel_rfl)
theorem md_args (a b c : Value) : argsOk "method_descriptor.__get__" ⟨[a, b, c], []⟩ := by unfold argsOk; kernel_rfl
theorem ty_len : typeOf (.builtin "list.__len__") = pure (.type "wrapper_descriptor") := by show builtinType _ = _; rw [builtinType_eq_fast]; kernel_rfl
theorem ty_init : typeOf (.builtin "list.__init__") = pure (.type "wrapper_descriptor") := by show builtinType _ = _; rw [builtinType_eq_fast]; kernel_rfl
theorem ty_pop : typeOf (.builtin "list.pop") = pure (.type "method_descriptor") := by show builtinType _ = _; rw [builtinType_eq_fast]; kernel_rfl
theorem wd_get_len (a C : Addr) : Builtin.«wrapper_descriptor.__get__» ⟨[.builtin "list.__len__", .ref a, .ref C], []⟩ = (do
    (do if !(← isInstance (.ref a) (.type "list")) then
          rule "descr.get.wrong-instance"
          raiseError "TypeError" s!"descriptor '{("__len__" : Str).toString}' for '{← typeName (.type "list")}' objects doesn't apply to a '{← typeNameOf (.ref a)}' object")
    ret (← newFields "method-wrapper" [.builtin "list.__len__", .ref a])) := by kernel_rfl
theorem wd_get_init (a C : Addr) : Builtin.«wrapper_descriptor.__get__» ⟨[.builtin "list.__init__", .ref a, .ref C], []⟩ = (do
    (do if !(← isInstance (.ref a) (.type "list")) then
          rule "descr.get.wrong-instance"
          raiseError "TypeError" s!"descriptor '{("__init__" : Str).toString}' for '{← typeName (.type "list")}' objects doesn't apply to a '{← typeNameOf (.ref a)}' object")
    ret (← newFields "method-wrapper" [.builtin "list.__init__", .ref a])) := by kernel_rfl
theorem md_get_pop (a C : Addr) : Builtin.«method_descriptor.__get__» ⟨[.builtin "list.pop", .ref a, .ref C], []⟩ = (do
    (do if !(← isInstance (.ref a) (.type "list")) then
          rule "descr.get.wrong-instance"
          raiseError "TypeError" s!"descriptor '{("pop" : Str).toString}' for '{← typeName (.type "list")}' objects doesn't apply to a '{← typeNameOf (.ref a)}' object")
    ret (← newFields "builtin_function_or_method" [.builtin "list.pop", .ref a])) := by kernel_rfl
/-- a built-in bound to an object -/
abbrev bndObj (bty id : String) (a : Addr) : Obj := { cls := .type bty, dict := none, data := .fields #[.builtin id, .ref a], slots := #[] }
/-- a built-in of list that super() hands out bound -/
structure SupB (id ty gid bty : String) (B : Builtin) : Prop where
  type : typeOf (.builtin id) = pure (.type ty)
  slot : Slot ty "__get__" gid
  entry : entryFor table gid = some B
  args : ∀ a b c, argsOk gid ⟨[a, b, c], []⟩
  get : ∀ (a C : Addr), ∃ err : Sem Unit, B ⟨[.builtin id, .ref a, .ref C], []⟩ = (do (do if !(← isInstance (.ref a) (.type "list")) then err); ret (← newFields bty [.builtin id, .ref a]))
  bty : bty = "method-wrapper" ∨ bty = "builtin_function_or_method"
theorem sup_len : SupB "list.__len__" "wrapper_descriptor" "wrapper_descriptor.__get__" "method-wrapper" Builtin.«wrapper_descriptor.__get__» := ⟨ty_len, wd_slot, wd_entry, wd_args, fun a C => ⟨_, wd_get_len a C⟩, .inl rfl⟩
theorem sup_init : SupB "list.__init__" "wrapper_descriptor" "wrapper_descriptor.__get__" "method-wrapper" Builtin.«wrapper_descriptor.__get__» := ⟨ty_init, wd_slot, wd_entry, wd_args, fun a C => ⟨_, wd_get_init a C⟩, .inl rfl⟩
theorem sup_pop : SupB "list.pop" "method_descriptor" "method_descriptor.__get__" "builtin_function_or_method" Builtin.«method_descriptor.__get__» := ⟨ty_pop, md_slot, md_entry, md_args, fun a C => ⟨_, md_get_pop a C⟩, .inr rfl⟩
section
variable {prog : Program} {w : World} {M : Model} {A : Around} {E : Value → Shared → Prop} {h : Heap} {g : Array GenState} {d : Drawn} {t : Nat} {os : OsState}
theorem sup_ga {so D x C : Addr} {id ty gid bty : String} {B : Builtin} {l₀ l : List Value} {K : Frag} {name : Str} {tk : Tok} {Q : Fin → Shared → Prop} (Y : SupB id ty gid bty B)
    (hso : h.get? so = some { cls := .type "super", dict := none, data := .fields #[.ref D, .ref x, .ref C], slots := #[] }) (hno : Looks (model prog w) h (opaqueClassAbove (.ref C)) none)
    (hC : Looks (model prog w) h (mroOf (.ref C)) l₀) (hl : (l₀.dropWhile (· != .ref D)).drop 1 = l) (X : K.In h)
    (hf : alongIn K name l = some (some (.builtin id))) (hi : Looks (model prog w) h (isInstance (.ref x) (.type "list")) true) (hxC : x ≠ C) (hn : (name == ("__class__" : Str)) = false)
    (hq : Q (.done (.ret (.ref h.objs.size))) ⟨h.push (bndObj bty id x), g, d, t, os⟩) :
    wpAny (model prog w) A (Builtin.«super.__getattribute__» ⟨[.ref so, .str name tk], []⟩) Q E ⟨h, g, d, t, os⟩ := by
  have hlk := Y.slot.lookup
  have hne : (Value.ref x == Value.ref C) = false := by simp [hxC]
  have hty := Y.type
  have hTf : (⟨h, g, d, t, os⟩ : Shared).TypeIs (.builtin id) ty := hty
  have hdt : ({ cls := .type "super", dict := none, data := .fields #[.ref D, .ref x, .ref C], slots := #[] } : Obj).data = .fields #[.ref D, .ref x, .ref C] := rfl
  have f0 : (#[.ref D, .ref x, .ref C] : Array Value)[0]? = some (.ref D) := rfl
  have f1 : (#[.ref D, .ref x, .ref C] : Array Value)[1]? = some (.ref x) := rfl
  have f2 : (#[.ref D, .ref x, .ref C] : Array Value)[2]? = some (.ref C) := rfl
  have run : ∀ {A : Around} {P : Fin → Shared → Prop} {E : Value → Shared → Prop}, P (.done (.ret (.ref h.objs.size))) ⟨h.push (bndObj bty id x), g, d, t, os⟩ → wpAny (model prog w) A (B ⟨[.builtin id, .ref x, .ref C], []⟩) P E ⟨h, g, d, t, os⟩ := fun {A P E} hp => by
    obtain ⟨err, e⟩ := Y.get x C
    rw [e]
    refine wpAny_bind (wpAny_bind (Looks.at hi ?_))
    rw [if_neg (by decide)]
    refine wpAny_pure ?_
    unfold newFields
    exact wpAny_bind (wpAny_newObj_type (wpAny_pure hp) (by size_fits))
  unfold Builtin.«super.__getattribute__»
  repeat (first
    | (with_reducible refine wpAny_field hso hdt f0 ?_) | (with_reducible refine wpAny_field hso hdt f1 ?_) | (with_reducible refine wpAny_field hso hdt f2 ?_)
    | (with_reducible refine ks_wpAny_notOpaque hno ?_)
    | (with_reducible refine Looks.at hC ?_; rw [hl])
    | (refine ks_forIn_along X (fun _ _ => rfl) rfl ?_ hf)
    | (with_reducible refine wpAny_typeOf hTf ?_)
    | (with_reducible refine wpAny_call_entry Y.slot hTf Y.entry (run ?_) (Y.args _ _ _))
    | (with_reducible refine ⟨_, rfl, ?_⟩)
    | (simp only [hn, hne, Bool.or_false, Bool.false_eq_true, if_false])
    | wp_step
    | dsimp only)
  all_goals exact hq

theorem sup_method {so D x C : Addr} {id ty gid bty : String} {B : Builtin} {l₀ l : List Value} {K : Frag} {name : Str} {pl : Sem Bool} {Q : Value × List Value → Shared → Prop} (Y : SupB id ty gid bty B)
    (hso : h.get? so = some { cls := .type "super", dict := none, data := .fields #[.ref D, .ref x, .ref C], slots := #[] }) (hno : Looks (model prog w) h (opaqueClassAbove (.ref C)) none)
    (hC : Looks (model prog w) h (mroOf (.ref C)) l₀) (hl : (l₀.dropWhile (· != .ref D)).drop 1 = l) (X : K.In h)
    (hf : alongIn K name l = some (some (.builtin id))) (hi : Looks (model prog w) h (isInstance (.ref x) (.type "list")) true) (hxC : x ≠ C) (hn : (name == ("__class__" : Str)) = false)
    (hq : Q (.ref h.objs.size, []) ⟨h.push (bndObj bty id x), g, d, t + 1, os⟩) :
    wpAny (model prog w) A (getMethod (.ref so) name pl) Q E ⟨h, g, d, t, os⟩ := by
  have hlk := F.ks_slot_super_ga.lookup
  have hcan := F.ks_canon_super_ga
  have hT : ∀ t', (⟨h, g, d, t', os⟩ : Shared).TypeIs (.ref so) "super" := fun _ => ⟨_, hso, rfl⟩
  unfold getMethod
  refine wpAny_bind (wpAny_specialOf (hT _) hlk ?_)
  show wpAny _ _ (if (Manifest.canonical "super.__getattribute__" != "object.__getattribute__") = true then _ else _) _ _ _
  rw [if_pos hcan]
  unfold getAttr getAttrBy
  refine wpAny_bind (wpAny_bind (wpAny_mkText (wpAny_holding (wpAny_bind (wpAny_typeOf (hT _) (wpAny_bind (wpAny_of_eq hlk ?_)))))))
  show wpAny _ _ (getAttrByItsOwn (.ref so) (.str name t) (.type "super") (.builtin "super.__getattribute__") true false) _ _ _
  unfold getAttrByItsOwn hookBefore callGetattribute boundAndCalled
  refine wpAny_bind (wpAny_of_eq (show (if onTheHeap (.type "super") then typeLookup (.type "super") "__getattr__" else pure none) = pure none from rfl) ?_)
  refine wpAny_bind (wpAny_attempt (wpAny_holding ?_))
  show wpAny _ _ (bindSpecial (.builtin "super.__getattribute__") (.ref so) >>= _) _ _ _
  refine wpAny_bind (wpAny_of_eq (F.ks_slot_super_ga.bind _) ?_)
  refine wpAny_mono (Q := fun v s' => v = .ref h.objs.size ∧ s' = ⟨h.push (bndObj bty id x), g, d, t + 1, os⟩) (E := fun _ _ => False)
    (wpAny_call_entry F.ks_slot_super_ga (hT _) F.ks_entry_super_ga (sup_ga Y hso hno hC hl X hf hi hxC hn ⟨_, rfl, rfl, rfl⟩) (F.ks_gaArgs_super _ _)) (fun v s' hv => ?_) fun _ _ z => z.elim
  obtain ⟨rfl, rfl⟩ := hv
  exact wpAny_pure (wpAny_pure hq)
end
end Mine
namespace Mine
theorem cb_len (a : Addr) : checkBoundCall "list.__len__" ⟨[.ref a], []⟩ = pure () := by kernel_rfl
theorem cb_init (a : Addr) : checkBoundCall "list.__init__" ⟨[.ref a], []⟩ = pure () := by kernel_rfl
theorem sg_pop_some : (Manifest.signature? "list.pop").isSome = true := by kernel_rfl
theorem sg_pop_args (a : Addr) : Bind.checkArgs "list.pop" { (Manifest.signature? "list.pop").get sg_pop_some with full := "_Accumulator.pop" } ⟨[.ref a], []⟩ = pure () := by kernel_rfl
theorem bk_pop : builtinKind "list.pop" = some .method := by kernel_rfl
theorem vm_pop : Manifest.varargsMethods.contains "list.pop" = false := by kernel_rfl
theorem lo_pop : Bind.lastOf "list.pop" = "pop" := by kernel_rfl
theorem fu_pop : (s!"{(("_Accumulator" : Str)).toString}.{"pop"}" : String) = "_Accumulator.pop" := by kernel_rfl
open AutoSeq1 (wpAny_loadPart')
section
variable {prog : Program} {w : World} {A : Around} {E : Value → Shared → Prop} {s : Shared} {K : Frag} {a C d : Addr} {vs : List Value} {n : Nat} {od : Obj}
theorem cb_pop {cd : ClassData} {Q : Unit → Shared → Prop} (X : K.In s.heap) (I : W.InstAt s.heap a (pilOf C d vs n) C (some od)) (hmod : mroIn K C (.type "module") = some false) (hc : clsIn K C = some cd) (hq : cd.qualname = "_Accumulator") (ht : typeIn K (.ref C) = some (.type "type")) (q : Q () s) :
    wpAny (model prog w) A (checkBoundCall "list.pop" ⟨[.ref a], []⟩) Q E s := by
  have hs : Manifest.signature? "list.pop" = some ((Manifest.signature? "list.pop").get sg_pop_some) := (Option.some_get _).symm
  have hm : Looks (model prog w) s.heap (isInstance (.ref a) (.type "module")) false := I.type.andThen (looks_mroIn X hmod)
  have hca := sg_pop_args a
  have hfu := fu_pop
  have hbk := bk_pop
  have hvm := vm_pop
  have hlo := lo_pop
  generalize hsg : (Manifest.signature? "list.pop").get sg_pop_some = sig at hs hca
  unfold checkBoundCall
  rw [hs, hbk, hvm, hlo]
  show wpAny _ _ (isInstance (.ref a) (.type "module") >>= _) _ _ _
  refine wpAny_bind (hm.here ?_)
  dsimp only
  rw [if_neg (by decide)]
  refine wpAny_bind (ks_wpAny_isType_inst I.at_ (fun c e => ?_) ?_)
  · cases e
  rw [if_neg (by decide)]
  refine wpAny_bind (I.type.here ?_)
  dsimp only
  refine wpAny_bind ((looks_clsIn X hc).here ?_)
  refine wpAny_bind ((looks_typeIn X ht).here ?_)
  rw [if_pos (by decide), hq, hfu, hca]
  exact wpAny_pure q

/-- a bound built-in called with nothing -/
theorem bnd_call {b : Addr} {id bty : String} {B : Builtin} {Q : Value → Shared → Prop} (hb : s.heap.get? b = some (bndObj bty id a)) (hty : bty = "method-wrapper" ∨ bty = "builtin_function_or_method") (hp : plainId id = true) (he : entryFor table id = some B)
    (hc : ∀ {A : Around} {P : Unit → Shared → Prop} {E : Value → Shared → Prop}, P () s → wpAny (model prog w) A (checkBoundCall id ⟨[.ref a], []⟩) P E s)
    (h : ∀ {A : Around} {P : Fin → Shared → Prop} {E : Value → Shared → Prop}, (∀ v s', Q v s' → P (.done (.ret v)) s') → wpAny (model prog w) A (B ⟨[.ref a], []⟩) P E s) : wpAny (model prog w) A (call (.ref b) []) Q E s := by
  refine wpAny_call (codeAny_of_tree ?_)
  show wpAny _ _ (callAny (.ref b) _) _ _ _
  unfold callAny
  refine wpAny_bind (wpAny_load hb ?_)
  have hcl : ((bndObj bty id a).cls == Value.type "method" || (bndObj bty id a).cls == Value.type "builtin_function_or_method" || (bndObj bty id a).cls == Value.type "method-wrapper") = true := by
    rcases hty with rfl | rfl <;> dsimp only [bndObj] <;> decide
  have hcm : ((bndObj bty id a).cls != Value.type "method") = true := by
    rcases hty with rfl | rfl <;> dsimp only [bndObj] <;> decide
  dsimp only
  rw [if_pos hcl]
  show wpAny _ _ (if ((bndObj bty id a).cls != Value.type "method") = true then _ else _) _ _ _
  rw [if_pos hcm]
  refine wpAny_bind (hc ?_)
  refine wpAny_pure ⟨plainId_quiet hp _, codeAny_builtin he ?_⟩
  exact h fun v s' hv => hv
theorem pil_len_body {P : Fin → Shared → Prop} (I : W.InstAt s.heap a (pilOf C d vs n) C (some od)) (hq : P (.done (.ret (.int vs.length s.toks))) { s with toks := s.toks + 1 }) : wpAny (model prog w) A (Builtin.«list.__len__» ⟨[.ref a], []⟩) P E s := by
  obtain ⟨hp, g, dr, tk, os⟩ := s
  have hl := I.at_
  wp_walk using wpAny_loadPart' hl
  simpa using hq
theorem pil_init_body {P : Fin → Shared → Prop} (I : W.InstAt s.heap a (pilOf C d [] n) C (some od)) (hq : P (.done (.ret .none)) { s with heap := s.heap.update a (Obj.mapSeq fun _ => #[]) }) : wpAny (model prog w) A (Builtin.«list.__init__» ⟨[.ref a], []⟩) P E s := by
  show wpAny _ _ (Builtin.List.listItems (.ref a) >>= _) _ _ s
  refine wpAny_bind (PyProof.Rows.listItems_at I.at_ rfl ?_)
  refine wpAny_bind (wpAny_updateSeq I.at_ rfl (hz := by rw [sizeLine_eq]; simp) (_hz' := by rw [sizeLine_eq]; simp) ?_)
  refine wpAny_bind (wpAny_letGo ?_)
  exact wpAny_pure hq
theorem pil_pop_body {x : Value} {P : Fin → Shared → Prop} (I : W.InstAt s.heap a (pilOf C d (vs ++ [x]) n) C (some od)) (hb : vs.length ≤ 1000000) (hq : P (.done (.ret x)) { s with heap := s.heap.update a (Obj.mapSeq fun xs => xs.eraseIdxIfInBounds vs.length) }) : wpAny (model prog w) A (Builtin.«list.pop» ⟨[.ref a], []⟩) P E s := by
  obtain ⟨hp, g, dr, tk, os⟩ := s
  have hl := I.at_
  have hz : (vs ++ [x]).toArray.size ≤ sizeLine := by rw [sizeLine_eq]; simp; omega
  have he : (vs ++ [x]).eraseIdx vs.length = vs := by rw [List.eraseIdx_append_of_length_le (Nat.le_refl _)]; simp
  have hz' : ((vs ++ [x]).toArray.eraseIdxIfInBounds vs.length).size ≤ sizeLine + 1 := by rw [sizeLine_eq]; simp [he]; omega
  have hk : ((seqIndex? (-1) (vs ++ [x]).toArray.size).bind fun k => Option.map (fun x => (k, x)) (vs ++ [x]).toArray[k]?) = some (vs.length, x) := by
    have : seqIndex? (-1) (vs ++ [x]).toArray.size = some vs.length := by
      unfold seqIndex?
      simp
      omega
    rw [this]; simp
  wp_walk using wpAny_loadPart' hl
  rw [hk]
  wp_walk using (wpAny_updateSeq hl rfl (hz := hz) (_hz' := hz'))
  exact hq
/-- a call of a bound built-in with nothing, from the text -/
theorem callWith_bnd {b : Addr} {id bty : String} {pos : Pos} {env : Env} {Q : Value → Shared → Prop} (hb : s.heap.get? b = some (bndObj bty id a)) (hty : bty = "method-wrapper" ∨ bty = "builtin_function_or_method")
    (h : wpAny (model prog w) A (call (.ref b) []) Q E s) : wpAny (model prog w) A (callWith pos (.ref b) [] (backTo pos (starEach [] env)) []) Q E s := by
  unfold callWith
  refine wpAny_bind (wpAny_holding (PyProof.Rows.evalArgs_none (wpAny_bind (wpAny_standAt ?_))))
  refine wpAny_bind (m := keeperOf (.ref b)) ?_
  unfold keeperOf
  refine wpAny_bind (wpAny_load hb ?_)
  have h1 : ((bndObj bty id a).cls != Value.type "method") = true := by
    rcases hty with rfl | rfl <;> dsimp only [bndObj] <;> decide
  have h2 : ((bndObj bty id a).cls == Value.type "builtin_function_or_method" || (bndObj bty id a).cls == Value.type "method-wrapper") = true := by
    rcases hty with rfl | rfl <;> dsimp only [bndObj] <;> decide
  dsimp only
  show wpAny _ _ (if ((bndObj bty id a).cls != Value.type "method") = true then _ else _) _ _ _
  rw [if_pos h1, if_pos h2]
  refine wpAny_pure ?_
  exact wpAny_bind (wpAny_mono h (fun r s₂ hr => wpAny_bind (wpAny_holding (wpAny_point (wpAny_pure hr)))) fun _ _ x => x)
end
end Mine
namespace Mine
/-- the piles' class, as the law's heap has it -/
structure PilK (c : Cx) (K : Frag) : Prop where
  In : K.In c.hB
  X : ∀ a ∈ c.X, K.lookup a = none
  cls : ∃ oc od cd sl, K.lookup c.C = some ⟨oc, od, .cls cd, sl⟩ ∧ cd.mro = [.ref c.C, .type "list", .type "object"] ∧ cd.hasDict = true ∧ cd.qualname = "_Accumulator" ∧ cd.abstract = false ∧ cd.hasDel = false ∧ (sl.toList[4]?).join = some (.builtin "list.__new__")
  call : specialIn K (.ref c.C) "__call__" = some (some (.builtin "type.__call__"))
  inst : instIn K (.ref c.C) (.type "type") = some true
  seta : findIn K (.ref c.C) "__setattr__" = some (some (.builtin "object.__setattr__"))
  ini : findIn K (.ref c.C) "_initial_size" = some none
  sub : mroIn K c.C (.type "list") = some true
  mod : mroIn K c.C (.type "module") = some false
  typ : typeIn K (.ref c.C) = some (.type "type")
  any : nsIn K cStatics "thirdparty.any" = some none
  self : mroIn K c.C (.ref c.C) = some true
  ga : findIn K (.ref c.C) "__getattribute__" = some (some (.builtin "list.__getattribute__"))
  gat : findIn K (.ref c.C) "__getattr__" = some none
  seq : noSeq K c.C = true
  geti : findIn K (.ref c.C) "__getitem__" = some (some (.builtin "list.__getitem__"))
  seti : findIn K (.ref c.C) "__setitem__" = some (some (.builtin "list.__setitem__"))
  iter : findIn K (.ref c.C) "__iter__" = some (some (.builtin "list.__iter__"))
  app : findIn K (.ref c.C) "append" = some (some (.builtin "list.append"))
  appT : typeIn K (.builtin "list.append") = some (.type "method_descriptor")
  lLen : alongIn K "__len__" [.type "list", .type "object"] = some (some (.builtin "list.__len__"))
  lInit : alongIn K "__init__" [.type "list", .type "object"] = some (some (.builtin "list.__init__"))
  lPop : alongIn K "pop" [.type "list", .type "object"] = some (some (.builtin "list.pop"))
  gsup : c.mg "super" = none
  bsup : c.mb "super" = some (.type "super")
theorem PilK.here {c : Cx} {K : Frag} (P : PilK c K) {s : Shared} {ι : Iota} {μ : Mu} (I : Inv c s ι μ) : K.In s.heap := fun b o e => I.old b o (P.In b o e) fun h => by rw [P.X b h] at e; cases e

/-- a method that says super() -/
structure DefS (c : Cx) (a : Addr) (fd : FuncData) (body : List Stmt) (cell : Addr) : Prop where
  fn : FnAt c a fd
  code : ∃ cc o vs t file t', fd.code = .ref cc ∧ c.hB.get? cc = some o ∧ cc ∉ c.X ∧ o.data = .fields vs ∧ vs[1]? = some (.str fd.qualname t) ∧ vs[2]? = some (.str file t') ∧ ((c.prog.main.file : Str) == file) = true
  body : fd.body = .stmts body
  clo : fd.closure = [(("__class__" : Str), cell)]
  cellAt : ∃ o, c.hB.get? cell = some o ∧ o.data = .cell (some (.ref c.C)) ∧ cell ∉ c.X
  main : (c.prog.main.scope.names.lookup ("super" : Str)).isSome = false
  first : ∃ ar, (fd.params.posonlyargs ++ fd.params.args).head? = some ar ∧ ar.arg = "self"
  ks : ∀ L, (callEnv fd L a).kindOf "super" = some .globalImplicit
  kc : ∀ L, (callEnv fd L a).kindOf "__class__" = some .free
  kself : ∀ L, (callEnv fd L a).kindOf "self" = some .local
  glo : fd.globals = mainGlobals
  bi : fd.builtins = builtinsNs
  co : fd.scope.isCoroutine = false
  gen : fd.scope.isGenerator = false
  kind : fd.scope.kind = .function
  cells : ∀ x ∈ fd.scope.names, x.2 ≠ .cell

/-- super().name() reads super's object, then its method -/
abbrev callsSuper (name : Str) (p0 p1 apos pos : Pos) (env : Env) : Prop := ∃ pl, eval (.Call (.Attribute (.Call (.Name "super" p0) [] [] p1) name apos) [] [] pos) env = (do
      let ov ← attributeBase (.Call (.Name "super" p0) [] [] p1) name env (eval (.Call (.Name "super" p0) [] [] p1) env)
      standAt apos.atName
      let (fn, first) ← holding [ov] (getMethod ov name pl)
      callWith pos fn first (backTo pos (starEach [] env)) [])
section
variable {c : Cx} {A : Around} {μ : Mu} {K : Frag} {f L a cell d : Addr} {fd : FuncData} {body : List Stmt} {vs : List Value} {n : Nat} {od : Obj}
/-- super().name() -/
theorem sup_expr {s : Shared} {ι : Iota} {E : Value → Shared → Prop} {Q : Value → Shared → Prop} {m : Str → Option Value} {name : Str} {id ty gid bty : String} {B : Builtin} {p0 p1 apos pos : Pos} (O : c.Ok) (P : PilK c K) (D : DefS c f fd body cell) (I : Inv c s ι μ) (hns : s.heap.Ns L m) (hm : m "self" = some (.ref a))
    (IA : W.InstAt s.heap a (pilOf c.C d vs n) c.C (some od)) (Y : SupB id ty gid bty B) (hal : alongIn K name [.type "list", .type "object"] = some (some (.builtin id))) (hn : (name == ("__class__" : Str)) = false)
    (he : callsSuper name p0 p1 apos pos (callEnv fd L f))
    (hq : ∀ h' b, (∀ b o, s.heap.get? b = some o → h'.get? b = some o) → h'.get? b = some (bndObj bty id a) → wpAny (model c.prog c.w) A (call (.ref b) []) Q E { s with heap := h', toks := s.toks + 1 }) :
    _root_.PySem.wpAt (model c.prog c.w) A (.func body (callEnv fd L f)) (eval (.Call (.Attribute (.Call (.Name "super" p0) [] [] p1) name apos) [] [] pos) (callEnv fd L f)) Q E s := by
  obtain ⟨pl, he⟩ := he
  have X := P.here I
  obtain ⟨oc', od', cd, sl', hlk, hmro, hdict, hqn, _⟩ := P.cls
  have hcd : clsIn K c.C = some cd := by unfold clsIn; rw [hlk]
  obtain ⟨oC, hC1, hC2⟩ : ∃ oC, s.heap.get? c.C = some oC ∧ oC.data = .cls cd := ⟨_, X _ _ hlk, rfl⟩
  have hne : a ≠ c.C := ks_ne X IA hcd
  obtain ⟨cc, oc, cvs, t, file, t', ec, hcc, hcX, hcf, hv1, hv2, hfile⟩ := D.code
  obtain ⟨ar, har, har2⟩ := D.first
  obtain ⟨of, hof, hofd⟩ := D.fn.here I
  obtain ⟨ocl, hcl, hcld, hclX⟩ := D.cellAt
  have hcc' := I.old _ _ hcc hcX
  have hcl' := I.old _ _ hcl hclX
  obtain ⟨og, eg, pg, hg1, hg2⟩ := O.g
  obtain ⟨ob, eb, pb, hb1, hb2⟩ := O.b
  have hG : s.heap.Ns mainGlobals c.mg := ⟨og, eg, pg, I.old _ _ hg1 O.sX.2.1, hg2⟩
  have hB : s.heap.Ns builtinsNs c.mb := ⟨ob, eb, pb, I.old _ _ hb1 O.sX.2.2, hb2⟩
  have hgl : (callEnv fd L f).globals = mainGlobals := D.glo
  have hbl : (callEnv fd L f).builtins = builtinsNs := D.bi
  obtain ⟨hp, g, dr, tk, os⟩ := s
  refine ks_wpAt_MethodCall (pl := pl) ?_ he
  refine ks_wpAt_super_base (env := callEnv fd L f) (D.ks L) (D.kc L) hn rfl hof hofd har ec hcc' hcf hv2 hfile D.main ?_
  refine ks_loadName_global D.kind (D.ks L) (loadGlobal_builtin (env := callEnv fd L f) (by rw [hgl]; exact hG) P.gsup (by rw [hbl]; exact hB) P.bsup ⟨rfl, ?_⟩)
  refine wpAny_loadName_free (c := cell) D.kind (D.kc L) (by show List.lookup _ fd.closure = _; rw [D.clo]; rfl) ⟨_, hcl', hcld⟩ ?_
  refine wpAny_loadName_local D.kind (by rw [har2]; exact D.kself L) hns (by rw [har2]; exact hm) ?_
  refine ks_wpAny_isType_cls hC1 hC2 ⟨rfl, ?_⟩
  refine ks_wpAny_call_super hC1 hC2 IA.at_ rfl (fun c e => by cases e) (looks_mroIn X P.self) (fun h' e k => ?_)
  have IA' : W.InstAt h' a (pilOf c.C d vs n) c.C (some od) := ⟨k _ _ IA.at_, rfl, rfl, k _ _ IA.dict⟩
  have X' : K.In h' := fun b o q => k _ _ (X b o q)
  have hml : Looks (model c.prog c.w) h' (mroOf (.ref c.C)) [.ref c.C, .type "list", .type "object"] := by rw [← hmro]; exact (looks_clsIn X' hcd).andThen .now
  refine sup_method (l₀ := [.ref c.C, .type "list", .type "object"]) Y e (looks_opaque X' P.any) hml (by simp) X' hal (@looks_list c.prog c.w ⟨h', g, dr, tk, os⟩ K a c.C d vs n od X' IA' P.sub) hne hn ?_
  refine callWith_bnd (a := a) (Heap.get?_push_at rfl rfl) Y.bty ?_
  exact hq _ _ (fun b o q => Heap.get?_push_of_some _ (k b o q)) (Heap.get?_push_at rfl rfl)
end
end Mine
namespace Mine
section
variable {c : Cx} {A : Around} {μ : Mu} {K : Frag} {f L a cell d : Addr} {fd : FuncData} {body : List Stmt} {vs : List Value} {n : Nat} {od : Obj}
theorem DefS.codeRec {a : Addr} (D : DefS c a fd body cell) {s : Shared} {ι : Iota} (I : Inv c s ι μ) : s.heap.CodeRec fd.code fd.qualname := by
  obtain ⟨cc, o, vs, t, _, _, e1, e2, e3, e4, e5, _⟩ := D.code
  exact ⟨cc, o, vs, t, e1, I.old _ _ e2 e3, e4, e5⟩
/-- a call of a method that says super() -/
theorem WC.defS {f : Addr} {ps : List PV} {n : Nat} {K' : PV → Mu → Prop} {bs : List Value → List (Str × Value)} (O : c.Ok) (D : DefS c f fd body cell) (ao : AOk (n + 1) A)
    (hb : ∀ s ι vs, Inv c s ι μ → RepL s.heap ι ps vs → BindsTo s fd ⟨vs, []⟩ (bs vs)) (hloc : ∀ vs, ∀ x ∈ bs vs, fd.scope.names.lookup x.1 = some .local)
    (h : ∀ s₁ ι vs L A' E (Q : Flow → Shared → Prop), Inv c s₁ ι μ → RepL s₁.heap ι ps vs → s₁.heap.Ns L (fun x => (bs vs).reverse.lookup x) → (L ∉ ι ∧ L ∉ c.X ∧ c.hB.get? L = none) → AOk n A' →
      (∀ v s' ι' p μ', Step c s₁ ι s' ι' → Inv c s' ι' μ' → RepV s'.heap ι' p v → K' p μ' → Q (.ret v) s') → (∀ s' ι' μ', Step c s₁ ι s' ι' → Inv c s' ι' μ' → K' .none μ' → Q .next s') →
      _root_.PySem.wpAt (model c.prog c.w) A' (.func body (callEnv fd L f)) (execs body (callEnv fd L f)) Q E s₁) : WC c A (.ref f) ps μ K' := ⟨fun s ι E Q vs I r hQ => by
  obtain ⟨o, ho, hd⟩ := D.fn.here I
  refine wpAny_call (ks_codeAny_call_defAt (body := body) (binds := bs vs) (by have := ao.d; show A.depth < 1000; omega) ho hd (I.noLimit O) (D.codeRec I) D.body (hb s ι vs I r) D.cells (fun x hx => hloc vs x hx) (fun h₀ hn k => ?_) D.co D.gen D.kind)
  have g := I.grow O (s' := { s with heap := h₀, toks := s.toks + (bs vs).length }) k I.bare rfl (by have := I.tp; show 0 < s.toks + _; omega)
  exact h _ ι vs _ _ _ _ g.1 (I.repL O g.2 r) hn (I.fresh O (fresh_size _)) (ao.deeper _) (fun v s' ι' p μ' S I' rv k' => hQ v s' ι' p μ' (g.2.trans S) I' rv k') (fun s' ι' μ' S I' k' => hQ .none s' ι' .none μ' (g.2.trans S) I' (by simp only [RepV]) k')⟩
/-- a pile of the store -/
theorem Inv.pil {s : Shared} {ι : Iota} (I : Inv c s ι μ) {i : Nat} {k : Int} {its : List (Str × Str)} (hi : μ[i]? = some (.pil k its)) {v : Value} (r : RepV s.heap ι (.loc i) v) :
    ∃ a d vs n od, v = .ref a ∧ ι[i]? = some a ∧ W.InstAt s.heap a (pilOf c.C d vs n) c.C (some od) ∧ dictIs s.heap d k ∧ s.heap.get? d = some od ∧ c.hB.get? d = none ∧ RepL s.heap ι (its.map pairPV) vs ∧ vs.length = its.length := by
  simp only [RepV] at r
  obtain ⟨a, rfl, ha⟩ := r
  obtain ⟨d, vs, n, e, hd, hn, rl⟩ := I.mo i a _ ha hi
  obtain ⟨hsh, tk, tk', m, ed⟩ := hd
  exact ⟨a, d, vs, n, _, rfl, ha, ⟨e, rfl, rfl, ed⟩, ⟨hsh, tk, tk', m, ed⟩, ed, hn, rl, by have := RepL.length _ _ rl; simpa using this⟩

theorem pil_count {i : Nat} {k : Int} {its : List (Str × Str)} {K' : PV → Mu → Prop} {p0 p1 apos pos pr : Pos} (O : c.Ok) (P : PilK c K) (D : DefS c f fd [.Return (some (.Call (.Attribute (.Call (.Name "super" p0) [] [] p1) "__len__" apos) [] [] pos)) pr] cell) (ao : AOk 1 A)
    (he : ∀ L, callsSuper "__len__" p0 p1 apos pos (callEnv fd L f)) (hb : ∀ s v, BindsTo s fd ⟨[v], []⟩ [("self", v)]) (hloc : fd.scope.names.lookup ("self" : Str) = some .local) (hi : μ[i]? = some (.pil k its)) (hk : K' (.int its.length) μ) : WC c A (.ref f) [.loc i] μ K' := by
  refine WC.defS (bs := fun vs => match vs with | [v] => [("self", v)] | _ => []) (n := 0) O D ao (fun s ι vs I r => ?_) (fun vs x hx => ?_) fun s₁ ι vs L A' E Q I r hns hL ao' hQ hN => ?_
  · simp only [RepL] at r
    obtain ⟨v, _, rfl, r1, rfl⟩ := r
    exact hb s v
  · split at hx
    · rw [List.mem_singleton.mp hx]; exact hloc
    · cases hx
  · simp only [RepL] at r
    obtain ⟨v, _, rfl, r1, rfl⟩ := r
    obtain ⟨a, d, vs, m, od, rfl, ha, IA, hdi, hd, hdn, rl, hl⟩ := I.pil hi r1
    refine ks_wpAt_execs_cons (ks_wpAt_Return_some ?_)
    refine sup_expr O P D I hns rfl IA sup_len P.lLen (by decide) (he L) (fun h' b k hb' => ?_)
    have IA' : W.InstAt h' a (pilOf c.C d vs m) c.C (some od) := ⟨k _ _ IA.at_, rfl, rfl, k _ _ IA.dict⟩
    have g := I.grow O (s' := { s₁ with heap := h', toks := s₁.toks + 1 + 1 }) k I.bare rfl (by show 0 < s₁.toks + 1 + 1; omega)
    refine wpAny_mono (bnd_call (s := { s₁ with heap := h', toks := s₁.toks + 1 }) (a := a) (Q := fun v s' => v = .int vs.length (s₁.toks + 1) ∧ s' = { s₁ with heap := h', toks := s₁.toks + 1 + 1 }) hb' sup_len.bty F.slot_list_len.plain F.entry_list_len (fun {A P E} hp => by rw [cb_len]; exact wpAny_pure hp) (fun {A P E} hp => pil_len_body (s := { s₁ with heap := h', toks := s₁.toks + 1 }) IA' (hp _ _ ⟨rfl, rfl⟩))) (fun v s' hv => ?_) (fun _ _ z => z)
    obtain ⟨rfl, rfl⟩ := hv
    exact hQ _ _ ι (.int its.length) μ g.2 g.1 (by rw [hl]; simp only [RepV]; exact ⟨_, rfl⟩) hk
end
end Mine
namespace Mine
section
variable {c : Cx} {A : Around} {μ : Mu} {K : Frag} {f L a cell d : Addr} {fd : FuncData} {body : List Stmt} {vs : List Value} {n : Nat} {od : Obj}
theorem dictIs.other {h : Heap} {k : Int} (hd : dictIs h d k) (ho : h.get? d = some od) {name : Str} (hn : name ≠ "_initial_size") : lookIn name od = some none := by
  obtain ⟨hsh, tk, tk', m, e⟩ := hd
  rw [e] at ho; cases ho
  have : ((("_initial_size" : Str)) == name) = false := by simpa using fun q => hn q.symm
  simp [lookIn, List.find?, Value.isStr, DictEntry.refKey, this]
theorem dictIs.own {h : Heap} {k : Int} (hd : dictIs h d k) (ho : h.get? d = some od) : ∃ t, lookIn "_initial_size" od = some (some (.int k t)) := by
  obtain ⟨hsh, tk, tk', m, e⟩ := hd
  rw [e] at ho; cases ho
  refine ⟨tk', ?_⟩
  simp [lookIn, List.find?, Value.isStr]
theorem RepL.split {h : Heap} {ι : Iota} : ∀ {ps qs : List PV} {vs : List Value}, RepL h ι (ps ++ qs) vs → ∃ a b, vs = a ++ b ∧ RepL h ι ps a ∧ RepL h ι qs b
  | [], qs, vs, r => ⟨[], vs, rfl, by simp only [RepL], r⟩
  | p :: ps, qs, vs, r => by
    simp only [List.cons_append, RepL] at r
    obtain ⟨v, r', rfl, h1, h2⟩ := r
    obtain ⟨a, b, rfl, ha, hb⟩ := RepL.split h2
    exact ⟨v :: a, b, rfl, by simp only [RepL]; exact ⟨v, a, rfl, h1, ha⟩, hb⟩
/-- a method of the piles' class -/
theorem pil_getm {s : Shared} {ι : Iota} {E : Value → Shared → Prop} {name : Str} {m tm : Value} {k : Int} {pl : Sem Bool} {Q : Value × List Value → Shared → Prop} (P : PilK c K) (I : Inv c s ι μ) (IA : W.InstAt s.heap a (pilOf c.C d vs n) c.C (some od)) (hd : dictIs s.heap d k) (ho : s.heap.get? d = some od)
    (hf : findIn K (.ref c.C) name = some (some m)) (ht : typeIn K m = some tm) (htm : (tm != .type "function" && tm != .type "method_descriptor" && tm != .type "wrapper_descriptor") = false) (hn : name ≠ "_initial_size") (h : Q (m, [.ref a]) s) :
    wpAny (model c.prog c.w) A (getMethod (.ref a) name pl) Q E s :=
  pil_method (P.here I) IA P.ga P.gat hf ht htm (hd.other ho hn) h
/-- pop: the last one off -/
theorem pil_pops {i : Nat} {k0' : Int} {its : List (Str × Str)} {K' : PV → Mu → Prop} {ifp q0 p0 p1 apos pos pr bpos cpos tpos rpos ipos z1 z2 z3 : Pos} {k0 k1 k2 k3 : Nat} {fC : Addr} {fdC : FuncData} (O : c.Ok) (P : PilK c K)
    (D : DefS c f fd [.If (.Compare (.Call (.Attribute (.Name "self" q0) "part_count" bpos) [] [] cpos) [.Eq] [.Constant (.int 0) k0 z1] tpos) [.Return (some (.Tuple [.Constant (.str "") k1 z2, .Constant (.str "") k2 z3] k3 rpos)) ipos] [] ifp,
      .Return (some (.Call (.Attribute (.Call (.Name "super" p0) [] [] p1) "pop" apos) [] [] pos)) pr] cell) (ao : AOk 2 A)
    (he : ∀ L, callsSuper "pop" p0 p1 apos pos (callEnv fd L f)) (hm : ∀ L, callsMethod (.Name "self" q0) "part_count" bpos [] cpos (callEnv fd L f)) (hb : ∀ s v, BindsTo s fd ⟨[v], []⟩ [("self", v)]) (hloc : fd.scope.names.lookup ("self" : Str) = some .local)
    (hC : findIn K (.ref c.C) "part_count" = some (some (.ref fC))) (hCt : typeIn K (.ref fC) = some (.type "function")) (FC : FnAt c fC fdC) (hcnt : ∀ A', AOk 1 A' → WC c A' (.ref fC) [.loc i] μ fun p μ' => p = .int its.length ∧ μ' = μ)
    (hi : μ[i]? = some (.pil k0' its)) (hbd : its.length ≤ 1000000) (hk0 : its = [] → K' (.tup [.str "", .str ""]) μ) (hk : ∀ r x, its = r ++ [x] → K' (pairPV x) (μ.set i (.pil k0' r))) : WC c A (.ref f) [.loc i] μ K' := by
  refine WC.defS (bs := fun vs => match vs with | [v] => [("self", v)] | _ => []) (n := 1) O D ao (fun s ι vs I r => ?_) (fun vs x hx => ?_) fun s₁ ι vs L A' E Q I r hns hL ao' hQ hN => ?_
  · simp only [RepL] at r
    obtain ⟨v, _, rfl, r1, rfl⟩ := r
    exact hb s v
  · split at hx
    · rw [List.mem_singleton.mp hx]; exact hloc
    · cases hx
  · simp only [RepL] at r
    obtain ⟨v, _, rfl, r1, rfl⟩ := r
    obtain ⟨a, d, vs, m, od, rfl, ha, IA, hdi, hd, hdn, rl, hl⟩ := I.pil hi r1
    refine ks_wpAt_execs_cons (ks_wpAt_If (PySem.wpAt_of_wpAny ?_))
    refine wpAny_isTrue_Compare1 ?_ rfl
    obtain ⟨pl, hm⟩ := hm L
    refine PyProof.Rows.MethodCall_ ?_ hm
    refine wpAny_Name (wpAny_loadName_local D.kind (D.kself L) hns rfl ?_) (by decide)
    refine pil_getm P I IA hdi hd hC hCt (by decide) (by decide) ?_
    obtain ⟨o, eo, hod⟩ := FC.at'
    refine Calls.callWith_function (o := o) (fd := fdC) (PyProof.Rows.evalArgs_none ⟨⟨I.old _ _ eo FC.off, hod⟩, ?_⟩)
    refine (hcnt A' ao').run s₁ ι E _ [.ref a] I (by simp only [RepL]; exact ⟨_, _, rfl, r1, rfl⟩) fun v s₂ ι₂ p μ₂ S₂ I₂ r₂ k₂ => ?_
    obtain ⟨rfl, rfl⟩ := k₂
    simp only [RepV] at r₂
    obtain ⟨t₂, rfl⟩ := r₂
    refine wpAny_Constant_int ?_
    have g := toks_inv O I₂ (s₂.toks + 1)
    refine (WV.eq_int (c := c) (A := A') (a := its.length) (b := 0) (μ := μ₂) (K := fun p μ' => p = .bool ((its.length : Int) == 0) ∧ μ' = μ₂) ⟨rfl, rfl⟩).run _ ι₂ E _ [_, _] g.1 (by simp only [RepL, RepV]; exact ⟨_, _, rfl, ⟨_, rfl⟩, _, _, rfl, ⟨_, rfl⟩, rfl⟩) fun v s₃ ι₃ p μ₃ S₃ I₃ r₃ k₃ => ?_
    obtain ⟨rfl, rfl⟩ := k₃
    simp only [RepV] at r₃
    subst r₃
    have S13 : Step c s₁ ι s₃ ι₃ := (S₂.trans g.2).trans S₃
    refine wpAny_truthy_bool ?_
    cases hz : ((its.length : Int) == 0) with
    | true =>
      have he0 : its = [] := by simpa using hz
      refine ks_wpAt_execs_cons (ks_wpAt_Return_some (PySem.wpAt_of_wpAny ?_))
      refine wpAny_Tuple_spliced ?_
      rw [starEach_cons rfl, starEach_cons rfl]
      refine Calls.spliced_cons (wpAny_Constant_str (k := k1) (pos := z2) ?_)
      refine Calls.spliced_cons (wpAny_Constant_str (k := k2) (pos := z3) (Calls.spliced_nil ⟨by rw [sizeLine_eq]; simp, ?_⟩))
      have g1 := toks_inv O I₃ (s₃.toks + 1 + 1)
      have t := tup_new O g1.1 (ps := [.str "", .str ""]) (vs := [.str "" s₃.toks, .str "" (s₃.toks + 1)]) (by simp only [RepL, RepV]; exact ⟨_, _, rfl, ⟨_, rfl⟩, _, _, rfl, ⟨_, rfl⟩, rfl⟩)
      exact hQ _ _ ι₃ _ _ ((S13.trans g1.2).trans t.1) t.2.1 t.2.2 (hk0 he0)
    | false =>
      obtain ⟨a', d', vs', m', od', ea, ha', IA', hdi', hd', hdn', rl', hl'⟩ := I₃.pil hi (I.rep O S13 r1)
      cases ea
      have hne : its ≠ [] := by rintro rfl; simp at hz
      obtain ⟨r, x, rfl⟩ : ∃ r x, its = r ++ [x] := ⟨its.dropLast, its.getLast hne, (List.dropLast_concat_getLast hne).symm⟩
      rw [List.map_append] at rl'
      obtain ⟨vr, vw, rfl, rlr, rlw⟩ := RepL.split rl'
      simp only [List.map_cons, List.map_nil, RepL] at rlw
      obtain ⟨vx, _, rfl, rx, rfl⟩ := rlw
      have hnl : s₃.heap.Ns L (fun x => ([(("self" : Str), Value.ref a)] : List (Str × Value)).reverse.lookup x) := by
        obtain ⟨oL, es, ep, hL1, hL2⟩ := hns
        exact ⟨oL, es, ep, S13.keep _ _ hL1 hL.1 hL.2.1, hL2⟩
      refine PySem.wpAt_of_wpAny (wpAny_execs_nil ?_)
      refine ks_wpAt_execs_cons (ks_wpAt_Return_some ?_)
      refine sup_expr O P D I₃ hnl rfl IA' sup_pop P.lPop (by decide) (he L) (fun h' b k hb' => ?_)
      have IA2 : W.InstAt h' a (pilOf c.C d' (vr ++ [vx]) m') c.C (some od') := ⟨k _ _ IA'.at_, rfl, rfl, k _ _ IA'.dict⟩
      have X2 : K.In h' := fun b o q => k _ _ (P.here I₃ b o q)
      have hlr : vr.length = r.length := by have := RepL.length _ _ rlr; simpa using this
      obtain ⟨oc', odd', cd, sl', hlk, hmro, hdict, hqn, _⟩ := P.cls
      have hcd : clsIn K c.C = some cd := by unfold clsIn; rw [hlk]
      have hsz : (vr ++ [vx]).eraseIdx vr.length = vr := by rw [List.eraseIdx_append_of_length_le (Nat.le_refl _)]; simp
      have hup : (h'.update a (Obj.mapSeq fun xs => xs.eraseIdxIfInBounds vr.length)).get? a = some (pilOf c.C d' vr (m' + 1)) := by
        rw [Heap.get?_update_self _ IA2.at_ rfl]
        simp [Obj.mapSeq, hsz]
      have g := I₃.put O (i := i) (a := a) (m := .pil k0' r) ha' (s' := { s₃ with heap := h'.update a (Obj.mapSeq fun xs => xs.eraseIdxIfInBounds vr.length), toks := s₃.toks + 1 })
        (fun b o e hba => (Heap.get?_update_other _ _ (Ne.symm hba)).trans (k b o e)) ⟨_, hup⟩ (fun rv rl => ?_) I₃.bare rfl (by show 0 < s₃.toks + 1; omega)
      · refine wpAny_mono (bnd_call (s := { s₃ with heap := h', toks := s₃.toks + 1 }) (a := a) (Q := fun v s' => v = vx ∧ s' = { s₃ with heap := h'.update a (Obj.mapSeq fun xs => xs.eraseIdxIfInBounds vr.length), toks := s₃.toks + 1 }) hb' sup_pop.bty F.slot_list_pop.plain F.entry_list_pop (fun {A P E} hp => cb_pop (s := { s₃ with heap := h', toks := s₃.toks + 1 }) X2 IA2 ‹PilK c K›.mod hcd hqn ‹PilK c K›.typ hp) (fun {A P E} hp => pil_pop_body (s := { s₃ with heap := h', toks := s₃.toks + 1 }) IA2 (by rw [hlr]; simp at hbd; omega) (hp _ _ ⟨rfl, rfl⟩))) (fun v s' hv => ?_) (fun _ _ z => z)
        obtain ⟨rfl, rfl⟩ := hv
        exact hQ _ _ ι₃ _ _ (S13.trans g.2) g.1 (I₃.rep O g.2 rx) (hk r x rfl)
      · obtain ⟨hsh, tk, tk', mm, ed⟩ := hdi'
        refine ⟨d', vr, m' + 1, hup, ⟨hsh, tk, tk', mm, ?_⟩, hdn', rl _ _ rlr⟩
        refine (Heap.get?_update_other _ _ (fun q => ?_)).trans (k _ _ ed)
        subst q
        have := IA'.at_
        rw [ed] at this; cases this
end
end Mine
namespace Mine
section
variable {c : Cx} {A : Around} {μ : Mu} {K : Frag} {f L a cell d : Addr} {fd : FuncData} {body : List Stmt} {vs : List Value} {n : Nat} {od : Obj}
/-- a new pile -/
theorem pil_new (O : c.Ok) {s s' : Shared} {ι : Iota} {n : Nat} {q : Int} (I : Inv c s ι μ) (hD : s.heap.get? a = .none) (e : s'.heap.get? a = some (pilOf c.C d [] n)) (hd : dictIs s'.heap d q) (hdn : c.hB.get? d = none) (k : ∀ b o, s.heap.get? b = some o → s'.heap.get? b = some o) (hg : AllBare s'.gens) (ho : s'.os = s.os) (htk : 0 < s'.toks) :
    Step c s ι s' (ι ++ [a]) ∧ Inv c s' (ι ++ [a]) (μ ++ [.pil q []]) ∧ RepV s'.heap (ι ++ [a]) (.loc μ.length) (.ref a) := by
  have S : Step c s ι s' (ι ++ [a]) := ⟨fun b o e _ _ => k b o e, fun b o e => ⟨o, k b o e⟩, [a], rfl, fun b hb => by rw [List.mem_singleton.mp hb]; exact hD⟩
  have fr := I.fresh O hD
  refine ⟨S, ⟨fun b o e hX => k _ _ (I.old b o e hX), fun b hb => ?_, by simp [I.len], ?_, fun i b m hi hm => ?_, O.tk _ _ I.tab fun b o e _ _ => k b o e, hg, ho.trans I.os, htk⟩, ?_⟩
  · rcases List.mem_append.mp hb with h | h
    · exact I.new b h
    · rw [List.mem_singleton.mp h]; exact fr.2.2
  · rw [List.nodup_append]
    refine ⟨I.nodup, by simp, fun x hx b hb q => ?_⟩
    rw [List.mem_singleton.mp hb] at q
    exact fr.1 (q ▸ hx)
  · by_cases hl : i < ι.length
    · rw [List.getElem?_append_left hl] at hi
      rw [List.getElem?_append_left (by rw [← I.len]; exact hl)] at hm
      have x := I.mo i b m hi hm
      cases m with
      | lst ps => obtain ⟨vs, n, e, r⟩ := x; exact ⟨vs, n, k _ _ e, I.repL O S r⟩
      | pil q its =>
        obtain ⟨d, vs, n, e, ⟨hsh, tk, tk', m', ed⟩, hn, r⟩ := x
        exact ⟨d, vs, n, k _ _ e, ⟨hsh, tk, tk', m', k _ _ ed⟩, hn, I.repL O S r⟩
    · have hi' : i = ι.length := by
        have := (List.getElem?_eq_some_iff.mp hi).1
        simp at this; omega
      subst hi'
      simp at hi
      have hm' : (MO.pil q []) = m := by
        rw [List.getElem?_append_right (by rw [I.len]; exact Nat.le_refl _)] at hm
        simpa [I.len] using hm
      subst hi hm'
      exact ⟨d, [], n, e, hd, hdn, by simp only [List.map_nil, RepL]⟩
  · simp only [RepV]
    exact ⟨a, rfl, by rw [← I.len]; simp⟩
/-- the class called -/
theorem pil_make {ps : List PV} {k : Int} {K' : PV → Mu → Prop} {q0 q1 q2 q3 q4 p0 p1 apos pos : Pos} {fI : Addr} {vI : List Value → Value} (O : c.Ok) (P : PilK c K)
    (D : DefS c fI fd [.Assign [.Attribute (.Name "self" q0) "_initial_size" q1] (.Name "initial_size" q2) q3, .Expr (.Call (.Attribute (.Call (.Name "super" p0) [] [] p1) "__init__" apos) [] [] pos) q4] cell) (ao : AOk 2 A)
    (he : ∀ L, callsSuper "__init__" p0 p1 apos pos (callEnv fd L fI)) (hb : ∀ s ι vs v, Inv c s ι μ → RepL s.heap ι ps vs → BindsTo s fd ⟨v :: vs, []⟩ [(("self" : Str), v), (("initial_size" : Str), vI vs)])
    (hvI : ∀ h ι vs, RepL h ι ps vs → ∃ t, vI vs = .int k t) (hl1 : fd.scope.names.lookup ("self" : Str) = some .local) (hl2 : fd.scope.names.lookup ("initial_size" : Str) = some .local) (hk2 : ∀ L, (callEnv fd L fI).kindOf "initial_size" = some .local)
    (hint : ∀ L, interactive (callEnv fd L fI) = false) (hsw : ∀ L, swapsWith (.Call (.Attribute (.Call (.Name "super" p0) [] [] p1) "__init__" apos) [] [] pos) none q4.line (callEnv fd L fI) = pure false) (hsa : ∀ L, swapsWith (.Name "initial_size" q2) (some (.Attribute (.Name "self" q0) "_initial_size" q1)) q3.line (callEnv fd L fI) = pure false)
    (hi : findIn K (.ref c.C) "__init__" = some (some (.ref fI))) (hft : typeIn K (.ref fI) = some (.type "function"))
    (hk : K' (.loc μ.length) (μ ++ [.pil k []])) : WC c A (.ref c.C) ps μ K' := ⟨fun s ι E Q vs I r hQ => by
  have X := P.here I
  obtain ⟨oc', od', cd, sl', hlk, hmro, hdict, hqn, hab, hdel, hs4⟩ := P.cls
  have hcd : clsIn K c.C = some cd := by unfold clsIn; rw [hlk]
  obtain ⟨t, hvt⟩ := hvI _ _ _ r
  obtain ⟨hp, g, dr, tk, os⟩ := s
  refine wpAny_call (make_L (makesL_of X hlk hab hdel hs4 hmro P.call P.inst) X hi hft ?_)
  generalize hA2 : A.under (.builtin "type.__call__" ⟨.ref c.C :: vs, []⟩) = A2
  have hA3 : AOk 1 A2 := by
    rw [← hA2]
    exact ⟨ao.h, by have := ao.d; show A.depth + 1 + 1 < 900; omega, by have := ao.u; show A.units + _ + 20 * 1 < 9000; have e : (Code.builtin "type.__call__" ⟨.ref c.C :: vs, []⟩).frames = 0 := rfl; simp only [Code.cUnits, e]; omega⟩
  have k0 : ∀ b o, hp.get? b = some o → ((hp.push emptyDict).push (pilOf c.C hp.objs.size [] 0)).get? b = some o := fun b o e => Heap.get?_push_of_some _ (Heap.get?_push_of_some _ e)
  have g0 := I.grow O (s' := ⟨(hp.push emptyDict).push (pilOf c.C hp.objs.size [] 0), g, dr, tk, os⟩) k0 I.bare rfl I.tp
  obtain ⟨of, hof, hofd⟩ := D.fn.here g0.1
  have hz : (hp.push emptyDict).objs.size = hp.objs.size + 1 := Heap.size_push ..
  have ha0 : ((hp.push emptyDict).push (pilOf c.C hp.objs.size [] 0)).get? (hp.objs.size + 1) = some (pilOf c.C hp.objs.size [] 0) := by
    rw [← hz]; exact Heap.get?_push_size _ rfl
  have hd0 : ((hp.push emptyDict).push (pilOf c.C hp.objs.size [] 0)).get? hp.objs.size = some emptyDict := Heap.get?_push_of_some _ (Heap.get?_push_size _ rfl)
  refine ks_codeAny_call_defAt (binds := [(("self" : Str), Value.ref (hp.objs.size + 1)), (("initial_size" : Str), vI vs)]) (by have := hA3.d; show A2.depth < 1000; omega) hof hofd (g0.1.noLimit O) (D.codeRec g0.1) D.body (hb _ ι vs _ g0.1 (I.repL O g0.2 r)) D.cells (fun x hx => ?_) (fun h₀ hn kk => ?_) D.co D.gen D.kind
  · rcases List.mem_cons.mp hx with rfl | hx
    · exact hl1
    · rw [List.mem_singleton.mp hx]; exact hl2
  · generalize hS0 : ({ heap := (hp.push emptyDict).push (pilOf c.C hp.objs.size [] 0), gens := g, drawn := dr, toks := tk, os := os } : Shared) = s0 at *
    generalize hL : s0.heap.objs.size = L at *
    have hLz : L = hp.objs.size + 2 := by rw [← hL, ← hS0, Heap.size_push, hz]
    have kk' : ∀ b o, ((hp.push emptyDict).push (pilOf c.C hp.objs.size [] 0)).get? b = some o → h₀.get? b = some o := by rw [← hS0] at kk; exact kk
    have a1 := kk' _ _ ha0
    have d1 := kk' _ _ hd0
    have X1 : K.In h₀ := fun b o q => kk' _ _ (k0 _ _ (X b o q))
    subst hS0
    have IA1 : W.InstAt h₀ (hp.objs.size + 1) (pilOf c.C hp.objs.size [] 0) c.C (some emptyDict) := ⟨a1, rfl, rfl, d1⟩
    refine ks_wpAt_execs_cons (ks_wpAt_Assign_Attr (PySem.wpAt_of_wpAny ?_) (hsa L))
    refine wpAny_Name (wpAny_loadName_local D.kind (hk2 L) hn (v := vI vs) rfl ?_) (by decide)
    refine wpAny_Name (wpAny_loadName_local D.kind (D.kself L) hn (v := .ref (hp.objs.size + 1)) rfl ?_) (by decide)
    refine pil_set X1 IA1 P.seta hcd hmro hdict P.ini ?_
    obtain ⟨tv, hvt⟩ : ∃ t, vI vs = .int k t := ⟨t, hvt⟩
    rw [hvt]
    dsimp only
    generalize hkey : PyData.keyHash c.w.params ("_initial_size" : Str) = hsh
    generalize hT : (tk + ([(("self" : Str), Value.ref (hp.objs.size + 1)), (("initial_size" : Str), Value.int k tv)] : List (Str × Value)).length + 1) = t1
    have d2 : (h₀.update hp.objs.size (Obj.putName "_initial_size" hsh (.str "_initial_size" t1) (.int k tv))).get? hp.objs.size = some { cls := .type "dict", dict := none, data := .dict #[⟨hsh, .str "_initial_size" t1, .int k tv⟩] 1, slots := #[] } := by
      rw [Heap.get?_update_self _ d1 rfl]
      rfl
    generalize hh2 : h₀.update hp.objs.size (Obj.putName "_initial_size" hsh (.str "_initial_size" t1) (.int k tv)) = h2 at d2
    have k2 : ∀ b o, b ≠ hp.objs.size → h₀.get? b = some o → h2.get? b = some o := fun b o hb e => by rw [← hh2]; exact (Heap.get?_update_other _ _ (Ne.symm hb)).trans e
    have fz := fresh_size hp
    have ks2 : ∀ b o, hp.get? b = some o → h2.get? b = some o := fun b o e => k2 b o (fun q => by rw [q, fz] at e; cases e) (kk' _ _ (k0 _ _ e))
    have g2 := I.grow O (s' := ⟨h2, g, dr, tk + ([(("self" : Str), Value.ref (hp.objs.size + 1)), (("initial_size" : Str), Value.int k tv)] : List (Str × Value)).length + 2, os⟩) ks2 I.bare rfl (by show 0 < tk + _ + 2; omega)
    have hn2 : h2.Ns L (fun x => ([(("self" : Str), Value.ref (hp.objs.size + 1)), (("initial_size" : Str), vI vs)] : List (Str × Value)).reverse.lookup x) := by
      obtain ⟨oL, es, ep, hL1, hL2⟩ := hn
      exact ⟨oL, es, ep, k2 _ _ (by omega) hL1, hL2⟩
    have a2 := k2 _ _ (by omega) a1
    have IA2 : W.InstAt h2 (hp.objs.size + 1) (pilOf c.C hp.objs.size [] 0) c.C (some _) := ⟨a2, rfl, rfl, d2⟩
    refine ks_wpAt_execs_cons (ks_wpAt_Expr_any ?_ (hint L) (hsw L))
    refine sup_expr O P D g2.1 hn2 rfl IA2 sup_init P.lInit (by decide) (he L) (fun h' b k3 hb' => ?_)
    dsimp only at k3 hb' ⊢
    have IA3 : W.InstAt h' (hp.objs.size + 1) (pilOf c.C hp.objs.size [] 0) c.C (some _) := ⟨k3 _ _ a2, rfl, rfl, k3 _ _ d2⟩
    generalize hT2 : tk + ([(("self" : Str), Value.ref (hp.objs.size + 1)), (("initial_size" : Str), Value.int k tv)] : List (Str × Value)).length + 2 + 1 = t2
    have hup : (h'.update (hp.objs.size + 1) (Obj.mapSeq fun _ => #[])).get? (hp.objs.size + 1) = some (pilOf c.C hp.objs.size [] 0) := by
      rw [Heap.get?_update_self _ IA3.at_ rfl]
      rfl
    refine wpAny_mono (bnd_call (s := ⟨h', g, dr, t2, os⟩) (a := hp.objs.size + 1) (Q := fun v s' => s' = ⟨h'.update (hp.objs.size + 1) (Obj.mapSeq fun _ => #[]), g, dr, t2, os⟩) hb' sup_init.bty F.slot_list_init.plain F.entry_list_init (fun {A P E} hp => by rw [cb_init]; exact wpAny_pure hp) (fun {A P E} hp => pil_init_body IA3 (hp _ _ rfl))) (fun v s' hv => ?_) (fun _ _ z => z)
    subst hv
    refine PySem.wpAt_of_wpAny (wpAny_execs_nil ⟨rfl, ?_⟩)
    have fa : hp.get? (hp.objs.size + 1) = none := by
      cases q : hp.get? (hp.objs.size + 1) with
      | none => rfl
      | some o => exact absurd (Heap.lt_size q) (Nat.not_lt_of_le (Nat.le_succ _))
    have f := pil_new (d := hp.objs.size) O (s' := ⟨h'.update (hp.objs.size + 1) (Obj.mapSeq fun _ => #[]), g, dr, t2, os⟩) (q := k) I fa hup ⟨hsh, t1, tv, 1, (Heap.get?_update_other _ _ (Nat.succ_ne_self _)).trans (k3 _ _ d2)⟩ (I.fresh O fz).2.2 (fun b o e => (Heap.get?_update_other _ _ (fun q => by rw [← q, fa] at e; cases e)).trans (k3 _ _ (ks2 _ _ e))) I.bare rfl (by show 0 < t2; rw [← hT2]; exact Nat.succ_pos _)
    exact hQ _ _ _ _ _ f.1 f.2.1 f.2.2 hk⟩
end
end Mine
namespace Mine
section
variable {c : Cx} {A : Around} {μ : Mu} {K : Frag} {env : Env} {ρ : Rho} {f L a cell d : Addr} {fd : FuncData} {vs : List Value} {n : Nat} {od : Obj}
theorem subTail_pil {value : Expr} {lo hi : Option Expr} {p : Pos} {i : Value} {s : Shared} {ι : Iota} {E Q : Value → Shared → Prop} (P : PilK c K) (I : Inv c s ι μ) (IA : W.InstAt s.heap a (pilOf c.C d vs n) c.C (some od)) (h : wpAny (model c.prog c.w) A (getItem (.ref a) i) Q E s) :
    wpAny (model c.prog c.w) A (subscriptTail value (.Slice lo hi .none p) (.ref a) i) Q E s := by
  have X := P.here I
  have fin : ∀ b, wpAny (model c.prog c.w) A (subscripted (.Slice lo hi .none p) b (.ref a) i) (fun r s₃ => wpAny (model c.prog c.w) A (letTemporaryGo value (.ref a) r >>= fun _ => pure r) Q E s₃) E s := by
    intro b
    show wpAny _ _ (operate [i, .ref a] (getItem (.ref a) i)) _ _ _
    exact wpAny_operating (wpAny_mono h (fun r s₃ h₃ => wpAny_bind (wpAny_letTemporaryGo (wpAny_pure h₃))) fun _ _ x => x)
  unfold subscriptTail
  refine wpAny_bind ?_
  unfold getitemInPython specialOf
  refine wpAny_bind (wpAny_bind (IA.type.here ((looks_findIn X P.geti).here ?_)))
  exact wpAny_pure (wpAny_bind (fin _))
/-- self[lo:hi] of a pile: a plain list of its pairs -/
theorem WE.pslice {value : Expr} {lo hi : Option Expr} {p pos : Pos} {K' : PV → Mu → Prop} (O : c.Ok) (P : PilK c K)
    (h : WE c A value env ρ μ fun b μ₁ => WPart c A lo env ρ μ₁ fun l μ₂ => WPart c A hi env ρ μ₂ fun u μ₃ => ∃ i k its, b = .loc i ∧ μ₃[i]? = some (.pil k its) ∧ its.length ≤ 1000000 ∧ K' (.loc μ₃.length) (μ₃ ++ [.lst (cutL (its.map pairPV) l u)])) : WE c A (.Subscript value (.Slice lo hi .none p) pos) env ρ μ K' := ⟨fun s ι E Q I V hQ => by
  refine PyProof.Rows.Subscript_ (h.run s ι E _ I V fun o s₁ ι₁ b μ₁ S₁ I₁ r₁ k₁ => ?_)
  refine wpAny_Slice (k₁.run s₁ ι₁ E _ I₁ (V.step O I S₁) fun vl s₂ ι₂ l μ₂ S₂ I₂ r₂ k₂ => ?_)
  refine k₂.run s₂ ι₂ E _ I₂ (V.step O I (S₁.trans S₂)) fun vu s₃ ι₃ u μ₃ S₃ I₃ r₃ k₃ => ?_
  refine wpAny_evalPart_none ?_
  obtain ⟨i, k, its, rfl, hi, hx, k₄⟩ := k₃
  have g := I₃.grow O (s' := { s₃ with heap := s₃.heap.push { cls := .type "slice", data := .fields #[vl, vu, .none] } }) (fun b o e => Heap.get?_push_of_some _ e) I₃.bare rfl I₃.tp
  have r₁' := (I₁.rep O ((S₂.trans S₃).trans g.2) r₁)
  obtain ⟨a, d, vs, m, od, rfl, ha, IA, hdi, hd, hdn, rl, hl⟩ := g.1.pil hi r₁'
  refine subTail_pil P g.1 IA ?_
  have t := lst_new O g.1 (rl.cut l u) (h' := (s₃.heap.push { cls := .type "slice", data := .fields #[vl, vu, .none] }).push (lstOf (cutL vs l u) 0)) (D := s₃.heap.objs.size + 1) (n := 0) (tk := s₃.toks) (by
      have := fresh_size (s₃.heap.push { cls := .type "slice", data := .fields #[vl, vu, .none] })
      simpa [Heap.push] using this) (by
      have := Heap.get?_push_size (s₃.heap.push { cls := .type "slice", data := .fields #[vl, vu, .none] }) (o := lstOf (cutL vs l u) 0) rfl
      simpa [Heap.push] using this) (fun b o e => Heap.get?_push_of_some _ e) I₃.tp
  refine pil_slice (P.here g.1) IA P.sub P.seq P.geti ⟨_, Heap.get?_push_size _ rfl, rfl, rfl⟩ r₂.isPart r₃.isPart (by rw [hl]; exact hx) ?_
  rw [cutL_pick]
  have := hQ _ _ _ _ _ ((((S₁.trans S₂).trans S₃).trans g.2).trans t.1) t.2.1 t.2.2 k₄
  simpa [Heap.push, lstOf] using this⟩
variable {KS : PF → Rho → Mu → Prop}
/-- self[n:] = [] -/
theorem WS.pcut {o v lo : Expr} {p pos' pos : Pos} (O : c.Ok) (P : PilK c K) (hsw : swapsWith v (some (.Subscript o (.Slice (.some lo) .none .none p) pos')) pos.line env = pure false)
    (h : WE c A v env ρ μ fun q μ₁ => WE c A o env ρ μ₁ fun b μ₂ => WE c A lo env ρ μ₂ fun l μ₃ => ∃ j i k its m, q = .loc j ∧ μ₃[j]? = some (.lst []) ∧ b = .loc i ∧ μ₃[i]? = some (.pil k its) ∧ l = .int (m : Nat) ∧ m ≤ its.length ∧ its.length ≤ 1000000 ∧ KS .next ρ (μ₃.set i (.pil k (its.take m)))) : WS c A (.Assign [.Subscript o (.Slice (.some lo) .none .none p) pos'] v pos) env ρ μ KS := ⟨fun s ι E Q I V hQ => by
  refine wpAny_Assign_Subscript (h.run s ι E _ I V fun ov s₁ ι₁ q μ₁ S₁ I₁ r₁ k₁ => ?_) hsw
  refine k₁.run s₁ ι₁ E _ I₁ (V.step O I S₁) fun bv s₂ ι₂ b μ₂ S₂ I₂ r₂ k₂ => ?_
  refine wpAny_Slice (wpAny_evalPart_some (k₂.run s₂ ι₂ E _ I₂ (V.step O I (S₁.trans S₂)) fun lv s₃ ι₃ l μ₃ S₃ I₃ r₃ k₃ => ?_))
  refine wpAny_evalPart_none (wpAny_evalPart_none ?_)
  obtain ⟨j, i, k, its, m, rfl, hj, rfl, hi, rfl, hm, hx, k₄⟩ := k₃
  simp only [RepV] at r₃
  obtain ⟨t, rfl⟩ := r₃
  have g := I₃.grow O (s' := { s₃ with heap := s₃.heap.push { cls := .type "slice", data := .fields #[.int m t, .none, .none] } }) (fun b o e => Heap.get?_push_of_some _ e) I₃.bare rfl I₃.tp
  obtain ⟨a, d, vs, n, od, rfl, ha, IA, hdi, hd, hdn, rl, hl⟩ := g.1.pil hi (I₂.rep O (S₃.trans g.2) r₂)
  obtain ⟨la, lvs, ln, rfl, hla, ela, rla⟩ := g.1.lst hj (I₁.rep O ((S₂.trans S₃).trans g.2) r₁)
  simp only [RepL] at rla
  subst rla
  have hne : la ≠ a := fun q => by
    have := IA.at_
    rw [← q] at this
    rw [ela] at this; cases this
  refine pil_cut (P.here g.1) IA P.sub P.seq P.seti ⟨_, Heap.get?_push_size _ rfl, rfl, rfl⟩ hne ⟨_, ela, rfl, _, rfl⟩ (by rw [hl]; exact hm) (by rw [hl]; exact hx) ?_
  have hev : (vs.toArray.extract 0 m ++ #[] ++ vs.toArray.extract vs.length vs.toArray.size) = (vs.take m).toArray := by
    apply Array.ext'
    simp
  obtain ⟨n', hup⟩ : ∃ n', ((s₃.heap.push { cls := .type "slice", data := .fields #[.int m t, .none, .none] }).update a (Obj.mapSeq fun xs => xs.extract 0 m ++ #[] ++ xs.extract vs.length xs.size)).get? a = some (pilOf c.C d (vs.take m) n') := by
    rw [Heap.get?_update_self _ IA.at_ rfl]
    unfold Obj.mapSeq
    dsimp only
    rw [hev]
    exact ⟨_, rfl⟩
  have tk' : ∀ {h : Heap} {ι : Iota} (ps : List PV) (vs : List Value) (m : Nat), RepL h ι ps vs → RepL h ι (ps.take m) (vs.take m) := by
    intro h ι ps
    induction ps with
    | nil => intro vs m r; simp only [RepL] at r; subst r; simp only [List.take_nil, RepL]
    | cons p ps ih =>
      intro vs m r
      simp only [RepL] at r
      obtain ⟨v, r', rfl, h1, h2⟩ := r
      cases m with
      | zero => simp only [List.take_zero, RepL]
      | succ m => simp only [List.take_succ_cons, RepL]; exact ⟨v, _, rfl, h1, ih _ _ h2⟩
  have g2 := g.1.put O (i := i) (a := a) (m := .pil k (its.take m)) ha (s' := { s₃ with heap := (s₃.heap.push { cls := .type "slice", data := .fields #[.int m t, .none, .none] }).update a (Obj.mapSeq fun xs => xs.extract 0 m ++ #[] ++ xs.extract vs.length xs.size) })
    (fun b o e hba => (Heap.get?_update_other _ _ (Ne.symm hba)).trans e) ⟨_, hup⟩ (fun rv rl' => by
      obtain ⟨hsh, tk, tk2, mm, ed⟩ := hdi
      refine ⟨d, vs.take m, n', hup, ⟨hsh, tk, tk2, mm, (Heap.get?_update_other _ _ (fun q => ?_)).trans ed⟩, hdn, by rw [List.map_take]; exact tk' _ _ m (rl' _ _ rl)⟩
      subst q
      have := IA.at_
      rw [ed] at this; cases this) I₃.bare rfl I₃.tp
  exact hQ _ _ ι₃ .next ρ _ (((S₁.trans S₂).trans S₃).trans (g.2.trans g2.2)).f g2.1 ((((V.step O I S₁).step O I₁ S₂).step O I₂ S₃).step O I₃ (g.2.trans g2.2)) rfl k₄⟩
end
end Mine
namespace Mine
section
variable {c : Cx} {A : Around} {μ : Mu} {K : Frag} {env : Env} {ρ : Rho}
def PilIs (μ : Mu) (p : PV) : Prop := ∃ i k its, p = .loc i ∧ μ[i]? = some (.pil k its)
/-- a method of the piles' class, given in the text, called -/
theorem WE.pmeth {o : Expr} {name : Str} {apos pos : Pos} {e : Expr} {es : List Expr} {fa : Addr} {fd : FuncData} {K' : PV → Mu → Prop} (O : c.Ok) (P : PilK c K) (hf : findIn K (.ref c.C) name = some (some (.ref fa))) (ht : typeIn K (.ref fa) = some (.type "function")) (hn : name ≠ "_initial_size") (F : FnAt c fa fd)
    (h : WE c A o env ρ μ fun p μ₁ => PilIs μ₁ p ∧ WEs c A (e :: es) env ρ μ₁ fun ps μ₂ => WC c A (.ref fa) (p :: ps) μ₂ K') (hs : (e :: es).all notStar = true) (hc : callsMethod o name apos (e :: es) pos env) : WE c A (.Call (.Attribute o name apos) (e :: es) [] pos) env ρ μ K' := ⟨fun s ι E Q I V hQ => by
  obtain ⟨pl, hc⟩ := hc
  refine PyProof.Rows.MethodCall_ (h.run s ι E _ I V fun ov s₁ ι₁ p μ₁ S₁ I₁ r₁ k₁ => ?_) hc
  obtain ⟨⟨i, k, its, rfl, hi⟩, k₁⟩ := k₁
  obtain ⟨a, d, vs, n, od, rfl, ha, IA, hdi, hd, hdn, rl, hl⟩ := I₁.pil hi r₁
  refine pil_getm P I₁ IA hdi hd hf ht (by decide) hn ?_
  obtain ⟨ob, eo, hod⟩ := F.at'
  refine Calls.callWith_function (o := ob) (fd := fd) (first := [.ref a]) (k₁.args hs I₁ (V.step O I S₁) fun vs s₂ ι₂ ps μ₂ S₂ I₂ r₂ k₂ => ⟨⟨I₂.old _ _ eo F.off, hod⟩, ?_⟩)
  exact k₂.run s₂ ι₂ E Q (.ref a :: vs) I₂ (by simp only [RepL]; exact ⟨_, _, rfl, I₁.rep O S₂ r₁, r₂⟩) fun v s₃ ι₃ q μ₃ S₃ I₃ r₃ k₃ => hQ v s₃ ι₃ q μ₃ ((S₁.trans S₂).trans S₃) I₃ r₃ k₃⟩
theorem WE.pmeth0 {o : Expr} {name : Str} {apos pos : Pos} {fa : Addr} {fd : FuncData} {K' : PV → Mu → Prop} (O : c.Ok) (P : PilK c K) (hf : findIn K (.ref c.C) name = some (some (.ref fa))) (ht : typeIn K (.ref fa) = some (.type "function")) (hn : name ≠ "_initial_size") (F : FnAt c fa fd)
    (h : WE c A o env ρ μ fun p μ₁ => PilIs μ₁ p ∧ WC c A (.ref fa) [p] μ₁ K') (hc : callsMethod o name apos [] pos env) : WE c A (.Call (.Attribute o name apos) [] [] pos) env ρ μ K' := ⟨fun s ι E Q I V hQ => by
  obtain ⟨pl, hc⟩ := hc
  refine PyProof.Rows.MethodCall_ (h.run s ι E _ I V fun ov s₁ ι₁ p μ₁ S₁ I₁ r₁ k₁ => ?_) hc
  obtain ⟨⟨i, k, its, rfl, hi⟩, k₁⟩ := k₁
  obtain ⟨a, d, vs, n, od, rfl, ha, IA, hdi, hd, hdn, rl, hl⟩ := I₁.pil hi r₁
  refine pil_getm P I₁ IA hdi hd hf ht (by decide) hn ?_
  obtain ⟨ob, eo, hod⟩ := F.at'
  refine Calls.callWith_function (o := ob) (fd := fd) (first := [.ref a]) (PyProof.Rows.evalArgs_none ⟨⟨I₁.old _ _ eo F.off, hod⟩, ?_⟩)
  exact k₁.run s₁ ι₁ E Q [.ref a] I₁ (by simp only [RepL]; exact ⟨_, _, rfl, r₁, rfl⟩) fun v s₃ ι₃ q μ₃ S₃ I₃ r₃ k₃ => hQ v s₃ ι₃ q μ₃ (S₁.trans S₃) I₃ r₃ k₃⟩
/-- self.append(x) -/
theorem WE.pappend {o e : Expr} {apos pos : Pos} {K' : PV → Mu → Prop} (O : c.Ok) (P : PilK c K)
    (h : WE c A o env ρ μ fun p μ₁ => PilIs μ₁ p ∧ WE c A e env ρ μ₁ fun q μ₂ => ∃ i k its x, p = .loc i ∧ q = pairPV x ∧ μ₂[i]? = some (.pil k its) ∧ its.length ≤ 1000000 ∧ K' .none (μ₂.set i (.pil k (its ++ [x])))) (hs : notStar e = true) (hc : callsMethod o "append" apos [e] pos env) : WE c A (.Call (.Attribute o "append" apos) [e] [] pos) env ρ μ K' := ⟨fun s ι E Q I V hQ => by
  obtain ⟨pl, hc⟩ := hc
  refine PyProof.Rows.MethodCall_ (h.run s ι E _ I V fun ov s₁ ι₁ p μ₁ S₁ I₁ r₁ k₁ => ?_) hc
  obtain ⟨⟨i, k, its, rfl, hi⟩, k₁⟩ := k₁
  obtain ⟨a, d, vs, n, od, rfl, ha, IA, hdi, hd, hdn, rl, hl⟩ := I₁.pil hi r₁
  refine pil_getm P I₁ IA hdi hd P.app P.appT (by decide) (by decide) ?_
  refine callWith_bi (first := [.ref a]) (K := fun ps μ₂ => ∃ i' k its x, PV.loc i = .loc i' ∧ ps = [pairPV x] ∧ μ₂[i']? = some (.pil k its) ∧ its.length ≤ 1000000 ∧ K' .none (μ₂.set i' (.pil k (its ++ [x]))))
    (WEs.cons O (k₁.mono fun q μ₂ h => WEs.nil (by obtain ⟨i', k, its, x, e1, rfl, e3⟩ := h; exact ⟨i', k, its, x, e1, rfl, e3⟩)) hs) (by simp [hs]) I₁ (V.step O I S₁) fun vs' s₂ ι₂ ps μ₂ S₂ I₂ r₂ k₂ => ?_
  obtain ⟨i', k', its', x, e1, rfl, hi', hx, k₂⟩ := k₂
  cases e1
  simp only [RepL] at r₂
  obtain ⟨xv, _, rfl, rx, rfl⟩ := r₂
  obtain ⟨a', d', vs', m', od', ea, ha', IA', hdi', hd', hdn', rl', hl'⟩ := I₂.pil hi' (I₁.rep O S₂ r₁)
  cases ea
  refine pil_append (P.here I₂) IA' P.sub (by rw [hl']; exact hx) ?_
  have hup : (s₂.heap.update a (Obj.mapSeq fun xs => xs.push xv)).get? a = some (pilOf c.C d' (vs' ++ [xv]) (m' + 1)) := by
    rw [Heap.get?_update_self _ IA'.at_ rfl]
    simp [Obj.mapSeq]
  have g2 := I₂.put O (i := i) (a := a) (m := .pil k' (its' ++ [x])) ha' (s' := { s₂ with heap := s₂.heap.update a (Obj.mapSeq fun xs => xs.push xv) })
    (fun b o e hba => (Heap.get?_update_other _ _ (Ne.symm hba)).trans e) ⟨_, hup⟩ (fun rv rl'' => by
      obtain ⟨hsh, tk, tk2, mm, ed⟩ := hdi'
      refine ⟨d', vs' ++ [xv], m' + 1, hup, ⟨hsh, tk, tk2, mm, (Heap.get?_update_other _ _ (fun q => ?_)).trans ed⟩, hdn', by rw [List.map_append]; exact RepL.append _ _ _ _ (rl'' _ _ rl') (by simp only [List.map_cons, List.map_nil, RepL]; exact ⟨_, _, rfl, rv _ _ rx, rfl⟩)⟩
      subst q
      have := IA'.at_
      rw [ed] at this; cases this) I₂.bare rfl I₂.tp
  exact hQ _ _ ι₂ .none _ ((S₁.trans S₂).trans g2.2) g2.1 (by simp only [RepV]) k₂⟩
end
end Mine
namespace Mine
open AutoSeq1 (wpAny_loadPart')
section
variable {prog : Program} {w : World} {A : Around} {E : Value → Shared → Prop} {s : Shared}
/-- an object that holds a row of values, of whatever class -/
def SeqAt (h : Heap) (a : Addr) (items : Array Value) : Prop := ∃ o n, h.get? a = some o ∧ o.data = .seq items n
abbrev itObj (a : Addr) (i : Nat) : Obj := { cls := .type "list_iterator", dict := none, data := .fields #[.ref a, .int i 0], slots := #[] }
theorem next_seq {it l : Addr} {i : Nat} {items : Array Value} {x : Value} {Q : Option Value → Shared → Prop} (hit : s.heap.get? it = some (itObj l i)) (hl : SeqAt s.heap l items) (hx : items[i]? = some x)
    (hQ : ∀ h', h'.get? it = some (itObj l (i + 1)) → Heap.SameBut it s.heap h' → Q (some x) { s with heap := h' }) : wpAny (model prog w) A (pyNext (.ref it)) Q E s := by
  have hT : s.TypeIs (.ref it) "list_iterator" := ⟨_, hit, rfl⟩
  obtain ⟨o, n, ho, hd⟩ := hl
  have e0 : (itObj l i).data = .fields #[.ref l, .int i 0] := rfl
  unfold pyNext
  refine wpAny_bind (wpAny_attempt (wpAny_callSpecial?_slot (name := Str.ofString "__next__") hT slot_listiter_next (wpAny_call_entry slot_listiter_next hT entry_listiter_next ?_ (args_listiter_next _))))
  show wpAny _ _ (field (.ref it) 0 >>= _) _ _ s
  refine wpAny_bind (wpAny_field hit e0 (x := .ref l) rfl ?_)
  show wpAny _ _ (if (Value.ref l == Value.none) = true then _ else _) _ _ s
  rw [if_neg (show ¬ ((Value.ref l == Value.none) = true) from Bool.false_ne_true)]
  show wpAny _ _ (field (.ref it) 1 >>= _) _ _ s
  refine wpAny_bind (wpAny_field hit e0 (x := .int i 0) rfl ?_)
  show wpAny _ _ (seqItems? (.ref l) >>= _) _ _ s
  refine wpAny_bind (wpAny_seqItems ho hd ?_)
  simp only [Int.toNat_natCast, hx]
  refine wpAny_bind (wpAny_setField_rec hit (by simp) fun h1 e1 s1 => wpAny_pure ⟨x, rfl, wpAny_pure (hQ _ ?_ s1)⟩)
  rw [e1]
  simp [rawInt]
theorem next_end {it l : Addr} {i : Nat} {items : Array Value} {Q : Option Value → Shared → Prop} (hh : A.handled = none) (hit : s.heap.get? it = some (itObj l i)) (hl : SeqAt s.heap l items) (hx : items[i]? = none)
    (hQ : ∀ h', Heap.ExtBut it s.heap h' → Q none { s with heap := h' }) : wpAny (model prog w) A (pyNext (.ref it)) Q E s := by
  have hT : s.TypeIs (.ref it) "list_iterator" := ⟨_, hit, rfl⟩
  obtain ⟨o, n, ho, hd⟩ := hl
  have e0 : (itObj l i).data = .fields #[.ref l, .int i 0] := rfl
  unfold pyNext
  refine wpAny_bind (wpAny_attempt (wpAny_callSpecial?_slot (name := Str.ofString "__next__") hT slot_listiter_next (wpAny_call_entry slot_listiter_next hT entry_listiter_next ?_ (args_listiter_next _))))
  show wpAny _ _ (field (.ref it) 0 >>= _) _ _ s
  refine wpAny_bind (wpAny_field hit e0 (x := .ref l) rfl ?_)
  show wpAny _ _ (if (Value.ref l == Value.none) = true then _ else _) _ _ s
  rw [if_neg (show ¬ ((Value.ref l == Value.none) = true) from Bool.false_ne_true)]
  show wpAny _ _ (field (.ref it) 1 >>= _) _ _ s
  refine wpAny_bind (wpAny_field hit e0 (x := .int i 0) rfl ?_)
  show wpAny _ _ (seqItems? (.ref l) >>= _) _ _ s
  refine wpAny_bind (wpAny_seqItems ho hd ?_)
  simp only [Int.toNat_natCast, hx]
  refine wpAny_bind (wpAny_rule (wpAny_bind (wpAny_setField_rec hit (by simp) fun h1 e1 s1 => ?_)))
  show wpAny _ _ (newExc (.type "StopIteration") [] >>= _) _ _ _
  refine wpAny_bind ?_
  simp only [newExc, newTuple]
  refine wpAny_bind (wpAny_newObj_type ?_ (by size_fits))
  refine wpAny_bind (m := firstArgMember _ _) (wpAny_of_eq (a := Value.none) (by first | rfl | (simp only [firstArgMember]; rfl)) ?_)
  refine wpAny_newObj_type ?_ (by size_fits)
  simp only [raiseNew]
  refine wpAny_bind (wpAny_handled ?_)
  rw [show A.in1.handled = none from hh]
  refine wpAny_bind (wpAny_pure (wpAny_throw ?_))
  refine wpAny_bind (wpAny_isInstance (T := "StopIteration") (b := true) ⟨_, Heap.get?_push_size _ rfl, rfl⟩ isSubtype_stop ?_)
  exact wpAny_pure (hQ _ ((s1.extBut.push _).push _))
end
end Mine
namespace Mine
/-- a row of pairs, walked -/
theorem seq_walks {prog : Program} {w : World} {A : Around} (hh : A.handled = none) (I ax : Addr) (hne : ax ≠ I) (items : Array Value) (Ts : Nat → Addr) (vals : Nat → Array Value)
    (hit : ∀ j, j < items.size → items[j]? = some (.ref (Ts j))) (hTI : ∀ j, j < items.size → Ts j ≠ I) :
    WalksU prog w A I (I :: ax :: (List.range items.size).map Ts) [I] items.size (fun j v => v = vals j)
      (fun j h => h.get? I = some (itObj ax j) ∧ SeqAt h ax items ∧ ∀ k, k < items.size → h.IsTuple (Ts k) (vals k))
      (fun j T h => (j < items.size ∧ T = Ts j) ∧ h.get? I = some (itObj ax (j + 1)) ∧ SeqAt h ax items ∧ ∀ k, k < items.size → h.IsTuple (Ts k) (vals k)) where
  sub := fun b hb => by simp at hb; simp [hb]
  frame := fun _ _ _ st hk => by
    obtain ⟨h1, ⟨o, n, h2, h3⟩, h4⟩ := st
    exact ⟨hk I (by simp) _ h1, ⟨o, n, hk ax (by simp) _ h2, h3⟩, fun k hk' => (h4 k hk').at fun o e => hk (Ts k) (List.mem_cons_of_mem _ (List.mem_cons_of_mem _ (List.mem_map.mpr ⟨k, List.mem_range.mpr hk', rfl⟩))) o e⟩
  item := fun i s Q E hi st hQ => by
    obtain ⟨h1, h2, h4⟩ := st
    refine next_seq h1 h2 (x := .ref (Ts i)) (hit i hi) fun h' hit' hs' => ?_
    have tup : ∀ k, k < items.size → h'.IsTuple (Ts k) (vals k) := fun k hk' => (h4 k hk').extBut hs'.extBut (hTI k hk')
    obtain ⟨o, n, h2, h3⟩ := h2
    exact hQ (Ts i) (vals i) h' s.toks rfl (tup i hi) ⟨⟨hi, rfl⟩, hit', ⟨o, n, hs'.extBut ax o hne h2, h3⟩, tup⟩ fun b o hb e => hs'.extBut b o (fun h => hb (by simp [h])) e
  go := fun _ _ _ _ _ s Q _ hm hQ => wpAny_letOwnedTupleGo_listiter ⟨_, hm.2.1, rfl, rfl⟩ (hQ s.heap hm.2 fun _ _ _ e => e)
  apart := fun j T _ hm hmem => by
    rcases List.mem_cons.mp hmem with e | e
    · exact hTI j hm.1.1 (hm.1.2 ▸ e)
    · cases e
  done := fun s Q E st hQ => by
    obtain ⟨h1, h2, h4⟩ := st
    exact next_end hh h1 h2 (by simp) fun h' he => hQ h' s.toks fun b o hb e => he b o (fun h => hb (by simp [h])) e
  self := fun i s Q E st hQ => wpAny_pyIter_listiter ⟨_, st.1, rfl, rfl⟩ hQ
/-- a walk with one step ahead of it, already gone -/
theorem walks_shift {prog : Program} {w : World} {A : Around} {I : Addr} {fp wr : List Addr} {G : Array GenState → Array GenState → Prop} {n : Nat} {P : Nat → Value → Prop} {St : Nat → Shared → Prop} (W : WalksS prog w A I fp wr G n P St) :
    WalksS prog w A I fp wr G (n + 1) (fun i v => match i with | 0 => False | i + 1 => P i v) (fun i s => match i with | 0 => False | i + 1 => St i s) where
  sub := W.sub
  grefl := W.grefl
  gtrans := W.gtrans
  frame := fun i s h' tk st hk hb => by
    cases i with
    | zero => exact st
    | succ i => exact W.frame i s h' tk st hk hb
  item := fun i s Q E hi st hQ => by
    cases i with
    | zero => exact st.elim
    | succ i => exact W.item i s Q E (by omega) st hQ
  done := fun s Q E st hQ => W.done s Q E st hQ
  self := fun i s Q E st hQ => by
    cases i with
    | zero => exact st.elim
    | succ i => exact W.self i s Q E st hQ
end Mine
namespace Mine
section
variable {c : Cx} {A : Around} {μ : Mu} {K : Frag} {env : Env} {ρ : Rho} {a d : Addr} {vs : List Value} {n : Nat} {od : Obj} {s : Shared} {ι : Iota} {E : Value → Shared → Prop}
/-- an iterator over a pile -/
theorem pil_pyIter {Q : Value → Shared → Prop} (P : PilK c K) (I : Inv c s ι μ) (IA : W.InstAt s.heap a (pilOf c.C d vs n) c.C (some od))
    (h : Q (.ref s.heap.objs.size) { s with heap := s.heap.push { cls := .type "list_iterator", data := .fields #[.ref a, .int 0 0] } }) : wpAny (model c.prog c.w) A (pyIter (.ref a)) Q E s := by
  have X := P.here I
  unfold pyIter
  refine wpAny_bind ?_
  unfold specialOf
  refine wpAny_bind (IA.type.here ((looks_findIn X P.iter).here ?_))
  show wpAny _ A (callSpecialIfBoundUnlessNone? (.ref a) "__iter__" _ >>= _) Q E s
  refine wpAny_bind ?_
  unfold callSpecialIfBoundUnlessNone? bindSpecialIfBound? specialOf
  refine wpAny_holding (wpAny_bind (wpAny_bind (wpAny_bind (IA.type.here ((looks_findIn X P.iter).here ?_)))))
  dsimp only
  rw [F.slot_list_iter.bind]
  refine wpAny_bind (wpAny_askSetting ?_)
  have go : wpAny (model c.prog c.w) A (call (.builtin "list.__iter__") [.ref a]) (fun v s' => v = .ref s.heap.objs.size ∧ s' = { s with heap := s.heap.push { cls := .type "list_iterator", data := .fields #[.ref a, .int 0 0] } }) E s := pil_iter X IA P.sub ⟨rfl, rfl⟩
  have tail : ∀ v s', v = .ref s.heap.objs.size ∧ s' = { s with heap := s.heap.push { cls := .type "list_iterator", data := .fields #[.ref a, .int 0 0] } } → wpAny (model c.prog c.w) A (do
      match ← specialOf v "__next__" with
      | none => rule "iter.non-iterator"; raiseError "TypeError" s!"iter() returned non-iterator of type '{← typeNameOf v}'"
      | some _ => pure v) Q E s' := fun v s' hv => by
    obtain ⟨rfl, rfl⟩ := hv
    exact wpAny_bind (wpAny_specialOf (T := "list_iterator") ⟨_, Heap.get?_push_size _ rfl, rfl⟩ slot_listiter_next.lookup (wpAny_pure h))
  split
  · refine wpAny_bind (wpAny_pure (wpAny_pure ?_))
    show wpAny _ A (if _ then _ else _) _ _ _
    rw [if_neg (by decide)]
    exact wpAny_bind (wpAny_mono go (fun v s' hv => wpAny_pure (tail v s' hv)) fun _ _ z => z)
  · refine wpAny_tryCatch (wpAny_bind (wpAny_pure (wpAny_pure ?_)))
    show wpAny _ A (if _ then _ else _) _ _ _
    rw [if_neg (by decide)]
    exact wpAny_bind (wpAny_mono go (fun v s' hv => wpAny_pure (tail v s' hv)) fun _ _ z => z)
end
end Mine
namespace Mine
/-- a code's table of the codes made in it, that may grow -/
structure GenTab (c : Cx) (cc P : Addr) : Prop where
  mem : P ∈ c.X
  has : ∀ h, c.T h → ∃ ps, h.IsCode cc P ps ∧ h.TableAt cc P ps
  grow : ∀ h h' ps, c.T h → Heap.ExtBut P h h' → h'.IsCode cc P ps → h'.TableAt cc P ps → c.T h'
/-- the module of the built-ins, as the text's top names it -/
structure BinM (c : Cx) : Prop where
  at' : ∃ bm o, c.mg "__builtins__" = some (.ref bm) ∧ bm ≠ builtinsNs ∧ c.hB.get? bm = some o ∧ bm ∉ c.X ∧ o.cls = .type "module" ∧ o.dict = some builtinsNs ∧ o.data = .plain
section
variable {c : Cx} {A : Around} {μ : Mu} {K : Frag} {env : Env} {ρ : Rho}
theorem Inv.tabbed (O : c.Ok) {s : Shared} {ι : Iota} (I : Inv c s ι μ) {s' : Shared} {P : Addr} (hP : P ∈ c.X) (k : ∀ b o, b ≠ P → s.heap.get? b = some o → s'.heap.get? b = some o) (hT : c.T s'.heap) (hg : AllBare s'.gens) (ho : s'.os = s.os) (ht : 0 < s'.toks) : Inv c s' ι μ ∧ Step c s ι s' ι := by
  obtain ⟨vP, eP⟩ := O.tX _ hT P hP
  have S : Step c s ι s' ι := ⟨fun b o e _ hX => k b o (fun q => hX (q ▸ hP)) e, fun b o e => by
    by_cases q : b = P
    · rw [q]; exact ⟨_, eP⟩
    · exact ⟨o, k b o q e⟩, [], by simp, by simp⟩
  obtain ⟨vP0, eP0⟩ := O.tX _ I.tab P hP
  refine ⟨⟨fun b o e hX => k _ _ (fun q => hX (q ▸ hP)) (I.old b o e hX), I.new, I.len, I.nodup, fun i a m hi hm => ?_, hT, hg, ho.trans I.os, ht⟩, S⟩
  have x := I.mo i a m hi hm
  have na : a ≠ P := fun q => by
    obtain ⟨o, e, hc⟩ := x.cls
    rw [q, eP0] at e; cases e
    rcases hc with hc | hc <;> cases hc
  cases m with
  | lst ps => obtain ⟨vs, n, e, r⟩ := x; exact ⟨vs, n, k _ _ na e, I.repL O S r⟩
  | pil q its =>
    obtain ⟨d, vs, n, e, ⟨hsh, tk, tk', m', ed⟩, hn, r⟩ := x
    refine ⟨d, vs, n, k _ _ na e, ⟨hsh, tk, tk', m', k _ _ (fun q => ?_) ed⟩, hn, I.repL O S r⟩
    rw [q, eP0] at ed; cases ed
/-- what a generator's element is asked -/
def EltOk (c : Cx) (scope : Scope) (xa xb : Str) (elt : Expr) (B : Str × Str → Prop) (F : Str × Str → Value → Prop) : Prop :=
  ∀ (A' : Around) E' (cenv : Env) (x : Str × Str) t u (s₂ : Shared) m₂, A'.handled = none → B x → cenv.scope = scope → cenv.globals = mainGlobals → cenv.builtins = builtinsNs → s₂.heap.Ns cenv.locals m₂ → m₂ xa = some (.str x.1 t) → m₂ xb = some (.str x.2 u) →
    s₂.heap.Ns mainGlobals c.mg → s₂.heap.Ns builtinsNs c.mb → wpAny (model c.prog c.w) A' (eval elt cenv) (fun y s₃ => F x y ∧ Keeps s₂ s₃) E' s₂
theorem pairs_rep {h : Heap} {ι : Iota} : ∀ {its : List (Str × Str)} {vs : List Value}, RepL h ι (its.map pairPV) vs → ∀ (j : Nat) (x : Str × Str), its[j]? = some x → ∃ T t u, vs[j]? = some (Value.ref T) ∧ h.IsTuple T #[.str x.1 t, .str x.2 u]
  | [], vs, r, j, x, hj => by simp at hj
  | p :: ps, vs, r, j, x, hj => by
    simp only [List.map_cons, RepL] at r
    obtain ⟨v, r', rfl, h1, h2⟩ := r
    cases j with
    | zero =>
      simp at hj; subst hj
      simp only [pairPV, RepV, RepL] at h1
      obtain ⟨a, vs, n, rfl, e, v1, _, rfl, ⟨t, rfl⟩, v2, _, rfl, ⟨u, rfl⟩, rfl⟩ := h1
      exact ⟨a, t, u, rfl, ⟨_, e, rfl, n, rfl⟩⟩
    | succ j => simpa using pairs_rep h2 j x (by simpa using hj)
theorem gen_pil {s : Shared} {ι : Iota} {E Q : Value → Shared → Prop} {elt : Expr} {xa xb x0 : Str} {pa pb pt p0 pos : Pos} {kt : Nat} {scope : Scope} {cl : List (Str × Addr)} {cc Pt : Addr} {i : Nat} {k : Int} {its : List (Str × Str)} {B : Str × Str → Prop} {F : Str × Str → Value → Prop}
    (O : c.Ok) (P : PilK c K) (GT : GenTab c cc Pt) (BM : BinM c) (hcode : env.code = .ref cc) (ha : A.handled = none) (hroom : A.depth < recursionLimit) (I : Inv c s ι μ) (V : EnvOk c env ρ s ι) (hx : (x0, .loc i) ∈ ρ) (hi : μ[i]? = some (.pil k its)) (hb : its.length ≤ 1000000)
    (hco : scope.isCoroutine = false) (hclos : closureFor scope env = pure cl) (hcell : ∀ y ∈ scope.names, y.2 ≠ .cell) (h0 : scope.names.lookup (".0" : Str) = some NameKind.local)
    (hxa : scope.names.lookup xa = some .local) (hxb : scope.names.lookup xb = some .local) (hab : xa ≠ xb) (hkind : scope.kind = .function) (hd0 : (x0 == ("__debug__" : Str)) = false) (hf0 : ∀ x, genFold (.Name x0 p0) env x = pure x)
    (helt : EltOk c scope xa xb elt B F) (hB : ∀ x ∈ its, B x) (hB0 : B ("", ""))
    (hQ : ∀ g fp wr G St Pg s', WalksS c.prog c.w A.in4 g fp wr G its.length Pg St → (∀ j y, Pg j y → ∃ x, its[j]? = some x ∧ F x y) → St 0 s' → (∀ i s', St i s' → s'.TypeIs (.ref g) "generator") → g ∈ fp → (∀ b ∈ fp, b < s'.heap.objs.size) →
      (∀ b o, b ≠ Pt → s.heap.get? b = some o → s'.heap.get? b = some o) → c.T s'.heap → AllBare s'.gens → s'.os = s.os → s.toks ≤ s'.toks → (∀ b ∈ wr, c.hB.get? b = none ∧ s.heap.get? b = none) → Pt ∉ wr → (∀ a b, G a b → AllBare a → AllBare b) → Q (.ref g) s') :
    wpAny (model c.prog c.w) A (eval (.GeneratorExp elt [⟨.Tuple [.Name xa pa, .Name xb pb] kt pt, .Name x0 p0, [], 0⟩] scope pos) env) Q E s := by
  refine wpAny_with_toks (Nat.le_refl s.toks) ?_
  refine wpAny_GeneratorExp_walksQT ha hco hclos hcell h0 hxa hxb hab hkind hroom ?_ hf0
  refine wpAny_Name (name_run V hx fun v r => ?_) hd0
  obtain ⟨a, d, vs, n, od, rfl, hia, IA, hdi, hd, hdn, rl, hl⟩ := I.pil hi r
  refine pil_pyIter P I IA ?_
  have nl : s.heap.NoLimit := I.noLimit O
  have keep1 : ∀ b o, s.heap.get? b = some o → (s.heap.push { cls := .type "list_iterator", data := .fields #[.ref a, .int 0 0] }).get? b = some o := fun b o e => Heap.get?_push_of_some _ e
  refine ⟨nl.keeps keep1, ?_⟩
  obtain ⟨ps, hic, hta⟩ := GT.has _ I.tab
  have hJ := Heap.get?_push_size s.heap (o := { cls := .type "list_iterator", data := .fields #[.ref a, .int 0 0] }) rfl
  have fJ : s.heap.get? s.heap.objs.size = none := fresh_size _
  generalize hh1 : s.heap.push { cls := .type "list_iterator", data := .fields #[.ref a, .int 0 0] } = h1 at *
  generalize hJe : s.heap.objs.size = J at *
  -- the code of the generator
  suffices fin : ∀ code h' tk ps', Heap.ExtBut Pt h1 h' → h'.IsCode cc Pt ps' → h'.TableAt cc Pt ps' → h1.objs.size ≤ h'.objs.size →
      wpAny (model c.prog c.w) A (builtinsFor env.globals env.builtins) (fun bi s₄ =>
        ∃ I fp wr n₀ Pt St₀ Mid pz F, Value.ref J = .ref I ∧ (∀ A' : Around, A'.handled = none → WalksU c.prog c.w A' I fp wr n₀ Pt St₀ Mid) ∧ (∀ i vals, Pt i vals → ∃ va vb, vals = #[va, vb]) ∧ St₀ 0 s₄.heap ∧ (∀ b ∈ fp, b < s₄.heap.objs.size) ∧ s₄.heap.NoLimit ∧ cStatics ∉ wr ∧
          (∀ href : Heap, (∀ b o, s₄.heap.get? b = some o → href.get? b = some o) →
            QuietGenT c.prog c.w (genEnv scope cl s₄.heap.objs.size code bi env) xa xb [] elt (List.range s₄.heap.objs.size) wr Pt pz F href) ∧
          (∀ a h₅ tk gs, gs.bare = true → s₄.heap.objs.size < a → h₅.objs.size = a + 1 → (∀ b o, s₄.heap.get? b = some o → h₅.get? b = some o) →
            WalksS c.prog c.w A.in4 a (a :: s₄.heap.objs.size :: List.range s₄.heap.objs.size) (s₄.heap.objs.size :: wr) (GenOnlyQ s₄.gens.size) (passing pz n₀ 0).length
              (fun j y => ∃ i, (passing pz n₀ 0)[j]? = some i ∧ F i y) (GenAt c.prog c.w A.in4 a s₄.gens.size s₄.heap.objs.size (List.range s₄.heap.objs.size) wr pz n₀ F) →
            GenAt c.prog c.w A.in4 a s₄.gens.size s₄.heap.objs.size (List.range s₄.heap.objs.size) wr pz n₀ F 0 { s₄ with gens := s₄.gens.push gs, toks := tk, heap := h₅ } →
            s.toks ≤ tk → Q (.ref a) { s₄ with gens := s₄.gens.push gs, toks := tk, heap := h₅ })) (fun e s' => s.toks ≤ s'.toks → E e s') { s with heap := h', toks := tk } by
    cases hnf : codeAmong pos ps.toList with
    | none =>
      refine wpAny_genexprCodeX hcode (hic.keeps keep1) (hta.keeps keep1) hnf fun c' h' tk hx hge hlt hic' _ hta' _ => ?_
      exact fin _ h' tk _ hx hic' hta' (Nat.le_trans hge (Nat.le_of_lt hlt))
    | some c' =>
      refine wpAny_genexprCode_hit hcode (hic.keeps keep1) hnf ?_
      exact fin c' h1 s.toks ps (Heap.ExtBut.refl _ _) (hic.keeps keep1) (hta.keeps keep1) (Nat.le_refl _)
  intro code h' tk ps' hx' hic' hta' hsz
  -- what is still there
  have hPs : ∃ vP, s.heap.get? Pt = some { cls := .none, dict := none, data := .fields vP, slots := #[] } := O.tX _ I.tab Pt GT.mem
  have k0 : ∀ b o, b ≠ Pt → s.heap.get? b = some o → h'.get? b = some o := fun b o q e => hx' b o q (keep1 b o e)
  have JP : J ≠ Pt := fun q => by obtain ⟨vP, e⟩ := hPs; rw [← q, fJ] at e; cases e
  have old : ∀ b o, c.hB.get? b = some o → b ∉ c.X → h'.get? b = some o := fun b o e q => k0 b o (fun q' => q (q' ▸ GT.mem)) (I.old b o e q)
  have nsG : h'.Ns mainGlobals c.mg := by obtain ⟨o, es, ep, e, r⟩ := O.g; exact ⟨o, es, ep, old _ _ e O.sX.2.1, r⟩
  have nsB : h'.Ns builtinsNs c.mb := by obtain ⟨o, es, ep, e, r⟩ := O.b; exact ⟨o, es, ep, old _ _ e O.sX.2.2, r⟩
  have nl' : h'.NoLimit := (nl.keeps keep1).extBut hx' (fun q => O.sX.1 (q ▸ GT.mem))
  obtain ⟨bm, om, hm1, hm2, hm3, hm4, hm5, hm6, hm7⟩ := BM.at'
  refine wpAny_builtinsFor (m := c.mg) (by rw [V.glo]; exact nsG) hm1 hm2 (old _ _ hm3 hm4) hm5 hm6 hm7 ?_
  -- the pairs
  have pr : ∀ j : Nat, ∃ y : Addr × Array Value, (∃ t u, y.2 = #[Value.str (its.getD j ("", "")).1 t, Value.str (its.getD j ("", "")).2 u]) ∧ ∀ x : Str × Str, its[j]? = some x → vs[j]? = some (Value.ref y.1) ∧ s.heap.IsTuple y.1 y.2 ∧ True := fun j => by
    cases hj : its[j]? with
    | none => exact ⟨(0, #[.str "" 1, .str "" 1]), ⟨1, 1, by simp [List.getD, hj]⟩, fun x hx => by cases hx⟩
    | some x =>
      obtain ⟨T, t, u, h1, h2⟩ := pairs_rep rl j x hj
      exact ⟨(T, #[.str x.1 t, .str x.2 u]), ⟨t, u, by simp [List.getD, hj]⟩, fun x' hx' => by cases hx'; exact ⟨h1, h2, trivial⟩⟩
  obtain ⟨f, hf⟩ := Classical.skolem.mp pr
  have tupk : ∀ (j : Nat) (x : Str × Str), its[j]? = some x → h'.IsTuple (f j).1 (f j).2 ∧ (f j).1 ≠ J ∧ (f j).1 < h'.objs.size := fun j x hj => by
    obtain ⟨_, ⟨o, e, r⟩, _⟩ := (hf j).2 x hj
    have nP : (f j).1 ≠ Pt := fun q => by obtain ⟨vP, e'⟩ := hPs; rw [q, e'] at e; cases e; cases r.1
    have e' := k0 _ _ nP e
    exact ⟨⟨o, e', r⟩, (fun q => by rw [q, fJ] at e; cases e), Heap.lt_size e'⟩
  have hJ' : h'.get? J = some (itObj a 0) := hx' J _ JP hJ
  have aP : a ≠ Pt := fun q => by obtain ⟨vP, e⟩ := hPs; have := IA.at_; rw [q, e] at this; cases this
  have hA' : SeqAt h' a vs.toArray := ⟨_, n, k0 _ _ aP IA.at_, rfl⟩
  have aJ : a ≠ J := fun q => by have := IA.at_; rw [q, fJ] at this; cases this
  have hlen : vs.toArray.size = its.length := by simp [hl]
  have lt_its : ∀ j : Nat, j < vs.toArray.size → ∃ x, its[j]? = some x := fun j hj => by rw [hlen] at hj; exact ⟨its[j], by simp [hj]⟩
  refine ⟨J, _, [J], vs.toArray.size, _, _, _, fun _ => true, fun i y => F (its.getD i ("", "")) y, rfl, fun A' hA => seq_walks hA J a aJ vs.toArray (fun j => (f j).1) (fun j => (f j).2) (fun j hj => ?_) (fun j hj => ?_), ?_, ⟨hJ', hA', fun j hj => ?_⟩, ?_, nl', ?_, ?_, ?_⟩
  · obtain ⟨x, hx⟩ := lt_its j hj
    simpa using ((hf j).2 x hx).1
  · obtain ⟨x, hx⟩ := lt_its j hj
    exact (tupk j x hx).2.1
  · intro i vals hv
    subst hv
    obtain ⟨t, u, e⟩ := (hf i).1
    exact ⟨_, _, e⟩
  · obtain ⟨x, hx⟩ := lt_its j hj
    exact (tupk j x hx).1
  · intro b hb
    rcases List.mem_cons.mp hb with rfl | hb
    · exact Heap.lt_size hJ'
    · rcases List.mem_cons.mp hb with rfl | hb
      · exact Heap.lt_size (k0 _ _ aP IA.at_)
      · obtain ⟨j, hj, rfl⟩ := List.mem_map.mp hb
        obtain ⟨x, hx⟩ := lt_its j (List.mem_range.mp hj)
        exact (tupk j x hx).2.2
  · intro hm
    rw [List.mem_singleton] at hm
    obtain ⟨mc, ⟨o, es, ep, e, _⟩, _⟩ := nl
    rw [hm, fJ] at e; cases e
  · intro href hk
    constructor
    · intro A' E' i va vb s₂ m₂ _ _ _ _ _ _
      exact wpAny_tests_nil ⟨rfl, s₂.heap, s₂.toks, rfl, fun b o e => e⟩
    · intro A' E' i va vb s₂ m₂ hA' hv _ hns ma mb hkp
      obtain ⟨t, u, e⟩ := (hf i).1
      rw [e] at hv
      have hv' : [va, vb] = [Value.str (its.getD i ("", "")).1 t, Value.str (its.getD i ("", "")).2 u] := congrArg Array.toList hv
      cases hv'
      have kk : ∀ b o, b ≠ J → h'.get? b = some o → s₂.heap.get? b = some o := fun b o hb e => hkp b (List.mem_range.mpr (Heap.lt_size e)) (fun q => hb (List.mem_singleton.mp q)) o (hk b o e)
      have gJ : ∀ b m, h'.Ns b m → b ≠ J := fun b m hn q => by
        obtain ⟨o, es, ep, e, hd, _⟩ := hn
        rw [q, hJ'] at e; cases e; cases hd
      have up : ∀ b m, h'.Ns b m → s₂.heap.Ns b m := fun b m hn => by
        have := gJ b m hn
        obtain ⟨o, es, ep, e, r⟩ := hn
        exact ⟨o, es, ep, kk b o this e, r⟩
      exact helt A' E' _ (its.getD i ("", "")) t u s₂ m₂ hA' (by
        cases q : its[i]? with
        | none => simpa [List.getD, q] using hB0
        | some x => simpa [List.getD, q] using hB x (List.mem_of_getElem? q)) rfl V.glo rfl hns ma mb (up _ _ nsG) (up _ _ nsB)
  · intro g h₅ tk₅ gs hgb hag hsz₅ hk₅ W hat htk
    have hps : passing (fun _ => true) vs.toArray.size 0 = List.range its.length := by rw [hlen]; simp [passing]
    rw [hps, List.length_range] at W
    refine hQ g _ _ _ _ _ _ W (fun j y hy => ?_) hat (fun i s' st => st.1.typeIs) List.mem_cons_self (fun b hb => ?_) (fun b o q e => hk₅ b o (k0 b o q e)) ?_ (I.bare.push hgb) rfl htk (fun b hb => ?_) (fun hm => ?_) fun a b hG hb => hb.moved hG
    · obtain ⟨i, hi', hF⟩ := hy
      have hij : i = j ∧ j < its.length := by
        obtain ⟨hj, e⟩ := List.getElem?_eq_some_iff.mp hi'
        rw [List.length_range] at hj
        rw [List.getElem_range] at e
        exact ⟨e.symm, hj⟩
      obtain ⟨rfl, hj⟩ := hij
      refine ⟨its[i], by simp [hj], ?_⟩
      simpa [List.getD, hj] using hF
    · show b < h₅.objs.size
      rw [hsz₅]
      rcases List.mem_cons.mp hb with rfl | hb
      · exact Nat.lt_succ_self _
      · rcases List.mem_cons.mp hb with rfl | hb
        · exact Nat.lt_succ_of_lt hag
        · exact Nat.lt_succ_of_lt (Nat.lt_trans (List.mem_range.mp hb) hag)
    · exact GT.grow s.heap h₅ ps' I.tab (fun b o q e => hk₅ b o (k0 b o q e)) (hic'.keeps hk₅) (hta'.keeps hk₅)
    · have fC : s.heap.get? h'.objs.size = none := by
        cases q : s.heap.get? h'.objs.size with
        | none => rfl
        | some o =>
          by_cases hq : h'.objs.size = Pt
          · have := hic'.lt.2
            rw [← hq] at this
            exact absurd this (Nat.lt_irrefl _)
          · exact absurd (Heap.lt_size (k0 _ _ hq q)) (Nat.lt_irrefl _)
      rcases List.mem_cons.mp hb with rfl | hb
      · exact ⟨(I.fresh O fC).2.2, fC⟩
      · rw [List.mem_singleton.mp hb]
        exact ⟨(I.fresh O fJ).2.2, fJ⟩
    · rcases List.mem_cons.mp hm with hq | hm
      · have := hic'.lt.2
        rw [hq] at this
        exact absurd this (Nat.lt_irrefl _)
      · exact JP (List.mem_singleton.mp hm).symm
end
end Mine
namespace Mine
def shiftV (k : Int) (val : Nat → Int) : Nat → Int
  | 0 => k
  | j + 1 => val j
theorem args_sum2 (a b : Value) : argsOk "sum" ⟨[a, b], []⟩ := by unfold argsOk; kernel_rfl
section
variable {c : Cx} {A : Around} {μ : Mu} {K : Frag} {env : Env} {ρ : Rho}
/-- self._initial_size -/
theorem pil_ini {s : Shared} {ι : Iota} {E Q : Value → Shared → Prop} {x : Str} {xp pos : Pos} {i : Nat} {k : Int} {its : List (Str × Str)} (P : PilK c K) (I : Inv c s ι μ) (V : EnvOk c env ρ s ι) (hx : (x, .loc i) ∈ ρ) (hi : μ[i]? = some (.pil k its)) (hd : (x == ("__debug__" : Str)) = false)
    (hQ : ∀ t, Q (.int k t) { s with toks := s.toks + 1 }) : wpAny (model c.prog c.w) A (eval (.Attribute (.Name x xp) "_initial_size" pos) env) Q E s := by
  refine PyProof.Rows.Attribute_name ?_
  refine wpAny_Name (name_run V hx fun v r => ?_) hd
  obtain ⟨a, d, vs, n, od, rfl, hia, IA, hdi, hd, hdn, rl, hl⟩ := I.pil hi r
  obtain ⟨t, ht⟩ := hdi.own hd
  obtain ⟨oc', od', cd, sl', hlk, hmro, hdict, hqn, _⟩ := P.cls
  have hcd : clsIn K c.C = some cd := by unfold clsIn; rw [hlk]
  refine pil_get (P.here I) IA P.ga P.gat P.sub (findObj_own (by unfold hasDictIn; rw [hcd]; exact hdict) P.ini rfl ht) rfl (hQ t)
/-- the sum of a generator's numbers upon a start -/
theorem sum_start {s : Shared} {E Q : Value → Shared → Prop} {I : Addr} {fp wr : List Addr} {G : Array GenState → Array GenState → Prop} {n : Nat} {Pg : Nat → Value → Prop} {St : Nat → Shared → Prop} {k : Int} {t : Tok} {prog : Program} {w : World}
    (W : WalksS prog w A.in4 I fp wr G n Pg St) (hst : St 0 s) (hfp : ∀ b ∈ fp, b < s.heap.objs.size) (hk : -1000000000000 ≤ k ∧ k ≤ 1000000000000) (val : Nat → Int) (hval : ∀ j v, Pg j v → ∃ t, v = .int (val j) t)
    (hQ : ∀ s' t', Moved wr G s s' → Q (.int (preSum (shiftV k val) (n + 1)) t') s') : wpAny (model prog w) A (call (.builtin "sum") [.ref I, .int k t]) Q E s := by
  refine call_function_tree F.kind_sum F.plain_sum F.entry_sum (args_sum2 _ _) ?_
  unfold Builtin.«sum»
  simp only [List.length_cons, List.length_nil]
  rw [if_neg (by decide)]
  refine wpAny_bind (wpAny_of_eq (show Builtin.Builtins.bindParams "sum" ["start"] 0 ⟨[.int k t], []⟩ = pure [some (.int k t)] from rfl) ?_)
  refine wpAny_bind (W.in4_1.self 0 s _ _ hst ?_)
  have hfit : (decide (-(2 ^ 63) ≤ k) && decide (k < 2 ^ 63)) = true := by
    simp only [Bool.and_eq_true, decide_eq_true_eq]; omega
  dsimp only
  split
  case isFalse h => exact absurd hfit h
  refine wpAny_bind (wpAny_rule ?_)
  refine wpAny_bind (wpAny_mkInt ?_)
  refine wpAny_bind (wpAny_pure ?_)
  simp only [List.forIn_cons, List.forIn_nil]
  refine wpAny_bind (wpAny_bind (wpAny_bind (wpAny_isInstance (T := "int") (b := false) (typeIs_int _ _ _) PySem.sub_int_str ?_)))
  simp only [Bool.false_eq_true, if_false]
  refine wpAny_pure (wpAny_bind (wpAny_bind (wpAny_isInstance (T := "int") (b := false) (typeIs_int _ _ _) PySem.sub_int_bytes ?_)))
  simp only [Bool.false_eq_true, if_false]
  refine wpAny_pure (wpAny_bind (wpAny_bind (wpAny_isInstance (T := "int") (b := false) (typeIs_int _ _ _) PySem.sub_int_bytearray ?_)))
  simp only [Bool.false_eq_true, if_false]
  refine wpAny_pure (wpAny_pure ?_)
  refine wpAny_bind (wpAny_newObj_type ?_)
  have hSf : s.heap.objs.size ∉ fp := fun hm => Nat.lt_irrefl _ (hfp _ hm)
  refine wpAny_pure ⟨plainId_quiet F.plain_sum_loop _, codeAny_sum_loopAnyS (walks_shift W.in4_1) (shiftV k val) (fun j v hv => ?_) s.heap.objs.size hSf n 1 _ s.toks 0 0 (.inl rfl) rfl (Nat.le_add_left _ _)
    ?_ ?_ fun s' t' hm => ?_⟩
  · cases j with
    | zero => exact hv.elim
    | succ j => exact hval j v hv
  · exact W.frame 0 s _ _ hst (by first | exact Nat.le_refl _ | exact Nat.le_succ _ | omega) fun b _ o e => Heap.get?_push_of_some _ e
  · have : preSum (shiftV k val) 1 = k := by simp [preSum, shiftV]
    rw [this]
    exact Heap.get?_push_size _ rfl
  · exact hQ s' t' (hm.drop_new (by first | exact Nat.le_refl _ | exact Nat.le_succ _ | omega))
end
end Mine
namespace Mine
def small (x : Str × Str) : Prop := x.1.length ≤ 1000 ∧ x.2.length ≤ 1000
section
variable {c : Cx} {A : Around} {μ : Mu} {K : Frag} {env : Env} {ρ : Rho}
theorem elt_name {cenv : Env} {x : Str} {p : Pos} {v : Value} {s : Shared} {m : Str → Option Value} {A' : Around} {E Q : Value → Shared → Prop} (hk : cenv.scope.kind = .function) (hx : cenv.kindOf x = some .local) (hn : s.heap.Ns cenv.locals m) (hm : m x = some v) (hd : (x == ("__debug__" : Str)) = false) (h : Q v s) :
    wpAny (model c.prog c.w) A' (eval (.Name x p) cenv) Q E s := wpAny_Name (wpAny_loadName_local hk hx hn hm h) hd
/-- len(fws) + len(part) -/
theorem elt_len {scope : Scope} {xa xb : Str} {p1 p2 p3 p4 p5 p6 p7 : Pos} (hkind : scope.kind = .function) (hxa : scope.names.lookup xa = some .local) (hxb : scope.names.lookup xb = some .local) (hl : scope.names.lookup ("len" : Str) = some NameKind.globalImplicit)
    (hda : (xa == ("__debug__" : Str)) = false) (hdb : (xb == ("__debug__" : Str)) = false) (hg : c.mg "len" = none) (hb : c.mb "len" = some (.builtin "len")) :
    EltOk c scope xa xb (.BinOp (.Call (.Name "len" p1) [.Name xa p2] [] p3) .Add (.Call (.Name "len" p4) [.Name xb p5] [] p6) p7) small fun x y => ∃ t, y = .int (x.1.length + x.2.length) t := by
  intro A' E' cenv x t u s₂ m₂ hA hB hsc hgl hbl hns ma mb nG nB
  have hk : cenv.scope.kind = .function := by rw [hsc]; exact hkind
  have kof : ∀ y, cenv.kindOf y = scope.names.lookup y := fun y => by show cenv.scope.names.lookup y = _; rw [hsc]
  have one : ∀ {s : Shared} {y : Str} {v : Str} {tv : Tok} {q1 q2 q3 : Pos} {Q : Value → Shared → Prop} {m : Str → Option Value}, s.heap.Ns cenv.locals m → m y = some (.str v tv) → s.heap.Ns mainGlobals c.mg → s.heap.Ns builtinsNs c.mb → scope.names.lookup y = some .local → (y == ("__debug__" : Str)) = false → v.length ≤ 1000 →
      Q (.int v.length (s.toks + 1)) { s with toks := s.toks + 1 + 1 } → wpAny (model c.prog c.w) A' (eval (.Call (.Name "len" q1) [.Name y q2] [] q3) cenv) Q E' s := by
    intro s y v tv q1 q2 q3 Q m hn hm hG hB' hy hdy hv hQ
    refine PyProof.Rows.Call_ (Calls.Name_function_global hk (by rw [kof]; exact hl) (Calls.loadGlobal_builtin (mg := c.mg) (mb := c.mb) (by rw [hgl]; exact hG) hg (by rw [hbl]; exact hB') hb ?_) (by decide)) (by with_unfolding_all rfl)
    refine Calls.callWith_builtin (starEach_plain (es := [.Name y q2]) rfl q3) ?_
    have h' := fun (Q' : Args → Shared → Prop) (h : Q' ⟨[.str v tv], []⟩ s) => (elt_name (c := c) (A' := A') (p := q2) (E := E') (Q := fun a s' => wpAny (model c.prog c.w) A' (spliced (backTo q3 (starEach [] cenv))) (fun vs s'' => Q' ⟨a :: vs, []⟩ s'') E' s') hk (by rw [kof]; exact hy) hn hm hdy (Calls.spliced_nil h))
    rw [starEach_cons (es := []) rfl]
    refine Calls.evalArgs_plain ?_
    refine Calls.spliced_cons ?_
    refine elt_name hk (by rw [kof]; exact hy) hn hm hdy ?_
    refine Calls.spliced_nil ?_
    exact PySem.P.len_str (by omega) hQ
  refine wpAny_BinOp (one hns ma nG nB hxa hda hB.1 ?_)
  refine one (m := m₂) hns mb nG nB hxb hdb hB.2 ?_
  exact wpAny_add_int ⟨⟨_, rfl⟩, _, _, rfl, fun b o e => e⟩
/-- EMPTYSTRING.join((fws, part)) -/
theorem elt_join {scope : Scope} {xa xb : Str} {te : Tok} {p1 p2 p3 p4 p5 p6 : Pos} {kt : Nat} (hkind : scope.kind = .function) (hxa : scope.names.lookup xa = some .local) (hxb : scope.names.lookup xb = some .local) (hl : scope.names.lookup ("EMPTYSTRING" : Str) = some NameKind.globalImplicit)
    (hda : (xa == ("__debug__" : Str)) = false) (hdb : (xb == ("__debug__" : Str)) = false) (hc : ∀ cenv : Env, cenv.scope = scope → callsMethod (.Name "EMPTYSTRING" p1) "join" p2 [.Tuple [.Name xa p3, .Name xb p4] kt p5] p6 cenv) (hg : c.mg "EMPTYSTRING" = some (.str "" te)) :
    EltOk c scope xa xb (.Call (.Attribute (.Name "EMPTYSTRING" p1) "join" p2) [.Tuple [.Name xa p3, .Name xb p4] kt p5] [] p6) small fun x y => ∃ t, y = .str (Txt.join "" [x.1, x.2]) t := by
  intro A' E' cenv x t u s₂ m₂ hA hB hsc hgl hbl hns ma mb nG nB
  have hk : cenv.scope.kind = .function := by rw [hsc]; exact hkind
  have kof : ∀ y, cenv.kindOf y = scope.names.lookup y := fun y => by show cenv.scope.names.lookup y = _; rw [hsc]
  obtain ⟨pl, hc⟩ := hc cenv hsc
  refine PyProof.Rows.MethodCall_ ?_ hc
  refine Calls.Name_function_global hk (by rw [kof]; exact hl) (Calls.loadGlobal_global (mg := c.mg) (by rw [hgl]; exact nG) hg ?_) (by decide)
  refine getMethod_builtin (typeIs_str _ _ _) F.plainAttrs_str F.slot_str_join F.type_str_join (fun _ e => nomatch e) ?_
  refine Calls.callWith_builtin (first := [.str "" te]) (starEach_plain (es := [.Tuple [.Name xa p3, .Name xb p4] kt p5]) rfl p6) ?_
  rw [starEach_cons (es := []) rfl]
  refine Calls.evalArgs_plain ?_
  refine Calls.spliced_cons ?_
  refine wpAny_Tuple_spliced (x1 := kt) ?_
  rw [starEach_cons (es := [.Name xb p4]) rfl, starEach_cons (es := []) rfl]
  refine Calls.spliced_cons (elt_name hk (by rw [kof]; exact hxa) hns ma hda ?_)
  refine Calls.spliced_cons (elt_name hk (by rw [kof]; exact hxb) hns mb hdb (Calls.spliced_nil ⟨by rw [sizeLine_eq]; simp, ?_⟩))
  refine Calls.spliced_nil ?_
  refine join_tuple (items := #[.str x.1 t, .str x.2 u]) (ys := [x.1, x.2]) ⟨_, Heap.get?_push_size _ rfl, rfl, _, rfl⟩ ?_ ?_ fun t' k => ?_
  · exact StrsAre.cons _ _ (StrsAre.cons _ _ .nil)
  · have := hB.1; have := hB.2
    simp only [List.map_cons, List.map_nil, List.sum_cons, List.sum_nil, List.length_cons, List.length_nil]
    have : ("" : Str).length = 0 := rfl
    omega
  · exact ⟨⟨_, rfl⟩, _, _, rfl, fun b o e => Heap.get?_push_of_some _ e⟩
end
end Mine
namespace Mine
section
variable {c : Cx} {A : Around} {μ : Mu} {K : Frag} {env : Env} {ρ : Rho}
/-- the generator's frame, as its scope says -/
structure GenScope (scope : Scope) (env : Env) (cl : List (Str × Addr)) (xa xb : Str) : Prop where
  hco : scope.isCoroutine = false
  hclos : closureFor scope env = pure cl
  hcell : ∀ y ∈ scope.names, y.2 ≠ .cell
  h0 : scope.names.lookup (".0" : Str) = some NameKind.local
  hxa : scope.names.lookup xa = some .local
  hxb : scope.names.lookup xb = some .local
  hab : xa ≠ xb
  hkind : scope.kind = .function
def pilLen (its : List (Str × Str)) : Int := (its.map fun x => ((x.1.length : Int) + x.2.length)).sum
theorem preSum_pil (its : List (Str × Str)) (k : Int) : ∀ n, n ≤ its.length → preSum (shiftV k fun j => ((its.getD j ("", "")).1.length : Int) + (its.getD j ("", "")).2.length) (n + 1) = k + pilLen (its.take n)
  | 0, _ => by simp [preSum, pilLen, shiftV]
  | n + 1, h => by
    have h2 : its[n]? = some its[n] := List.getElem?_eq_getElem (by omega)
    have h1 : its.take (n + 1) = its.take n ++ [its[n]] := by rw [List.take_add_one, h2]; rfl
    rw [preSum, preSum_pil its k n (by omega), h1]
    simp only [shiftV, pilLen, List.map_append, List.sum_append, List.map_cons, List.map_nil, List.sum_cons, List.sum_nil, List.getD, h2, Option.getD_some]
    omega
/-- sum((len(fws) + len(part) for fws, part in self), self._initial_size) -/
theorem WE.pilsum {xa xb x0 : Str} {p1 p2 p3 p4 p5 p6 p7 pa pb pt p0 gpos ap aq sp pos : Pos} {kt : Nat} {scope : Scope} {cl : List (Str × Addr)} {cc Pt : Addr} {i : Nat} {k : Int} {its : List (Str × Str)} {K' : PV → Mu → Prop}
    (O : c.Ok) (P : PilK c K) (GT : GenTab c cc Pt) (BM : BinM c) (hcode : env.code = .ref cc) (ha : A.handled = .none) (hroom : A.depth < recursionLimit) (hx : (x0, .loc i) ∈ ρ) (hi : μ[i]? = some (.pil k its)) (hb : its.length ≤ 1000) (hk : -1000000 ≤ k ∧ k ≤ 1000000) (hsm : ∀ x ∈ its, small x)
    (GS : GenScope scope env cl xa xb) (hd0 : (x0 == ("__debug__" : Str)) = false) (hf0 : ∀ x, genFold (.Name x0 p0) env x = pure x)
    (hl : scope.names.lookup ("len" : Str) = some NameKind.globalImplicit) (hda : (xa == ("__debug__" : Str)) = false) (hdb : (xb == ("__debug__" : Str)) = false) (hg : c.mg "len" = .none) (hbl : c.mb "len" = some (.builtin "len"))
    (hks : env.kindOf "sum" = some .globalImplicit) (hgs : c.mg "sum" = .none) (hbs : c.mb "sum" = some (.builtin "sum"))
    (hc : callsPlain (.Name "sum" sp) [.GeneratorExp (.BinOp (.Call (.Name "len" p1) [.Name xa p2] [] p3) .Add (.Call (.Name "len" p4) [.Name xb p5] [] p6) p7) [⟨.Tuple [.Name xa pa, .Name xb pb] kt pt, .Name x0 p0, [], 0⟩] scope gpos, .Attribute (.Name x0 ap) "_initial_size" aq] pos env)
    (hK : K' (.int (k + pilLen its)) μ) :
    WE c A (.Call (.Name "sum" sp) [.GeneratorExp (.BinOp (.Call (.Name "len" p1) [.Name xa p2] [] p3) .Add (.Call (.Name "len" p4) [.Name xb p5] [] p6) p7) [⟨.Tuple [.Name xa pa, .Name xb pb] kt pt, .Name x0 p0, [], 0⟩] scope gpos, .Attribute (.Name x0 ap) "_initial_size" aq] [] pos) env ρ μ K' := ⟨fun s ι E Q I V hQ => by
  refine PyProof.Rows.Call_ (buil_ld O I V hks hgs hbs (by decide) ?_) hc
  refine Calls.callWith_builtin (starEach_plain rfl pos) ?_
  rw [starEach_cons rfl, starEach_cons rfl]
  refine Calls.evalArgs_plain ?_
  refine Calls.spliced_cons (gen_pil (s := s) (ι := ι) O P GT BM hcode ha hroom I V hx hi (by omega) GS.hco GS.hclos GS.hcell GS.h0 GS.hxa GS.hxb GS.hab GS.hkind hd0 hf0
    (elt_len GS.hkind GS.hxa GS.hxb hl hda hdb hg hbl) hsm ⟨by decide, by decide⟩ fun g fp wr G St Pg s₁ W hPg hst hT hgf hfp k₁ hT₁ hb₁ ho₁ ht₁ hwr hPw hG => ?_)
  have g₁ := I.tabbed O GT.mem k₁ hT₁ hb₁ ho₁ (Nat.lt_of_lt_of_le I.tp ht₁)
  refine Calls.spliced_cons (pil_ini P g₁.1 (V.step O I g₁.2) hx hi hd0 fun t => ?_)
  refine Calls.spliced_nil ?_
  have hst' : St 0 { s₁ with toks := s₁.toks + 1 } := W.frame 0 s₁ s₁.heap (s₁.toks + 1) hst (Nat.le_succ _) fun b _ o e => e
  refine sum_start W hst' hfp (by omega) (fun j => ((its.getD j ("", "")).1.length : Int) + (its.getD j ("", "")).2.length) (fun j v hv => ?_) fun s₂ t' hm => ?_
  · obtain ⟨x, hx, t, rfl⟩ := hPg j v hv
    exact ⟨t, by simp [List.getD, hx]⟩
  · rw [preSum_pil its k _ (Nat.le_refl _), List.take_length]
    have keep : ∀ b o, b ≠ Pt → s.heap.get? b = some o → s₂.heap.get? b = some o := fun b o q e => hm.heap b o (fun hw => by rw [(hwr b hw).2] at e; cases e) (k₁ b o q e)
    have g₂ := I.tabbed O (s' := s₂) GT.mem keep ?_ (hG _ _ hm.gens hb₁) (hm.os.trans ho₁) (Nat.lt_of_lt_of_le (Nat.lt_of_lt_of_le I.tp ht₁) (Nat.le_trans (Nat.le_succ _) hm.toks))
    · exact hQ _ s₂ ι (.int _) μ g₂.2 g₂.1 (by simp only [RepV]; exact ⟨_, rfl⟩) hK
    · obtain ⟨ps, hc1, hc2⟩ := GT.has _ hT₁
      have ncc : cc ∉ wr := fun hw => by
        obtain ⟨_, ⟨o, vs, file, tf, flags, tg, inF, text, tt, op, a, _⟩, _⟩ := GT.has _ I.tab
        rw [(hwr cc hw).2] at a; cases a
      obtain ⟨o, vs, file, tf, flags, tg, inF, text, tt, op, a, r1, r2, r3, r4, r5, r6, b, r⟩ := hc1
      obtain ⟨⟨o', vs', e', r'⟩, t⟩ := hc2
      exact GT.grow s.heap s₂.heap ps I.tab (fun b o q e => keep b o q e) ⟨o, vs, file, tf, flags, tg, inF, text, tt, op, hm.heap _ _ ncc a, r1, r2, r3, r4, r5, r6, hm.heap _ _ hPw b, r⟩ ⟨⟨o', vs', hm.heap _ _ ncc e', r'⟩, hm.heap _ _ hPw t⟩⟩
end
end Mine
namespace Mine
def pilTxt (its : List (Str × Str)) : Str := Txt.join "" (its.map fun x => Txt.join "" [x.1, x.2])
theorem join2_len (x : Str × Str) (h : small x) : (Txt.join "" [x.1, x.2]).length ≤ 2000 := by
  have h1 := StrLaws.join_length_le "" [x.1, x.2]
  have e : Txt.join "" [x.1, x.2] = Str.join "" [x.1, x.2] := by unfold Txt.join; rw [StrLaws.glued_eq_join]
  rw [e]
  have := h.1; have := h.2
  simp only [List.map_cons, List.map_nil, List.sum_cons, List.sum_nil, List.length_cons, List.length_nil] at h1
  have : ("" : Str).length = 0 := rfl
  omega
theorem sum_le : ∀ (l : List Nat) (m : Nat), (∀ x ∈ l, x ≤ m) → l.sum ≤ l.length * m
  | [], m, _ => by simp
  | x :: r, m, h => by
    have h1 := h x List.mem_cons_self
    have h2 := sum_le r m fun y hy => h y (List.mem_cons_of_mem _ hy)
    rw [List.sum_cons, List.length_cons, Nat.succ_mul]; omega
section
variable {c : Cx} {A : Around} {μ : Mu} {K : Frag} {env : Env} {ρ : Rho}
theorem WE.piljoin {xa xb x0 : Str} {te : Tok} {p1 p2 p3 p4 p5 p6 pa pb pt p0 gpos jn jp pos : Pos} {kt kt' : Nat} {scope : Scope} {cl : List (Str × Addr)} {cc Pt : Addr} {i : Nat} {k : Int} {its : List (Str × Str)} {K' : PV → Mu → Prop}
    (O : c.Ok) (P : PilK c K) (GT : GenTab c cc Pt) (BM : BinM c) (hcode : env.code = .ref cc) (ha : A.handled = .none) (hroom : A.depth < recursionLimit) (hx : (x0, .loc i) ∈ ρ) (hi : μ[i]? = some (.pil k its)) (hb : its.length ≤ 1000) (hsm : ∀ x ∈ its, small x)
    (GS : GenScope scope env cl xa xb) (hd0 : (x0 == ("__debug__" : Str)) = false) (hf0 : ∀ x, genFold (.Name x0 p0) env x = pure x)
    (hl : scope.names.lookup ("EMPTYSTRING" : Str) = some NameKind.globalImplicit) (hda : (xa == ("__debug__" : Str)) = false) (hdb : (xb == ("__debug__" : Str)) = false) (hg : c.mg "EMPTYSTRING" = some (.str "" te)) (hks : env.kindOf "EMPTYSTRING" = some .globalImplicit)
    (hc1 : ∀ cenv : Env, cenv.scope = scope → callsMethod (.Name "EMPTYSTRING" p1) "join" p2 [.Tuple [.Name xa p3, .Name xb p4] kt p5] p6 cenv)
    (hc : callsMethod (.Name "EMPTYSTRING" jn) "join" jp [.GeneratorExp (.Call (.Attribute (.Name "EMPTYSTRING" p1) "join" p2) [.Tuple [.Name xa p3, .Name xb p4] kt p5] [] p6) [⟨.Tuple [.Name xa pa, .Name xb pb] kt' pt, .Name x0 p0, [], 0⟩] scope gpos] pos env)
    (hK : K' (.str (pilTxt its)) μ) :
    WE c A (.Call (.Attribute (.Name "EMPTYSTRING" jn) "join" jp) [.GeneratorExp (.Call (.Attribute (.Name "EMPTYSTRING" p1) "join" p2) [.Tuple [.Name xa p3, .Name xb p4] kt p5] [] p6) [⟨.Tuple [.Name xa pa, .Name xb pb] kt' pt, .Name x0 p0, [], 0⟩] scope gpos] [] pos) env ρ μ K' := ⟨fun s ι E Q I V hQ => by
  obtain ⟨pl, hc⟩ := hc
  refine PyProof.Rows.MethodCall_ (glob_ld O I V hks hg (by decide) ?_) hc
  refine getMethod_builtin (typeIs_str _ _ _) F.plainAttrs_str F.slot_str_join F.type_str_join (fun _ e => nomatch e) ?_
  refine Calls.callWith_builtin (first := [.str "" te]) (starEach_plain rfl pos) ?_
  rw [starEach_cons rfl]
  refine Calls.evalArgs_plain ?_
  refine Calls.spliced_cons (gen_pil (s := s) (ι := ι) O P GT BM hcode ha hroom I V hx hi (by omega) GS.hco GS.hclos GS.hcell GS.h0 GS.hxa GS.hxb GS.hab GS.hkind hd0 hf0
    (elt_join GS.hkind GS.hxa GS.hxb hl hda hdb hc1 hg) hsm ⟨by decide, by decide⟩ fun g fp wr G St Pg s₁ W hPg hst hT hgf hfp k₁ hT₁ hb₁ ho₁ ht₁ hwr hPw hG => ?_)
  have g₁ := I.tabbed O GT.mem k₁ hT₁ hb₁ ho₁ (Nat.lt_of_lt_of_le I.tp ht₁)
  refine Calls.spliced_nil ?_
  refine wpAny_with_toks (Nat.le_refl s₁.toks) ?_
  refine SC.joinGen W.in4_2 hT hst hfp hgf (fun j v hv => ?_) (fun s₂ l hm hit => ?_) (by rw [sizeLine_eq]; omega)
  · obtain ⟨x, hx, t, rfl⟩ := hPg j v hv
    exact ⟨_, t, rfl⟩
  · have hl' : l.map (·.1) = its.map fun x => Txt.join "" [x.1, x.2] := by
      apply List.ext_getElem?
      intro j
      have hz : l.length = its.length := by have := hit.1; simpa [strValues] using this
      by_cases hj : j < its.length
      · have hjl : j < l.length := by omega
        have := hit.2 j (.str l[j].1 l[j].2) (by simp [strValues, hjl])
        obtain ⟨x, hx, t, e⟩ := hPg j _ this
        injection e with e1 e2
        simp [hjl, hx, e1]
      · have h1 : (l.map (·.1))[j]? = .none := by simp; omega
        have h2 : (its.map fun x => Txt.join "" [x.1, x.2])[j]? = .none := by simp; omega
        rw [h1, h2]
    have keep : ∀ b o, b ≠ Pt → s.heap.get? b = some o → s₂.heap.get? b = some o := fun b o q e => hm.heap b o (fun hw => by rw [(hwr b hw).2] at e; cases e) (k₁ b o q e)
    have T₂ : c.T s₂.heap := by
      obtain ⟨ps, hc1, hc2⟩ := GT.has _ hT₁
      have ncc : cc ∉ wr := fun hw => by
        obtain ⟨_, ⟨o, vs, file, tf, flags, tg, inF, text, tt, op, a, _⟩, _⟩ := GT.has _ I.tab
        rw [(hwr cc hw).2] at a; cases a
      obtain ⟨o, vs, file, tf, flags, tg, inF, text, tt, op, a, r1, r2, r3, r4, r5, r6, b, r⟩ := hc1
      obtain ⟨⟨o', vs', e', r'⟩, t⟩ := hc2
      exact GT.grow s.heap s₂.heap ps I.tab (fun b o q e => keep b o q e) ⟨o, vs, file, tf, flags, tg, inF, text, tt, op, hm.heap _ _ ncc a, r1, r2, r3, r4, r5, r6, hm.heap _ _ hPw b, r⟩ ⟨⟨o', vs', hm.heap _ _ ncc e', r'⟩, hm.heap _ _ hPw t⟩
    refine ⟨?_, fun t' kk htk => ?_⟩
    · refine joinOk_of ?_
      rw [hl', List.map_map]
      have := sum_le ((its.map ((fun x => x.length) ∘ fun x => Txt.join "" [x.1, x.2]))) 2000 (fun y hy => by
        obtain ⟨x, hx, rfl⟩ := List.mem_map.mp hy
        exact join2_len x (hsm x hx))
      simp only [List.length_map] at this ⊢
      have h0 : ("" : Str).length = 0 := rfl
      rw [h0]
      omega
    · have g₂ := I.tabbed O (s' := { s₂ with toks := kk }) GT.mem keep T₂ (hG _ _ hm.gens hb₁) (hm.os.trans ho₁) (Nat.lt_of_lt_of_le (Nat.lt_of_lt_of_le I.tp ht₁) htk)
      rw [hl']
      exact hQ _ _ ι (.str _) μ g₂.2 g₂.1 (by simp only [RepV]; exact ⟨_, rfl⟩) hK⟩
end
end Mine
namespace Mine
section
variable {c : Cx} {A : Around} {μ : Mu} {K : Frag}
/-- len(pile): its own __len__ -/
theorem WC.len_pil {i : Nat} {k : Int} {its : List (Str × Str)} {f : Addr} {K' : PV → Mu → Prop} (O : c.Ok) (P : PilK c K) (hs : findIn K (.ref c.C) "__len__" = some (some (.ref f))) (hf : typeIn K (.ref f) = some (.type "function")) (hi : μ[i]? = some (.pil k its))
    (h : WC c A.in1 (.ref f) [.loc i] μ fun p μ' => ∃ n : Int, p = .int n ∧ 0 ≤ n ∧ n ≤ 1000000000 ∧ K' (.int n) μ') : WC c A (.builtin "len") [.loc i] μ K' := WC.of1 fun s ι E Q v I r hQ => by
  obtain ⟨a, d, vs, n, od, rfl, hia, IA, hdi, hd, hdn, rl, hl⟩ := I.pil hi r
  refine Calls.call_function_entry kind_len plain_len entry_len (args_len1 _) ?_
  unfold Builtin.«len»
  refine wpAny_bind (m := oneArg "len" _) (wpAny_pure ?_)
  refine wpAny_bind (m := callSpecial? (.ref a) (Str.ofString "__len__")) (special_fn (P.here I) IA hs hf ?_)
  refine h.run s ι E _ [.ref a] I (by simp only [RepL]; exact ⟨_, _, rfl, r, rfl⟩) fun v s₁ ι₁ p μ₁ S₁ I₁ r₁ k₁ => ?_
  obtain ⟨n, rfl, h0, h1, k₁⟩ := k₁
  simp only [RepV] at r₁
  obtain ⟨t, rfl⟩ := r₁
  refine wpAny_bind (wpAny_holding (wpAny_pure ?_))
  refine wpAny_bind (wpAny_letGo ?_)
  show wpAny _ _ (if n < 0 then _ else _) _ _ _
  rw [if_neg (by omega)]
  show wpAny _ _ (if n ≥ 2 ^ 63 then _ else _) _ _ _
  rw [if_neg (by omega)]
  have g := toks_inv O I₁ (s₁.toks + 1)
  exact wpAny_bind (wpAny_mkInt (wpAny_pure ⟨_, rfl, hQ _ _ ι₁ (.int n) μ₁ (S₁.trans g.2) g.1 (by simp only [RepV]; exact ⟨_, rfl⟩) k₁⟩))
/-- str(pile): its own __str__ -/
theorem WC.str_pil {i : Nat} {k : Int} {its : List (Str × Str)} {f : Addr} {K' : PV → Mu → Prop} (O : c.Ok) (ao : AOk 1 A) (P : PilK c K) (hs : findIn K (.ref c.C) "__str__" = some (some (.ref f))) (hf : isFn K (.ref f) = true) (hi : μ[i]? = some (.pil k its))
    (h : WC c A.in1.in1 (.ref f) [.loc i] μ fun p μ' => ∃ x, p = .str x ∧ K' (.str x) μ') : WC c A (.type "str") [.loc i] μ K' := WC.of1 fun s ι E Q v I r hQ => by
  obtain ⟨a, d, vs, n, od, rfl, hia, IA, hdi, hd, hdn, rl, hl⟩ := I.pil hi r
  refine kso_call (by have := ao.u; show A.units + 1 + 1 < 9900; omega) (P.here I) IA hs hf ?_
  refine h.run s ι E _ [.ref a] I (by simp only [RepL]; exact ⟨_, _, rfl, r, rfl⟩) fun v s₁ ι₁ p μ₁ S₁ I₁ r₁ k₁ => ?_
  obtain ⟨x, rfl, k₁⟩ := k₁
  have r₂ := r₁
  simp only [RepV] at r₁
  obtain ⟨t, rfl⟩ := r₁
  exact hQ _ s₁ ι₁ (.str x) μ₁ S₁ I₁ r₂ k₁
end
end Mine
namespace Mine
section
variable {c : Cx} {A : Around} {env : Env} {ρ : Rho} {μ : Mu}
/-- isinstance(e, float) of a float -/
theorem WE.isflt {e : Expr} {p q pos : Pos} {K : PV → Mu → Prop} (O : c.Ok) (h : WE c A e env ρ μ fun p μ₁ => (∃ x, p = .flt x) ∧ K (.bool true) μ₁)
    (gi : c.mg "isinstance" = .none) (bi : c.mb "isinstance" = some (.builtin "isinstance")) (gf : c.mg "float" = .none) (bf : c.mb "float" = some (.type "float")) (ki : env.kindOf "isinstance" = some .globalImplicit) (kf : env.kindOf "float" = some .globalImplicit)
    (hs : notStar e = true) (hc : callsPlain (.Name "isinstance" p) [e, .Name "float" q] pos env) : WE c A (.Call (.Name "isinstance" p) [e, .Name "float" q] [] pos) env ρ μ K := ⟨fun s ι E Q I V hQ => by
  refine PyProof.Rows.Call_ (buil_ld O I V ki gi bi (by decide) ?_) hc
  refine Calls.callWith_builtin (starEach_plain (by rw [List.all_cons, hs]; rfl) pos) ?_
  rw [starEach_cons hs, starEach_cons rfl]
  refine Calls.evalArgs_plain ?_
  refine Calls.spliced_cons (h.run s ι E _ I V fun v s₁ ι₁ x μ₁ S₁ I₁ r₁ k₁ => ?_)
  obtain ⟨⟨x, rfl⟩, k₁⟩ := k₁
  simp only [RepV] at r₁
  obtain ⟨t, rfl, _⟩ := r₁
  refine Calls.spliced_cons (buil_ld O I₁ (V.step O I S₁) kf gf bf (by decide) ?_)
  refine Calls.spliced_nil ?_
  exact call_isinstance (isinstance_true (Tx := "float") F.isi_meta_float F.sub_float_float) ⟨rfl, hQ _ s₁ ι₁ (.bool true) μ₁ S₁ I₁ (by simp only [RepV]) k₁⟩⟩
end
end Mine
namespace Mine
section
variable {c : Cx} {A : Around} {μ : Mu} {x y : Int} {K : PV → Mu → Prop}
theorem WV.mod_nat {a b : Nat} (O : c.Ok) (ha : x = (a : Int)) (hb : y = (b : Int)) (h0 : 0 < b) (k : K (.int ((a % b : Nat) : Int)) μ) : WV c A (f2 (binaryOp .Mod)) [.int x, .int y] μ K := by
  subst ha hb
  refine WV.mod_int O (by omega) ?_
  rw [Int.fmod_eq_emod_of_nonneg _ (by omega)]
  exact k
theorem WV.div_nat {a b : Nat} (O : c.Ok) (ha : x = (a : Int)) (hb : y = (b : Int)) (h0 : 0 < b ∧ b < 2 ^ 64) (k : K (.int ((a / b : Nat) : Int)) μ) : WV c A (f2 (binaryOp .FloorDiv)) [.int x, .int y] μ K := by
  subst ha hb
  refine WV.div_int O ⟨by omega, by simpa using h0.2⟩ ?_
  rw [Int.fdiv_eq_ediv_of_nonneg _ (by omega)]
  exact k
theorem WV.add_nat {a b : Nat} (O : c.Ok) (ha : x = (a : Int)) (hb : y = (b : Int)) (k : K (.int ((a + b : Nat) : Int)) μ) : WV c A (f2 (binaryOp .Add)) [.int x, .int y] μ K := by
  subst ha hb
  exact WV.add_int O k
theorem WV.mul_nat {a b : Nat} (O : c.Ok) (ha : x = (a : Int)) (hb : y = (b : Int)) (h0 : a < 2 ^ 64) (k : K (.int ((a * b : Nat) : Int)) μ) : WV c A (f2 (binaryOp .Mult)) [.int x, .int y] μ K := by
  subst ha hb
  exact WV.mul_int O ⟨by omega, by omega⟩ (by rw [Int.natCast_mul] at k; exact k)
theorem WV.pow_nat {a b : Nat} (O : c.Ok) (ha : x = (a : Int)) (hb : y = (b : Int)) (h0 : a < 2 ^ 64 ∧ b ≤ 1000000) (k : K (.int ((a ^ b : Nat) : Int)) μ) : WV c A (f2 (binaryOp .Pow)) [.int x, .int y] μ K := by
  subst ha hb
  refine WV.pow_int O ⟨by omega, by omega, by simpa using h0.1⟩ ?_
  rw [Int.toNat_natCast]
  rw [Int.natCast_pow] at k
  exact k
theorem WV.lt_nat {a b : Nat} (ha : x = (a : Int)) (hb : y = (b : Int)) (k : K (.bool (decide (a < b))) μ) : WV c A (f2 (compareOp .Lt)) [.int x, .int y] μ K := by
  subst ha hb
  refine WV.lt_int ?_
  have : decide ((a : Int) < b) = decide (a < b) := by simp
  rw [this]; exact k
theorem WV.tdiv_nat {a b : Nat} (O : c.Ok) (hh : A.handled = none) (ha : x = (a : Int)) (hb : y = (b : Int)) (h0 : a < 2 ^ 1023 ∧ 0 < b) (k : K (.flt (fdiv (a : Int) (b : Int))) μ) : WV c A (f2 (binaryOp .Div)) [.int x, .int y] μ K := by
  subst ha hb
  exact WV.tdiv_int O hh ⟨by simpa using h0.1, by omega⟩ k
end
end Mine
namespace Mine
theorem allLoc {l : List (Str × NameKind)} (h : (l.all fun x => !(x.2 == .local) || (l.lookup x.1 == some .local)) = true) : ∀ x ∈ l, x.2 = .local → l.lookup x.1 = some .local := fun x hx q => by
  have := List.all_eq_true.mp h x hx
  rw [q] at this
  simpa using this
/-- a comprehension that names nothing of its frame -/
theorem CompOk.plain {scope : Scope} {env : Env} {ρ : Rho} (h1 : closureFor scope env = pure []) (h2 : scope.kind = .function) (h3 : (scope.names.all fun x => !(x.2 == .local) || (scope.names.lookup x.1 == some .local)) = true) (h4 : ∀ x ∈ scope.names, x.2 ≠ .cell)
    (h5 : ∀ C, (compEnvC scope [] C env).kindOf ("_initial_size" : Str) = none) : CompOk scope env [] ρ [] :=
  ⟨h1, h2, allLoc h3, h4, h5, (fun x cc h => by cases h), (fun x p h => by cases h), by simp⟩
end Mine
namespace Mine
/-- a comprehension that names one name of its frame -/
theorem CompOk.one {scope : Scope} {env : Env} {ρ : Rho} {x : Str} {p : PV} {cc : Addr} (h1 : closureFor scope env = pure [(x, cc)]) (h2 : scope.kind = .function) (h3 : (scope.names.all fun x => !(x.2 == .local) || (scope.names.lookup x.1 == some .local)) = true) (h4 : ∀ x ∈ scope.names, x.2 ≠ .cell)
    (h5 : ∀ C, (compEnvC scope [(x, cc)] C env).kindOf ("_initial_size" : Str) = none) (hs : env.cells.lookup x = some cc) (hk : ∀ C, (compEnvC scope [(x, cc)] C env).kindOf x = some .cell) (hk2 : env.kindOf x = some .cell ∨ env.kindOf x = some .free) (hx : (x, p) ∈ ρ) : CompOk scope env [(x, cc)] ρ [(x, p)] :=
  ⟨h1, h2, allLoc h3, h4, h5, (fun y c h => by
    rw [List.lookup_cons] at h
    split at h
    · rename_i e
      have := eq_of_beq e
      subst this; cases h; exact hs
    · cases h), (fun y q h => by
    cases List.mem_singleton.mp h
    exact ⟨hx, by simp, hk, hk2⟩), by simp⟩
end Mine
namespace Mine
theorem itemsOf_more {μ g : Mu} {p : PV} {its : List PV} (h : itemsOf μ p = some its) : itemsOf (μ ++ g) p = some its := by
  cases p <;> simp only [itemsOf] at h ⊢ <;> try exact h
  rename_i i
  cases q : μ[i]? with
  | none => rw [q] at h; cases h
  | some m => rw [getElem?_ext q g]; rw [q] at h; exact h
theorem lst_more {μ g : Mu} {p : PV} (h : ∀ i, p = .loc i → ∃ l, μ[i]? = some (.lst l)) : ∀ i, p = .loc i → ∃ l, (μ ++ g)[i]? = some (.lst l) := fun i e => by
  obtain ⟨l, hl⟩ := h i e
  exact ⟨l, getElem?_ext hl g⟩
/-- a comprehension whose element and tests change nothing -/
theorem WCL.fmap {c : Cx} {A : Around} {ρ : Rho} {μ : Mu} {elt tgt iter : Expr} {ifs : List Expr} {scope : Scope} {pos : Pos} {cenv : Env} {p : PV} {K : Mu → Prop} (F : PV → Option PV) (its : List PV) (O : c.Ok) (a : A.handled = none)
    (hits : itemsOf μ p = some its) (hp : ∀ i, p = .loc i → ∃ l, μ[i]? = some (.lst l)) (hb : its.length ≤ 1000000)
    (step : ∀ q ∈ its, ∀ g, WAL c A tgt cenv q ρ (μ ++ g) fun ρ' => (∀ y ∈ ρ, y ∈ ρ') ∧ WIfs c A ifs cenv ρ' (μ ++ g) fun ok m => m = μ ++ g ∧ ok = (F q).isSome ∧ (ok = true → WE c A elt cenv ρ' (μ ++ g) fun x m => m = μ ++ g ∧ F q = some x))
    (done : K (μ ++ [.lst (its.filterMap F)])) : WCL c A (.ListComp elt [⟨tgt, iter, ifs, 0⟩] scope pos) cenv p μ.length ρ K 0 (μ ++ [.lst []]) := by
  refine WCL.inv (fun j m => m = μ ++ [.lst ((its.take j).filterMap F)]) its O a (by simp) (fun j m hV => ⟨?_, ?_⟩) (fun j q m hq hV => ?_) fun m hV => ?_
  · subst hV; exact itemsOf_more hits
  · subst hV; exact lst_more hp
  · subst hV
    have hm : q ∈ its := List.mem_of_getElem? hq
    have e : its.take (j + 1) = its.take j ++ [q] := by rw [List.take_add_one, hq]; rfl
    refine (step q hm _).mono fun ρ' h => ⟨h.1, h.2.mono fun ok m h => ?_⟩
    obtain ⟨rfl, rfl, h⟩ := h
    cases hF : F q with
    | none =>
      simp only [Option.isSome_none, Bool.false_eq_true, if_false]
      rw [e, List.filterMap_append]
      simp [hF]
    | some x =>
      simp only [Option.isSome_some, if_true]
      rw [hF] at h
      refine (h rfl).mono fun y m h => ?_
      obtain ⟨rfl, h⟩ := h
      cases h
      refine ⟨_, at_end .., ?_, ?_⟩
      · have h1 : ((its.take j).filterMap F).length ≤ (its.take j).length := List.length_filterMap_le ..
        have h2 : (its.take j).length ≤ its.length := by simp; omega
        omega
      · rw [set_end, e, List.filterMap_append]
        simp [hF]
  · subst hV
    rw [List.take_of_length_le (Nat.le_refl _)]
    exact done
end Mine
namespace Mine
section
variable {c : Cx} {A : Around} {env : Env} {ρ : Rho} {μ : Mu} {K : Frag}
/-- the piles' class called by its name -/
theorem WE.call_cls {x : Str} {p pos : Pos} {e : Expr} {es : List Expr} {a : Addr} {K' : PV → Mu → Prop} (O : c.Ok) (P : PilK c K) (hx : c.mg x = some (.ref a)) (hke : keepIn K (.ref a) = true)
    (h : WEs c A (e :: es) env ρ μ fun ps μ₁ => WC c A (.ref a) ps μ₁ K') (hs : (e :: es).all notStar = true) (hk : env.kindOf x = some .globalImplicit) (hd : (x == ("__debug__" : Str)) = false) (hc : callsPlain (.Name x p) (e :: es) pos env) : WE c A (.Call (.Name x p) (e :: es) [] pos) env ρ μ K' := ⟨fun s ι E Q I V hQ => by
  refine PyProof.Rows.Call_ (glob_ld O I V hk hx hd ?_) hc
  have hs' := hs
  rw [List.all_cons, Bool.and_eq_true] at hs'
  refine PySem.W.callWith_K (h₀ := s.heap) (first := []) (P.here I) hke ?_ (starEach_cons hs'.1) (starEach_plain hs'.2 pos)
  refine h.run s ι E _ pos I V fun vs s₁ ι₁ ps μ₁ S₁ I₁ r₁ k₁ => ⟨P.here I₁, ?_⟩
  exact k₁.run s₁ ι₁ E Q vs I₁ r₁ fun v s₂ ι₂ q μ₂ S₂ I₂ r₂ k₂ => hQ v s₂ ι₂ q μ₂ (S₁.trans S₂) I₂ r₂ k₂⟩
theorem WE.call_cls0 {x : Str} {p pos : Pos} {a : Addr} {K' : PV → Mu → Prop} (O : c.Ok) (P : PilK c K) (hx : c.mg x = some (.ref a)) (hke : keepIn K (.ref a) = true)
    (h : WC c A (.ref a) [] μ K') (hk : env.kindOf x = some .globalImplicit) (hd : (x == ("__debug__" : Str)) = false) (hc : callsPlain (.Name x p) [] pos env) : WE c A (.Call (.Name x p) [] [] pos) env ρ μ K' := ⟨fun s ι E Q I V hQ => by
  refine PyProof.Rows.Call_ (glob_ld O I V hk hx hd ?_) hc
  refine PySem.W.callWith_K0 (first := []) (P.here I) hke ?_
  exact h.run s ι E Q [] I (by simp only [RepL]) hQ⟩
theorem WSs.less {st : List Stmt} {ρ' : Rho} {K : PF → Rho → Mu → Prop} (hs : ∀ y ∈ ρ', y ∈ ρ) (nd : (ρ'.map (·.1)).Nodup) (h : WSs c A st env ρ' μ K) : WSs c A st env ρ μ K := ⟨fun s ι E Q I V hQ => h.run s ι E Q I (V.less hs nd) hQ⟩
theorem WA.less {t : Expr} {p : PV} {ρ' : Rho} {K : Rho → Prop} (hs : ∀ y ∈ ρ', y ∈ ρ) (nd : (ρ'.map (·.1)).Nodup) (h : WA c A t env p ρ' μ K) : WA c A t env p ρ μ K := ⟨fun s ι E Q v I V r hQ => h.run s ι E Q v I (V.less hs nd) r hQ⟩
end
end Mine
namespace Mine
theorem WV.twice {c : Cx} {A : Around} {μ : Mu} {K : PV → Mu → Prop} {e : List Nat} (O : c.Ok) (h : e.length ≤ 1000) (k : K (.str (S (e ++ e))) μ) : WV c A (f2 (binaryOp .Mult)) [.str (S e), .int 2] μ K := by
  refine WV.mul_str O ⟨by rw [S_length]; omega, by omega, by omega⟩ ?_
  rw [mul_S]
  have : (List.replicate (2 : Int).toNat e).flatten = e ++ e := by
    show (List.replicate 2 e).flatten = e ++ e
    simp [List.replicate]
  rw [this]; exact k
end Mine
namespace Mine
section
variable {c : Cx} {A : Around} {env : Env} {ρ : Rho} {μ : Mu}
/-- x[lo:hi] of a list that the law was handed -/
theorem WE.slice_ext {value : Expr} {lo hi : Option Expr} {p pos : Pos} {K : PV → Mu → Prop} (O : c.Ok)
    (h : WE c A value env ρ μ fun b μ₁ => WPart c A lo env ρ μ₁ fun l μ₂ => WPart c A hi env ρ μ₂ fun u μ₃ => ∃ a vs ps, b = .ext a ∧ (∃ ob n, c.hB.get? a = some ob ∧ ob.cls = .type "list" ∧ ob.data = .seq vs.toArray n) ∧ a ∉ c.X ∧ (∀ h ι, RepL h ι ps vs) ∧ ps.length ≤ 1000000 ∧ K (.loc μ₃.length) (μ₃ ++ [.lst (cutL ps l u)])) : WE c A (.Subscript value (.Slice lo hi .none p) pos) env ρ μ K := ⟨fun s ι E Q I V hQ => by
  refine PyProof.Rows.Subscript_ (h.run s ι E _ I V fun o s₁ ι₁ b μ₁ S₁ I₁ r₁ k₁ => ?_)
  refine wpAny_Slice (k₁.run s₁ ι₁ E _ I₁ (V.step O I S₁) fun vl s₂ ι₂ l μ₂ S₂ I₂ r₂ k₂ => ?_)
  refine k₂.run s₂ ι₂ E _ I₂ (V.step O I (S₁.trans S₂)) fun vu s₃ ι₃ u μ₃ S₃ I₃ r₃ k₃ => ?_
  refine wpAny_evalPart_none ?_
  obtain ⟨a, vs, ps, rfl, ⟨ob, n, hB, hcl, hda⟩, hX, ra, hx, k₄⟩ := k₃
  have g := I₃.grow O (s' := { s₃ with heap := s₃.heap.push { cls := .type "slice", data := .fields #[vl, vu, .none] } }) (fun b o e => Heap.get?_push_of_some _ e) I₃.bare rfl I₃.tp
  simp only [RepV] at r₁
  subst r₁
  have ea := g.1.old _ _ hB hX
  have hl := RepL.length ps vs (ra s₃.heap ι₃)
  refine subTail (T := "list") ⟨_, ea, hcl⟩ F.slot_list_getitem.lookup ?_ (.inr rfl)
  have t := lst_new O g.1 ((ra _ _).cut l u) (h' := (s₃.heap.push { cls := .type "slice", data := .fields #[vl, vu, .none] }).push (lstOf (cutL vs l u) 0)) (D := s₃.heap.objs.size + 1) (n := 0) (tk := s₃.toks) (by
    have := fresh_size (s₃.heap.push { cls := .type "slice", data := .fields #[vl, vu, .none] })
    simpa [Heap.push] using this) (by
    have := Heap.get?_push_size (s₃.heap.push { cls := .type "slice", data := .fields #[vl, vu, .none] }) (o := lstOf (cutL vs l u) 0) rfl
    simpa [Heap.push] using this) (fun b o e => Heap.get?_push_of_some _ e) I₃.tp
  refine wpAny_getItem_list_slice (items := vs.toArray) (lo := l) (hi := u) (st := .none) ⟨_, ea, hcl, n, hda⟩ ⟨_, Heap.get?_push_size _ rfl, rfl, rfl⟩ r₂.isPart r₃.isPart (partIs.isPart (l := .none) rfl) (by simp) ?_ (by simp only [List.size_toArray]; rw [hl, sizeLine_eq]; omega)
  rw [cutL_pick]
  have := hQ _ _ _ _ _ ((((S₁.trans S₂).trans S₃).trans g.2).trans t.1) t.2.1 t.2.2 k₄
  simpa [Heap.push, lstOf] using this⟩
theorem RepL.intsOf {h : Heap} {ι : Iota} {vs : List Value} {ns : List Int} (i : IntsAre vs ns) : RepL h ι (ns.map .int) vs := by
  induction i with
  | nil => simp only [List.map_nil, RepL]
  | cons n t _ ih => simp only [List.map_cons, RepL, RepV]; exact ⟨_, _, rfl, ⟨_, rfl⟩, ih⟩
end
end Mine
namespace Mine
section
variable {M : Model} {A : Around} {E : Value → Shared → Prop} {s : Shared}
/-- a frame with one parameter: a token at least is spent -/
theorem newEnv_pos {scope : Scope} {globals : Addr} {n : Str} {v : Value} {qual : Str} {func : Option Addr} {code : Value} {builtins : Addr} {Q : Env → Shared → Prop} (hk : scope.kind = .function) (hn : scope.names.lookup n = some .local)
    (hQ : ∀ env, env = newEnv scope s.heap.objs.size globals (cellsFrom (s.heap.objs.size + 1) scope.names []) qual func code none builtins →
      ∀ s', s.toks < s'.toks → InCallC s env.locals (bindL env.kindOf [(n, v)] fun _ => none) env.cells (bindC env.kindOf [(n, v)] fun _ => none) s' → Q env s') :
    wpAny M A (newFunctionEnv scope globals [] [(n, v)] qual func code none builtins) Q E s := by
  simp only [newFunctionEnv, Option.isSome_none, Bool.false_eq_true, if_false]
  refine wpAny_bind (wpAny_alloc (wpAny_bind (wpAny_layCells _ (fun name kind cells => by cases hc : kind == NameKind.cell <;> simp [hc]) _ _ _ _ ?_)))
  have ok := cellsFrom_ok scope.names (s.heap.push { cls := .type "frame", data := .dict #[] }) (s.heap.objs.size + 1) [] ⟨fun _ _ hm => (nomatch hm), List.Pairwise.nil⟩ (by rw [Heap.size_push]; exact Nat.le_refl _)
  rw [Heap.size_push] at ok
  rw [show ({ s with heap := s.heap.push { cls := .type "frame", data := .dict #[] } } : Shared).heap.objs.size = s.heap.objs.size + 1 from Heap.size_push ..]
  have base := (Heap.Ns.new s.heap (.type "frame")).keeps (pushCells_keeps _ _ : ∀ b o, _ → (pushCells (s.heap.push { cls := .type "frame", data := .dict #[] }) scope.names).get? b = some o)
  have kp : ∀ b o, s.heap.get? b = some o → (pushCells (s.heap.push { cls := .type "frame", data := .dict #[] }) scope.names).get? b = some o := fun b o e => pushCells_keeps _ _ b o (Heap.get?_push_of_some _ e)
  refine wpAny_bind ?_
  rw [List.forIn_cons]
  refine wpAny_bind (wpAny_bind (wpAny_storeName_local hn base (fun h' hn' hs' => wpAny_pure ?_) (by dsimp only; rw [hk]; rfl)))
  dsimp only
  rw [List.forIn_nil]
  refine wpAny_pure (wpAny_pure (hQ _ rfl _ (Nat.lt_succ_self _) ?_))
  have hne : ∀ m c, (m, c) ∈ cellsFrom (s.heap.objs.size + 1) scope.names [] → s.heap.objs.size < c := fun m c hm => (ok.empty m c hm).2
  refine ⟨⟨⟨_, _, rfl⟩, ?_, fun b o e => hs'.extBut b o (Nat.ne_of_lt (Heap.lt_size e)) (kp b o e), Nat.le_refl _⟩, fun m c hc => ?_, ok.apart, fun m c hm => hne m c hm⟩
  · have e : bindL (newEnv scope s.heap.objs.size globals (cellsFrom (s.heap.objs.size + 1) scope.names []) qual func code none builtins).kindOf [(n, v)] (fun _ => none) = fun y => if y = n then some v else none := by
      unfold bindL bindL
      exact if_pos hn
    rw [e]
    exact hn'
  · have e : bindC (newEnv scope s.heap.objs.size globals (cellsFrom (s.heap.objs.size + 1) scope.names []) qual func code none builtins).kindOf [(n, v)] (fun _ => none) = fun _ => none := by
      unfold bindC bindC
      exact if_pos hn
    rw [e]
    have := (ok.empty m c (mem_of_lookup hc)).1
    exact this.sameBut hs' (Nat.ne_of_gt (hne m c (mem_of_lookup hc)))
end
section
variable {c : Cx} {A : Around} {μ : Mu}
theorem codeAny_call_one {R : Result → Shared → Prop} {prog : Program} {w : World} {s : Shared} {a : Addr} {o : Obj} {fd : FuncData} {body : List Stmt} {x₀ : Str} {v₀ : Value}
    (hroom : A.depth < recursionLimit) (ho : s.heap.get? a = some o) (hdata : o.data = .func fd) (hlim : s.heap.NoLimit) (hcd : s.heap.CodeRec fd.code fd.qualname)
    (hbody : fd.body = .stmts body) (hbind : BindsTo s fd ⟨[v₀], []⟩ [(x₀, v₀)]) (hclo : fd.closure = [])
    (hkind : fd.scope.names.lookup x₀ = some .local)
    (h : ∀ s₁, s.toks < s₁.toks → InCallC s (callEnvC fd s.heap.objs.size a).locals (bindL (callEnvC fd s.heap.objs.size a).kindOf [(x₀, v₀)] fun _ => none) (callEnvC fd s.heap.objs.size a).cells
        (bindC (callEnvC fd s.heap.objs.size a).kindOf [(x₀, v₀)] fun _ => none) s₁ →
      wpAny (model prog w) (A.deeper (callEnvC fd s.heap.objs.size a)) (execs body (callEnvC fd s.heap.objs.size a)) (fun f s' => R (.ok (.ret (match f with | .ret v => v | _ => .none))) s')
        (fun e s' => wpAny (model prog w) (A.deeper (callEnvC fd s.heap.objs.size a)) (leaving (callEnvC fd s.heap.objs.size a) e) (fun _ s'' => R (.error e) s'') (fun e' s'' => R (.error e') s'') s') s₁)
    (hco : fd.scope.isCoroutine = false) (hgen : fd.scope.isGenerator = false) (hk : fd.scope.kind = .function) :
    codeAny (model prog w) A (.call (.ref a) ⟨[v₀], []⟩) R s := by
  refine codeAny_call_function hroom ho hdata hco hgen hbody hcd ?_
  rw [hclo]
  refine hbind _ _ _ _ (newEnv_pos hk hkind fun env he s' htk x => ?_)
  subst he
  exact ⟨hlim.keeps x.toInCall.keep, codeAny_func (h s' htk x)⟩
/-- a def of one parameter called, in a state that may have spent no token yet -/
theorem code_one {a : Addr} {fd : FuncData} {body : List Stmt} {x₀ : Str} {p : PV} {n : Nat} {K : PV → Mu → Prop} (O : c.Ok) (D : DefOk c a fd body [x₀]) (ao : AOk (n + 1) A) (hloc : fd.scope.names.lookup x₀ = some .local)
    (hini : ∀ L, (callEnvC fd L a).kindOf ("_initial_size" : Str) = none) (hni : ("_initial_size" : Str) ∉ [x₀]) (hk : ∀ L, (callEnvC fd L a).kindOf x₀ = some .local)
    (h : ∀ L A', AOk n A' → WSs c A' body (callEnvC fd L a) [(x₀, p)] μ (retK K))
    {s : Shared} {ι : Iota} {v : Value} {R : Result → Shared → Prop} (I : Inv c { s with toks := s.toks + 1 } ι μ) (r : RepV s.heap ι p v) (hR : ∀ v s' ι' p μ', Step c { s with toks := s.toks + 1 } ι s' ι' → Inv c s' ι' μ' → RepV s'.heap ι' p v → K p μ' → R (.ok (.ret v)) s') : codeAny (model c.prog c.w) A (.call (.ref a) ⟨[v], []⟩) R s := by
  obtain ⟨o, ho, hd⟩ := D.fn.here I
  have cr := D.codeRec I
  have nl := I.noLimit O
  have bd := D.bind s [v] (fun b o e q => I.old b o e q) rfl
  refine codeAny_call_one (body := body) (x₀ := x₀) (by have := ao.d; show A.depth < 1000; omega) ho hd nl cr D.body bd D.clo hloc (fun s₁ hts X => ?_) D.co D.gen D.kind
  generalize hL : s.heap.objs.size = L at *
  have fL : s.heap.get? L = none := by rw [← hL]; exact fresh_size _
  have hLe : (callEnvC fd L a).locals = L := rfl
  rw [hLe] at X
  have fr := I.fresh O (show ({ s with toks := s.toks + 1 } : Shared).heap.get? L = none from fL)
  obtain ⟨h', tk, es, k⟩ := X.done
  have g := I.grow O (s' := s₁) (by rw [es]; exact k) (by rw [es]; exact I.bare) (by rw [es]) (by omega)
  have fc : ∀ x cc, (callEnvC fd L a).cells.lookup x = some cc → s.heap.get? cc = none := fun x cc hx => by
    have hab := X.above x cc (lookup_mem _ x cc hx)
    cases q : s.heap.get? cc with
    | none => rfl
    | some o => exact absurd (Heap.lt_size q) (by rw [hL]; exact Nat.not_lt.mpr (Nat.le_of_lt hab))
  have V : EnvOk c (callEnvC fd L a) [(x₀, p)] s₁ ι := by
    refine ⟨D.kind, D.glo, D.bi, hini L, ⟨_, X.toInCall.ns, ?_, fun x q hx => ?_⟩, by simp, fr, fun x cc hx => ?_, fun x y cc hx hy => ?_⟩
    · rw [bindL_off _ _ _ _ (by simpa using hni)]
    · cases List.mem_singleton.mp hx
      exact ⟨D.dbg _ List.mem_cons_self, .inl ⟨hk L, v, bindL_on _ _ _ x₀ v (by simp) List.mem_cons_self (hk L), I.rep O g.2 r⟩⟩
    · have fcc := I.fresh O (show ({ s with toks := s.toks + 1 } : Shared).heap.get? cc = none from fc x cc hx)
      exact ⟨⟨_, X.cell x cc hx⟩, fcc.1, fcc.2.1, fun q => by have hab := X.above x cc (lookup_mem _ x cc hx); rw [hLe] at q; exact absurd (q ▸ hab) (Nat.lt_irrefl _), fcc.2.2⟩
    · exact pw_inj _ x y cc X.apart (lookup_mem _ x cc hx) (lookup_mem _ y cc hy)
  refine (h L _ (ao.deeper _)).run _ ι _ _ g.1 V fun f s' ι' pf ρ' μ' S I' V' rf k' => ?_
  have ke : ∀ b o, s.heap.get? b = some o → s₁.heap.get? b = some o := by rw [es]; exact k
  have Sx : Step c { s with toks := s.toks + 1 } ι s' ι' := by
    refine ⟨fun b o e hb hX => S.keep b o (ke b o e) hb hX (fun q => by rw [hLe] at q; rw [q] at e; rw [show ({ s with toks := s.toks + 1 } : Shared).heap.get? L = none from fL] at e; cases e) (fun x q => by rw [show ({ s with toks := s.toks + 1 } : Shared).heap.get? b = none from fc x b q] at e; cases e), fun b o e => S.there b o (ke b o e), ?_⟩
    obtain ⟨l, hl, hl'⟩ := S.ext
    refine ⟨l, hl, fun b hb => ?_⟩
    cases q : ({ s with toks := s.toks + 1 } : Shared).heap.get? b with
    | none => rfl
    | some o => have := ke b o q; rw [hl' b hb] at this; cases this
  cases pf with
  | next => simp only [RepF] at rf; subst rf; exact hR .none s' ι' .none μ' Sx I' (by simp only [RepV]) k'
  | brk => exact absurd k' (by simp [retK])
  | cont => exact absurd k' (by simp [retK])
  | ret p =>
    simp only [RepF] at rf
    obtain ⟨v, rfl, rv⟩ := rf
    exact hR v s' ι' p μ' Sx I' rv k'
end
end Mine
namespace Mine
def rgbP (r g b : UInt64) : Option (UInt64 × UInt64 × UInt64) :=
  if (Float64.cmp (ltF (ltF r g) b) (gtF (gtF r g) b) == some .eq) = true then some (0, 0, gtF (gtF r g) b)
  else if Float64.isZero (gtF (gtF r g) b) = true then none
  else if Float64.isZero (Float64.sub (gtF (gtF r g) b) (ltF (ltF r g) b)) = true then none
  else some ((Float64.divmod (Float64.div (
    if (Float64.cmp r (gtF (gtF r g) b) == some .eq) = true then Float64.sub (Float64.div (Float64.sub (gtF (gtF r g) b) b) (Float64.sub (gtF (gtF r g) b) (ltF (ltF r g) b))) (Float64.div (Float64.sub (gtF (gtF r g) b) g) (Float64.sub (gtF (gtF r g) b) (ltF (ltF r g) b)))
    else if (Float64.cmp g (gtF (gtF r g) b) == some .eq) = true then Float64.sub (Float64.add 4611686018427387904 (Float64.div (Float64.sub (gtF (gtF r g) b) r) (Float64.sub (gtF (gtF r g) b) (ltF (ltF r g) b)))) (Float64.div (Float64.sub (gtF (gtF r g) b) b) (Float64.sub (gtF (gtF r g) b) (ltF (ltF r g) b)))
    else Float64.sub (Float64.add 4616189618054758400 (Float64.div (Float64.sub (gtF (gtF r g) b) g) (Float64.sub (gtF (gtF r g) b) (ltF (ltF r g) b)))) (Float64.div (Float64.sub (gtF (gtF r g) b) r) (Float64.sub (gtF (gtF r g) b) (ltF (ltF r g) b))))
    4618441417868443648) 4607182418800017408).2, Float64.div (Float64.sub (gtF (gtF r g) b) (ltF (ltF r g) b)) (gtF (gtF r g) b), gtF (gtF r g) b)
/-- the reading of an hsv triple: the hue's sixth -/
def truncP (x : UInt64) : Option Int := match Float64.decode x with
  | .fin sg m e => some (Float64.truncOf sg m e)
  | _ => none
def one : UInt64 := 4607182418800017408
def hsvP (h s v : UInt64) : Option (UInt64 × UInt64 × UInt64) :=
  if (Float64.cmp s 0 == some .eq) = true then some (v, v, v)
  else match truncP (Float64.mul h 4618441417868443648) with
  | none => none
  | some i => if i.natAbs < 2 ^ 1023 then
      let f := Float64.sub (Float64.mul h 4618441417868443648) (Float64.ofInt i)
      let p := Float64.mul v (Float64.sub 4607182418800017408 s)
      let q := Float64.mul v (Float64.sub 4607182418800017408 (Float64.mul s f))
      let t := Float64.mul v (Float64.sub 4607182418800017408 (Float64.mul s (Float64.sub 4607182418800017408 f)))
      if i.fmod 6 = 0 then some (v, t, p) else if i.fmod 6 = 1 then some (q, v, p) else if i.fmod 6 = 2 then some (p, v, t) else if i.fmod 6 = 3 then some (p, q, v) else if i.fmod 6 = 4 then some (t, p, v) else some (v, p, q)
    else none
end Mine
namespace Mine
def same (x : UInt64) : Bool := Float64.cmp x x == some .eq
def hsvQ (k : Nat) (f s v : UInt64) : UInt64 × UInt64 × UInt64 :=
  let p := Float64.mul v (Float64.sub 4607182418800017408 s)
  let q := Float64.mul v (Float64.sub 4607182418800017408 (Float64.mul s f))
  let t := Float64.mul v (Float64.sub 4607182418800017408 (Float64.mul s (Float64.sub 4607182418800017408 f)))
  match k with
  | 0 => (v, t, p)
  | 1 => (q, v, p)
  | 2 => (p, v, t)
  | 3 => (p, q, v)
  | 4 => (t, p, v)
  | _ => (v, p, q)
def hueF (n : Nat) : UInt64 := fdiv (n : Int) 48
def satF (i : Nat) : UInt64 := fdiv ((1 + 2 ^ 30 / 3 * i : Nat) : Int) 1073741824
def valF (j : Nat) : UInt64 := fdiv ((1 + 2 ^ 20 / 3 * j : Nat) : Int) 1048576
def gryF (j : Nat) : UInt64 := fdiv ((2 ^ 18 * j : Nat) : Int) 1048576
def eighth (k : Nat) : UInt64 := fdiv (k : Int) 8
def stepB (m : Nat) : Bool := truncP (Float64.mul (hueF m) 4618441417868443648) == some ((m / 8 : Nat) : Int) && Float64.sub (Float64.mul (hueF m) 4618441417868443648) (Float64.ofInt ((m / 8 : Nat) : Int)) == eighth (m % 8)
def turnB (n : Nat) (i : Nat) : Bool := (List.range 4).all fun j => match hsvQ (n / 8) (eighth (n % 8)) (satF i) (valF j) with | (r, g, b) => rgbP r g b == some (hueF n, satF i, valF j)
theorem step_all : (List.range 144).all stepB = true := by decide +kernel
theorem same_all : ((List.range 48).all fun n => same (hueF n)) && ((List.range 5).all fun i => same (satF i) && same (valF i) && same (gryF i)) = true := by decide +kernel
theorem sat_all : ((List.range 4).all fun i => !(Float64.cmp (satF i) 0 == some .eq) && (Float64.cmpInt (satF i) 0 == some .gt)) = true := by decide +kernel
theorem gry_all : ((List.range 5).all fun j => rgbP (gryF j) (gryF j) (gryF j) == some (0, 0, gryF j)) = true := by decide +kernel
theorem let_all : ((List.range 48).all fun n => truncP (Float64.mul (Float64.ofInt 2) (hueF n)) == some (if n < 24 then 0 else 1)) = true := by decide +kernel
theorem zero_all : fdiv 0 48 = 0 ∧ fdiv 0 1073741824 = 0 ∧ (Float64.cmp 0 0 == some .eq) = true ∧ (Float64.cmpInt 0 0 == some .gt) = false := by decide +kernel
theorem turn_0_0 : (List.range 8).all (fun n => turnB (0 + n) 0) = true := by decide +kernel
theorem turn_0_1 : (List.range 8).all (fun n => turnB (8 + n) 0) = true := by decide +kernel
theorem turn_0_2 : (List.range 8).all (fun n => turnB (16 + n) 0) = true := by decide +kernel
theorem turn_0_3 : (List.range 8).all (fun n => turnB (24 + n) 0) = true := by decide +kernel
theorem turn_0_4 : (List.range 8).all (fun n => turnB (32 + n) 0) = true := by decide +kernel
theorem turn_0_5 : (List.range 8).all (fun n => turnB (40 + n) 0) = true := by decide +kernel
theorem turn_1_0 : (List.range 8).all (fun n => turnB (0 + n) 1) = true := by decide +kernel
theorem turn_1_1 : (List.range 8).all (fun n => turnB (8 + n) 1) = true := by decide +kernel
theorem turn_1_2 : (List.range 8).all (fun n => turnB (16 + n) 1) = true := by decide +kernel
theorem turn_1_3 : (List.range 8).all (fun n => turnB (24 + n) 1) = true := by decide +kernel
theorem turn_1_4 : (List.range 8).all (fun n => turnB (32 + n) 1) = true := by decide +kernel
theorem turn_1_5 : (List.range 8).all (fun n => turnB (40 + n) 1) = true := by decide +kernel
theorem turn_2_0 : (List.range 8).all (fun n => turnB (0 + n) 2) = true := by decide +kernel
theorem turn_2_1 : (List.range 8).all (fun n => turnB (8 + n) 2) = true := by decide +kernel
theorem turn_2_2 : (List.range 8).all (fun n => turnB (16 + n) 2) = true := by decide +kernel
theorem turn_2_3 : (List.range 8).all (fun n => turnB (24 + n) 2) = true := by decide +kernel
theorem turn_2_4 : (List.range 8).all (fun n => turnB (32 + n) 2) = true := by decide +kernel
theorem turn_2_5 : (List.range 8).all (fun n => turnB (40 + n) 2) = true := by decide +kernel
theorem turn_3_0 : (List.range 8).all (fun n => turnB (0 + n) 3) = true := by decide +kernel
theorem turn_3_1 : (List.range 8).all (fun n => turnB (8 + n) 3) = true := by decide +kernel
theorem turn_3_2 : (List.range 8).all (fun n => turnB (16 + n) 3) = true := by decide +kernel
theorem turn_3_3 : (List.range 8).all (fun n => turnB (24 + n) 3) = true := by decide +kernel
theorem turn_3_4 : (List.range 8).all (fun n => turnB (32 + n) 3) = true := by decide +kernel
theorem turn_3_5 : (List.range 8).all (fun n => turnB (40 + n) 3) = true := by decide +kernel
end Mine
namespace Mine
theorem all_range {n : Nat} {f : Nat → Bool} (h : (List.range n).all f = true) {k : Nat} (hk : k < n) : f k = true := List.all_eq_true.mp h k (List.mem_range.mpr hk)
theorem stepB_at {m : Nat} (h : m < 144) : truncP (Float64.mul (hueF m) 4618441417868443648) = some ((m / 8 : Nat) : Int) ∧ Float64.sub (Float64.mul (hueF m) 4618441417868443648) (Float64.ofInt ((m / 8 : Nat) : Int)) = eighth (m % 8) := by
  have := all_range step_all h
  unfold stepB at this
  rw [Bool.and_eq_true, beq_iff_eq, beq_iff_eq] at this
  exact this
theorem turnB_at {n i j : Nat} (h : n < 48) (hi : i < 4) (hj : j < 4) : ∀ r g b, hsvQ (n / 8) (eighth (n % 8)) (satF i) (valF j) = (r, g, b) → rgbP r g b = some (hueF n, satF i, valF j) := by
  have key : turnB n i = true := by
    have e : n = 8 * (n / 8) + n % 8 := (Nat.div_add_mod n 8).symm
    have hk : n / 8 < 6 := by omega
    have hr : n % 8 < 8 := Nat.mod_lt _ (by decide)
    rw [e]
    generalize n / 8 = k at *
    generalize n % 8 = q at *
    match i, hi, k, hk with
    | 0, _, 0, _ => exact all_range turn_0_0 hr
    | 0, _, 1, _ => exact all_range turn_0_1 hr
    | 0, _, 2, _ => exact all_range turn_0_2 hr
    | 0, _, 3, _ => exact all_range turn_0_3 hr
    | 0, _, 4, _ => exact all_range turn_0_4 hr
    | 0, _, 5, _ => exact all_range turn_0_5 hr
    | 1, _, 0, _ => exact all_range turn_1_0 hr
    | 1, _, 1, _ => exact all_range turn_1_1 hr
    | 1, _, 2, _ => exact all_range turn_1_2 hr
    | 1, _, 3, _ => exact all_range turn_1_3 hr
    | 1, _, 4, _ => exact all_range turn_1_4 hr
    | 1, _, 5, _ => exact all_range turn_1_5 hr
    | 2, _, 0, _ => exact all_range turn_2_0 hr
    | 2, _, 1, _ => exact all_range turn_2_1 hr
    | 2, _, 2, _ => exact all_range turn_2_2 hr
    | 2, _, 3, _ => exact all_range turn_2_3 hr
    | 2, _, 4, _ => exact all_range turn_2_4 hr
    | 2, _, 5, _ => exact all_range turn_2_5 hr
    | 3, _, 0, _ => exact all_range turn_3_0 hr
    | 3, _, 1, _ => exact all_range turn_3_1 hr
    | 3, _, 2, _ => exact all_range turn_3_2 hr
    | 3, _, 3, _ => exact all_range turn_3_3 hr
    | 3, _, 4, _ => exact all_range turn_3_4 hr
    | 3, _, 5, _ => exact all_range turn_3_5 hr
  have := all_range key hj
  intro r g b hq
  rw [hq] at this
  simpa using this
theorem same_at {i : Nat} : (∀ n, n < 48 → same (hueF n) = true) ∧ (i < 5 → same (satF i) = true ∧ same (valF i) = true ∧ same (gryF i) = true) := by
  have h := same_all
  rw [Bool.and_eq_true] at h
  refine ⟨fun n hn => all_range h.1 hn, fun hi => ?_⟩
  have := all_range (of_decide_eq_true h.2) hi
  simp only [Bool.and_eq_true] at this
  exact ⟨this.1.1, this.1.2, this.2⟩
/-- the colours of a light, painted and told -/
theorem hue_plain {n t i j : Nat} (hn : n < 48) (ht : t < 3) (hi : i < 4) (hj : j < 4) : ∃ r g b, hsvP (hueF (n + 48 * t)) (satF i) (valF j) = some (r, g, b) ∧ rgbP r g b = some (hueF n, satF i, valF j) := by
  have hs := all_range sat_all hi
  rw [Bool.and_eq_true] at hs
  have st := stepB_at (m := n + 48 * t) (by omega)
  have e1 : (n + 48 * t) % 8 = n % 8 := by omega
  have e2 : (((n + 48 * t) / 8 : Nat) : Int).fmod 6 = ((n / 8 : Nat) : Int) := by
    rw [Int.fmod_eq_emod_of_nonneg _ (by decide)]
    omega
  rw [e1] at st
  obtain ⟨⟨r, g, b⟩, hq⟩ : ∃ x, hsvQ (n / 8) (eighth (n % 8)) (satF i) (valF j) = x := ⟨_, rfl⟩
  refine ⟨r, g, b, ?_, turnB_at hn hi hj r g b hq⟩
  unfold hsvP
  rw [if_neg (by simpa using hs.1), st.1]
  dsimp only
  rw [if_pos (by
    have : (((n + 48 * t) / 8 : Nat) : Int).natAbs < 1000 := by omega
    exact Nat.lt_trans this (Nat.lt_of_lt_of_le (by decide : 1000 < 2 ^ 10) (Nat.pow_le_pow_right (by decide) (by decide)))), st.2, e2]
  rw [← hq]
  have hk : n / 8 < 6 := by omega
  generalize n / 8 = k at *
  match k, hk with
  | 0, _ => rfl
  | 1, _ => rfl
  | 2, _ => rfl
  | 3, _ => rfl
  | 4, _ => rfl
  | 5, _ => rfl
theorem grey_plain {h : UInt64} {j : Nat} (hj : j < 5) : hsvP h 0 (gryF j) = some (gryF j, gryF j, gryF j) ∧ rgbP (gryF j) (gryF j) (gryF j) = some (0, 0, gryF j) := by
  refine ⟨?_, by have := all_range gry_all hj; simpa using this⟩
  unfold hsvP
  rw [if_pos zero_all.2.2.1]
end Mine
namespace Mine
/- ---- the sides of a word ---- -/
def sufP : List Nat → Option (Nat × List Nat)
  | [] => none
  | c :: r => if c ∈ r then sufP r else some (c, r)
theorem sufP_some {w : List Nat} {b : Nat} {s : List Nat} (h : sufP w = some (b, s)) : ∃ x, w = x ++ b :: s ∧ b ∉ s ∧ ∀ d ∈ x, d ∈ b :: s := by
  induction w with
  | nil => cases h
  | cons c r ih =>
    unfold sufP at h
    split at h
    · rename_i hc
      obtain ⟨x, e, h1, h2⟩ := ih h
      refine ⟨c :: x, by rw [e]; rfl, h1, fun d hd => ?_⟩
      rcases List.mem_cons.mp hd with rfl | hd
      · rw [e] at hc
        rcases List.mem_append.mp hc with hc | hc
        · exact h2 _ hc
        · exact hc
      · exact h2 d hd
    · rename_i hc
      cases h
      exact ⟨[], rfl, hc, by simp⟩
theorem sufP_ne {w : List Nat} (h : w ≠ []) : ∃ b s, sufP w = some (b, s) := by
  induction w with
  | nil => exact absurd rfl h
  | cons c r ih =>
    unfold sufP
    split
    · rename_i hc; exact ih fun e => by rw [e] at hc; cases hc
    · exact ⟨c, r, rfl⟩
theorem sufP_lt {w : List Nat} {b : Nat} {s : List Nat} (h : sufP w = some (b, s)) : s.length < w.length := by
  obtain ⟨x, e, _⟩ := sufP_some h
  rw [e]; simp; omega
theorem sufP_absorb {r z : List Nat} (h : ∀ a ∈ r, a ∈ z) : sufP (r ++ z) = sufP z := by
  induction r with
  | nil => rfl
  | cons c r ih =>
    rw [List.cons_append, sufP, if_pos (List.mem_append.mpr (.inr (h c List.mem_cons_self)))]
    exact ih fun a ha => h a (List.mem_cons_of_mem _ ha)
theorem sufP_snoc {u : List Nat} {b : Nat} {s : List Nat} {c : Nat} (h : sufP u = some (b, s)) : sufP (u ++ [c]) = if b = c then sufP (s ++ [c]) else some (b, s ++ [c]) := by
  induction u with
  | nil => cases h
  | cons d r ih =>
    unfold sufP at h
    split at h
    · rename_i hd
      rw [List.cons_append, sufP, if_pos (List.mem_append.mpr (.inl hd))]
      exact ih h
    · rename_i hd
      cases h
      rw [List.cons_append, sufP]
      by_cases e : b = c
      · rw [if_pos (by rw [e]; simp), if_pos e]
      · rw [if_neg (by simp [hd, e]), if_neg e]
/- ---- the tree of a word: the free band's normal form ---- -/
inductive T where
  | nil
  | node (l : T) (a b : Nat) (r : T)
def treeF : Nat → List Nat → T
  | 0, _ => .nil
  | n + 1, w => match sufP w.reverse, sufP w with
    | some (a, p), some (b, s) => .node (treeF n p.reverse) a b (treeF n s)
    | _, _ => .nil
theorem treeF_nil (n : Nat) : treeF n [] = .nil := by cases n <;> rfl
theorem treeF_more : ∀ (n m : Nat) (w : List Nat), w.length ≤ n → w.length ≤ m → treeF n w = treeF m w
  | 0, m, w, h, _ => by
    have : w = [] := List.length_eq_zero_iff.mp (by omega)
    rw [this, treeF_nil, treeF_nil]
  | n + 1, 0, w, _, h => by
    have : w = [] := List.length_eq_zero_iff.mp (by omega)
    rw [this, treeF_nil, treeF_nil]
  | n + 1, m + 1, w, h1, h2 => by
    unfold treeF
    cases e1 : sufP w.reverse with
    | none => rfl
    | some x =>
      cases e2 : sufP w with
      | none => rfl
      | some y =>
        obtain ⟨a, p⟩ := x
        obtain ⟨b, s⟩ := y
        have l1 := sufP_lt e1
        have l2 := sufP_lt e2
        rw [List.length_reverse] at l1
        dsimp only
        rw [treeF_more n m p.reverse (by rw [List.length_reverse]; omega) (by rw [List.length_reverse]; omega), treeF_more n m s (by omega) (by omega)]
def tree (w : List Nat) : T := treeF w.length w
def preT (w : List Nat) : Option (T × Nat) := (sufP w.reverse).map fun x => (tree x.2.reverse, x.1)
def sufT (w : List Nat) : Option (Nat × T) := (sufP w).map fun x => (x.1, tree x.2)
def both : Option (T × Nat) → Option (Nat × T) → T
  | some (l, a), some (b, r) => .node l a b r
  | _, _ => .nil
theorem tree_eq (w : List Nat) : tree w = both (preT w) (sufT w) := by
  unfold tree preT sufT
  cases hw : w.length with
  | zero =>
    have : w = [] := List.length_eq_zero_iff.mp hw
    subst this; rfl
  | succ n =>
    unfold treeF
    cases e1 : sufP w.reverse with
    | none => rfl
    | some x =>
      cases e2 : sufP w with
      | none => rfl
      | some y =>
        obtain ⟨a, p⟩ := x
        obtain ⟨b, s⟩ := y
        have l1 := sufP_lt e1
        have l2 := sufP_lt e2
        rw [List.length_reverse] at l1
        show T.node _ a b _ = T.node _ a b _
        unfold tree
        rw [treeF_more n p.reverse.length p.reverse (by rw [List.length_reverse]; omega) (Nat.le_refl _), treeF_more n s.length s (by omega) (Nat.le_refl _)]
theorem tree_node {w : List Nat} (h : w ≠ []) : ∃ a p b s, sufP w.reverse = some (a, p) ∧ sufP w = some (b, s) ∧ tree w = .node (tree p.reverse) a b (tree s) := by
  obtain ⟨b, s, e2⟩ := sufP_ne h
  obtain ⟨a, p, e1⟩ := sufP_ne (w := w.reverse) (by simpa using h)
  refine ⟨a, p, b, s, e1, e2, ?_⟩
  rw [tree_eq, preT, sufT, e1, e2]; rfl
theorem tree_ne {w : List Nat} (h : w ≠ []) : tree w ≠ .nil := by
  obtain ⟨a, p, b, s, _, _, e⟩ := tree_node h
  rw [e]; intro q; cases q
theorem tree_empty : tree [] = .nil := rfl
def letIn (x : Nat) : T → Prop
  | .nil => False
  | .node l a _ _ => x = a ∨ letIn x l
theorem mem_tree : ∀ (n : Nat) (w : List Nat) (x : Nat), w.length ≤ n → (x ∈ w ↔ letIn x (tree w))
  | n, [], x, _ => by rw [tree_empty]; simp [letIn]
  | 0, c :: r, x, h => by simp at h
  | n + 1, c :: r, x, h => by
    obtain ⟨a, p, b, s, e1, e2, e⟩ := tree_node (w := c :: r) (by simp)
    have l1 := sufP_lt e1
    rw [List.length_reverse] at l1
    rw [e]
    show _ ↔ x = a ∨ letIn x (tree p.reverse)
    rw [← mem_tree n p.reverse x (by rw [List.length_reverse]; omega)]
    obtain ⟨y, ey, h1, h2⟩ := sufP_some e1
    have : x ∈ c :: r ↔ x ∈ (c :: r).reverse := List.mem_reverse.symm
    rw [this, ey]
    constructor
    · intro hx
      rcases List.mem_append.mp hx with hx | hx
      · have := h2 x hx
        rcases List.mem_cons.mp this with q | q
        · exact .inl q
        · exact .inr (List.mem_reverse.mpr q)
      · rcases List.mem_cons.mp hx with q | q
        · exact .inl q
        · exact .inr (List.mem_reverse.mpr q)
    · intro hx
      rcases hx with q | q
      · exact List.mem_append.mpr (.inr (by rw [q]; exact List.mem_cons_self))
      · exact List.mem_append.mpr (.inr (List.mem_cons_of_mem _ (List.mem_reverse.mp q)))
theorem tree_mem {u v : List Nat} (h : tree u = tree v) (x : Nat) : x ∈ u ↔ x ∈ v := by
  rw [mem_tree u.length u x (Nat.le_refl _), mem_tree v.length v x (Nat.le_refl _), h]
theorem tree_nil {v : List Nat} (h : tree v = .nil) : v = [] := by
  cases v with
  | nil => rfl
  | cons c r => exact absurd h (tree_ne (by simp))
theorem tree_parts {u v : List Nat} (h : tree u = tree v) : preT u = preT v ∧ sufT u = sufT v := by
  by_cases hu : u = []
  · subst hu
    have := tree_nil (v := v) (by rw [← h]; rfl)
    rw [this]; exact ⟨rfl, rfl⟩
  · have hv : v ≠ [] := fun e => hu (tree_nil (by rw [h, e]; rfl))
    obtain ⟨a, p, b, s, e1, e2, e⟩ := tree_node hu
    obtain ⟨a', p', b', s', e1', e2', e'⟩ := tree_node hv
    rw [e, e'] at h
    injection h with h1 h2 h3 h4
    unfold preT sufT
    rw [e1, e1', e2, e2']
    subst h2 h3
    simp only [Option.map_some]
    rw [h1, h4]
    exact ⟨rfl, rfl⟩
theorem tree_of {u v : List Nat} (h1 : preT u = preT v) (h2 : sufT u = sufT v) : tree u = tree v := by rw [tree_eq, tree_eq, h1, h2]
theorem preT_snoc (u : List Nat) (c : Nat) : preT (u ++ [c]) = if c ∈ u then preT u else some (tree u, c) := by
  unfold preT
  rw [List.reverse_append, List.reverse_singleton, List.singleton_append, sufP]
  by_cases h : c ∈ u
  · rw [if_pos (List.mem_reverse.mpr h), if_pos h]
  · rw [if_neg (fun q => h (List.mem_reverse.mp q)), if_neg h]
    simp
/-- one more letter behind -/
theorem tree_snoc : ∀ (n : Nat) (u v : List Nat) (c : Nat), u.length ≤ n → tree u = tree v → tree (u ++ [c]) = tree (v ++ [c]) := by
  intro n
  induction n with
  | zero =>
    intro u v c hl h
    have hu : u = [] := List.length_eq_zero_iff.mp (by omega)
    subst hu
    rw [tree_nil (v := v) (by rw [← h]; rfl)]
  | succ n ih =>
    intro u v c hl h
    by_cases hu : u = []
    · subst hu
      rw [tree_nil (v := v) (by rw [← h]; rfl)]
    have hv : v ≠ [] := fun e => hu (tree_nil (by rw [h, e]; rfl))
    obtain ⟨b, s, e⟩ := sufP_ne hu
    obtain ⟨b', s', e'⟩ := sufP_ne hv
    have hp := tree_parts h
    have hs : b = b' ∧ tree s = tree s' := by
      have := hp.2
      unfold sufT at this
      rw [e, e'] at this
      simpa using this
    obtain ⟨rfl, hs⟩ := hs
    have hl' := sufP_lt e
    have IH := ih s s' c (by omega) hs
    refine tree_of ?_ ?_
    · rw [preT_snoc, preT_snoc]
      by_cases hc : c ∈ u
      · rw [if_pos hc, if_pos ((tree_mem h c).mp hc)]; exact hp.1
      · rw [if_neg hc, if_neg (fun q => hc ((tree_mem h c).mpr q)), h]
    · unfold sufT
      rw [sufP_snoc e, sufP_snoc e']
      by_cases hb : b = c
      · rw [if_pos hb, if_pos hb]
        exact (tree_parts IH).2
      · rw [if_neg hb, if_neg hb]
        simp only [Option.map_some]
        rw [IH]
/-- what is said twice is said once -/
theorem tree_idem {e : List Nat} : ∀ x : List Nat, tree (x ++ e ++ e) = tree (x ++ e) := by
  intro x
  have pre : preT (x ++ e ++ e) = preT (x ++ e) := by
    unfold preT
    have : sufP (x ++ e ++ e).reverse = sufP (x ++ e).reverse := by
      rw [List.reverse_append]
      exact sufP_absorb fun a ha => by
        rw [List.reverse_append]; exact List.mem_append.mpr (.inl ha)
    rw [this]
  induction x with
  | nil =>
    refine tree_of pre ?_
    unfold sufT
    rw [List.nil_append, sufP_absorb fun a ha => ha]
  | cons d x ih =>
    refine tree_of pre ?_
    have pre' : preT (x ++ e ++ e) = preT (x ++ e) := by
      unfold preT
      have : sufP (x ++ e ++ e).reverse = sufP (x ++ e).reverse := by
        rw [List.reverse_append]
        exact sufP_absorb fun a ha => by
          rw [List.reverse_append]; exact List.mem_append.mpr (.inl ha)
      rw [this]
    have IH := ih pre'
    unfold sufT
    rw [List.cons_append, List.cons_append, sufP, sufP]
    by_cases h : d ∈ x ++ e
    · rw [if_pos h, if_pos (List.mem_append.mpr (.inl h))]
      exact (tree_parts IH).2
    · rw [if_neg h, if_neg (fun q => h (by
        rcases List.mem_append.mp q with q | q
        · exact q
        · exact List.mem_append.mpr (.inr q)))]
      simp only [Option.map_some]
      rw [IH]
def render : T → List Nat
  | .nil => []
  | .node l a b r => [40] ++ render l ++ [a] ++ [44] ++ [b] ++ render r ++ [41]
def code (w : List Nat) : List Nat := render (tree w)
end Mine
namespace Mine
theorem take1 (x : List Nat) (i a : Nat) : (x.drop i).take 1 = [a] ↔ x[i]? = some a := by
  have e : x[i]? = (x.drop i)[0]? := by rw [List.getElem?_drop]; simp
  rw [e]
  cases x.drop i with
  | nil => simp
  | cons b r => simp
theorem at1 (x : List Nat) (i a : Nat) : atB x [a] x.length i = true ↔ x[i]? = some a := by
  unfold atB
  rw [Bool.and_eq_true, decide_eq_true_iff, beq_iff_eq, List.length_singleton, take1]
  constructor
  · exact fun h => h.2
  · intro h
    exact ⟨(List.getElem?_eq_some_iff.mp h).1, h⟩
theorem find_first {x p y : List Nat} {a : Nat} (e : x = p ++ a :: y) (h : a ∉ p) : findB x [a] 0 x.length = some p.length := by
  have h1 : x[p.length]? = some a := by rw [e]; simp
  cases q : findB x [a] 0 x.length with
  | none =>
    have := findB_none q p.length (Nat.zero_le _)
    rw [(at1 x p.length a).mpr h1] at this; cases this
  | some i =>
    have hs := findB_some q
    have hi : x[i]? = some a := (take1 x i a).mp hs.2.2.1
    have hle : i ≤ p.length := by
      apply Nat.le_of_not_lt
      intro hlt
      have := hs.2.2.2 p.length (Nat.zero_le _) hlt
      rw [(at1 x p.length a).mpr h1] at this; cases this
    by_cases hlt : i < p.length
    · rw [e, List.getElem?_append_left hlt] at hi
      exact absurd (List.mem_of_getElem? hi) h
    · rw [show i = p.length by omega]
theorem find_none {x : List Nat} {a : Nat} : (findB x [a] 0 x.length).isSome = true ↔ a ∈ x := by
  constructor
  · intro h
    obtain ⟨i, q⟩ := Option.isSome_iff_exists.mp h
    have hs := findB_some q
    exact List.mem_of_getElem? ((take1 x i a).mp hs.2.2.1)
  · intro h
    obtain ⟨i, hi⟩ := List.getElem?_of_mem h
    cases q : findB x [a] 0 x.length with
    | some j => rfl
    | none =>
      have := findB_none q i (Nat.zero_le _)
      rw [(at1 x i a).mpr hi] at this; cases this
theorem rfind_some {x : List Nat} {a i : Nat} (h : rfindB x [a] = some i) : x[i]? = some a ∧ ∀ j, i < j → x[j]? ≠ some a := by
  unfold rfindB at h
  obtain ⟨h1, h2⟩ := List.find?_eq_some_iff_append.mp h
  refine ⟨(at1 x i a).mp h1, fun j hj q => ?_⟩
  obtain ⟨as, bs, e, h3⟩ := h2
  have hjl : j < x.length := (List.getElem?_eq_some_iff.mp q).1
  have hm : j ∈ (List.range' 0 (x.length + 1)).reverse := by rw [List.mem_reverse, List.mem_range'_1]; omega
  rw [e] at hm
  rcases List.mem_append.mp hm with hm | hm
  · have := h3 j hm
    rw [(at1 x j a).mpr q] at this; cases this
  · have pw : (List.range' 0 (x.length + 1)).reverse.Pairwise (· > ·) := by
      rw [List.pairwise_reverse]
      exact List.pairwise_lt_range'
    rw [e] at pw
    have pw2 := (List.pairwise_append.mp pw).2.1
    rcases List.mem_cons.mp hm with rfl | hm
    · omega
    · have := (List.pairwise_cons.mp pw2).1 j hm
      omega
theorem rfind_last {x z s : List Nat} {b : Nat} (e : x = z ++ b :: s) (h : b ∉ s) : rfindB x [b] = some z.length := by
  have h1 : x[z.length]? = some b := by rw [e]; simp
  cases q : rfindB x [b] with
  | none =>
    unfold rfindB at q
    rw [List.find?_eq_none] at q
    have := q z.length (by rw [List.mem_reverse, List.mem_range'_1]; have := (List.getElem?_eq_some_iff.mp h1).1; omega)
    rw [(at1 x z.length b).mpr h1] at this; exact absurd rfl this
  | some i =>
    have hs := rfind_some q
    by_cases hlt : i < z.length
    · exact absurd h1 (hs.2 _ hlt)
    · by_cases he : i = z.length
      · rw [he]
      · have hi := hs.1
        rw [e, List.getElem?_append_right (by omega)] at hi
        have : i - z.length = (i - z.length - 1) + 1 := by omega
        rw [this, List.getElem?_cons_succ] at hi
        exact absurd (List.mem_of_getElem? hi) h
theorem maxI_is {l : List Int} {m : Int} (h1 : m ∈ l) (h2 : ∀ x ∈ l, x ≤ m) : maxI l = m := by
  have key : ∀ (l : List Int) (s : Int), s ≤ m → (∀ x ∈ l, x ≤ m) → (s = m ∨ m ∈ l) → l.foldl max s = m := by
    intro l
    induction l with
    | nil => intro s _ _ h; rcases h with h | h; exact h; cases h
    | cons x r ih =>
      intro s hs hx h
      have hxm := hx x List.mem_cons_self
      refine ih (max s x) (by omega) (fun y hy => hx y (List.mem_cons_of_mem _ hy)) ?_
      rcases h with h | h
      · left; omega
      · rcases List.mem_cons.mp h with h | h
        · left; omega
        · exact .inr h
  cases l with
  | nil => cases h1
  | cons x r => exact key (x :: r) x (h2 x List.mem_cons_self) h2 (.inr h1)
theorem minI_is {l : List Int} {m : Int} (h1 : m ∈ l) (h2 : ∀ x ∈ l, m ≤ x) : minI l = m := by
  have key : ∀ (l : List Int) (s : Int), m ≤ s → (∀ x ∈ l, m ≤ x) → (s = m ∨ m ∈ l) → l.foldl min s = m := by
    intro l
    induction l with
    | nil => intro s _ _ h; rcases h with h | h; exact h; cases h
    | cons x r ih =>
      intro s hs hx h
      have hxm := hx x List.mem_cons_self
      refine ih (min s x) (by omega) (fun y hy => hx y (List.mem_cons_of_mem _ hy)) ?_
      rcases h with h | h
      · left; omega
      · rcases List.mem_cons.mp h with h | h
        · left; omega
        · exact .inr h
  cases l with
  | nil => cases h1
  | cons x r => exact key (x :: r) x (h2 x List.mem_cons_self) h2 (.inr h1)
def abo : List Nat := [97, 98, 111]
def signsOf (x : List Nat) : List Nat := abo.filter fun a => (findB x [a] 0 x.length).isSome
/-- a word's two sides, as the law finds them -/
theorem sides {x : List Nat} (h : x ≠ []) (hx : ∀ a ∈ x, a ∈ abo) : ∃ p a y z b s, x = p ++ a :: y ∧ x = z ++ b :: s ∧ code x = [40] ++ code p ++ [a] ++ [44] ++ [b] ++ code s ++ [41] ∧
    maxI ((signsOf x).map fun d => optI (findB x [d] 0 x.length)) = p.length ∧ minI ((signsOf x).map fun d => optI (rfindB x [d])) = z.length ∧ signsOf x ≠ [] := by
  obtain ⟨a, p, b, s, e1, e2, e⟩ := tree_node h
  obtain ⟨y, ey, h1, h2⟩ := sufP_some e1
  obtain ⟨z, ez, h3, h4⟩ := sufP_some e2
  have ex : x = p.reverse ++ a :: y.reverse := by
    have := congrArg List.reverse ey
    rw [List.reverse_reverse] at this
    rw [this]; simp
  have ha : a ∈ x := by rw [ex]; simp
  have hb : b ∈ x := by rw [ez]; simp
  have hin : ∀ d, d ∈ signsOf x ↔ d ∈ abo ∧ d ∈ x := fun d => by unfold signsOf; rw [List.mem_filter, find_none]
  have fa : findB x [a] 0 x.length = some p.reverse.length := find_first ex (by simpa using h1)
  have fb : rfindB x [b] = some z.length := rfind_last ez h3
  refine ⟨p.reverse, a, y.reverse, z, b, s, ex, ez, by unfold code; rw [e]; rfl, maxI_is ?_ ?_, minI_is ?_ ?_, ?_⟩
  · exact List.mem_map.mpr ⟨a, (hin a).mpr ⟨hx a ha, ha⟩, by rw [fa]; rfl⟩
  · intro q hq
    obtain ⟨d, hd, rfl⟩ := List.mem_map.mp hq
    have hdx := ((hin d).mp hd).2
    obtain ⟨i, hi⟩ := Option.isSome_iff_exists.mp (find_none.mpr hdx)
    rw [hi]
    have hs := findB_some hi
    have hda : d = a ∨ d ∈ p := by
      have : d ∈ x.reverse := List.mem_reverse.mpr hdx
      rw [ey] at this
      rcases List.mem_append.mp this with q | q
      · exact List.mem_cons.mp (h2 d q)
      · exact List.mem_cons.mp q
    show (i : Int) ≤ _
    rcases hda with rfl | hdp
    · rw [fa] at hi; cases hi; exact Int.le_refl _
    · obtain ⟨j, hj⟩ := List.getElem?_of_mem (List.mem_reverse.mpr hdp)
      have hjl : j < p.reverse.length := (List.getElem?_eq_some_iff.mp hj).1
      have hjx : x[j]? = some d := by rw [ex, List.getElem?_append_left hjl]; exact hj
      have : i ≤ j := by
        apply Nat.le_of_not_lt
        intro hlt
        have := hs.2.2.2 j (Nat.zero_le _) hlt
        rw [(at1 x j d).mpr hjx] at this; cases this
      omega
  · exact List.mem_map.mpr ⟨b, (hin b).mpr ⟨hx b hb, hb⟩, by rw [fb]; rfl⟩
  · intro q hq
    obtain ⟨d, hd, rfl⟩ := List.mem_map.mp hq
    have hdx := ((hin d).mp hd).2
    have hdb : d ∈ b :: s := by
      have := hdx
      rw [ez] at this
      rcases List.mem_append.mp this with q | q
      · exact h4 d q
      · exact q
    obtain ⟨j, hj⟩ := List.getElem?_of_mem hdb
    have hjx : x[z.length + j]? = some d := by rw [ez, List.getElem?_append_right (by omega)]; simpa using hj
    cases hr : rfindB x [d] with
    | none =>
      unfold rfindB at hr
      rw [List.find?_eq_none] at hr
      have := hr (z.length + j) (by rw [List.mem_reverse, List.mem_range'_1]; have := (List.getElem?_eq_some_iff.mp hjx).1; omega)
      rw [(at1 x _ d).mpr hjx] at this; exact absurd rfl this
    | some i =>
      have hs := rfind_some hr
      show (z.length : Int) ≤ (i : Int)
      have : ¬ i < z.length + j := fun hlt => hs.2 _ hlt hjx
      omega
  · intro q
    have := (hin a).mpr ⟨hx a ha, ha⟩
    rw [q] at this; cases this
theorem code_len : ∀ (n : Nat) (w : List Nat), w.length ≤ n → (code w).length + 5 ≤ 5 * 2 ^ w.length
  | n, [], _ => by rw [show code [] = [] from rfl]; simp
  | 0, c :: r, h => by simp at h
  | n + 1, c :: r, h => by
    obtain ⟨a, p, b, s, e1, e2, e⟩ := tree_node (w := c :: r) (by simp)
    have l1 := sufP_lt e1
    have l2 := sufP_lt e2
    rw [List.length_reverse] at l1
    have e' : code (c :: r) = [40] ++ code p.reverse ++ [a] ++ [44] ++ [b] ++ code s ++ [41] := by unfold code; rw [e]; rfl
    have h1 := code_len n p.reverse (by rw [List.length_reverse]; omega)
    have h2 := code_len n s (by omega)
    rw [List.length_reverse] at h1
    have m1 : 2 ^ p.length ≤ 2 ^ r.length := Nat.pow_le_pow_right (by decide) (by simp at l1; omega)
    have m2 : 2 ^ s.length ≤ 2 ^ r.length := Nat.pow_le_pow_right (by decide) (by simp at l2; omega)
    rw [e']
    simp only [List.length_append, List.length_cons, List.length_nil]
    rw [Nat.pow_succ]
    omega
end Mine
namespace Mine
theorem findB_iff {x y : List Nat} {lo hi : Nat} : (findB x y lo hi).isSome = true ↔ ∃ j, lo ≤ j ∧ j + y.length ≤ hi ∧ (x.drop j).take y.length = y := by
  constructor
  · intro h
    obtain ⟨i, q⟩ := Option.isSome_iff_exists.mp h
    have := findB_some q
    exact ⟨i, this.1, this.2.1, this.2.2.1⟩
  · rintro ⟨j, h1, h2, h3⟩
    cases q : findB x y lo hi with
    | some i => rfl
    | none =>
      have := findB_none q j h1
      unfold atB at this
      rw [h3] at this
      simp at this
      omega
/- ---- words without dots ---- -/
def noDot (w : List Nat) : Prop := ∀ a ∈ w, a ≠ 46
theorem splitD_nd : ∀ (u r cur : List Nat), noDot u → splitD (u ++ r) cur = splitD r (cur ++ u)
  | [], r, cur, _ => by simp
  | a :: u, r, cur, h => by
    have ha : a ≠ 46 := h a List.mem_cons_self
    rw [List.cons_append, splitD_plain _ _ _ (by
      intro e
      have : (a :: (u ++ r)).take 3 = a :: (u ++ r).take 2 := rfl
      rw [this] at e
      injection e with e1 _
      exact ha e1), splitD_nd u r _ fun b hb => h b (List.mem_cons_of_mem _ hb)]
    simp
theorem splitD_end (u cur : List Nat) (h : noDot u) : splitD u cur = [cur ++ u] := by
  have := splitD_nd u [] cur h
  rw [List.append_nil] at this
  rw [this, splitD]
theorem splitD_next (u r cur : List Nat) (h : noDot u) : splitD (u ++ dots ++ r) cur = (cur ++ u) :: splitD r [] := by
  rw [List.append_assoc, splitD_nd u _ _ h]
  exact splitD_dots r _
theorem hasDots (u r : List Nat) : (findB (u ++ dots ++ r) dots 0 (u ++ dots ++ r).length).isSome = true := by
  rw [findB_iff]
  refine ⟨u.length, Nat.zero_le _, by simp, ?_⟩
  rw [List.append_assoc, List.drop_left]
  rfl
theorem findB_nil (x : List Nat) {lo hi : Nat} (h : lo ≤ hi) : findB x [] lo hi = some lo := by
  cases q : findB x [] lo hi with
  | none =>
    have := findB_none q lo (Nat.le_refl _)
    unfold atB at this
    simp at this
    omega
  | some i =>
    have hs := findB_some q
    by_cases e : lo < i
    · have := hs.2.2.2 lo (Nat.le_refl _) e
      unfold atB at this
      simp at this
      omega
    · rw [show i = lo by omega]
/-- dots and a word: does the text end with it -/
theorem ell_suf {e t : List Nat} (he : noDot e) : ellB (dots ++ e) t = sufB e t := by
  have hd := hasDots [] e
  simp only [List.nil_append] at hd
  have hs : splitD (dots ++ e) [] = [[], e] := by
    have := splitD_next [] e [] (fun a h => by cases h)
    simp only [List.nil_append] at this
    rw [this, splitD_end e [] he]; rfl
  unfold ellB
  rw [hd, if_neg (by simp), hs]
  simp only [List.headD_cons, preB_nil, ws1, List.getLastD_cons, List.getLastD_nil, List.length_nil, Nat.zero_add, if_true]
  rw [if_neg (by simp)]
  cases hsf : sufB e t with
  | false => rw [if_pos rfl]
  | true =>
    have hl := sufB_le hsf
    rw [if_neg (by simp), if_neg (by omega)]
    unfold ws2
    by_cases e0 : e = []
    · subst e0
      simp [ellGo, findB_nil]
    · simp only [List.getLastD_cons, List.getLastD_nil]
      rw [if_neg e0]
      simp [ellGo, findB_nil]
/-- dots about a word: is it found in the text -/
theorem ell_in {e t : List Nat} (he : noDot e) : ellB (dots ++ e ++ dots) t = (findB t e 0 t.length).isSome := by
  have hd := hasDots [] (e ++ dots)
  simp only [List.nil_append, ← List.append_assoc] at hd
  have hs : splitD (dots ++ e ++ dots) [] = [[], e, []] := by
    have := splitD_next [] (e ++ dots) [] (fun a h => by cases h)
    simp only [List.nil_append, ← List.append_assoc] at this
    rw [this]
    have h2 := splitD_next e [] [] he
    simp only [List.append_nil, List.nil_append] at h2
    rw [h2]; rfl
  unfold ellB
  rw [hd, if_neg (by simp), hs]
  simp [preB_nil, ws1, ws2, sufB_nil, ellGo, findB_nil]
  cases q : findB t e 0 t.length with
  | none => rfl
  | some i =>
    have := findB_some q
    simp [findB_nil _ this.2.1]
/-- dots about two words: is the second found behind the first -/
theorem ell_two {e f t : List Nat} (he : noDot e) (hf : noDot f) : ellB (dots ++ e ++ dots ++ f ++ dots) t = match findB t e 0 t.length with
    | some i => (findB t f (i + e.length) t.length).isSome
    | none => false := by
  have hd := hasDots [] (e ++ dots ++ f ++ dots)
  simp only [List.nil_append, ← List.append_assoc] at hd
  have hs : splitD (dots ++ e ++ dots ++ f ++ dots) [] = [[], e, f, []] := by
    have := splitD_next [] (e ++ dots ++ f ++ dots) [] (fun a h => by cases h)
    simp only [List.nil_append, ← List.append_assoc] at this
    rw [this]
    have h2 := splitD_next e (f ++ dots) [] he
    simp only [List.nil_append, ← List.append_assoc] at h2
    rw [h2]
    have h3 := splitD_next f [] [] hf
    simp only [List.append_nil, List.nil_append] at h3
    rw [h3]; rfl
  unfold ellB
  rw [hd, if_neg (by simp), hs]
  simp [preB_nil, ws1, ws2, sufB_nil, ellGo, findB_nil]
  cases q : findB t e 0 t.length with
  | none => rfl
  | some i =>
    dsimp only
    cases q2 : findB t f (i + e.length) t.length with
    | none => rfl
    | some j =>
      have := findB_some q2
      simp [findB_nil _ this.2.1]
/-- a word, dots, a word: does the text begin and end so -/
theorem ell_ends {e f t : List Nat} (he : noDot e) (hf : noDot f) (he0 : e ≠ []) (hf0 : f ≠ []) : ellB (e ++ dots ++ f) t = (preB e t && sufB f t && decide (e.length + f.length ≤ t.length)) := by
  have hd := hasDots e f
  have hs : splitD (e ++ dots ++ f) [] = [e, f] := by
    rw [splitD_next e f [] he, splitD_end f [] hf]; rfl
  unfold ellB
  rw [hd, if_neg (by simp), hs]
  simp only [List.headD_cons, ws1, he0, if_false, List.tail_cons, List.getLastD_cons, List.getLastD_nil]
  cases preB e t with
  | false => simp
  | true =>
    cases sufB f t with
    | false => simp
    | true =>
      simp only [Bool.true_and, Bool.true_eq_false, if_false]
      by_cases h : t.length < e.length + f.length
      · rw [if_pos h, decide_eq_false (by omega)]
      · rw [if_neg h, decide_eq_true (by omega)]
        simp [ws2, hf0, ellGo]
/- ---- what is said twice ---- -/
def sqAt (w : List Nat) (a p : Nat) : Prop := a + 2 * p ≤ w.length ∧ ∀ i, a ≤ i → i < a + p → w[i]? = w[i + p]?
def sqf (w : List Nat) : Prop := ∀ a p, 0 < p → ¬ sqAt w a p
theorem sqf_nil : sqf [] := fun a p h x => by
  have := x.1
  exact absurd (Nat.le_trans (Nat.le_add_left (2 * p) a) this) (Nat.not_le_of_lt (Nat.mul_pos (by decide) h))
theorem in_two {a p n i : Nat} (h : a + 2 * p ≤ n) (hi : i < a + p) : i + p < n := by omega
theorem in_one {a p n i : Nat} (h : a + 2 * p ≤ n) (hi : i < a + p) : i < n := Nat.lt_of_le_of_lt (Nat.le_add_right _ _) (in_two h hi)
theorem sqf_take {w : List Nat} (n : Nat) (h : sqf w) : sqf (w.take n) := fun a p hp x => by
  have hl := x.1
  rw [List.length_take] at hl
  refine h a p hp ⟨Nat.le_trans hl (Nat.min_le_right _ _), fun i h1 h2 => ?_⟩
  have := x.2 i h1 h2
  have hl := Nat.le_trans hl (Nat.min_le_left _ _)
  rw [List.getElem?_take, List.getElem?_take, if_pos (in_one hl h2), if_pos (in_two hl h2)] at this
  exact this
theorem twice_at {x e : List Nat} {j : Nat} : j + 2 * e.length ≤ x.length → ((x.drop j).take (e ++ e).length = e ++ e) → sqAt x j e.length := fun hl h => by
  refine ⟨hl, fun i h1 h2 => ?_⟩
  obtain ⟨k, rfl⟩ := Nat.le.dest h1
  have h2 := Nat.lt_of_add_lt_add_left h2
  have key : ∀ k, k < e.length + e.length → x[j + k]? = (e ++ e)[k]? := fun k hk => by
    rw [← h, List.getElem?_take, if_pos (by rw [List.length_append]; exact hk), List.getElem?_drop]
  rw [Nat.add_assoc, key k (Nat.lt_add_right _ h2), key (k + e.length) (Nat.add_lt_add_right h2 _), List.getElem?_append_left h2, List.getElem?_append_right (Nat.le_add_left _ _), Nat.add_sub_cancel]
theorem at_twice {x : List Nat} {j m : Nat} (h : sqAt x j m) : (x.drop j).take (m + m) = (x.drop (j + m)).take m ++ (x.drop (j + m)).take m := by
  rw [List.take_add, List.drop_drop]
  congr 1
  apply List.ext_getElem?
  intro k
  rw [List.getElem?_take, List.getElem?_take, List.getElem?_drop, List.getElem?_drop]
  by_cases h1 : k < m
  · rw [if_pos h1, if_pos h1, h.2 (j + k) (Nat.le_add_right _ _) (Nat.add_lt_add_left h1 _), Nat.add_right_comm]
  · rw [if_neg h1, if_neg h1]
theorem halves {n m : Nat} (h : 2 * m ≤ n) : ∃ u, n = u + m + m := ⟨n - 2 * m, by omega⟩
theorem sub_dbl (u m : Nat) : u + m + m - 2 * m = u := by omega
/-- the text's end of size m said twice -/
theorem suf_twice {t : List Nat} {m : Nat} (hm : 2 * m ≤ t.length) : sufB (t.drop (t.length - m) ++ t.drop (t.length - m)) t = true ↔ sqAt t (t.length - 2 * m) m := by
  obtain ⟨u, hu⟩ := halves hm
  have e1 : t.length - m = u + m := by rw [hu]; exact Nat.add_sub_cancel ..
  have e2 : t.length - 2 * m = u := by rw [hu]; exact sub_dbl u m
  rw [e1, e2]
  have le : (t.drop (u + m)).length = m := by rw [List.length_drop, hu]; exact Nat.add_sub_cancel_left ..
  have e0 : t.length - (t.drop (u + m) ++ t.drop (u + m)).length = u := by rw [List.length_append, le, hu, Nat.add_assoc]; exact Nat.add_sub_cancel ..
  have lu : (t.drop u).length ≤ m + m := by rw [List.length_drop, hu, Nat.add_assoc, Nat.add_sub_cancel_left]; exact Nat.le_refl _
  unfold sufB
  rw [Bool.and_eq_true, decide_eq_true_iff, beq_iff_eq, e0]
  constructor
  · rintro ⟨_, h⟩
    have := twice_at (x := t) (e := t.drop (u + m)) (j := u) (by rw [le, hu, Nat.two_mul, Nat.add_assoc]; exact Nat.le_refl _) (by
      rw [List.length_append, le, h, List.take_of_length_le (by rw [List.length_append, le]; exact Nat.le_refl _)])
    rwa [le] at this
  · intro h
    refine ⟨by rw [List.length_append, le, hu, Nat.add_assoc]; exact Nat.le_add_left _ _, ?_⟩
    have := at_twice h
    rw [List.take_of_length_le lu] at this
    rw [this, List.take_of_length_le (by rw [le]; exact Nat.le_refl _)]
theorem two_sq {x : Nat → Option Nat} {n u v p q : Nat} (e1 : n + 1 = u + 2 * p) (e2 : n + 1 = v + 2 * q) (hp : 0 < p) (hpq : p < q) (b1 : ∀ i, u ≤ i → i < u + p → x i = x (i + p)) (b2 : ∀ i, v ≤ i → i < v + q → x i = x (i + q)) :
    ∃ a m, 0 < m ∧ a + 2 * m ≤ n ∧ ∀ i, a ≤ i → i < a + m → x i = x (i + m) := by
  by_cases hc : 2 * p ≤ q
  · obtain ⟨d, rfl⟩ := Nat.le.dest hc
    obtain rfl : u = v + 2 * p + 2 * d := by clear b1 b2; omega
    refine ⟨v + d, p, hp, by clear b1 b2; omega, fun i h1 h2 => ?_⟩
    rw [b2 i (Nat.le_trans (Nat.le_add_right _ _) h1) (by clear b1 b2 e1 e2 hp hpq hc h1; omega), b2 (i + p) (by clear b1 b2 e1 e2 hp hpq hc h2; omega) (by clear b1 b2 e1 e2 hp hpq hc h1; omega), b1 _ (by clear b1 b2 e1 e2 hp hpq hc h2; omega) (by clear b1 b2 e1 e2 hp hpq hc h1; omega), Nat.add_right_comm]
  · obtain ⟨d, rfl⟩ := Nat.le.dest (Nat.le_of_lt hpq)
    obtain rfl : u = v + 2 * d := by clear b1 b2; omega
    refine ⟨v + p, d, Nat.pos_of_lt_add_right hpq, by clear b1 b2; omega, fun i h1 h2 => ?_⟩
    rw [b2 i (Nat.le_trans (Nat.le_add_right _ _) h1) (by rw [← Nat.add_assoc]; exact h2), b1 (i + d) (by clear b1 b2 e1 e2 hp h2; omega) (by clear b1 b2 e1 e2 hp hpq hc h1; omega), Nat.add_assoc, Nat.add_comm d p]
/-- one letter behind a word in which nothing is said twice: of its ends one at most is said twice -/
theorem one_twice {l : List Nat} {c p q : Nat} (hl : sqf l) (hp : 0 < p) (hpq : p < q) (h1 : sqAt (l ++ [c]) ((l ++ [c]).length - 2 * p) p) (h2 : sqAt (l ++ [c]) ((l ++ [c]).length - 2 * q) q) : False := by
  have hn : (l ++ [c]).length = l.length + 1 := List.length_append
  obtain ⟨a1, b1⟩ := h1
  obtain ⟨a2, b2⟩ := h2
  rw [hn] at a1 a2 b1 b2
  have back : ∀ k, l.length + 1 - k + k ≤ l.length + 1 → l.length + 1 = l.length + 1 - k + k := fun k h => Nat.le_antisymm (Nat.sub_le_iff_le_add.mp (Nat.le_refl _)) h
  obtain ⟨a, m, hm, ha, hb⟩ := two_sq (x := fun i => (l ++ [c])[i]?) (n := l.length) (back _ a1) (back _ a2) hp hpq b1 b2
  refine hl a m hm ⟨ha, fun i h1 h2 => ?_⟩
  have : (l ++ [c])[i]? = (l ++ [c])[i + m]? := hb i h1 h2
  rw [List.getElem?_append_left (in_one ha h2), List.getElem?_append_left (in_two ha h2)] at this
  exact this
/-- no end said twice: nothing is -/
theorem sqf_snoc {l : List Nat} {c : Nat} (hl : sqf l) (h : ∀ m, 0 < m → 2 * m ≤ (l ++ [c]).length → ¬ sqAt (l ++ [c]) ((l ++ [c]).length - 2 * m) m) : sqf (l ++ [c]) := fun a p hp x => by
  have hn : (l ++ [c]).length = l.length + 1 := List.length_append
  have ha := x.1
  by_cases e : a + 2 * p = (l ++ [c]).length
  · refine h p hp (by rw [← e]; exact Nat.le_add_left _ _) ?_
    rw [← e, Nat.add_sub_cancel]
    exact x
  · have hq : a + 2 * p ≤ l.length := Nat.le_of_lt_succ (by rw [hn] at ha e; exact Nat.lt_of_le_of_ne ha e)
    refine hl a p hp ⟨hq, fun i h1 h2 => ?_⟩
    have := x.2 i h1 h2
    rw [List.getElem?_append_left (in_one hq h2), List.getElem?_append_left (in_two hq h2)] at this
    exact this
end Mine
namespace Mine
def fits (t : List Nat) (m : Nat) : Bool := sufB (t.drop (t.length - m) ++ t.drop (t.length - m)) t
def sizeTo (t : List Nat) : Nat → Nat
  | 0 => 0
  | k + 1 => if fits t (k + 1) = true then sizeTo t k + (k + 1) else sizeTo t k
def sizeP (t : List Nat) : Nat := sizeTo t (t.length / 2)
theorem size_to {l : List Nat} {c : Nat} (hl : sqf l) : ∀ k, 2 * k ≤ (l ++ [c]).length → (sizeTo (l ++ [c]) k = 0 ∧ ∀ m, 0 < m → m ≤ k → fits (l ++ [c]) m = false) ∨ (0 < sizeTo (l ++ [c]) k ∧ sizeTo (l ++ [c]) k ≤ k ∧ fits (l ++ [c]) (sizeTo (l ++ [c]) k) = true)
  | 0, _ => .inl ⟨rfl, fun m h1 h2 => by omega⟩
  | k + 1, h => by
    have ih := size_to hl k (c := c) (by omega)
    unfold sizeTo
    cases hf : fits (l ++ [c]) (k + 1) with
    | false =>
      rw [if_neg (by simp)]
      rcases ih with ⟨h1, h2⟩ | ⟨h1, h2, h3⟩
      · refine .inl ⟨h1, fun m m1 m2 => ?_⟩
        by_cases e : m = k + 1
        · rw [e]; exact hf
        · exact h2 m m1 (by omega)
      · exact .inr ⟨h1, by omega, h3⟩
    | true =>
      rw [if_pos rfl]
      rcases ih with ⟨h1, h2⟩ | ⟨h1, h2, h3⟩
      · rw [h1, Nat.zero_add]
        exact .inr ⟨by omega, by omega, hf⟩
      · exfalso
        unfold fits at hf h3
        rw [suf_twice (by omega)] at hf h3
        exact one_twice hl h1 (by omega) h3 hf
theorem size_le {l : List Nat} {c : Nat} (hl : sqf l) : ∀ k, 2 * k ≤ (l ++ [c]).length → sizeTo (l ++ [c]) k ≤ k := fun k h => by
  rcases size_to hl k h with ⟨h1, _⟩ | ⟨_, h2, _⟩
  · omega
  · exact h2
def stepP (l : List Nat) (c : Nat) : List Nat := (l ++ [c]).take ((l ++ [c]).length - sizeP (l ++ [c]))
theorem dbl_le {m n : Nat} (h : m ≤ n / 2) : 2 * m ≤ n := by omega
theorem half_le {m n : Nat} (h : 2 * m ≤ n) : m ≤ n := by omega
theorem um_le {l u m : Nat} (h : l + 1 = u + m + m) (h1 : 0 < m) : u + m ≤ l := by omega
theorem step_facts {l : List Nat} {c : Nat} (hl : sqf l) : 2 * sizeP (l ++ [c]) ≤ (l ++ [c]).length ∧ sqf (stepP l c) ∧ tree (stepP l c) = tree (l ++ [c]) ∧ sufB ((l ++ [c]).drop ((l ++ [c]).length - sizeP (l ++ [c]))) (stepP l c) = true ∧
    stepP l c ++ (l ++ [c]).drop ((l ++ [c]).length - sizeP (l ++ [c])) = l ++ [c] ∧ (stepP l c).length = (l ++ [c]).length - sizeP (l ++ [c]) ∧ (stepP l c).drop ((stepP l c).length - sizeP (l ++ [c])) = (l ++ [c]).drop ((l ++ [c]).length - sizeP (l ++ [c])) := by
  have h := size_to (c := c) hl ((l ++ [c]).length / 2) (by omega)
  have hs : sizeP (l ++ [c]) = sizeTo (l ++ [c]) ((l ++ [c]).length / 2) := rfl
  rw [← hs] at h
  unfold stepP
  have hn : (l ++ [c]).length = l.length + 1 := by simp
  generalize ht : l ++ [c] = t at *
  rcases h with ⟨h1, h2⟩ | ⟨h1, h2, h3⟩
  · rw [h1, Nat.sub_zero, List.take_length, List.drop_length]
    refine ⟨by omega, ?_, rfl, sufB_nil t, by simp, rfl, by simp⟩
    rw [← ht]
    refine sqf_snoc hl fun m m1 m2 => ?_
    rw [ht] at m2 ⊢
    have := h2 m m1 (by omega)
    unfold fits at this
    rw [← suf_twice m2]
    rw [this]; simp
  · unfold fits at h3
    generalize sizeP t = m at *
    have h2' : 2 * m ≤ t.length := dbl_le h2
    have h4 := at_twice ((suf_twice h2').mp h3)
    obtain ⟨u, hu⟩ := halves h2'
    have e1 : t.length - m = u + m := by rw [hu]; exact Nat.add_sub_cancel ..
    have e2 : t.length - 2 * m = u := by rw [hu]; exact sub_dbl u m
    rw [e2] at h4
    rw [e1]
    have le : (t.drop (u + m)).length = m := by rw [List.length_drop, hu]; exact Nat.add_sub_cancel_left ..
    have lu : (t.drop u).length ≤ m + m := by rw [List.length_drop, hu, Nat.add_assoc, Nat.add_sub_cancel_left]; exact Nat.le_refl _
    rw [List.take_of_length_le lu, List.take_of_length_le (by rw [le]; exact Nat.le_refl _)] at h4
    have htt : t = t.take u ++ (t.drop (u + m) ++ t.drop (u + m)) := by
      rw [← h4]; exact (List.take_append_drop _ _).symm
    have hx : t.take (u + m) = t.take u ++ t.drop (u + m) := by
      rw [List.take_add, h4, List.take_left' le]
    have hlt : (t.take u).length = u := List.length_take_of_le (by rw [hu, Nat.add_assoc]; exact Nat.le_add_right _ _)
    have hlen : (t.take (u + m)).length = u + m := List.length_take_of_le (by rw [hu]; exact Nat.le_add_right _ _)
    have hdr : (t.take (u + m)).drop u = t.drop (u + m) := by
      rw [hx, List.drop_left' hlt]
    refine ⟨h2', ?_, ?_, ?_, List.take_append_drop _ _, hlen, by rw [hlen, Nat.add_sub_cancel]; exact hdr⟩
    · have : t.take (u + m) = l.take (u + m) := by rw [← ht, List.take_append_of_le_length (um_le (hn.symm.trans hu) h1)]
      rw [this]
      exact sqf_take _ hl
    · have e := tree_idem (e := t.drop (u + m)) (t.take u)
      rw [← hx] at e
      rw [← e]
      congr 1
      rw [hx, List.append_assoc]
      exact htt.symm
    · unfold sufB
      rw [Bool.and_eq_true, decide_eq_true_iff, beq_iff_eq, le, hlen, Nat.add_sub_cancel]
      exact ⟨Nat.le_add_left _ _, hdr⟩
/-- the law's run: rest and log -/
inductive Run : List Nat → List Nat → List Nat → List Nat → Prop
  | nil (l) : Run l [] l []
  | cons {l c r l1 lg} : Run (stepP l c) r l1 lg → Run l (c :: r) l1 (sizeP (l ++ [c]) :: lg)
theorem Run.snoc {l r l1 lg c} (h : Run l r l1 lg) : Run l (r ++ [c]) (stepP l1 c) (lg ++ [sizeP (l1 ++ [c])]) := by
  induction h with
  | nil l => exact .cons (.nil _)
  | cons _ ih => exact .cons ih
theorem Run.facts {l r l1 lg} (h : Run l r l1 lg) (hl : sqf l) : sqf l1 ∧ lg.length = r.length ∧ l1.length ≤ l.length + r.length ∧ (∀ a ∈ l1, a ∈ l ∨ a ∈ r) ∧ ∀ u, tree u = tree l → tree (u ++ r) = tree l1 := by
  induction h with
  | nil l => exact ⟨hl, rfl, by simp, fun a h => .inl h, fun u hu => by rw [List.append_nil]; exact hu⟩
  | cons h ih =>
    rename_i l c r l1 lg
    have sf := step_facts (c := c) hl
    obtain ⟨h1, h2, h3, h4, h5⟩ := ih sf.2.1
    refine ⟨h1, by simp [h2], ?_, fun a ha => ?_, fun u hu => ?_⟩
    · have := sf.2.2.2.2.2.1
      have hn : (l ++ [c]).length = l.length + 1 := by simp
      simp only [List.length_cons]; omega
    · rcases h4 a ha with q | q
      · have : a ∈ l ++ [c] := List.mem_of_mem_take q
        rcases List.mem_append.mp this with q | q
        · exact .inl q
        · exact .inr (by rw [List.mem_singleton.mp q]; exact List.mem_cons_self)
      · exact .inr (List.mem_cons_of_mem _ q)
    · have := h5 (u ++ [c]) (by rw [sf.2.2.1]; exact tree_snoc _ u l c (Nat.le_refl _) hu)
      rw [List.append_assoc] at this
      exact this
/-- the log, played back -/
inductive Back : List Nat → List Nat → List Nat → List Nat → List Nat → Prop
  | nil (l row) : Back l row [] l row
  | snoc {l row lg l' row' s l'' a} : Back l row lg l' row' → s ≤ l'.length → l' ++ l'.drop (l'.length - s) = l'' ++ [a] → Back l row (lg ++ [s]) l'' (a :: row')
theorem Run.back {l r l1 lg} (h : Run l r l1 lg) (hl : sqf l) : Back l1 [] lg.reverse l r := by
  induction h with
  | nil l => exact .nil _ _
  | cons h ih =>
    rename_i l c r l1 lg
    have sf := step_facts (c := c) hl
    rw [List.reverse_cons]
    refine .snoc (ih sf.2.1) ?_ ?_
    · rw [sf.2.2.2.2.2.1]; omega
    · rw [sf.2.2.2.2.2.2]; exact sf.2.2.2.2.1
theorem Run.sizes {l r l1 lg} (h : Run l r l1 lg) (hl : sqf l) : ∀ s ∈ lg, s ≤ l.length + r.length := by
  induction h with
  | nil l => intro s hs; cases hs
  | cons h ih =>
    rename_i l c r l1 lg
    have sf := step_facts (c := c) hl
    have hn : (l ++ [c]).length = l.length + 1 := by simp
    intro s hs
    rcases List.mem_cons.mp hs with rfl | hs
    · simp only [List.length_cons]; omega
    · have := ih sf.2.1 s hs
      have := sf.2.2.2.2.2.1
      simp only [List.length_cons]; omega
end Mine
namespace Mine
def backS (p : List Nat × List Nat) (s : Nat) : List Nat × List Nat := ((p.1 ++ p.1.drop (p.1.length - s)).dropLast, (p.1 ++ p.1.drop (p.1.length - s)).getLastD 0 :: p.2)
theorem Back.fold {l0 x0 lr l x : List Nat} (h : Back l0 x0 lr l x) : lr.foldl backS (l0, x0) = (l, x) ∧ ∀ j s, lr[j]? = some s → s ≤ ((lr.take j).foldl backS (l0, x0)).1.length ∧ ((lr.take j).foldl backS (l0, x0)).1 ++ ((lr.take j).foldl backS (l0, x0)).1.drop (((lr.take j).foldl backS (l0, x0)).1.length - s) ≠ [] := by
  induction h with
  | nil => exact ⟨rfl, fun j s hj => by cases hj⟩
  | snoc h hs e ih =>
    rename_i lg l' row' s l'' a
    obtain ⟨h1, h2⟩ := ih
    refine ⟨?_, fun j s' hj => ?_⟩
    · rw [List.foldl_append, h1, List.foldl_cons, List.foldl_nil]
      unfold backS
      dsimp only
      rw [e]
      simp
    · by_cases hlt : j < lg.length
      · rw [List.getElem?_append_left hlt] at hj
        rw [List.take_append_of_le_length (by omega)]
        exact h2 j s' hj
      · have hj' : j = lg.length := by
          have := (List.getElem?_eq_some_iff.mp hj).1
          simp at this; omega
        subst hj'
        have : s' = s := by simpa using hj.symm
        subst this
        rw [List.take_left' rfl, h1]
        exact ⟨hs, by rw [e]; simp⟩
theorem back_len : ∀ (lr l0 x0 : List Nat), (∀ s ∈ lr, s ≤ 12) → (lr.foldl backS (l0, x0)).1.length ≤ l0.length + 12 * lr.length
  | [], l0, x0, _ => by simp
  | s :: r, l0, x0, h => by
    have hs := h s List.mem_cons_self
    have ih := back_len r (backS (l0, x0) s).1 (backS (l0, x0) s).2 fun y hy => h y (List.mem_cons_of_mem _ hy)
    rw [List.foldl_cons]
    have hl : (backS (l0, x0) s).1.length ≤ l0.length + 12 := by
      unfold backS
      simp only [List.length_dropLast, List.length_append, List.length_drop]
      omega
    simp only [List.length_cons]
    have : (r.foldl backS (backS (l0, x0) s)).1.length ≤ (backS (l0, x0) s).1.length + 12 * r.length := ih
    omega
theorem row_len : ∀ (lr : List Nat) (p : List Nat × List Nat), (lr.foldl backS p).2.length = p.2.length + lr.length
  | [], p => by simp
  | s :: r, p => by
    rw [List.foldl_cons, row_len r]
    simp [backS]; omega
end Mine
namespace Mine
theorem find_shift {x y : List Nat} {j : Nat} (hj : j ≤ x.length) : (findB (x.drop j) y 0 (x.drop j).length).isSome = (findB x y j x.length).isSome := by
  rw [Bool.eq_iff_iff, findB_iff, findB_iff]
  constructor
  · rintro ⟨i, h1, h2, h3⟩
    rw [List.length_drop] at h2
    rw [List.drop_drop] at h3
    exact ⟨j + i, by omega, by omega, h3⟩
  · rintro ⟨i, h1, h2, h3⟩
    refine ⟨i - j, by omega, by rw [List.length_drop]; omega, ?_⟩
    rw [List.drop_drop, show j + (i - j) = i by omega]
    exact h3
theorem single_a {x : List Nat} {k m : Nat} (hx : sqf x) (hm : 0 < m) (hk : k + 2 * m ≤ x.length) : (findB x ((x.drop k).take m ++ (x.drop k).take m) 0 x.length).isSome = false := by
  cases h : (findB x ((x.drop k).take m ++ (x.drop k).take m) 0 x.length).isSome with
  | false => rfl
  | true =>
    obtain ⟨j, _, h2, h3⟩ := findB_iff.mp h
    have hl : ((x.drop k).take m).length = m := by rw [List.length_take, List.length_drop]; omega
    rw [List.length_append, hl] at h2
    have := twice_at (x := x) (e := (x.drop k).take m) (j := j) (by rw [hl]; omega) h3
    rw [hl] at this
    exact absurd this (hx j m hm)
theorem single_b {x : List Nat} {k m : Nat} (hk : k + 2 * m ≤ x.length) : ∃ i, findB x ((x.drop (k + m)).take m) 0 x.length = some i ∧ i + m ≤ x.length := by
  have hl : ((x.drop (k + m)).take m).length = m := by rw [List.length_take, List.length_drop]; omega
  have : (findB x ((x.drop (k + m)).take m) 0 x.length).isSome = true := findB_iff.mpr ⟨k + m, Nat.zero_le _, by rw [hl]; omega, by rw [hl]⟩
  obtain ⟨i, hi⟩ := Option.isSome_iff_exists.mp this
  have hs := findB_some hi
  rw [hl] at hs
  exact ⟨i, hi, hs.2.1⟩
theorem cutL_mid {α : Type} (xs : List α) (a b : Nat) (h1 : a ≤ b) (h : b ≤ xs.length) : cutL xs (some (a : Int)) (some (b : Int)) = (xs.drop a).take (b - a) := by
  have clip : ∀ m : Nat, m ≤ xs.length → clipAt xs.length (m : Int) = m := fun m hm => by
    unfold clipAt
    rw [if_neg (by omega)]
    omega
  unfold cutL
  simp only [Option.elim, clip a (by omega), clip b h]
end Mine
namespace Mine
noncomputable section
def noFd : FuncData := { name := "", qualname := "", params := { posonlyargs := [], args := [], vararg := none, kwonlyargs := [], kw_defaults := [], kwarg := none, defaults := [] }, body := .stmts [], scope := { kind := .function, names := [], isGenerator := false, isCoroutine := false, more := [] }, globals := 0, closure := [], defaults := .none, kwdefaults := .none, pyModule := .none, code := .none }
def fdOf : Option Obj → FuncData
  | some o => match o.data with
    | .func fd => fd
    | _ => noFd
  | none => noFd
def bodyOf (fd : FuncData) : List Stmt := match fd.body with
  | .stmts b => b
  | _ => []
abbrev H2 (w : World) : Frag := heapM w.params
def fd2 (w : World) (a : Addr) : FuncData := fdOf ((H2 w).lookup a)
def es2 (w : World) : Array DictEntry := match (H2 w).lookup 3 with
  | some o => match o.data with
    | .dict es _ => es
    | _ => #[]
  | none => #[]
def mg2 (w : World) (x : Str) : Option Value := nsFind (es2 w) x

/-- the second law's run -/
structure G2 (w : World) (c : Cx) : Prop where
  ok : c.Ok
  K : (H2 w).In c.hB
  X : ∀ a ∈ c.X, (H2 w).lookup a = none
  mg : c.mg = mg2 w
  mb : ∀ x : Str, x ≠ "__name__" → c.mb x = bootBuiltins x
  C : c.C = 122
  gl : GenTab c 88 84
  gs : GenTab c 95 91
  bm : BinM c
  file : c.prog.main.file = "/claim/cut.py"
  sup : (c.prog.main.scope.names.lookup ("super" : Str)).isSome = false

theorem len1 {α : Type} {l : List α} (h : l.length = 1) : ∃ a, l = [a] := by
  cases l with
  | nil => cases h
  | cons a l => cases l with
    | nil => exact ⟨a, rfl⟩
    | cons b l => cases h
theorem len2 {α : Type} {l : List α} (h : l.length = 2) : ∃ a b, l = [a, b] := by
  cases l with
  | nil => cases h
  | cons a l => obtain ⟨b, rfl⟩ := len1 (Nat.succ.inj h); exact ⟨a, b, rfl⟩
theorem len3 {α : Type} {l : List α} (h : l.length = 3) : ∃ a b d, l = [a, b, d] := by
  cases l with
  | nil => cases h
  | cons a l => obtain ⟨b, d, rfl⟩ := len2 (Nat.succ.inj h); exact ⟨a, b, d, rfl⟩
theorem mem2 {α : Type} {P : α → Prop} {a b : α} (ha : P a) (hb : P b) : ∀ x ∈ [a, b], P x := by
  intro x hx
  rcases List.mem_cons.mp hx with rfl | hx
  · exact ha
  · rw [List.mem_singleton.mp hx]; exact hb
theorem noCell {l : List (Str × NameKind)} (h : (l.all fun x => !(x.2 == .cell)) = true) : ∀ x ∈ l, x.2 ≠ .cell := fun x hx q => by
  have := List.all_eq_true.mp h x hx
  rw [q] at this; exact absurd this (by decide)
theorem G2.here {w : World} {c : Cx} (G : G2 w c) {a : Addr} {o : Obj} (e : (H2 w).lookup a = some o) : c.hB.get? a = some o ∧ a ∉ c.X := ⟨G.K a o e, fun h => by rw [G.X a h] at e; cases e⟩

theorem def42 {w : World} {c : Cx} (G : G2 w c) : DefOk c 42 (fd2 w 42) (bodyOf (fd2 w 42)) ["want", "got"] where
  fn := ⟨⟨_, (G.here (a := 42) rfl).1, rfl⟩, (G.here (a := 42) rfl).2⟩
  code := ⟨41, _, _, _, rfl, (G.here (a := 41) rfl).1, (G.here (a := 41) rfl).2, rfl, rfl⟩
  body := rfl
  bind := fun s vs _ h => by
    obtain ⟨a, b, rfl⟩ := len2 h
    exact BindsTo.of_eq (by kernel_rfl)
  nd := by decide
  dbg := mem2 (by decide) (by decide)
  clo := rfl
  glo := rfl
  bi := rfl
  co := rfl
  gen := rfl
  kind := rfl
theorem boot_len : bootBuiltins "len" = some (.builtin "len") := by rfl
theorem G2.n_len {w : World} {c : Cx} (G : G2 w c) : c.mg "len" = none := by rw [G.mg]; rfl
theorem G2.b_len {w : World} {c : Cx} (G : G2 w c) : c.mb "len" = some (.builtin "len") := by rw [G.mb _ (by decide)]; exact boot_len
theorem boot_range : bootBuiltins "range" = some (.type "range") := by rfl
theorem G2.n_range {w : World} {c : Cx} (G : G2 w c) : c.mg "range" = none := by rw [G.mg]; rfl
theorem G2.b_range {w : World} {c : Cx} (G : G2 w c) : c.mb "range" = some (.type "range") := by rw [G.mb _ (by decide)]; exact boot_range
theorem boot_max : bootBuiltins "max" = some (.builtin "max") := by rfl
theorem G2.n_max {w : World} {c : Cx} (G : G2 w c) : c.mg "max" = none := by rw [G.mg]; rfl
theorem G2.b_max {w : World} {c : Cx} (G : G2 w c) : c.mb "max" = some (.builtin "max") := by rw [G.mb _ (by decide)]; exact boot_max
theorem boot_min : bootBuiltins "min" = some (.builtin "min") := by rfl
theorem G2.n_min {w : World} {c : Cx} (G : G2 w c) : c.mg "min" = none := by rw [G.mg]; rfl
theorem G2.b_min {w : World} {c : Cx} (G : G2 w c) : c.mb "min" = some (.builtin "min") := by rw [G.mb _ (by decide)]; exact boot_min
theorem boot_sum : bootBuiltins "sum" = some (.builtin "sum") := by rfl
theorem G2.n_sum {w : World} {c : Cx} (G : G2 w c) : c.mg "sum" = none := by rw [G.mg]; rfl
theorem G2.b_sum {w : World} {c : Cx} (G : G2 w c) : c.mb "sum" = some (.builtin "sum") := by rw [G.mb _ (by decide)]; exact boot_sum
theorem boot_int : bootBuiltins "int" = some (.type "int") := by rfl
theorem G2.n_int {w : World} {c : Cx} (G : G2 w c) : c.mg "int" = none := by rw [G.mg]; rfl
theorem G2.b_int {w : World} {c : Cx} (G : G2 w c) : c.mb "int" = some (.type "int") := by rw [G.mb _ (by decide)]; exact boot_int
theorem boot_isinstance : bootBuiltins "isinstance" = some (.builtin "isinstance") := by rfl
theorem G2.n_isinstance {w : World} {c : Cx} (G : G2 w c) : c.mg "isinstance" = none := by rw [G.mg]; rfl
theorem G2.b_isinstance {w : World} {c : Cx} (G : G2 w c) : c.mb "isinstance" = some (.builtin "isinstance") := by rw [G.mb _ (by decide)]; exact boot_isinstance
theorem boot_float : bootBuiltins "float" = some (.type "float") := by rfl
theorem G2.n_float {w : World} {c : Cx} (G : G2 w c) : c.mg "float" = none := by rw [G.mg]; rfl
theorem G2.b_float {w : World} {c : Cx} (G : G2 w c) : c.mb "float" = some (.type "float") := by rw [G.mb _ (by decide)]; exact boot_float
theorem boot_str : bootBuiltins "str" = some (.type "str") := by rfl
theorem G2.n_str {w : World} {c : Cx} (G : G2 w c) : c.mg "str" = none := by rw [G.mg]; rfl
theorem G2.b_str {w : World} {c : Cx} (G : G2 w c) : c.mb "str" = some (.type "str") := by rw [G.mb _ (by decide)]; exact boot_str
theorem G2.g28 {w : World} {c : Cx} (G : G2 w c) : c.mg "rgb_to_hsv" = some (.ref 28) := by rw [G.mg]; rfl
theorem G2.g35 {w : World} {c : Cx} (G : G2 w c) : c.mg "hsv_to_rgb" = some (.ref 35) := by rw [G.mg]; rfl
theorem G2.g42 {w : World} {c : Cx} (G : G2 w c) : c.mg "_ellipsis_match" = some (.ref 42) := by rw [G.mg]; rfl
theorem G2.g122 {w : World} {c : Cx} (G : G2 w c) : c.mg "_Accumulator" = some (.ref 122) := by rw [G.mg]; rfl
theorem G2.g131 {w : World} {c : Cx} (G : G2 w c) : c.mg "_law_light" = some (.ref 131) := by rw [G.mg]; rfl
theorem G2.g136 {w : World} {c : Cx} (G : G2 w c) : c.mg "_law_run" = some (.ref 136) := by rw [G.mg]; rfl
theorem G2.g143 {w : World} {c : Cx} (G : G2 w c) : c.mg "_law_back" = some (.ref 143) := by rw [G.mg]; rfl
theorem G2.g148 {w : World} {c : Cx} (G : G2 w c) : c.mg "_law_code" = some (.ref 148) := by rw [G.mg]; rfl
theorem G2.g155 {w : World} {c : Cx} (G : G2 w c) : c.mg "_law_single" = some (.ref 155) := by rw [G.mg]; rfl
theorem G2.g_dots {w : World} {c : Cx} (G : G2 w c) : c.mg "ELLIPSIS_MARKER" = some (.str (S dots) 230) := by rw [G.mg]; rfl
end
end Mine
namespace Mine
noncomputable section
theorem ell_ok {w : World} {c : Cx} (G : G2 w c) {A : Around} {μ : Mu} {want got : List Nat} (ao : AOk 1 A) (hw : want.length ≤ 100000) (hg : got.length ≤ 100000) {K : PV → Mu → Prop} (hK : ∀ g, K (.bool (ellB want got)) (μ ++ g)) :
    WC c A (.ref 42) [.str (S want), .str (S got)] μ K := by
  have O := G.ok
  refine WC.def (n := 0) O (def42 G) ao rfl (noCell rfl) (mem2 rfl rfl) (fun L => rfl) (by decide) (fun L => mem2 rfl rfl) fun L A ao => ?_
  show WSs c A _ _ [("want", .str (S want)), ("got", .str (S got))] _ _
  refine WSs.cons O ?_
  with_reducible refine WS.ite O ?_
  with_reducible refine WB.cmp1 O ?_ (by with_unfolding_all rfl)
  with_reducible refine WE.glob_str O (G2.g_dots G) (by with_unfolding_all rfl) (by with_unfolding_all rfl) ?_
  with_reducible refine WE.name (by repeat (first | with_reducible exact List.mem_cons_self | with_reducible refine List.mem_cons_of_mem _ ?_)) ?_
  refine WV.notin_str ⟨_, rfl, ?_⟩
  rw [inB_S]
  cases hd : (findB want dots 0 want.length).isSome with
  | false =>
    refine iteT rfl ?_
    with_reducible refine WSs.cons O ?_
    with_reducible refine WS.ret O ?_
    with_reducible refine WE.cmp1 O ?_ (by with_unfolding_all rfl)
    with_reducible refine WE.name (by repeat (first | with_reducible exact List.mem_cons_self | with_reducible refine List.mem_cons_of_mem _ ?_)) ?_
    with_reducible refine WE.name (by repeat (first | with_reducible exact List.mem_cons_self | with_reducible refine List.mem_cons_of_mem _ ?_)) ?_
    refine WV.eq_str ?_
    rw [S_beq]
    have := hK []
    rw [List.append_nil] at this
    unfold ellB at this
    rw [hd, if_pos rfl] at this
    exact this
  | true =>
    refine iteF rfl ?_
    with_reducible refine WSs.nil ?_
    with_reducible refine WSs.cons O ?_
    with_reducible refine WS.assign_name O ?_ (.inl (by with_unfolding_all rfl)) (by with_unfolding_all rfl) (by with_unfolding_all rfl)
    with_reducible refine WE.meth O F.plainAttrs_str F.slot_str_split F.type_str_split ?_ (by with_unfolding_all rfl) ⟨_, by with_unfolding_all rfl⟩
    with_reducible refine WE.name (by repeat (first | with_reducible exact List.mem_cons_self | with_reducible refine List.mem_cons_of_mem _ ?_)) ?_
    with_reducible refine kindStr ?_
    with_reducible refine WEs.cons O ?_ (by with_unfolding_all rfl)
    with_reducible refine WE.glob_str O (G2.g_dots G) (by with_unfolding_all rfl) (by with_unfolding_all rfl) ?_
    with_reducible refine WEs.nil ?_
    refine WC.split O (by omega) ?_
    obtain ⟨a, b, r, hs⟩ := splitD_two hd
    have hcount := splitD_count want []
    have hlen := splitD_len want []
    rw [hs] at hcount hlen ⊢
    have ha : a.length ≤ 100000 := by have := hlen a (by simp); simp at this; omega
    simp only [List.length_cons] at hcount
    with_reducible refine updE (by repeat (first | with_reducible exact UpdI.nil | with_reducible exact UpdI.head | (apply UpdI.tail; (· with_unfolding_all decide)))) ?_
    with_reducible refine WSs.cons O ?_
    with_reducible refine WS.assert_ O ?_
    with_reducible refine WB.cmp1 O ?_ (by with_unfolding_all rfl)
    with_reducible refine WE.call_bi O (G2.n_len G) (G2.b_len G) ?_ (by with_unfolding_all rfl) (by with_unfolding_all rfl) (by with_unfolding_all rfl) (by with_unfolding_all rfl)
    with_reducible refine WEs.cons O ?_ (by with_unfolding_all rfl)
    with_reducible refine WE.name (by repeat (first | with_reducible exact List.mem_cons_self | with_reducible refine List.mem_cons_of_mem _ ?_)) ?_
    with_reducible refine WEs.nil ?_
    refine WC.len_lst O (at_end ..) (by simp; omega) ?_
    with_reducible refine WE.int O ?_
    refine WV.ge_int ⟨_, rfl, decide_eq_true (by simp; omega), ?_⟩
    with_reducible refine WSs.cons O ?_
    refine WS.assign_swap (names := ["startpos", "endpos"]) O ao.h ?_ (by with_unfolding_all rfl) (by with_unfolding_all rfl)
    with_reducible refine WE.tuple O ?_
    with_reducible refine WEs.cons O ?_ (by with_unfolding_all rfl)
    with_reducible refine WE.int O ?_
    with_reducible refine WEs.cons O ?_ (by with_unfolding_all rfl)
    with_reducible refine WE.call_bi O (G2.n_len G) (G2.b_len G) ?_ (by with_unfolding_all rfl) (by with_unfolding_all rfl) (by with_unfolding_all rfl) (by with_unfolding_all rfl)
    with_reducible refine WEs.cons O ?_ (by with_unfolding_all rfl)
    with_reducible refine WE.name (by repeat (first | with_reducible exact List.mem_cons_self | with_reducible refine List.mem_cons_of_mem _ ?_)) ?_
    with_reducible refine WEs.nil ?_
    refine WC.len_str O (by omega) ?_
    with_reducible refine WEs.nil ?_
    refine ⟨by simp, _, rfl, rfl, ?_⟩
    refine WAs.bind O (by repeat (first | with_reducible exact UpdI.nil | with_reducible exact UpdI.head | (apply UpdI.tail; (· with_unfolding_all decide)))) (.inl rfl) rfl (WAs.bind O (by repeat (first | with_reducible exact UpdI.nil | with_reducible exact UpdI.head | (apply UpdI.tail; (· with_unfolding_all decide)))) (.inl rfl) rfl (WAs.nil ?_))
    with_reducible refine WSs.cons O ?_
    with_reducible refine WS.assign_name O ?_ (.inl (by with_unfolding_all rfl)) (by with_unfolding_all rfl) (by with_unfolding_all rfl)
    with_reducible refine WE.sub O ?_ (fun _ _ => by with_unfolding_all rfl)
    with_reducible refine WE.name (by repeat (first | with_reducible exact List.mem_cons_self | with_reducible refine List.mem_cons_of_mem _ ?_)) ?_
    with_reducible refine WE.int O ?_
    refine subLst (at_end ..) (WV.item_lst (at_end ..) (k := 0) (q := .str (S a)) (by simp [seqIndex?]; omega) (by simp) (by simp; omega) ?_)
    with_reducible refine updE (by repeat (first | with_reducible exact UpdI.nil | with_reducible exact UpdI.head | (apply UpdI.tail; (· with_unfolding_all decide)))) ?_
    with_reducible refine WSs.cons O ?_
    refine WS.mono (K := fun f ρ' μ' => (preB a got = false ∧ f = .ret (.bool false) ∧ ∃ g, μ' = μ ++ g) ∨ (preB a got = true ∧ f = .next ∧ ρ' = ([("want", .str (S want)), ("got", .str (S got)), ("ws", .loc μ.length), ("endpos", .int got.length), ("startpos", .int a.length), ("w", .str (S a))] : Rho) ∧ μ' = μ ++ [.lst (strL (ws1 (a :: b :: r)))])) ?_ ?_
    · with_reducible refine WS.ite O ?_
      with_reducible refine WB.value O ?_ (fun _ => by with_unfolding_all rfl)
      with_reducible refine WE.name (by repeat (first | with_reducible exact List.mem_cons_self | with_reducible refine List.mem_cons_of_mem _ ?_)) ?_
      refine ⟨_, .str _ (by rw [S_length]; omega), ?_⟩
      rw [truth_S]
      by_cases h0 : a = []
      · subst h0
        refine iteF rfl ?_
        refine WSs.nil ?_
        exact .inr ⟨preB_nil _, rfl, rfl, rfl⟩
      · refine iteT (decide_eq_true h0) ?_
        with_reducible refine WSs.cons O ?_
        with_reducible refine WS.ite O ?_
        with_reducible refine WB.value O ?_ (fun _ => by with_unfolding_all rfl)
        with_reducible refine WE.meth O F.plainAttrs_str F.slot_str_startswith F.type_str_startswith ?_ (by with_unfolding_all rfl) ⟨_, by with_unfolding_all rfl⟩
        with_reducible refine WE.name (by repeat (first | with_reducible exact List.mem_cons_self | with_reducible refine List.mem_cons_of_mem _ ?_)) ?_
        with_reducible refine kindStr ?_
        with_reducible refine WEs.cons O ?_ (by with_unfolding_all rfl)
        with_reducible refine WE.name (by repeat (first | with_reducible exact List.mem_cons_self | with_reducible refine List.mem_cons_of_mem _ ?_)) ?_
        with_reducible refine WEs.nil ?_
        refine WC.startswith ⟨_, .bool _, ?_⟩
        cases hp : preB a got with
        | false =>
          refine iteF rfl ?_
          with_reducible refine WSs.cons O ?_
          with_reducible refine WS.ret O ?_
          with_reducible refine WE.bool ?_
          exact .inl ⟨rfl, rfl, _, rfl⟩
        | true =>
          refine iteT rfl ?_
          with_reducible refine WSs.cons O ?_
          with_reducible refine WS.assign_name O ?_ (.inl (by with_unfolding_all rfl)) (by with_unfolding_all rfl) (by with_unfolding_all rfl)
          with_reducible refine WE.call_bi O (G2.n_len G) (G2.b_len G) ?_ (by with_unfolding_all rfl) (by with_unfolding_all rfl) (by with_unfolding_all rfl) (by with_unfolding_all rfl)
          with_reducible refine WEs.cons O ?_ (by with_unfolding_all rfl)
          with_reducible refine WE.name (by repeat (first | with_reducible exact List.mem_cons_self | with_reducible refine List.mem_cons_of_mem _ ?_)) ?_
          with_reducible refine WEs.nil ?_
          refine WC.len_str O (by omega) ?_
          with_reducible refine updE (by repeat (first | with_reducible exact UpdI.nil | with_reducible exact UpdI.head | (apply UpdI.tail; (· with_unfolding_all decide)))) ?_
          with_reducible refine WSs.cons O ?_
          refine WS.del1 O ?_
          with_reducible refine WE.name (by repeat (first | with_reducible exact List.mem_cons_self | with_reducible refine List.mem_cons_of_mem _ ?_)) ?_
          with_reducible refine WE.int O ?_
          refine ⟨_, _, _, 0, rfl, rfl, at_end .., by simp [seqIndex?]; omega, by simp; omega, by omega, by omega, ?_⟩
          rw [set_end]
          with_reducible refine WSs.nil ?_
          with_reducible refine WSs.nil ?_
          refine .inr ⟨rfl, rfl, rfl, ?_⟩
          simp [ws1, h0, strL]
    rintro f ρ' μ' (⟨hp, rfl, g, rfl⟩ | ⟨hp, rfl, rfl, rfl⟩)
    · have := hK g
      unfold ellB at this
      rw [hd, hs, if_neg (by simp), List.headD_cons, hp, if_pos rfl] at this
      exact this
    have hL : ws1 (a :: b :: r) ≠ [] := by unfold ws1; split <;> simp
    have hLn : (ws1 (a :: b :: r)).length ≤ 100001 := by unfold ws1; split <;> simp <;> omega
    have hLl : ∀ p ∈ ws1 (a :: b :: r), p.length ≤ 100000 := fun p hp => by
      have : p ∈ a :: b :: r := by
        unfold ws1 at hp; split at hp
        · exact hp
        · exact List.mem_of_mem_tail hp
      have := hlen p this; simp at this; omega
    have hall : ellB want got = if sufB ((ws1 (a :: b :: r)).getLastD []) got = false then false else
        if got.length < a.length + ((ws1 (a :: b :: r)).getLastD []).length then false else
        ellGo got (got.length - ((ws1 (a :: b :: r)).getLastD []).length) a.length (ws2 (ws1 (a :: b :: r))) := by
      unfold ellB
      rw [hd, hs, if_neg (by simp), List.headD_cons, hp, if_neg (by simp)]
    rw [hall] at hK
    generalize ws1 (a :: b :: r) = L1 at hL hLn hLl hK
    have hz : (L1.getLastD []).length ≤ 100000 := hLl _ (by
      cases L1 with
      | nil => exact absurd rfl hL
      | cons x r => rw [List.getLastD_cons]; exact List.getLastD_mem_cons)
    have hpos : 0 < L1.length := List.length_pos_iff.mpr hL
    have hlast := lastAt L1 hL
    generalize hze : L1.getLastD [] = z at hz hlast hK
    with_reducible refine WSs.cons O ?_
    with_reducible refine WS.assign_name O ?_ (.inl (by with_unfolding_all rfl)) (by with_unfolding_all rfl) (by with_unfolding_all rfl)
    with_reducible refine WE.sub O ?_ (fun _ _ => by with_unfolding_all rfl)
    with_reducible refine WE.name (by repeat (first | with_reducible exact List.mem_cons_self | with_reducible refine List.mem_cons_of_mem _ ?_)) ?_
    with_reducible refine WE.negint O ?_
    refine subLst (at_end ..) (WV.item_lst (at_end ..) (k := L1.length - 1) (q := .str (S z)) (by simp [seqIndex?]; omega) hlast (by simp; omega) ?_)
    with_reducible refine updE (by repeat (first | with_reducible exact UpdI.nil | with_reducible exact UpdI.head | (apply UpdI.tail; (· with_unfolding_all decide)))) ?_
    with_reducible refine WSs.cons O ?_
    refine WS.mono (K := fun f ρ' μ' => (sufB z got = false ∧ f = .ret (.bool false) ∧ ∃ g, μ' = μ ++ g) ∨ (sufB z got = true ∧ f = .next ∧ ρ' = ([("want", .str (S want)), ("got", .str (S got)), ("ws", .loc μ.length), ("endpos", .int ((got.length : Int) - z.length)), ("startpos", .int a.length), ("w", .str (S z))] : Rho) ∧ μ' = μ ++ [.lst (strL (ws2 L1))])) ?_ ?_
    · with_reducible refine WS.ite O ?_
      with_reducible refine WB.value O ?_ (fun _ => by with_unfolding_all rfl)
      with_reducible refine WE.name (by repeat (first | with_reducible exact List.mem_cons_self | with_reducible refine List.mem_cons_of_mem _ ?_)) ?_
      refine ⟨_, .str _ (by rw [S_length]; omega), ?_⟩
      rw [truth_S]
      by_cases h0 : z = []
      · subst h0
        refine iteF rfl ?_
        refine WSs.nil ?_
        refine .inr ⟨sufB_nil _, rfl, by simp, ?_⟩
        have e : ws2 L1 = L1 := by unfold ws2; rw [hze]; rfl
        rw [e]
      · refine iteT (decide_eq_true h0) ?_
        with_reducible refine WSs.cons O ?_
        with_reducible refine WS.ite O ?_
        with_reducible refine WB.value O ?_ (fun _ => by with_unfolding_all rfl)
        with_reducible refine WE.meth O F.plainAttrs_str F.slot_str_endswith F.type_str_endswith ?_ (by with_unfolding_all rfl) ⟨_, by with_unfolding_all rfl⟩
        with_reducible refine WE.name (by repeat (first | with_reducible exact List.mem_cons_self | with_reducible refine List.mem_cons_of_mem _ ?_)) ?_
        with_reducible refine kindStr ?_
        with_reducible refine WEs.cons O ?_ (by with_unfolding_all rfl)
        with_reducible refine WE.name (by repeat (first | with_reducible exact List.mem_cons_self | with_reducible refine List.mem_cons_of_mem _ ?_)) ?_
        with_reducible refine WEs.nil ?_
        refine WC.endswith ⟨_, .bool _, ?_⟩
        cases hp : sufB z got with
        | false =>
          refine iteF rfl ?_
          with_reducible refine WSs.cons O ?_
          with_reducible refine WS.ret O ?_
          with_reducible refine WE.bool ?_
          exact .inl ⟨rfl, rfl, _, rfl⟩
        | true =>
          refine iteT rfl ?_
          with_reducible refine WSs.cons O ?_
          refine WS.aug_name O (by repeat (first | with_reducible exact List.mem_cons_self | with_reducible refine List.mem_cons_of_mem _ ?_)) ?_ (.inl rfl) rfl
          with_reducible refine WE.call_bi O (G2.n_len G) (G2.b_len G) ?_ (by with_unfolding_all rfl) (by with_unfolding_all rfl) (by with_unfolding_all rfl) (by with_unfolding_all rfl)
          with_reducible refine WEs.cons O ?_ (by with_unfolding_all rfl)
          with_reducible refine WE.name (by repeat (first | with_reducible exact List.mem_cons_self | with_reducible refine List.mem_cons_of_mem _ ?_)) ?_
          with_reducible refine WEs.nil ?_
          refine WC.len_str O (by omega) (WV.isub_int O ?_)
          with_reducible refine updE (by repeat (first | with_reducible exact UpdI.nil | with_reducible exact UpdI.head | (apply UpdI.tail; (· with_unfolding_all decide)))) ?_
          with_reducible refine WSs.cons O ?_
          refine WS.del1 O ?_
          with_reducible refine WE.name (by repeat (first | with_reducible exact List.mem_cons_self | with_reducible refine List.mem_cons_of_mem _ ?_)) ?_
          with_reducible refine WE.negint O ?_
          refine ⟨_, _, _, L1.length - 1, rfl, rfl, at_end .., by simp [seqIndex?]; omega, by simp; omega, by omega, by omega, ?_⟩
          rw [set_end, erase_last L1 hL]
          with_reducible refine WSs.nil ?_
          with_reducible refine WSs.nil ?_
          refine .inr ⟨rfl, rfl, rfl, ?_⟩
          have e : ws2 L1 = L1.dropLast := by unfold ws2; rw [hze, if_neg h0]
          rw [e]
    rintro f ρ' μ' (⟨hp2, rfl, g, rfl⟩ | ⟨hp2, rfl, rfl, rfl⟩)
    · have := hK g
      rw [hp2, if_pos rfl] at this
      exact this
    rw [hp2, if_neg (by simp)] at hK
    have hle := sufB_le hp2
    with_reducible refine WSs.cons O ?_
    with_reducible refine WS.ite O ?_
    with_reducible refine WB.cmp1 O ?_ (by with_unfolding_all rfl)
    with_reducible refine WE.name (by repeat (first | with_reducible exact List.mem_cons_self | with_reducible refine List.mem_cons_of_mem _ ?_)) ?_
    with_reducible refine WE.name (by repeat (first | with_reducible exact List.mem_cons_self | with_reducible refine List.mem_cons_of_mem _ ?_)) ?_
    refine WV.gt_int ⟨_, rfl, ?_⟩
    by_cases hgt : got.length < a.length + z.length
    · rw [if_pos hgt] at hK
      refine iteT (decide_eq_true (by omega)) ?_
      with_reducible refine WSs.cons O ?_
      with_reducible refine WS.ret O ?_
      with_reducible refine WE.bool ?_
      exact hK _
    rw [if_neg hgt] at hK
    refine iteF (decide_eq_false (by omega)) ?_
    with_reducible refine WSs.nil ?_
    with_reducible refine WSs.cons O ?_
    have hl2 : ∀ p ∈ ws2 L1, p.length ≤ 100000 := fun p hp => hLl p (by
      unfold ws2 at hp; split at hp
      · exact hp
      · exact (List.dropLast_sublist _).mem hp)
    generalize ws2 L1 = L2 at hK hl2
    have hhi : ((got.length : Int) - z.length) = ((got.length - z.length : Nat) : Int) := by omega
    rw [hhi]
    have hlo : a.length ≤ got.length - z.length := by omega
    have hhg : got.length - z.length ≤ got.length := by omega
    generalize got.length - z.length = hi at hK hlo hhg
    refine WS.for_ O ?_ (fun _ => by with_unfolding_all rfl)
    with_reducible refine WE.name (by repeat (first | with_reducible exact List.mem_cons_self | with_reducible refine List.mem_cons_of_mem _ ?_)) ?_
    refine loopLst (at_end ..) ?_
    refine WL.inv (fun j ρ' μ' => ∃ lo y, lo ≤ hi ∧ ellGo got hi lo (L2.drop j) = ellGo got hi a.length L2 ∧ μ' = μ ++ [.lst (strL L2)] ∧ ρ' = ([("want", .str (S want)), ("got", .str (S got)), ("ws", .loc μ.length), ("endpos", .int (hi : Nat)), ("startpos", .int (lo : Nat)), ("w", .str (S y))] : Rho)) (strL L2) O ao.h ?_ ?_ ?_ ?_
    · exact ⟨a.length, z, hlo, by simp, rfl, rfl⟩
    · rintro j ρ' μ' ⟨lo, y, _, _, rfl, rfl⟩
      exact ⟨by simp [itemsOf], fun i e => by cases e; exact ⟨_, at_end ..⟩⟩
    · rintro j q ρ' μ' hq ⟨lo, y, hlo', hgo, rfl, rfl⟩
      rw [strL_at] at hq
      obtain ⟨v, hv, rfl⟩ := Option.map_eq_some_iff.mp hq
      have hdj : L2.drop j = v :: L2.drop (j + 1) := by
        obtain ⟨hj, e⟩ := List.getElem?_eq_some_iff.mp hv
        rw [List.drop_eq_getElem_cons hj, e]
      rw [hdj] at hgo
      have hvl := hl2 v (List.mem_of_getElem? hv)
      refine WA.name O (by repeat (first | with_reducible exact UpdI.nil | with_reducible exact UpdI.head | (apply UpdI.tail; (· with_unfolding_all decide)))) (.inl rfl) rfl ?_
      with_reducible refine WSs.cons O ?_
      with_reducible refine WS.assign_name O ?_ (.inl (by with_unfolding_all rfl)) (by with_unfolding_all rfl) (by with_unfolding_all rfl)
      with_reducible refine WE.meth O F.plainAttrs_str F.slot_str_find F.type_str_find ?_ (by with_unfolding_all rfl) ⟨_, by with_unfolding_all rfl⟩
      with_reducible refine WE.name (by repeat (first | with_reducible exact List.mem_cons_self | with_reducible refine List.mem_cons_of_mem _ ?_)) ?_
      with_reducible refine kindStr ?_
      with_reducible refine WEs.cons O ?_ (by with_unfolding_all rfl)
      with_reducible refine WE.name (by repeat (first | with_reducible exact List.mem_cons_self | with_reducible refine List.mem_cons_of_mem _ ?_)) ?_
      with_reducible refine WEs.cons O ?_ (by with_unfolding_all rfl)
      with_reducible refine WE.name (by repeat (first | with_reducible exact List.mem_cons_self | with_reducible refine List.mem_cons_of_mem _ ?_)) ?_
      with_reducible refine WEs.cons O ?_ (by with_unfolding_all rfl)
      with_reducible refine WE.name (by repeat (first | with_reducible exact List.mem_cons_self | with_reducible refine List.mem_cons_of_mem _ ?_)) ?_
      with_reducible refine WEs.nil ?_
      refine WC.find4 O hhg ?_
      with_reducible refine updE (by repeat (first | with_reducible exact UpdI.nil | with_reducible exact UpdI.head | (apply UpdI.tail; (· with_unfolding_all decide)))) ?_
      with_reducible refine WSs.cons O ?_
      refine WS.mono (K := fun f ρ' μ' => μ' = μ ++ [.lst (strL L2)] ∧ ((findB got v lo hi = none ∧ f = .ret (.bool false)) ∨ ∃ i, findB got v lo hi = some i ∧ f = .next ∧ ρ' = ([("want", .str (S want)), ("got", .str (S got)), ("ws", .loc μ.length), ("endpos", .int (hi : Nat)), ("startpos", .int (i : Nat)), ("w", .str (S v))] : Rho))) ?_ ?_
      · with_reducible refine WS.ite O ?_
        with_reducible refine WB.cmp1 O ?_ (by with_unfolding_all rfl)
        with_reducible refine WE.name (by repeat (first | with_reducible exact List.mem_cons_self | with_reducible refine List.mem_cons_of_mem _ ?_)) ?_
        with_reducible refine WE.int O ?_
        refine WV.lt_int ⟨_, rfl, ?_⟩
        cases hf : findB got v lo hi with
        | none =>
          refine iteT (by decide) ?_
          with_reducible refine WSs.cons O ?_
          with_reducible refine WS.ret O ?_
          with_reducible refine WE.bool ?_
          exact ⟨rfl, .inl ⟨rfl, rfl⟩⟩
        | some i =>
          refine iteF (decide_eq_false (by show ¬ ((i : Nat) : Int) < 0; omega)) ?_
          with_reducible refine WSs.nil ?_
          exact ⟨rfl, .inr ⟨i, rfl, rfl, rfl⟩⟩
      · rintro f ρ' μ' ⟨rfl, ⟨hf, rfl⟩ | ⟨i, hf, rfl, rfl⟩⟩
        · have := hK [.lst (strL L2)]
          rw [← hgo] at this
          simp only [ellGo, hf] at this
          exact this
        · with_reducible refine WSs.cons O ?_
          refine WS.aug_name O (by repeat (first | with_reducible exact List.mem_cons_self | with_reducible refine List.mem_cons_of_mem _ ?_)) ?_ (.inl rfl) rfl
          with_reducible refine WE.call_bi O (G2.n_len G) (G2.b_len G) ?_ (by with_unfolding_all rfl) (by with_unfolding_all rfl) (by with_unfolding_all rfl) (by with_unfolding_all rfl)
          with_reducible refine WEs.cons O ?_ (by with_unfolding_all rfl)
          with_reducible refine WE.name (by repeat (first | with_reducible exact List.mem_cons_self | with_reducible refine List.mem_cons_of_mem _ ?_)) ?_
          with_reducible refine WEs.nil ?_
          refine WC.len_str O (by omega) (WV.iadd_int O ?_)
          with_reducible refine updE (by repeat (first | with_reducible exact UpdI.nil | with_reducible exact UpdI.head | (apply UpdI.tail; (· with_unfolding_all decide)))) ?_
          with_reducible refine WSs.nil ?_
          have hb := findB_some hf
          simp only [ellGo, hf] at hgo
          exact ⟨i + v.length, v, hb.2.1, hgo, rfl, by simp⟩
    · rintro ρ' μ' ⟨lo, y, hlo', hgo, rfl, rfl⟩
      with_reducible refine WSs.cons O ?_
      with_reducible refine WS.ret O ?_
      with_reducible refine WE.bool ?_
      have := hK [.lst (strL L2)]
      rw [← hgo] at this
      simp [ellGo] at this
      exact this
end
end Mine
namespace Mine
noncomputable section
theorem mem3 {α : Type} {P : α → Prop} {a b d : α} (ha : P a) (hb : P b) (hd : P d) : ∀ x ∈ [a, b, d], P x := by
  intro x hx
  rcases List.mem_cons.mp hx with rfl | hx
  · exact ha
  · exact mem2 hb hd x hx
theorem mem1 {α : Type} {P : α → Prop} {a : α} (ha : P a) : ∀ x ∈ [a], P x := by
  intro x hx
  rw [List.mem_singleton.mp hx]; exact ha

theorem def66 {w : World} {c : Cx} (G : G2 w c) : DefOk c 66 (fd2 w 66) (bodyOf (fd2 w 66)) ["self", "fws", "string"] where
  fn := ⟨⟨_, (G.here (a := 66) rfl).1, rfl⟩, (G.here (a := 66) rfl).2⟩
  code := ⟨65, _, _, _, rfl, (G.here (a := 65) rfl).1, (G.here (a := 65) rfl).2, rfl, rfl⟩
  body := rfl
  bind := fun s vs k h => by
    obtain ⟨a, b, c, rfl⟩ := len3 h
    exact BindsTo.of_eq (by kernel_rfl)
  nd := by decide
  dbg := mem3 (by decide) (by decide) (by decide)
  clo := rfl
  glo := rfl
  bi := rfl
  co := rfl
  gen := rfl
  kind := rfl

theorem def74 {w : World} {c : Cx} (G : G2 w c) : DefOk c 74 (fd2 w 74) (bodyOf (fd2 w 74)) ["self", "i"] where
  fn := ⟨⟨_, (G.here (a := 74) rfl).1, rfl⟩, (G.here (a := 74) rfl).2⟩
  code := ⟨73, _, _, _, rfl, (G.here (a := 73) rfl).1, (G.here (a := 73) rfl).2, rfl, rfl⟩
  body := rfl
  bind := fun s vs k h => by
    obtain ⟨a, b, rfl⟩ := len2 h
    exact kp_binds (K := H2 w) (fun b o e => k b o (G.here e).1 (G.here e).2) (fun S => by kernel_rfl)
  nd := by decide
  dbg := mem2 (by decide) (by decide)
  clo := rfl
  glo := rfl
  bi := rfl
  co := rfl
  gen := rfl
  kind := rfl

theorem def89 {w : World} {c : Cx} (G : G2 w c) : DefOk c 89 (fd2 w 89) (bodyOf (fd2 w 89)) ["self"] where
  fn := ⟨⟨_, (G.here (a := 89) rfl).1, rfl⟩, (G.here (a := 89) rfl).2⟩
  code := ⟨88, _, _, _, rfl, (G.here (a := 88) rfl).1, (G.here (a := 88) rfl).2, rfl, rfl⟩
  body := rfl
  bind := fun s vs k h => by
    obtain ⟨a, rfl⟩ := len1 h
    exact BindsTo.of_eq (by kernel_rfl)
  nd := by decide
  dbg := fun x hx => by rw [List.mem_singleton.mp hx]; decide
  clo := rfl
  glo := rfl
  bi := rfl
  co := rfl
  gen := rfl
  kind := rfl

theorem def96 {w : World} {c : Cx} (G : G2 w c) : DefOk c 96 (fd2 w 96) (bodyOf (fd2 w 96)) ["self"] where
  fn := ⟨⟨_, (G.here (a := 96) rfl).1, rfl⟩, (G.here (a := 96) rfl).2⟩
  code := ⟨95, _, _, _, rfl, (G.here (a := 95) rfl).1, (G.here (a := 95) rfl).2, rfl, rfl⟩
  body := rfl
  bind := fun s vs k h => by
    obtain ⟨a, rfl⟩ := len1 h
    exact BindsTo.of_eq (by kernel_rfl)
  nd := by decide
  dbg := fun x hx => by rw [List.mem_singleton.mp hx]; decide
  clo := rfl
  glo := rfl
  bi := rfl
  co := rfl
  gen := rfl
  kind := rfl

theorem defS59 {w : World} {c : Cx} (G : G2 w c) : DefS c 59 (fd2 w 59) (bodyOf (fd2 w 59)) 46 where
  fn := ⟨⟨_, (G.here (a := 59) rfl).1, rfl⟩, (G.here (a := 59) rfl).2⟩
  code := ⟨58, _, _, _, _, _, rfl, (G.here (a := 58) rfl).1, (G.here (a := 58) rfl).2, rfl, rfl, rfl, by rw [G.file]; exact beq_self_eq_true _⟩
  body := rfl
  clo := rfl
  cellAt := ⟨_, (G.here (a := 46) rfl).1, by rw [G.C], (G.here (a := 46) rfl).2⟩
  main := G.sup
  first := ⟨_, rfl, rfl⟩
  ks := fun L => rfl
  kc := fun L => rfl
  kself := fun L => rfl
  glo := rfl
  bi := rfl
  co := rfl
  gen := rfl
  kind := rfl
  cells := noCell rfl

theorem defS82 {w : World} {c : Cx} (G : G2 w c) : DefS c 82 (fd2 w 82) (bodyOf (fd2 w 82)) 46 where
  fn := ⟨⟨_, (G.here (a := 82) rfl).1, rfl⟩, (G.here (a := 82) rfl).2⟩
  code := ⟨81, _, _, _, _, _, rfl, (G.here (a := 81) rfl).1, (G.here (a := 81) rfl).2, rfl, rfl, rfl, by rw [G.file]; exact beq_self_eq_true _⟩
  body := rfl
  clo := rfl
  cellAt := ⟨_, (G.here (a := 46) rfl).1, by rw [G.C], (G.here (a := 46) rfl).2⟩
  main := G.sup
  first := ⟨_, rfl, rfl⟩
  ks := fun L => rfl
  kc := fun L => rfl
  kself := fun L => rfl
  glo := rfl
  bi := rfl
  co := rfl
  gen := rfl
  kind := rfl
  cells := noCell rfl

theorem defS119 {w : World} {c : Cx} (G : G2 w c) : DefS c 119 (fd2 w 119) (bodyOf (fd2 w 119)) 46 where
  fn := ⟨⟨_, (G.here (a := 119) rfl).1, rfl⟩, (G.here (a := 119) rfl).2⟩
  code := ⟨118, _, _, _, _, _, rfl, (G.here (a := 118) rfl).1, (G.here (a := 118) rfl).2, rfl, rfl, rfl, by rw [G.file]; exact beq_self_eq_true _⟩
  body := rfl
  clo := rfl
  cellAt := ⟨_, (G.here (a := 46) rfl).1, by rw [G.C], (G.here (a := 46) rfl).2⟩
  main := G.sup
  first := ⟨_, rfl, rfl⟩
  ks := fun L => rfl
  kc := fun L => rfl
  kself := fun L => rfl
  glo := rfl
  bi := rfl
  co := rfl
  gen := rfl
  kind := rfl
  cells := noCell rfl


theorem pilK {w : World} {c : Cx} (G : G2 w c) : PilK c (H2 w) where
  In := G.K
  X := G.X
  cls := by rw [G.C]; exact ⟨_, _, _, _, rfl, rfl, rfl, rfl, rfl, rfl, rfl⟩
  call := by rw [G.C]; kernel_rfl
  inst := by rw [G.C]; kernel_rfl
  seta := by rw [G.C]; kernel_rfl
  ini := by rw [G.C]; kernel_rfl
  sub := by rw [G.C]; kernel_rfl
  mod := by rw [G.C]; kernel_rfl
  typ := by rw [G.C]; kernel_rfl
  any := by kernel_rfl
  self := by rw [G.C]; kernel_rfl
  ga := by rw [G.C]; kernel_rfl
  gat := by rw [G.C]; kernel_rfl
  seq := by rw [G.C]; kernel_rfl
  geti := by rw [G.C]; kernel_rfl
  seti := by rw [G.C]; kernel_rfl
  iter := by rw [G.C]; kernel_rfl
  app := by rw [G.C]; kernel_rfl
  appT := by kernel_rfl
  lLen := by kernel_rfl
  lInit := by kernel_rfl
  lPop := by kernel_rfl
  gsup := by rw [G.mg]; rfl
  bsup := by rw [G.mb _ (by decide)]; rfl
end
end Mine
namespace Mine
noncomputable section
variable {w : World} {c : Cx} {A : Around} {μ : Mu}
theorem clipAt_nat (n m : Nat) (h : m ≤ n) : clipAt n (m : Int) = m := by
  unfold clipAt
  rw [if_neg (by omega)]
  omega
theorem cutL_from {α : Type} (xs : List α) (m : Nat) (h : m ≤ xs.length) : cutL xs (some (m : Int)) none = xs.drop m := by
  unfold cutL
  simp only [Option.elim, clipAt_nat _ _ h]
  rw [List.take_of_length_le (by simp)]
theorem acc1_ok (G : G2 w c) (ao : AOk 2 A) {k : Int} {K' : PV → Mu → Prop} (hk : K' (.loc μ.length) (μ ++ [.pil k []])) : WC c A (.ref 122) [.int k] μ K' := by
  have O := G.ok
  rw [← G.C]
  exact pil_make (k := k) (fI := 59) (vI := fun vs => vs.headD .none) O (pilK G) (defS59 G) ao (fun L => ⟨_, (by with_unfolding_all rfl)⟩) (fun s ι vs v I r => by
      simp only [RepL] at r
      obtain ⟨a, _, rfl, r1, rfl⟩ := r
      exact kp_binds (K := H2 w) ((pilK G).here I) (fun S => by kernel_rfl))
    (fun h ι vs r => by
      simp only [RepL] at r
      obtain ⟨a, _, rfl, r1, rfl⟩ := r
      simp only [RepV] at r1
      obtain ⟨t, rfl⟩ := r1
      exact ⟨t, rfl⟩) rfl rfl (fun L => rfl) (fun L => rfl) (fun L => (by with_unfolding_all rfl)) (fun L => (by with_unfolding_all rfl)) (by rw [G.C]; kernel_rfl) (by kernel_rfl) hk
theorem acc0_ok (G : G2 w c) (ao : AOk 2 A) {K' : PV → Mu → Prop} (hk : K' (.loc μ.length) (μ ++ [.pil 0 []])) : WC c A (.ref 122) [] μ K' := by
  have O := G.ok
  rw [← G.C]
  exact pil_make (k := 0) (fI := 59) (vI := fun vs => match (H2 w).lookup 51 with | some o => (match o.data with | .seq xs _ => xs.getD 0 .none | _ => .none) | none => .none) O (pilK G) (defS59 G) ao (fun L => ⟨_, (by with_unfolding_all rfl)⟩) (fun s ι vs v I r => by
      simp only [RepL] at r
      subst r
      exact kp_binds (K := H2 w) ((pilK G).here I) (fun S => by kernel_rfl))
    (fun h ι vs r => ⟨_, rfl⟩) rfl rfl (fun L => rfl) (fun L => rfl) (fun L => (by with_unfolding_all rfl)) (fun L => (by with_unfolding_all rfl)) (by rw [G.C]; kernel_rfl) (by kernel_rfl) hk
theorem push_ok (G : G2 w c) (ao : AOk 1 A) {i : Nat} {k : Int} {its : List (Str × Str)} {a b : Str} {K' : PV → Mu → Prop} (hi : μ[i]? = some (.pil k its)) (hb : its.length ≤ 1000000) (hk : K' .none (μ.set i (.pil k (its ++ [(a, b)])))) : WC c A (.ref 66) [.loc i, .str a, .str b] μ K' := by
  have O := G.ok
  refine WC.def (n := 0) O (def66 G) ao rfl (noCell rfl) (mem3 rfl rfl rfl) (fun L => rfl) (by decide) (fun L => mem3 rfl rfl rfl) fun L A ao => ?_
  show WSs c A _ _ [("self", .loc i), ("fws", .str a), ("string", .str b)] _ _
  refine WSs.cons O ?_
  refine WS.expr O ?_ (by with_unfolding_all rfl) (by with_unfolding_all rfl)
  refine WE.pappend O (pilK G) ?_ (by with_unfolding_all rfl) ⟨_, (by with_unfolding_all rfl)⟩
  refine WE.name (by repeat (first | with_reducible exact List.mem_cons_self | with_reducible refine List.mem_cons_of_mem _ ?_)) ⟨⟨_, _, _, rfl, hi⟩, ?_⟩
  refine WE.tuple O ?_
  with_reducible refine WEs.cons O ?_ (by with_unfolding_all rfl)
  with_reducible refine WE.name (by repeat (first | with_reducible exact List.mem_cons_self | with_reducible refine List.mem_cons_of_mem _ ?_)) ?_
  with_reducible refine WEs.cons O ?_ (by with_unfolding_all rfl)
  with_reducible refine WE.name (by repeat (first | with_reducible exact List.mem_cons_self | with_reducible refine List.mem_cons_of_mem _ ?_)) ?_
  with_reducible refine WEs.nil ?_
  exact ⟨by simp, _, _, _, (a, b), rfl, rfl, hi, hb, WSs.nil hk⟩
theorem count_ok (G : G2 w c) (ao : AOk 1 A) {i : Nat} {k : Int} {its : List (Str × Str)} {K' : PV → Mu → Prop} (hi : μ[i]? = some (.pil k its)) (hk : K' (.int its.length) μ) : WC c A (.ref 119) [.loc i] μ K' := by
  have O := G.ok
  exact pil_count O (pilK G) (defS119 G) ao (fun L => ⟨_, (by with_unfolding_all rfl)⟩) (fun s v => BindsTo.of_eq (by kernel_rfl)) rfl hi hk
theorem pop_ok (G : G2 w c) (ao : AOk 2 A) {i : Nat} {k : Int} {its : List (Str × Str)} {K' : PV → Mu → Prop} (hi : μ[i]? = some (.pil k its)) (hb : its.length ≤ 1000000) (hk0 : its = [] → K' (.tup [.str "", .str ""]) μ) (hk : ∀ r x, its = r ++ [x] → K' (pairPV x) (μ.set i (.pil k r))) : WC c A (.ref 82) [.loc i] μ K' := by
  have O := G.ok
  refine pil_pops (fC := 119) (fdC := fd2 w 119) O (pilK G) (defS82 G) ao ?_ ?_ ?_ ?_ ?_ ?_ (defS119 G).fn (fun A' ao' => count_ok G ao' hi ⟨rfl, rfl⟩) hi hb hk0 hk
  · exact fun L => ⟨_, (by with_unfolding_all rfl)⟩
  · exact fun L => ⟨_, (by with_unfolding_all rfl)⟩
  · exact fun s v => BindsTo.of_eq (by kernel_rfl)
  · rfl
  · rw [G.C]; kernel_rfl
  · kernel_rfl
theorem pop_from_ok (G : G2 w c) (ao : AOk 1 A) {i : Nat} {k : Int} {m : Nat} {its : List (Str × Str)} {K' : PV → Mu → Prop} (hi : μ[i]? = some (.pil k its)) (hm : m ≤ its.length) (hb : its.length ≤ 1000000)
    (hk : K' (.loc μ.length) ((μ ++ [MO.lst ((its.drop m).map pairPV), MO.lst []]).set i (.pil k (its.take m)))) : WC c A (.ref 74) [.loc i, .int m] μ K' := by
  have O := G.ok
  have il : i < μ.length := (List.getElem?_eq_some_iff.mp hi).1
  refine WC.def (n := 0) O (def74 G) ao rfl (noCell rfl) (mem2 rfl rfl) (fun L => rfl) (by decide) (fun L => mem2 rfl rfl) fun L A ao => ?_
  show WSs c A _ _ [("self", .loc i), ("i", .int m)] _ _
  refine WSs.cons O ?_
  refine WS.assign_name O ?_ (.inl (by with_unfolding_all rfl)) (by with_unfolding_all rfl) (by with_unfolding_all rfl)
  refine WE.pslice O (pilK G) ?_
  with_reducible refine WE.name (by repeat (first | with_reducible exact List.mem_cons_self | with_reducible refine List.mem_cons_of_mem _ ?_)) ?_
  with_reducible refine WPart.some ?_
  with_reducible refine WE.name (by repeat (first | with_reducible exact List.mem_cons_self | with_reducible refine List.mem_cons_of_mem _ ?_)) ?_
  refine ⟨_, rfl, ?_⟩
  refine WPart.none ?_
  refine ⟨i, k, its, rfl, hi, hb, ?_⟩
  have e : cutL (its.map pairPV) (some (m : Int)) none = (its.drop m).map pairPV := by
    have := cutL_from (its.map pairPV) m (by simpa using hm)
    rw [this, List.map_drop]
  rw [e]
  with_reducible refine updE (by repeat (first | with_reducible exact UpdI.nil | with_reducible exact UpdI.head | (apply UpdI.tail; (· with_unfolding_all decide)))) ?_
  with_reducible refine WSs.cons O ?_
  refine WS.pcut O (pilK G) (by with_unfolding_all rfl) ?_
  with_reducible refine WE.list O ?_
  with_reducible refine WEs.nil ?_
  refine ⟨by decide, ?_⟩
  refine WE.name (by repeat (first | with_reducible exact List.mem_cons_self | with_reducible refine List.mem_cons_of_mem _ ?_)) ?_
  refine WE.name (by repeat (first | with_reducible exact List.mem_cons_self | with_reducible refine List.mem_cons_of_mem _ ?_)) ?_
  refine ⟨_, i, k, its, m, rfl, by simp, rfl, ?_, rfl, hm, hb, ?_⟩
  · rw [List.getElem?_append_left (by simp; omega), List.getElem?_append_left il]; exact hi
  with_reducible refine WSs.cons O ?_
  with_reducible refine WS.ret O ?_
  with_reducible refine WE.name (by repeat (first | with_reducible exact List.mem_cons_self | with_reducible refine List.mem_cons_of_mem _ ?_)) ?_
  simpa using hk
end
end Mine
namespace Mine
noncomputable section
variable {w : World} {c : Cx} {A : Around} {μ : Mu}
/-- a pile of letters -/
def letters (l : List Nat) : List (Str × Str) := l.map fun a => (S [], S [a])
theorem letters_len (l : List Nat) : (letters l).length = l.length := by simp [letters]
theorem letters_snoc (l : List Nat) (a : Nat) : letters l ++ [(S [], S [a])] = letters (l ++ [a]) := by simp [letters]
theorem letters_take (l : List Nat) (m : Nat) : (letters l).take m = letters (l.take m) := by simp [letters, List.map_take]
theorem letters_drop (l : List Nat) (m : Nat) : (letters l).drop m = letters (l.drop m) := by simp [letters, List.map_drop]
theorem letters_small (l : List Nat) : ∀ x ∈ letters l, small x := by
  intro x hx
  obtain ⟨a, _, rfl⟩ := List.mem_map.mp hx
  exact ⟨by show (S []).length ≤ 1000; rw [S_length]; simp, by show (S [a]).length ≤ 1000; rw [S_length]; simp⟩
theorem letters_pilLen (l : List Nat) : pilLen (letters l) = l.length := by
  induction l with
  | nil => rfl
  | cons a l ih =>
    have : pilLen (letters (a :: l)) = (((S []).length : Int) + (S [a]).length) + pilLen (letters l) := rfl
    rw [this, ih, S_length, S_length]
    simp; omega
theorem joinNil : ∀ l : List (List Nat), joinL [] l = l.flatten
  | [] => rfl
  | [x] => by simp [joinL]
  | x :: y :: r => by
    have := joinNil (y :: r)
    show x ++ [] ++ joinL [] (y :: r) = _
    rw [this]; simp
theorem letters_pilTxt (l : List Nat) : pilTxt (letters l) = S l := by
  have h1 : ("" : Str) = S [] := rfl
  unfold pilTxt letters
  rw [List.map_map]
  have h2 : (fun x : Str × Str => Txt.join "" [x.1, x.2]) ∘ (fun a => (S [], S [a])) = fun a => S [a] := by
    funext a
    have := join_S [] [[], [a]]
    rw [joinNil] at this
    simpa [h1] using this
  rw [h2]
  have := join_S [] (l.map fun a => [a])
  rw [joinNil, List.map_map] at this
  have h3 : (l.map fun a => [a]).flatten = l := by
    clear this
    induction l with
    | nil => rfl
    | cons a l ih => rw [List.map_cons, List.flatten_cons, ih]; rfl
  rw [h3] at this
  rw [h1]
  exact this
theorem G2.n_empty (G : G2 w c) : c.mg "EMPTYSTRING" = some (.str "" 246) := by rw [G.mg]; rfl
theorem len89_ok (G : G2 w c) (ao : AOk 1 A) {i : Nat} {k : Int} {l : List Nat} {K' : PV → Mu → Prop} (hi : μ[i]? = some (.pil k (letters l))) (hb : l.length ≤ 1000) (hk : -1000000 ≤ k ∧ k ≤ 1000000) (hK : K' (.int (k + l.length)) μ) : WC c A (.ref 89) [.loc i] μ K' := by
  have O := G.ok
  refine WC.def (n := 0) O (def89 G) ao rfl (noCell rfl) (mem1 rfl) (fun L => rfl) (by decide) (fun L => mem1 rfl) fun L A ao => ?_
  show WSs c A _ _ [("self", .loc i)] _ _
  refine WSs.cons O ?_
  refine WS.ret O ?_
  refine WE.pilsum (cl := []) O (pilK G) G.gl G.bm rfl ao.h (by have := ao.d; show A.depth < 1000; omega) (by repeat (first | with_reducible exact List.mem_cons_self | with_reducible refine List.mem_cons_of_mem _ ?_)) hi (by rw [letters_len]; exact hb) hk (letters_small l) ⟨rfl, (by with_unfolding_all rfl), noCell rfl, rfl, rfl, rfl, by decide, rfl⟩ (by with_unfolding_all rfl) (fun _ => (by with_unfolding_all rfl)) rfl (by with_unfolding_all rfl) (by with_unfolding_all rfl) (G2.n_len G) (G2.b_len G) rfl (G2.n_sum G) (G2.b_sum G) (by with_unfolding_all rfl) ?_
  rw [letters_pilLen]
  exact hK
theorem str96_ok (G : G2 w c) (ao : AOk 1 A) {i : Nat} {k : Int} {l : List Nat} {K' : PV → Mu → Prop} (hi : μ[i]? = some (.pil k (letters l))) (hb : l.length ≤ 1000) (hK : K' (.str (S l)) μ) : WC c A (.ref 96) [.loc i] μ K' := by
  have O := G.ok
  refine WC.def (n := 0) O (def96 G) ao rfl (noCell rfl) (mem1 rfl) (fun L => rfl) (by decide) (fun L => mem1 rfl) fun L A ao => ?_
  show WSs c A _ _ [("self", .loc i)] _ _
  refine WSs.cons O ?_
  refine WS.ret O ?_
  refine WE.piljoin (cl := []) O (pilK G) G.gs G.bm rfl ao.h (by have := ao.d; show A.depth < 1000; omega) (by repeat (first | with_reducible exact List.mem_cons_self | with_reducible refine List.mem_cons_of_mem _ ?_)) hi (by rw [letters_len]; exact hb) (letters_small l) ⟨rfl, (by with_unfolding_all rfl), noCell rfl, rfl, rfl, rfl, by decide, rfl⟩ (by with_unfolding_all rfl) (fun _ => (by with_unfolding_all rfl)) rfl (by with_unfolding_all rfl) (by with_unfolding_all rfl) (G2.n_empty G) rfl (fun _ _ => ⟨_, (by with_unfolding_all rfl)⟩) ⟨_, (by with_unfolding_all rfl)⟩ ?_
  rw [letters_pilTxt]
  exact hK
/-- len(pile) -/
theorem plen_ok (G : G2 w c) (ao : AOk 2 A) {i : Nat} {k : Int} {l : List Nat} {K' : PV → Mu → Prop} (hi : μ[i]? = some (.pil k (letters l))) (hb : l.length ≤ 1000) (hk : 0 ≤ k ∧ k ≤ 1000000) (hK : K' (.int (k + l.length)) μ) : WC c A (.builtin "len") [.loc i] μ K' :=
  WC.len_pil G.ok (pilK G) (f := 89) (by rw [G.C]; kernel_rfl) (by kernel_rfl) hi (len89_ok G ao.in1 hi hb (by omega) ⟨_, rfl, by omega, by omega, hK⟩)
/-- str(pile) -/
theorem pstr_ok (G : G2 w c) (ao : AOk 3 A) {i : Nat} {k : Int} {l : List Nat} {K' : PV → Mu → Prop} (hi : μ[i]? = some (.pil k (letters l))) (hb : l.length ≤ 1000) (hK : K' (.str (S l)) μ) : WC c A (.type "str") [.loc i] μ K' :=
  WC.str_pil G.ok (ao.mono (by decide)) (pilK G) (f := 96) (by rw [G.C]; kernel_rfl) (by kernel_rfl) hi (str96_ok G ao.in1.in1 hi hb ⟨_, rfl, hK⟩)
end
end Mine
namespace Mine
noncomputable section
theorem def28 {w : World} {c : Cx} (G : G2 w c) : DefOk c 28 (fd2 w 28) (bodyOf (fd2 w 28)) ["r", "g", "b"] where
  fn := ⟨⟨_, (G.here (a := 28) rfl).1, rfl⟩, (G.here (a := 28) rfl).2⟩
  code := ⟨27, _, _, _, rfl, (G.here (a := 27) rfl).1, (G.here (a := 27) rfl).2, rfl, rfl⟩
  body := rfl
  bind := fun s vs k h => by
    obtain ⟨a, b, c, rfl⟩ := len3 h
    exact BindsTo.of_eq (by kernel_rfl)
  nd := by decide
  dbg := mem3 (by decide) (by decide) (by decide)
  clo := rfl
  glo := rfl
  bi := rfl
  co := rfl
  gen := rfl
  kind := rfl

theorem def35 {w : World} {c : Cx} (G : G2 w c) : DefOk c 35 (fd2 w 35) (bodyOf (fd2 w 35)) ["h", "s", "v"] where
  fn := ⟨⟨_, (G.here (a := 35) rfl).1, rfl⟩, (G.here (a := 35) rfl).2⟩
  code := ⟨34, _, _, _, rfl, (G.here (a := 34) rfl).1, (G.here (a := 34) rfl).2, rfl, rfl⟩
  body := rfl
  bind := fun s vs k h => by
    obtain ⟨a, b, c, rfl⟩ := len3 h
    exact BindsTo.of_eq (by kernel_rfl)
  nd := by decide
  dbg := mem3 (by decide) (by decide) (by decide)
  clo := rfl
  glo := rfl
  bi := rfl
  co := rfl
  gen := rfl
  kind := rfl

variable {w : World} {c : Cx} {A : Around} {μ : Mu}
theorem rgb_ok (G : G2 w c) (ao : AOk 1 A) {r g b h s v : UInt64} {K' : PV → Mu → Prop} (hp : rgbP r g b = some (h, s, v)) (hK : K' (.tup [.flt h, .flt s, .flt v]) μ) : WC c A (.ref 28) [.flt r, .flt g, .flt b] μ K' := by
  have O := G.ok
  refine WC.def (n := 0) O (def28 G) ao rfl (noCell rfl) (mem3 rfl rfl rfl) (fun L => rfl) (by decide) (fun L => mem3 rfl rfl rfl) fun L A ao => ?_
  show WSs c A _ _ [("r", .flt r), ("g", .flt g), ("b", .flt b)] _ _
  unfold rgbP at hp
  refine WSs.cons O ?_
  with_reducible refine WS.assign_name O ?_ (.inl (by with_unfolding_all rfl)) (by with_unfolding_all rfl) (by with_unfolding_all rfl)
  with_reducible refine WE.call_bi O (G2.n_max G) (G2.b_max G) ?_ (by with_unfolding_all rfl) (by with_unfolding_all rfl) (by with_unfolding_all rfl) (by with_unfolding_all rfl)
  with_reducible refine WEs.cons O ?_ (by with_unfolding_all rfl)
  with_reducible refine WE.name (by repeat (first | with_reducible exact List.mem_cons_self | with_reducible refine List.mem_cons_of_mem _ ?_)) ?_
  with_reducible refine WEs.cons O ?_ (by with_unfolding_all rfl)
  with_reducible refine WE.name (by repeat (first | with_reducible exact List.mem_cons_self | with_reducible refine List.mem_cons_of_mem _ ?_)) ?_
  with_reducible refine WEs.cons O ?_ (by with_unfolding_all rfl)
  with_reducible refine WE.name (by repeat (first | with_reducible exact List.mem_cons_self | with_reducible refine List.mem_cons_of_mem _ ?_)) ?_
  with_reducible refine WEs.nil ?_
  refine WC.max3 O ao.h ?_
  with_reducible refine updE (by repeat (first | with_reducible exact UpdI.nil | with_reducible exact UpdI.head | (apply UpdI.tail; (· with_unfolding_all decide)))) ?_
  with_reducible refine WSs.cons O ?_
  with_reducible refine WS.assign_name O ?_ (.inl (by with_unfolding_all rfl)) (by with_unfolding_all rfl) (by with_unfolding_all rfl)
  with_reducible refine WE.call_bi O (G2.n_min G) (G2.b_min G) ?_ (by with_unfolding_all rfl) (by with_unfolding_all rfl) (by with_unfolding_all rfl) (by with_unfolding_all rfl)
  with_reducible refine WEs.cons O ?_ (by with_unfolding_all rfl)
  with_reducible refine WE.name (by repeat (first | with_reducible exact List.mem_cons_self | with_reducible refine List.mem_cons_of_mem _ ?_)) ?_
  with_reducible refine WEs.cons O ?_ (by with_unfolding_all rfl)
  with_reducible refine WE.name (by repeat (first | with_reducible exact List.mem_cons_self | with_reducible refine List.mem_cons_of_mem _ ?_)) ?_
  with_reducible refine WEs.cons O ?_ (by with_unfolding_all rfl)
  with_reducible refine WE.name (by repeat (first | with_reducible exact List.mem_cons_self | with_reducible refine List.mem_cons_of_mem _ ?_)) ?_
  with_reducible refine WEs.nil ?_
  refine WC.min3 O ao.h ?_
  with_reducible refine updE (by repeat (first | with_reducible exact UpdI.nil | with_reducible exact UpdI.head | (apply UpdI.tail; (· with_unfolding_all decide)))) ?_
  with_reducible refine WSs.cons O ?_
  with_reducible refine WS.assign_name O ?_ (.inl (by with_unfolding_all rfl)) (by with_unfolding_all rfl) (by with_unfolding_all rfl)
  with_reducible refine WE.bin O ?_
  with_reducible refine WE.name (by repeat (first | with_reducible exact List.mem_cons_self | with_reducible refine List.mem_cons_of_mem _ ?_)) ?_
  with_reducible refine WE.name (by repeat (first | with_reducible exact List.mem_cons_self | with_reducible refine List.mem_cons_of_mem _ ?_)) ?_
  with_reducible refine WV.sub_flt O ?_
  with_reducible refine updE (by repeat (first | with_reducible exact UpdI.nil | with_reducible exact UpdI.head | (apply UpdI.tail; (· with_unfolding_all decide)))) ?_
  with_reducible refine WSs.cons O ?_
  with_reducible refine WS.assign_name O ?_ (.inl (by with_unfolding_all rfl)) (by with_unfolding_all rfl) (by with_unfolding_all rfl)
  with_reducible refine WE.name (by repeat (first | with_reducible exact List.mem_cons_self | with_reducible refine List.mem_cons_of_mem _ ?_)) ?_
  with_reducible refine updE (by repeat (first | with_reducible exact UpdI.nil | with_reducible exact UpdI.head | (apply UpdI.tail; (· with_unfolding_all decide)))) ?_
  with_reducible refine WSs.cons O ?_
  generalize gtF (gtF r g) b = mx at *
  generalize ltF (ltF r g) b = mn at *
  refine WS.ite O ?_
  with_reducible refine WB.cmp1 O ?_ (by with_unfolding_all rfl)
  with_reducible refine WE.name (by repeat (first | with_reducible exact List.mem_cons_self | with_reducible refine List.mem_cons_of_mem _ ?_)) ?_
  with_reducible refine WE.name (by repeat (first | with_reducible exact List.mem_cons_self | with_reducible refine List.mem_cons_of_mem _ ?_)) ?_
  with_reducible refine WV.eq_flt ?_
  with_reducible refine Exists.intro _ (And.intro rfl ?_)
  split at hp
  · rename_i h0
    refine iteT h0 ?_
    with_reducible refine WSs.cons O ?_
    with_reducible refine WS.ret O ?_
    with_reducible refine WE.tuple O ?_
    with_reducible refine WEs.cons O ?_ (by with_unfolding_all rfl)
    with_reducible refine WE.flt O ?_
    with_reducible refine WEs.cons O ?_ (by with_unfolding_all rfl)
    with_reducible refine WE.flt O ?_
    with_reducible refine WEs.cons O ?_ (by with_unfolding_all rfl)
    with_reducible refine WE.name (by repeat (first | with_reducible exact List.mem_cons_self | with_reducible refine List.mem_cons_of_mem _ ?_)) ?_
    with_reducible refine WEs.nil ?_
    refine ⟨by simp, ?_⟩
    simp only [Option.some.injEq, Prod.mk.injEq] at hp
    obtain ⟨rfl, rfl, rfl⟩ := hp
    exact hK
  rename_i h0
  split at hp
  · cases hp
  rename_i h1
  split at hp
  · cases hp
  rename_i h2
  simp only [Option.some.injEq, Prod.mk.injEq] at hp
  obtain ⟨rfl, rfl, rfl⟩ := hp
  refine iteF (by simpa using h0) (WSs.nil ?_)
  with_reducible refine WSs.cons O ?_
  with_reducible refine WS.assign_name O ?_ (.inl (by with_unfolding_all rfl)) (by with_unfolding_all rfl) (by with_unfolding_all rfl)
  with_reducible refine WE.bin O ?_
  with_reducible refine WE.name (by repeat (first | with_reducible exact List.mem_cons_self | with_reducible refine List.mem_cons_of_mem _ ?_)) ?_
  with_reducible refine WE.name (by repeat (first | with_reducible exact List.mem_cons_self | with_reducible refine List.mem_cons_of_mem _ ?_)) ?_
  refine WV.div_flt O h1 ?_
  with_reducible refine updE (by repeat (first | with_reducible exact UpdI.nil | with_reducible exact UpdI.head | (apply UpdI.tail; (· with_unfolding_all decide)))) ?_
  with_reducible refine WSs.cons O ?_
  with_reducible refine WS.assign_name O ?_ (.inl (by with_unfolding_all rfl)) (by with_unfolding_all rfl) (by with_unfolding_all rfl)
  with_reducible refine WE.bin O ?_
  with_reducible refine WE.bin O ?_
  with_reducible refine WE.name (by repeat (first | with_reducible exact List.mem_cons_self | with_reducible refine List.mem_cons_of_mem _ ?_)) ?_
  with_reducible refine WE.name (by repeat (first | with_reducible exact List.mem_cons_self | with_reducible refine List.mem_cons_of_mem _ ?_)) ?_
  with_reducible refine WV.sub_flt O ?_
  with_reducible refine WE.name (by repeat (first | with_reducible exact List.mem_cons_self | with_reducible refine List.mem_cons_of_mem _ ?_)) ?_
  refine WV.div_flt O h2 ?_
  with_reducible refine updE (by repeat (first | with_reducible exact UpdI.nil | with_reducible exact UpdI.head | (apply UpdI.tail; (· with_unfolding_all decide)))) ?_
  with_reducible refine WSs.cons O ?_
  with_reducible refine WS.assign_name O ?_ (.inl (by with_unfolding_all rfl)) (by with_unfolding_all rfl) (by with_unfolding_all rfl)
  with_reducible refine WE.bin O ?_
  with_reducible refine WE.bin O ?_
  with_reducible refine WE.name (by repeat (first | with_reducible exact List.mem_cons_self | with_reducible refine List.mem_cons_of_mem _ ?_)) ?_
  with_reducible refine WE.name (by repeat (first | with_reducible exact List.mem_cons_self | with_reducible refine List.mem_cons_of_mem _ ?_)) ?_
  with_reducible refine WV.sub_flt O ?_
  with_reducible refine WE.name (by repeat (first | with_reducible exact List.mem_cons_self | with_reducible refine List.mem_cons_of_mem _ ?_)) ?_
  refine WV.div_flt O h2 ?_
  with_reducible refine updE (by repeat (first | with_reducible exact UpdI.nil | with_reducible exact UpdI.head | (apply UpdI.tail; (· with_unfolding_all decide)))) ?_
  with_reducible refine WSs.cons O ?_
  with_reducible refine WS.assign_name O ?_ (.inl (by with_unfolding_all rfl)) (by with_unfolding_all rfl) (by with_unfolding_all rfl)
  with_reducible refine WE.bin O ?_
  with_reducible refine WE.bin O ?_
  with_reducible refine WE.name (by repeat (first | with_reducible exact List.mem_cons_self | with_reducible refine List.mem_cons_of_mem _ ?_)) ?_
  with_reducible refine WE.name (by repeat (first | with_reducible exact List.mem_cons_self | with_reducible refine List.mem_cons_of_mem _ ?_)) ?_
  with_reducible refine WV.sub_flt O ?_
  with_reducible refine WE.name (by repeat (first | with_reducible exact List.mem_cons_self | with_reducible refine List.mem_cons_of_mem _ ?_)) ?_
  refine WV.div_flt O h2 ?_
  with_reducible refine updE (by repeat (first | with_reducible exact UpdI.nil | with_reducible exact UpdI.head | (apply UpdI.tail; (· with_unfolding_all decide)))) ?_
  with_reducible refine WSs.cons O ?_
  with_reducible refine WS.ite O ?_
  with_reducible refine WB.cmp1 O ?_ (by with_unfolding_all rfl)
  with_reducible refine WE.name (by repeat (first | with_reducible exact List.mem_cons_self | with_reducible refine List.mem_cons_of_mem _ ?_)) ?_
  with_reducible refine WE.name (by repeat (first | with_reducible exact List.mem_cons_self | with_reducible refine List.mem_cons_of_mem _ ?_)) ?_
  with_reducible refine WV.eq_flt ?_
  with_reducible refine Exists.intro _ (And.intro rfl ?_)
  by_cases c1 : (Float64.cmp r mx == some .eq) = true
  · rw [if_pos c1] at hK
    refine iteT c1 ?_
    with_reducible refine WSs.cons O ?_
    with_reducible refine WS.assign_name O ?_ (.inl (by with_unfolding_all rfl)) (by with_unfolding_all rfl) (by with_unfolding_all rfl)
    with_reducible refine WE.bin O ?_
    with_reducible refine WE.name (by repeat (first | with_reducible exact List.mem_cons_self | with_reducible refine List.mem_cons_of_mem _ ?_)) ?_
    with_reducible refine WE.name (by repeat (first | with_reducible exact List.mem_cons_self | with_reducible refine List.mem_cons_of_mem _ ?_)) ?_
    with_reducible refine WV.sub_flt O ?_
    with_reducible refine updE (by repeat (first | with_reducible exact UpdI.nil | with_reducible exact UpdI.head | (apply UpdI.tail; (· with_unfolding_all decide)))) ?_
    with_reducible refine WSs.nil ?_
    with_reducible refine WSs.cons O ?_
    with_reducible refine WS.assign_name O ?_ (.inl (by with_unfolding_all rfl)) (by with_unfolding_all rfl) (by with_unfolding_all rfl)
    with_reducible refine WE.bin O ?_
    with_reducible refine WE.bin O ?_
    with_reducible refine WE.name (by repeat (first | with_reducible exact List.mem_cons_self | with_reducible refine List.mem_cons_of_mem _ ?_)) ?_
    with_reducible refine WE.flt O ?_
    refine WV.div_flt O (by decide +kernel) ?_
    with_reducible refine WE.flt O ?_
    refine WV.mod_flt O (by decide +kernel) ?_
    with_reducible refine updE (by repeat (first | with_reducible exact UpdI.nil | with_reducible exact UpdI.head | (apply UpdI.tail; (· with_unfolding_all decide)))) ?_
    with_reducible refine WSs.cons O ?_
    with_reducible refine WS.ret O ?_
    with_reducible refine WE.tuple O ?_
    with_reducible refine WEs.cons O ?_ (by with_unfolding_all rfl)
    with_reducible refine WE.name (by repeat (first | with_reducible exact List.mem_cons_self | with_reducible refine List.mem_cons_of_mem _ ?_)) ?_
    with_reducible refine WEs.cons O ?_ (by with_unfolding_all rfl)
    with_reducible refine WE.name (by repeat (first | with_reducible exact List.mem_cons_self | with_reducible refine List.mem_cons_of_mem _ ?_)) ?_
    with_reducible refine WEs.cons O ?_ (by with_unfolding_all rfl)
    with_reducible refine WE.name (by repeat (first | with_reducible exact List.mem_cons_self | with_reducible refine List.mem_cons_of_mem _ ?_)) ?_
    with_reducible refine WEs.nil ?_
    refine ⟨by simp, ?_⟩
    exact hK
  rw [if_neg c1] at hK
  refine iteF (by simpa using c1) ?_
  refine WSs.cons O ?_
  with_reducible refine WS.ite O ?_
  with_reducible refine WB.cmp1 O ?_ (by with_unfolding_all rfl)
  with_reducible refine WE.name (by repeat (first | with_reducible exact List.mem_cons_self | with_reducible refine List.mem_cons_of_mem _ ?_)) ?_
  with_reducible refine WE.name (by repeat (first | with_reducible exact List.mem_cons_self | with_reducible refine List.mem_cons_of_mem _ ?_)) ?_
  with_reducible refine WV.eq_flt ?_
  with_reducible refine Exists.intro _ (And.intro rfl ?_)
  by_cases c2 : (Float64.cmp g mx == some .eq) = true
  · rw [if_pos c2] at hK
    refine iteT c2 ?_
    with_reducible refine WSs.cons O ?_
    with_reducible refine WS.assign_name O ?_ (.inl (by with_unfolding_all rfl)) (by with_unfolding_all rfl) (by with_unfolding_all rfl)
    with_reducible refine WE.bin O ?_
    with_reducible refine WE.bin O ?_
    with_reducible refine WE.flt O ?_
    with_reducible refine WE.name (by repeat (first | with_reducible exact List.mem_cons_self | with_reducible refine List.mem_cons_of_mem _ ?_)) ?_
    with_reducible refine WV.add_flt O ?_
    with_reducible refine WE.name (by repeat (first | with_reducible exact List.mem_cons_self | with_reducible refine List.mem_cons_of_mem _ ?_)) ?_
    with_reducible refine WV.sub_flt O ?_
    with_reducible refine updE (by repeat (first | with_reducible exact UpdI.nil | with_reducible exact UpdI.head | (apply UpdI.tail; (· with_unfolding_all decide)))) ?_
    with_reducible refine WSs.nil ?_
    with_reducible refine WSs.nil ?_
    with_reducible refine WSs.cons O ?_
    with_reducible refine WS.assign_name O ?_ (.inl (by with_unfolding_all rfl)) (by with_unfolding_all rfl) (by with_unfolding_all rfl)
    with_reducible refine WE.bin O ?_
    with_reducible refine WE.bin O ?_
    with_reducible refine WE.name (by repeat (first | with_reducible exact List.mem_cons_self | with_reducible refine List.mem_cons_of_mem _ ?_)) ?_
    with_reducible refine WE.flt O ?_
    refine WV.div_flt O (by decide +kernel) ?_
    with_reducible refine WE.flt O ?_
    refine WV.mod_flt O (by decide +kernel) ?_
    with_reducible refine updE (by repeat (first | with_reducible exact UpdI.nil | with_reducible exact UpdI.head | (apply UpdI.tail; (· with_unfolding_all decide)))) ?_
    with_reducible refine WSs.cons O ?_
    with_reducible refine WS.ret O ?_
    with_reducible refine WE.tuple O ?_
    with_reducible refine WEs.cons O ?_ (by with_unfolding_all rfl)
    with_reducible refine WE.name (by repeat (first | with_reducible exact List.mem_cons_self | with_reducible refine List.mem_cons_of_mem _ ?_)) ?_
    with_reducible refine WEs.cons O ?_ (by with_unfolding_all rfl)
    with_reducible refine WE.name (by repeat (first | with_reducible exact List.mem_cons_self | with_reducible refine List.mem_cons_of_mem _ ?_)) ?_
    with_reducible refine WEs.cons O ?_ (by with_unfolding_all rfl)
    with_reducible refine WE.name (by repeat (first | with_reducible exact List.mem_cons_self | with_reducible refine List.mem_cons_of_mem _ ?_)) ?_
    with_reducible refine WEs.nil ?_
    refine ⟨by simp, ?_⟩
    exact hK
  · rw [if_neg c2] at hK
    refine iteF (by simpa using c2) ?_
    with_reducible refine WSs.cons O ?_
    with_reducible refine WS.assign_name O ?_ (.inl (by with_unfolding_all rfl)) (by with_unfolding_all rfl) (by with_unfolding_all rfl)
    with_reducible refine WE.bin O ?_
    with_reducible refine WE.bin O ?_
    with_reducible refine WE.flt O ?_
    with_reducible refine WE.name (by repeat (first | with_reducible exact List.mem_cons_self | with_reducible refine List.mem_cons_of_mem _ ?_)) ?_
    with_reducible refine WV.add_flt O ?_
    with_reducible refine WE.name (by repeat (first | with_reducible exact List.mem_cons_self | with_reducible refine List.mem_cons_of_mem _ ?_)) ?_
    with_reducible refine WV.sub_flt O ?_
    with_reducible refine updE (by repeat (first | with_reducible exact UpdI.nil | with_reducible exact UpdI.head | (apply UpdI.tail; (· with_unfolding_all decide)))) ?_
    with_reducible refine WSs.nil ?_
    with_reducible refine WSs.nil ?_
    with_reducible refine WSs.cons O ?_
    with_reducible refine WS.assign_name O ?_ (.inl (by with_unfolding_all rfl)) (by with_unfolding_all rfl) (by with_unfolding_all rfl)
    with_reducible refine WE.bin O ?_
    with_reducible refine WE.bin O ?_
    with_reducible refine WE.name (by repeat (first | with_reducible exact List.mem_cons_self | with_reducible refine List.mem_cons_of_mem _ ?_)) ?_
    with_reducible refine WE.flt O ?_
    refine WV.div_flt O (by decide +kernel) ?_
    with_reducible refine WE.flt O ?_
    refine WV.mod_flt O (by decide +kernel) ?_
    with_reducible refine updE (by repeat (first | with_reducible exact UpdI.nil | with_reducible exact UpdI.head | (apply UpdI.tail; (· with_unfolding_all decide)))) ?_
    with_reducible refine WSs.cons O ?_
    with_reducible refine WS.ret O ?_
    with_reducible refine WE.tuple O ?_
    with_reducible refine WEs.cons O ?_ (by with_unfolding_all rfl)
    with_reducible refine WE.name (by repeat (first | with_reducible exact List.mem_cons_self | with_reducible refine List.mem_cons_of_mem _ ?_)) ?_
    with_reducible refine WEs.cons O ?_ (by with_unfolding_all rfl)
    with_reducible refine WE.name (by repeat (first | with_reducible exact List.mem_cons_self | with_reducible refine List.mem_cons_of_mem _ ?_)) ?_
    with_reducible refine WEs.cons O ?_ (by with_unfolding_all rfl)
    with_reducible refine WE.name (by repeat (first | with_reducible exact List.mem_cons_self | with_reducible refine List.mem_cons_of_mem _ ?_)) ?_
    with_reducible refine WEs.nil ?_
    refine ⟨by simp, ?_⟩
    exact hK
theorem hsv_ok (G : G2 w c) (ao : AOk 1 A) {h s v r g b : UInt64} {K' : PV → Mu → Prop} (hp : hsvP h s v = some (r, g, b)) (hK : K' (.tup [.flt r, .flt g, .flt b]) μ) : WC c A (.ref 35) [.flt h, .flt s, .flt v] μ K' := by
  have O := G.ok
  refine WC.def (n := 0) O (def35 G) ao rfl (noCell rfl) (mem3 rfl rfl rfl) (fun L => rfl) (by decide) (fun L => mem3 rfl rfl rfl) fun L A ao => ?_
  show WSs c A _ _ [("h", .flt h), ("s", .flt s), ("v", .flt v)] _ _
  unfold hsvP at hp
  refine WSs.cons O ?_
  with_reducible refine WS.ite O ?_
  with_reducible refine WB.cmp1 O ?_ (by with_unfolding_all rfl)
  with_reducible refine WE.name (by repeat (first | with_reducible exact List.mem_cons_self | with_reducible refine List.mem_cons_of_mem _ ?_)) ?_
  with_reducible refine WE.flt O ?_
  with_reducible refine WV.eq_flt ?_
  with_reducible refine Exists.intro _ (And.intro rfl ?_)
  by_cases c0 : (Float64.cmp s 0 == some .eq) = true
  · rw [if_pos c0] at hp
    simp only [Option.some.injEq, Prod.mk.injEq] at hp
    obtain ⟨rfl, rfl, rfl⟩ := hp
    refine iteT c0 ?_
    with_reducible refine WSs.cons O ?_
    with_reducible refine WS.ret O ?_
    with_reducible refine WE.tuple O ?_
    with_reducible refine WEs.cons O ?_ (by with_unfolding_all rfl)
    with_reducible refine WE.name (by repeat (first | with_reducible exact List.mem_cons_self | with_reducible refine List.mem_cons_of_mem _ ?_)) ?_
    with_reducible refine WEs.cons O ?_ (by with_unfolding_all rfl)
    with_reducible refine WE.name (by repeat (first | with_reducible exact List.mem_cons_self | with_reducible refine List.mem_cons_of_mem _ ?_)) ?_
    with_reducible refine WEs.cons O ?_ (by with_unfolding_all rfl)
    with_reducible refine WE.name (by repeat (first | with_reducible exact List.mem_cons_self | with_reducible refine List.mem_cons_of_mem _ ?_)) ?_
    with_reducible refine WEs.nil ?_
    refine ⟨by simp, ?_⟩
    exact hK
  rw [if_neg c0] at hp
  refine iteF (by simpa using c0) (WSs.nil ?_)
  unfold truncP at hp
  cases hd : Float64.decode (Float64.mul h 4618441417868443648) with
  | fin sg m e => ?_
  | _ => rw [hd] at hp; cases hp
  rw [hd] at hp
  dsimp only at hp
  with_reducible refine WSs.cons O ?_
  with_reducible refine WS.assign_name O ?_ (.inl (by with_unfolding_all rfl)) (by with_unfolding_all rfl) (by with_unfolding_all rfl)
  with_reducible refine WE.call_ty O (G2.n_int G) (G2.b_int G) ?_ (by with_unfolding_all rfl) (by with_unfolding_all rfl) (by with_unfolding_all rfl) (by with_unfolding_all rfl)
  with_reducible refine WEs.cons O ?_ (by with_unfolding_all rfl)
  with_reducible refine WE.bin O ?_
  with_reducible refine WE.name (by repeat (first | with_reducible exact List.mem_cons_self | with_reducible refine List.mem_cons_of_mem _ ?_)) ?_
  with_reducible refine WE.flt O ?_
  with_reducible refine WV.mul_flt O ?_
  with_reducible refine WEs.nil ?_
  refine WC.int_flt O hd ?_
  generalize Float64.truncOf sg m e = i at *
  split at hp
  case isFalse => cases hp
  rename_i hi
  with_reducible refine updE (by repeat (first | with_reducible exact UpdI.nil | with_reducible exact UpdI.head | (apply UpdI.tail; (· with_unfolding_all decide)))) ?_
  with_reducible refine WSs.cons O ?_
  with_reducible refine WS.assign_name O ?_ (.inl (by with_unfolding_all rfl)) (by with_unfolding_all rfl) (by with_unfolding_all rfl)
  with_reducible refine WE.bin O ?_
  with_reducible refine WE.bin O ?_
  with_reducible refine WE.name (by repeat (first | with_reducible exact List.mem_cons_self | with_reducible refine List.mem_cons_of_mem _ ?_)) ?_
  with_reducible refine WE.flt O ?_
  with_reducible refine WV.mul_flt O ?_
  with_reducible refine WE.name (by repeat (first | with_reducible exact List.mem_cons_self | with_reducible refine List.mem_cons_of_mem _ ?_)) ?_
  refine WV.sub_fi O hi ?_
  with_reducible refine updE (by repeat (first | with_reducible exact UpdI.nil | with_reducible exact UpdI.head | (apply UpdI.tail; (· with_unfolding_all decide)))) ?_
  with_reducible refine WSs.cons O ?_
  with_reducible refine WS.assign_name O ?_ (.inl (by with_unfolding_all rfl)) (by with_unfolding_all rfl) (by with_unfolding_all rfl)
  with_reducible refine WE.bin O ?_
  with_reducible refine WE.name (by repeat (first | with_reducible exact List.mem_cons_self | with_reducible refine List.mem_cons_of_mem _ ?_)) ?_
  with_reducible refine WE.bin O ?_
  with_reducible refine WE.flt O ?_
  with_reducible refine WE.name (by repeat (first | with_reducible exact List.mem_cons_self | with_reducible refine List.mem_cons_of_mem _ ?_)) ?_
  with_reducible refine WV.sub_flt O ?_
  with_reducible refine WV.mul_flt O ?_
  with_reducible refine updE (by repeat (first | with_reducible exact UpdI.nil | with_reducible exact UpdI.head | (apply UpdI.tail; (· with_unfolding_all decide)))) ?_
  with_reducible refine WSs.cons O ?_
  with_reducible refine WS.assign_name O ?_ (.inl (by with_unfolding_all rfl)) (by with_unfolding_all rfl) (by with_unfolding_all rfl)
  with_reducible refine WE.bin O ?_
  with_reducible refine WE.name (by repeat (first | with_reducible exact List.mem_cons_self | with_reducible refine List.mem_cons_of_mem _ ?_)) ?_
  with_reducible refine WE.bin O ?_
  with_reducible refine WE.flt O ?_
  with_reducible refine WE.bin O ?_
  with_reducible refine WE.name (by repeat (first | with_reducible exact List.mem_cons_self | with_reducible refine List.mem_cons_of_mem _ ?_)) ?_
  with_reducible refine WE.name (by repeat (first | with_reducible exact List.mem_cons_self | with_reducible refine List.mem_cons_of_mem _ ?_)) ?_
  with_reducible refine WV.mul_flt O ?_
  with_reducible refine WV.sub_flt O ?_
  with_reducible refine WV.mul_flt O ?_
  with_reducible refine updE (by repeat (first | with_reducible exact UpdI.nil | with_reducible exact UpdI.head | (apply UpdI.tail; (· with_unfolding_all decide)))) ?_
  with_reducible refine WSs.cons O ?_
  with_reducible refine WS.assign_name O ?_ (.inl (by with_unfolding_all rfl)) (by with_unfolding_all rfl) (by with_unfolding_all rfl)
  with_reducible refine WE.bin O ?_
  with_reducible refine WE.name (by repeat (first | with_reducible exact List.mem_cons_self | with_reducible refine List.mem_cons_of_mem _ ?_)) ?_
  with_reducible refine WE.bin O ?_
  with_reducible refine WE.flt O ?_
  with_reducible refine WE.bin O ?_
  with_reducible refine WE.name (by repeat (first | with_reducible exact List.mem_cons_self | with_reducible refine List.mem_cons_of_mem _ ?_)) ?_
  with_reducible refine WE.bin O ?_
  with_reducible refine WE.flt O ?_
  with_reducible refine WE.name (by repeat (first | with_reducible exact List.mem_cons_self | with_reducible refine List.mem_cons_of_mem _ ?_)) ?_
  with_reducible refine WV.sub_flt O ?_
  with_reducible refine WV.mul_flt O ?_
  with_reducible refine WV.sub_flt O ?_
  with_reducible refine WV.mul_flt O ?_
  with_reducible refine updE (by repeat (first | with_reducible exact UpdI.nil | with_reducible exact UpdI.head | (apply UpdI.tail; (· with_unfolding_all decide)))) ?_
  with_reducible refine WSs.cons O ?_
  with_reducible refine WS.assign_name O ?_ (.inl (by with_unfolding_all rfl)) (by with_unfolding_all rfl) (by with_unfolding_all rfl)
  with_reducible refine WE.bin O ?_
  with_reducible refine WE.name (by repeat (first | with_reducible exact List.mem_cons_self | with_reducible refine List.mem_cons_of_mem _ ?_)) ?_
  with_reducible refine WE.int O ?_
  refine WV.mod_int O (by decide) ?_
  with_reducible refine updE (by repeat (first | with_reducible exact UpdI.nil | with_reducible exact UpdI.head | (apply UpdI.tail; (· with_unfolding_all decide)))) ?_
  with_reducible refine WSs.cons O ?_
  with_reducible refine WS.ite O ?_
  with_reducible refine WB.cmp1 O ?_ (by with_unfolding_all rfl)
  with_reducible refine WE.name (by repeat (first | with_reducible exact List.mem_cons_self | with_reducible refine List.mem_cons_of_mem _ ?_)) ?_
  with_reducible refine WE.int O ?_
  with_reducible refine WV.eq_int ?_
  with_reducible refine Exists.intro _ (And.intro rfl ?_)
  by_cases c1 : i.fmod 6 = 0
  · rw [if_pos c1] at hp
    simp only [Option.some.injEq, Prod.mk.injEq] at hp
    obtain ⟨rfl, rfl, rfl⟩ := hp
    refine iteT (by rw [c1]; rfl) ?_
    with_reducible refine WSs.cons O ?_
    with_reducible refine WS.ret O ?_
    with_reducible refine WE.tuple O ?_
    with_reducible refine WEs.cons O ?_ (by with_unfolding_all rfl)
    with_reducible refine WE.name (by repeat (first | with_reducible exact List.mem_cons_self | with_reducible refine List.mem_cons_of_mem _ ?_)) ?_
    with_reducible refine WEs.cons O ?_ (by with_unfolding_all rfl)
    with_reducible refine WE.name (by repeat (first | with_reducible exact List.mem_cons_self | with_reducible refine List.mem_cons_of_mem _ ?_)) ?_
    with_reducible refine WEs.cons O ?_ (by with_unfolding_all rfl)
    with_reducible refine WE.name (by repeat (first | with_reducible exact List.mem_cons_self | with_reducible refine List.mem_cons_of_mem _ ?_)) ?_
    with_reducible refine WEs.nil ?_
    refine ⟨by simp, ?_⟩
    exact hK
  rw [if_neg c1] at hp
  refine iteF (by simpa using c1) (WSs.nil ?_)
  refine WSs.cons O ?_
  with_reducible refine WS.ite O ?_
  with_reducible refine WB.cmp1 O ?_ (by with_unfolding_all rfl)
  with_reducible refine WE.name (by repeat (first | with_reducible exact List.mem_cons_self | with_reducible refine List.mem_cons_of_mem _ ?_)) ?_
  with_reducible refine WE.int O ?_
  with_reducible refine WV.eq_int ?_
  with_reducible refine Exists.intro _ (And.intro rfl ?_)
  by_cases c2 : i.fmod 6 = 1
  · rw [if_pos c2] at hp
    simp only [Option.some.injEq, Prod.mk.injEq] at hp
    obtain ⟨rfl, rfl, rfl⟩ := hp
    refine iteT (by rw [c2]; rfl) ?_
    with_reducible refine WSs.cons O ?_
    with_reducible refine WS.ret O ?_
    with_reducible refine WE.tuple O ?_
    with_reducible refine WEs.cons O ?_ (by with_unfolding_all rfl)
    with_reducible refine WE.name (by repeat (first | with_reducible exact List.mem_cons_self | with_reducible refine List.mem_cons_of_mem _ ?_)) ?_
    with_reducible refine WEs.cons O ?_ (by with_unfolding_all rfl)
    with_reducible refine WE.name (by repeat (first | with_reducible exact List.mem_cons_self | with_reducible refine List.mem_cons_of_mem _ ?_)) ?_
    with_reducible refine WEs.cons O ?_ (by with_unfolding_all rfl)
    with_reducible refine WE.name (by repeat (first | with_reducible exact List.mem_cons_self | with_reducible refine List.mem_cons_of_mem _ ?_)) ?_
    with_reducible refine WEs.nil ?_
    refine ⟨by simp, ?_⟩
    exact hK
  rw [if_neg c2] at hp
  refine iteF (by simpa using c2) (WSs.nil ?_)
  refine WSs.cons O ?_
  with_reducible refine WS.ite O ?_
  with_reducible refine WB.cmp1 O ?_ (by with_unfolding_all rfl)
  with_reducible refine WE.name (by repeat (first | with_reducible exact List.mem_cons_self | with_reducible refine List.mem_cons_of_mem _ ?_)) ?_
  with_reducible refine WE.int O ?_
  with_reducible refine WV.eq_int ?_
  with_reducible refine Exists.intro _ (And.intro rfl ?_)
  by_cases c3 : i.fmod 6 = 2
  · rw [if_pos c3] at hp
    simp only [Option.some.injEq, Prod.mk.injEq] at hp
    obtain ⟨rfl, rfl, rfl⟩ := hp
    refine iteT (by rw [c3]; rfl) ?_
    with_reducible refine WSs.cons O ?_
    with_reducible refine WS.ret O ?_
    with_reducible refine WE.tuple O ?_
    with_reducible refine WEs.cons O ?_ (by with_unfolding_all rfl)
    with_reducible refine WE.name (by repeat (first | with_reducible exact List.mem_cons_self | with_reducible refine List.mem_cons_of_mem _ ?_)) ?_
    with_reducible refine WEs.cons O ?_ (by with_unfolding_all rfl)
    with_reducible refine WE.name (by repeat (first | with_reducible exact List.mem_cons_self | with_reducible refine List.mem_cons_of_mem _ ?_)) ?_
    with_reducible refine WEs.cons O ?_ (by with_unfolding_all rfl)
    with_reducible refine WE.name (by repeat (first | with_reducible exact List.mem_cons_self | with_reducible refine List.mem_cons_of_mem _ ?_)) ?_
    with_reducible refine WEs.nil ?_
    refine ⟨by simp, ?_⟩
    exact hK
  rw [if_neg c3] at hp
  refine iteF (by simpa using c3) (WSs.nil ?_)
  refine WSs.cons O ?_
  with_reducible refine WS.ite O ?_
  with_reducible refine WB.cmp1 O ?_ (by with_unfolding_all rfl)
  with_reducible refine WE.name (by repeat (first | with_reducible exact List.mem_cons_self | with_reducible refine List.mem_cons_of_mem _ ?_)) ?_
  with_reducible refine WE.int O ?_
  with_reducible refine WV.eq_int ?_
  with_reducible refine Exists.intro _ (And.intro rfl ?_)
  by_cases c4 : i.fmod 6 = 3
  · rw [if_pos c4] at hp
    simp only [Option.some.injEq, Prod.mk.injEq] at hp
    obtain ⟨rfl, rfl, rfl⟩ := hp
    refine iteT (by rw [c4]; rfl) ?_
    with_reducible refine WSs.cons O ?_
    with_reducible refine WS.ret O ?_
    with_reducible refine WE.tuple O ?_
    with_reducible refine WEs.cons O ?_ (by with_unfolding_all rfl)
    with_reducible refine WE.name (by repeat (first | with_reducible exact List.mem_cons_self | with_reducible refine List.mem_cons_of_mem _ ?_)) ?_
    with_reducible refine WEs.cons O ?_ (by with_unfolding_all rfl)
    with_reducible refine WE.name (by repeat (first | with_reducible exact List.mem_cons_self | with_reducible refine List.mem_cons_of_mem _ ?_)) ?_
    with_reducible refine WEs.cons O ?_ (by with_unfolding_all rfl)
    with_reducible refine WE.name (by repeat (first | with_reducible exact List.mem_cons_self | with_reducible refine List.mem_cons_of_mem _ ?_)) ?_
    with_reducible refine WEs.nil ?_
    refine ⟨by simp, ?_⟩
    exact hK
  rw [if_neg c4] at hp
  refine iteF (by simpa using c4) (WSs.nil ?_)
  refine WSs.cons O ?_
  with_reducible refine WS.ite O ?_
  with_reducible refine WB.cmp1 O ?_ (by with_unfolding_all rfl)
  with_reducible refine WE.name (by repeat (first | with_reducible exact List.mem_cons_self | with_reducible refine List.mem_cons_of_mem _ ?_)) ?_
  with_reducible refine WE.int O ?_
  with_reducible refine WV.eq_int ?_
  with_reducible refine Exists.intro _ (And.intro rfl ?_)
  by_cases c5 : i.fmod 6 = 4
  · rw [if_pos c5] at hp
    simp only [Option.some.injEq, Prod.mk.injEq] at hp
    obtain ⟨rfl, rfl, rfl⟩ := hp
    refine iteT (by rw [c5]; rfl) ?_
    with_reducible refine WSs.cons O ?_
    with_reducible refine WS.ret O ?_
    with_reducible refine WE.tuple O ?_
    with_reducible refine WEs.cons O ?_ (by with_unfolding_all rfl)
    with_reducible refine WE.name (by repeat (first | with_reducible exact List.mem_cons_self | with_reducible refine List.mem_cons_of_mem _ ?_)) ?_
    with_reducible refine WEs.cons O ?_ (by with_unfolding_all rfl)
    with_reducible refine WE.name (by repeat (first | with_reducible exact List.mem_cons_self | with_reducible refine List.mem_cons_of_mem _ ?_)) ?_
    with_reducible refine WEs.cons O ?_ (by with_unfolding_all rfl)
    with_reducible refine WE.name (by repeat (first | with_reducible exact List.mem_cons_self | with_reducible refine List.mem_cons_of_mem _ ?_)) ?_
    with_reducible refine WEs.nil ?_
    refine ⟨by simp, ?_⟩
    exact hK
  rw [if_neg c5] at hp
  refine iteF (by simpa using c5) (WSs.nil ?_)
  have c6 : i.fmod 6 = 5 := by
    rw [Int.fmod_eq_emod_of_nonneg i (by decide)] at *
    omega
  simp only [Option.some.injEq, Prod.mk.injEq] at hp
  obtain ⟨rfl, rfl, rfl⟩ := hp
  refine WSs.cons O ?_
  with_reducible refine WS.ite O ?_
  with_reducible refine WB.cmp1 O ?_ (by with_unfolding_all rfl)
  with_reducible refine WE.name (by repeat (first | with_reducible exact List.mem_cons_self | with_reducible refine List.mem_cons_of_mem _ ?_)) ?_
  with_reducible refine WE.int O ?_
  with_reducible refine WV.eq_int ?_
  with_reducible refine Exists.intro _ (And.intro rfl ?_)
  refine iteT (by rw [c6]; rfl) ?_
  with_reducible refine WSs.cons O ?_
  with_reducible refine WS.ret O ?_
  with_reducible refine WE.tuple O ?_
  with_reducible refine WEs.cons O ?_ (by with_unfolding_all rfl)
  with_reducible refine WE.name (by repeat (first | with_reducible exact List.mem_cons_self | with_reducible refine List.mem_cons_of_mem _ ?_)) ?_
  with_reducible refine WEs.cons O ?_ (by with_unfolding_all rfl)
  with_reducible refine WE.name (by repeat (first | with_reducible exact List.mem_cons_self | with_reducible refine List.mem_cons_of_mem _ ?_)) ?_
  with_reducible refine WEs.cons O ?_ (by with_unfolding_all rfl)
  with_reducible refine WE.name (by repeat (first | with_reducible exact List.mem_cons_self | with_reducible refine List.mem_cons_of_mem _ ?_)) ?_
  with_reducible refine WEs.nil ?_
  refine ⟨by simp, ?_⟩
  exact hK
end
end Mine
namespace Mine
noncomputable section
theorem def131 {w : World} {c : Cx} (G : G2 w c) : DefOk c 131 (fd2 w 131) (bodyOf (fd2 w 131)) ["number", "first"] where
  fn := ⟨⟨_, (G.here (a := 131) rfl).1, rfl⟩, (G.here (a := 131) rfl).2⟩
  code := ⟨130, _, _, _, rfl, (G.here (a := 130) rfl).1, (G.here (a := 130) rfl).2, rfl, rfl⟩
  body := rfl
  bind := fun s vs k h => by
    obtain ⟨a, b, rfl⟩ := len2 h
    exact BindsTo.of_eq (by kernel_rfl)
  nd := by decide
  dbg := mem2 (by decide) (by decide)
  clo := rfl
  glo := rfl
  bi := rfl
  co := rfl
  gen := rfl
  kind := rfl

variable {w : World} {c : Cx} {A : Around} {μ : Mu}
def litP (p : Nat) : Nat := if p = 0 then 97 else if p = 1 then 98 else 111
def shP (x : Nat) : Nat := if x % 3 < 2 then 1 + 2 ^ 30 / 3 * (x / 3 % 4) else 0
def vaP (x : Nat) : Nat := if x % 3 < 2 then 1 + 2 ^ 20 / 3 * (x / 12 % 4) else 2 ^ 18 * (x / 12 % 5)
def huP (x first : Nat) : Nat := if x % 3 = 2 then 0 else first + 24 * (x % 3)
theorem light_plain {x first : Nat} (hf : first < 24) : ∃ r g b, hsvP (fdiv ((first + 24 * (x % 3) + 48 * (x / 60 % 3) : Nat) : Int) ((48 : Nat) : Int)) (fdiv (shP x : Int) ((2 ^ 30 : Nat) : Int)) (fdiv (vaP x : Int) ((2 ^ 20 : Nat) : Int)) = some (r, g, b) ∧
    rgbP r g b = some (fdiv (huP x first : Int) ((48 : Nat) : Int), fdiv (shP x : Int) ((2 ^ 30 : Nat) : Int), fdiv (vaP x : Int) ((2 ^ 20 : Nat) : Int)) ∧ same (fdiv (huP x first : Int) ((48 : Nat) : Int)) = true ∧ same (fdiv (shP x : Int) ((2 ^ 30 : Nat) : Int)) = true ∧ same (fdiv (vaP x : Int) ((2 ^ 20 : Nat) : Int)) = true ∧
    (Float64.cmpInt (fdiv (shP x : Int) ((2 ^ 30 : Nat) : Int)) 0 == some .gt) = decide (x % 3 < 2) ∧ (x % 3 < 2 → truncP (Float64.mul (Float64.ofInt 2) (fdiv (huP x first : Int) ((48 : Nat) : Int))) = some ((x % 3 : Nat) : Int)) := by
  by_cases hp : x % 3 < 2
  · have h := hue_plain (n := first + 24 * (x % 3)) (t := x / 60 % 3) (i := x / 3 % 4) (j := x / 12 % 4) (by omega) (by omega) (by omega) (by omega)
    have e1 : shP x = 1 + 2 ^ 30 / 3 * (x / 3 % 4) := if_pos hp
    have e2 : vaP x = 1 + 2 ^ 20 / 3 * (x / 12 % 4) := if_pos hp
    have e3 : huP x first = first + 24 * (x % 3) := if_neg (by omega)
    obtain ⟨r, g, b, h1, h2⟩ := h
    rw [e1, e2, e3]
    have s1 := (same_at (i := x / 3 % 4)).2 (by omega)
    have s2 := (same_at (i := x / 12 % 4)).2 (by omega)
    have s3 := (same_at (i := 0)).1 (first + 24 * (x % 3)) (by omega)
    have g1 := all_range sat_all (k := x / 3 % 4) (by omega)
    rw [Bool.and_eq_true] at g1
    have l1 := all_range let_all (k := first + 24 * (x % 3)) (by omega)
    refine ⟨r, g, b, h1, h2, s3, s1.1, s2.2.1, ?_, fun _ => ?_⟩
    · rw [decide_eq_true hp]; exact g1.2
    · have l2 := eq_of_beq l1
      rw [show truncP (Float64.mul (Float64.ofInt 2) (fdiv ((first + 24 * (x % 3) : Nat) : Int) ((48 : Nat) : Int))) = _ from l2]
      have : x % 3 = 0 ∨ x % 3 = 1 := by omega
      rcases this with h | h <;> rw [h]
      · rw [if_pos (by omega)]; rfl
      · rw [if_neg (by omega)]; rfl
  · have e0 : x % 3 = 2 := by omega
    have e1 : shP x = 0 := if_neg hp
    have e2 : vaP x = 2 ^ 18 * (x / 12 % 5) := if_neg hp
    have e3 : huP x first = 0 := if_pos e0
    rw [e1, e2, e3]
    have hz := zero_all
    have h1 : fdiv ((0 : Nat) : Int) ((2 ^ 30 : Nat) : Int) = 0 := hz.2.1
    have h2 : fdiv ((0 : Nat) : Int) ((48 : Nat) : Int) = 0 := hz.1
    have h := grey_plain (h := fdiv ((first + 24 * (x % 3) + 48 * (x / 60 % 3) : Nat) : Int) ((48 : Nat) : Int)) (j := x / 12 % 5) (by omega)
    have s2 := (same_at (i := x / 12 % 5)).2 (by omega)
    rw [h1, h2]
    exact ⟨_, _, _, h.1, h.2, hz.2.2.1, hz.2.2.1, s2.2.2, by rw [decide_eq_false hp]; exact hz.2.2.2, fun h => absurd h hp⟩
theorem light_ok (G : G2 w c) (ao : AOk 2 A) {number first : Nat} {K' : PV → Mu → Prop} (hn : number ≤ 1000000) (hf : first < 24) (hK : ∀ g, K' (.str (S [litP (number % 3)])) (μ ++ g)) : WC c A (.ref 131) [.int number, .int first] μ K' := by
  have O := G.ok
  obtain ⟨r, gg, b, p1, p2, s1, s2, s3, q1, q2⟩ := light_plain (x := number) hf
  have hsh : shP number < 2 ^ 40 := by unfold shP; split <;> omega
  have hb1 : first + 24 * (number % 3) + 48 * (number / 60 % 3) < 2 ^ 40 := by omega
  have hva : vaP number < 2 ^ 40 := by unfold vaP; split <;> omega
  have big : ∀ n : Nat, n < 2 ^ 40 → n < 2 ^ 1023 := fun n h => Nat.lt_trans h (Nat.pow_lt_pow_right (by decide) (by decide))
  refine WC.def (n := 1) O (def131 G) ao rfl (noCell rfl) (mem2 rfl rfl) (fun L => rfl) (by decide) (fun L => mem2 rfl rfl) fun L A ao => ?_
  show WSs c A _ _ [("number", .int number), ("first", .int first)] _ _
  refine WSs.cons O ?_
  refine WS.assign_swap (names := ["place", "share", "value"]) O ao.h ?_ (by with_unfolding_all rfl) (by with_unfolding_all rfl)
  with_reducible refine WE.tuple O ?_
  with_reducible refine WEs.cons O ?_ (by with_unfolding_all rfl)
  with_reducible refine WE.bin O ?_
  with_reducible refine WE.name (by repeat (first | with_reducible exact List.mem_cons_self | with_reducible refine List.mem_cons_of_mem _ ?_)) ?_
  with_reducible refine WE.int O ?_
  with_reducible refine WV.mod_nat O (by with_unfolding_all rfl) (by with_unfolding_all rfl) (by decide) ?_
  with_reducible refine WEs.cons O ?_ (by with_unfolding_all rfl)
  with_reducible refine WE.int O ?_
  with_reducible refine WEs.cons O ?_ (by with_unfolding_all rfl)
  with_reducible refine WE.bin O ?_
  with_reducible refine WE.bin O ?_
  with_reducible refine WE.int O ?_
  with_reducible refine WE.int O ?_
  with_reducible refine WV.pow_nat O (by with_unfolding_all rfl) (by with_unfolding_all rfl) (by decide) ?_
  with_reducible refine WE.bin O ?_
  with_reducible refine WE.bin O ?_
  with_reducible refine WE.name (by repeat (first | with_reducible exact List.mem_cons_self | with_reducible refine List.mem_cons_of_mem _ ?_)) ?_
  with_reducible refine WE.int O ?_
  with_reducible refine WV.div_nat O (by with_unfolding_all rfl) (by with_unfolding_all rfl) (by decide) ?_
  with_reducible refine WE.int O ?_
  with_reducible refine WV.mod_nat O (by with_unfolding_all rfl) (by with_unfolding_all rfl) (by decide) ?_
  with_reducible refine WV.mul_nat O (by with_unfolding_all rfl) (by with_unfolding_all rfl) (by decide) ?_
  with_reducible refine WEs.nil ?_
  refine ⟨by simp, _, rfl, rfl, ?_⟩
  refine WAs.bind O (by repeat (first | with_reducible exact UpdI.nil | with_reducible exact UpdI.head | (apply UpdI.tail; (· with_unfolding_all decide)))) (.inl rfl) rfl (WAs.bind O (by repeat (first | with_reducible exact UpdI.nil | with_reducible exact UpdI.head | (apply UpdI.tail; (· with_unfolding_all decide)))) (.inl rfl) rfl (WAs.bind O (by repeat (first | with_reducible exact UpdI.nil | with_reducible exact UpdI.head | (apply UpdI.tail; (· with_unfolding_all decide)))) (.inl rfl) rfl (WAs.nil ?_)))
  refine WSs.cons O ?_
  refine WS.mono (K := fun f ρ' μ' => f = .next ∧ ρ' = ([("number", .int number), ("first", .int first), ("value", .int (vaP number)), ("share", .int (shP number)), ("place", .int ((number % 3 : Nat) : Int))] : Rho) ∧ μ' = μ) ?_ ?_
  · with_reducible refine WS.ite O ?_
    with_reducible refine WB.cmp1 O ?_ (by with_unfolding_all rfl)
    with_reducible refine WE.name (by repeat (first | with_reducible exact List.mem_cons_self | with_reducible refine List.mem_cons_of_mem _ ?_)) ?_
    with_reducible refine WE.int O ?_
    with_reducible refine WV.lt_nat (by with_unfolding_all rfl) (by with_unfolding_all rfl) ?_
    with_reducible refine Exists.intro _ (And.intro rfl ?_)
    by_cases hp : number % 3 < 2
    · refine iteT (decide_eq_true hp) ?_
      refine WSs.cons O ?_
      refine WS.assign_swap (names := ["share", "value"]) O ao.h ?_ (by with_unfolding_all rfl) (by with_unfolding_all rfl)
      with_reducible refine WE.tuple O ?_
      with_reducible refine WEs.cons O ?_ (by with_unfolding_all rfl)
      with_reducible refine WE.bin O ?_
      with_reducible refine WE.int O ?_
      with_reducible refine WE.bin O ?_
      with_reducible refine WE.bin O ?_
      with_reducible refine WE.bin O ?_
      with_reducible refine WE.int O ?_
      with_reducible refine WE.int O ?_
      with_reducible refine WV.pow_nat O (by with_unfolding_all rfl) (by with_unfolding_all rfl) (by decide) ?_
      with_reducible refine WE.int O ?_
      with_reducible refine WV.div_nat O (by with_unfolding_all rfl) (by with_unfolding_all rfl) (by decide) ?_
      with_reducible refine WE.bin O ?_
      with_reducible refine WE.bin O ?_
      with_reducible refine WE.name (by repeat (first | with_reducible exact List.mem_cons_self | with_reducible refine List.mem_cons_of_mem _ ?_)) ?_
      with_reducible refine WE.int O ?_
      with_reducible refine WV.div_nat O (by with_unfolding_all rfl) (by with_unfolding_all rfl) (by decide) ?_
      with_reducible refine WE.int O ?_
      with_reducible refine WV.mod_nat O (by with_unfolding_all rfl) (by with_unfolding_all rfl) (by decide) ?_
      with_reducible refine WV.mul_nat O (by with_unfolding_all rfl) (by with_unfolding_all rfl) (by decide) ?_
      with_reducible refine WV.add_nat O (by with_unfolding_all rfl) (by with_unfolding_all rfl) ?_
      with_reducible refine WEs.cons O ?_ (by with_unfolding_all rfl)
      with_reducible refine WE.bin O ?_
      with_reducible refine WE.int O ?_
      with_reducible refine WE.bin O ?_
      with_reducible refine WE.bin O ?_
      with_reducible refine WE.bin O ?_
      with_reducible refine WE.int O ?_
      with_reducible refine WE.int O ?_
      with_reducible refine WV.pow_nat O (by with_unfolding_all rfl) (by with_unfolding_all rfl) (by decide) ?_
      with_reducible refine WE.int O ?_
      with_reducible refine WV.div_nat O (by with_unfolding_all rfl) (by with_unfolding_all rfl) (by decide) ?_
      with_reducible refine WE.bin O ?_
      with_reducible refine WE.bin O ?_
      with_reducible refine WE.name (by repeat (first | with_reducible exact List.mem_cons_self | with_reducible refine List.mem_cons_of_mem _ ?_)) ?_
      with_reducible refine WE.int O ?_
      with_reducible refine WV.div_nat O (by with_unfolding_all rfl) (by with_unfolding_all rfl) (by decide) ?_
      with_reducible refine WE.int O ?_
      with_reducible refine WV.mod_nat O (by with_unfolding_all rfl) (by with_unfolding_all rfl) (by decide) ?_
      with_reducible refine WV.mul_nat O (by with_unfolding_all rfl) (by with_unfolding_all rfl) (by decide) ?_
      with_reducible refine WV.add_nat O (by with_unfolding_all rfl) (by with_unfolding_all rfl) ?_
      with_reducible refine WEs.nil ?_
      refine ⟨by simp, _, rfl, rfl, ?_⟩
      refine WAs.bind O (by repeat (first | with_reducible exact UpdI.nil | with_reducible exact UpdI.head | (apply UpdI.tail; (· with_unfolding_all decide)))) (.inl rfl) rfl (WAs.bind O (by repeat (first | with_reducible exact UpdI.nil | with_reducible exact UpdI.head | (apply UpdI.tail; (· with_unfolding_all decide)))) (.inl rfl) rfl (WAs.nil (WSs.nil ⟨rfl, ?_, rfl⟩)))
      unfold vaP shP
      rw [if_pos hp, if_pos hp]
    · refine iteF (decide_eq_false hp) (WSs.nil ⟨rfl, ?_, rfl⟩)
      unfold vaP shP
      rw [if_neg hp, if_neg hp]; rfl
  rintro f ρ' μ' ⟨rfl, rfl, rfl⟩
  with_reducible refine WSs.cons O ?_
  with_reducible refine WS.assign_tup O ?_ (by with_unfolding_all rfl) (by with_unfolding_all rfl)
  with_reducible refine WE.call_def O (G2.g35 G) (def35 G).fn ?_ (by with_unfolding_all rfl) (by with_unfolding_all rfl) (by with_unfolding_all rfl) (by with_unfolding_all rfl)
  with_reducible refine WEs.cons O ?_ (by with_unfolding_all rfl)
  with_reducible refine WE.bin O ?_
  with_reducible refine WE.bin O ?_
  with_reducible refine WE.bin O ?_
  with_reducible refine WE.name (by repeat (first | with_reducible exact List.mem_cons_self | with_reducible refine List.mem_cons_of_mem _ ?_)) ?_
  with_reducible refine WE.bin O ?_
  with_reducible refine WE.int O ?_
  with_reducible refine WE.name (by repeat (first | with_reducible exact List.mem_cons_self | with_reducible refine List.mem_cons_of_mem _ ?_)) ?_
  with_reducible refine WV.mul_nat O (by with_unfolding_all rfl) (by with_unfolding_all rfl) (by decide) ?_
  with_reducible refine WV.add_nat O (by with_unfolding_all rfl) (by with_unfolding_all rfl) ?_
  with_reducible refine WE.bin O ?_
  with_reducible refine WE.int O ?_
  with_reducible refine WE.bin O ?_
  with_reducible refine WE.bin O ?_
  with_reducible refine WE.name (by repeat (first | with_reducible exact List.mem_cons_self | with_reducible refine List.mem_cons_of_mem _ ?_)) ?_
  with_reducible refine WE.int O ?_
  with_reducible refine WV.div_nat O (by with_unfolding_all rfl) (by with_unfolding_all rfl) (by decide) ?_
  with_reducible refine WE.int O ?_
  with_reducible refine WV.mod_nat O (by with_unfolding_all rfl) (by with_unfolding_all rfl) (by decide) ?_
  with_reducible refine WV.mul_nat O (by with_unfolding_all rfl) (by with_unfolding_all rfl) (by decide) ?_
  with_reducible refine WV.add_nat O (by with_unfolding_all rfl) (by with_unfolding_all rfl) ?_
  with_reducible refine WE.int O ?_
  refine WV.tdiv_nat O ao.h (by with_unfolding_all rfl) (by with_unfolding_all rfl) ⟨big _ hb1, by decide⟩ ?_
  with_reducible refine WEs.cons O ?_ (by with_unfolding_all rfl)
  with_reducible refine WE.bin O ?_
  with_reducible refine WE.name (by repeat (first | with_reducible exact List.mem_cons_self | with_reducible refine List.mem_cons_of_mem _ ?_)) ?_
  with_reducible refine WE.bin O ?_
  with_reducible refine WE.int O ?_
  with_reducible refine WE.int O ?_
  with_reducible refine WV.pow_nat O (by with_unfolding_all rfl) (by with_unfolding_all rfl) (by decide) ?_
  refine WV.tdiv_nat O ao.h (by with_unfolding_all rfl) (by with_unfolding_all rfl) ⟨big _ hsh, by decide⟩ ?_
  with_reducible refine WEs.cons O ?_ (by with_unfolding_all rfl)
  with_reducible refine WE.bin O ?_
  with_reducible refine WE.name (by repeat (first | with_reducible exact List.mem_cons_self | with_reducible refine List.mem_cons_of_mem _ ?_)) ?_
  with_reducible refine WE.bin O ?_
  with_reducible refine WE.int O ?_
  with_reducible refine WE.int O ?_
  with_reducible refine WV.pow_nat O (by with_unfolding_all rfl) (by with_unfolding_all rfl) (by decide) ?_
  refine WV.tdiv_nat O ao.h (by with_unfolding_all rfl) (by with_unfolding_all rfl) ⟨big _ hva, by decide⟩ ?_
  with_reducible refine WEs.nil ?_
  refine hsv_ok G ao p1 ?_
  refine WA.tuple O ao.h (by with_unfolding_all rfl) (by with_unfolding_all rfl) ?_
  refine WAs.cons O (WA.name O (by repeat (first | with_reducible exact UpdI.nil | with_reducible exact UpdI.head | (apply UpdI.tail; (· with_unfolding_all decide)))) (.inl rfl) rfl ?_)
  refine WAs.cons O (WA.name O (by repeat (first | with_reducible exact UpdI.nil | with_reducible exact UpdI.head | (apply UpdI.tail; (· with_unfolding_all decide)))) (.inl rfl) rfl ?_)
  refine WAs.cons O (WA.name O (by repeat (first | with_reducible exact UpdI.nil | with_reducible exact UpdI.head | (apply UpdI.tail; (· with_unfolding_all decide)))) (.inl rfl) rfl (WAs.nil ?_))
  with_reducible refine WSs.cons O ?_
  with_reducible refine WS.assign_name O ?_ (.inl (by with_unfolding_all rfl)) (by with_unfolding_all rfl) (by with_unfolding_all rfl)
  with_reducible refine WE.call_def O (G2.g28 G) (def28 G).fn ?_ (by with_unfolding_all rfl) (by with_unfolding_all rfl) (by with_unfolding_all rfl) (by with_unfolding_all rfl)
  with_reducible refine WEs.cons O ?_ (by with_unfolding_all rfl)
  with_reducible refine WE.name (by repeat (first | with_reducible exact List.mem_cons_self | with_reducible refine List.mem_cons_of_mem _ ?_)) ?_
  with_reducible refine WEs.cons O ?_ (by with_unfolding_all rfl)
  with_reducible refine WE.name (by repeat (first | with_reducible exact List.mem_cons_self | with_reducible refine List.mem_cons_of_mem _ ?_)) ?_
  with_reducible refine WEs.cons O ?_ (by with_unfolding_all rfl)
  with_reducible refine WE.name (by repeat (first | with_reducible exact List.mem_cons_self | with_reducible refine List.mem_cons_of_mem _ ?_)) ?_
  with_reducible refine WEs.nil ?_
  refine rgb_ok G ao p2 ?_
  refine updE (by repeat (first | with_reducible exact UpdI.nil | with_reducible exact UpdI.head | (apply UpdI.tail; (· with_unfolding_all decide)))) ?_
  refine WSs.cons O ?_
  refine WS.assign_name O ?_ (.inl (by with_unfolding_all rfl)) (by with_unfolding_all rfl) (by with_unfolding_all rfl)
  refine WE.mono (K := fun p m => p = .int ((huP number first : Nat) : Int) ∧ m = μ') ?_ ?_
  · with_reducible refine WE.ife O ?_
    with_reducible refine WB.cmp1 O ?_ (by with_unfolding_all rfl)
    with_reducible refine WE.name (by repeat (first | with_reducible exact List.mem_cons_self | with_reducible refine List.mem_cons_of_mem _ ?_)) ?_
    with_reducible refine WE.int O ?_
    with_reducible refine WV.eq_int ?_
    with_reducible refine Exists.intro _ (And.intro rfl ?_)
    by_cases hp : number % 3 = 2
    · refine iteT (by rw [hp]; rfl) ?_
      with_reducible refine WE.int O ?_
      refine ⟨?_, rfl⟩
      unfold huP
      rw [if_pos hp]; rfl
    · refine iteF (by simp; omega) ?_
      with_reducible refine WE.bin O ?_
      with_reducible refine WE.name (by repeat (first | with_reducible exact List.mem_cons_self | with_reducible refine List.mem_cons_of_mem _ ?_)) ?_
      with_reducible refine WE.bin O ?_
      with_reducible refine WE.int O ?_
      with_reducible refine WE.name (by repeat (first | with_reducible exact List.mem_cons_self | with_reducible refine List.mem_cons_of_mem _ ?_)) ?_
      with_reducible refine WV.mul_nat O (by with_unfolding_all rfl) (by with_unfolding_all rfl) (by decide) ?_
      with_reducible refine WV.add_nat O (by with_unfolding_all rfl) (by with_unfolding_all rfl) ?_
      refine ⟨?_, rfl⟩
      unfold huP
      rw [if_neg hp]
  rintro p m ⟨rfl, rfl⟩
  refine updE (by repeat (first | with_reducible exact UpdI.nil | with_reducible exact UpdI.head | (apply UpdI.tail; (· with_unfolding_all decide)))) ?_
  refine WSs.cons O ?_
  with_reducible refine WS.ite O ?_
  with_reducible refine WB.boolop ?_
  with_reducible refine WAll.or O ?_
  with_reducible refine WB.cmp1 O ?_ (by with_unfolding_all rfl)
  with_reducible refine WE.name (by repeat (first | with_reducible exact List.mem_cons_self | with_reducible refine List.mem_cons_of_mem _ ?_)) ?_
  with_reducible refine WE.tuple O ?_
  with_reducible refine WEs.cons O ?_ (by with_unfolding_all rfl)
  with_reducible refine WE.bin O ?_
  with_reducible refine WE.name (by repeat (first | with_reducible exact List.mem_cons_self | with_reducible refine List.mem_cons_of_mem _ ?_)) ?_
  with_reducible refine WE.int O ?_
  refine WV.tdiv_nat O ao.h (by with_unfolding_all rfl) (by with_unfolding_all rfl) ⟨big _ (by unfold huP; split <;> omega), by decide⟩ ?_
  with_reducible refine WEs.cons O ?_ (by with_unfolding_all rfl)
  with_reducible refine WE.bin O ?_
  with_reducible refine WE.name (by repeat (first | with_reducible exact List.mem_cons_self | with_reducible refine List.mem_cons_of_mem _ ?_)) ?_
  with_reducible refine WE.bin O ?_
  with_reducible refine WE.int O ?_
  with_reducible refine WE.int O ?_
  with_reducible refine WV.pow_nat O (by with_unfolding_all rfl) (by with_unfolding_all rfl) (by decide) ?_
  refine WV.tdiv_nat O ao.h (by with_unfolding_all rfl) (by with_unfolding_all rfl) ⟨big _ hsh, by decide⟩ ?_
  with_reducible refine WEs.cons O ?_ (by with_unfolding_all rfl)
  with_reducible refine WE.bin O ?_
  with_reducible refine WE.name (by repeat (first | with_reducible exact List.mem_cons_self | with_reducible refine List.mem_cons_of_mem _ ?_)) ?_
  with_reducible refine WE.bin O ?_
  with_reducible refine WE.int O ?_
  with_reducible refine WE.int O ?_
  with_reducible refine WV.pow_nat O (by with_unfolding_all rfl) (by with_unfolding_all rfl) (by decide) ?_
  refine WV.tdiv_nat O ao.h (by with_unfolding_all rfl) (by with_unfolding_all rfl) ⟨big _ hva, by decide⟩ ?_
  with_reducible refine WEs.nil ?_
  refine ⟨by simp, ?_⟩
  unfold same at s1 s2 s3
  refine WV.ne_tup (b := true) O ao (by simp only [eqPs, eqP]; rw [if_pos s1, if_pos s2, if_pos s3]; rfl) ?_
  with_reducible refine Exists.intro _ (And.intro rfl ?_)
  refine iteF rfl ?_
  with_reducible refine WAll.or O ?_
  with_reducible refine WB.cmp1 O ?_ (by with_unfolding_all rfl)
  with_reducible refine WE.bool ?_
  refine WE.comp O (CompOk.plain (by with_unfolding_all rfl) rfl rfl (noCell rfl) (fun C => rfl)) ?_ (fun _ => (by with_unfolding_all rfl))
  with_reducible refine WE.name (by repeat (first | with_reducible exact List.mem_cons_self | with_reducible refine List.mem_cons_of_mem _ ?_)) ?_
  with_reducible refine loopTup ?_
  intro C
  refine WCL.inv (fun j m' => m' = m ++ [.lst (List.replicate j (.bool true))]) _ O ao.h rfl (fun j μ _ => ⟨rfl, fun i h => by cases h⟩) (fun j q μ hq hV => ?_) fun μ hV => ?_
  · subst hV
    have hx : ∃ x, q = .flt x := by
      match j, hq with
      | 0, hq => exact ⟨_, (by simpa using hq.symm)⟩
      | 1, hq => exact ⟨_, (by simpa using hq.symm)⟩
      | 2, hq => exact ⟨_, (by simpa using hq.symm)⟩
    obtain ⟨x, rfl⟩ := hx
    refine WAL.name O (by repeat (first | with_reducible exact UpdI.nil | with_reducible exact UpdI.head | (apply UpdI.tail; (· with_unfolding_all decide)))) rfl rfl ⟨fun y hy => (by cases hy), WIfs.nil (iteT rfl ?_)⟩
    refine WE.isflt O (WE.name (by repeat (first | with_reducible exact List.mem_cons_self | with_reducible refine List.mem_cons_of_mem _ ?_)) ⟨⟨_, rfl⟩, ?_⟩) (G2.n_isinstance G) (G2.b_isinstance G) (G2.n_float G) (G2.b_float G) rfl rfl rfl (by with_unfolding_all rfl)
    have hj : j < 3 := by
      have := (List.getElem?_eq_some_iff.mp hq).1
      simpa using this
    exact ⟨_, at_end .., by simp; omega, by rw [set_end, List.replicate_succ']⟩
  · subst hV
    refine WV.in_bools (bs := [true, true, true]) (at_end ..) ?_
    with_reducible refine Exists.intro _ (And.intro rfl ?_)
    refine iteF rfl ?_
    with_reducible refine WAll.or_nil ?_
    refine iteF rfl (WSs.nil ?_)
    with_reducible refine WSs.cons O ?_
    with_reducible refine WS.ret O ?_
    with_reducible refine WE.ife O ?_
    with_reducible refine WB.cmp1 O ?_ (by with_unfolding_all rfl)
    with_reducible refine WE.sub O ?_ (fun _ _ => by with_unfolding_all rfl)
    with_reducible refine WE.name (by repeat (first | with_reducible exact List.mem_cons_self | with_reducible refine List.mem_cons_of_mem _ ?_)) ?_
    with_reducible refine WE.int O ?_
    with_reducible refine subTup ?_
    refine WV.item_tup (k := 1) (q := .flt (fdiv ((shP number : Nat) : Int) ((2 ^ 30 : Nat) : Int))) rfl rfl (by omega) ?_
    with_reducible refine WE.int O ?_
    with_reducible refine WV.gt_fi ?_
    with_reducible refine Exists.intro _ (And.intro rfl ?_)
    rw [q1]
    by_cases hp : number % 3 < 2
    · refine iteT (decide_eq_true hp) ?_
      with_reducible refine WE.sub O ?_ (fun _ _ => by with_unfolding_all rfl)
      with_reducible refine WE.strS (l := [97, 98]) O (by with_unfolding_all rfl) ?_
      with_reducible refine WE.call_ty O (G2.n_int G) (G2.b_int G) ?_ (by with_unfolding_all rfl) (by with_unfolding_all rfl) (by with_unfolding_all rfl) (by with_unfolding_all rfl)
      with_reducible refine WEs.cons O ?_ (by with_unfolding_all rfl)
      with_reducible refine WE.bin O ?_
      with_reducible refine WE.int O ?_
      with_reducible refine WE.sub O ?_ (fun _ _ => by with_unfolding_all rfl)
      with_reducible refine WE.name (by repeat (first | with_reducible exact List.mem_cons_self | with_reducible refine List.mem_cons_of_mem _ ?_)) ?_
      with_reducible refine WE.int O ?_
      with_reducible refine subTup ?_
      refine WV.item_tup (k := 0) (q := .flt (fdiv ((huP number first : Nat) : Int) ((48 : Nat) : Int))) rfl rfl (by omega) ?_
      refine WV.mul_if O (Nat.lt_of_lt_of_le (by decide : (2 : Int).natAbs < 2 ^ 2) (Nat.pow_le_pow_right (by decide) (by decide))) ?_
      have q3 := q2 hp
      unfold truncP at q3
      split at q3
      · rename_i sg mm e hd
        with_reducible refine WEs.nil ?_
        refine WC.int_flt O hd ?_
        simp only [Option.some.injEq] at q3
        rw [q3]
        refine subStr ?_
        refine WV.item_str O (n := ((number % 3 : Nat) : Int)) (k := number % 3) (q := litP (number % 3)) ?_ ?_ (by omega) ?_
        · unfold seqIndex?
          have : number % 3 = 0 ∨ number % 3 = 1 := by omega
          rcases this with h | h <;> rw [h] <;> rfl
        · have : number % 3 = 0 ∨ number % 3 = 1 := by omega
          rcases this with h | h <;> rw [h] <;> rfl
        · exact hK _
      · cases q3
    · refine iteF (decide_eq_false hp) ?_
      with_reducible refine WE.strS (l := [111]) O (by with_unfolding_all rfl) ?_
      have e : litP (number % 3) = 111 := by
        unfold litP
        rw [if_neg (by omega), if_neg (by omega)]
      rw [e] at hK
      exact hK _
end
end Mine
namespace Mine
noncomputable section
theorem def148 {w : World} {c : Cx} (G : G2 w c) : DefOk c 148 (fd2 w 148) (bodyOf (fd2 w 148)) ["word"] where
  fn := ⟨⟨_, (G.here (a := 148) rfl).1, rfl⟩, (G.here (a := 148) rfl).2⟩
  code := ⟨147, _, _, _, rfl, (G.here (a := 147) rfl).1, (G.here (a := 147) rfl).2, rfl, rfl⟩
  body := rfl
  bind := fun s vs k h => by
    obtain ⟨a, rfl⟩ := len1 h
    exact BindsTo.of_eq (by kernel_rfl)
  nd := by decide
  dbg := fun x hx => by rw [List.mem_singleton.mp hx]; decide
  clo := rfl
  glo := rfl
  bi := rfl
  co := rfl
  gen := rfl
  kind := rfl

variable {w : World} {c : Cx} {A : Around} {μ : Mu}
theorem WV.add_S {a b : List Nat} {K : PV → Mu → Prop} (O : c.Ok) (hb : a.length ≤ 1000000 ∧ b.length ≤ 1000000) (k : K (.str (S (a ++ b))) μ) : WV c A (f2 (binaryOp .Add)) [.str (S a), .str (S b)] μ K :=
  WV.add_str O ⟨by rw [S_length]; exact hb.1, by rw [S_length]; exact hb.2⟩ (by rw [← S_append] at k; exact k)
theorem cutL_to {α : Type} (xs : List α) (m : Nat) (h : m ≤ xs.length) : cutL xs none (some (m : Int)) = xs.take m := by
  unfold cutL
  simp only [Option.elim, clipAt_nat _ _ h, List.drop_zero, Nat.sub_zero]
theorem seq_nat {m n : Nat} (h : m < n) : seqIndex? (m : Int) n = some m := by
  unfold seqIndex?
  simp
  omega
theorem code_ok (G : G2 w c) : ∀ (n : Nat) (x : List Nat) (A : Around) (μ : Mu) (K' : PV → Mu → Prop), x.length ≤ n → n ≤ 12 → AOk (n + 1) A → (∀ a ∈ x, a ∈ abo) → (∀ g, K' (.str (S (code x))) (μ ++ g)) → WC c A (.ref 148) [.str (S x)] μ K' := by
  have O := G.ok
  intro n
  induction n with
  | zero =>
    intro x A μ K' hl hn ao hx hK
    have h : x = [] := List.length_eq_zero_iff.mp (by omega)
    subst h
    refine WC.defC (n := 0) O (def148 G) ao rfl (fun L => mem1 (by first | exact .inl rfl | exact .inr ⟨rfl, rfl⟩)) (fun L => rfl) (by decide) (fun L => mem1 (by first | exact .inl rfl | exact .inr ⟨rfl, rfl⟩)) fun L A ao => ?_
    show WSs c A _ _ [("word", .str (S []))] _ _
    refine WSs.cons O ?_
    with_reducible refine WS.ite O ?_
    with_reducible refine WB.cmp1 O ?_ (by with_unfolding_all rfl)
    with_reducible refine WE.name (by repeat (first | with_reducible exact List.mem_cons_self | with_reducible refine List.mem_cons_of_mem _ ?_)) ?_
    with_reducible refine WE.strS (l := []) O (by with_unfolding_all rfl) ?_
    with_reducible refine WV.eq_str ?_
    with_reducible refine Exists.intro _ (And.intro rfl ?_)
    refine iteT (by rw [S_beq]; rfl) ?_
    with_reducible refine WSs.cons O ?_
    with_reducible refine WS.ret O ?_
    with_reducible refine WE.strS (l := []) O (by with_unfolding_all rfl) ?_
    have := hK []
    rw [List.append_nil] at this
    exact this
  | succ n ih =>
    intro x A μ K' hl hn ao hx hK
    refine WC.defC (n := n + 1) O (def148 G) ao rfl (fun L => mem1 (by first | exact .inl rfl | exact .inr ⟨rfl, rfl⟩)) (fun L => rfl) (by decide) (fun L => mem1 (by first | exact .inl rfl | exact .inr ⟨rfl, rfl⟩)) fun L A ao => ?_
    show WSs c A _ _ [("word", .str (S x))] _ _
    refine WSs.cons O ?_
    with_reducible refine WS.ite O ?_
    with_reducible refine WB.cmp1 O ?_ (by with_unfolding_all rfl)
    with_reducible refine WE.name (by repeat (first | with_reducible exact List.mem_cons_self | with_reducible refine List.mem_cons_of_mem _ ?_)) ?_
    with_reducible refine WE.strS (l := []) O (by with_unfolding_all rfl) ?_
    with_reducible refine WV.eq_str ?_
    with_reducible refine Exists.intro _ (And.intro rfl ?_)
    rw [S_beq]
    by_cases h : x = []
    · subst h
      refine iteT rfl ?_
      with_reducible refine WSs.cons O ?_
      with_reducible refine WS.ret O ?_
      with_reducible refine WE.strS (l := []) O (by with_unfolding_all rfl) ?_
      have := hK []
      rw [List.append_nil] at this
      exact this
    refine iteF (by simpa using h) (WSs.nil ?_)
    obtain ⟨p, a, y, z, b, s, e1, e2, ec, hmax, hmin, hne⟩ := sides h hx
    refine WSs.cons O ?_
    refine WS.assign_comp O (CompOk.one (x := "word") (cc := L + 1) (by with_unfolding_all rfl) rfl rfl (noCell rfl) (fun C => rfl) rfl (fun C => rfl) (.inl rfl) (by repeat (first | with_reducible exact List.mem_cons_self | with_reducible refine List.mem_cons_of_mem _ ?_))) ?_ (fun _ => (by with_unfolding_all rfl)) rfl rfl (by with_unfolding_all rfl)
    refine WE.strS (l := [97, 98, 111]) O rfl ?_
    refine loopStr ?_
    intro C
    refine WCL.fmap (fun q => match q with | .str v => if (inB v (S x)) = true then some (.str v) else none | _ => none) _ O ao.h rfl (fun i h => by cases h) (by decide) (fun q hq g => ?_) ?_
    · obtain ⟨v, _, rfl⟩ := List.mem_map.mp hq
      have ev : signPV v = .str (S [v]) := rfl
      rw [ev]
      refine WAL.name (ρ' := [("word", .str (S x)), ("sign", .str (S [v]))]) O (by repeat (first | with_reducible exact UpdI.nil | with_reducible exact UpdI.head | (apply UpdI.tail; (· with_unfolding_all decide)))) rfl rfl ⟨fun y hy => by rw [List.mem_singleton.mp hy]; exact List.mem_cons_self, ?_⟩
      refine WIfs.one ?_
      with_reducible refine WB.cmp1 O ?_ (by with_unfolding_all rfl)
      with_reducible refine WE.name (by repeat (first | with_reducible exact List.mem_cons_self | with_reducible refine List.mem_cons_of_mem _ ?_)) ?_
      with_reducible refine WE.name (by repeat (first | with_reducible exact List.mem_cons_self | with_reducible refine List.mem_cons_of_mem _ ?_)) ?_
      with_reducible refine WV.in_str ?_
      with_reducible refine Exists.intro _ (And.intro rfl ?_)
      dsimp only
      refine ⟨rfl, ?_, fun hb => ?_⟩
      · cases inB (S [v]) (S x) <;> rfl
      · rw [if_pos hb]
        with_reducible refine WE.name (by repeat (first | with_reducible exact List.mem_cons_self | with_reducible refine List.mem_cons_of_mem _ ?_)) ?_
        exact ⟨rfl, rfl⟩
    have esg : ([97, 98, 111].map fun v => PV.str (S [v])).filterMap (fun q => match q with | .str v => if (inB v (S x)) = true then some (.str v) else none | _ => none) = (signsOf x).map fun a => PV.str (S [a]) := by
      unfold signsOf abo
      rw [List.filterMap_map]
      rw [← List.filterMap_eq_map, List.filterMap_filter]
      congr 1
      funext v
      simp only [Function.comp, inB_S]
    show ∃ ρ', UpdI _ _ _ ρ' ∧ _
    rw [show ((S [97, 98, 111]).cps.toList.map signPV).filterMap _ = _ from esg]
    with_reducible refine updE (by repeat (first | with_reducible exact UpdI.nil | with_reducible exact UpdI.head | (apply UpdI.tail; (· with_unfolding_all decide)))) ?_
    with_reducible refine WSs.cons O ?_
    refine WS.assign_swap (names := ["come", "go"]) O ao.h ?_ (by with_unfolding_all rfl) (by with_unfolding_all rfl)
    with_reducible refine WE.tuple O ?_
    with_reducible refine WEs.cons O ?_ (by with_unfolding_all rfl)
    with_reducible refine WE.call_bi O (G2.n_max G) (G2.b_max G) ?_ (by with_unfolding_all rfl) (by with_unfolding_all rfl) (by with_unfolding_all rfl) (by with_unfolding_all rfl)
    with_reducible refine WEs.cons O ?_ (by with_unfolding_all rfl)
    refine WE.comp O (CompOk.one (x := "word") (cc := L + 1) (by with_unfolding_all rfl) rfl rfl (noCell rfl) (fun C => rfl) rfl (fun C => rfl) (.inl rfl) (by repeat (first | with_reducible exact List.mem_cons_self | with_reducible refine List.mem_cons_of_mem _ ?_))) ?_ (fun _ => (by with_unfolding_all rfl))
    refine WE.name (by repeat (first | with_reducible exact List.mem_cons_self | with_reducible refine List.mem_cons_of_mem _ ?_)) ?_
    refine loopLst (ps := (signsOf x).map fun a => PV.str (S [a])) (by simp) ?_
    intro C
    refine WCL.fmap (fun q => match q with | .str v => some (.int (Txt.find (S x) v)) | _ => none) _ O ao.h (show itemsOf _ (.loc μ.length) = some ((signsOf x).map fun a => PV.str (S [a])) by simp [itemsOf]) (fun i h => by cases h; exact ⟨(signsOf x).map fun a => PV.str (S [a]), by simp⟩) (by rw [List.length_map]; have := List.length_filter_le (fun a => (findB x [a] 0 x.length).isSome) abo; unfold signsOf; simp [abo] at this ⊢; omega) (fun q hq g => ?_) ?_
    · obtain ⟨v, _, rfl⟩ := List.mem_map.mp hq
      refine WAL.name (ρ' := [("word", .str (S x)), ("sign", .str (S [v]))]) O (by repeat (first | with_reducible exact UpdI.nil | with_reducible exact UpdI.head | (apply UpdI.tail; (· with_unfolding_all decide)))) rfl rfl ⟨fun y hy => by rw [List.mem_singleton.mp hy]; exact List.mem_cons_self, ?_⟩
      refine WIfs.nil ⟨rfl, rfl, fun _ => ?_⟩
      with_reducible refine WE.meth O F.plainAttrs_str F.slot_str_find F.type_str_find ?_ (by with_unfolding_all rfl) ⟨_, by with_unfolding_all rfl⟩
      with_reducible refine WE.name (by repeat (first | with_reducible exact List.mem_cons_self | with_reducible refine List.mem_cons_of_mem _ ?_)) ?_
      with_reducible refine kindStr ?_
      with_reducible refine WEs.cons O ?_ (by with_unfolding_all rfl)
      with_reducible refine WE.name (by repeat (first | with_reducible exact List.mem_cons_self | with_reducible refine List.mem_cons_of_mem _ ?_)) ?_
      with_reducible refine WEs.nil ?_
      refine WC.find O ?_
      dsimp only
      rw [find_S]
      exact ⟨rfl, rfl⟩
    have efind : ((signsOf x).map fun a => PV.str (S [a])).filterMap (fun q => match q with | .str v => some (.int (Txt.find (S x) v)) | _ => none) = ((signsOf x).map fun d => optI (findB x [d] 0 x.length)).map PV.int := by
      rw [List.filterMap_map, List.map_map, ← List.filterMap_eq_map]
      congr 1
      funext v
      simp only [Function.comp, find_S]
    rw [efind]
    with_reducible refine WEs.nil ?_
    refine WC.maxl O ao.h (is := (signsOf x).map fun d => optI (findB x [d] 0 x.length)) (at_end ..) (by simpa using hne) ?_
    rw [hmax]
    with_reducible refine WEs.cons O ?_ (by with_unfolding_all rfl)
    with_reducible refine WE.call_bi O (G2.n_min G) (G2.b_min G) ?_ (by with_unfolding_all rfl) (by with_unfolding_all rfl) (by with_unfolding_all rfl) (by with_unfolding_all rfl)
    with_reducible refine WEs.cons O ?_ (by with_unfolding_all rfl)
    refine WE.comp O (CompOk.one (x := "word") (cc := L + 1) (by with_unfolding_all rfl) rfl rfl (noCell rfl) (fun C => rfl) rfl (fun C => rfl) (.inl rfl) (by repeat (first | with_reducible exact List.mem_cons_self | with_reducible refine List.mem_cons_of_mem _ ?_))) ?_ (fun _ => (by with_unfolding_all rfl))
    refine WE.name (by repeat (first | with_reducible exact List.mem_cons_self | with_reducible refine List.mem_cons_of_mem _ ?_)) ?_
    refine loopLst (ps := (signsOf x).map fun a => PV.str (S [a])) (by simp) ?_
    intro C
    refine WCL.fmap (fun q => match q with | .str v => some (.int (Txt.rfind (S x) v)) | _ => none) _ O ao.h (show itemsOf _ (.loc μ.length) = some ((signsOf x).map fun a => PV.str (S [a])) by simp [itemsOf]) (fun i h => by cases h; exact ⟨(signsOf x).map fun a => PV.str (S [a]), by simp⟩) (by rw [List.length_map]; have := List.length_filter_le (fun a => (findB x [a] 0 x.length).isSome) abo; unfold signsOf; simp [abo] at this ⊢; omega) (fun q hq g => ?_) ?_
    · obtain ⟨v, _, rfl⟩ := List.mem_map.mp hq
      refine WAL.name (ρ' := [("word", .str (S x)), ("sign", .str (S [v]))]) O (by repeat (first | with_reducible exact UpdI.nil | with_reducible exact UpdI.head | (apply UpdI.tail; (· with_unfolding_all decide)))) rfl rfl ⟨fun y hy => by rw [List.mem_singleton.mp hy]; exact List.mem_cons_self, ?_⟩
      refine WIfs.nil ⟨rfl, rfl, fun _ => ?_⟩
      with_reducible refine WE.meth O F.plainAttrs_str F.slot_str_rfind F.type_str_rfind ?_ (by with_unfolding_all rfl) ⟨_, by with_unfolding_all rfl⟩
      with_reducible refine WE.name (by repeat (first | with_reducible exact List.mem_cons_self | with_reducible refine List.mem_cons_of_mem _ ?_)) ?_
      with_reducible refine kindStr ?_
      with_reducible refine WEs.cons O ?_ (by with_unfolding_all rfl)
      with_reducible refine WE.name (by repeat (first | with_reducible exact List.mem_cons_self | with_reducible refine List.mem_cons_of_mem _ ?_)) ?_
      with_reducible refine WEs.nil ?_
      refine WC.rfind O ?_
      dsimp only
      rw [rfind_S]
      exact ⟨rfl, rfl⟩
    have erfind : ((signsOf x).map fun a => PV.str (S [a])).filterMap (fun q => match q with | .str v => some (.int (Txt.rfind (S x) v)) | _ => none) = ((signsOf x).map fun d => optI (rfindB x [d])).map PV.int := by
      rw [List.filterMap_map, List.map_map, ← List.filterMap_eq_map]
      congr 1
      funext v
      simp only [Function.comp, rfind_S]
    rw [erfind]
    with_reducible refine WEs.nil ?_
    refine WC.minl O ao.h (is := (signsOf x).map fun d => optI (rfindB x [d])) (at_end ..) (by simpa using hne) ?_
    rw [hmin]
    with_reducible refine WEs.nil ?_
    refine ⟨by simp, _, rfl, rfl, ?_⟩
    refine WAs.bind O (by repeat (first | with_reducible exact UpdI.nil | with_reducible exact UpdI.head | (apply UpdI.tail; (· with_unfolding_all decide)))) (.inl rfl) rfl (WAs.bind O (by repeat (first | with_reducible exact UpdI.nil | with_reducible exact UpdI.head | (apply UpdI.tail; (· with_unfolding_all decide)))) (.inl rfl) rfl (WAs.nil ?_))
    with_reducible refine WSs.cons O ?_
    with_reducible refine WS.ret O ?_
    with_reducible refine WE.bin O ?_
    with_reducible refine WE.bin O ?_
    with_reducible refine WE.bin O ?_
    with_reducible refine WE.bin O ?_
    with_reducible refine WE.bin O ?_
    with_reducible refine WE.bin O ?_
    with_reducible refine WE.strS (l := [40]) O (by with_unfolding_all rfl) ?_
    with_reducible refine WE.call_def O (G2.g148 G) (def148 G).fn ?_ (by with_unfolding_all rfl) (by with_unfolding_all rfl) (by with_unfolding_all rfl) (by with_unfolding_all rfl)
    with_reducible refine WEs.cons O ?_ (by with_unfolding_all rfl)
    with_reducible refine WE.slice O ?_
    with_reducible refine WE.name (by repeat (first | with_reducible exact List.mem_cons_self | with_reducible refine List.mem_cons_of_mem _ ?_)) ?_
    with_reducible refine WPart.none ?_
    with_reducible refine WPart.some ?_
    with_reducible refine WE.name (by repeat (first | with_reducible exact List.mem_cons_self | with_reducible refine List.mem_cons_of_mem _ ?_)) ?_
    with_reducible refine Exists.intro _ (And.intro rfl ?_)
    have hp1 : p.length + 1 + y.length = x.length := by rw [e1]; simp; omega
    have hz1 : z.length + 1 + s.length = x.length := by rw [e2]; simp; omega
    have t1 : x.take p.length = p := by rw [e1]; simp
    have t2 : x.drop (z.length + 1) = s := by rw [e2]; simp
    have i1 : x[p.length]? = some a := by rw [e1]; simp
    have i2 : x[z.length]? = some b := by rw [e2]; simp
    have big : ∀ v : List Nat, v.length ≤ 12 → (code v).length ≤ 20480 := fun v hv => by
      have h1 := code_len v.length v (Nat.le_refl _)
      have h2 : 2 ^ v.length ≤ 2 ^ 12 := Nat.pow_le_pow_right (by decide) hv
      have h3 : (2 : Nat) ^ 12 = 4096 := by decide
      omega
    have b1 := big p (by omega)
    have b2 := big s (by omega)
    obtain ⟨μ1, h1, g1, hg1⟩ : ∃ m, m = (μ ++ [MO.lst (List.map (fun a => PV.str (S [a])) (signsOf x))] ++ [MO.lst (List.map PV.int (List.map (fun d => optI (findB x [d] 0 x.length)) (signsOf x)))] ++ [MO.lst (List.map PV.int (List.map (fun d => optI (rfindB x [d])) (signsOf x)))]) ∧ ∃ g, m = μ ++ g := ⟨_, rfl, _, by simp only [List.append_assoc]; rfl⟩
    rw [← h1]
    refine ⟨_, _, .str x (by omega), ?_⟩
    rw [cutL_to _ _ (by omega), t1]
    with_reducible refine WEs.nil ?_
    refine ih p A _ _ (by omega) (by omega) ao (fun d hd => hx d (by rw [e1]; exact List.mem_append.mpr (.inl hd))) fun g2 => ?_
    refine WV.add_S O (by simp; omega) ?_
    with_reducible refine WE.sub O ?_ (fun _ _ => by with_unfolding_all rfl)
    with_reducible refine WE.name (by repeat (first | with_reducible exact List.mem_cons_self | with_reducible refine List.mem_cons_of_mem _ ?_)) ?_
    with_reducible refine WE.name (by repeat (first | with_reducible exact List.mem_cons_self | with_reducible refine List.mem_cons_of_mem _ ?_)) ?_
    with_reducible refine subStr ?_
    refine WV.item_str O (k := p.length) (q := a) (seq_nat (by omega)) i1 (by omega) ?_
    refine WV.add_S O (by simp; omega) ?_
    with_reducible refine WE.strS (l := [44]) O (by with_unfolding_all rfl) ?_
    refine WV.add_S O (by simp; omega) ?_
    with_reducible refine WE.sub O ?_ (fun _ _ => by with_unfolding_all rfl)
    with_reducible refine WE.name (by repeat (first | with_reducible exact List.mem_cons_self | with_reducible refine List.mem_cons_of_mem _ ?_)) ?_
    with_reducible refine WE.name (by repeat (first | with_reducible exact List.mem_cons_self | with_reducible refine List.mem_cons_of_mem _ ?_)) ?_
    with_reducible refine subStr ?_
    refine WV.item_str O (k := z.length) (q := b) (seq_nat (by omega)) i2 (by omega) ?_
    refine WV.add_S O (by simp; omega) ?_
    with_reducible refine WE.call_def O (G2.g148 G) (def148 G).fn ?_ (by with_unfolding_all rfl) (by with_unfolding_all rfl) (by with_unfolding_all rfl) (by with_unfolding_all rfl)
    with_reducible refine WEs.cons O ?_ (by with_unfolding_all rfl)
    with_reducible refine WE.slice O ?_
    with_reducible refine WE.name (by repeat (first | with_reducible exact List.mem_cons_self | with_reducible refine List.mem_cons_of_mem _ ?_)) ?_
    with_reducible refine WPart.some ?_
    with_reducible refine WE.bin O ?_
    with_reducible refine WE.name (by repeat (first | with_reducible exact List.mem_cons_self | with_reducible refine List.mem_cons_of_mem _ ?_)) ?_
    with_reducible refine WE.int O ?_
    with_reducible refine WV.add_nat O (by with_unfolding_all rfl) (by with_unfolding_all rfl) ?_
    with_reducible refine Exists.intro _ (And.intro rfl ?_)
    with_reducible refine WPart.none ?_
    refine ⟨_, _, .str x (by omega), ?_⟩
    rw [cutL_from x (z.length + 1) (by omega), t2]
    with_reducible refine WEs.nil ?_
    refine ih s A _ _ (by omega) (by omega) ao (fun d hd => hx d (by rw [e2]; exact List.mem_append.mpr (.inr (List.mem_cons_of_mem _ hd)))) fun g3 => ?_
    refine WV.add_S O (by simp; omega) ?_
    with_reducible refine WE.strS (l := [41]) O (by with_unfolding_all rfl) ?_
    refine WV.add_S O (by simp; omega) ?_
    rw [ec] at hK
    subst h1
    rw [hg1]
    have := hK (g1 ++ (g2 ++ g3))
    simpa only [List.append_assoc] using this
end
end Mine
namespace Mine
noncomputable section
theorem keep122 {w : World} : keepIn (H2 w) (.ref 122) = true := by kernel_rfl
theorem def136 {w : World} {c : Cx} (G : G2 w c) : DefOk c 136 (fd2 w 136) (bodyOf (fd2 w 136)) ["row", "head"] where
  fn := ⟨⟨_, (G.here (a := 136) rfl).1, rfl⟩, (G.here (a := 136) rfl).2⟩
  code := ⟨135, _, _, _, rfl, (G.here (a := 135) rfl).1, (G.here (a := 135) rfl).2, rfl, rfl⟩
  body := rfl
  bind := fun s vs k h => by
    obtain ⟨a, b, rfl⟩ := len2 h
    exact BindsTo.of_eq (by kernel_rfl)
  nd := by decide
  dbg := mem2 (by decide) (by decide)
  clo := rfl
  glo := rfl
  bi := rfl
  co := rfl
  gen := rfl
  kind := rfl

variable {w : World} {c : Cx} {A : Around} {μ : Mu}
/-- the run's base: what the loop does not touch -/
abbrev rBase (row : List Nat) (h n : Nat) : Rho := [("row", .str (S row)), ("head", .int h), ("log", .loc (n + 1)), ("pile", .loc n)]
theorem eq_letters (μ : Mu) : ∀ l : List (Str × Str), eqPs (eqP μ 8) (l.map pairPV) (l.map pairPV) = some true
  | [] => rfl
  | x :: r => by
    rw [List.map_cons, eqPs, eq_letters μ r]
    simp [pairPV, eqP, eqPs]
theorem set_end1 (μ : Mu) (a b b' : MO) (g : Mu) : (μ ++ a :: b :: g).set (μ.length + 1) b' = μ ++ a :: b' :: g := by
  rw [List.set_append_right _ _ (by omega)]; simp
theorem at_end1 (μ : Mu) (a b : MO) (g : Mu) : (μ ++ a :: b :: g)[μ.length + 1]? = some b := by
  rw [List.getElem?_append_right (by omega)]; simp
abbrev rBase2 (row : List Nat) (h n a sz : Nat) (t : List Nat) : Rho := [("row", .str (S row)), ("head", .int h), ("log", .loc (n + 1)), ("pile", .loc n), ("light", .str (S [a])), ("size", .int (sz : Nat)), ("text", .str (S t))]
theorem run_ok (G : G2 w c) (ao : AOk 5 A) {row : List Nat} {h : Nat} {K' : PV → Mu → Prop} (hr : ∀ a ∈ row, a ∈ abo) (hl : row.length ≤ 12) (hne : row ≠ []) (hh : h ≤ 10)
    (hK : ∀ left lg m i, Run [] row left lg → (∃ g, m = μ ++ g) → m[i]? = some (.lst (lg.map fun s => PV.int (s : Nat))) → K' (.tup [.str (S left), .loc i]) m) : WC c A (.ref 136) [.str (S row), .int h] μ K' := by
  have O := G.ok
  refine WC.def (n := 4) O (def136 G) ao rfl (noCell rfl) (mem2 rfl rfl) (fun L => rfl) (by decide) (fun L => mem2 rfl rfl) fun L A ao => ?_
  show WSs c A _ _ [("row", .str (S row)), ("head", .int h)] _ _
  refine WSs.cons O ?_
  refine WS.assign_swap (names := ["pile", "log"]) O ao.h ?_ (by with_unfolding_all rfl) (by with_unfolding_all rfl)
  with_reducible refine WE.tuple O ?_
  with_reducible refine WEs.cons O ?_ (by with_unfolding_all rfl)
  with_reducible refine WE.call_cls O (pilK G) (G2.g122 G) (keep122 (w := w)) ?_ (by with_unfolding_all rfl) (by with_unfolding_all rfl) (by with_unfolding_all rfl) (by with_unfolding_all rfl)
  with_reducible refine WEs.cons O ?_ (by with_unfolding_all rfl)
  with_reducible refine WE.name (by repeat (first | with_reducible exact List.mem_cons_self | with_reducible refine List.mem_cons_of_mem _ ?_)) ?_
  with_reducible refine WEs.nil ?_
  refine acc1_ok G (ao.mono (by decide)) ?_
  with_reducible refine WEs.cons O ?_ (by with_unfolding_all rfl)
  with_reducible refine WE.list O ?_
  with_reducible refine WEs.nil ?_
  refine ⟨by simp, ?_⟩
  with_reducible refine WEs.nil ?_
  refine ⟨by simp, _, rfl, rfl, ?_⟩
  refine WAs.bind O (by repeat (first | with_reducible exact UpdI.nil | with_reducible exact UpdI.head | (apply UpdI.tail; (· with_unfolding_all decide)))) (.inl rfl) rfl (WAs.bind O (by repeat (first | with_reducible exact UpdI.nil | with_reducible exact UpdI.head | (apply UpdI.tail; (· with_unfolding_all decide)))) (.inl rfl) rfl (WAs.nil ?_))
  refine WSs.cons O ?_
  refine WS.for_ O ?_ (fun _ => (by with_unfolding_all rfl))
  with_reducible refine WE.name (by repeat (first | with_reducible exact List.mem_cons_self | with_reducible refine List.mem_cons_of_mem _ ?_)) ?_
  with_reducible refine loopStr ?_
  refine WL.inv (fun j ρ m => ∃ l lg g, m = μ ++ (MO.pil h (letters l) :: MO.lst (lg.map fun s => PV.int (s : Nat)) :: g) ∧ Run [] (row.take j) l lg ∧ (∀ y ∈ rBase row h μ.length, y ∈ ρ) ∧ (j ≠ 0 → (("left" : Str), PV.str (S l)) ∈ ρ)) _ O ao.h ?_ (fun j ρ m _ => ⟨rfl, fun i e => by cases e⟩) (fun j q ρ m hq hV => ?_) fun ρ m hV => ?_
  · refine ⟨[], [], [], by simp [letters], by rw [List.take_zero]; exact .nil _, fun y hy => by simpa using hy, fun h => absurd rfl h⟩
  · obtain ⟨l, lg, g, rfl, hrun, hb, _⟩ := hV
    have hj : j < row.length := by
      have := (List.getElem?_eq_some_iff.mp hq).1
      simpa [S] using this
    have hqj : q = .str (S [row[j]]) := by
      have : (row.map signPV)[j]? = some q := hq
      rw [List.getElem?_map, List.getElem?_eq_getElem hj] at this
      exact (Option.some.inj this).symm
    subst hqj
    generalize hlt : row[j] = a at *
    have hf := hrun.facts sqf_nil
    have hll : l.length ≤ 11 := by
      have := hf.2.2.1
      rw [List.length_take] at this
      simp at this; omega
    refine WA.less (ρ' := rBase row h μ.length) hb (by show (["row", "head", "log", "pile"] : List Str).Nodup; decide) ?_
    refine WA.name O (by repeat (first | with_reducible exact UpdI.nil | with_reducible exact UpdI.head | (apply UpdI.tail; (· with_unfolding_all decide)))) (.inl rfl) rfl ?_
    refine WSs.cons O ?_
    refine WS.expr O ?_ (by with_unfolding_all rfl) (by with_unfolding_all rfl)
    refine WE.pmeth (fa := 66) (fd := fd2 w 66) O (pilK G) (by rw [G.C]; kernel_rfl) (by kernel_rfl) (by decide) (def66 G).fn ?_ (by with_unfolding_all rfl) ⟨_, (by with_unfolding_all rfl)⟩
    refine WE.name (by repeat (first | with_reducible exact List.mem_cons_self | with_reducible refine List.mem_cons_of_mem _ ?_)) ⟨⟨_, _, _, rfl, at_end ..⟩, ?_⟩
    with_reducible refine WEs.cons O ?_ (by with_unfolding_all rfl)
    with_reducible refine WE.strS (l := []) O (by with_unfolding_all rfl) ?_
    with_reducible refine WEs.cons O ?_ (by with_unfolding_all rfl)
    with_reducible refine WE.name (by repeat (first | with_reducible exact List.mem_cons_self | with_reducible refine List.mem_cons_of_mem _ ?_)) ?_
    with_reducible refine WEs.nil ?_
    refine push_ok G (ao.mono (by decide)) (at_end ..) (by rw [letters_len]; omega) ?_
    rw [set_end, letters_snoc]
    obtain ⟨t, ht⟩ : ∃ t, t = l ++ [a] := ⟨_, rfl⟩
    have sf := step_facts (c := a) hf.1
    have szl := fun k hk => size_le (c := a) hf.1 k hk
    have hst : stepP l a = t.take (t.length - sizeP t) := by rw [ht]; rfl
    rw [hst] at sf
    have hfm : ∀ m, sizeTo (l ++ [a]) m = sizeTo t m := fun m => by rw [ht]
    rw [← ht] at sf szl ⊢
    have htl : t.length ≤ 12 := by rw [ht, List.length_append]; exact Nat.succ_le_succ hll
    have htm : ∀ N, 12 ≤ N → t.length ≤ N := fun N h => Nat.le_trans htl h
    have hnd : noDot t := fun b hb => by
      have : b ∈ abo := by
        rw [ht] at hb
        rcases List.mem_append.mp hb with q | q
        · rcases hf.2.2.2.1 b q with q | q
          · cases q
          · exact hr b (List.mem_of_mem_take q)
        · rw [List.mem_singleton.mp q, ← hlt]; exact hr _ (List.getElem_mem hj)
      intro e; subst e; exact absurd this (by decide)
    obtain ⟨m1, hm1⟩ : ∃ m1, m1 = (μ ++ MO.pil (h : Int) (letters t) :: MO.lst (lg.map fun s => PV.int (s : Nat)) :: g) := ⟨_, rfl⟩
    have hp1 : m1[μ.length]? = some (.pil (h : Int) (letters t)) := by rw [hm1]; exact at_end ..
    rw [← hm1]
    refine WSs.cons O ?_
    refine WS.assign_swap (names := ["text", "size"]) O ao.h ?_ (by with_unfolding_all rfl) (by with_unfolding_all rfl)
    with_reducible refine WE.tuple O ?_
    with_reducible refine WEs.cons O ?_ (by with_unfolding_all rfl)
    with_reducible refine WE.call_ty O (G2.n_str G) (G2.b_str G) ?_ (by with_unfolding_all rfl) (by with_unfolding_all rfl) (by with_unfolding_all rfl) (by with_unfolding_all rfl)
    with_reducible refine WEs.cons O ?_ (by with_unfolding_all rfl)
    with_reducible refine WE.name (by repeat (first | with_reducible exact List.mem_cons_self | with_reducible refine List.mem_cons_of_mem _ ?_)) ?_
    with_reducible refine WEs.nil ?_
    refine pstr_ok G (ao.mono (by decide)) hp1 (htm _ (by decide)) ?_
    with_reducible refine WEs.cons O ?_ (by with_unfolding_all rfl)
    with_reducible refine WE.int O ?_
    with_reducible refine WEs.nil ?_
    refine ⟨by simp, _, rfl, rfl, ?_⟩
    refine WAs.bind O (by repeat (first | with_reducible exact UpdI.nil | with_reducible exact UpdI.head | (apply UpdI.tail; (· with_unfolding_all decide)))) (.inl rfl) rfl (WAs.bind O (by repeat (first | with_reducible exact UpdI.nil | with_reducible exact UpdI.head | (apply UpdI.tail; (· with_unfolding_all decide)))) (.inl rfl) rfl (WAs.nil ?_))
    refine WSs.cons O ?_
    refine WS.for_ O ?_ (fun _ => (by with_unfolding_all rfl))
    with_reducible refine WE.call_ty O (G2.n_range G) (G2.b_range G) ?_ (by with_unfolding_all rfl) (by with_unfolding_all rfl) (by with_unfolding_all rfl) (by with_unfolding_all rfl)
    with_reducible refine WEs.cons O ?_ (by with_unfolding_all rfl)
    with_reducible refine WE.int O ?_
    with_reducible refine WEs.cons O ?_ (by with_unfolding_all rfl)
    with_reducible refine WE.bin O ?_
    with_reducible refine WE.bin O ?_
    with_reducible refine WE.call_bi O (G2.n_len G) (G2.b_len G) ?_ (by with_unfolding_all rfl) (by with_unfolding_all rfl) (by with_unfolding_all rfl) (by with_unfolding_all rfl)
    with_reducible refine WEs.cons O ?_ (by with_unfolding_all rfl)
    with_reducible refine WE.name (by repeat (first | with_reducible exact List.mem_cons_self | with_reducible refine List.mem_cons_of_mem _ ?_)) ?_
    with_reducible refine WEs.nil ?_
    refine WC.len_str O (htm _ (by decide)) ?_
    with_reducible refine WE.int O ?_
    with_reducible refine WV.div_nat O (by with_unfolding_all rfl) (by with_unfolding_all rfl) (by decide) ?_
    with_reducible refine WE.int O ?_
    with_reducible refine WV.add_nat O (by with_unfolding_all rfl) (by with_unfolding_all rfl) ?_
    with_reducible refine WEs.nil ?_
    refine WC.range2 O ?_
    refine loopRng ?_ ?_
    · show -1000000 ≤ (1 : Int) ∧ (1 : Int) ≤ 1000000 ∧ -1000000 ≤ ((t.length / 2 + 1 : Nat) : Int) ∧ ((t.length / 2 + 1 : Nat) : Int) ≤ 1000000
      omega
    refine WL.inv (fun k ρ m => (∀ y ∈ rBase2 row h μ.length a (sizeTo t k) t, y ∈ ρ) ∧ ∃ g, m = m1 ++ g) _ O ao.h ?_ (fun j ρ m _ => ⟨rfl, fun i e => by cases e⟩) (fun k q ρ m hq hV => ?_) fun ρ m hV => ?_
    · refine ⟨fun y hy => ?_, [], by simp⟩
      exact hy
    · obtain ⟨hb2, g2, rfl⟩ := hV
      have hk : k < t.length / 2 ∧ q = .int ((k + 1 : Nat) : Int) := by
        have h1 := List.getElem?_eq_some_iff.mp hq
        obtain ⟨h1, h2⟩ := h1
        rw [List.length_map, List.length_range] at h1
        have h1 : k < (((t.length / 2 + 1 : Nat) : Int) - 1).toNat := h1
        refine ⟨by omega, ?_⟩
        rw [← h2, List.getElem_map, List.getElem_range]
        congr 1; omega
      obtain ⟨hk, rfl⟩ := hk
      have hk2 : 2 * (k + 1) ≤ t.length := dbl_le hk
      have hkt : k + 1 ≤ t.length := half_le hk2
      refine WA.less (ρ' := rBase2 row h μ.length a (sizeTo t k) t) hb2 (by show (["row", "head", "log", "pile", "light", "size", "text"] : List Str).Nodup; decide) ?_
      refine WA.name O (by repeat (first | with_reducible exact UpdI.nil | with_reducible exact UpdI.head | (apply UpdI.tail; (· with_unfolding_all decide)))) (.inl rfl) rfl ?_
      refine WSs.cons O ?_
      with_reducible refine WS.assign_name O ?_ (.inl (by with_unfolding_all rfl)) (by with_unfolding_all rfl) (by with_unfolding_all rfl)
      with_reducible refine WE.slice O ?_
      with_reducible refine WE.name (by repeat (first | with_reducible exact List.mem_cons_self | with_reducible refine List.mem_cons_of_mem _ ?_)) ?_
      with_reducible refine WPart.some ?_
      with_reducible refine WE.bin O ?_
      with_reducible refine WE.call_bi O (G2.n_len G) (G2.b_len G) ?_ (by with_unfolding_all rfl) (by with_unfolding_all rfl) (by with_unfolding_all rfl) (by with_unfolding_all rfl)
      with_reducible refine WEs.cons O ?_ (by with_unfolding_all rfl)
      with_reducible refine WE.name (by repeat (first | with_reducible exact List.mem_cons_self | with_reducible refine List.mem_cons_of_mem _ ?_)) ?_
      with_reducible refine WEs.nil ?_
      refine WC.len_str O (htm _ (by decide)) ?_
      with_reducible refine WE.name (by repeat (first | with_reducible exact List.mem_cons_self | with_reducible refine List.mem_cons_of_mem _ ?_)) ?_
      with_reducible refine WV.sub_int O ?_
      with_reducible refine Exists.intro _ (And.intro rfl ?_)
      with_reducible refine WPart.none ?_
      rw [show ((t.length : Nat) : Int) - ((k + 1 : Nat) : Int) = ((t.length - (k + 1) : Nat) : Int) from (Int.ofNat_sub hkt).symm]
      refine ⟨_, _, .str t (htm _ (by decide)), ?_⟩
      rw [cutL_from t (t.length - (k + 1)) (Nat.sub_le ..)]
      have hel : (t.drop (t.length - (k + 1))).length = k + 1 := by rw [List.length_drop]; exact Nat.sub_sub_self hkt
      have hfit : fits t (k + 1) = (t.drop (t.length - 2 * (k + 1)) == t.drop (t.length - (k + 1)) ++ t.drop (t.length - (k + 1))) := by
        unfold fits sufB
        rw [List.length_append, hel, decide_eq_true (Nat.two_mul (k + 1) ▸ hk2), Bool.true_and]
        rw [Nat.two_mul]
      have hnd2 : noDot (t.drop (t.length - (k + 1)) ++ t.drop (t.length - (k + 1))) := fun b hb => by
        rcases List.mem_append.mp hb with q | q <;> exact hnd b (List.mem_of_mem_drop q)
      have hell : ellB (dots ++ (t.drop (t.length - (k + 1)) ++ t.drop (t.length - (k + 1)))) t = fits t (k + 1) := ell_suf hnd2
      have hsz : sizeTo t (k + 1) = if fits t (k + 1) = true then sizeTo t k + (k + 1) else sizeTo t k := rfl
      generalize t.drop (t.length - (k + 1)) = e at *
      have he12 : e.length ≤ 12 := by rw [hel]; exact Nat.le_trans hkt htl
      with_reducible refine updE (by repeat (first | with_reducible exact UpdI.nil | with_reducible exact UpdI.head | (apply UpdI.tail; (· with_unfolding_all decide)))) ?_
      with_reducible refine WSs.cons O ?_
      with_reducible refine WS.assign_name O ?_ (.inl (by with_unfolding_all rfl)) (by with_unfolding_all rfl) (by with_unfolding_all rfl)
      with_reducible refine WE.call_def O (G2.g42 G) (def42 G).fn ?_ (by with_unfolding_all rfl) (by with_unfolding_all rfl) (by with_unfolding_all rfl) (by with_unfolding_all rfl)
      with_reducible refine WEs.cons O ?_ (by with_unfolding_all rfl)
      with_reducible refine WE.bin O ?_
      with_reducible refine WE.strS (l := [46, 46, 46]) O (by with_unfolding_all rfl) ?_
      with_reducible refine WE.bin O ?_
      with_reducible refine WE.name (by repeat (first | with_reducible exact List.mem_cons_self | with_reducible refine List.mem_cons_of_mem _ ?_)) ?_
      with_reducible refine WE.int O ?_
      refine WV.twice O (lim he12) ?_
      refine WV.add_S O ⟨by decide, lapp he12 he12⟩ ?_
      with_reducible refine WEs.cons O ?_ (by with_unfolding_all rfl)
      with_reducible refine WE.name (by repeat (first | with_reducible exact List.mem_cons_self | with_reducible refine List.mem_cons_of_mem _ ?_)) ?_
      with_reducible refine WEs.nil ?_
      refine ell_ok G (ao.mono (by decide)) (lapp (Nat.le_refl 3) (lapp he12 he12 (N := 24))) (htm _ (by decide)) fun g3 => ?_
      rw [show ([46, 46, 46] : List Nat) = dots from rfl, hell]
      with_reducible refine updE (by repeat (first | with_reducible exact UpdI.nil | with_reducible exact UpdI.head | (apply UpdI.tail; (· with_unfolding_all decide)))) ?_
      with_reducible refine WSs.cons O ?_
      with_reducible refine WS.ite O ?_
      with_reducible refine WB.cmp1 O ?_ (by with_unfolding_all rfl)
      with_reducible refine WE.name (by repeat (first | with_reducible exact List.mem_cons_self | with_reducible refine List.mem_cons_of_mem _ ?_)) ?_
      with_reducible refine WE.cmp1 O ?_ (by with_unfolding_all rfl)
      with_reducible refine WE.slice O ?_
      with_reducible refine WE.name (by repeat (first | with_reducible exact List.mem_cons_self | with_reducible refine List.mem_cons_of_mem _ ?_)) ?_
      with_reducible refine WPart.some ?_
      with_reducible refine WE.bin O ?_
      with_reducible refine WE.call_bi O (G2.n_len G) (G2.b_len G) ?_ (by with_unfolding_all rfl) (by with_unfolding_all rfl) (by with_unfolding_all rfl) (by with_unfolding_all rfl)
      with_reducible refine WEs.cons O ?_ (by with_unfolding_all rfl)
      with_reducible refine WE.name (by repeat (first | with_reducible exact List.mem_cons_self | with_reducible refine List.mem_cons_of_mem _ ?_)) ?_
      with_reducible refine WEs.nil ?_
      refine WC.len_str O (htm _ (by decide)) ?_
      with_reducible refine WE.bin O ?_
      with_reducible refine WE.int O ?_
      with_reducible refine WE.name (by repeat (first | with_reducible exact List.mem_cons_self | with_reducible refine List.mem_cons_of_mem _ ?_)) ?_
      with_reducible refine WV.mul_nat O (by with_unfolding_all rfl) (by with_unfolding_all rfl) (by decide) ?_
      with_reducible refine WV.sub_int O ?_
      with_reducible refine Exists.intro _ (And.intro rfl ?_)
      with_reducible refine WPart.none ?_
      refine ⟨_, _, .str t (htm _ (by decide)), ?_⟩
      have ec : cutL t (some (((t.length : Nat) : Int) - ((2 * (k + 1) : Nat) : Int))) none = t.drop (t.length - 2 * (k + 1)) := by
        rw [show ((t.length : Nat) : Int) - ((2 * (k + 1) : Nat) : Int) = ((t.length - 2 * (k + 1) : Nat) : Int) from (Int.ofNat_sub hk2).symm]
        exact cutL_from t _ (Nat.sub_le ..)
      rw [ec]
      with_reducible refine WE.bin O ?_
      with_reducible refine WE.name (by repeat (first | with_reducible exact List.mem_cons_self | with_reducible refine List.mem_cons_of_mem _ ?_)) ?_
      with_reducible refine WE.int O ?_
      refine WV.twice O (lim he12) ?_
      with_reducible refine WV.eq_str ?_
      with_reducible refine WV.isnot_bool ?_
      with_reducible refine Exists.intro _ (And.intro rfl ?_)
      rw [S_beq, ← hfit]
      refine iteF (by cases fits t (k + 1) <;> rfl) (WSs.nil ?_)
      refine WSs.cons O ?_
      refine WS.assign_name O ?_ (.inl (by with_unfolding_all rfl)) (by with_unfolding_all rfl) (by with_unfolding_all rfl)
      refine WE.ife O ?_
      with_reducible refine WB.value O ?_ (fun _ => by with_unfolding_all rfl)
      with_reducible refine WE.name (by repeat (first | with_reducible exact List.mem_cons_self | with_reducible refine List.mem_cons_of_mem _ ?_)) ?_
      refine ⟨_, .bool _, ?_⟩
      have fin : ∀ ρ : Rho, (∀ y ∈ rBase2 row h μ.length a (sizeTo t (k + 1)) t, y ∈ ρ) → (∀ y ∈ rBase2 row h μ.length a (sizeTo t (k + 1)) t, y ∈ ρ) ∧ ∃ g, m1 ++ g2 ++ g3 = m1 ++ g := fun ρ hρ => ⟨hρ, g2 ++ g3, by rw [List.append_assoc]⟩
      cases hfb : fits t (k + 1) with
      | true =>
        rw [hfb, if_pos rfl] at hsz
        refine iteT rfl ?_
        with_reducible refine WE.bin O ?_
        with_reducible refine WE.name (by repeat (first | with_reducible exact List.mem_cons_self | with_reducible refine List.mem_cons_of_mem _ ?_)) ?_
        with_reducible refine WE.name (by repeat (first | with_reducible exact List.mem_cons_self | with_reducible refine List.mem_cons_of_mem _ ?_)) ?_
        with_reducible refine WV.add_nat O (by with_unfolding_all rfl) (by with_unfolding_all rfl) ?_
        with_reducible refine updE (by repeat (first | with_reducible exact UpdI.nil | with_reducible exact UpdI.head | (apply UpdI.tail; (· with_unfolding_all decide)))) ?_
        with_reducible refine WSs.nil ?_
        refine fin _ fun y hy => ?_
        simp only [rBase2, hsz, List.mem_cons, List.not_mem_nil, or_false] at hy ⊢
        rcases hy with rfl | rfl | rfl | rfl | rfl | rfl | rfl <;> simp
      | false =>
        rw [hfb, if_neg (by simp)] at hsz
        refine iteF rfl ?_
        with_reducible refine WE.name (by repeat (first | with_reducible exact List.mem_cons_self | with_reducible refine List.mem_cons_of_mem _ ?_)) ?_
        with_reducible refine updE (by repeat (first | with_reducible exact UpdI.nil | with_reducible exact UpdI.head | (apply UpdI.tail; (· with_unfolding_all decide)))) ?_
        with_reducible refine WSs.nil ?_
        refine fin _ fun y hy => ?_
        simp only [rBase2, hsz, List.mem_cons, List.not_mem_nil, or_false] at hy ⊢
        rcases hy with rfl | rfl | rfl | rfl | rfl | rfl | rfl <;> simp
    · obtain ⟨hb2, g2, rfl⟩ := hV
      have hk0 : (List.map (fun k : Nat => PV.int (1 + (k : Int))) (List.range (((t.length / 2 + 1 : Nat) : Int) - 1).toNat)).length = t.length / 2 := by rw [List.length_map, List.length_range]; omega
      rw [show List.length _ = t.length / 2 from hk0] at hb2
      refine WSs.less (ρ' := rBase2 row h μ.length a (sizeP t) t) hb2 (by show (["row", "head", "log", "pile", "light", "size", "text"] : List Str).Nodup; decide) ?_
      have hs2 : 2 * sizeP t ≤ t.length := sf.1
      refine WSs.cons O ?_
      with_reducible refine WS.assign_name O ?_ (.inl (by with_unfolding_all rfl)) (by with_unfolding_all rfl) (by with_unfolding_all rfl)
      with_reducible refine WE.slice O ?_
      with_reducible refine WE.name (by repeat (first | with_reducible exact List.mem_cons_self | with_reducible refine List.mem_cons_of_mem _ ?_)) ?_
      with_reducible refine WPart.some ?_
      with_reducible refine WE.bin O ?_
      with_reducible refine WE.call_bi O (G2.n_len G) (G2.b_len G) ?_ (by with_unfolding_all rfl) (by with_unfolding_all rfl) (by with_unfolding_all rfl) (by with_unfolding_all rfl)
      with_reducible refine WEs.cons O ?_ (by with_unfolding_all rfl)
      with_reducible refine WE.name (by repeat (first | with_reducible exact List.mem_cons_self | with_reducible refine List.mem_cons_of_mem _ ?_)) ?_
      with_reducible refine WEs.nil ?_
      refine WC.len_str O (htm _ (by decide)) ?_
      with_reducible refine WE.name (by repeat (first | with_reducible exact List.mem_cons_self | with_reducible refine List.mem_cons_of_mem _ ?_)) ?_
      with_reducible refine WV.sub_int O ?_
      with_reducible refine Exists.intro _ (And.intro rfl ?_)
      with_reducible refine WPart.none ?_
      have eI : ((t.length : Nat) : Int) - ((sizeP t : Nat) : Int) = ((t.length - sizeP t : Nat) : Int) := (Int.ofNat_sub (half_le sf.1)).symm
      rw [eI]
      refine ⟨_, _, .str t (htm _ (by decide)), ?_⟩
      rw [cutL_from t (t.length - sizeP t) (Nat.sub_le ..)]
      refine updE (by repeat (first | with_reducible exact UpdI.nil | with_reducible exact UpdI.head | (apply UpdI.tail; (· with_unfolding_all decide)))) ?_
      refine WSs.cons O ?_
      refine WS.assign_name O ?_ (.inl (by with_unfolding_all rfl)) (by with_unfolding_all rfl) (by with_unfolding_all rfl)
      refine WE.pmeth (fa := 74) (fd := fd2 w 74) O (pilK G) (by rw [G.C]; kernel_rfl) (by kernel_rfl) (by decide) (def74 G).fn ?_ (by with_unfolding_all rfl) ⟨_, (by with_unfolding_all rfl)⟩
      have hp2 : (m1 ++ g2)[μ.length]? = some (.pil (h : Int) (letters t)) := getElem?_ext hp1 g2
      refine WE.name (by repeat (first | with_reducible exact List.mem_cons_self | with_reducible refine List.mem_cons_of_mem _ ?_)) ⟨⟨_, _, _, rfl, hp2⟩, ?_⟩
      with_reducible refine WEs.cons O ?_ (by with_unfolding_all rfl)
      with_reducible refine WE.bin O ?_
      with_reducible refine WE.call_bi O (G2.n_len G) (G2.b_len G) ?_ (by with_unfolding_all rfl) (by with_unfolding_all rfl) (by with_unfolding_all rfl) (by with_unfolding_all rfl)
      with_reducible refine WEs.cons O ?_ (by with_unfolding_all rfl)
      with_reducible refine WE.name (by repeat (first | with_reducible exact List.mem_cons_self | with_reducible refine List.mem_cons_of_mem _ ?_)) ?_
      with_reducible refine WEs.nil ?_
      refine WC.len_str O (htm _ (by decide)) ?_
      with_reducible refine WE.name (by repeat (first | with_reducible exact List.mem_cons_self | with_reducible refine List.mem_cons_of_mem _ ?_)) ?_
      with_reducible refine WV.sub_int O ?_
      with_reducible refine WEs.nil ?_
      rw [eI]
      refine pop_from_ok G (ao.mono (by decide)) hp2 (by rw [letters_len]; omega) (by rw [letters_len]; omega) ?_
      rw [letters_take, letters_drop]
      obtain ⟨left, hleft⟩ : ∃ left, left = t.take (t.length - sizeP t) := ⟨_, rfl⟩
      obtain ⟨en, hen⟩ : ∃ en, en = t.drop (t.length - sizeP t) := ⟨_, rfl⟩
      rw [← hleft, ← hen] at sf ⊢
      have hle : left.length + en.length = t.length := by rw [hleft, hen, ← List.length_append, List.take_append_drop]
      have e2 : ((m1 ++ g2 ++ [MO.lst ((letters en).map pairPV), MO.lst []]).set μ.length (.pil (h : Int) (letters left))) = μ ++ (MO.pil (h : Int) (letters left) :: MO.lst (lg.map fun s => PV.int (s : Nat)) :: (g ++ g2 ++ [MO.lst ((letters en).map pairPV), MO.lst []])) := by
        rw [hm1]
        simp only [List.append_assoc, List.cons_append]
        exact set_end ..
      have hn : (m1 ++ g2).length = μ.length + (g.length + g2.length + 2) := by rw [hm1]; simp only [List.length_append, List.length_cons]; omega
      rw [e2, hn]
      have i1 : (μ ++ (MO.pil (h : Int) (letters left) :: MO.lst (lg.map fun s => PV.int (s : Nat)) :: (g ++ g2 ++ [MO.lst ((letters en).map pairPV), MO.lst []])))[μ.length]? = some (.pil (h : Int) (letters left)) := at_end ..
      have i2 : (μ ++ (MO.pil (h : Int) (letters left) :: MO.lst (lg.map fun s => PV.int (s : Nat)) :: (g ++ g2 ++ [MO.lst ((letters en).map pairPV), MO.lst []])))[μ.length + (g.length + g2.length + 2)]? = some (.lst ((letters en).map pairPV)) := by
        rw [List.getElem?_append_right (by omega), show μ.length + (g.length + g2.length + 2) - μ.length = (g.length + g2.length) + 1 + 1 by omega, List.getElem?_cons_succ, List.getElem?_cons_succ, List.getElem?_append_right (by simp)]
        simp
      obtain ⟨m2, hm2⟩ : ∃ m2, m2 = (μ ++ (MO.pil (h : Int) (letters left) :: MO.lst (lg.map fun s => PV.int (s : Nat)) :: (g ++ g2 ++ [MO.lst ((letters en).map pairPV), MO.lst []]))) := ⟨_, rfl⟩
      rw [← hm2] at i1 i2 ⊢
      generalize μ.length + (g.length + g2.length + 2) = iG at *
      with_reducible refine updE (by repeat (first | with_reducible exact UpdI.nil | with_reducible exact UpdI.head | (apply UpdI.tail; (· with_unfolding_all decide)))) ?_
      with_reducible refine WSs.cons O ?_
      with_reducible refine WS.assign_name O ?_ (.inl (by with_unfolding_all rfl)) (by with_unfolding_all rfl) (by with_unfolding_all rfl)
      with_reducible refine WE.call_ty O (G2.n_str G) (G2.b_str G) ?_ (by with_unfolding_all rfl) (by with_unfolding_all rfl) (by with_unfolding_all rfl) (by with_unfolding_all rfl)
      with_reducible refine WEs.cons O ?_ (by with_unfolding_all rfl)
      with_reducible refine WE.name (by repeat (first | with_reducible exact List.mem_cons_self | with_reducible refine List.mem_cons_of_mem _ ?_)) ?_
      with_reducible refine WEs.nil ?_
      refine pstr_ok G (ao.mono (by decide)) i1 (by omega) ?_
      with_reducible refine updE (by repeat (first | with_reducible exact UpdI.nil | with_reducible exact UpdI.head | (apply UpdI.tail; (· with_unfolding_all decide)))) ?_
      with_reducible refine WSs.cons O ?_
      with_reducible refine WS.ite O ?_
      with_reducible refine WB.boolop ?_
      with_reducible refine WAll.or O ?_
      with_reducible refine WB.cmp1 O ?_ (by with_unfolding_all rfl)
      with_reducible refine WE.name (by repeat (first | with_reducible exact List.mem_cons_self | with_reducible refine List.mem_cons_of_mem _ ?_)) ?_
      refine WE.comp O (CompOk.plain (by with_unfolding_all rfl) rfl rfl (noCell rfl) (fun C => rfl)) ?_ (fun _ => (by with_unfolding_all rfl))
      with_reducible refine WE.name (by repeat (first | with_reducible exact List.mem_cons_self | with_reducible refine List.mem_cons_of_mem _ ?_)) ?_
      with_reducible refine loopStr ?_
      intro C
      refine WCL.fmap (fun q => match q with | .str v => some (.tup [.str (S []), .str v]) | _ => none) _ O ao.h rfl (fun i h => by cases h) (by simp [S]; omega) (fun q hq gg => ?_) ?_
      · obtain ⟨v, _, rfl⟩ := List.mem_map.mp hq
        have ev : signPV v = .str (S [v]) := rfl
        rw [ev]
        refine WAL.name O (by repeat (first | with_reducible exact UpdI.nil | with_reducible exact UpdI.head | (apply UpdI.tail; (· with_unfolding_all decide)))) rfl rfl ⟨(fun y hy => by cases hy), WIfs.nil ⟨rfl, rfl, fun _ => ?_⟩⟩
        with_reducible refine WE.tuple O ?_
        with_reducible refine WEs.cons O ?_ (by with_unfolding_all rfl)
        with_reducible refine WE.strS (l := []) O (by with_unfolding_all rfl) ?_
        with_reducible refine WEs.cons O ?_ (by with_unfolding_all rfl)
        with_reducible refine WE.name (by repeat (first | with_reducible exact List.mem_cons_self | with_reducible refine List.mem_cons_of_mem _ ?_)) ?_
        with_reducible refine WEs.nil ?_
        refine ⟨by simp, rfl, rfl⟩
      have ecm : ((S en).cps.toList.map signPV).filterMap (fun q => match q with | .str v => some (PV.tup [.str (S []), .str v]) | _ => none) = (letters en).map pairPV := by
        rw [List.filterMap_map, letters, List.map_map, ← List.filterMap_eq_map]
        have : (S en).cps.toList = en := by simp [S]
        rw [this]
        rfl
      rw [ecm]
      refine WV.ne_lst O (ao.mono (by decide)) (getElem?_ext i2 _) (at_end ..) (eq_letters _ _) ?_
      with_reducible refine Exists.intro _ (And.intro rfl ?_)
      refine iteF rfl ?_
      with_reducible refine WAll.or O ?_
      with_reducible refine WB.cmp1 O ?_ (by with_unfolding_all rfl)
      with_reducible refine WE.call_bi O (G2.n_len G) (G2.b_len G) ?_ (by with_unfolding_all rfl) (by with_unfolding_all rfl) (by with_unfolding_all rfl) (by with_unfolding_all rfl)
      with_reducible refine WEs.cons O ?_ (by with_unfolding_all rfl)
      with_reducible refine WE.name (by repeat (first | with_reducible exact List.mem_cons_self | with_reducible refine List.mem_cons_of_mem _ ?_)) ?_
      with_reducible refine WEs.nil ?_
      refine plen_ok G (ao.mono (by decide)) (getElem?_ext i1 _) (by omega) (by omega) ?_
      with_reducible refine WE.bin O ?_
      with_reducible refine WE.name (by repeat (first | with_reducible exact List.mem_cons_self | with_reducible refine List.mem_cons_of_mem _ ?_)) ?_
      with_reducible refine WE.call_bi O (G2.n_len G) (G2.b_len G) ?_ (by with_unfolding_all rfl) (by with_unfolding_all rfl) (by with_unfolding_all rfl) (by with_unfolding_all rfl)
      with_reducible refine WEs.cons O ?_ (by with_unfolding_all rfl)
      with_reducible refine WE.name (by repeat (first | with_reducible exact List.mem_cons_self | with_reducible refine List.mem_cons_of_mem _ ?_)) ?_
      with_reducible refine WEs.nil ?_
      refine WC.len_str O (by omega) ?_
      with_reducible refine WV.add_nat O (by with_unfolding_all rfl) (by with_unfolding_all rfl) ?_
      with_reducible refine WV.ne_int ?_
      with_reducible refine Exists.intro _ (And.intro rfl ?_)
      refine iteF (by simp) ?_
      with_reducible refine WAll.or_nil ?_
      refine iteF rfl (WSs.nil ?_)
      refine WSs.cons O ?_
      with_reducible refine WS.ite O ?_
      with_reducible refine WB.boolop ?_
      with_reducible refine WAll.or O ?_
      with_reducible refine WB.cmp1 O ?_ (by with_unfolding_all rfl)
      with_reducible refine WE.bin O ?_
      with_reducible refine WE.name (by repeat (first | with_reducible exact List.mem_cons_self | with_reducible refine List.mem_cons_of_mem _ ?_)) ?_
      with_reducible refine WE.name (by repeat (first | with_reducible exact List.mem_cons_self | with_reducible refine List.mem_cons_of_mem _ ?_)) ?_
      refine WV.add_S O (by omega) ?_
      with_reducible refine WE.name (by repeat (first | with_reducible exact List.mem_cons_self | with_reducible refine List.mem_cons_of_mem _ ?_)) ?_
      with_reducible refine WV.ne_str ?_
      with_reducible refine Exists.intro _ (And.intro rfl ?_)
      rw [sf.2.2.2.2.1]
      refine iteF (by simp) ?_
      with_reducible refine WAll.or O ?_
      with_reducible refine WB.cmp1 O ?_ (by with_unfolding_all rfl)
      with_reducible refine WE.call_def O (G2.g42 G) (def42 G).fn ?_ (by with_unfolding_all rfl) (by with_unfolding_all rfl) (by with_unfolding_all rfl) (by with_unfolding_all rfl)
      with_reducible refine WEs.cons O ?_ (by with_unfolding_all rfl)
      with_reducible refine WE.bin O ?_
      with_reducible refine WE.strS (l := [46, 46, 46]) O (by with_unfolding_all rfl) ?_
      with_reducible refine WE.name (by repeat (first | with_reducible exact List.mem_cons_self | with_reducible refine List.mem_cons_of_mem _ ?_)) ?_
      refine WV.add_S O (by simp; omega) ?_
      with_reducible refine WEs.cons O ?_ (by with_unfolding_all rfl)
      with_reducible refine WE.name (by repeat (first | with_reducible exact List.mem_cons_self | with_reducible refine List.mem_cons_of_mem _ ?_)) ?_
      with_reducible refine WEs.nil ?_
      have hnd3 : noDot en := fun b hb => by rw [hen] at hb; exact hnd b (List.mem_of_mem_drop hb)
      refine ell_ok G (ao.mono (by decide)) (by simp; omega) (by omega) fun g4 => ?_
      rw [show ([46, 46, 46] : List Nat) = dots from rfl, ell_suf hnd3, sf.2.2.2.1]
      with_reducible refine WE.bool ?_
      with_reducible refine WV.isnot_bool ?_
      with_reducible refine Exists.intro _ (And.intro rfl ?_)
      refine iteF rfl ?_
      with_reducible refine WAll.or_nil ?_
      refine iteF rfl (WSs.nil ?_)
      refine WSs.cons O ?_
      refine WS.expr O ?_ (by with_unfolding_all rfl) (by with_unfolding_all rfl)
      with_reducible refine WE.meth O F.plainAttrs_list F.slot_list_append F.type_list_append ?_ (by with_unfolding_all rfl) ⟨_, by with_unfolding_all rfl⟩
      with_reducible refine WE.name (by repeat (first | with_reducible exact List.mem_cons_self | with_reducible refine List.mem_cons_of_mem _ ?_)) ?_
      have e4 : m2 ++ [MO.lst (List.map pairPV (letters en))] ++ g4 = μ ++ (MO.pil (h : Int) (letters left) :: MO.lst (lg.map fun s => PV.int (s : Nat)) :: (g ++ g2 ++ [MO.lst ((letters en).map pairPV), MO.lst []] ++ [MO.lst (List.map pairPV (letters en))] ++ g4)) := by
        rw [hm2]; simp only [List.append_assoc, List.cons_append]
      rw [e4]
      refine kindLst (ps := lg.map fun s => PV.int (s : Nat)) (at_end1 ..) ?_
      with_reducible refine WEs.cons O ?_ (by with_unfolding_all rfl)
      with_reducible refine WE.name (by repeat (first | with_reducible exact List.mem_cons_self | with_reducible refine List.mem_cons_of_mem _ ?_)) ?_
      with_reducible refine WEs.nil ?_
      refine WC.append O (at_end1 ..) (by rw [List.length_map, hf.2.1, List.length_take]; omega) ?_
      rw [set_end1]
      refine WSs.nil ⟨left, lg ++ [sizeP t], g ++ g2 ++ [MO.lst ((letters en).map pairPV), MO.lst []] ++ [MO.lst (List.map pairPV (letters en))] ++ g4, ?_, ?_, fun y hy => ?_, fun _ => ?_⟩
      · rw [List.map_append]; rfl
      · have := hrun.snoc (c := a)
        rw [← ht, hst, ← hleft] at this
        rw [List.take_add_one, List.getElem?_eq_getElem hj, hlt]
        exact this
      · simp only [rBase, List.mem_cons, List.not_mem_nil, or_false] at hy ⊢
        rcases hy with rfl | rfl | rfl | rfl <;> simp
      · simp
  · obtain ⟨l, lg, g, rfl, hrun, hb, hlf⟩ := hV
    have hlen : (List.map signPV (S row).cps.toList).length = row.length := by simp [S]
    rw [show List.length _ = row.length from hlen] at hrun hlf
    rw [List.take_length] at hrun
    have h1 := hlf (by cases row with | nil => exact absurd rfl hne | cons a r => simp)
    refine WSs.cons O ?_
    refine WS.ret O ?_
    refine WE.tuple O ?_
    refine WEs.cons O (WE.name h1 ?_) rfl
    refine WEs.cons O (WE.name (hb (("log" : Str), PV.loc (μ.length + 1)) (by simp)) (WEs.nil ⟨by simp, ?_⟩)) rfl
    exact hK l lg _ _ hrun ⟨_, rfl⟩ (at_end1 ..)
end
end Mine
namespace Mine
noncomputable section
section
variable {c : Cx} {A : Around} {env : Env} {ρ : Rho} {μ : Mu}
/-- x[::-1] of a list -/
theorem WE.rev2 {value st : Expr} {p pos : Pos} {K : PV → Mu → Prop} (O : c.Ok)
    (h : WE c A value env ρ μ fun b μ₁ => WPart c A (some st) env ρ μ₁ fun t μ₂ => t = some (-1) ∧ ∃ i ps, b = .loc i ∧ μ₂[i]? = some (.lst ps) ∧ ps.length ≤ 1000000 ∧ K (.loc μ₂.length) (μ₂ ++ [.lst ps.reverse])) : WE c A (.Subscript value (.Slice .none .none (some st) p) pos) env ρ μ K := ⟨fun s ι E Q I V hQ => by
  refine PyProof.Rows.Subscript_ (h.run s ι E _ I V fun o s₁ ι₁ b μ₁ S₁ I₁ r₁ k₁ => ?_)
  refine wpAny_Slice (wpAny_evalPart_none (wpAny_evalPart_none ?_))
  refine k₁.run s₁ ι₁ E _ I₁ (V.step O I S₁) fun vt s₃ ι₃ t μ₃ S₃ I₃ r₃ k₃ => ?_
  obtain ⟨rfl, i, ps, rfl, hi, hx, k₄⟩ := k₃
  have g := I₃.grow O (s' := { s₃ with heap := s₃.heap.push { cls := .type "slice", data := .fields #[.none, .none, vt] } }) (fun b o e => Heap.get?_push_of_some _ e) I₃.bare rfl I₃.tp
  have r₁' := (I₁.rep O (S₃.trans g.2) r₁)
  obtain ⟨a, vs, n, rfl, ha, ea, ra⟩ := g.1.lst hi r₁'
  have hl := RepL.length ps vs ra
  refine subTail (T := "list") ⟨_, ea, rfl⟩ F.slot_list_getitem.lookup ?_ (.inl rfl)
  have t := lst_new O g.1 (ra.rev) (h' := (s₃.heap.push { cls := .type "slice", data := .fields #[.none, .none, vt] }).push (lstOf vs.reverse 0)) (D := s₃.heap.objs.size + 1) (n := 0) (tk := s₃.toks) (by
    have := fresh_size (s₃.heap.push { cls := .type "slice", data := .fields #[.none, .none, vt] })
    simpa [Heap.push] using this) (by
    have := Heap.get?_push_size (s₃.heap.push { cls := .type "slice", data := .fields #[.none, .none, vt] }) (o := lstOf vs.reverse 0) rfl
    simpa [Heap.push] using this) (fun b o e => Heap.get?_push_of_some _ e) I₃.tp
  refine wpAny_getItem_list_slice (items := vs.toArray) (lo := .none) (hi := .none) (st := some (-1)) (lst_isList ea) ⟨_, Heap.get?_push_size _ rfl, rfl, rfl⟩ (partIs.isPart (l := .none) rfl) (partIs.isPart (l := .none) rfl) r₃.isPart (by decide) ?_ (by simp only [List.size_toArray]; rw [hl, sizeLine_eq]; omega)
  rw [krv_pick]
  have := hQ _ _ _ _ _ (((S₁.trans S₃).trans g.2).trans t.1) t.2.1 t.2.2 k₄
  simpa [Heap.push, lstOf] using this⟩
end
theorem keep122' {w : World} : keepIn (H2 w) (.ref 122) = true := by kernel_rfl
theorem def143 {w : World} {c : Cx} (G : G2 w c) : DefOk c 143 (fd2 w 143) (bodyOf (fd2 w 143)) ["rest", "log"] where
  fn := ⟨⟨_, (G.here (a := 143) rfl).1, rfl⟩, (G.here (a := 143) rfl).2⟩
  code := ⟨142, _, _, _, rfl, (G.here (a := 142) rfl).1, (G.here (a := 142) rfl).2, rfl, rfl⟩
  body := rfl
  bind := fun s vs k h => by
    obtain ⟨a, b, rfl⟩ := len2 h
    exact BindsTo.of_eq (by kernel_rfl)
  nd := by decide
  dbg := mem2 (by decide) (by decide)
  clo := rfl
  glo := rfl
  bi := rfl
  co := rfl
  gen := rfl
  kind := rfl

variable {w : World} {c : Cx} {A : Around} {μ : Mu}
abbrev bBase (n iL iP : Nat) (rest x : List Nat) : Rho := [("rest", .str (S rest)), ("log", .loc iL), ("row", .str (S x)), ("pile", .loc iP)]
theorem back_ok (G : G2 w c) (ao : AOk 5 A) {rest row lg : List Nat} {iL : Nat} {K' : PV → Mu → Prop} (hB : Back rest [] lg.reverse [] row) (hlr : rest.length ≤ 12) (hlg : lg.length ≤ 12) (hsz : ∀ s ∈ lg, s ≤ 12) (hi : μ[iL]? = some (.lst (lg.map fun s => PV.int (s : Nat))))
    (hK : ∀ m, (∃ g, m = μ ++ g) → K' (.tup [.str (S row), .tup [.str "", .str ""], .int 0]) m) : WC c A (.ref 143) [.str (S rest), .loc iL] μ K' := by
  have O := G.ok
  have hiL : iL < μ.length := (List.getElem?_eq_some_iff.mp hi).1
  refine WC.def (n := 4) O (def143 G) ao rfl (noCell rfl) (mem2 rfl rfl) (fun L => rfl) (by decide) (fun L => mem2 rfl rfl) fun L A ao => ?_
  show WSs c A _ _ [("rest", .str (S rest)), ("log", .loc iL)] _ _
  refine WSs.cons O ?_
  refine WS.assign_swap (names := ["pile", "row"]) O ao.h ?_ (by with_unfolding_all rfl) (by with_unfolding_all rfl)
  refine WE.tuple O ?_
  refine WEs.cons O ?_ rfl
  refine WE.call_cls0 O (pilK G) (G2.g122 G) keep122' ?_ (by with_unfolding_all rfl) (by with_unfolding_all rfl) (by with_unfolding_all rfl)
  refine acc0_ok G (ao.mono (by decide)) ?_
  with_reducible refine WEs.cons O ?_ (by with_unfolding_all rfl)
  with_reducible refine WE.strS (l := []) O (by with_unfolding_all rfl) ?_
  with_reducible refine WEs.nil ?_
  refine ⟨by simp, _, rfl, rfl, ?_⟩
  refine WAs.bind O (by repeat (first | with_reducible exact UpdI.nil | with_reducible exact UpdI.head | (apply UpdI.tail; (· with_unfolding_all decide)))) (.inl rfl) rfl (WAs.bind O (by repeat (first | with_reducible exact UpdI.nil | with_reducible exact UpdI.head | (apply UpdI.tail; (· with_unfolding_all decide)))) (.inl rfl) rfl (WAs.nil ?_))
  refine WSs.cons O ?_
  refine WS.for_ O ?_ (fun _ => (by with_unfolding_all rfl))
  with_reducible refine WE.name (by repeat (first | with_reducible exact List.mem_cons_self | with_reducible refine List.mem_cons_of_mem _ ?_)) ?_
  with_reducible refine loopStr ?_
  refine WL.inv (fun j ρ m => ∃ g, m = μ ++ (MO.pil 0 (letters (rest.take j)) :: g) ∧ (∀ y ∈ bBase 0 iL μ.length rest [], y ∈ ρ)) _ O ao.h ?_ (fun j ρ m _ => ⟨rfl, fun i e => by cases e⟩) (fun j q ρ m hq hV => ?_) fun ρ m hV => ?_
  · exact ⟨[], by simp [letters], fun y hy => by simpa using hy⟩
  · obtain ⟨g, rfl, hb⟩ := hV
    have hj : j < rest.length := by
      have := (List.getElem?_eq_some_iff.mp hq).1
      simpa [S] using this
    have hqj : q = .str (S [rest[j]]) := by
      have : (rest.map signPV)[j]? = some q := hq
      rw [List.getElem?_map, List.getElem?_eq_getElem hj] at this
      exact (Option.some.inj this).symm
    subst hqj
    refine WA.less (ρ' := bBase 0 iL μ.length rest []) hb (by show (["rest", "log", "row", "pile"] : List Str).Nodup; decide) ?_
    refine WA.name O (by repeat (first | with_reducible exact UpdI.nil | with_reducible exact UpdI.head | (apply UpdI.tail; (· with_unfolding_all decide)))) (.inl rfl) rfl ?_
    refine WSs.cons O ?_
    refine WS.expr O ?_ (by with_unfolding_all rfl) (by with_unfolding_all rfl)
    refine WE.pmeth (fa := 66) (fd := fd2 w 66) O (pilK G) (by rw [G.C]; kernel_rfl) (by kernel_rfl) (by decide) (def66 G).fn ?_ (by with_unfolding_all rfl) ⟨_, (by with_unfolding_all rfl)⟩
    refine WE.name (by repeat (first | with_reducible exact List.mem_cons_self | with_reducible refine List.mem_cons_of_mem _ ?_)) ⟨⟨_, _, _, rfl, at_end ..⟩, ?_⟩
    with_reducible refine WEs.cons O ?_ (by with_unfolding_all rfl)
    with_reducible refine WE.strS (l := []) O (by with_unfolding_all rfl) ?_
    with_reducible refine WEs.cons O ?_ (by with_unfolding_all rfl)
    with_reducible refine WE.name (by repeat (first | with_reducible exact List.mem_cons_self | with_reducible refine List.mem_cons_of_mem _ ?_)) ?_
    with_reducible refine WEs.nil ?_
    refine push_ok G (ao.mono (by decide)) (at_end ..) (by rw [letters_len, List.length_take]; omega) ?_
    rw [set_end, letters_snoc]
    refine WSs.nil ⟨g, ?_, fun y hy => ?_⟩
    · rw [List.take_add_one, List.getElem?_eq_getElem hj]; rfl
    · simp only [bBase, List.mem_cons, List.not_mem_nil, or_false] at hy ⊢
      rcases hy with rfl | rfl | rfl | rfl <;> simp
  · obtain ⟨g, rfl, hb⟩ := hV
    have hlen : (List.map signPV (S rest).cps.toList).length = rest.length := by simp [S]
    rw [show List.length _ = rest.length from hlen, List.take_length]
    refine WSs.less (ρ' := bBase 0 iL μ.length rest []) hb (by show (["rest", "log", "row", "pile"] : List Str).Nodup; decide) ?_
    refine WSs.cons O ?_
    refine WS.for_ O ?_ (fun _ => (by with_unfolding_all rfl))
    refine WE.rev2 O ?_
    with_reducible refine WE.name (by repeat (first | with_reducible exact List.mem_cons_self | with_reducible refine List.mem_cons_of_mem _ ?_)) ?_
    with_reducible refine WPart.some ?_
    with_reducible refine WE.negint O ?_
    with_reducible refine Exists.intro _ (And.intro rfl ?_)
    have hi' : (μ ++ MO.pil 0 (letters rest) :: g)[iL]? = some (.lst (lg.map fun s => PV.int (s : Nat))) := getElem?_ext hi _
    refine ⟨rfl, iL, _, rfl, hi', by rw [List.length_map]; omega, ?_⟩
    rw [← List.map_reverse]
    refine loopLst (at_end ..) ?_
    have hn0 : (μ ++ MO.pil 0 (letters rest) :: g).length = μ.length + (g.length + 1) := by simp
    rw [hn0]
    obtain ⟨hfold, hstep⟩ := hB.fold
    obtain ⟨lr, hlr'⟩ : ∃ lr, lr = lg.reverse := ⟨_, rfl⟩
    have hlrn : lr.length ≤ 12 := by rw [hlr', List.length_reverse]; exact hlg
    have hlrs : ∀ s ∈ lr, s ≤ 12 := fun s hs => hsz s (by rw [hlr'] at hs; exact List.mem_reverse.mp hs)
    rw [← hlr'] at hfold hstep ⊢
    obtain ⟨st, hst⟩ : ∃ st : Nat → List Nat × List Nat, st = fun j => (lr.take j).foldl backS (rest, []) := ⟨_, rfl⟩
    have hst0 : st 0 = (rest, []) := by rw [hst]; rfl
    have hstl : ∀ j, (st j).1.length ≤ 156 := fun j => by
      have h1 := back_len (lr.take j) rest [] fun s hs => hlrs s (List.mem_of_mem_take hs)
      have h2 : (lr.take j).length ≤ 12 := by rw [List.length_take]; omega
      rw [hst]; dsimp only; omega
    have hstr : ∀ j, (st j).2.length ≤ 12 := fun j => by
      have h1 := row_len (lr.take j) (rest, [])
      have h2 : (lr.take j).length ≤ 12 := by rw [List.length_take]; omega
      rw [hst]; dsimp only; simp at h1; omega
    have hsts : ∀ j s, lr[j]? = some s → st (j + 1) = backS (st j) s ∧ s ≤ (st j).1.length ∧ (st j).1 ++ (st j).1.drop ((st j).1.length - s) ≠ [] := fun j s hj => by
      refine ⟨?_, ?_⟩
      · rw [hst]; dsimp only
        rw [List.take_add_one, hj, List.foldl_append]; rfl
      · rw [hst]; exact hstep j s hj
    refine WL.inv (fun j ρ m => ∃ g', m = μ ++ (MO.pil 0 (letters (st j).1) :: (g ++ MO.lst (lr.map fun s => PV.int (s : Nat)) :: g')) ∧ (∀ y ∈ bBase 0 iL μ.length rest (st j).2, y ∈ ρ)) (lr.map fun s => PV.int (s : Nat)) O ao.h ?_ (fun j ρ m hV => ?_) (fun j q ρ m hq hV => ?_) fun ρ m hV => ?_
    · refine ⟨[], ?_, fun y hy => ?_⟩
      · rw [hst0]; simp
      · rw [hst0] at hy; exact hy
    · obtain ⟨g', rfl, _⟩ := hV
      have e : (μ ++ (MO.pil 0 (letters (st j).1) :: (g ++ MO.lst (lr.map fun s => PV.int (s : Nat)) :: g')))[μ.length + (g.length + 1)]? = some (.lst (lr.map fun s => PV.int (s : Nat))) := by
        rw [List.getElem?_append_right (by omega), show μ.length + (g.length + 1) - μ.length = g.length + 1 by omega, List.getElem?_cons_succ, List.getElem?_append_right (by omega)]
        simp
      exact ⟨by simp only [itemsOf]; rw [e], fun i h => by cases h; exact ⟨_, e⟩⟩
    · obtain ⟨g', rfl, hb⟩ := hV
      rw [List.getElem?_map] at hq
      cases hs : lr[j]? with
      | none => rw [hs] at hq; cases hq
      | some s =>
      rw [hs] at hq
      have hq' : q = .int (s : Nat) := (Option.some.inj hq).symm
      subst hq'
      obtain ⟨n1, n2, n3⟩ := hsts j s hs
      have hjl := hstl j
      have hjr := hstr j
      generalize hlj : st j = lx at *
      obtain ⟨l, x⟩ := lx
      dsimp only at *
      refine WA.less (ρ' := bBase 0 iL μ.length rest x) hb (by show (["rest", "log", "row", "pile"] : List Str).Nodup; decide) ?_
      refine WA.name O (by repeat (first | with_reducible exact UpdI.nil | with_reducible exact UpdI.head | (apply UpdI.tail; (· with_unfolding_all decide)))) (.inl rfl) rfl ?_
      refine WSs.cons O ?_
      with_reducible refine WS.assign_name O ?_ (.inl (by with_unfolding_all rfl)) (by with_unfolding_all rfl) (by with_unfolding_all rfl)
      with_reducible refine WE.call_ty O (G2.n_str G) (G2.b_str G) ?_ (by with_unfolding_all rfl) (by with_unfolding_all rfl) (by with_unfolding_all rfl) (by with_unfolding_all rfl)
      with_reducible refine WEs.cons O ?_ (by with_unfolding_all rfl)
      with_reducible refine WE.name (by repeat (first | with_reducible exact List.mem_cons_self | with_reducible refine List.mem_cons_of_mem _ ?_)) ?_
      with_reducible refine WEs.nil ?_
      refine pstr_ok G (ao.mono (by decide)) (at_end ..) (by omega) ?_
      with_reducible refine updE (by repeat (first | with_reducible exact UpdI.nil | with_reducible exact UpdI.head | (apply UpdI.tail; (· with_unfolding_all decide)))) ?_
      with_reducible refine WSs.cons O ?_
      refine WS.for_ O ?_ (fun _ => (by with_unfolding_all rfl))
      with_reducible refine WE.slice O ?_
      with_reducible refine WE.name (by repeat (first | with_reducible exact List.mem_cons_self | with_reducible refine List.mem_cons_of_mem _ ?_)) ?_
      with_reducible refine WPart.some ?_
      with_reducible refine WE.bin O ?_
      with_reducible refine WE.call_bi O (G2.n_len G) (G2.b_len G) ?_ (by with_unfolding_all rfl) (by with_unfolding_all rfl) (by with_unfolding_all rfl) (by with_unfolding_all rfl)
      with_reducible refine WEs.cons O ?_ (by with_unfolding_all rfl)
      with_reducible refine WE.name (by repeat (first | with_reducible exact List.mem_cons_self | with_reducible refine List.mem_cons_of_mem _ ?_)) ?_
      with_reducible refine WEs.nil ?_
      refine WC.len_str O (by omega) ?_
      with_reducible refine WE.name (by repeat (first | with_reducible exact List.mem_cons_self | with_reducible refine List.mem_cons_of_mem _ ?_)) ?_
      with_reducible refine WV.sub_int O ?_
      with_reducible refine Exists.intro _ (And.intro rfl ?_)
      with_reducible refine WPart.none ?_
      rw [show ((l.length : Nat) : Int) - ((s : Nat) : Int) = ((l.length - s : Nat) : Int) by omega]
      refine ⟨_, _, .str l (by omega), ?_⟩
      rw [cutL_from l (l.length - s) (by omega)]
      refine loopStr ?_
      obtain ⟨d, hd⟩ : ∃ d, d = l.drop (l.length - s) := ⟨_, rfl⟩
      have hdl : d.length = s := by rw [hd, List.length_drop]; omega
      have hs12 := hlrs s (List.mem_of_getElem? hs)
      rw [← hd] at n3 ⊢
      refine WL.inv (fun k ρ m => m = μ ++ (MO.pil 0 (letters (l ++ d.take k)) :: (g ++ MO.lst (lr.map fun s => PV.int (s : Nat)) :: g')) ∧ (∀ y ∈ bBase 0 iL μ.length rest x, y ∈ ρ)) ((S d).cps.toList.map signPV) O ao.h ?_ (fun j ρ m _ => ⟨rfl, fun i e => by cases e⟩) (fun k q ρ m hq hV => ?_) fun ρ m hV => ?_
      · refine ⟨by simp, fun y hy => ?_⟩
        simp only [bBase, List.mem_cons, List.not_mem_nil, or_false] at hy ⊢
        rcases hy with rfl | rfl | rfl | rfl <;> simp
      · obtain ⟨rfl, hb⟩ := hV
        have hk : k < d.length := by
          have := (List.getElem?_eq_some_iff.mp hq).1
          simpa using this
        have hqj : q = .str (S [d[k]]) := by
          have : (d.map signPV)[k]? = some q := hq
          rw [List.getElem?_map, List.getElem?_eq_getElem hk] at this
          exact (Option.some.inj this).symm
        subst hqj
        refine WA.less (ρ' := bBase 0 iL μ.length rest x) hb (by show (["rest", "log", "row", "pile"] : List Str).Nodup; decide) ?_
        refine WA.name O (by repeat (first | with_reducible exact UpdI.nil | with_reducible exact UpdI.head | (apply UpdI.tail; (· with_unfolding_all decide)))) (.inl rfl) rfl ?_
        refine WSs.cons O ?_
        refine WS.expr O ?_ (by with_unfolding_all rfl) (by with_unfolding_all rfl)
        refine WE.pmeth (fa := 66) (fd := fd2 w 66) O (pilK G) (by rw [G.C]; kernel_rfl) (by kernel_rfl) (by decide) (def66 G).fn ?_ (by with_unfolding_all rfl) ⟨_, (by with_unfolding_all rfl)⟩
        refine WE.name (by repeat (first | with_reducible exact List.mem_cons_self | with_reducible refine List.mem_cons_of_mem _ ?_)) ⟨⟨_, _, _, rfl, at_end ..⟩, ?_⟩
        with_reducible refine WEs.cons O ?_ (by with_unfolding_all rfl)
        with_reducible refine WE.strS (l := []) O (by with_unfolding_all rfl) ?_
        with_reducible refine WEs.cons O ?_ (by with_unfolding_all rfl)
        with_reducible refine WE.name (by repeat (first | with_reducible exact List.mem_cons_self | with_reducible refine List.mem_cons_of_mem _ ?_)) ?_
        with_reducible refine WEs.nil ?_
        refine push_ok G (ao.mono (by decide)) (at_end ..) (by rw [letters_len, List.length_append, List.length_take]; omega) ?_
        rw [set_end, letters_snoc]
        refine WSs.nil ⟨?_, fun y hy => ?_⟩
        · rw [List.take_add_one, List.getElem?_eq_getElem hk, ← List.append_assoc]; rfl
        · simp only [bBase, List.mem_cons, List.not_mem_nil, or_false] at hy ⊢
          rcases hy with rfl | rfl | rfl | rfl <;> simp
      · obtain ⟨rfl, hb⟩ := hV
        have hlen2 : (List.map signPV (S d).cps.toList).length = d.length := by simp
        rw [show List.length _ = d.length from hlen2, List.take_length]
        refine WSs.less (ρ' := bBase 0 iL μ.length rest x) hb (by show (["rest", "log", "row", "pile"] : List Str).Nodup; decide) ?_
        obtain ⟨l2, a, e⟩ : ∃ l2 a, l ++ d = l2 ++ [a] := ⟨_, _, (List.dropLast_concat_getLast n3).symm⟩
        have nb : st (j + 1) = (l2, a :: x) := by
          rw [n1]; unfold backS; dsimp only
          rw [← hd, e]; simp
        rw [e]
        have hl2 : l2.length + 1 = l.length + d.length := by have := congrArg List.length e; simpa using this.symm
        refine WSs.cons O ?_
        refine WS.assign_name O ?_ (.inl (by with_unfolding_all rfl)) (by with_unfolding_all rfl) (by with_unfolding_all rfl)
        refine WE.bin O ?_
        refine WE.sub O ?_ (fun _ _ => (by with_unfolding_all rfl))
        refine WE.pmeth0 (fa := 82) (fd := fd2 w 82) O (pilK G) (by rw [G.C]; kernel_rfl) (by kernel_rfl) (by decide) (defS82 G).fn ?_ ⟨_, (by with_unfolding_all rfl)⟩
        refine WE.name (by repeat (first | with_reducible exact List.mem_cons_self | with_reducible refine List.mem_cons_of_mem _ ?_)) ⟨⟨_, _, _, rfl, at_end ..⟩, ?_⟩
        refine pop_ok G (ao.mono (by decide)) (at_end ..) (by rw [letters_len, List.length_append]; simp; omega) (fun h => by simp [letters] at h) fun r z hz => ?_
        have hz2 : r = letters l2 ∧ z = (S [], S [a]) := by
          rw [← letters_snoc] at hz
          have := List.append_inj' hz rfl
          exact ⟨this.1.symm, by simpa using this.2.symm⟩
        obtain ⟨rfl, rfl⟩ := hz2
        rw [set_end]
        refine WE.int O ?_
        refine ⟨trivial, ?_⟩
        refine WV.item_tup (ps := [.str (S []), .str (S [a])]) (k := 1) (q := .str (S [a])) rfl rfl (by omega) ?_
        refine WE.name (by repeat (first | with_reducible exact List.mem_cons_self | with_reducible refine List.mem_cons_of_mem _ ?_)) ?_
        refine WV.add_S O (by simp; omega) ?_
        refine updE (by repeat (first | with_reducible exact UpdI.nil | with_reducible exact UpdI.head | (apply UpdI.tail; (· with_unfolding_all decide)))) ?_
        refine WSs.nil ⟨g', by rw [nb], fun y hy => ?_⟩
        rw [nb] at hy
        exact hy
    · obtain ⟨g', rfl, hb⟩ := hV
      have hend : st (lr.map fun s => PV.int (s : Nat)).length = ([], row) := by
        rw [List.length_map, hst]; dsimp only; rw [List.take_length]; exact hfold
      rw [hend] at hb ⊢
      refine WSs.less (ρ' := bBase 0 iL μ.length rest row) hb (by show (["rest", "log", "row", "pile"] : List Str).Nodup; decide) ?_
      refine WSs.cons O ?_
      refine WS.ret O ?_
      refine WE.tuple O ?_
      refine WEs.cons O (WE.name (by repeat (first | with_reducible exact List.mem_cons_self | with_reducible refine List.mem_cons_of_mem _ ?_)) ?_) rfl
      refine WEs.cons O ?_ rfl
      refine WE.pmeth0 (fa := 82) (fd := fd2 w 82) O (pilK G) (by rw [G.C]; kernel_rfl) (by kernel_rfl) (by decide) (defS82 G).fn ?_ ⟨_, (by with_unfolding_all rfl)⟩
      refine WE.name (by repeat (first | with_reducible exact List.mem_cons_self | with_reducible refine List.mem_cons_of_mem _ ?_)) ⟨⟨_, _, _, rfl, at_end ..⟩, ?_⟩
      refine pop_ok G (ao.mono (by decide)) (at_end ..) (by simp [letters]) (fun _ => ?_) fun r z hz => ?_
      · with_reducible refine WEs.cons O ?_ (by with_unfolding_all rfl)
        with_reducible refine WE.call_bi O (G2.n_len G) (G2.b_len G) ?_ (by with_unfolding_all rfl) (by with_unfolding_all rfl) (by with_unfolding_all rfl) (by with_unfolding_all rfl)
        with_reducible refine WEs.cons O ?_ (by with_unfolding_all rfl)
        with_reducible refine WE.name (by repeat (first | with_reducible exact List.mem_cons_self | with_reducible refine List.mem_cons_of_mem _ ?_)) ?_
        with_reducible refine WEs.nil ?_
        refine plen_ok (l := []) G (ao.mono (by decide)) (at_end ..) (by simp) (by omega) ?_
        with_reducible refine WEs.nil ?_
        refine ⟨by simp, ?_⟩
        exact hK _ ⟨_, rfl⟩
      · have := congrArg List.length hz
        simp [letters] at this
end
end Mine
namespace Mine
noncomputable section
theorem def155 {w : World} {c : Cx} (G : G2 w c) : DefOk c 155 (fd2 w 155) (bodyOf (fd2 w 155)) ["rest"] where
  fn := ⟨⟨_, (G.here (a := 155) rfl).1, rfl⟩, (G.here (a := 155) rfl).2⟩
  code := ⟨154, _, _, _, rfl, (G.here (a := 154) rfl).1, (G.here (a := 154) rfl).2, rfl, rfl⟩
  body := rfl
  bind := fun s vs k h => by
    obtain ⟨a, rfl⟩ := len1 h
    exact BindsTo.of_eq (by kernel_rfl)
  nd := by decide
  dbg := fun x hx => by rw [List.mem_singleton.mp hx]; decide
  clo := rfl
  glo := rfl
  bi := rfl
  co := rfl
  gen := rfl
  kind := rfl

variable {w : World} {c : Cx} {A : Around} {μ : Mu}
theorem single_ok (G : G2 w c) (ao : AOk 3 A) {x : List Nat} {K' : PV → Mu → Prop} (hx : sqf x) (hnd : noDot x) (hl : x.length ≤ 12)
    (hK : ∀ m, (∃ g, m = μ ++ g) → K' (.bool true) m) : WC c A (.ref 155) [.str (S x)] μ K' := by
  have O := G.ok
  have hdp : ∀ k m, noDot ((x.drop k).take m) := fun k m b hb => hnd b (List.mem_of_mem_drop (List.mem_of_mem_take hb))
  refine WC.def (n := 2) O (def155 G) ao rfl (noCell rfl) (mem1 rfl) (fun L => rfl) (by decide) (fun L => mem1 rfl) fun L A ao => ?_
  show WSs c A _ _ [("rest", .str (S x))] _ _
  refine WSs.cons O ?_
  refine WS.for_ O ?_ (fun _ => (by with_unfolding_all rfl))
  with_reducible refine WE.call_ty O (G2.n_range G) (G2.b_range G) ?_ (by with_unfolding_all rfl) (by with_unfolding_all rfl) (by with_unfolding_all rfl) (by with_unfolding_all rfl)
  with_reducible refine WEs.cons O ?_ (by with_unfolding_all rfl)
  with_reducible refine WE.call_bi O (G2.n_len G) (G2.b_len G) ?_ (by with_unfolding_all rfl) (by with_unfolding_all rfl) (by with_unfolding_all rfl) (by with_unfolding_all rfl)
  with_reducible refine WEs.cons O ?_ (by with_unfolding_all rfl)
  with_reducible refine WE.name (by repeat (first | with_reducible exact List.mem_cons_self | with_reducible refine List.mem_cons_of_mem _ ?_)) ?_
  with_reducible refine WEs.nil ?_
  refine WC.len_str O (by omega) ?_
  with_reducible refine WEs.nil ?_
  refine WC.range1 O ?_
  refine loopRng (by omega) ?_
  refine WL.inv (fun j ρ m => (("rest" : Str), PV.str (S x)) ∈ ρ ∧ ∃ g, m = μ ++ g) ((List.range (((x.length : Nat) : Int) - 0).toNat).map fun (k : Nat) => .int (0 + (k : Int))) O ao.h ?_ (fun j ρ m _ => ⟨rfl, fun i e => by cases e⟩) (fun k q ρ m hq hV => ?_) fun ρ m hV => ?_
  · exact ⟨by simp, [], by simp⟩
  · obtain ⟨hb, g, rfl⟩ := hV
    have hk : k < x.length ∧ q = .int (k : Nat) := by
      obtain ⟨h1, h2⟩ := List.getElem?_eq_some_iff.mp hq
      rw [List.length_map, List.length_range] at h1
      refine ⟨by omega, ?_⟩
      rw [← h2, List.getElem_map, List.getElem_range]
      congr 1; omega
    obtain ⟨hk, rfl⟩ := hk
    refine WA.less (ρ' := [("rest", .str (S x))]) (fun y hy => by rw [List.mem_singleton.mp hy]; exact hb) (by simp) ?_
    refine WA.name O (by repeat (first | with_reducible exact UpdI.nil | with_reducible exact UpdI.head | (apply UpdI.tail; (· with_unfolding_all decide)))) (.inl rfl) rfl ?_
    refine WSs.cons O ?_
    refine WS.for_ O ?_ (fun _ => (by with_unfolding_all rfl))
    with_reducible refine WE.call_ty O (G2.n_range G) (G2.b_range G) ?_ (by with_unfolding_all rfl) (by with_unfolding_all rfl) (by with_unfolding_all rfl) (by with_unfolding_all rfl)
    with_reducible refine WEs.cons O ?_ (by with_unfolding_all rfl)
    with_reducible refine WE.int O ?_
    with_reducible refine WEs.cons O ?_ (by with_unfolding_all rfl)
    with_reducible refine WE.bin O ?_
    with_reducible refine WE.bin O ?_
    with_reducible refine WE.bin O ?_
    with_reducible refine WE.call_bi O (G2.n_len G) (G2.b_len G) ?_ (by with_unfolding_all rfl) (by with_unfolding_all rfl) (by with_unfolding_all rfl) (by with_unfolding_all rfl)
    with_reducible refine WEs.cons O ?_ (by with_unfolding_all rfl)
    with_reducible refine WE.name (by repeat (first | with_reducible exact List.mem_cons_self | with_reducible refine List.mem_cons_of_mem _ ?_)) ?_
    with_reducible refine WEs.nil ?_
    refine WC.len_str O (by omega) ?_
    with_reducible refine WE.name (by repeat (first | with_reducible exact List.mem_cons_self | with_reducible refine List.mem_cons_of_mem _ ?_)) ?_
    with_reducible refine WV.sub_int O ?_
    with_reducible refine WE.int O ?_
    rw [show ((x.length : Nat) : Int) - ((k : Nat) : Int) = ((x.length - k : Nat) : Int) by omega]
    with_reducible refine WV.div_nat O (by with_unfolding_all rfl) (by with_unfolding_all rfl) (by decide) ?_
    with_reducible refine WE.int O ?_
    with_reducible refine WV.add_nat O (by with_unfolding_all rfl) (by with_unfolding_all rfl) ?_
    with_reducible refine WEs.nil ?_
    refine WC.range2 O ?_
    refine loopRng ?_ ?_
    · show -1000000 ≤ (1 : Int) ∧ (1 : Int) ≤ 1000000 ∧ -1000000 ≤ (((x.length - k) / 2 + 1 : Nat) : Int) ∧ (((x.length - k) / 2 + 1 : Nat) : Int) ≤ 1000000
      omega
    refine WL.inv (fun j ρ m => (∀ y ∈ ([("rest", .str (S x)), ("k", .int (k : Nat))] : Rho), y ∈ ρ) ∧ ∃ g, m = μ ++ g) ((List.range ((((x.length - k) / 2 + 1 : Nat) : Int) - 1).toNat).map fun (k : Nat) => .int (1 + (k : Int))) O ao.h ?_ (fun j ρ m _ => ⟨rfl, fun i e => by cases e⟩) (fun j q ρ m hq hV => ?_) fun ρ m hV => ?_
    · exact ⟨fun y hy => hy, g, rfl⟩
    · obtain ⟨hb, g, rfl⟩ := hV
      have hj : j < (x.length - k) / 2 ∧ q = .int ((j + 1 : Nat) : Int) := by
        obtain ⟨h1, h2⟩ := List.getElem?_eq_some_iff.mp hq
        rw [List.length_map, List.length_range] at h1
        refine ⟨by omega, ?_⟩
        rw [← h2, List.getElem_map, List.getElem_range]
        congr 1; omega
      obtain ⟨hj, rfl⟩ := hj
      obtain ⟨m, hm⟩ : ∃ m, m = j + 1 := ⟨_, rfl⟩
      rw [← hm]
      have hm0 : 0 < m := by omega
      have hkm : k + 2 * m ≤ x.length := by omega
      refine WA.less (ρ' := [("rest", .str (S x)), ("k", .int (k : Nat))]) hb (by show (["rest", "k"] : List Str).Nodup; decide) ?_
      refine WA.name O (by repeat (first | with_reducible exact UpdI.nil | with_reducible exact UpdI.head | (apply UpdI.tail; (· with_unfolding_all decide)))) (.inl rfl) rfl ?_
      refine WSs.cons O ?_
      refine WS.assign_swap (names := ["piece", "later"]) O ao.h ?_ (by with_unfolding_all rfl) (by with_unfolding_all rfl)
      with_reducible refine WE.tuple O ?_
      with_reducible refine WEs.cons O ?_ (by with_unfolding_all rfl)
      with_reducible refine WE.slice O ?_
      with_reducible refine WE.name (by repeat (first | with_reducible exact List.mem_cons_self | with_reducible refine List.mem_cons_of_mem _ ?_)) ?_
      with_reducible refine WPart.some ?_
      with_reducible refine WE.name (by repeat (first | with_reducible exact List.mem_cons_self | with_reducible refine List.mem_cons_of_mem _ ?_)) ?_
      with_reducible refine Exists.intro _ (And.intro rfl ?_)
      with_reducible refine WPart.some ?_
      with_reducible refine WE.bin O ?_
      with_reducible refine WE.name (by repeat (first | with_reducible exact List.mem_cons_self | with_reducible refine List.mem_cons_of_mem _ ?_)) ?_
      with_reducible refine WE.name (by repeat (first | with_reducible exact List.mem_cons_self | with_reducible refine List.mem_cons_of_mem _ ?_)) ?_
      with_reducible refine WV.add_nat O (by with_unfolding_all rfl) (by with_unfolding_all rfl) ?_
      with_reducible refine Exists.intro _ (And.intro rfl ?_)
      refine ⟨_, _, .str x (by omega), ?_⟩
      rw [cutL_mid x k (k + m) (by omega) (by omega), show k + m - k = m by omega]
      with_reducible refine WEs.cons O ?_ (by with_unfolding_all rfl)
      with_reducible refine WE.slice O ?_
      with_reducible refine WE.name (by repeat (first | with_reducible exact List.mem_cons_self | with_reducible refine List.mem_cons_of_mem _ ?_)) ?_
      with_reducible refine WPart.some ?_
      with_reducible refine WE.bin O ?_
      with_reducible refine WE.name (by repeat (first | with_reducible exact List.mem_cons_self | with_reducible refine List.mem_cons_of_mem _ ?_)) ?_
      with_reducible refine WE.name (by repeat (first | with_reducible exact List.mem_cons_self | with_reducible refine List.mem_cons_of_mem _ ?_)) ?_
      with_reducible refine WV.add_nat O (by with_unfolding_all rfl) (by with_unfolding_all rfl) ?_
      with_reducible refine Exists.intro _ (And.intro rfl ?_)
      with_reducible refine WPart.some ?_
      with_reducible refine WE.bin O ?_
      with_reducible refine WE.name (by repeat (first | with_reducible exact List.mem_cons_self | with_reducible refine List.mem_cons_of_mem _ ?_)) ?_
      with_reducible refine WE.bin O ?_
      with_reducible refine WE.int O ?_
      with_reducible refine WE.name (by repeat (first | with_reducible exact List.mem_cons_self | with_reducible refine List.mem_cons_of_mem _ ?_)) ?_
      with_reducible refine WV.mul_nat O (by with_unfolding_all rfl) (by with_unfolding_all rfl) (by decide) ?_
      with_reducible refine WV.add_nat O (by with_unfolding_all rfl) (by with_unfolding_all rfl) ?_
      with_reducible refine Exists.intro _ (And.intro rfl ?_)
      refine ⟨_, _, .str x (by omega), ?_⟩
      have ec : cutL x (some ((k + m : Nat) : Int)) (some ((k + 2 * m : Nat) : Int)) = (x.drop (k + m)).take m := by
        rw [cutL_mid x (k + m) (k + 2 * m) (by omega) (by omega)]
        congr 1; omega
      rw [ec]
      with_reducible refine WEs.nil ?_
      refine ⟨by simp, _, rfl, rfl, ?_⟩
      refine WAs.bind O (by repeat (first | with_reducible exact UpdI.nil | with_reducible exact UpdI.head | (apply UpdI.tail; (· with_unfolding_all decide)))) (.inl rfl) rfl (WAs.bind O (by repeat (first | with_reducible exact UpdI.nil | with_reducible exact UpdI.head | (apply UpdI.tail; (· with_unfolding_all decide)))) (.inl rfl) rfl (WAs.nil ?_))
      have f1 := single_a (k := k) hx hm0 hkm
      obtain ⟨i0, f2, f3⟩ := single_b (x := x) (k := k) (m := m) hkm
      have np := hdp k m
      have nq := hdp (k + m) m
      have lp : ((x.drop k).take m).length = m := by rw [List.length_take, List.length_drop]; omega
      have lq : ((x.drop (k + m)).take m).length = m := by rw [List.length_take, List.length_drop]; omega
      generalize (x.drop k).take m = p at *
      generalize (x.drop (k + m)).take m = q at *
      have npp : noDot (p ++ p) := fun b hb => by rcases List.mem_append.mp hb with h | h <;> exact np b h
      refine WSs.cons O ?_
      with_reducible refine WS.ite O ?_
      with_reducible refine WB.cmp1 O ?_ (by with_unfolding_all rfl)
      with_reducible refine WE.call_def O (G2.g42 G) (def42 G).fn ?_ (by with_unfolding_all rfl) (by with_unfolding_all rfl) (by with_unfolding_all rfl) (by with_unfolding_all rfl)
      with_reducible refine WEs.cons O ?_ (by with_unfolding_all rfl)
      with_reducible refine WE.bin O ?_
      with_reducible refine WE.bin O ?_
      with_reducible refine WE.strS (l := [46, 46, 46]) O (by with_unfolding_all rfl) ?_
      with_reducible refine WE.bin O ?_
      with_reducible refine WE.name (by repeat (first | with_reducible exact List.mem_cons_self | with_reducible refine List.mem_cons_of_mem _ ?_)) ?_
      with_reducible refine WE.int O ?_
      refine WV.twice O (by omega) ?_
      refine WV.add_S O (by simp; omega) ?_
      with_reducible refine WE.strS (l := [46, 46, 46]) O (by with_unfolding_all rfl) ?_
      refine WV.add_S O (by simp; omega) ?_
      with_reducible refine WEs.cons O ?_ (by with_unfolding_all rfl)
      with_reducible refine WE.name (by repeat (first | with_reducible exact List.mem_cons_self | with_reducible refine List.mem_cons_of_mem _ ?_)) ?_
      with_reducible refine WEs.nil ?_
      refine ell_ok G (ao.mono (by decide)) (by simp; omega) (by omega) fun g1 => ?_
      rw [show ([46, 46, 46] : List Nat) = dots from rfl, ell_in npp, f1]
      with_reducible refine WE.bool ?_
      with_reducible refine WV.isnot_bool ?_
      with_reducible refine Exists.intro _ (And.intro rfl ?_)
      refine iteF rfl (WSs.nil ?_)
      refine WSs.cons O ?_
      with_reducible refine WS.ite O ?_
      with_reducible refine WB.cmp1 O ?_ (by with_unfolding_all rfl)
      with_reducible refine WE.call_def O (G2.g42 G) (def42 G).fn ?_ (by with_unfolding_all rfl) (by with_unfolding_all rfl) (by with_unfolding_all rfl) (by with_unfolding_all rfl)
      with_reducible refine WEs.cons O ?_ (by with_unfolding_all rfl)
      with_reducible refine WE.bin O ?_
      with_reducible refine WE.bin O ?_
      with_reducible refine WE.bin O ?_
      with_reducible refine WE.bin O ?_
      with_reducible refine WE.strS (l := [46, 46, 46]) O (by with_unfolding_all rfl) ?_
      with_reducible refine WE.name (by repeat (first | with_reducible exact List.mem_cons_self | with_reducible refine List.mem_cons_of_mem _ ?_)) ?_
      refine WV.add_S O (by simp; omega) ?_
      with_reducible refine WE.strS (l := [46, 46, 46]) O (by with_unfolding_all rfl) ?_
      refine WV.add_S O (by simp; omega) ?_
      with_reducible refine WE.name (by repeat (first | with_reducible exact List.mem_cons_self | with_reducible refine List.mem_cons_of_mem _ ?_)) ?_
      refine WV.add_S O (by simp; omega) ?_
      with_reducible refine WE.strS (l := [46, 46, 46]) O (by with_unfolding_all rfl) ?_
      refine WV.add_S O (by simp; omega) ?_
      with_reducible refine WEs.cons O ?_ (by with_unfolding_all rfl)
      with_reducible refine WE.name (by repeat (first | with_reducible exact List.mem_cons_self | with_reducible refine List.mem_cons_of_mem _ ?_)) ?_
      with_reducible refine WEs.nil ?_
      refine ell_ok G (ao.mono (by decide)) (by simp; omega) (by omega) fun g2 => ?_
      rw [show ([46, 46, 46] : List Nat) = dots from rfl, ell_two nq np, f2]
      with_reducible refine WE.cmp1 O ?_ (by with_unfolding_all rfl)
      with_reducible refine WE.name (by repeat (first | with_reducible exact List.mem_cons_self | with_reducible refine List.mem_cons_of_mem _ ?_)) ?_
      with_reducible refine WE.slice O ?_
      with_reducible refine WE.name (by repeat (first | with_reducible exact List.mem_cons_self | with_reducible refine List.mem_cons_of_mem _ ?_)) ?_
      with_reducible refine WPart.some ?_
      with_reducible refine WE.bin O ?_
      with_reducible refine WE.meth O F.plainAttrs_str F.slot_str_find F.type_str_find ?_ (by with_unfolding_all rfl) ⟨_, by with_unfolding_all rfl⟩
      with_reducible refine WE.name (by repeat (first | with_reducible exact List.mem_cons_self | with_reducible refine List.mem_cons_of_mem _ ?_)) ?_
      with_reducible refine kindStr ?_
      with_reducible refine WEs.cons O ?_ (by with_unfolding_all rfl)
      with_reducible refine WE.name (by repeat (first | with_reducible exact List.mem_cons_self | with_reducible refine List.mem_cons_of_mem _ ?_)) ?_
      with_reducible refine WEs.nil ?_
      refine WC.find O ?_
      rw [show optI (findB x q 0 x.length) = ((i0 : Nat) : Int) by rw [f2]; rfl]
      with_reducible refine WE.name (by repeat (first | with_reducible exact List.mem_cons_self | with_reducible refine List.mem_cons_of_mem _ ?_)) ?_
      with_reducible refine WV.add_nat O (by with_unfolding_all rfl) (by with_unfolding_all rfl) ?_
      with_reducible refine Exists.intro _ (And.intro rfl ?_)
      with_reducible refine WPart.none ?_
      refine ⟨_, _, .str x (by omega), ?_⟩
      rw [cutL_from x (i0 + m) (by omega)]
      with_reducible refine WV.in_str ?_
      with_reducible refine WV.isnot_bool ?_
      with_reducible refine Exists.intro _ (And.intro rfl ?_)
      rw [inB_S, find_shift f3, lq]
      refine iteF (by show ((findB x p (i0 + m) x.length).isSome != (findB x p (i0 + m) x.length).isSome) = false; cases (findB x p (i0 + m) x.length).isSome <;> rfl) (WSs.nil (WSs.nil ⟨fun y hy => ?_, g ++ g1 ++ g2, by simp only [List.append_assoc]⟩))
      simp only [List.mem_cons, List.not_mem_nil, or_false] at hy ⊢
      rcases hy with rfl | rfl <;> simp
    · obtain ⟨hb, g, rfl⟩ := hV
      exact WSs.nil ⟨hb (("rest" : Str), PV.str (S x)) (by simp), g, rfl⟩
  · obtain ⟨hb, g, rfl⟩ := hV
    refine WSs.less (ρ' := [("rest", .str (S x))]) (fun y hy => by rw [List.mem_singleton.mp hy]; exact hb) (by simp) ?_
    refine WSs.cons O ?_
    refine WS.for_ O ?_ (fun _ => (by with_unfolding_all rfl))
    with_reducible refine WE.call_ty O (G2.n_range G) (G2.b_range G) ?_ (by with_unfolding_all rfl) (by with_unfolding_all rfl) (by with_unfolding_all rfl) (by with_unfolding_all rfl)
    with_reducible refine WEs.cons O ?_ (by with_unfolding_all rfl)
    with_reducible refine WE.int O ?_
    with_reducible refine WEs.cons O ?_ (by with_unfolding_all rfl)
    with_reducible refine WE.bin O ?_
    with_reducible refine WE.call_bi O (G2.n_len G) (G2.b_len G) ?_ (by with_unfolding_all rfl) (by with_unfolding_all rfl) (by with_unfolding_all rfl) (by with_unfolding_all rfl)
    with_reducible refine WEs.cons O ?_ (by with_unfolding_all rfl)
    with_reducible refine WE.name (by repeat (first | with_reducible exact List.mem_cons_self | with_reducible refine List.mem_cons_of_mem _ ?_)) ?_
    with_reducible refine WEs.nil ?_
    refine WC.len_str O (by omega) ?_
    with_reducible refine WE.int O ?_
    with_reducible refine WV.add_nat O (by with_unfolding_all rfl) (by with_unfolding_all rfl) ?_
    with_reducible refine WEs.nil ?_
    refine WC.range2 O ?_
    refine loopRng ?_ ?_
    · show -1000000 ≤ (1 : Int) ∧ (1 : Int) ≤ 1000000 ∧ -1000000 ≤ ((x.length + 1 : Nat) : Int) ∧ ((x.length + 1 : Nat) : Int) ≤ 1000000
      omega
    refine WL.inv (fun j ρ m => (("rest" : Str), PV.str (S x)) ∈ ρ ∧ ∃ g, m = μ ++ g) ((List.range (((x.length + 1 : Nat) : Int) - 1).toNat).map fun (k : Nat) => .int (1 + (k : Int))) O ao.h ?_ (fun j ρ m _ => ⟨rfl, fun i e => by cases e⟩) (fun j q ρ m hq hV => ?_) fun ρ m hV => ?_
    · exact ⟨by simp, g, rfl⟩
    · obtain ⟨hb, g, rfl⟩ := hV
      have hj : j < x.length ∧ q = .int ((j + 1 : Nat) : Int) := by
        obtain ⟨h1, h2⟩ := List.getElem?_eq_some_iff.mp hq
        rw [List.length_map, List.length_range] at h1
        refine ⟨by omega, ?_⟩
        rw [← h2, List.getElem_map, List.getElem_range]
        congr 1; omega
      obtain ⟨hj, rfl⟩ := hj
      obtain ⟨m, hm⟩ : ∃ m, m = j + 1 := ⟨_, rfl⟩
      rw [← hm]
      have hm0 : 0 < m := by omega
      have hmx : m ≤ x.length := by omega
      refine WA.less (ρ' := [("rest", .str (S x))]) (fun y hy => by rw [List.mem_singleton.mp hy]; exact hb) (by simp) ?_
      refine WA.name O (by repeat (first | with_reducible exact UpdI.nil | with_reducible exact UpdI.head | (apply UpdI.tail; (· with_unfolding_all decide)))) (.inl rfl) rfl ?_
      refine WSs.cons O ?_
      with_reducible refine WS.assign_name O ?_ (.inl (by with_unfolding_all rfl)) (by with_unfolding_all rfl) (by with_unfolding_all rfl)
      with_reducible refine WE.slice O ?_
      with_reducible refine WE.name (by repeat (first | with_reducible exact List.mem_cons_self | with_reducible refine List.mem_cons_of_mem _ ?_)) ?_
      with_reducible refine WPart.none ?_
      with_reducible refine WPart.some ?_
      with_reducible refine WE.name (by repeat (first | with_reducible exact List.mem_cons_self | with_reducible refine List.mem_cons_of_mem _ ?_)) ?_
      with_reducible refine Exists.intro _ (And.intro rfl ?_)
      refine ⟨_, _, .str x (by omega), ?_⟩
      rw [cutL_to x m (by omega)]
      refine updE (by repeat (first | with_reducible exact UpdI.nil | with_reducible exact UpdI.head | (apply UpdI.tail; (· with_unfolding_all decide)))) ?_
      have nf : noDot (x.take m) := fun b hb => hnd b (List.mem_of_mem_take hb)
      have lf : (x.take m).length = m := by rw [List.length_take]; omega
      have hne : x.take m ≠ [] := fun e => by rw [e] at lf; simp at lf; omega
      have hpre : preB (x.take m) x = true := by unfold preB; rw [lf]; simp
      refine WSs.cons O ?_
      with_reducible refine WS.ite O ?_
      with_reducible refine WB.cmp1 O ?_ (by with_unfolding_all rfl)
      with_reducible refine WE.call_def O (G2.g42 G) (def42 G).fn ?_ (by with_unfolding_all rfl) (by with_unfolding_all rfl) (by with_unfolding_all rfl) (by with_unfolding_all rfl)
      with_reducible refine WEs.cons O ?_ (by with_unfolding_all rfl)
      with_reducible refine WE.bin O ?_
      with_reducible refine WE.bin O ?_
      with_reducible refine WE.name (by repeat (first | with_reducible exact List.mem_cons_self | with_reducible refine List.mem_cons_of_mem _ ?_)) ?_
      with_reducible refine WE.strS (l := [46, 46, 46]) O (by with_unfolding_all rfl) ?_
      refine WV.add_S O (by simp; omega) ?_
      with_reducible refine WE.name (by repeat (first | with_reducible exact List.mem_cons_self | with_reducible refine List.mem_cons_of_mem _ ?_)) ?_
      refine WV.add_S O (by simp; omega) ?_
      with_reducible refine WEs.cons O ?_ (by with_unfolding_all rfl)
      with_reducible refine WE.name (by repeat (first | with_reducible exact List.mem_cons_self | with_reducible refine List.mem_cons_of_mem _ ?_)) ?_
      with_reducible refine WEs.nil ?_
      refine ell_ok G (ao.mono (by decide)) (by simp; omega) (by omega) fun g1 => ?_
      rw [show ([46, 46, 46] : List Nat) = dots from rfl, ell_ends nf nf hne hne, hpre, lf]
      with_reducible refine WE.and O ?_
      with_reducible refine WE.cmp1 O ?_ (by with_unfolding_all rfl)
      with_reducible refine WE.bin O ?_
      with_reducible refine WE.int O ?_
      with_reducible refine WE.name (by repeat (first | with_reducible exact List.mem_cons_self | with_reducible refine List.mem_cons_of_mem _ ?_)) ?_
      with_reducible refine WV.mul_nat O (by with_unfolding_all rfl) (by with_unfolding_all rfl) (by decide) ?_
      with_reducible refine WE.call_bi O (G2.n_len G) (G2.b_len G) ?_ (by with_unfolding_all rfl) (by with_unfolding_all rfl) (by with_unfolding_all rfl) (by with_unfolding_all rfl)
      with_reducible refine WEs.cons O ?_ (by with_unfolding_all rfl)
      with_reducible refine WE.name (by repeat (first | with_reducible exact List.mem_cons_self | with_reducible refine List.mem_cons_of_mem _ ?_)) ?_
      with_reducible refine WEs.nil ?_
      refine WC.len_str O (by omega) ?_
      with_reducible refine WV.le_int ?_
      refine ⟨_, .bool _, ?_⟩
      have hsf : sufB (x.take m) x = (x.drop (x.length - m) == x.take m) := by
        unfold sufB
        rw [lf, decide_eq_true (by omega), Bool.true_and]
      have fin : ∀ ρ : Rho, (("rest" : Str), PV.str (S x)) ∈ ρ → (("rest" : Str), PV.str (S x)) ∈ ρ ∧ ∃ g', μ ++ g ++ g1 = μ ++ g' := fun ρ h => ⟨h, g ++ g1, by rw [List.append_assoc]⟩
      by_cases h2 : 2 * m ≤ x.length
      · have hdd : decide (((2 * m : Nat) : Int) ≤ ((x.length : Nat) : Int)) = true := decide_eq_true (by omega)
        refine iteT hdd ?_
        with_reducible refine WE.bool_one ?_
        with_reducible refine WE.cmp1 O ?_ (by with_unfolding_all rfl)
        with_reducible refine WE.slice O ?_
        with_reducible refine WE.name (by repeat (first | with_reducible exact List.mem_cons_self | with_reducible refine List.mem_cons_of_mem _ ?_)) ?_
        with_reducible refine WPart.some ?_
        with_reducible refine WE.bin O ?_
        with_reducible refine WE.call_bi O (G2.n_len G) (G2.b_len G) ?_ (by with_unfolding_all rfl) (by with_unfolding_all rfl) (by with_unfolding_all rfl) (by with_unfolding_all rfl)
        with_reducible refine WEs.cons O ?_ (by with_unfolding_all rfl)
        with_reducible refine WE.name (by repeat (first | with_reducible exact List.mem_cons_self | with_reducible refine List.mem_cons_of_mem _ ?_)) ?_
        with_reducible refine WEs.nil ?_
        refine WC.len_str O (by omega) ?_
        with_reducible refine WE.name (by repeat (first | with_reducible exact List.mem_cons_self | with_reducible refine List.mem_cons_of_mem _ ?_)) ?_
        with_reducible refine WV.sub_int O ?_
        with_reducible refine Exists.intro _ (And.intro rfl ?_)
        with_reducible refine WPart.none ?_
        rw [show ((x.length : Nat) : Int) - ((m : Nat) : Int) = ((x.length - m : Nat) : Int) by omega]
        refine ⟨_, _, .str x (by omega), ?_⟩
        rw [cutL_from x (x.length - m) (by omega)]
        with_reducible refine WE.name (by repeat (first | with_reducible exact List.mem_cons_self | with_reducible refine List.mem_cons_of_mem _ ?_)) ?_
        with_reducible refine WV.eq_str ?_
        with_reducible refine WV.isnot_bool ?_
        with_reducible refine Exists.intro _ (And.intro rfl ?_)
        rw [S_beq, hsf, decide_eq_true (show m + m ≤ x.length by omega)]
        refine iteF (by cases (x.drop (x.length - m) == x.take m) <;> rfl) (WSs.nil (WSs.nil (fin _ ?_)))
        simp
      · have hdd : decide (((2 * m : Nat) : Int) ≤ ((x.length : Nat) : Int)) = false := decide_eq_false (by omega)
        refine iteF hdd ?_
        with_reducible refine WV.isnot_bool ?_
        with_reducible refine Exists.intro _ (And.intro rfl ?_)
        rw [decide_eq_false (show ¬ m + m ≤ x.length by omega)]
        refine iteF ?_ (WSs.nil (WSs.nil (fin _ ?_)))
        · have : decide (((2 * m : Nat) : Int) ≤ ((x.length : Nat) : Int)) = false := decide_eq_false (by omega)
          rw [show decide (((2 * m : Nat) : Int) ≤ ((x.length : Nat) : Int)) = false from this]
          simp
        · simp
    · obtain ⟨hb, g, rfl⟩ := hV
      refine WSs.cons O ?_
      refine WS.ret O ?_
      refine WE.bool ?_
      exact hK _ ⟨g, rfl⟩
end
end Mine
namespace Mine
noncomputable section
theorem def160 {w : World} {c : Cx} (G : G2 w c) : DefOk c 160 (fd2 w 160) (bodyOf (fd2 w 160)) ["script"] where
  fn := ⟨⟨_, (G.here (a := 160) rfl).1, rfl⟩, (G.here (a := 160) rfl).2⟩
  code := ⟨159, _, _, _, rfl, (G.here (a := 159) rfl).1, (G.here (a := 159) rfl).2, rfl, rfl⟩
  body := rfl
  bind := fun s vs k h => by
    obtain ⟨a, rfl⟩ := len1 h
    exact BindsTo.of_eq (by kernel_rfl)
  nd := by decide
  dbg := fun x hx => by rw [List.mem_singleton.mp hx]; decide
  clo := rfl
  glo := rfl
  bi := rfl
  co := rfl
  gen := rfl
  kind := rfl

variable {w : World} {c : Cx} {A : Around} {μ : Mu}
def spare : List Int := [13, 3, 29, 40, 45, 7, 61, 0, 50, 15, 70, 2]
def givenI (sc : List Int) : List Int := sc.take 12 ++ spare.drop (sc.take 12).length
def givenN (sc : List Int) : List Nat := (givenI sc).map fun x => (x % 1000000).toNat
theorem given_len (sc : List Int) : (givenI sc).length = 12 := by
  unfold givenI
  rw [List.length_append, List.length_drop]
  have h1 : (sc.take 12).length ≤ 12 := by rw [List.length_take]; omega
  have h2 : spare.length = 12 := rfl
  omega
theorem given_le (sc : List Int) : ∀ x ∈ givenN sc, x ≤ 1000000 := by
  intro x hx
  obtain ⟨y, _, rfl⟩ := List.mem_map.mp hx
  omega
theorem sum_nat : ∀ l : List Nat, (l.map fun x => ((x : Nat) : Int)).sum = ((l.sum : Nat) : Int)
  | [] => rfl
  | x :: r => by rw [List.map_cons, List.sum_cons, sum_nat r, List.sum_cons]; omega
theorem sum_bound : ∀ l : List Nat, (∀ x ∈ l, x ≤ 1000000) → l.sum ≤ l.length * 1000000
  | [], _ => by simp
  | x :: r, h => by
    have h1 := h x List.mem_cons_self
    have h2 := sum_bound r fun y hy => h y (List.mem_cons_of_mem _ hy)
    rw [List.sum_cons, List.length_cons, Nat.succ_mul]; omega
def paintP (sc : List Int) : List Nat := (givenN sc).map fun x => litP (x % 3)
theorem paint_len (sc : List Int) : (paintP sc).length = 12 := by unfold paintP givenN; rw [List.length_map, List.length_map, given_len]
theorem paint_abo (sc : List Int) : ∀ a ∈ paintP sc, a ∈ abo := by
  intro a ha
  obtain ⟨x, _, rfl⟩ := List.mem_map.mp ha
  unfold litP abo
  split
  · simp
  · split <;> simp
theorem law_body (G : G2 w c) {sc : List Int} {l : Addr} {vs : List Value} (hB : ∃ ob n, c.hB.get? l = some ob ∧ ob.cls = .type "list" ∧ ob.data = .seq vs.toArray n) (hX : l ∉ c.X) (hI : IntsAre vs sc) (hs : sc.length ≤ 63) (L : Addr) (A : Around) (ao : AOk 20 A) :
    WSs c A (bodyOf (fd2 w 160)) (callEnvC (fd2 w 160) L 160) [("script", .ext l)] [] (retK fun p _ => p = .bool true) := by
  have O := G.ok
  have hsl : ∀ μ : Mu, ∀ {p1 p2 p3 p4 : Pos} {K : PV → Mu → Prop}, K (.loc μ.length) (μ ++ [.lst ((sc.take 12).map .int)]) → WE c A (.Subscript (.Name "script" p1) (.Slice .none (some (.Constant (.int 12) 0 p2)) .none p3) p4) (callEnvC (fd2 w 160) L 160) [("script", .ext l)] μ K := fun μ {p1 p2 p3 p4 K} hk => by
    refine WE.slice_ext O ?_
    with_reducible refine WE.name (by repeat (first | with_reducible exact List.mem_cons_self | with_reducible refine List.mem_cons_of_mem _ ?_)) ?_
    with_reducible refine WPart.none ?_
    with_reducible refine WPart.some ?_
    with_reducible refine WE.int O ?_
    with_reducible refine Exists.intro _ (And.intro rfl ?_)
    refine ⟨l, vs, sc.map .int, rfl, hB, hX, fun h ι => RepL.intsOf hI, by rw [List.length_map]; omega, ?_⟩
    rw [show cutL (sc.map PV.int) none (some (12 : Int)) = (sc.take 12).map PV.int by
      unfold cutL; simp only [Option.elim, List.drop_zero, Nat.sub_zero]
      rw [List.length_map]
      have : clipAt sc.length 12 = min 12 sc.length := by unfold clipAt; rw [if_neg (by omega)]; omega
      rw [this, ← List.map_take]
      congr 1
      by_cases h : sc.length ≤ 12
      · rw [Nat.min_eq_right h, List.take_length, List.take_of_length_le h]
      · rw [Nat.min_eq_left (by omega)]]
    exact hk
  refine WSs.cons O ?_
  refine WS.assign_comp O (CompOk.plain (by with_unfolding_all rfl) rfl rfl (noCell rfl) (fun C => rfl)) ?_ (fun _ => (by with_unfolding_all rfl)) rfl rfl (by with_unfolding_all rfl)
  refine WE.bin O ?_
  refine hsl _ ?_
  with_reducible refine WE.slice O ?_
  with_reducible refine WE.list O ?_
  with_reducible refine WEs.cons O ?_ (by with_unfolding_all rfl)
  with_reducible refine WE.int O ?_
  with_reducible refine WEs.cons O ?_ (by with_unfolding_all rfl)
  with_reducible refine WE.int O ?_
  with_reducible refine WEs.cons O ?_ (by with_unfolding_all rfl)
  with_reducible refine WE.int O ?_
  with_reducible refine WEs.cons O ?_ (by with_unfolding_all rfl)
  with_reducible refine WE.int O ?_
  with_reducible refine WEs.cons O ?_ (by with_unfolding_all rfl)
  with_reducible refine WE.int O ?_
  with_reducible refine WEs.cons O ?_ (by with_unfolding_all rfl)
  with_reducible refine WE.int O ?_
  with_reducible refine WEs.cons O ?_ (by with_unfolding_all rfl)
  with_reducible refine WE.int O ?_
  with_reducible refine WEs.cons O ?_ (by with_unfolding_all rfl)
  with_reducible refine WE.int O ?_
  with_reducible refine WEs.cons O ?_ (by with_unfolding_all rfl)
  with_reducible refine WE.int O ?_
  with_reducible refine WEs.cons O ?_ (by with_unfolding_all rfl)
  with_reducible refine WE.int O ?_
  with_reducible refine WEs.cons O ?_ (by with_unfolding_all rfl)
  with_reducible refine WE.int O ?_
  with_reducible refine WEs.cons O ?_ (by with_unfolding_all rfl)
  with_reducible refine WE.int O ?_
  with_reducible refine WEs.nil ?_
  refine ⟨by simp, ?_⟩
  refine WPart.some ?_
  refine WE.call_bi O (G2.n_len G) (G2.b_len G) ?_ (by with_unfolding_all rfl) (by with_unfolding_all rfl) (by with_unfolding_all rfl) (by with_unfolding_all rfl)
  refine WEs.cons O (hsl _ (WEs.nil ?_)) (by with_unfolding_all rfl)
  have htk : (sc.take 12).length ≤ 12 := by rw [List.length_take]; omega
  refine WC.len_lst (ps := (sc.take 12).map .int) O (by simp) (by rw [List.length_map]; omega) ?_
  rw [List.length_map]
  with_reducible refine Exists.intro _ (And.intro rfl ?_)
  with_reducible refine WPart.none ?_
  refine ⟨_, _, .lst 1 (spare.map .int) (by simp [spare]) (by simp [spare]), ?_⟩
  rw [cutL_from _ _ (by rw [List.length_map]; show _ ≤ 12; exact htk)]
  refine WV.add_lst (ps := (sc.take 12).map .int) (qs := (spare.map PV.int).drop (sc.take 12).length) O (by simp) (by simp) (by simp [spare]; omega) ?_
  rw [← List.map_drop, ← List.map_append]
  refine loopLst (ps := (givenI sc).map .int) (at_end ..) ?_
  intro C
  refine WCL.fmap (fun q => match q with | .int x => some (.int (((x % 1000000).toNat : Nat) : Int)) | _ => none) ((givenI sc).map .int) O ao.h (by simp [itemsOf, givenI]) (fun i h => by cases h; exact ⟨(givenI sc).map .int, at_end ..⟩) (by rw [List.length_map, given_len]; omega) (fun q hq g => ?_) ?_
  · obtain ⟨x, _, rfl⟩ := List.mem_map.mp hq
    refine WAL.name O (by repeat (first | with_reducible exact UpdI.nil | with_reducible exact UpdI.head | (apply UpdI.tail; (· with_unfolding_all decide)))) rfl rfl ⟨(fun y hy => by cases hy), WIfs.nil ⟨rfl, rfl, fun _ => ?_⟩⟩
    with_reducible refine WE.bin O ?_
    with_reducible refine WE.name (by repeat (first | with_reducible exact List.mem_cons_self | with_reducible refine List.mem_cons_of_mem _ ?_)) ?_
    with_reducible refine WE.bin O ?_
    with_reducible refine WE.int O ?_
    with_reducible refine WE.int O ?_
    with_reducible refine WV.pow_nat O (by with_unfolding_all rfl) (by with_unfolding_all rfl) (by decide) ?_
    refine WV.mod_int O (by show ((10 ^ 6 : Nat) : Int) ≠ 0; decide) ?_
    refine ⟨rfl, ?_⟩
    have e : x.fmod ((10 ^ 6 : Nat) : Int) = (((x % 1000000).toNat : Nat) : Int) := by
      rw [Int.fmod_eq_emod_of_nonneg _ (by decide)]
      have : ((10 ^ 6 : Nat) : Int) = 1000000 := by decide
      rw [this]
      omega
    show some (PV.int (((x % 1000000).toNat : Nat) : Int)) = some (PV.int (x.fmod ((10 ^ 6 : Nat) : Int)))
    rw [e]
  have eg : ((givenI sc).map PV.int).filterMap (fun q => match q with | .int x => some (.int (((x % 1000000).toNat : Nat) : Int)) | _ => none) = (givenN sc).map fun x => PV.int ((x : Nat) : Int) := by
    unfold givenN
    rw [List.filterMap_map, List.map_map, ← List.filterMap_eq_map]
    rfl
  rw [eg]
  have hgl : (givenN sc).length = 12 := by unfold givenN; rw [List.length_map, given_len]
  have hgb := given_le sc
  generalize ([] ++ [MO.lst ((sc.take 12).map PV.int)] ++ [MO.lst [PV.int 13, PV.int 3, PV.int 29, PV.int 40, PV.int 45, PV.int 7, PV.int 61, PV.int 0, PV.int 50, PV.int 15, PV.int 70, PV.int 2]] ++ [MO.lst ((sc.take 12).map PV.int)] ++ [MO.lst ((spare.drop (sc.take 12).length).map PV.int)] ++ [MO.lst ((sc.take 12 ++ spare.drop (sc.take 12).length).map PV.int)] : Mu) = pre
  have hpl := paint_len sc
  have hpa := paint_abo sc
  have hpe : paintP sc = (givenN sc).map fun x => litP (x % 3) := rfl
  generalize givenN sc = gv at *
  generalize paintP sc = pt at *
  refine updE (by repeat (first | with_reducible exact UpdI.nil | with_reducible exact UpdI.head | (apply UpdI.tail; (· with_unfolding_all decide)))) ?_
  with_reducible refine WSs.cons O ?_
  with_reducible refine WS.assign_name O ?_ (.inr ⟨by with_unfolding_all rfl, by with_unfolding_all rfl⟩) (by with_unfolding_all rfl) (by with_unfolding_all rfl)
  with_reducible refine WE.call_bi O (G2.n_sum G) (G2.b_sum G) ?_ (by with_unfolding_all rfl) (by with_unfolding_all rfl) (by with_unfolding_all rfl) (by with_unfolding_all rfl)
  with_reducible refine WEs.cons O ?_ (by with_unfolding_all rfl)
  with_reducible refine WE.name (by repeat (first | with_reducible exact List.mem_cons_self | with_reducible refine List.mem_cons_of_mem _ ?_)) ?_
  with_reducible refine WEs.nil ?_
  have hmm : (gv.map fun x => PV.int ((x : Nat) : Int)) = (gv.map fun x => ((x : Nat) : Int)).map PV.int := by rw [List.map_map]; rfl
  refine WC.suml (is := gv.map fun x => ((x : Nat) : Int)) O ao.h (by rw [← hmm]; exact at_end ..) (fun n hn => ?_) (fun x hx => ?_) ?_
  · rw [← List.map_take, sum_nat]
    have h1 := sum_bound (gv.take n) fun x hx => hgb x (List.mem_of_mem_take hx)
    have h2 : (gv.take n).length ≤ 12 := by rw [List.length_take]; omega
    omega
  · obtain ⟨y, hy, rfl⟩ := List.mem_map.mp hx
    have := hgb y hy
    omega
  rw [sum_nat]
  generalize gv.sum = N
  with_reducible refine updE (by repeat (first | with_reducible exact UpdI.nil | with_reducible exact UpdI.head | (apply UpdI.tail; (· with_unfolding_all decide)))) ?_
  with_reducible refine WSs.cons O ?_
  with_reducible refine WS.assign_name O ?_ (.inl (by with_unfolding_all rfl)) (by with_unfolding_all rfl) (by with_unfolding_all rfl)
  with_reducible refine WE.meth O F.plainAttrs_str F.slot_str_join F.type_str_join ?_ (by with_unfolding_all rfl) ⟨_, by with_unfolding_all rfl⟩
  with_reducible refine WE.strS (l := []) O (by with_unfolding_all rfl) ?_
  with_reducible refine kindStr ?_
  with_reducible refine WEs.cons O ?_ (by with_unfolding_all rfl)
  refine WE.comp O (CompOk.one (x := "amount") (cc := L + 1) (by with_unfolding_all rfl) rfl rfl (noCell rfl) (fun C => rfl) rfl (fun C => rfl) (.inl rfl) (by repeat (first | with_reducible exact List.mem_cons_self | with_reducible refine List.mem_cons_of_mem _ ?_))) ?_ (fun _ => (by with_unfolding_all rfl))
  refine WE.name (by repeat (first | with_reducible exact List.mem_cons_self | with_reducible refine List.mem_cons_of_mem _ ?_)) ?_
  refine loopLst (at_end ..) ?_
  intro C
  obtain ⟨μ1, hμ1⟩ : ∃ m, m = pre ++ [MO.lst (gv.map fun x => PV.int ((x : Nat) : Int))] := ⟨_, rfl⟩
  have hgi : μ1[pre.length]? = some (.lst (gv.map fun x => PV.int ((x : Nat) : Int))) := by rw [hμ1]; exact at_end ..
  rw [← hμ1]
  refine WCL.inv (fun j m => ∃ g, m = μ1 ++ (MO.lst ((pt.take j).map fun a => PV.str (S [a])) :: g)) (gv.map fun x => PV.int ((x : Nat) : Int)) O ao.h ⟨[], by simp⟩ (fun j m hV => ?_) (fun j q m hq hV => ?_) fun m hV => ?_
  · obtain ⟨g, rfl⟩ := hV
    have : (μ1 ++ (MO.lst ((pt.take j).map fun a => PV.str (S [a])) :: g))[pre.length]? = some (.lst (gv.map fun x => PV.int ((x : Nat) : Int))) := getElem?_ext hgi _
    exact ⟨by simp only [itemsOf]; rw [this], fun i h => by cases h; exact ⟨_, this⟩⟩
  · obtain ⟨g, rfl⟩ := hV
    rw [List.getElem?_map] at hq
    cases hj : gv[j]? with
    | none => rw [hj] at hq; cases hq
    | some y =>
    rw [hj] at hq
    have hq' : q = .int ((y : Nat) : Int) := (Option.some.inj hq).symm
    subst hq'
    have hy := hgb y (List.mem_of_getElem? hj)
    refine WAL.name (ρ' := [("amount", .int (N : Nat)), ("x", .int (y : Nat))]) O (by repeat (first | with_reducible exact UpdI.nil | with_reducible exact UpdI.head | (apply UpdI.tail; (· with_unfolding_all decide)))) rfl rfl ⟨fun z hz => by rw [List.mem_singleton.mp hz]; exact List.mem_cons_self, ?_⟩
    refine WIfs.nil (iteT rfl ?_)
    with_reducible refine WE.call_def O (G2.g131 G) (def131 G).fn ?_ (by with_unfolding_all rfl) (by with_unfolding_all rfl) (by with_unfolding_all rfl) (by with_unfolding_all rfl)
    with_reducible refine WEs.cons O ?_ (by with_unfolding_all rfl)
    with_reducible refine WE.name (by repeat (first | with_reducible exact List.mem_cons_self | with_reducible refine List.mem_cons_of_mem _ ?_)) ?_
    with_reducible refine WEs.cons O ?_ (by with_unfolding_all rfl)
    with_reducible refine WE.bin O ?_
    with_reducible refine WE.name (by repeat (first | with_reducible exact List.mem_cons_self | with_reducible refine List.mem_cons_of_mem _ ?_)) ?_
    with_reducible refine WE.int O ?_
    with_reducible refine WV.mod_nat O (by with_unfolding_all rfl) (by with_unfolding_all rfl) (by decide) ?_
    with_reducible refine WEs.nil ?_
    refine light_ok G (ao.mono (by decide)) hy (Nat.mod_lt _ (by decide)) fun g2 => ?_
    rw [List.append_assoc]
    refine ⟨_, at_end .., by simp; omega, g ++ g2, ?_⟩
    rw [List.cons_append, set_end]
    have hpj : pt[j]? = some (litP (y % 3)) := by rw [hpe, List.getElem?_map, hj]; rfl
    rw [List.take_add_one, hpj, List.map_append]
    rfl
  obtain ⟨g, rfl⟩ := hV
  rw [List.length_map, hgl, List.take_of_length_le (by omega)]
  with_reducible refine WEs.nil ?_
  refine WC.join (sep := []) (l := pt.map fun a => [a]) O (by rw [List.map_map]; exact at_end ..) (by
    have := sum_le ((pt.map fun a => [a]).map (·.length)) 1 (fun x hx => by rw [List.map_map] at hx; obtain ⟨a, _, rfl⟩ := List.mem_map.mp hx; exact Nat.le_refl _)
    simp only [List.length_map, List.length_nil] at this ⊢
    omega) ?_
  rw [joinNil, show (pt.map fun a => [a]).flatten = pt by
    clear hpe hpl hpa
    induction pt with
    | nil => rfl
    | cons a r ih => rw [List.map_cons, List.flatten_cons, ih]; rfl]
  with_reducible refine updE (by repeat (first | with_reducible exact UpdI.nil | with_reducible exact UpdI.head | (apply UpdI.tail; (· with_unfolding_all decide)))) ?_
  with_reducible refine WSs.cons O ?_
  with_reducible refine WS.ite O ?_
  with_reducible refine WB.cmp1 O ?_ (by with_unfolding_all rfl)
  with_reducible refine WE.call_bi O (G2.n_len G) (G2.b_len G) ?_ (by with_unfolding_all rfl) (by with_unfolding_all rfl) (by with_unfolding_all rfl) (by with_unfolding_all rfl)
  with_reducible refine WEs.cons O ?_ (by with_unfolding_all rfl)
  with_reducible refine WE.name (by repeat (first | with_reducible exact List.mem_cons_self | with_reducible refine List.mem_cons_of_mem _ ?_)) ?_
  with_reducible refine WEs.nil ?_
  refine WC.len_str O (by omega) ?_
  with_reducible refine WE.int O ?_
  with_reducible refine WV.ne_int ?_
  with_reducible refine Exists.intro _ (And.intro rfl ?_)
  refine iteF (by rw [hpl]; rfl) (WSs.nil ?_)
  refine WSs.cons O ?_
  with_reducible refine WS.assign_tup O ?_ (by with_unfolding_all rfl) (by with_unfolding_all rfl)
  with_reducible refine WE.call_def O (G2.g136 G) (def136 G).fn ?_ (by with_unfolding_all rfl) (by with_unfolding_all rfl) (by with_unfolding_all rfl) (by with_unfolding_all rfl)
  with_reducible refine WEs.cons O ?_ (by with_unfolding_all rfl)
  with_reducible refine WE.name (by repeat (first | with_reducible exact List.mem_cons_self | with_reducible refine List.mem_cons_of_mem _ ?_)) ?_
  with_reducible refine WEs.cons O ?_ (by with_unfolding_all rfl)
  with_reducible refine WE.bin O ?_
  with_reducible refine WE.bin O ?_
  with_reducible refine WE.name (by repeat (first | with_reducible exact List.mem_cons_self | with_reducible refine List.mem_cons_of_mem _ ?_)) ?_
  with_reducible refine WE.int O ?_
  with_reducible refine WV.div_nat O (by with_unfolding_all rfl) (by with_unfolding_all rfl) (by decide) ?_
  with_reducible refine WE.int O ?_
  with_reducible refine WV.mod_nat O (by with_unfolding_all rfl) (by with_unfolding_all rfl) (by decide) ?_
  with_reducible refine WEs.nil ?_
  refine run_ok G (ao.mono (by decide)) hpa (by omega) (fun e => by rw [e] at hpl; simp at hpl) (Nat.le_trans (Nat.le_of_lt (Nat.mod_lt _ (by decide))) (by decide)) fun kept lg m iB hrun hmg hmb => ?_
  refine WA.tuple O ao.h (by with_unfolding_all rfl) (by with_unfolding_all rfl) ?_
  refine WAs.cons O (WA.name O (by repeat (first | with_reducible exact UpdI.nil | with_reducible exact UpdI.head | (apply UpdI.tail; (· with_unfolding_all decide)))) (.inl rfl) rfl ?_)
  refine WAs.cons O (WA.name O (by repeat (first | with_reducible exact UpdI.nil | with_reducible exact UpdI.head | (apply UpdI.tail; (· with_unfolding_all decide)))) (.inl rfl) rfl (WAs.nil ?_))
  have hf := hrun.facts sqf_nil
  have hkl : kept.length ≤ 12 := by have := hf.2.2.1; simp at this; omega
  have hka : ∀ a ∈ kept, a ∈ abo := fun a ha => by
    rcases hf.2.2.2.1 a ha with q | q
    · cases q
    · exact hpa a q
  have hcode : code kept = code pt := by
    unfold code
    rw [← hf.2.2.2.2 [] rfl]; rfl
  have hkd : noDot kept := fun a ha e => by
    have := hka a ha
    rw [e] at this
    exact absurd this (by decide)
  refine WSs.cons O ?_
  with_reducible refine WS.ite O ?_
  with_reducible refine WB.boolop ?_
  with_reducible refine WAll.or O ?_
  with_reducible refine WB.cmp1 O ?_ (by with_unfolding_all rfl)
  with_reducible refine WE.call_def O (G2.g148 G) (def148 G).fn ?_ (by with_unfolding_all rfl) (by with_unfolding_all rfl) (by with_unfolding_all rfl) (by with_unfolding_all rfl)
  with_reducible refine WEs.cons O ?_ (by with_unfolding_all rfl)
  with_reducible refine WE.name (by repeat (first | with_reducible exact List.mem_cons_self | with_reducible refine List.mem_cons_of_mem _ ?_)) ?_
  with_reducible refine WEs.nil ?_
  refine code_ok G 12 kept A _ _ hkl (by omega) (ao.mono (by decide)) hka fun g1 => ?_
  with_reducible refine WE.call_def O (G2.g148 G) (def148 G).fn ?_ (by with_unfolding_all rfl) (by with_unfolding_all rfl) (by with_unfolding_all rfl) (by with_unfolding_all rfl)
  with_reducible refine WEs.cons O ?_ (by with_unfolding_all rfl)
  with_reducible refine WE.name (by repeat (first | with_reducible exact List.mem_cons_self | with_reducible refine List.mem_cons_of_mem _ ?_)) ?_
  with_reducible refine WEs.nil ?_
  refine code_ok G 12 pt A _ _ (by omega) (by omega) (ao.mono (by decide)) hpa fun g2 => ?_
  with_reducible refine WV.ne_str ?_
  with_reducible refine Exists.intro _ (And.intro rfl ?_)
  refine iteF (by rw [hcode]; simp) ?_
  with_reducible refine WAll.or O ?_
  with_reducible refine WB.cmp1 O ?_ (by with_unfolding_all rfl)
  with_reducible refine WE.call_def O (G2.g143 G) (def143 G).fn ?_ (by with_unfolding_all rfl) (by with_unfolding_all rfl) (by with_unfolding_all rfl) (by with_unfolding_all rfl)
  with_reducible refine WEs.cons O ?_ (by with_unfolding_all rfl)
  with_reducible refine WE.name (by repeat (first | with_reducible exact List.mem_cons_self | with_reducible refine List.mem_cons_of_mem _ ?_)) ?_
  with_reducible refine WEs.cons O ?_ (by with_unfolding_all rfl)
  with_reducible refine WE.name (by repeat (first | with_reducible exact List.mem_cons_self | with_reducible refine List.mem_cons_of_mem _ ?_)) ?_
  with_reducible refine WEs.nil ?_
  refine back_ok G (ao.mono (by decide)) (hrun.back sqf_nil) hkl (by rw [hf.2.1]; omega) (fun s hs => by have := hrun.sizes sqf_nil s hs; simp at this; omega) (getElem?_ext (getElem?_ext hmb _) _) fun m2 hm2 => ?_
  with_reducible refine WE.tuple O ?_
  with_reducible refine WEs.cons O ?_ (by with_unfolding_all rfl)
  with_reducible refine WE.name (by repeat (first | with_reducible exact List.mem_cons_self | with_reducible refine List.mem_cons_of_mem _ ?_)) ?_
  with_reducible refine WEs.cons O ?_ (by with_unfolding_all rfl)
  with_reducible refine WE.tuple O ?_
  with_reducible refine WEs.cons O ?_ (by with_unfolding_all rfl)
  with_reducible refine WE.strS (l := []) O (by with_unfolding_all rfl) ?_
  with_reducible refine WEs.cons O ?_ (by with_unfolding_all rfl)
  with_reducible refine WE.strS (l := []) O (by with_unfolding_all rfl) ?_
  with_reducible refine WEs.nil ?_
  refine ⟨by simp, ?_⟩
  with_reducible refine WEs.cons O ?_ (by with_unfolding_all rfl)
  with_reducible refine WE.int O ?_
  with_reducible refine WEs.nil ?_
  refine ⟨by simp, ?_⟩
  refine WV.ne_tup (b := true) O (ao.mono (by decide)) ?_ ?_
  · have e0 : (Str.ofString "" == S []) = true := by rfl
    simp only [eqPs, eqP, e0, beq_self_eq_true]
    rfl
  with_reducible refine Exists.intro _ (And.intro rfl ?_)
  refine iteF rfl ?_
  with_reducible refine WAll.or_nil ?_
  refine iteF rfl (WSs.nil ?_)
  refine WSs.cons O ?_
  with_reducible refine WS.ret O ?_
  with_reducible refine WE.call_def O (G2.g155 G) (def155 G).fn ?_ (by with_unfolding_all rfl) (by with_unfolding_all rfl) (by with_unfolding_all rfl) (by with_unfolding_all rfl)
  with_reducible refine WEs.cons O ?_ (by with_unfolding_all rfl)
  with_reducible refine WE.name (by repeat (first | with_reducible exact List.mem_cons_self | with_reducible refine List.mem_cons_of_mem _ ?_)) ?_
  with_reducible refine WEs.nil ?_
  refine single_ok G (ao.mono (by decide)) hf.1 hkd hkl fun m3 hm3 => ?_
  rfl
end
end Mine
namespace Mine
/-- a code and its table -/
def tabOk (cc P : Addr) (h : Heap) : Prop := ∃ ps, h.IsCode cc P ps ∧ h.TableAt cc P ps
def tabsT (h : Heap) : Prop := tabOk 88 84 h ∧ tabOk 95 91 h
theorem tabOk.keep {cc P : Addr} {h h' : Heap} (x : tabOk cc P h) (k : ∀ b o, h.get? b = some o → (o.cls = .none ∨ o.cls = .type "code") → (∃ vs, o.data = .fields vs) → h'.get? b = some o) : tabOk cc P h' := by
  obtain ⟨ps, ⟨o, vs, file, tf, flags, tg, inF, text, tt, op, a, r1, r2, r3, r4, r5, r6, b, r7, r⟩, ⟨o', vs', e', hc, hd, r'⟩, t⟩ := x
  have e : o = o' := by rw [a] at e'; exact Option.some.inj e'
  subst e
  have a' := k _ _ a (.inr hc) ⟨_, hd⟩
  have t' := k _ _ t (.inl rfl) ⟨_, rfl⟩
  have e2 : op = { cls := .none, data := .fields ps } := by rw [b] at t; exact Option.some.inj t
  subst e2
  exact ⟨ps, ⟨o, vs, file, tf, flags, tg, inF, text, tt, _, a', r1, r2, r3, r4, r5, r6, t', r7, r⟩, ⟨o, vs', a', hc, hd, r'⟩, t'⟩
theorem tabOk.ext {cc P Q : Addr} {h h' : Heap} (x : tabOk cc P h) (k : Heap.ExtBut Q h h') (h1 : cc ≠ Q) (h2 : P ≠ Q) : tabOk cc P h' := by
  obtain ⟨ps, a, b⟩ := x
  exact ⟨ps, a.extBut k h1 h2, b.extBut k h1 h2⟩
def cxOf (w : World) (s : Shared) (mg mb : Str → Option Value) : Cx := { prog := PySem.Challenge.rw_to0009_02.row.prog, w := w, hB := s.heap, os := s.os, X := [84, 91], C := 122, mg := mg, mb := mb, T := tabsT }
section
variable {p : Program} {loose : List Str} {mean : ExcName → Option Value} {mg mb : Str → Option Value} {w : World} {s : Shared}
theorem in_tail (KX : (heapT w.params).In s.heap) : (H2 w).In s.heap := fun a o e => KX a o (by
  by_cases h1 : a = 84
  · subst h1
    have : (H2 w).lookup 84 = none := by kernel_rfl
    rw [this] at e; cases e
  · by_cases h2 : a = 91
    · subst h2
      have : (H2 w).lookup 91 = none := by kernel_rfl
      rw [this] at e; cases e
    · show List.lookup a ((84, tabNil) :: (91, tabNil) :: H2 w) = some o
      rw [List.lookup_cons, List.lookup_cons]
      have b1 : (a == 84) = false := by simpa using h1
      have b2 : (a == 91) = false := by simpa using h2
      rw [b1, b2]; exact e)
theorem tabs_at (KX : (heapT w.params).In s.heap) : tabsT s.heap := by
  have K := in_tail KX
  refine ⟨⟨#[], ⟨_, _, _, _, _, _, _, _, _, _, K 88 _ rfl, rfl, rfl, rfl, rfl, rfl, rfl, KX 84 _ rfl, rfl, trivial, by decide⟩, ⟨_, _, K 88 _ rfl, rfl, rfl, rfl⟩, KX 84 _ rfl⟩,
    ⟨#[], ⟨_, _, _, _, _, _, _, _, _, _, K 95 _ rfl, rfl, rfl, rfl, rfl, rfl, rfl, KX 91 _ rfl, rfl, trivial, by decide⟩, ⟨_, _, K 95 _ rfl, rfl, rfl, rfl⟩, KX 91 _ rfl⟩⟩
theorem mg_is (KX : (heapT w.params).In s.heap) (T : Top p loose mean mg mb s.heap) : mg = mg2 w := by
  have K := in_tail KX
  obtain ⟨o, es, ep, e, hd, hk, hf⟩ := T.g
  have e2 : s.heap.get? mainGlobals = some _ := K 3 _ rfl
  rw [e2] at e; cases e
  cases hd
  funext x
  exact (hf x).symm
theorem ok_of (KX : (heapT w.params).In s.heap) (T : Top p loose mean mg mb s.heap) : (cxOf w s mg mb).Ok where
  lim := T.nolimit
  g := T.g
  b := T.b
  nb := by
    have K := in_tail KX
    obtain ⟨mc, ⟨o, es, ep, e, hd, hk, hf⟩, _⟩ := T.nodigits
    have e2 : s.heap.get? cStatics = some _ := K cStatics _ rfl
    have e' := e
    rw [e2] at e; cases e
    cases hd
    refine ⟨mc, ⟨_, _, _, e', rfl, hk, hf⟩, ?_⟩
    rw [← hf]
    kernel_rfl
  sX := ⟨by show cStatics ∉ [84, 91]; decide, by show mainGlobals ∉ [84, 91]; decide, by show builtinsNs ∉ [84, 91]; decide⟩
  tX := fun h ht a ha => by
    rcases List.mem_cons.mp ha with rfl | ha
    · obtain ⟨ps, _, _, t⟩ := ht.1; exact ⟨_, t⟩
    · rw [List.mem_singleton.mp ha]
      obtain ⟨ps, _, _, t⟩ := ht.2; exact ⟨_, t⟩
  tk := fun h h' ht k => ⟨ht.1.keep k, ht.2.keep k⟩
theorem g2_of (KX : (heapT w.params).In s.heap) (T : Top p loose mean mg mb s.heap) : G2 w (cxOf w s mg mb) where
  ok := ok_of KX T
  K := in_tail KX
  X := fun a ha => by
    rcases List.mem_cons.mp ha with rfl | ha
    · kernel_rfl
    · rw [List.mem_singleton.mp ha]; kernel_rfl
  mg := mg_is KX T
  mb := T.builtins
  C := rfl
  gl := ⟨List.mem_cons_self, fun h ht => ht.1, fun h h' ps ht k a b => ⟨⟨ps, a, b⟩, ht.2.ext k (by decide) (by decide)⟩⟩
  gs := ⟨List.mem_cons_of_mem _ List.mem_cons_self, fun h ht => ht.2, fun h h' ps ht k a b => ⟨ht.1.ext k (by decide) (by decide), ⟨ps, a, b⟩⟩⟩
  bm := by
    obtain ⟨bm, ob, h1, h2, h3, h4, h5, h6⟩ := T.bmain
    have ht := tabs_at KX
    refine ⟨bm, ob, h1, h2, h3, fun hm => ?_, h4, h5, h6⟩
    rcases List.mem_cons.mp hm with rfl | hm
    · obtain ⟨ps, _, _, t⟩ := ht.1
      rw [t] at h3; cases h3; cases h4
    · rw [List.mem_singleton.mp hm] at h3
      obtain ⟨ps, _, _, t⟩ := ht.2
      rw [t] at h3; cases h3; cases h4
  file := by rfl
  sup := by rfl
end
end Mine
namespace Mine
theorem tab_old {h h' : Heap} {cc P : Addr} {o : Obj} (t0 : h.TableAt cc P #[]) (e : h.get? P = some o) (x : tabOk cc P h') : asItWas h h' P o := by
  obtain ⟨ps, _, _, t⟩ := x
  have e0 := t0.2
  rw [e0] at e; cases e
  exact .inr (.inl ⟨t0.isCodeTable, rfl, #[], ps, rfl, by rw [Array.empty_append]; exact t⟩)
theorem law_code {p : Program} {loose : List Str} {mean : ExcName → Option Value} {mg mb : Str → Option Value} {w : World} {s : Shared} {R : Result → Shared → Prop} (KX : (heapT w.params).In s.heap) (T : Top p loose mean mg mb s.heap) (hg : s.gens = #[]) {l : Addr} {vs : List Value} {ns : List Int} (hL : s.heap.IsList l vs.toArray) (hI : IntsAre vs ns) (hn : ns.length ≤ 63)
    (hR : ∀ s', OldK s.heap s'.heap → s'.os = s.os → AllBare s'.gens → R (.ok (.ret (.bool true))) s') : codeAny (model PySem.Challenge.rw_to0009_02.row.prog w) callerA (.call (.ref 160) ⟨[.ref l], []⟩) R s := by
  have G := g2_of KX T
  have O := G.ok
  have ht := tabs_at KX
  obtain ⟨ob, ho, hcl, n, hda⟩ := hL
  have lX : l ∉ (cxOf w s mg mb).X := fun hm => by
    rcases List.mem_cons.mp hm with rfl | hm
    · obtain ⟨ps, _, _, t⟩ := ht.1
      rw [t] at ho; cases ho; cases hcl
    · rw [List.mem_singleton.mp hm] at ho
      obtain ⟨ps, _, _, t⟩ := ht.2
      rw [t] at ho; cases ho; cases hcl
  have I : Inv (cxOf w s mg mb) { s with toks := s.toks + 1 } [] [] := ⟨fun b o e _ => e, fun a ha => (by cases ha), rfl, List.nodup_nil, fun i a m hi _ => (by simp at hi), ht, AllBare.of_eq hg, rfl, Nat.succ_pos _⟩
  have ao : AOk 21 callerA := ⟨rfl, by decide, by decide⟩
  refine code_one (c := cxOf w s mg mb) (p := .ext l) (μ := []) (ι := []) O (def160 G) ao rfl (fun L => rfl) (by decide) (fun L => rfl) (fun L A ao => law_body G ⟨ob, n, ho, hcl, hda⟩ lX hI hn L A ao) I (by simp only [RepV]) fun v s' ι' q μ' S I' r k => ?_
  subst k
  simp only [RepV] at r
  subst r
  have K0 := in_tail KX
  refine hR s' ⟨fun b o e => ?_, fun b o e => S.there b o e⟩ I'.os I'.bare
  by_cases h1 : b = 84
  · subst h1
    exact tab_old ⟨⟨_, _, K0 88 _ rfl, rfl, rfl, rfl⟩, KX 84 _ rfl⟩ e I'.tab.1
  · by_cases h2 : b = 91
    · subst h2
      exact tab_old ⟨⟨_, _, K0 95 _ rfl, rfl, rfl, rfl⟩, KX 91 _ rfl⟩ e I'.tab.2
    · exact .inl (I'.old b o e (fun hm => by
        rcases List.mem_cons.mp hm with h | hm
        · exact h1 h
        · exact h2 (List.mem_singleton.mp hm)))
end Mine
namespace Mine
def viewAt (p : Program) (l : List Nat) : Program := { p with main := { p.main with body := l.filterMap (p.main.body[·]?) } }
abbrev theRow : OpenRow := PySem.Challenge.rw_to0009_02.row
def theView : Program := viewAt theRow.prog [0, 2, 3, 5, 6, 8, 9, 11, 12, 13, 14, 15, 16]
theorem said : PySem.Challenge.rw_to0009_02.wellSaid = true := by kernel_rfl
theorem left : LeftO theRow.prog theView [PySem.Str.ofString "_Accumulator"] (fun s => xlAt theView [] s && recOk (RowW.records theRow.toRowW) s) (Hook.obs (kHook heapT asT asT_eq)) (Hook.val (kHook heapT asT asT_eq)) 1866 := by
  intro w
  kernel_rfl
end Mine
theorem PySem.Challenge.cw_to0009_02_holds : PySem.Challenge.rw_to0009_02.Holds := by
  w_on
  refine holds_law Mine.said fun said => ?_
  refine holds_open (r := Mine.theRow) (q := Mine.theView) (loose := [PySem.Str.ofString "_Accumulator"]) (Xt := fun s => xlAt Mine.theView [] s && recOk (RowW.records Mine.theRow.toRowW) s) (XP := XL Mine.theView []) (Yf := Hook.obs (kHook Mine.heapT Mine.asT Mine.asT_eq)) (Ya := Hook.val (kHook Mine.heapT Mine.asT Mine.asT_eq)) (YP := Hook.says (kHook Mine.heapT Mine.asT Mine.asT_eq)) (N := 1866) Mine.left (Hook.of (kHook Mine.heapT Mine.asT Mine.asT_eq)) (Hook.keeps (kHook Mine.heapT Mine.asT Mine.asT_eq)) (fun s e => xl_of s (Bool.and_eq_true_iff.mp e).1) XL.keeps (by rfl) (by rfl) (by rfl) (fun s e => recFacts_of (Bool.and_eq_true_iff.mp e).2) (by rfl) said (by decide +kernel) ⟨rfl, rfl, rfl, rfl, rfl, by decide +kernel⟩ ?hw ?hc
  case hw => w_witness2
  k_fill
  intro w s₀ s₁ mg mb G Y fa o pm cd doc dV kV ho hdo hcd hD hmg hg args vals as hpre hlay hrd hwl hlo
  have KX := kIn_of Y
  refine Ground.open G ?_
  intro T B D TE TW
  have e : mg (Str.ofString "law") = some (.ref fa) := hmg
  rw [Mine.mg_is KX T] at e
  have e2 : Mine.mg2 w (Str.ofString "law") = some (.ref 160) := by rfl
  rw [e2] at e
  injection e with e
  injection e with e
  subst e
  clear e2 hcd hD hdo ho D B TE TW G Y
  wrow_args hpre hlay hrd hwl hlo
  all_goals (first | refine callC_kw (enter_call ?_) | refine enter_call ?_ | refine callC_kw (enter_callW ?_) | refine enter_callW ?_)
  refine Mine.law_code KX T hg (by assumption) (by assumption) ?_ ?_
  · omega
  · intro s' h1 h2 h3
    exact ⟨.inl ⟨.bool true, .bool true, [], rfl, fun _ => rfl, .bool true, by wrow_post, fun _ => ⟨.nil, fun _ h => nomatch h⟩⟩, h1, h2, h3⟩
