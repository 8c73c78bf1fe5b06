import PyProof.Rows.All
import Wide.All
import OpenK.AllK
import Wide.FinOn
import KE.KSortTup
import Lean
import PySem.Challenge.RW_nq0054_01
open PySem PySem.W PyProof.Rows PySem.Calls
set_option Elab.async false
set_option linter.unusedVariables false
set_option maxRecDepth 100000
namespace Mine
/-- a statement of the text, by its place -/
noncomputable def fAt (i : Nat) : Option Stmt := PySem.Challenge.pw_nq0054_01.main.body[i]?
noncomputable def cAt (i j : Nat) : Option Stmt := match fAt i with | some (.ClassDef _ _ _ b _ _ _ _ _ _ _) => b[j]? | _ => none
noncomputable def fp : Option Stmt → Arguments | some (.FunctionDef _ a _ _ _ _ _ _ _ _) => a | _ => ⟨[], [], none, [], [], none, []⟩
noncomputable def fb : Option Stmt → List Stmt | some (.FunctionDef _ _ b _ _ _ _ _ _ _) => b | _ => []
noncomputable def fs : Option Stmt → Scope | some (.FunctionDef _ _ _ _ _ _ s _ _ _) => s | _ => { kind := .function, names := [], isGenerator := false, isCoroutine := false }
noncomputable def fnObj (st : Option Stmt) (name qual mod : Str) (tok : Nat) (code : Addr) (d : Value) : Obj :=
  { cls := .type "function", data := .func { name := name, qualname := qual, params := fp st, body := .stmts (fb st), scope := fs st, globals := 3, closure := [], defaults := d, kwdefaults := .none, pyModule := .str mod tok, code := .ref code } }
/-- what stands behind the top: the defs, their code, the class, the names -/
noncomputable def myK (P : Params) : Frag := [
  (2, ({ cls := Value.none, data := Data.dict #[] } : Obj)),
  (3, ({ cls := Value.type "dict", data := Data.dict #[{ hash := PyData.keyHash P (Str.ofString "__name__"), key := Value.str (Str.ofString "__name__") 165, val := Value.str (Str.ofString "law_nq0054_01") 356 }, { hash := PyData.keyHash P (Str.ofString "__doc__"), key := Value.str (Str.ofString "__doc__") 166, val := Value.none }, { hash := PyData.keyHash P (Str.ofString "__package__"), key := Value.str (Str.ofString "__package__") 167, val := Value.none }, { hash := PyData.keyHash P (Str.ofString "__loader__"), key := Value.str (Str.ofString "__loader__") 168, val := Value.builtin "__main__.__loader__#opaque" }, { hash := PyData.keyHash P (Str.ofString "__spec__"), key := Value.str (Str.ofString "__spec__") 169, val := Value.none }, { hash := PyData.keyHash P (Str.ofString "__annotations__"), key := Value.str (Str.ofString "__annotations__") 170, val := Value.ref 6 }, { hash := PyData.keyHash P (Str.ofString "__builtins__"), key := Value.str (Str.ofString "__builtins__") 171, val := Value.ref 4 }, { hash := PyData.keyHash P (Str.ofString "__file__"), key := Value.str (Str.ofString "__file__") 173, val := Value.str (Str.ofString "/claim/cut.py") 172 }, { hash := PyData.keyHash P (Str.ofString "__cached__"), key := Value.str (Str.ofString "__cached__") 174, val := Value.none }, { hash := PyData.keyHash P (Str.ofString "_wall"), key := Value.str (Str.ofString "_wall") 193, val := Value.ref 21 }, { hash := PyData.keyHash P (Str.ofString "sep"), key := Value.str (Str.ofString "sep") 195, val := Value.str (Str.ofString "/") 194 }, { hash := PyData.keyHash P (Str.ofString "_kind"), key := Value.str (Str.ofString "_kind") 206, val := Value.ref 28 }, { hash := PyData.keyHash P (Str.ofString "_c_path"), key := Value.str (Str.ofString "_c_path") 219, val := Value.ref 35 }, { hash := PyData.keyHash P (Str.ofString "_splitroot"), key := Value.str (Str.ofString "_splitroot") 228, val := Value.ref 42 }, { hash := PyData.keyHash P (Str.ofString "_normpath"), key := Value.str (Str.ofString "_normpath") 243, val := Value.ref 49 }, { hash := PyData.keyHash P (Str.ofString "normpath"), key := Value.str (Str.ofString "normpath") 251, val := Value.ref 56 }, { hash := PyData.keyHash P (Str.ofString "_Ignore"), key := Value.str (Str.ofString "_Ignore") 293, val := Value.ref 79 }, { hash := PyData.keyHash P (Str.ofString "heappush"), key := Value.str (Str.ofString "heappush") 303, val := Value.ref 90 }, { hash := PyData.keyHash P (Str.ofString "heappop"), key := Value.str (Str.ofString "heappop") 312, val := Value.ref 97 }, { hash := PyData.keyHash P (Str.ofString "heapreplace"), key := Value.str (Str.ofString "heapreplace") 321, val := Value.ref 104 }, { hash := PyData.keyHash P (Str.ofString "heapify"), key := Value.str (Str.ofString "heapify") 330, val := Value.ref 111 }, { hash := PyData.keyHash P (Str.ofString "_siftdown"), key := Value.str (Str.ofString "_siftdown") 342, val := Value.ref 118 }, { hash := PyData.keyHash P (Str.ofString "_siftup"), key := Value.str (Str.ofString "_siftup") 355, val := Value.ref 125 }, { hash := PyData.keyHash P (Str.ofString "_law_written"), key := Value.str (Str.ofString "_law_written") 365, val := Value.ref 132 }, { hash := PyData.keyHash P (Str.ofString "_law_text"), key := Value.str (Str.ofString "_law_text") 372, val := Value.ref 139 }, { hash := PyData.keyHash P (Str.ofString "_law_answer"), key := Value.str (Str.ofString "_law_answer") 381, val := Value.ref 146 }, { hash := PyData.keyHash P (Str.ofString "_law_walk"), key := Value.str (Str.ofString "_law_walk") 398, val := Value.ref 153 }, { hash := PyData.keyHash P (Str.ofString "law"), key := Value.str (Str.ofString "law") 404, val := Value.ref 158 }] 28 } : Obj)),
  (27, ({ cls := Value.type "code", data := Data.fields #[Value.str (Str.ofString "_kind") 198, Value.str (Str.ofString "_kind") 199, Value.str (Str.ofString "/claim/cut.py") 200, Value.int 6 0, Value.int 2 0, Value.int 0 0, Value.int 0 0, Value.int 3 0, Value.ref 22, Value.bool true, Value.int 181 0, Value.ref 23, Value.none, Value.ref 24, Value.ref 25, Value.ref 26, Value.int 204 0, Value.int 6 0, Value.str (Str.ofString "/claim/cut.py") 205] } : Obj)),
  (28, (fnObj (fAt 3) "_kind" "_kind" "os.path" 196 27 (.none) : Obj)),
  (34, ({ cls := Value.type "code", data := Data.fields #[Value.str (Str.ofString "_c_path") 207, Value.str (Str.ofString "_c_path") 208, Value.str (Str.ofString "/claim/cut.py") 209, Value.int 27 0, Value.int 5 0, Value.int 0 0, Value.int 0 0, Value.int 3 0, Value.ref 29, Value.bool true, Value.int 181 0, Value.ref 30, Value.none, Value.ref 31, Value.ref 32, Value.ref 33, Value.int 217 0, Value.int 27 0, Value.str (Str.ofString "/claim/cut.py") 218] } : Obj)),
  (35, (fnObj (fAt 4) "_c_path" "_c_path" "os.path" 196 34 (.none) : Obj)),
  (41, ({ cls := Value.type "code", data := Data.fields #[Value.str (Str.ofString "_splitroot") 220, Value.str (Str.ofString "_splitroot") 221, Value.str (Str.ofString "/claim/cut.py") 222, Value.int 38 0, Value.int 1 0, Value.int 0 0, Value.int 0 0, Value.int 3 0, Value.ref 36, Value.bool true, Value.int 181 0, Value.ref 37, Value.none, Value.ref 38, Value.ref 39, Value.ref 40, Value.int 226 0, Value.int 38 0, Value.str (Str.ofString "/claim/cut.py") 227] } : Obj)),
  (42, (fnObj (fAt 5) "_splitroot" "_splitroot" "os.path" 196 41 (.none) : Obj)),
  (48, ({ cls := Value.type "code", data := Data.fields #[Value.str (Str.ofString "_normpath") 229, Value.str (Str.ofString "_normpath") 230, Value.str (Str.ofString "/claim/cut.py") 231, Value.int 47 0, Value.int 1 0, Value.int 0 0, Value.int 0 0, Value.int 3 0, Value.ref 43, Value.bool true, Value.int 181 0, Value.ref 44, Value.none, Value.ref 45, Value.ref 46, Value.ref 47, Value.int 241 0, Value.int 47 0, Value.str (Str.ofString "/claim/cut.py") 242] } : Obj)),
  (49, (fnObj (fAt 6) "_normpath" "_normpath" "os.path" 196 48 (.none) : Obj)),
  (55, ({ cls := Value.type "code", data := Data.fields #[Value.str (Str.ofString "normpath") 244, Value.str (Str.ofString "normpath") 245, Value.str (Str.ofString "/claim/cut.py") 246, Value.int 66 0, Value.int 0 0, Value.int 0 0, Value.int 0 0, Value.int 15 0, Value.ref 50, Value.bool true, Value.int 181 0, Value.ref 51, Value.none, Value.ref 52, Value.ref 53, Value.ref 54, Value.int 249 0, Value.int 66 0, Value.str (Str.ofString "/claim/cut.py") 250] } : Obj)),
  (56, (fnObj (fAt 7) "normpath" "normpath" "os.path" 196 55 (.none) : Obj)),
  (64, ({ cls := Value.type "tuple", data := Data.seq #[Value.none, Value.none] } : Obj)),
  (68, ({ cls := Value.type "code", data := Data.fields #[Value.str (Str.ofString "__init__") 266, Value.str (Str.ofString "_Ignore.__init__") 267, Value.str (Str.ofString "/claim/cut.py") 268, Value.int 71 0, Value.int 3 0, Value.int 0 0, Value.int 0 0, Value.int 3 0, Value.ref 65, Value.bool true, Value.int 181 0, Value.ref 66, Value.none, Value.none, Value.none, Value.ref 67, Value.int 269 0, Value.int 71 0, Value.str (Str.ofString "/claim/cut.py") 270] } : Obj)),
  (69, (fnObj (cAt 9 0) "__init__" "_Ignore.__init__" "cpy313.trace" 252 68 (.ref 64) : Obj)),
  (75, ({ cls := Value.type "code", data := Data.fields #[Value.str (Str.ofString "names") 272, Value.str (Str.ofString "_Ignore.names") 273, Value.str (Str.ofString "/claim/cut.py") 274, Value.int 76 0, Value.int 3 0, Value.int 0 0, Value.int 0 0, Value.int 3 0, Value.ref 70, Value.bool true, Value.int 181 0, Value.ref 71, Value.none, Value.ref 72, Value.ref 73, Value.ref 74, Value.int 280 0, Value.int 76 0, Value.str (Str.ofString "/claim/cut.py") 281] } : Obj)),
  (76, (fnObj (cAt 9 1) "names" "_Ignore.names" "cpy313.trace" 252 75 (.none) : Obj)),
  (78, ({ cls := Value.type "dict", data := Data.dict #[{ hash := PyData.keyHash P (Str.ofString "__module__"), key := Value.str (Str.ofString "__module__") 261, val := Value.str (Str.ofString "cpy313.trace") 252 }, { hash := PyData.keyHash P (Str.ofString "__firstlineno__"), key := Value.str (Str.ofString "__firstlineno__") 265, val := Value.int 69 264 }, { hash := PyData.keyHash P (Str.ofString "__init__"), key := Value.str (Str.ofString "__init__") 271, val := Value.ref 69 }, { hash := PyData.keyHash P (Str.ofString "names"), key := Value.str (Str.ofString "names") 282, val := Value.ref 76 }, { hash := PyData.keyHash P (Str.ofString "__static_attributes__"), key := Value.str (Str.ofString "__static_attributes__") 286, val := Value.ref 77 }, { hash := PyData.keyHash P (Str.ofString "__dict__"), key := Value.str (Str.ofString "__dict__") 288, val := Value.ref 80 }, { hash := PyData.keyHash P (Str.ofString "__weakref__"), key := Value.str (Str.ofString "__weakref__") 290, val := Value.ref 81 }, { hash := PyData.keyHash P (Str.ofString "__doc__"), key := Value.str (Str.ofString "__doc__") 291, val := Value.none }] 4 } : Obj)),
  (79, ({ cls := Value.type "type", data := Data.cls { name := Str.ofString "_Ignore", bases := [Value.type "object"], mro := [Value.ref 79, Value.type "object"], ns := 78, qualname := Str.ofString "_Ignore" }, slots := #[none, none, some (Value.str (Str.ofString "_Ignore") 254), some (Value.str (Str.ofString "_Ignore") 262), some (Value.builtin "object.__new__"), some (Value.bool true)] } : Obj)),
  (80, ({ cls := Value.type "getset_descriptor", data := Data.fields #[Value.str (Str.ofString "__dict__") 287, Value.ref 79, Value.builtin "function.__dict__", Value.builtin "function.__dict__#set"] } : Obj)),
  (81, ({ cls := Value.type "getset_descriptor", data := Data.fields #[Value.str (Str.ofString "__weakref__") 289, Value.ref 79, Value.builtin "ExceptionGroup.__weakref__", Value.none] } : Obj)),
  (89, ({ cls := Value.type "code", data := Data.fields #[Value.str (Str.ofString "heappush") 296, Value.str (Str.ofString "heappush") 297, Value.str (Str.ofString "/claim/cut.py") 298, Value.int 96 0, Value.int 2 0, Value.int 0 0, Value.int 0 0, Value.int 3 0, Value.ref 84, Value.bool true, Value.int 181 0, Value.ref 85, Value.none, Value.ref 86, Value.ref 87, Value.ref 88, Value.int 301 0, Value.int 96 0, Value.str (Str.ofString "/claim/cut.py") 302] } : Obj)),
  (90, (fnObj (fAt 11) "heappush" "heappush" "cpy313.heapq" 294 89 (.none) : Obj)),
  (96, ({ cls := Value.type "code", data := Data.fields #[Value.str (Str.ofString "heappop") 304, Value.str (Str.ofString "heappop") 305, Value.str (Str.ofString "/claim/cut.py") 306, Value.int 99 0, Value.int 1 0, Value.int 0 0, Value.int 0 0, Value.int 3 0, Value.ref 91, Value.bool true, Value.int 181 0, Value.ref 92, Value.none, Value.ref 93, Value.ref 94, Value.ref 95, Value.int 310 0, Value.int 99 0, Value.str (Str.ofString "/claim/cut.py") 311] } : Obj)),
  (97, (fnObj (fAt 12) "heappop" "heappop" "cpy313.heapq" 294 96 (.none) : Obj)),
  (103, ({ cls := Value.type "code", data := Data.fields #[Value.str (Str.ofString "heapreplace") 313, Value.str (Str.ofString "heapreplace") 314, Value.str (Str.ofString "/claim/cut.py") 315, Value.int 107 0, Value.int 2 0, Value.int 0 0, Value.int 0 0, Value.int 3 0, Value.ref 98, Value.bool true, Value.int 181 0, Value.ref 99, Value.none, Value.ref 100, Value.ref 101, Value.ref 102, Value.int 319 0, Value.int 107 0, Value.str (Str.ofString "/claim/cut.py") 320] } : Obj)),
  (104, (fnObj (fAt 13) "heapreplace" "heapreplace" "cpy313.heapq" 294 103 (.none) : Obj)),
  (110, ({ cls := Value.type "code", data := Data.fields #[Value.str (Str.ofString "heapify") 322, Value.str (Str.ofString "heapify") 323, Value.str (Str.ofString "/claim/cut.py") 324, Value.int 112 0, Value.int 1 0, Value.int 0 0, Value.int 0 0, Value.int 3 0, Value.ref 105, Value.bool true, Value.int 181 0, Value.ref 106, Value.none, Value.ref 107, Value.ref 108, Value.ref 109, Value.int 328 0, Value.int 112 0, Value.str (Str.ofString "/claim/cut.py") 329] } : Obj)),
  (111, (fnObj (fAt 14) "heapify" "heapify" "cpy313.heapq" 294 110 (.none) : Obj)),
  (117, ({ cls := Value.type "code", data := Data.fields #[Value.str (Str.ofString "_siftdown") 331, Value.str (Str.ofString "_siftdown") 332, Value.str (Str.ofString "/claim/cut.py") 333, Value.int 116 0, Value.int 3 0, Value.int 0 0, Value.int 0 0, Value.int 3 0, Value.ref 112, Value.bool true, Value.int 181 0, Value.ref 113, Value.none, Value.ref 114, Value.ref 115, Value.ref 116, Value.int 340 0, Value.int 116 0, Value.str (Str.ofString "/claim/cut.py") 341] } : Obj)),
  (118, (fnObj (fAt 15) "_siftdown" "_siftdown" "cpy313.heapq" 294 117 (.none) : Obj)),
  (124, ({ cls := Value.type "code", data := Data.fields #[Value.str (Str.ofString "_siftup") 343, Value.str (Str.ofString "_siftup") 344, Value.str (Str.ofString "/claim/cut.py") 345, Value.int 127 0, Value.int 2 0, Value.int 0 0, Value.int 0 0, Value.int 3 0, Value.ref 119, Value.bool true, Value.int 181 0, Value.ref 120, Value.none, Value.ref 121, Value.ref 122, Value.ref 123, Value.int 353 0, Value.int 127 0, Value.str (Str.ofString "/claim/cut.py") 354] } : Obj)),
  (125, (fnObj (fAt 16) "_siftup" "_siftup" "cpy313.heapq" 294 124 (.none) : Obj)),
  (131, ({ cls := Value.type "code", data := Data.fields #[Value.str (Str.ofString "_law_written") 358, Value.str (Str.ofString "_law_written") 359, Value.str (Str.ofString "/claim/cut.py") 360, Value.int 142 0, Value.int 2 0, Value.int 0 0, Value.int 0 0, Value.int 3 0, Value.ref 126, Value.bool true, Value.int 181 0, Value.ref 127, Value.none, Value.ref 128, Value.ref 129, Value.ref 130, Value.int 363 0, Value.int 142 0, Value.str (Str.ofString "/claim/cut.py") 364] } : Obj)),
  (132, (fnObj (fAt 18) "_law_written" "_law_written" "law_nq0054_01" 356 131 (.none) : Obj)),
  (138, ({ cls := Value.type "code", data := Data.fields #[Value.str (Str.ofString "_law_text") 366, Value.str (Str.ofString "_law_text") 367, Value.str (Str.ofString "/claim/cut.py") 368, Value.int 150 0, Value.int 1 0, Value.int 0 0, Value.int 0 0, Value.int 3 0, Value.ref 133, Value.bool true, Value.int 181 0, Value.ref 134, Value.none, Value.ref 135, Value.ref 136, Value.ref 137, Value.int 370 0, Value.int 150 0, Value.str (Str.ofString "/claim/cut.py") 371] } : Obj)),
  (139, (fnObj (fAt 19) "_law_text" "_law_text" "law_nq0054_01" 356 138 (.none) : Obj)),
  (145, ({ cls := Value.type "code", data := Data.fields #[Value.str (Str.ofString "_law_answer") 373, Value.str (Str.ofString "_law_answer") 374, Value.str (Str.ofString "/claim/cut.py") 375, Value.int 152 0, Value.int 3 0, Value.int 0 0, Value.int 0 0, Value.int 3 0, Value.ref 140, Value.bool true, Value.int 181 0, Value.ref 141, Value.none, Value.ref 142, Value.ref 143, Value.ref 144, Value.int 379 0, Value.int 152 0, Value.str (Str.ofString "/claim/cut.py") 380] } : Obj)),
  (146, (fnObj (fAt 20) "_law_answer" "_law_answer" "law_nq0054_01" 356 145 (.none) : Obj)),
  (152, ({ cls := Value.type "code", data := Data.fields #[Value.str (Str.ofString "_law_walk") 382, Value.str (Str.ofString "_law_walk") 383, Value.str (Str.ofString "/claim/cut.py") 384, Value.int 156 0, Value.int 2 0, Value.int 0 0, Value.int 0 0, Value.int 3 0, Value.ref 147, Value.bool true, Value.int 181 0, Value.ref 148, Value.none, Value.ref 149, Value.ref 150, Value.ref 151, Value.int 396 0, Value.int 156 0, Value.str (Str.ofString "/claim/cut.py") 397] } : Obj)),
  (153, (fnObj (fAt 21) "_law_walk" "_law_walk" "law_nq0054_01" 356 152 (.none) : Obj))]
noncomputable def myAs : List Addr := [2, 3, 27, 28, 34, 35, 41, 42, 48, 49, 55, 56, 64, 68, 69, 75, 76, 78, 79, 80, 81, 89, 90, 96, 97, 103, 104, 110, 111, 117, 118, 124, 125, 131, 132, 138, 139, 145, 146, 152, 153]
end Mine

namespace Mine

/-- wide exists, wide and: their terms are smaller than nested ones -/
inductive Ex2 {α β : Type} (p : α → β → Prop) : Prop
  | mk (a : α) (b : β) (h : p a b) : Ex2 p
inductive Ex3 {α β γ : Type} (p : α → β → γ → Prop) : Prop
  | mk (a : α) (b : β) (c : γ) (h : p a b c) : Ex3 p
inductive Ex4 {α β γ δ : Type} (p : α → β → γ → δ → Prop) : Prop
  | mk (a : α) (b : β) (c : γ) (d : δ) (h : p a b c d) : Ex4 p
inductive Ex5 {α β γ δ ε : Type} (p : α → β → γ → δ → ε → Prop) : Prop
  | mk (a : α) (b : β) (c : γ) (d : δ) (e : ε) (h : p a b c d e) : Ex5 p
inductive Ex6 {α β γ δ ε ζ : Type} (p : α → β → γ → δ → ε → ζ → Prop) : Prop
  | mk (a : α) (b : β) (c : γ) (d : δ) (e : ε) (f : ζ) (h : p a b c d e f) : Ex6 p
inductive Ex7 {α β γ δ ε ζ η : Type} (p : α → β → γ → δ → ε → ζ → η → Prop) : Prop
  | mk (a : α) (b : β) (c : γ) (d : δ) (e : ε) (f : ζ) (g : η) (h : p a b c d e f g) : Ex7 p
inductive Ex8 {α β γ δ ε ζ η θ : Type} (p : α → β → γ → δ → ε → ζ → η → θ → Prop) : Prop
  | mk (a : α) (b : β) (c : γ) (d : δ) (e : ε) (f : ζ) (g : η) (i : θ) (h : p a b c d e f g i) : Ex8 p
inductive And3 (p1 p2 p3 : Prop) : Prop
  | mk (h1 : p1) (h2 : p2) (h3 : p3) : And3 p1 p2 p3
inductive And4 (p1 p2 p3 p4 : Prop) : Prop
  | mk (h1 : p1) (h2 : p2) (h3 : p3) (h4 : p4) : And4 p1 p2 p3 p4
inductive And5 (p1 p2 p3 p4 p5 : Prop) : Prop
  | mk (h1 : p1) (h2 : p2) (h3 : p3) (h4 : p4) (h5 : p5) : And5 p1 p2 p3 p4 p5
inductive And6 (p1 p2 p3 p4 p5 p6 : Prop) : Prop
  | mk (h1 : p1) (h2 : p2) (h3 : p3) (h4 : p4) (h5 : p5) (h6 : p6) : And6 p1 p2 p3 p4 p5 p6
inductive And7 (p1 p2 p3 p4 p5 p6 p7 : Prop) : Prop
  | mk (h1 : p1) (h2 : p2) (h3 : p3) (h4 : p4) (h5 : p5) (h6 : p6) (h7 : p7) : And7 p1 p2 p3 p4 p5 p6 p7
inductive And8 (p1 p2 p3 p4 p5 p6 p7 p8 : Prop) : Prop
  | mk (h1 : p1) (h2 : p2) (h3 : p3) (h4 : p4) (h5 : p5) (h6 : p6) (h7 : p7) (h8 : p8) : And8 p1 p2 p3 p4 p5 p6 p7 p8
inductive And9 (p1 p2 p3 p4 p5 p6 p7 p8 p9 : Prop) : Prop
  | mk (h1 : p1) (h2 : p2) (h3 : p3) (h4 : p4) (h5 : p5) (h6 : p6) (h7 : p7) (h8 : p8) (h9 : p9) : And9 p1 p2 p3 p4 p5 p6 p7 p8 p9
inductive And10 (p1 p2 p3 p4 p5 p6 p7 p8 p9 p10 : Prop) : Prop
  | mk (h1 : p1) (h2 : p2) (h3 : p3) (h4 : p4) (h5 : p5) (h6 : p6) (h7 : p7) (h8 : p8) (h9 : p9) (h10 : p10) : And10 p1 p2 p3 p4 p5 p6 p7 p8 p9 p10
inductive And11 (p1 p2 p3 p4 p5 p6 p7 p8 p9 p10 p11 : Prop) : Prop
  | mk (h1 : p1) (h2 : p2) (h3 : p3) (h4 : p4) (h5 : p5) (h6 : p6) (h7 : p7) (h8 : p8) (h9 : p9) (h10 : p10) (h11 : p11) : And11 p1 p2 p3 p4 p5 p6 p7 p8 p9 p10 p11
inductive And12 (p1 p2 p3 p4 p5 p6 p7 p8 p9 p10 p11 p12 : Prop) : Prop
  | mk (h1 : p1) (h2 : p2) (h3 : p3) (h4 : p4) (h5 : p5) (h6 : p6) (h7 : p7) (h8 : p8) (h9 : p9) (h10 : p10) (h11 : p11) (h12 : p12) : And12 p1 p2 p3 p4 p5 p6 p7 p8 p9 p10 p11 p12
inductive And13 (p1 p2 p3 p4 p5 p6 p7 p8 p9 p10 p11 p12 p13 : Prop) : Prop
  | mk (h1 : p1) (h2 : p2) (h3 : p3) (h4 : p4) (h5 : p5) (h6 : p6) (h7 : p7) (h8 : p8) (h9 : p9) (h10 : p10) (h11 : p11) (h12 : p12) (h13 : p13) : And13 p1 p2 p3 p4 p5 p6 p7 p8 p9 p10 p11 p12 p13

/-- the ledger of mutable objects: an address and what its object is -/
noncomputable abbrev Led := List (Addr × (Obj → Prop))

/-- what stays the same over the whole call -/
structure Cx where
  prog : Program
  w : World
  B : Heap
  os : OsState
  K : Frag
  mg : Str → Option Value
  mb : Str → Option Value

/-- what is read of the top -/
structure TR (mg mb : Str → Option Value) (h : Heap) : Prop where
  g : h.Ns mainGlobals mg
  b : h.Ns builtinsNs mb
  nolimit : h.NoLimit
  builtins : ∀ x : Str, x ≠ "__name__" → mb x = bootBuiltins x
structure Gd (c : Cx) : Prop where
  X : c.K.In c.B
  T : TR c.mg c.mb c.B

structure St (B : Heap) (F : List (Addr × Obj)) (M : Led) (h : Heap) : Prop where
  base : ∀ b o, B.get? b = some o → h.get? b = some o
  fro : ∀ p ∈ F, h.get? p.1 = some p.2
  led : ∀ p ∈ M, ∃ o, h.get? p.1 = some o ∧ p.2 o
  up : ∀ p ∈ M, B.get? p.1 = none
  upF : ∀ p ∈ F, B.get? p.1 = none
  hi : ∀ p ∈ M, 3 < p.1
  hiF : ∀ p ∈ F, 3 < p.1
  off : ∀ p ∈ M, ∀ q ∈ F, p.1 ≠ q.1
  nd : (M.map (·.1)).Nodup

structure Is (c : Cx) (F : List (Addr × Obj)) (M : Led) (s : Shared) : Prop where
  st : St c.B F M s.heap
  gens : s.gens = #[]
  os : s.os = c.os
  gd : Gd c

inductive Upd (a : Addr) (P P' : Obj → Prop) : Led → Led → Prop
  | head {r} : Upd a P P' ((a, P) :: r) ((a, P') :: r)
  | tail {p r r'} : Upd a P P' r r' → Upd a P P' (p :: r) (p :: r')

theorem Upd.mem {a : Addr} {P P' : Obj → Prop} : ∀ {M M' : Led}, Upd a P P' M M' → (a, P) ∈ M
  | _, _, .head => .head _
  | _, _, .tail r => .tail _ r.mem
theorem Upd.addrs {a : Addr} {P P' : Obj → Prop} : ∀ {M M' : Led}, Upd a P P' M M' → M'.map (·.1) = M.map (·.1)
  | _, _, .head => rfl
  | _, _, .tail r => by simp only [List.map_cons, r.addrs]
theorem Upd.other {a : Addr} {P P' : Obj → Prop} : ∀ {M M' : Led}, Upd a P P' M M' → (M.map (·.1)).Nodup → ∀ p ∈ M', p = (a, P') ∨ (p ∈ M ∧ p.1 ≠ a)
  | _, _, .head, hn, p, hp => by
    rcases List.mem_cons.mp hp with rfl | hp
    · exact .inl rfl
    · refine .inr ⟨.tail _ hp, fun e => ?_⟩
      have := (List.nodup_cons.mp hn).1
      exact this (List.mem_map.mpr ⟨p, hp, e⟩)
  | _, _, .tail (p := q) r, hn, p, hp => by
    rcases List.mem_cons.mp hp with rfl | hp
    · refine .inr ⟨.head _, fun e => ?_⟩
      exact (List.nodup_cons.mp hn).1 (List.mem_map.mpr ⟨_, r.mem, e.symm⟩)
    · rcases r.other (List.nodup_cons.mp hn).2 p hp with h | ⟨h1, h2⟩
      · exact .inl h
      · exact .inr ⟨.tail _ h1, h2⟩

/-- the ledger with one place open -/
inductive UpdF (a : Addr) (P : Obj → Prop) : Led → ((Obj → Prop) → Led) → Prop
  | head {r} : UpdF a P ((a, P) :: r) (fun P' => (a, P') :: r)
  | tail {p r g} : UpdF a P r g → UpdF a P (p :: r) (fun P' => p :: g P')
theorem UpdF.upd {a : Addr} {P P' : Obj → Prop} : ∀ {M : Led} {g : (Obj → Prop) → Led}, UpdF a P M g → Upd a P P' M (g P')
  | _, _, .head => .head
  | _, _, .tail r => .tail r.upd
theorem UpdF.mem {a : Addr} {P : Obj → Prop} {M : Led} {g : (Obj → Prop) → Led} (u : UpdF a P M g) : (a, P) ∈ M := (u.upd (P' := P)).mem
theorem UpdF.same {a : Addr} {P : Obj → Prop} : ∀ {M : Led} {g : (Obj → Prop) → Led}, UpdF a P M g → g P = M
  | _, _, .head => rfl
  | _, _, .tail r => by dsimp only; rw [r.same]
theorem UpdF.again {a : Addr} {P P' : Obj → Prop} : ∀ {M : Led} {g : (Obj → Prop) → Led}, UpdF a P M g → UpdF a P' (g P') g
  | _, _, .head => .head
  | _, _, .tail r => .tail r.again

namespace St
variable {B h h' : Heap} {F : List (Addr × Obj)} {M M' : Led} {a : Addr} {P P' : Obj → Prop} {o o' : Obj}

theorem lt (x : St B F M h) {p : Addr × (Obj → Prop)} (hp : p ∈ M) : p.1 < h.objs.size := let ⟨_, e, _⟩ := x.led p hp; Heap.lt_size e
theorem noB (x : St B F M h) {p : Addr × (Obj → Prop)} (hp : p ∈ M) {o : Obj} (e : B.get? p.1 = some o) : False := by rw [x.up p hp] at e; cases e

/-- one object of the ledger becomes another -/
theorem change (x : St B F M h) (U : Upd a P P' M M') (hs : ∀ b o, b ≠ a → h.get? b = some o → h'.get? b = some o) (ho : h'.get? a = some o') (hP : P' o') : St B F M' h' where
  base := fun b o e => hs b o (fun q => x.noB U.mem (q ▸ e)) (x.base b o e)
  fro := fun p hp => hs _ _ (fun q => x.off _ U.mem p hp q.symm) (x.fro p hp)
  led := fun p hp => by
    rcases U.other x.nd p hp with rfl | ⟨h1, h2⟩
    · exact ⟨o', ho, hP⟩
    · obtain ⟨o, e, q⟩ := x.led p h1
      exact ⟨o, hs _ _ h2 e, q⟩
  up := fun p hp => by
    rcases U.other x.nd p hp with rfl | ⟨h1, h2⟩
    · exact x.up (a, P) U.mem
    · exact x.up p h1
  upF := x.upF
  hi := fun p hp => by
    rcases U.other x.nd p hp with rfl | ⟨h1, h2⟩
    · exact x.hi (a, P) U.mem
    · exact x.hi p h1
  hiF := x.hiF
  off := fun p hp q hq => by
    rcases U.other x.nd p hp with rfl | ⟨h1, h2⟩
    · exact x.off _ U.mem q hq
    · exact x.off p h1 q hq
  nd := by rw [U.addrs]; exact x.nd

theorem keeps (x : St B F M h) (hk : ∀ b o, h.get? b = some o → h'.get? b = some o) : St B F M h' where
  base := fun b o e => hk _ _ (x.base b o e)
  fro := fun p hp => hk _ _ (x.fro p hp)
  led := fun p hp => let ⟨o, e, q⟩ := x.led p hp; ⟨o, hk _ _ e, q⟩
  up := x.up
  upF := x.upF
  hi := x.hi
  hiF := x.hiF
  off := x.off
  nd := x.nd

/-- a new object -/
theorem add (x : St B F M h) (hk : ∀ b o, h.get? b = some o → h'.get? b = some o) (hn : h.get? a = none) (h3 : 3 < a) (ho : h'.get? a = some o) (hP : P o) : St B F ((a, P) :: M) h' where
  base := fun b o e => hk _ _ (x.base b o e)
  fro := fun p hp => hk _ _ (x.fro p hp)
  led := fun p hp => by
    rcases List.mem_cons.mp hp with rfl | hp
    · exact ⟨o, ho, hP⟩
    · obtain ⟨o, e, q⟩ := x.led p hp; exact ⟨o, hk _ _ e, q⟩
  up := fun p hp => by
    rcases List.mem_cons.mp hp with rfl | hp
    · show B.get? a = none
      cases e : B.get? a with
      | none => rfl
      | some o => have := x.base _ _ e; rw [hn] at this; cases this
    · exact x.up p hp
  upF := x.upF
  hi := fun p hp => by
    rcases List.mem_cons.mp hp with rfl | hp
    · exact h3
    · exact x.hi p hp
  hiF := x.hiF
  off := fun p hp q hq => by
    rcases List.mem_cons.mp hp with rfl | hp
    · intro e
      have := x.fro q hq
      rw [← e, hn] at this; cases this
    · exact x.off p hp q hq
  nd := by
    refine List.nodup_cons.mpr ⟨fun hm => ?_, x.nd⟩
    obtain ⟨p, hp, e⟩ := List.mem_map.mp hm
    obtain ⟨o, q, _⟩ := x.led p hp
    have e' : p.1 = a := e
    rw [e', hn] at q; cases q

theorem drop {p : Addr × (Obj → Prop)} (x : St B F (p :: M) h) : St B F M h where
  base := x.base
  fro := x.fro
  led := fun q hq => x.led q (.tail _ hq)
  up := fun q hq => x.up q (.tail _ hq)
  upF := x.upF
  hi := fun q hq => x.hi q (.tail _ hq)
  hiF := x.hiF
  off := fun q hq => x.off q (.tail _ hq)
  nd := (List.nodup_cons.mp x.nd).2

/-- another order, fewer, weaker -/
theorem sub (x : St B F M h) {M' : Led} (hm : ∀ p ∈ M', ∃ P, (p.1, P) ∈ M ∧ ∀ o, P o → p.2 o) (hn : (M'.map (·.1)).Nodup) : St B F M' h where
  base := x.base
  fro := x.fro
  led := fun p hp => by
    obtain ⟨P, h1, h2⟩ := hm p hp
    obtain ⟨o, e, q⟩ := x.led _ h1
    exact ⟨o, e, h2 o q⟩
  up := fun p hp => by obtain ⟨P, h1, _⟩ := hm p hp; exact x.up (p.1, P) h1
  upF := x.upF
  hi := fun p hp => by obtain ⟨P, h1, _⟩ := hm p hp; exact x.hi (p.1, P) h1
  hiF := x.hiF
  off := fun p hp q hq => by obtain ⟨P, h1, _⟩ := hm p hp; exact x.off (p.1, P) h1 q hq
  nd := hn

theorem perm (x : St B F M h) {M' : Led} (hp : M'.Perm M) : St B F M' h :=
  x.sub (fun p hm => ⟨p.2, hp.mem_iff.mp hm, fun _ q => q⟩) ((hp.map _).nodup_iff.mpr x.nd)

theorem lessF (x : St B F M h) {F' : List (Addr × Obj)} (hs : ∀ p ∈ F', p ∈ F) : St B F' M h where
  base := x.base
  fro := fun p hp => x.fro p (hs p hp)
  led := x.led
  up := x.up
  upF := fun p hp => x.upF p (hs p hp)
  hi := x.hi
  hiF := fun p hp => x.hiF p (hs p hp)
  off := fun p hp q hq => x.off p hp q (hs q hq)
  nd := x.nd
end St

namespace Is
variable {c : Cx} {F F' : List (Addr × Obj)} {M M' : Led} {s : Shared} {a : Addr} {P P' : Obj → Prop} {o : Obj}
theorem drop {p : Addr × (Obj → Prop)} (x : Is c F (p :: M) s) : Is c F M s := ⟨x.st.drop, x.gens, x.os, x.gd⟩
theorem perm (x : Is c F M s) (hp : M'.Perm M) : Is c F M' s := ⟨x.st.perm hp, x.gens, x.os, x.gd⟩
theorem lessF (x : Is c F M s) (hs : ∀ p ∈ F', p ∈ F) : Is c F' M s := ⟨x.st.lessF hs, x.gens, x.os, x.gd⟩
theorem toks (x : Is c F M s) (t : Nat) : Is c F M { s with toks := t } := ⟨x.st, x.gens, x.os, x.gd⟩
theorem keeps (x : Is c F M s) {h' : Heap} (t : Nat) (hk : ∀ b o, s.heap.get? b = some o → h'.get? b = some o) : Is c F M { s with heap := h', toks := t } := ⟨x.st.keeps hk, x.gens, x.os, x.gd⟩
theorem change (x : Is c F M s) (U : Upd a P P' M M') {h' : Heap} (t : Nat) (hs : ∀ b o, b ≠ a → s.heap.get? b = some o → h'.get? b = some o) (ho : h'.get? a = some o) (hP : P' o) : Is c F M' { s with heap := h', toks := t } :=
  ⟨x.st.change U hs ho hP, x.gens, x.os, x.gd⟩
theorem get (x : Is c F M s) (hm : (a, P) ∈ M) : ∃ o, s.heap.get? a = some o ∧ P o := x.st.led _ hm
theorem getF (x : Is c F M s) (hm : (a, o) ∈ F) : s.heap.get? a = some o := x.st.fro _ hm
theorem K (x : Is c F M s) : c.K.In s.heap := x.gd.X.keeps x.st.base
theorem noLimit (x : Is c F M s) : s.heap.NoLimit := x.gd.T.nolimit.keeps x.st.base
theorem big (x : Is c F M s) : 3 < s.heap.objs.size := (x.gd.T.g.keeps x.st.base).lt
theorem noMods (x : Is c F M s) (hm : (a, P) ∈ M) : (a == sysModules) = false := by
  have h2 : 3 < a := x.st.hi _ hm
  exact beq_eq_false_iff_ne.mpr fun (e : a = 1) => absurd h2 (by rw [e]; decide)
end Is

/-- how much room a call has -/
structure Rm (n : Nat) (A : Around) : Prop where
  hd : A.handled = none
  dp : A.depth + n < 1000
  un : A.units + 100 * n < 9900
theorem Rm.deeper {n : Nat} {A : Around} (r : Rm (n + 1) A) (env : Env) : Rm n (A.deeper env) :=
  ⟨r.hd, by have := r.dp; show A.depth + 1 + n < 1000; lia, by have := r.un; show A.units + 3 + 100 * n < 9900; lia⟩
theorem Rm.mono {n m : Nat} {A : Around} (r : Rm n A) (h : m ≤ n) : Rm m A := ⟨r.hd, by have := r.dp; lia, by have := r.un; lia⟩
theorem Rm.room {n : Nat} {A : Around} (r : Rm n A) : A.depth < recursionLimit := by have := r.dp; show A.depth < 1000; lia
theorem Rm.units {n : Nat} {A : Around} (r : Rm (n + 1) A) : A.units + 64 < cLine := by have := r.un; show A.units + 64 < 9900; lia

/-- the makes of objects -/
noncomputable def NsP (m : Str → Option Value) (o : Obj) : Prop := ∃ es ep, o.data = .dict es ep ∧ StrKeys es ∧ ∀ name, nsFind es name = m name
noncomputable def LsP (vs : List Value) (o : Obj) : Prop := ∃ n, o = { cls := .type "list", data := .seq vs.toArray n }
noncomputable abbrev tupO (vs : List Value) : Obj := { cls := .type "tuple", data := .seq vs.toArray }

theorem Is.ns {c : Cx} {F : List (Addr × Obj)} {M : Led} {s : Shared} {L : Addr} {m : Str → Option Value} (x : Is c F M s) (hm : (L, NsP m) ∈ M) : s.heap.Ns L m :=
  let ⟨o, e, es, ep, h⟩ := x.get hm; ⟨o, es, ep, e, h⟩
theorem NsP.of {h : Heap} {L : Addr} {m : Str → Option Value} (x : h.Ns L m) : ∃ o, h.get? L = some o ∧ NsP m o := let ⟨o, es, ep, e, r⟩ := x; ⟨o, e, es, ep, r⟩
theorem Is.ls {c : Cx} {F : List (Addr × Obj)} {M : Led} {s : Shared} {L : Addr} {vs : List Value} (x : Is c F M s) (hm : (L, LsP vs) ∈ M) : s.heap.IsList L vs.toArray := by
  obtain ⟨o, e, n, rfl⟩ := x.get hm; exact ⟨_, e, rfl, n, rfl⟩

end Mine

namespace Mine
section
variable {c : Cx} {F : List (Addr × Obj)} {M M' : Led} {s : Shared} {A : Around} {E : Value → Shared → Prop} {env : Env} {L : Addr} {m : Str → Option Value} {x : Str} {pos : Pos} {v : Value}

/-- a name's new value -/
noncomputable def up (m : Str → Option Value) (x : Str) (v : Value) : Str → Option Value := fun y => if y = x then some v else m y
theorem up_same {m : Str → Option Value} {x : Str} {v : Value} : up m x v x = some v := by simp [up]
theorem up_ne {m : Str → Option Value} {x y : Str} {v : Value} (h : y ≠ x) : up m x v y = m y := by simp [up, h]

theorem r_loc {Q : Value → Shared → Prop} (hs : Is c F M s) (hm : (env.locals, NsP m) ∈ M) (hv : m x = some v) (h : Q v s)
    (hk : env.scope.kind = .function := by rfl) (hl : env.kindOf x = some .local := by rfl) (hd : (x == ("__debug__" : Str)) = false := by decide) :
    wpAny (model c.prog c.w) A (eval (.Name x pos) env) Q E s := wpAny_Name (wpAny_loadName_local hk hl (hs.ns hm) hv h) hd

theorem r_st {Q : Unit → Shared → Prop} {g : (Obj → Prop) → Led} (hs : Is c F M s) (hu : UpdF env.locals (NsP m) M g) (k : ∀ s', Is c F (g (NsP (up m x v))) s' → Q () s')
    (hl : env.kindOf x = some .local := by rfl) (hp : (env.scope.kind == .class || (env.scope.kind == .module && env.locals != env.globals)) = false := by rfl) :
    wpAny (model c.prog c.w) A (storeName env x v) Q E s :=
  wpAny_storeName_local hl (hs.ns hu.mem) (fun h' hn hsb => by
    obtain ⟨o, e, q⟩ := NsP.of hn
    exact k _ (hs.change hu.upd _ (fun b o hb e => hsb.extBut b o hb e) e q)) hp

/-- what follows is kept under a name -/
theorem gen {α : Type} {Md : Model} {t : Sem α} {Q : α → Shared → Prop} (h : ∀ Q' : α → Shared → Prop, (∀ a s', Q a s' → Q' a s') → wpAny Md A t Q' E s) : wpAny Md A t Q E s := h Q fun _ _ x => x
theorem if_t {P Q : Prop} {b : Bool} (e : b = true) (h : P) : if b = true then P else Q := by rw [if_pos e]; exact h
theorem if_f {P Q : Prop} {b : Bool} (e : b = false) (h : Q) : if b = true then P else Q := by rw [if_neg (by rw [e]; decide)]; exact h
theorem r_assign {Md : Model} {Q : Flow → Shared → Prop} {value : Expr} {pos' : Pos}
    (h : wpAny Md A (eval value env) (fun v s₁ => wpAny Md A (storeName env x v) (fun _ => Q .next) E s₁) E s)
    (hs : swapsWith value (some (.Name x pos')) pos.line env = pure false := by rfl) :
    wpAny Md A (exec (.Assign [.Name x pos'] value pos) env) Q E s := wpAny_Assign_Name h hs

theorem r_int {Q : Value → Shared → Prop} {i : Int} {k : Nat} (hs : Is c F M s) (h : ∀ t s', Is c F M s' → Q (.int i t) s') : wpAny (model c.prog c.w) A (eval (.Constant (.int i) k pos) env) Q E s :=
  wpAny_Constant_int (h _ _ (hs.toks _))
theorem r_str {Q : Value → Shared → Prop} {y : Str} {k : Nat} (hs : Is c F M s) (h : ∀ t s', Is c F M s' → Q (.str y t) s') : wpAny (model c.prog c.w) A (eval (.Constant (.str y) k pos) env) Q E s :=
  wpAny_Constant_str (h _ _ (hs.toks _))

variable {a b : Int} {t u : Tok} {Q : Value → Shared → Prop}
theorem r_add (hs : Is c F M s) (h : ∀ t s', Is c F M s' → Q (.int (a + b) t) s') : wpAny (model c.prog c.w) A (binaryOp .Add (.int a t) (.int b u)) Q E s := PyProof.Rows.add_int (h _ _ (hs.toks _))
theorem r_sub (hs : Is c F M s) (h : ∀ t s', Is c F M s' → Q (.int (a - b) t) s') : wpAny (model c.prog c.w) A (binaryOp .Sub (.int a t) (.int b u)) Q E s := PyProof.Rows.sub_int (h _ _ (hs.toks _))
theorem r_shr (hs : Is c F M s) (hn : 0 ≤ b) (h : ∀ t s', Is c F M s' → Q (.int (a.fdiv (2 ^ b.toNat)) t) s') : wpAny (model c.prog c.w) A (binaryOp .RShift (.int a t) (.int b u)) Q E s := rshift_int hn (h _ _ (hs.toks _))
theorem r_mul (hs : Is c F M s) (hm : IntMulOk a b) (h : ∀ t s', Is c F M s' → Q (.int (a * b) t) s') : wpAny (model c.prog c.w) A (binaryOp .Mult (.int a t) (.int b u)) Q E s := PyProof.Rows.mul_int (h _ _ (hs.toks _)) hm
theorem r_mod (hs : Is c F M s) (hb : b ≠ 0) (h : ∀ t s', Is c F M s' → Q (.int (a.fmod b) t) s') : wpAny (model c.prog c.w) A (binaryOp .Mod (.int a t) (.int b u)) Q E s := mod_int' hb (h _ _ (hs.toks _))
theorem r_pow (hs : Is c F M s) (hn : 0 ≤ b) (hz : (Builtin.Int.intBits a : Int) * b ≤ 2 ^ 27) (h : ∀ t s', Is c F M s' → Q (.int (a ^ b.toNat) t) s') : wpAny (model c.prog c.w) A (binaryOp .Pow (.int a t) (.int b u)) Q E s := pow_int hn hz (h _ _ (hs.toks _))
theorem r_div (hs : Is c F M s) (hb : b ≠ 0) (hp : Builtin.divisionGoesByPylong a b = false) (h : ∀ t s', Is c F M s' → Q (.int (a.fdiv b) t) s') : wpAny (model c.prog c.w) A (binaryOp .FloorDiv (.int a t) (.int b u)) Q E s := floordiv_int hb (h _ _ (hs.toks _)) (.inl hp)

theorem r_lt (h : Q (.bool (decide (a < b))) s) : wpAny (model c.prog c.w) A (compareOp .Lt (.int a t) (.int b u)) Q E s := PyProof.Rows.lt_int h
theorem r_gt (h : Q (.bool (decide (b < a))) s) : wpAny (model c.prog c.w) A (compareOp .Gt (.int a t) (.int b u)) Q E s := PyProof.Rows.gt_int h
theorem r_eqi (h : Q (.bool (decide (a = b))) s) : wpAny (model c.prog c.w) A (compareOp .Eq (.int a t) (.int b u)) Q E s := PyProof.Rows.eq_int h

/-- a list's item -/
theorem r_item {value slice : Expr} {l : Addr} {vs : List Value} {k : Int} (hs : Is c F M s) (hm : (l, LsP vs) ∈ M) (h0 : 0 ≤ k) (hk : k < 2 ^ 63) (hx : vs[k.toNat]? = some v) (h : Q v s)
    (hsb : subscripted slice false (.ref l) (.int k u) = operate [.ref l, .int k u] (getItem (.ref l) (.int k u)) := by with_unfolding_all rfl) :
    wpAny (model c.prog c.w) A (subscriptTail value slice (.ref l) (.int k u)) Q E s :=
  tail_any (hs.ls hm).typeIs slot_list_getitem.lookup (wpAny_getItem_list (hs.ls hm) h0 hk (by simpa using hx) h) hsb

theorem LsP.set {h : Heap} {l : Addr} {vs : List Value} {f : Array Value → Array Value} {o : Obj} (e : h.get? l = some o) (hp : LsP vs o) (ws : List Value) (hw : f vs.toArray = ws.toArray) : ∃ o', (h.update l (Obj.mapSeq f)).get? l = some o' ∧ LsP ws o' := by
  obtain ⟨n, rfl⟩ := hp
  refine ⟨_, Heap.get?_update_self _ e rfl, ?_⟩
  simp only [Obj.mapSeq, hw]
  exact ⟨_, rfl⟩

theorem setItem_ex {l : Addr} {o : Obj} {items : Array Value} {n : Nat} {k : Int} {v : Value} {Q : Unit → Shared → Prop} (ho : s.heap.get? l = some o) (hc : o.cls = .type "list") (hd : o.data = .seq items n)
    (h0 : 0 ≤ k) (hfit : k < 2 ^ 63) (hn : k < items.size) (hQ : Q () { s with heap := s.heap.update l (Obj.mapSeq (·.setIfInBounds k.toNat v)) }) :
    wpAny (model c.prog c.w) A (setItem (.ref l) (.int k t) v) Q E s := by
  have hl : s.heap.IsList l items := ⟨o, ho, hc, n, hd⟩
  unfold setItem
  try with_reducible refine wpAny_holding ?_
  first | refine wpAny_bind (wpAny_pure ?_) | skip
  refine wpAny_bind (wpAny_sequenceKey hl.typeIs (by decide) ?_)
  refine wpAny_bind (wpAny_callSpecial?_slot (name := Str.ofString "__setitem__") hl.typeIs slot_list_setitem
    (wpAny_call_entry slot_list_setitem hl.typeIs entry_list_setitem ?_ (args_list_setitem _ _ _)))
  show wpAny _ _ (Builtin.List.listSubscript? (.int k t) >>= _) _ _ s
  refine wpAny_bind (wpAny_listSubscript_int (fitsIndex_of h0 hfit) ?_)
  clear hfit
  obtain ⟨j, rfl⟩ := Int.eq_ofNat_of_zero_le h0
  have hj : j < items.size := by omega
  have hx' : items[j]? = some items[j] := Array.getElem?_eq_getElem hj
  show wpAny _ _ ((seqItemAt l j >>= fun r => pure (r.map (j, ·))) >>= _) _ _ s
  refine wpAny_bind (wpAny_bind (wpAny_seqItemAt ho hd (wpAny_pure ?_)))
  rw [hx']
  show wpAny _ _ (setSeqItemAt l j v >>= _) _ _ s
  refine wpAny_bind (wpAny_setSeqItemAt ho hd ?_)
  first
    | exact wpAny_bind (wpAny_pure (wpAny_pure ⟨.none, rfl, wpAny_pure hQ⟩))
    | exact wpAny_pure ⟨.none, rfl, wpAny_pure hQ⟩

theorem r_setitem {l : Addr} {vs : List Value} {k : Int} {v : Value} {Q : Unit → Shared → Prop} {g : (Obj → Prop) → Led} (hs : Is c F M s) (hu : UpdF l (LsP vs) M g) (h0 : 0 ≤ k) (hn : k < vs.length) (hfit : k < 2 ^ 63)
    (h : ∀ s', Is c F (g (LsP (vs.set k.toNat v))) s' → Q () s') : wpAny (model c.prog c.w) A (setItem (.ref l) (.int k t) v) Q E s := by
  obtain ⟨o, e, n, rfl⟩ := hs.get hu.mem
  refine setItem_ex e rfl rfl h0 hfit (by simpa using hn) (h _ ?_)
  obtain ⟨o', e', hp⟩ := LsP.set (f := (·.setIfInBounds k.toNat v)) e ⟨n, rfl⟩ (vs.set k.toNat v) (by simp)
  exact hs.change hu.upd s.toks (fun b o hb eb => (Heap.get?_update_other _ _ (Ne.symm hb)).trans eb) e' hp

noncomputable def keyLt (p : Int) (a : Str) (q : Int) (b : Str) : Bool := decide (p < q) || (decide (p = q) && decide (a.cps.toList < b.cps.toList))

theorem tup_lt {x y : Addr} {p q : Int} {a b : Str} {t1 t2 u1 u2 : Tok} {n k : Nat} (hx : s.heap.get? x = some { cls := .type "tuple", data := .seq #[.int p t1, .str a t2] n })
    (hy : s.heap.get? y = some { cls := .type "tuple", data := .seq #[.int q u1, .str b u2] k }) (hu : A.units < cLine) (h : Q (.bool (keyLt p a q b)) s) :
    wpAny (model c.prog c.w) A (compareOp .Lt (.ref x) (.ref y)) Q E s := by
  show wpAny _ _ (richCompare .Lt (.ref x) (.ref y)) Q E s
  refine wpAny_richCompare_same_room (op := .Lt) (T := "tuple") ⟨_, hx, rfl⟩ ⟨_, hy, rfl⟩ F.slot_tuple_lt (wpAny_call_entry F.slot_tuple_lt ⟨_, hx, rfl⟩ F.entry_tuple_lt ?_ (F.args_tuple_lt_2 _ _)) hu
  obtain ⟨hp, g, d, tk, os⟩ := s
  have f2 := AutoSeq1.sub_tuple_tuple
  wp_walk using wpAny_loadPart' hx, wpAny_loadPart' hy, wpAny_forIn_list _ (fun rest b' s' => b'.1 = none ∧ s' = ⟨hp, g, d, tk, os⟩ ∧ (rest = [(Value.int p t1, Value.int q u1), (Value.str a t2, Value.str b u2)] ∨ (rest = [(Value.str a t2, Value.str b u2)] ∧ p = q) ∨ (rest = [] ∧ p = q ∧ a = b))) _
  case turn =>
    rintro ⟨y', x'⟩ rest b' s' ⟨hb', rfl, hz⟩
    rcases hz with hz | ⟨hz, rfl⟩ | ⟨hz, _⟩
    · simp only [List.cons.injEq, Prod.mk.injEq] at hz
      obtain ⟨⟨rfl, rfl⟩, rfl⟩ := hz
      refine wpAny_bind (wpAny_eqBool_int ?_)
      by_cases e : p = q
      · subst e
        simp only [BEq.rfl, Bool.not_true, Bool.false_eq_true, if_false]
        exact wpAny_pure ⟨rfl, rfl, .inr (.inl ⟨by simp, by simp⟩)⟩
      · have e' : (p == q) = false := by simpa using e
        simp only [e', Bool.not_false, if_true]
        refine wpAny_bind (wpAny_rule (wpAny_bind ?_))
        show wpAny _ _ (compareOp .Lt (.int p t1) (.int q u1)) _ _ _
        refine PyProof.Rows.lt_int (wpAny_bind (wpAny_pure (wpAny_pure (wpAny_pure ⟨_, rfl, by simp, ?_⟩))))
        simpa [keyLt, e] using h
    · simp only [List.cons.injEq, Prod.mk.injEq] at hz
      obtain ⟨⟨rfl, rfl⟩, rfl⟩ := hz
      refine wpAny_bind (wpAny_eqBool_str ?_)
      by_cases e : a = b
      · subst e
        simp only [decide_true, Bool.not_true, Bool.false_eq_true, if_false]
        exact wpAny_pure ⟨rfl, rfl, .inr (.inr ⟨by simp, by simp, by simp⟩)⟩
      · simp only [e, decide_false, Bool.not_false, if_true]
        refine wpAny_bind (wpAny_rule (wpAny_bind ?_))
        show wpAny _ _ (compareOp .Lt (.str a t2) (.str b u2)) _ _ _
        refine PyProof.Rows.lt_str (wpAny_bind (wpAny_pure (wpAny_pure (wpAny_pure ⟨_, rfl, by simp, ?_⟩))))
        simpa [keyLt] using h
    · cases hz
  case fin =>
    rintro ⟨b1, b2⟩ s' ⟨hb', rfl, hz⟩
    rcases hz with hz | ⟨hz, _⟩ | ⟨_, rfl, rfl⟩
    · cases hz
    · cases hz
    · simp only at hb'
      subst hb'
      refine wpAny_pure ⟨_, rfl, ?_⟩
      have e : decide (a.cps.toList < a.cps.toList) = false := decide_eq_false (List.lt_irrefl _)
      unfold keyLt at h
      rw [e] at h
      simpa [Builtin.Tuple.tupleCompareSizes] using h
  case h => exact ⟨rfl, rfl, .inl rfl⟩

end
end Mine

namespace Mine
section
variable {c : Cx} {F : List (Addr × Obj)} {M M' : Led} {s : Shared} {A : Around} {E : Value → Shared → Prop} {env : Env} {L : Addr} {m : Str → Option Value} {x : Str} {pos : Pos} {v : Value}

/-- a call of a plain def -/
theorem r_fn {n : Nat} {fa : Addr} {name qual : Str} {params : Arguments} {body : List Stmt} {scope : Scope} {dV kV doc pm cdv ct oc : Value} {an od : Option Addr} {osl : Array (Option Value)} {args : List Value} {binds : List (Str × Value)} {Q : Value → Shared → Prop}
    (hs : Is c F M s) (r : Rm (n + 1) A)
    (ho : c.K.lookup fa = some ⟨oc, od, .func (fnOf name qual params body scope dV kV doc pm an cdv ct), osl⟩) (hcd : codeIn c.K cdv qual = true)
    (hbind : BindsTo s (fnOf name qual params body scope dV kV doc pm an cdv ct) ⟨args, []⟩ binds) (hloc : ∀ y ∈ binds, scope.names.lookup y.1 = some .local)
    (h : ∀ L s', Rm n (A.deeper (envOf qual scope L fa cdv)) → Is c F ((L, NsP (fun y => binds.reverse.lookup y)) :: M) s' →
      wpAny (model c.prog c.w) (A.deeper (envOf qual scope L fa cdv)) (execs body (envOf qual scope L fa cdv)) (fun fl s'' => Q (match fl with | .ret v => v | _ => .none) s'') (fun _ _ => False) s')
    (hco : scope.isCoroutine = false := by rfl) (hgen : scope.isGenerator = false := by rfl) (hk : scope.kind = .function := by rfl)
    (hcell : ∀ x ∈ scope.names, x.2 ≠ .cell := by decide) : wpAny (model c.prog c.w) A (call (.ref fa) args) Q E s := by
  refine wpAny_call ?_
  refine codeAny_call_def (fd := fnOf name qual params body scope dV kV doc pm an cdv ct) (body := body) (binds := binds) r.room (hs.K _ _ ho) rfl hs.noLimit (codeRec_of hs.K hcd) rfl hbind hcell hloc (fun h₁ hns hk₁ => ?_) hco hgen hk
  have hn : s.heap.get? s.heap.objs.size = none := by
    cases e : s.heap.get? s.heap.objs.size with
    | none => rfl
    | some o => exact absurd (Heap.lt_size e) (Nat.lt_irrefl _)
  obtain ⟨o, e, q⟩ := NsP.of hns
  have hs' : Is c F ((s.heap.objs.size, NsP (fun y => binds.reverse.lookup y)) :: M) { s with heap := h₁, toks := s.toks + binds.length } := ⟨hs.st.add hk₁ hn hs.big e q, hs.gens, hs.os, hs.gd⟩
  exact wpAny_mono (h _ _ (r.deeper _) hs') (fun _ _ x => x) fun _ _ x => x.elim

/-- a def is called by its name -/
theorem r_Call {p : Pos} {e : Expr} {rest : List Expr} {f : Addr} {o : Obj} {fd : FuncData} {Q : Value → Shared → Prop} (hs : Is c F M s) (hg : c.mg x = some (.ref f)) (ho : c.K.lookup f = some o) (hdat : o.data = .func fd)
    (h : wpAny (model c.prog c.w) A (spliced (backTo pos (starEach (e :: rest) env))) (fun vs s₁ => c.K.In s₁.heap ∧ wpAny (model c.prog c.w) A (call (.ref f) vs) Q E s₁) E s)
    (he : starEach (e :: rest) env = (false, eval e env) :: starEach rest env := by rfl)
    (hk : env.scope.kind = .function := by rfl) (hx : env.kindOf x = some .globalImplicit := by rfl) (hgl : env.globals = mainGlobals := by rfl) (hd : (x == ("__debug__" : Str)) = false := by decide) :
    wpAny (model c.prog c.w) A (eval (.Call (.Name x p) (e :: rest) [] pos) env) Q E s := by
  show wpAny _ _ (do callWith pos (← eval (.Name x p) env) [] (backTo pos (starEach (e :: rest) env)) (backToKw pos (keywordEach [] env))) Q E s
  refine wpAny_bind (Name_function_global hk hx (loadGlobal_global (hgl ▸ hs.gd.T.g.keeps hs.st.base) hg ?_) hd)
  exact callWith_def hdat (wpAny_mono h (fun vs s₁ q => ⟨q.1 _ _ ho, q.2⟩) fun _ _ x => x) he

/-- a built-in function is called by its name -/
theorem r_CallB {p : Pos} {e : Expr} {rest : List Expr} {id : String} {Q : Value → Shared → Prop} (hs : Is c F M s) (hg : c.mg x = none) (hb : bootBuiltins x = some (.builtin id)) (hn : x ≠ "__name__")
    (h : wpAny (model c.prog c.w) A (spliced (backTo pos (starEach (e :: rest) env))) (fun vs s₁ => wpAny (model c.prog c.w) A (call (.builtin id) vs) Q E s₁) E s)
    (he : starEach (e :: rest) env = (false, eval e env) :: starEach rest env := by rfl) (hplain : (backTo pos (starEach rest env)).any (·.1) = false := by rfl)
    (hk : env.scope.kind = .function := by rfl) (hx : env.kindOf x = some .globalImplicit := by rfl) (hgl : env.globals = mainGlobals := by rfl) (hbl : env.builtins = builtinsNs := by rfl) (hd : (x == ("__debug__" : Str)) = false := by decide) :
    wpAny (model c.prog c.w) A (eval (.Call (.Name x p) (e :: rest) [] pos) env) Q E s := by
  show wpAny _ _ (do callWith pos (← eval (.Name x p) env) [] (backTo pos (starEach (e :: rest) env)) (backToKw pos (keywordEach [] env))) Q E s
  refine wpAny_bind (Name_function_global hk hx (loadGlobal_builtin (hgl ▸ hs.gd.T.g.keeps hs.st.base) hg (hbl ▸ hs.gd.T.b.keeps hs.st.base) ((hs.gd.T.builtins x hn).trans hb) ?_) hd)
  exact callWith_builtin1 h he hplain

/-- while, by an invariant and a measure -/
theorem r_while {test : Expr} {body : List Stmt} {Q : Flow → Shared → Prop} (I : Nat → Shared → Prop) (n : Nat) (h0 : I n s)
    (turn : ∀ n s E', I n s → wpAny (model c.prog c.w) A (isTrue test env (eval test env)) (fun b s₂ => if b then wpAny (model c.prog c.w) A (execs body env) (fun f s₃ => match f with
            | .next | .cont => ∃ m, m < n ∧ I m s₃
            | .brk => Q .next s₃
            | .ret v => Q (.ret v) s₃) E' s₂
        else Q .next s₂) E' s) :
    wpAny (model c.prog c.w) A (exec (.While test body [] pos) env) Q E s := by
  refine wpAny_While (codeAny_whileLoop I (fun n s hI => wpAny_mono (turn n s _ hI) (fun b s₂ hb => ?_) fun _ _ x => x) n h0)
  cases b with
  | true =>
    simp only [if_true] at hb ⊢
    exact wpAny_mono hb (fun f s₃ q => by cases f <;> exact q) fun _ _ x => x
  | false => simp only [Bool.false_eq_true, if_false] at hb ⊢; exact wpAny_execs_nil hb

theorem r_len {l : Addr} {vs : List Value} {Q : Value → Shared → Prop} (hs : Is c F M s) (hm : (l, LsP vs) ∈ M) (hf : (vs.length : Int) < 2 ^ 63) (h : ∀ t s', Is c F M s' → Q (.int vs.length t) s') :
    wpAny (model c.prog c.w) A (call (.builtin "len") [.ref l]) Q E s := by
  refine call_len_list (hs.ls hm) (by simpa using hf) ?_
  have := h (s.toks + 1) _ (hs.toks (s.toks + 1 + 1))
  simpa using this
end
end Mine

namespace Mine
noncomputable abbrev cx (w : World) (B : Heap) (os : OsState) (mg mb : Str → Option Value) : Cx :=
  { prog := PySem.Challenge.rw_nq0054_01.row.prog, w := w, B := B, os := os, K := Mine.myK w.params, mg := mg, mb := mb }

variable {w : World} {B : Heap} {os : OsState} {mg mb : Str → Option Value} {F : List (Addr × Obj)} {M M' : Led} {s : Shared} {A : Around} {E : Value → Shared → Prop}

theorem g_siftdown (G : Gd (cx w B os mg mb)) : mg "_siftdown" = some (.ref 118) := mg_of G.X G.T.g (by kernel_rfl)
theorem g_siftup (G : Gd (cx w B os mg mb)) : mg "_siftup" = some (.ref 125) := mg_of G.X G.T.g (by kernel_rfl)
theorem b_len (G : Gd (cx w B os mg mb)) : mg "len" = none := mg_none_of G.X G.T.g (by kernel_rfl)

theorem bb_len : bootBuiltins "len" = some (.builtin "len") := by kernel_rfl
/-- a key of the heap as a value over the frozen objects -/
noncomputable def KeyIn (F : List (Addr × Obj)) (v : Value) (k : Int × Str) : Prop := Ex4 fun a n t u => v = .ref a ∧ (a, ({ cls := .type "tuple", data := .seq #[.int k.1 t, .str k.2 u] n } : Obj)) ∈ F
inductive Keys (F : List (Addr × Obj)) : List Value → List (Int × Str) → Prop
  | nil : Keys F [] []
  | cons {v vs k ks} : KeyIn F v k → Keys F vs ks → Keys F (v :: vs) (k :: ks)

theorem Keys.length {F : List (Addr × Obj)} {vs : List Value} {ks : List (Int × Str)} (h : Keys F vs ks) : vs.length = ks.length := by
  induction h with
  | nil => rfl
  | cons _ _ ih => simp [ih]
theorem Keys.get {F : List (Addr × Obj)} {vs : List Value} {ks : List (Int × Str)} (h : Keys F vs ks) : ∀ {i : Nat} {k : Int × Str}, ks[i]? = some k → ∃ v, vs[i]? = some v ∧ KeyIn F v k := by
  induction h with
  | nil => intro i k e; simp at e
  | cons hv _ ih =>
    intro i k e
    cases i with
    | zero => simp at e; subst e; exact ⟨_, rfl, hv⟩
    | succ i => exact ih (by simpa using e)
theorem Keys.set {F : List (Addr × Obj)} {vs : List Value} {ks : List (Int × Str)} {v : Value} {k : Int × Str} (h : Keys F vs ks) (hv : KeyIn F v k) : ∀ (i : Nat), Keys F (vs.set i v) (ks.set i k) := by
  induction h with
  | nil => intro i; exact .nil
  | cons hv' r ih =>
    intro i
    cases i with
    | zero => exact .cons hv r
    | succ i => exact .cons hv' (ih i)
theorem KeyIn.mono {F F' : List (Addr × Obj)} {v : Value} {k : Int × Str} (h : KeyIn F v k) (hf : ∀ p ∈ F, p ∈ F') : KeyIn F' v k := let ⟨a, n, t, u, e, m⟩ := h; ⟨a, n, t, u, e, hf _ m⟩
theorem Keys.mono {F F' : List (Addr × Obj)} {vs : List Value} {ks : List (Int × Str)} (h : Keys F vs ks) (hf : ∀ p ∈ F, p ∈ F') : Keys F' vs ks := by
  induction h with
  | nil => exact .nil
  | cons hv _ ih => exact .cons (hv.mono hf) ih

noncomputable def kLt (a b : Int × Str) : Bool := keyLt a.1 a.2 b.1 b.2

theorem r_ltk {c : Cx} {n : Nat} {v v' : Value} {k k' : Int × Str} {Q : Value → Shared → Prop} (hs : Is c F M s) (r : Rm n A) (hv : KeyIn F v k) (hv' : KeyIn F v' k') (h : Q (.bool (kLt k k')) s) :
    wpAny (model c.prog c.w) A (compareOp .Lt v v') Q E s := by
  obtain ⟨a, n, t, u, rfl, ma⟩ := hv
  obtain ⟨a', n', t', u', rfl, ma'⟩ := hv'
  exact tup_lt (hs.getF ma) (hs.getF ma') (by have := r.un; show A.units < 9900; lia) h

/-- _siftdown, over plain lists -/
noncomputable def sd {α : Type} (lt : α → α → Bool) (new : α) (xs : List α) (sp p : Nat) : List α :=
  if h : sp < p then
    match xs[(p - 1) / 2]? with
    | some par => if lt new par then sd lt new (xs.set p par) sp ((p - 1) / 2) else xs.set p new
    | none => xs.set p new
  else xs.set p new
termination_by p
decreasing_by lia

theorem siftdown_c {a : Addr} {vs : List Value} {ks : List (Int × Str)} {p sp : Nat} {t u : Tok} {knew : Int × Str} {g : (Obj → Prop) → Led} {Q : Value → Shared → Prop} (hs : Is (cx w B os mg mb) F M s) (r : Rm 5 A)
    (hu : UpdF a (LsP vs) M g) (hk : Keys F vs ks) (hp : ks[p]? = some knew) (hz : vs.length < 1000)
    (k : ∀ vs' s', Keys F vs' (sd kLt knew ks sp p) → vs'.length = vs.length → Is (cx w B os mg mb) F (g (LsP vs')) s' → Q .none s') :
    wpAny (model (cx w B os mg mb).prog w) A (call (.ref 118) [.ref a, .int sp t, .int p u]) Q E s := by
  refine r_fn (binds := [("heap", .ref a), ("startpos", .int sp t), ("pos", .int p u)]) hs r (by rfl) (by kernel_rfl) (.of_eq rfl) (locs rfl) (fun L s' r' hs' => ?_)
  obtain ⟨vn, hvn, hkn⟩ := hk.get hp
  have hlt : p < vs.length := (List.getElem?_eq_some_iff.mp hvn).1
  refine wpAny_execs_cons (r_assign ?_)
  refine Subscript_ ?_
  refine r_loc hs' (.head _) rfl ?_
  refine r_loc hs' (.head _) rfl ?_
  refine r_item hs' (.tail _ hu.mem) (by lia) (by lia) (by simpa using hvn) ?_
  refine r_st hs' .head (fun s' hs' => ?_)
  refine wpAny_execs_cons ?_
  refine r_while (c := cx w B os mg mb) (fun n s => Ex4 fun vs' ks' m t' => And9 (Is (cx w B os mg mb) F ((L, NsP m) :: g (LsP vs')) s) (Keys F vs' ks') (vs'.length = vs.length) (n < vs.length) (sd kLt knew ks' sp n = sd kLt knew ks sp p) (m "heap" = some (.ref a)) (m "startpos" = some (.int sp t)) (m "pos" = some (.int n t')) (m "newitem" = some vn)) p ?_ ?_
  · exact ⟨vs, ks, _, u, by rw [hu.same]; exact hs', hk, rfl, hlt, rfl, rfl, rfl, rfl, rfl⟩
  · rintro n s E' ⟨vs', ks', m, t', hs, hk', hl', hn, hsd, m1, m2, m3, m4⟩
    refine wpAny_isTrue_Compare1 ?_
    refine r_loc hs (.head _) m3 ?_
    refine r_loc hs (.head _) m2 ?_
    refine r_gt (wpAny_truthy_bool ?_)
    refine split_bool (fun h1 => ?_) (fun h1 => ?_)
    · refine gen fun QB hQB => ?_
      have h1 : sp < n := by simpa using h1
      have hq : (n - 1) / 2 < vs'.length := by lia
      obtain ⟨kp, ekp⟩ : ∃ kp, ks'[(n - 1) / 2]? = some kp := ⟨_, List.getElem?_eq_getElem (by rw [← hk'.length]; exact hq)⟩
      obtain ⟨vp, evp, hkp⟩ := hk'.get ekp
      refine wpAny_execs_cons (r_assign (wpAny_BinOp (wpAny_BinOp ?_)))
      refine r_loc hs (.head _) m3 ?_
      refine r_int hs fun t1 s hs => ?_
      refine r_sub hs fun t2 s hs => ?_
      refine r_int hs fun t1 s hs => ?_
      refine r_shr hs (by decide) fun t3 s hs => ?_
      refine r_st hs .head fun s hs => ?_
      have e1 : ((n : Int) - 1).fdiv (2 ^ (1 : Int).toNat) = (((n - 1) / 2 : Nat) : Int) := by
        rw [fdiv_two]; lia
      rw [e1] at hs
      refine wpAny_execs_cons (r_assign (Subscript_ ?_))
      refine r_loc hs (.head _) m1 ?_
      refine r_loc hs (.head _) rfl ?_
      refine r_item hs (.tail _ hu.again.mem) (by lia) (by lia) (by rw [Int.toNat_natCast]; exact evp) ?_
      refine r_st hs .head fun s hs => ?_
      refine wpAny_execs_cons (wpAny_If (wpAny_isTrue_Compare1 ?_))
      refine r_loc hs (.head _) m4 ?_
      refine r_loc hs (.head _) rfl ?_
      refine r_ltk hs r' hkn hkp (wpAny_truthy_bool ?_)
      rw [sd, dif_pos h1, ekp] at hsd
      dsimp only at hsd
      refine split_bool (fun h2 => ?_) (fun h2 => ?_)
      · rw [if_pos h2] at hsd
        refine wpAny_execs_cons (wpAny_Assign_Subscript ?_)
        refine r_loc hs (.head _) rfl ?_
        refine r_loc hs (.head _) m1 ?_
        refine r_loc hs (.head _) m3 ?_
        refine r_setitem hs (.tail hu.again) (by lia) (by lia) (by lia) fun s hs => ?_
        refine wpAny_execs_cons (r_assign ?_)
        refine r_loc hs (.head _) rfl ?_
        refine r_st hs .head fun s hs => ?_
        refine wpAny_execs_cons (wpAny_Continue (hQB _ _ ?_))
        refine ⟨(n - 1) / 2, by lia, _, ks'.set n kp, _, t3, hs, ?_, by simpa using hl', by lia, hsd, m1, m2, rfl, m4⟩
        simpa using hk'.set hkp n
      · rw [if_neg (by rw [h2]; decide)] at hsd
        refine wpAny_execs_nil (wpAny_execs_cons (wpAny_Break (hQB _ _ ?_)))
        refine wpAny_execs_cons (wpAny_Assign_Subscript ?_)
        refine r_loc hs (.head _) m4 ?_
        refine r_loc hs (.head _) m1 ?_
        refine r_loc hs (.head _) m3 ?_
        refine r_setitem hs (.tail hu.again) (by lia) (by lia) (by lia) fun s hs => ?_
        refine wpAny_execs_nil ?_
        refine k _ _ ?_ ?_ hs.drop
        · rw [← hsd]; simpa using hk'.set hkn n
        · simpa using hl'
    · have h1 : ¬ sp < n := by simpa using h1
      rw [sd, dif_neg h1] at hsd
      refine wpAny_execs_cons (wpAny_Assign_Subscript ?_)
      refine r_loc hs (.head _) m4 ?_
      refine r_loc hs (.head _) m1 ?_
      refine r_loc hs (.head _) m3 ?_
      refine r_setitem hs (.tail hu.again) (by lia) (by lia) (by lia) fun s hs => ?_
      refine wpAny_execs_nil ?_
      refine k _ _ ?_ ?_ hs.drop
      · rw [← hsd]; simpa using hk'.set hkn n
      · simpa using hl'
end Mine

namespace Mine
variable {w : World} {B : Heap} {os : OsState} {mg mb : Str → Option Value} {F : List (Addr × Obj)} {M M' : Led} {s : Shared} {A : Around} {E : Value → Shared → Prop}

theorem r_cut {α : Type} {Md : Model} {t : Sem α} {Q Q' : α → Shared → Prop} (h : wpAny Md A t Q' E s) (k : ∀ a s, Q' a s → Q a s) : wpAny Md A t Q E s := wpAny_mono h k fun _ _ x => x

/-- the smaller child's place -/
noncomputable def chd {α : Type} (lt : α → α → Bool) (xs : List α) (p : Nat) : Nat :=
  match xs[2 * p + 1]?, xs[2 * p + 2]? with
  | some l, some r => if lt l r then 2 * p + 1 else 2 * p + 2
  | _, _ => 2 * p + 1
theorem chd_le {α : Type} (lt : α → α → Bool) (xs : List α) (p : Nat) : p < chd lt xs p := by
  unfold chd; split
  · split <;> omega
  · omega
theorem chd_lt {α : Type} {lt : α → α → Bool} {xs : List α} {p : Nat} (h : 2 * p + 1 < xs.length) : chd lt xs p < xs.length := by
  unfold chd; split
  · rename_i l r e1 e2
    have := (List.getElem?_eq_some_iff.mp e2).1
    split <;> omega
  · exact h

/-- the way down to a leaf -/
noncomputable def dn {α : Type} (lt : α → α → Bool) (xs : List α) (p : Nat) : List α × Nat :=
  if h : 2 * p + 1 < xs.length then
    match xs[chd lt xs p]? with
    | some x => dn lt (xs.set p x) (chd lt xs p)
    | none => (xs, p)
  else (xs, p)
termination_by xs.length - p
decreasing_by
  have := chd_le lt xs p
  simp only [List.length_set]; omega

/-- _siftup, over plain lists -/
noncomputable def su {α : Type} (lt : α → α → Bool) (new : α) (xs : List α) (p : Nat) : List α :=
  sd lt new ((dn lt xs p).1.set (dn lt xs p).2 new) p (dn lt xs p).2

theorem siftup_c {a : Addr} {vs : List Value} {ks : List (Int × Str)} {p : Nat} {u : Tok} {knew : Int × Str} {g : (Obj → Prop) → Led} {Q : Value → Shared → Prop} (hs : Is (cx w B os mg mb) F M s) (r : Rm 7 A)
    (hu : UpdF a (LsP vs) M g) (hk : Keys F vs ks) (hp : ks[p]? = some knew) (hz : vs.length < 1000)
    (k : ∀ vs' s', Keys F vs' (su kLt knew ks p) → vs'.length = vs.length → Is (cx w B os mg mb) F (g (LsP vs')) s' → Q .none s') :
    wpAny (model (cx w B os mg mb).prog w) A (call (.ref 125) [.ref a, .int p u]) Q E s := by
  refine r_fn (binds := [("heap", .ref a), ("pos", .int p u)]) hs r (by rfl) (by kernel_rfl) (.of_eq rfl) (locs rfl) (fun L s r' hs => ?_)
  obtain ⟨vn, hvn, hkn⟩ := hk.get hp
  have hlt : p < vs.length := (List.getElem?_eq_some_iff.mp hvn).1
  refine wpAny_execs_cons (r_assign ?_)
  refine r_CallB (c := cx w B os mg mb) hs (b_len hs.gd) bb_len (by decide) ?_
  refine wpAny_items_cons ?_
  refine r_loc hs (.head _) rfl ?_
  refine wpAny_items_nil ?_
  refine r_len hs (.tail _ hu.mem) (by omega) fun te s hs => ?_
  refine r_st hs .head fun s hs => ?_
  refine wpAny_execs_cons (r_assign ?_)
  refine r_loc hs (.head _) rfl ?_
  refine r_st hs .head fun s hs => ?_
  refine wpAny_execs_cons (r_assign (Subscript_ ?_))
  refine r_loc hs (.head _) rfl ?_
  refine r_loc hs (.head _) rfl ?_
  refine r_item hs (.tail _ hu.mem) (by omega) (by omega) (by simpa using hvn) ?_
  refine r_st hs .head fun s hs => ?_
  refine wpAny_execs_cons (r_assign (wpAny_BinOp (wpAny_BinOp ?_)))
  refine r_int hs fun _ s hs => ?_
  refine r_loc hs (.head _) rfl ?_
  refine r_mul hs (.of_left (by decide)) fun _ s hs => ?_
  refine r_int hs fun _ s hs => ?_
  refine r_add hs fun tc s hs => ?_
  refine r_st hs .head fun s hs => ?_
  refine wpAny_execs_cons ?_
  refine r_while (c := cx w B os mg mb) (fun n s => Ex6 fun vs' ks' m q t' tc' => And12 (Is (cx w B os mg mb) F ((L, NsP m) :: g (LsP vs')) s) (Keys F vs' ks') (vs'.length = vs.length) (n = vs.length - q) (q < vs.length) (dn kLt ks' q = dn kLt ks p) (m "heap" = some (.ref a)) (m "startpos" = some (.int p u)) (m "pos" = some (.int q t')) (m "newitem" = some vn) (m "endpos" = some (.int vs.length te)) (m "childpos" = some (.int (2 * q + 1) tc'))) (vs.length - p) ?_ ?_
  · exact ⟨vs, ks, _, p, u, tc, by rw [hu.same]; exact hs, hk, rfl, rfl, hlt, rfl, rfl, rfl, rfl, rfl, rfl, rfl⟩
  · rintro n s E' ⟨vs', ks', m, q, t', tc', hs, hk', hl', rfl, hq, hdn, m1, m2, m3, m4, m5, m6⟩
    have hkl := hk'.length
    refine wpAny_isTrue_Compare1 ?_
    refine r_loc hs (.head _) m6 ?_
    refine r_loc hs (.head _) m5 ?_
    refine r_lt (wpAny_truthy_bool ?_)
    refine split_bool (fun h1 => ?_) (fun h1 => ?_)
    · refine gen fun QB hQB => ?_
      have h1 : 2 * q + 1 < vs.length := by have := of_decide_eq_true h1; omega
      have h1' : 2 * q + 1 < ks'.length := by omega
      rw [dn, dif_pos h1'] at hdn
      have hc := chd_lt (lt := kLt) h1'
      have hc0 := chd_le kLt ks' q
      obtain ⟨kc, ekc⟩ : ∃ kp, ks'[chd kLt ks' q]? = some kp := ⟨_, List.getElem?_eq_getElem hc⟩
      rw [ekc] at hdn
      dsimp only at hdn
      obtain ⟨vc, evc, hkc⟩ := hk'.get ekc
      obtain ⟨kl, ekl⟩ : ∃ kp, ks'[2 * q + 1]? = some kp := ⟨_, List.getElem?_eq_getElem h1'⟩
      obtain ⟨vl, evl, hkl'⟩ := hk'.get ekl
      refine wpAny_execs_cons (r_assign (wpAny_BinOp ?_))
      refine r_loc hs (.head _) m6 ?_
      refine r_int hs fun _ s hs => ?_
      refine r_add hs fun tr s hs => ?_
      refine r_st hs .head fun s hs => ?_
      refine wpAny_execs_cons (r_cut (Q' := fun f s => f = .next ∧ (Ex2 fun m t => And7 (Is (cx w B os mg mb) F ((L, NsP m) :: g (LsP vs')) s) (m "heap" = some (.ref a)) (m "startpos" = some (.int p u)) (m "pos" = some (.int q t')) (m "newitem" = some vn) (m "endpos" = some (.int vs.length te)) (m "childpos" = some (.int (chd kLt ks' q : Nat) t)))) ?_ ?_)
      · refine gen fun QC hQC => ?_
        refine wpAny_If (wpAny_isTrue_BoolOp (wpAny_allTrue_And_cons (wpAny_isTrue_Compare1 ?_)))
        refine r_loc hs (.head _) rfl ?_
        refine r_loc hs (.head _) m5 ?_
        refine r_lt (wpAny_truthy_bool ?_)
        refine split_bool (fun h2 => ?_) (fun h2 => ?_)
        · have h2 : 2 * q + 2 < vs.length := by have := of_decide_eq_true h2; omega
          obtain ⟨kr, ekr⟩ : ∃ kp, ks'[2 * q + 2]? = some kp := ⟨_, List.getElem?_eq_getElem (by omega)⟩
          obtain ⟨vr, evr, hkr⟩ := hk'.get ekr
          refine wpAny_allTrue_And_cons (wpAny_isTrue_Not (wpAny_isTrue_Compare1 (Subscript_ ?_)))
          refine r_loc hs (.head _) m1 ?_
          refine r_loc hs (.head _) m6 ?_
          refine r_item hs (.tail _ hu.again.mem) (by omega) (by omega) (by rw [show (2 * (q : Int) + 1).toNat = 2 * q + 1 by omega]; exact evl) ?_
          refine Subscript_ ?_
          refine r_loc hs (.head _) m1 ?_
          refine r_loc hs (.head _) rfl ?_
          refine r_item hs (.tail _ hu.again.mem) (by omega) (by omega) (by rw [show (2 * (q : Int) + 1 + 1).toNat = 2 * q + 2 by omega]; exact evr) ?_
          refine r_ltk hs r' hkl' hkr (wpAny_truthy_bool ?_)
          cases h3 : kLt kl kr with
          | true =>
            refine if_f rfl (if_f rfl ?_)
            refine wpAny_execs_nil (hQC _ _ ⟨rfl, _, tc', hs, m1, m2, m3, m4, m5, ?_⟩)
            have e : chd kLt ks' q = 2 * q + 1 := by unfold chd; rw [ekl, ekr]; simp [h3]
            rw [e]; exact m6
          | false =>
            refine if_t rfl (wpAny_allTrue_And_nil (if_t rfl ?_))
            refine wpAny_execs_cons (r_assign ?_)
            refine r_loc hs (.head _) rfl ?_
            refine r_st hs .head fun s hs => ?_
            have e : chd kLt ks' q = 2 * q + 2 := by unfold chd; rw [ekl, ekr]; simp [h3]
            refine wpAny_execs_nil (hQC _ _ ⟨rfl, _, tr, hs, m1, m2, m3, m4, m5, ?_⟩)
            rw [e]
            show some (Value.int (2 * (q : Int) + 1 + 1) tr) = some (Value.int ((2 * q + 2 : Nat) : Int) tr)
            rw [show (2 * (q : Int) + 1 + 1) = ((2 * q + 2 : Nat) : Int) by omega]
        · have h2 : ¬ 2 * q + 2 < vs.length := by have := of_decide_eq_false h2; omega
          refine if_f rfl ?_
          have e : chd kLt ks' q = 2 * q + 1 := by
            unfold chd; rw [ekl, List.getElem?_eq_none (by omega)]
          refine wpAny_execs_nil (hQC _ _ ⟨rfl, _, tc', hs, m1, m2, m3, m4, m5, ?_⟩)
          rw [e]; exact m6
      · clear hs
        rintro _ s ⟨rfl, m, t, hs, m1, m2, m3, m4, m5, m6⟩
        refine wpAny_execs_cons (wpAny_Assign_Subscript (Subscript_ ?_))
        refine r_loc hs (.head _) m1 ?_
        refine r_loc hs (.head _) m6 ?_
        refine r_item hs (.tail _ hu.again.mem) (by omega) (by omega) (by rw [Int.toNat_natCast]; exact evc) ?_
        refine r_loc hs (.head _) m1 ?_
        refine r_loc hs (.head _) m3 ?_
        refine r_setitem hs (.tail hu.again) (by omega) (by omega) (by omega) fun s hs => ?_
        refine wpAny_execs_cons (r_assign ?_)
        refine r_loc hs (.head _) m6 ?_
        refine r_st hs .head fun s hs => ?_
        refine wpAny_execs_cons (r_assign (wpAny_BinOp (wpAny_BinOp ?_)))
        refine r_int hs fun _ s hs => ?_
        refine r_loc hs (.head _) rfl ?_
        refine r_mul hs (.of_left (by decide)) fun _ s hs => ?_
        refine r_int hs fun _ s hs => ?_
        refine r_add hs fun tc s hs => ?_
        refine r_st hs .head fun s hs => ?_
        refine wpAny_execs_nil (hQB _ _ ?_)
        refine ⟨vs.length - chd kLt ks' q, by omega, _, ks'.set q kc, _, chd kLt ks' q, t, tc, hs, ?_, by simpa using hl', rfl, by omega, hdn, m1, m2, rfl, m4, m5, rfl⟩
        simpa using hk'.set hkc q
    · have h1 : ¬ 2 * q + 1 < vs.length := by have := of_decide_eq_false h1; omega
      rw [dn, dif_neg (by omega)] at hdn
      refine wpAny_execs_cons (wpAny_Assign_Subscript ?_)
      refine r_loc hs (.head _) m4 ?_
      refine r_loc hs (.head _) m1 ?_
      refine r_loc hs (.head _) m3 ?_
      refine r_setitem hs (.tail hu.again) (by omega) (by omega) (by omega) fun s hs => ?_
      refine wpAny_execs_cons (wpAny_Expr ?_)
      refine r_Call (c := cx w B os mg mb) hs (g_siftdown hs.gd) (by rfl) rfl ?_
      refine wpAny_items_cons ?_
      refine r_loc hs (.head _) m1 ?_
      refine wpAny_items_cons ?_
      refine r_loc hs (.head _) m2 ?_
      refine wpAny_items_cons ?_
      refine r_loc hs (.head _) m3 ?_
      refine wpAny_items_nil ⟨hs.K, ?_⟩
      have hk2 : Keys F (vs'.set (q : Int).toNat vn) (ks'.set q knew) := by simpa using hk'.set hkn q
      refine siftdown_c (knew := knew) hs (r'.mono (by decide)) (.tail hu.again) hk2 (List.getElem?_set_self (by omega)) (by rw [List.length_set]; omega) fun vs2 s hk3 hl3 hs => ?_
      refine wpAny_execs_nil ?_
      refine k _ _ ?_ ?_ hs.drop
      · rw [su, ← hdn]; exact hk3
      · rw [hl3]; simpa using hl'
end Mine

namespace Mine

/-- one entry taken out -/
inductive Out (p : Addr × (Obj → Prop)) : Led → Led → Prop
  | head {r} : Out p (p :: r) r
  | tail {q r r'} : Out p r r' → Out p (q :: r) (q :: r')
theorem Out.perm {p : Addr × (Obj → Prop)} : ∀ {M M' : Led}, Out p M M' → (p :: M').Perm M
  | _, _, .head => .refl _
  | _, _, .tail r => (List.Perm.swap _ _ _).trans (r.perm.cons _)
section
variable {c : Cx} {F F' : List (Addr × Obj)} {M M' : Led} {s : Shared} {a : Addr} {P : Obj → Prop}
theorem Is.out (x : Is c F M s) (o : Out (a, P) M M') : Is c F M' s := (x.perm o.perm).drop
theorem St.freeze' {B h : Heap} {o : Obj} (x : St B F ((a, P) :: M) h) (e : h.get? a = some o) : St B ((a, o) :: F) M h where
  base := x.base
  fro := fun p hp => by
    rcases List.mem_cons.mp hp with rfl | hp
    · exact e
    · exact x.fro p hp
  led := fun q hq => x.led q (.tail _ hq)
  up := fun q hq => x.up q (.tail _ hq)
  upF := fun p hp => by
    rcases List.mem_cons.mp hp with rfl | hp
    · exact x.up (a, P) (.head _)
    · exact x.upF p hp
  hi := fun q hq => x.hi q (.tail _ hq)
  hiF := fun p hp => by
    rcases List.mem_cons.mp hp with rfl | hp
    · exact x.hi (a, P) (.head _)
    · exact x.hiF p hp
  off := fun q hq p hp => by
    rcases List.mem_cons.mp hp with rfl | hp
    · intro e
      exact (List.nodup_cons.mp x.nd).1 (List.mem_map.mpr ⟨q, hq, e⟩)
    · exact x.off q (.tail _ hq) p hp
  nd := (List.nodup_cons.mp x.nd).2
theorem Is.fz (x : Is c F M s) (o : Out (a, P) M M') : ∃ ob, P ob ∧ Is c ((a, ob) :: F) M' s := by
  have y := x.perm o.perm
  obtain ⟨ob, e, q⟩ := y.get (.head _)
  exact ⟨ob, q, y.st.freeze' e, y.gens, y.os, y.gd⟩
theorem Is.fz_eq {ob : Obj} (x : Is c F M s) (o : Out (a, (· = ob)) M M') : Is c ((a, ob) :: F) M' s := by
  obtain ⟨ob', rfl, h⟩ := x.fz o; exact h
/-- a new object onto the ledger -/
theorem Is.new (x : Is c F M s) {h' : Heap} {t : Nat} {o : Obj} (hk : ∀ b o, s.heap.get? b = some o → h'.get? b = some o) (hn : s.heap.get? a = none) (h3 : 3 < a) (ho : h'.get? a = some o) (hP : P o) : Is c F ((a, P) :: M) { s with heap := h', toks := t } :=
  ⟨x.st.add hk hn h3 ho hP, x.gens, x.os, x.gd⟩
theorem Heap.get_size (h : Heap) : h.get? h.objs.size = none := by
  cases e : h.get? h.objs.size with
  | none => rfl
  | some o => exact absurd (Heap.lt_size e) (Nat.lt_irrefl _)
theorem Is.push (x : Is c F M s) (o : Obj) (hf : o.isFreed = false := by rfl) : Is c F ((s.heap.objs.size, (· = o)) :: M) { s with heap := s.heap.push o } :=
  x.new (t := s.toks) (fun b o' e => Heap.get?_push_of_some _ e) (Heap.get_size _) x.big (Heap.get?_push_size _ hf) rfl
theorem Is.weaken {P' : Obj → Prop} (x : Is c F ((a, P) :: M) s) (h : ∀ o, P o → P' o) : Is c F ((a, P') :: M) s :=
  ⟨x.st.sub (fun p hp => by
    rcases List.mem_cons.mp hp with rfl | hp
    · exact ⟨P, .head _, h⟩
    · exact ⟨p.2, .tail _ hp, fun _ q => q⟩) x.st.nd, x.gens, x.os, x.gd⟩
end

section
variable {c : Cx} {F : List (Addr × Obj)} {M M' : Led} {s : Shared} {A : Around} {E : Value → Shared → Prop} {env : Env} {x : Str} {pos : Pos} {v : Value}

/-- an iterator: its object's make behind i items, the items -/
structure Iter (c : Cx) (A : Around) (I : Addr) (n : Nat) (Fd : List (Addr × Obj)) (P : Nat → Obj → Prop) (V : Nat → Value → Prop) : Prop where
  item : ∀ i F M s (Q : Option Value → Shared → Prop) (E : Value → Shared → Prop), i < n → Is c F ((I, P i) :: M) s → (∀ p ∈ Fd, p ∈ F) → (∀ v s', V i v → Is c F ((I, P (i + 1)) :: M) s' → Q (some v) s') → wpAny (model c.prog c.w) A (pyNext (.ref I)) Q E s
  done : ∀ F M s (Q : Option Value → Shared → Prop) (E : Value → Shared → Prop), Is c F ((I, P n) :: M) s → (∀ p ∈ Fd, p ∈ F) → (∀ s', Is c F M s' → Q none s') → wpAny (model c.prog c.w) A (pyNext (.ref I)) Q E s
  self : ∀ i F M s (Q : Value → Shared → Prop) (E : Value → Shared → Prop), Is c F ((I, P i) :: M) s → Q (.ref I) s → wpAny (model c.prog c.w) A (pyIter (.ref I)) Q E s

theorem Iter.of_walks {I : Addr} {n : Nat} {Fd : List (Addr × Obj)} {P : Nat → Obj → Prop} {V : Nat → Value → Prop} {fp : List Addr} {Sx : Nat → Heap → Prop} (W : Walks c.prog c.w A I fp [I] n V Sx)
    (to : ∀ i F M s, Is c F ((I, P i) :: M) s → (∀ p ∈ Fd, p ∈ F) → Sx i s.heap) (back : ∀ i h, Sx i h → ∃ o, h.get? I = some o ∧ P i o)
    (self : ∀ i F M s (Q : Value → Shared → Prop) (E : Value → Shared → Prop), Is c F ((I, P i) :: M) s → Q (.ref I) s → wpAny (model c.prog c.w) A (pyIter (.ref I)) Q E s) : Iter c A I n Fd P V where
  item := fun i F M s Q E hi hs hF k => W.item i s Q E hi (to i F M s hs hF) fun v h' tk hv hst hk => by
    obtain ⟨o, e, q⟩ := back _ _ hst
    exact k v _ hv (hs.change .head tk (fun b o hb e => hk b o (by simpa using hb) e) e q)
  done := fun F M s Q E hs hF k => W.done s Q E (to n F M s hs hF) fun h' tk hk => by
    refine k _ ⟨⟨fun b o e => hk b o ?_ (hs.st.base b o e), fun p hp => hk _ _ ?_ (hs.st.fro p hp), fun p hp => ?_, fun p hp => hs.st.up p (.tail _ hp), hs.st.upF, fun p hp => hs.st.hi p (.tail _ hp), hs.st.hiF, fun p hp => hs.st.off p (.tail _ hp), (List.nodup_cons.mp hs.st.nd).2⟩, hs.gens, hs.os, hs.gd⟩
    · intro hb; rw [List.mem_singleton] at hb; subst hb; exact hs.st.noB (.head _) e
    · intro hb; rw [List.mem_singleton] at hb; exact hs.st.off _ (.head _) p hp hb.symm
    · obtain ⟨o, e, q⟩ := hs.get (.tail _ hp)
      refine ⟨o, hk _ _ ?_ e, q⟩
      intro hb; rw [List.mem_singleton] at hb
      exact (List.nodup_cons.mp hs.st.nd).1 (List.mem_map.mpr ⟨p, hp, hb⟩)
  self := self

theorem r_for {target : Expr} {body : List Stmt} {I : Addr} {n : Nat} {Fd : List (Addr × Obj)} {P : Nat → Obj → Prop} {V : Nat → Value → Prop} {Q : Flow → Shared → Prop} (T : Iter c A I n Fd P V) (J : Nat → List (Addr × Obj) → Led → Prop)
    (hs : Is c F ((I, P 0) :: M) s) (hF : ∀ p ∈ Fd, p ∈ F) (h0 : J 0 F M)
    (turn : ∀ i v F' M' s E', i < n → V i v → J i F' M' → (∀ p ∈ F, p ∈ F') → Is c F' ((I, P (i + 1)) :: M') s → wpAny (model c.prog c.w) A (assign target env v) (fun _ s₂ => wpAny (model c.prog c.w) A (execs body env) (fun f s₃ => match f with
        | .next | .cont => Ex2 fun F'' M'' => And3 ((∀ p ∈ F', p ∈ F'')) (J (i + 1) F'' M'') (Is c F'' ((I, P (i + 1)) :: M'') s₃)
        | .brk => Q .next s₃
        | .ret v => Q (.ret v) s₃) E' s₂) E' s)
    (done : ∀ F' M' s, J n F' M' → (∀ p ∈ F, p ∈ F') → Is c F' M' s → Q .next s)
    (ht : ∀ v, letOwnedTupleGo target (.ref I) v = pure () := by intro _; rfl) :
    codeAny (model c.prog c.w) A (.forLoop target (.ref I) body [] env) (fun r s' => match r with | .ok f => Q f s' | .error e => cameBackBy (model c.prog c.w) A env E e s') s := by
  refine codeAny_forLoop (fun k s' => Ex3 fun i F' M' => And5 (k = n + 1 - i) (i ≤ n) ((∀ p ∈ F, p ∈ F')) (J i F' M') (Is c F' ((I, P i) :: M') s')) ?_ (n + 1) ⟨0, F, M, rfl, Nat.zero_le _, fun _ h => h, h0, hs⟩ ht
  rintro k s ⟨i, F', M', rfl, hi, hFF, hJ, hs⟩
  by_cases hlt : i < n
  · refine T.item i F' M' s _ _ hlt hs (fun p hp => hFF p (hF p hp)) fun v s' hv hs' => ?_
    refine wpAny_mono (turn i v F' M' s' _ hlt hv hJ hFF hs') (fun _ s₂ h₂ => wpAny_mono h₂ (fun f s₃ h₃ => ?_) fun _ _ x => x) fun _ _ x => x
    cases f with
    | next => obtain ⟨F'', M'', h1, h2, h3⟩ := h₃; exact ⟨n + 1 - (i + 1), by omega, i + 1, F'', M'', rfl, hlt, fun p hp => h1 p (hFF p hp), h2, h3⟩
    | cont => obtain ⟨F'', M'', h1, h2, h3⟩ := h₃; exact ⟨n + 1 - (i + 1), by omega, i + 1, F'', M'', rfl, hlt, fun p hp => h1 p (hFF p hp), h2, h3⟩
    | brk => exact h₃
    | ret v => exact h₃
  · have : i = n := by omega
    subst this
    exact T.done F' M' s _ _ hs (fun p hp => hFF p (hF p hp)) fun s' hs' => wpAny_execs_nil (done F' M' s' hJ hFF hs')

noncomputable abbrev lisO (vs : List Value) (n : Nat) : Obj := { cls := .type "list", data := .seq vs.toArray n }
theorem Is.fzL {a : Addr} {vs : List Value} {G : Prop} (x : Is c F M s) (o : Out (a, LsP vs) M M') (k : ∀ n, Is c ((a, lisO vs n) :: F) M' s → G) : G := by
  obtain ⟨ob, ⟨n, rfl⟩, h⟩ := x.fz o; exact k n h
theorem Is.getL {a : Addr} {vs : List Value} {G : Prop} (x : Is c F M s) (hm : (a, LsP vs) ∈ M) (k : ∀ n, s.heap.get? a = some (lisO vs n) → G) : G := by
  obtain ⟨o, e, n, rfl⟩ := x.get hm; exact k n e
/-- a list's iterator -/
noncomputable def LiP (l : Addr) (i : Nat) (o : Obj) : Prop := o.cls = .type "list_iterator" ∧ o.data = .fields #[.ref l, .int i 0]

theorem Iter.list {I l : Addr} {vs : List Value} {k : Nat} (hh : A.handled = none) (hne : l ≠ I) : Iter c A I vs.length [(l, lisO vs k)] (LiP l) (fun i v => vs[i]? = some v) := by
  have W := Walks.list (prog := c.prog) (w := c.w) hh I l hne vs.toArray
  have hlen : vs.toArray.size = vs.length := by simp
  rw [hlen] at W
  have e : (fun (i : Nat) v => vs.toArray[i]? = some v) = fun (i : Nat) v => vs[i]? = some v := by funext i v; simp
  rw [e] at W
  refine Iter.of_walks W (fun i F M s hs hF => ⟨?_, ⟨_, hs.getF (hF _ (.head _)), rfl, k, rfl⟩⟩) (fun i h hst => ?_) (fun i F M s Q E hs hq => ?_)
  · obtain ⟨o, e, h1, h2⟩ := hs.get (.head _); exact ⟨o, e, h1, h2⟩
  · obtain ⟨⟨o, e, h1, h2⟩, _⟩ := hst; exact ⟨o, e, h1, h2⟩
  · obtain ⟨o, e, h1, h2⟩ := hs.get (.head _)
    exact wpAny_pyIter_listiter ⟨o, e, h1, h2⟩ hq

/-- a range's iterator -/
noncomputable def RiP (a st : Int) (n : Nat) (i : Nat) (o : Obj) : Prop := o = { cls := .type "range_iterator", data := .fields #[rawInt (a + (i : Nat) * st), rawInt ((n : Int) - (i : Nat)), rawInt st] }
theorem Iter.range {I : Addr} {a st : Int} {n : Nat} (hh : A.handled = none) : Iter c A I n [] (RiP a st n) (fun i v => ∃ t, v = .int (a + i * st) t) := by
  have W := Walks.range (prog := c.prog) (w := c.w) hh I a st n
  refine Iter.of_walks W (fun i F M s hs hF => ?_) (fun i h hst => ⟨_, hst, rfl⟩) (fun i F M s Q E hs hq => ?_)
  · obtain ⟨o, e, rfl⟩ := hs.get (.head _); exact e
  · obtain ⟨o, e, rfl⟩ := hs.get (.head _)
    exact wpAny_pyIter_rangeiter e hq

/-- iter of a list -/
theorem r_iterL {l : Addr} {vs : List Value} {k : Nat} {Q : Value → Shared → Prop} (hs : Is c F M s) (hl : (l, lisO vs k) ∈ F) (h : ∀ I s', l ≠ I → Is c F ((I, LiP l 0) :: M) s' → Q (.ref I) s') :
    wpAny (model c.prog c.w) A (pyIter (.ref l)) Q E s := by
  have e := hs.getF hl
  refine wpAny_pyIter_list ⟨_, e, rfl, k, rfl⟩ (h _ _ (Nat.ne_of_lt (Heap.lt_size e)) ((hs.push _).weaken fun o q => ?_))
  rw [q]; exact ⟨rfl, rfl⟩
end
end Mine

namespace Mine
section
variable {c : Cx} {F : List (Addr × Obj)} {M M' : Led} {s : Shared} {A : Around} {E : Value → Shared → Prop} {env : Env} {x : Str} {pos apos : Pos} {v : Value} {Q : Value → Shared → Prop}

theorem LsP.obj {l : Addr} {vs : List Value} (hs : Is c F M s) (hm : (l, LsP vs) ∈ M) : ∃ n, IsL s.heap l vs.toArray n := by
  obtain ⟨o, e, n, rfl⟩ := hs.get hm; exact ⟨n, e⟩

/-- what a method of a list is called on -/
theorem m_append {l : Addr} {e : Expr} {vs : List Value} (hs : Is c F M s) (hm : (l, LsP vs) ∈ M)
    (h : wpAny (model c.prog c.w) A (eval e env) (fun v s₁ => Ex4 fun F M vs g => And4 (Is c F M s₁) (UpdF l (LsP vs) M g) (vs.length < 100000) (∀ s', Is c F (g (LsP (vs ++ [v]))) s' → Q .none s')) E s) :
    MethodOn c.prog c.w A "append" pos (.ref l) [(false, eval e env)] Q E s := by
  obtain ⟨n, hl⟩ := LsP.obj hs hm
  refine ⟨"list", "list.append", PySem.F.plainAttrs_list, PySem.F.slot_list_append, PySem.F.type_list_append, ⟨_, hl, rfl⟩, ?_, P.append_list (wpAny_mono h (fun v s₁ h₁ => ?_) fun _ _ x => x)⟩
  · intro a e; cases e; exact ⟨_, hl, rfl⟩
  · obtain ⟨F, M, vs, g, hs, hu, hz, k⟩ := h₁
    obtain ⟨o, e, n, rfl⟩ := hs.get hu.mem
    refine ⟨vs.toArray, n, by rw [sizeLine_eq]; simp; lia, e, k _ ?_⟩
    obtain ⟨o', e', hp⟩ := LsP.set (f := (·.push v)) e ⟨n, rfl⟩ (vs ++ [v]) (by simp)
    exact hs.change hu.upd s₁.toks (fun b o hb eb => (Heap.get?_update_other _ _ (Ne.symm hb)).trans eb) e' hp

theorem m_pop {l : Addr} {vs : List Value} {g : (Obj → Prop) → Led} (hs : Is c F M s) (hu : UpdF l (LsP (vs ++ [v])) M g) (hz : vs.length < 100000) (h : ∀ s', Is c F (g (LsP vs)) s' → Q v s') :
    MethodOn c.prog c.w A "pop" pos (.ref l) [] Q E s := by
  obtain ⟨n, hl⟩ := LsP.obj hs hu.mem
  refine ⟨"list", "list.pop", PySem.F.plainAttrs_list, PySem.F.slot_list_pop, PySem.F.type_list_pop, ⟨_, hl, rfl⟩, ?_, P.pop_list (y := v) hl (by simp) (h _ ?_) (by rw [sizeLine_eq]; simp; lia)⟩
  · intro a e; cases e; exact ⟨_, hl, rfl⟩
  · obtain ⟨o', e', hp⟩ := LsP.set (f := fun xs => xs.eraseIdxIfInBounds ((vs ++ [v]).toArray.size - 1)) hl ⟨n, rfl⟩ vs (by simp [List.eraseIdx_append_of_length_le])
    exact hs.change hu.upd s.toks (fun b o hb eb => (Heap.get?_update_other _ _ (Ne.symm hb)).trans eb) e' hp

theorem r_truthL {l : Addr} {vs : List Value} {Q : Bool → Shared → Prop} (hs : Is c F M s) (hm : (l, LsP vs) ∈ M) (hz : vs.length < 100000) (h : ∀ s', Is c F M s' → Q (!vs.isEmpty) s') : wpAny (model c.prog c.w) A (truthy (.ref l)) Q E s := by
  refine wpAny_truthy_list (hs.ls hm) (by simp <;> lia) ?_
  have := h _ (hs.toks (s.toks + 1 + 1))
  simpa using this
end

variable {w : World} {B : Heap} {os : OsState} {mg mb : Str → Option Value} {F : List (Addr × Obj)} {M M' : Led} {s : Shared} {A : Around} {E : Value → Shared → Prop}

theorem Keys.append {F : List (Addr × Obj)} {vs vs' : List Value} {ks ks' : List (Int × Str)} (h : Keys F vs ks) (h' : Keys F vs' ks') : Keys F (vs ++ vs') (ks ++ ks') := by
  induction h with
  | nil => exact h'
  | cons hv _ ih => exact .cons hv ih

theorem heappush_c {a : Addr} {vs : List Value} {ks : List (Int × Str)} {vi : Value} {ki : Int × Str} {g : (Obj → Prop) → Led} {Q : Value → Shared → Prop} (hs : Is (cx w B os mg mb) F M s) (r : Rm 9 A)
    (hu : UpdF a (LsP vs) M g) (hk : Keys F vs ks) (hi : KeyIn F vi ki) (hz : vs.length < 999)
    (k : ∀ vs' s', Keys F vs' (sd kLt ki (ks ++ [ki]) 0 ks.length) → vs'.length = vs.length + 1 → Is (cx w B os mg mb) F (g (LsP vs')) s' → Q .none s') :
    wpAny (model (cx w B os mg mb).prog w) A (call (.ref 90) [.ref a, vi]) Q E s := by
  refine r_fn (binds := [("heap", .ref a), ("item", vi)]) hs r (by rfl) (by kernel_rfl) (.of_eq rfl) (locs rfl) (fun L s r' hs => ?_)
  refine wpAny_execs_cons (wpAny_Expr (wpAny_Call_method1_late rfl rfl rfl ?_))
  refine r_loc hs (.head _) rfl (m_append hs (.tail _ hu.mem) ?_)
  refine r_loc hs (.head _) rfl ⟨F, _, vs, _, hs, .tail hu, by lia, fun s hs => ?_⟩
  refine wpAny_execs_cons (wpAny_Expr (r_Call (c := cx w B os mg mb) hs (g_siftdown hs.gd) (by rfl) rfl ?_))
  refine wpAny_items_cons (r_loc hs (.head _) rfl ?_)
  refine wpAny_items_cons (r_int hs fun t0 s hs => ?_)
  refine wpAny_items_cons (wpAny_BinOp (r_CallB (c := cx w B os mg mb) hs (b_len hs.gd) bb_len (by decide) ?_))
  refine wpAny_items_cons (r_loc hs (.head _) rfl (wpAny_items_nil ?_))
  refine r_len hs (.tail _ hu.again.mem) (by simp <;> lia) fun te s hs => ?_
  refine r_int hs fun _ s hs => r_sub hs fun t2 s hs => wpAny_items_nil ⟨hs.K, ?_⟩
  have e : (((vs ++ [vi]).length : Int) - 1) = ((ks.length : Nat) : Int) := by rw [← hk.length]; simp
  rw [e]
  refine siftdown_c (sp := 0) (knew := ki) hs (r'.mono (by decide)) (.tail hu.again) (hk.append (.cons hi .nil)) (by simp) (by simp <;> lia) fun vs2 s hk3 hl3 hs => ?_
  refine wpAny_execs_nil (k _ _ hk3 (by rw [hl3]; simp) hs.drop)

theorem heapreplace_c {a : Addr} {vs : List Value} {v0 vi : Value} {k0 ki : Int × Str} {ks : List (Int × Str)} {g : (Obj → Prop) → Led} {Q : Value → Shared → Prop} (hs : Is (cx w B os mg mb) F M s) (r : Rm 9 A)
    (hu : UpdF a (LsP (v0 :: vs)) M g) (hk : Keys F (v0 :: vs) (k0 :: ks)) (hi : KeyIn F vi ki) (hz : vs.length < 999)
    (k : ∀ vs' s', Keys F vs' (su kLt ki (ki :: ks) 0) → vs'.length = vs.length + 1 → Is (cx w B os mg mb) F (g (LsP vs')) s' → Q v0 s') :
    wpAny (model (cx w B os mg mb).prog w) A (call (.ref 104) [.ref a, vi]) Q E s := by
  refine r_fn (binds := [("heap", .ref a), ("item", vi)]) hs r (by rfl) (by kernel_rfl) (.of_eq rfl) (locs rfl) (fun L s r' hs => ?_)
  refine wpAny_execs_cons (r_assign (Subscript_ ?_))
  refine r_loc hs (.head _) rfl (r_int hs fun _ s hs => ?_)
  refine r_item hs (.tail _ hu.mem) (by decide) (by decide) rfl ?_
  refine r_st hs .head fun s hs => ?_
  refine wpAny_execs_cons (wpAny_Assign_Subscript (r_loc hs (.head _) rfl (r_loc hs (.head _) rfl (r_int hs fun _ s hs => ?_))))
  refine r_setitem hs (.tail hu) (by decide) (by simp <;> lia) (by decide) fun s hs => ?_
  refine wpAny_execs_cons (wpAny_Expr (r_Call (c := cx w B os mg mb) hs (g_siftup hs.gd) (by rfl) rfl ?_))
  refine wpAny_items_cons (r_loc hs (.head _) rfl ?_)
  refine wpAny_items_cons (r_int hs fun t0 s hs => wpAny_items_nil ⟨hs.K, ?_⟩)
  cases hk with
  | cons h0 hk =>
    refine siftup_c (p := 0) (knew := ki) (ks := ki :: ks) hs (r'.mono (by decide)) (.tail hu.again) (.cons hi hk) rfl (by simp <;> lia) fun vs2 s hk3 hl3 hs => ?_
    refine wpAny_execs_cons (wpAny_Return_some (r_loc hs (.head _) rfl ?_))
    exact k _ _ hk3 (by rw [hl3]; simp) hs.drop

theorem heappop_c {a : Addr} {vs : List Value} {v0 vl : Value} {k0 kl : Int × Str} {ks : List (Int × Str)} {g : (Obj → Prop) → Led} {Q : Value → Shared → Prop} (hs : Is (cx w B os mg mb) F M s) (r : Rm 9 A)
    (hu : UpdF a (LsP (v0 :: (vs ++ [vl]))) M g) (hk : Keys F (v0 :: vs) (k0 :: ks)) (hl : KeyIn F vl kl) (hz : vs.length < 999)
    (k : ∀ vs' s', Keys F vs' (su kLt kl (kl :: ks) 0) → vs'.length = vs.length + 1 → Is (cx w B os mg mb) F (g (LsP vs')) s' → Q v0 s') :
    wpAny (model (cx w B os mg mb).prog w) A (call (.ref 97) [.ref a]) Q E s := by
  refine r_fn (binds := [("heap", .ref a)]) hs r (by rfl) (by kernel_rfl) (.of_eq rfl) (locs rfl) (fun L s r' hs => ?_)
  refine wpAny_execs_cons (r_assign (wpAny_Call_method0_late rfl rfl (r_loc hs (.head _) rfl ?_)))
  refine m_pop (vs := v0 :: vs) hs (.tail hu) (by simp <;> lia) fun s hs => ?_
  refine r_st hs .head fun s hs => ?_
  refine wpAny_execs_cons (wpAny_If (wpAny_isTrue_value (r_loc hs (.head _) rfl ?_)))
  refine r_truthL hs (.tail _ hu.again.mem) (by simp <;> lia) fun s hs => if_t rfl ?_
  refine wpAny_execs_cons (r_assign (Subscript_ ?_))
  refine r_loc hs (.head _) rfl (r_int hs fun _ s hs => ?_)
  refine r_item hs (.tail _ hu.again.mem) (by decide) (by decide) rfl ?_
  refine r_st hs .head fun s hs => ?_
  refine wpAny_execs_cons (wpAny_Assign_Subscript (r_loc hs (.head _) rfl (r_loc hs (.head _) rfl (r_int hs fun _ s hs => ?_))))
  refine r_setitem hs (.tail hu.again) (by decide) (by simp <;> lia) (by decide) fun s hs => ?_
  refine wpAny_execs_cons (wpAny_Expr (r_Call (c := cx w B os mg mb) hs (g_siftup hs.gd) (by rfl) rfl ?_))
  refine wpAny_items_cons (r_loc hs (.head _) rfl ?_)
  refine wpAny_items_cons (r_int hs fun t0 s hs => wpAny_items_nil ⟨hs.K, ?_⟩)
  cases hk with
  | cons h0 hk =>
    refine siftup_c (p := 0) (knew := kl) (ks := kl :: ks) hs (r'.mono (by decide)) (.tail hu.again) (.cons hl hk) rfl (by simp <;> lia) fun vs2 s hk3 hl3 hs => ?_
    refine wpAny_execs_cons (wpAny_Return_some (r_loc hs (.head _) rfl ?_))
    exact k _ _ hk3 (by rw [hl3]; simp) hs.drop

theorem heappop1_c {a : Addr} {v0 : Value} {g : (Obj → Prop) → Led} {Q : Value → Shared → Prop} (hs : Is (cx w B os mg mb) F M s) (r : Rm 9 A) (hu : UpdF a (LsP [v0]) M g) (k : ∀ s', Is (cx w B os mg mb) F (g (LsP [])) s' → Q v0 s') :
    wpAny (model (cx w B os mg mb).prog w) A (call (.ref 97) [.ref a]) Q E s := by
  refine r_fn (binds := [("heap", .ref a)]) hs r (by rfl) (by kernel_rfl) (.of_eq rfl) (locs rfl) (fun L s r' hs => ?_)
  refine wpAny_execs_cons (r_assign (wpAny_Call_method0_late rfl rfl (r_loc hs (.head _) rfl ?_)))
  refine m_pop (vs := []) hs (.tail hu) (by simp) fun s hs => ?_
  refine r_st hs .head fun s hs => ?_
  refine wpAny_execs_cons (wpAny_If (wpAny_isTrue_value (r_loc hs (.head _) rfl ?_)))
  refine r_truthL hs (.tail _ hu.again.mem) (by simp) fun s hs => if_f rfl ?_
  refine wpAny_execs_nil (wpAny_execs_cons (wpAny_Return_some (r_loc hs (.head _) rfl ?_)))
  exact k _ hs.drop
end Mine

namespace Mine
section
variable {c : Cx} {F : List (Addr × Obj)} {M M' : Led} {s : Shared} {A : Around} {E : Value → Shared → Prop} {env : Env} {x : Str} {pos : Pos} {v : Value} {Q : Value → Shared → Prop}

/-- a built-in class is called by its name -/
theorem r_CallT {p : Pos} {e : Expr} {rest : List Expr} {T : String} {Q : Value → Shared → Prop} (hs : Is c F M s) (hg : c.mg x = none) (hb : bootBuiltins x = some (.type T)) (hn : x ≠ "__name__")
    (h : wpAny (model c.prog c.w) A (spliced (backTo pos (starEach (e :: rest) env))) (fun vs s₁ => wpAny (model c.prog c.w) A (call (.type T) vs) Q E s₁) E s)
    (he : starEach (e :: rest) env = (false, eval e env) :: starEach rest env := by rfl) (hplain : (backTo pos (starEach rest env)).any (·.1) = false := by rfl)
    (hk : env.scope.kind = .function := by rfl) (hx : env.kindOf x = some .globalImplicit := by rfl) (hgl : env.globals = mainGlobals := by rfl) (hbl : env.builtins = builtinsNs := by rfl) (hd : (x == ("__debug__" : Str)) = false := by decide) :
    wpAny (model c.prog c.w) A (eval (.Call (.Name x p) (e :: rest) [] pos) env) Q E s := by
  show wpAny _ _ (do callWith pos (← eval (.Name x p) env) [] (backTo pos (starEach (e :: rest) env)) (backToKw pos (keywordEach [] env))) Q E s
  refine wpAny_bind (Name_function_global hk hx (loadGlobal_builtin (hgl ▸ hs.gd.T.g.keeps hs.st.base) hg (hbl ▸ hs.gd.T.b.keeps hs.st.base) ((hs.gd.T.builtins x hn).trans hb) ?_) hd)
  exact PyProof.Rows.callWith_type1 h he hplain

noncomputable def RgP (a b : Int) (o : Obj) : Prop := ∃ t u v, o = { cls := .type "range", data := .fields #[.int a t, .int b u, .int 1 v] }
theorem r_range1 {n : Int} {t : Tok} (hs : Is c F M s) (h : ∀ r s', Is c F ((r, RgP 0 n) :: M) s' → Q (.ref r) s') : wpAny (model c.prog c.w) A (call (.type "range") [.int n t]) Q E s :=
  call_range_1 (h _ _ ((((hs.push _)).weaken (P' := RgP 0 n) fun o q => ⟨_, _, _, q⟩).toks _))
theorem r_range2 {a n : Int} {t u : Tok} (hs : Is c F M s) (h : ∀ r s', Is c F ((r, RgP a n) :: M) s' → Q (.ref r) s') : wpAny (model c.prog c.w) A (call (.type "range") [.int a t, .int n u]) Q E s :=
  call_range_2 (h _ _ ((((hs.push _)).weaken (P' := RgP a n) fun o q => ⟨_, _, _, q⟩).toks _))

theorem rangeSize_one (a : Int) (n : Nat) : Builtin.Range.rangeSize a (a + n) 1 = n := by
  unfold Builtin.Range.rangeSize
  rw [if_pos (by decide)]
  split
  · rw [Int.ediv_one]; lia
  · lia
theorem small_one {a : Int} {n : Nat} (h0 : 0 ≤ a) (h1 : a < 100000) (hn : n < 100000) : Builtin.Range.small a (a + n) 1 = true := by
  have e : ∀ i : Int, -1000000 < i → i < 1000000 → Builtin.Range.rangeFitsLong i = true := fun i h1 h2 => by
    simp only [Builtin.Range.rangeFitsLong, Bool.and_eq_true, decide_eq_true_eq]; lia
  unfold Builtin.Range.small
  rw [rangeSize_one]
  rw [if_pos (by decide), e a (by lia) (by lia), e (a + n) (by lia) (by lia), e n (by lia) (by lia), e 1 (by lia) (by lia), e (a + n + (1 - 1)) (by lia) (by lia)]
  simp

/-- iter of a range -/
theorem r_iterR {r : Addr} {a : Int} {n : Nat} (hs : Is c F M s) (hr : (r, RgP a (a + n)) ∈ M) (h0 : 0 ≤ a) (h1 : a < 100000) (hn : n < 100000) (h : ∀ I s', Is c F ((I, RiP a 1 n 0) :: M) s' → Q (.ref I) s') :
    wpAny (model c.prog c.w) A (pyIter (.ref r)) Q E s := by
  obtain ⟨o, e, t, u, v, rfl⟩ := hs.get hr
  refine wpAny_pyIter_range e (small_one h0 h1 hn) (h _ _ ((hs.push _).weaken fun o q => ?_))
  rw [q, rangeSize_one]
  simp [RiP]

theorem range_rev (r : Addr) (a b c : Int) (t u v : Tok) (hc0 : ¬(!(Builtin.Range.rangeFitsLong a && Builtin.Range.rangeFitsLong b && Builtin.Range.rangeFitsLong c && Builtin.Range.rangeFitsLong (-c) && Builtin.Range.rangeFitsLong (a - c) && Builtin.Range.rangeFitsLong (Builtin.Range.rangeSize a b c))) = true) :
    Meets (Builtin.«range.__reversed__» ⟨[.ref r], []⟩) (fun _ R s => s.heap.get? r = some { cls := .type "range", dict := none, data := .fields #[.int a t, .int b u, .int c v], slots := #[] } ∧
      R (.ok (.ret (Value.ref s.heap.objs.size))) { s with heap := s.heap.push { cls := Value.type (if (Builtin.Range.rangeFitsLong a && Builtin.Range.rangeFitsLong b && Builtin.Range.rangeFitsLong c && Builtin.Range.rangeFitsLong (-c) && Builtin.Range.rangeFitsLong (a - c) && Builtin.Range.rangeFitsLong (Builtin.Range.rangeSize a b c)) = true then "range_iterator" else "longrange_iterator"), data := .fields #[rawInt (a + (Builtin.Range.rangeSize a b c - 1) * c), rawInt (Builtin.Range.rangeSize a b c), rawInt (-c)] } }) :=
  .of_wp fun prog w A R s h => by obtain ⟨hp, g, d, tk, os⟩ := s; obtain ⟨hl, h⟩ := h; wp_walk; exact ⟨_, rfl, h⟩

theorem call_range_reversed {r : Addr} {n : Nat} {t u v : Tok} {Q : Value → Shared → Prop} (hr : s.heap.get? r = some { cls := .type "range", data := .fields #[.int 0 t, .int n u, .int 1 v] }) (hn : n < 100000)
    (h : Q (.ref s.heap.objs.size) { s with heap := s.heap.push { cls := .type "range_iterator", data := .fields #[rawInt ((n : Int) - 1), rawInt n, rawInt (-1)] } }) : wpAny (model c.prog c.w) A (call (.builtin "range.__reversed__") [.ref r]) Q E s := by
  have hT : s.TypeIs (.ref r) "range" := ⟨_, hr, rfl⟩
  have e1 : Builtin.Range.rangeSize 0 n 1 = n := by have := rangeSize_one 0 n; simpa using this
  have e : ∀ i : Int, -1000000 < i → i < 1000000 → Builtin.Range.rangeFitsLong i = true := fun i h1 h2 => by
    simp only [Builtin.Range.rangeFitsLong, Bool.and_eq_true, decide_eq_true_eq]; lia
  have e2 : (Builtin.Range.rangeFitsLong 0 && Builtin.Range.rangeFitsLong n && Builtin.Range.rangeFitsLong 1 && Builtin.Range.rangeFitsLong (-1) && Builtin.Range.rangeFitsLong (0 - 1) && Builtin.Range.rangeFitsLong (Builtin.Range.rangeSize 0 n 1)) = true := by
    rw [e1, e 0 (by lia) (by lia), e n (by lia) (by lia), e 1 (by lia) (by lia), e (-1) (by lia) (by lia), e (0 - 1) (by lia) (by lia)]; rfl
  refine call_meets PySem.F.slot_range_reversed hT PySem.F.entry_range_reversed (PySem.F.args_range_reversed_1 _) (range_rev r 0 n 1 t u v (by rw [e2]; decide)) ⟨hr, ?_⟩
  show Q _ _
  rw [e2, e1, show (0 + ((n : Int) - 1) * 1) = (n : Int) - 1 by lia]
  exact h

theorem sub_ri_reversed : isSubtype (.type "range_iterator") (.type "reversed") = pure false := by rw [isSubtype_type]; kernel_rfl

theorem code_reversed_newR {r : Addr} {n : Nat} {t u v : Tok} {Q₁ : Value → Shared → Prop} (hr : s.heap.get? r = some { cls := .type "range", data := .fields #[.int 0 t, .int n u, .int 1 v] }) (hn : n < 100000)
    (h : Q₁ (.ref s.heap.objs.size) { s with heap := s.heap.push { cls := .type "range_iterator", data := .fields #[rawInt ((n : Int) - 1), rawInt n, rawInt (-1)] } }) :
    codeAny (model c.prog c.w) A (.call (.builtin "reversed.__new__") ⟨[.type "reversed", .ref r], []⟩) (wants Q₁ E) s := by
  have hT : s.TypeIs (.ref r) "range" := ⟨_, hr, rfl⟩
  refine codeAny_of_tree ?_
  show wpAny _ A.in1 (do checkBuiltinCall "reversed.__new__" ⟨[.type "reversed", .ref r], []⟩; again (.builtin "reversed.__new__" ⟨[.type "reversed", .ref r], []⟩)) _ _ s
  refine wpAny_bind (wpAny_of_eq (PySem.F.newCall_reversed_1 _) (wpAny_pure ⟨plainId_quiet PySem.F.plain_reversed_new _, codeAny_builtin PySem.F.entry_reversed_new ?_⟩))
  rw [Around.under_plainId PySem.F.plain_reversed_new _]
  unfold Builtin.«reversed.__new__»
  refine wpAny_bind (wpAny_of_eq (newClass_reversed _) ?_)
  try dsimp only
  refine wpAny_bind (wpAny_of_eq (a := ()) (by first | rfl | kernel_rfl) ?_)
  refine wpAny_bind (wpAny_of_eq (a := ()) (by first | rfl | kernel_rfl) ?_)
  try dsimp only
  refine wpAny_bind (wpAny_specialOf hT PySem.F.slot_range_reversed.lookup ?_)
  try dsimp only
  refine wpAny_bind (wpAny_of_eq (PySem.F.slot_range_reversed.bind _) ?_)
  try dsimp only
  first
  | rw [if_neg (show ¬ ((Value.builtin "range.__reversed__" == Value.none) = true) from Bool.false_ne_true)]
  | (show wpAny _ _ (if (Value.builtin "range.__reversed__" == Value.none) = true then _ else _) _ _ _; rw [if_neg (show ¬ ((Value.builtin "range.__reversed__" == Value.none) = true) from Bool.false_ne_true)])
  refine wpAny_bind (wpAny_rule ?_)
  refine wpAny_bind (m := runValue (.call (.builtin "range.__reversed__") ⟨[.ref r], []⟩)) (show wpAny _ _ (call (.builtin "range.__reversed__") [.ref r]) _ _ _ from call_range_reversed hr hn ?_)
  first
  | exact wpAny_pure h
  | exact wpAny_bind (wpAny_pure (wpAny_pure h))

theorem r_revR {r : Addr} {n : Nat} (hs : Is c F M s) (hr : (r, RgP 0 n) ∈ M) (hn : n < 100000) (h : ∀ I s', Is c F ((I, RiP ((n : Int) - 1) (-1) n 0) :: M) s' → Q (.ref I) s') : wpAny (model c.prog c.w) A (call (.type "reversed") [.ref r]) Q E s := by
  obtain ⟨o, e, t, u, v, rfl⟩ := hs.get hr
  refine callType_other (U := "range_iterator") (Q₁ := fun obj s₁ => obj = .ref s.heap.objs.size ∧ s₁ = { s with heap := s.heap.push { cls := .type "range_iterator", data := .fields #[rawInt ((n : Int) - 1), rawInt n, rawInt (-1)] } }) (by decide +kernel) PySem.F.create_reversed ⟨_, _, PySem.F.mro_reversed⟩ PySem.F.made_reversed sub_ri_reversed (PySem.F.typeCall_reversed_1 _) (code_reversed_newR e hn ⟨rfl, rfl⟩) ?_
  rintro obj s₁ ⟨rfl, rfl⟩
  refine ⟨⟨_, Heap.get?_push_size _ rfl, rfl⟩, h _ _ ((hs.push _).weaken fun o q => ?_)⟩
  rw [q]; simp [RiP]
end

variable {w : World} {B : Heap} {os : OsState} {mg mb : Str → Option Value} {F : List (Addr × Obj)} {M M' : Led} {s : Shared} {A : Around} {E : Value → Shared → Prop}
theorem b_range (G : Gd (cx w B os mg mb)) : mg "range" = none := mg_none_of G.X G.T.g (by kernel_rfl)
theorem b_reversed (G : Gd (cx w B os mg mb)) : mg "reversed" = none := mg_none_of G.X G.T.g (by kernel_rfl)
theorem bb_range : bootBuiltins "range" = some (.type "range") := by kernel_rfl
theorem bb_reversed : bootBuiltins "reversed" = some (.type "reversed") := by kernel_rfl

/-- heapify, behind i steps -/
noncomputable def hfy {α : Type} (lt : α → α → Bool) (xs : List α) (n : Nat) : Nat → List α
  | 0 => xs
  | i + 1 => match (hfy lt xs n i)[n - 1 - i]? with
    | some k => su lt k (hfy lt xs n i) (n - 1 - i)
    | none => hfy lt xs n i

theorem heapify_c {a : Addr} {vs : List Value} {ks : List (Int × Str)} {g : (Obj → Prop) → Led} {Q : Value → Shared → Prop} (hs : Is (cx w B os mg mb) F M s) (r : Rm 9 A)
    (hu : UpdF a (LsP vs) M g) (hk : Keys F vs ks) (hz : vs.length < 999)
    (k : ∀ vs' s', Keys F vs' (hfy kLt ks (ks.length / 2) (ks.length / 2)) → vs'.length = vs.length → Is (cx w B os mg mb) F (g (LsP vs')) s' → Q .none s') :
    wpAny (model (cx w B os mg mb).prog w) A (call (.ref 111) [.ref a]) Q E s := by
  refine r_fn (binds := [("x", .ref a)]) hs r (by rfl) (by kernel_rfl) (.of_eq rfl) (locs rfl) (fun L s r' hs => ?_)
  have hl := hk.length
  refine wpAny_execs_cons (r_assign (r_CallB (c := cx w B os mg mb) hs (b_len hs.gd) bb_len (by decide) ?_))
  refine wpAny_items_cons (r_loc hs (.head _) rfl (wpAny_items_nil ?_))
  refine r_len hs (.tail _ hu.mem) (by lia) fun te s hs => ?_
  refine r_st hs .head fun s hs => ?_
  refine wpAny_execs_cons (wpAny_For ?_)
  refine r_CallT (c := cx w B os mg mb) hs (b_reversed hs.gd) bb_reversed (by decide) (wpAny_items_cons ?_)
  refine r_CallT (c := cx w B os mg mb) hs (b_range hs.gd) bb_range (by decide) (wpAny_items_cons (wpAny_BinOp ?_))
  refine r_loc hs (.head _) rfl (r_int hs fun _ s hs => ?_)
  refine r_div hs (by decide) (PyProof.noPylong_small (by lia)) fun t1 s hs => wpAny_items_nil ?_
  have e1 : (vs.length : Int).fdiv 2 = ((vs.length / 2 : Nat) : Int) := by
    rw [Int.fdiv_eq_ediv_of_nonneg _ (by decide)]; lia
  rw [e1]
  refine r_range1 hs fun rr s hs => wpAny_items_nil (r_revR hs (.head _) (by lia) fun I s hs => ?_)
  refine (Iter.range r'.hd).self 0 F _ s _ _ hs ?_
  have hs := hs.out (.tail .head)
  refine r_for (Iter.range r'.hd) (fun i F' M' => Ex2 fun vs' m => And5 (F' = F) (M' = (L, NsP m) :: g (LsP vs')) (Keys F vs' (hfy kLt ks (ks.length / 2) i)) (vs'.length = vs.length) (m "x" = some (.ref a))) hs (fun _ h => nomatch h) ⟨vs, _, rfl, by rw [hu.same]; rfl, hk, rfl, rfl⟩ ?_ ?_
  · rintro i v F' M' s E' hi ⟨t, rfl⟩ ⟨vs', m, rfl, rfl, hk', hl', m1⟩ - hs
    have hkl := hk'.length
    refine wpAny_assign_Name (r_st hs (.tail .head) fun s hs => ?_)
    refine wpAny_execs_cons (wpAny_Expr (r_Call (c := cx w B os mg mb) hs (g_siftup hs.gd) (by rfl) rfl ?_))
    refine wpAny_items_cons (r_loc hs (.tail _ (.head _)) m1 ?_)
    refine wpAny_items_cons (r_loc hs (.tail _ (.head _)) rfl (wpAny_items_nil ⟨hs.K, ?_⟩))
    have e2 : ((vs.length / 2 : Nat) : Int) - 1 + (i : Int) * -1 = ((ks.length / 2 - 1 - i : Nat) : Int) := by lia
    rw [e2]
    obtain ⟨kn, ekn⟩ : ∃ kp, (hfy kLt ks (ks.length / 2) i)[ks.length / 2 - 1 - i]? = some kp := ⟨_, List.getElem?_eq_getElem (by lia)⟩
    refine siftup_c (knew := kn) hs (r'.mono (by decide)) (.tail (.tail hu.again)) hk' ekn (by lia) fun vs2 s hk3 hl3 hs => ?_
    refine wpAny_execs_nil ⟨F', _, fun _ h => h, ?_, hs⟩
    refine ⟨vs2, _, rfl, rfl, ?_, by lia, m1⟩
    simp only [hfy, ekn]; exact hk3
  · rintro F' M' s ⟨vs', m, rfl, rfl, hk', hl', m1⟩ - hs
    refine wpAny_execs_nil (k vs' _ ?_ hl' hs.drop)
    rw [hl] at hk'; exact hk'
end Mine

namespace Mine
section
variable {c : Cx} {F : List (Addr × Obj)} {M M' : Led} {s : Shared} {A : Around} {E : Value → Shared → Prop} {env : Env} {pos : Pos} {v : Value} {Q : Value → Shared → Prop} {x y : Str} {t u : Tok}

theorem r_adds (hs : Is c F M s) (hz : x.length + y.length ≤ 100000) (h : ∀ t s', Is c F M s' → Q (.str (x ++ y) t) s') : wpAny (model c.prog c.w) A (binaryOp .Add (.str x t) (.str y u)) Q E s :=
  PyProof.Rows.add_str (fun t' tk => h t' _ (hs.toks tk)) (by rw [sizeLine_eq]; lia)
theorem r_eqs (h : Q (.bool (x == y)) s) : wpAny (model c.prog c.w) A (compareOp .Eq (.str x t) (.str y u)) Q E s := PyProof.Rows.eq_str h
theorem r_nes (h : Q (.bool (x != y)) s) : wpAny (model c.prog c.w) A (compareOp .NotEq (.str x t) (.str y u)) Q E s := PyProof.Rows.ne_str h
theorem r_truthS {Q : Bool → Shared → Prop} (hs : Is c F M s) (hz : x.length ≤ 100000) (h : ∀ s', Is c F M s' → Q (decide (x.length ≠ 0)) s') : wpAny (model c.prog c.w) A (truthy (.str x t)) Q E s := by
  refine P.truthy_str (by lia) ?_
  have e : (((x.length : Int)) != 0) = decide (x.length ≠ 0) := by
    by_cases hx : x.length = 0
    · simp [hx]
    · have : ((x.length : Int)) ≠ 0 := by lia
      simp [hx]
  rw [e]; exact h _ (hs.toks _)

theorem ev_none {Md : Model} (h : Q .none s) : wpAny Md A (evalPart none env) Q E s := by rw [evalPart_none]; exact wpAny_pure h
theorem ev_some {Md : Model} {e : Expr} (h : wpAny Md A (eval e env) Q E s) : wpAny Md A (evalPart (some e) env) Q E s := by rw [evalPart_some]; exact h
theorem r_sliceS {value : Expr} {lower upper : Option Expr} {p : Pos}
    (h : wpAny (model c.prog c.w) A (eval value env) (fun o s₁ => wpAny (model c.prog c.w) A (evalPart lower env) (fun vl s₂ => wpAny (model c.prog c.w) A (evalPart upper env) (fun vu s₃ =>
      Ex6 fun x t l u F M => And6 (o = .str x t) (vl = partValue l) (vu = partValue u) (Is c F M s₃) (x.length ≤ 100000) (∀ t' s', Is c F M s' → Q (.str (Txt.slice x (l.map (·.1)) (u.map (·.1))) t') s')) E s₂) E s₁) E s)
    (ht : ∀ o r, letTemporaryGo value o r = pure () := by intro _ _; rfl) :
    wpAny (model c.prog c.w) A (eval (.Subscript value (.Slice lower upper none p) pos) env) Q E s := by
  refine wpAny_Subscript_str_slice (wpAny_mono h (fun o s₁ h₁ => wpAny_mono h₁ (fun vl s₂ h₂ => wpAny_mono h₂ (fun vu s₃ h₃ => ?_) fun _ _ x => x) fun _ _ x => x) fun _ _ x => x) ht
  obtain ⟨x, t, l, u, F, M, rfl, rfl, rfl, hs, hz, k⟩ := h₃
  refine ⟨x, t, l, u, rfl, rfl, rfl, ?_⟩
  exact post_val_or_str ⟨Nat.le_trans (Txt.slice_le x _ _) (by rw [sizeLine_eq]; lia), fun t' tk => k t' _ (hs.keeps tk fun b o e => Heap.get?_push_of_some _ e)⟩

theorem occ_len (x y : Str) : (Builtin.Str.partsBetween x (Builtin.Str.occurrences x y 0 x.length (x.length + 1)) y.length).length ≤ x.length + 2 := by
  rw [len_partsBetween]
  have := StrLaws.occ_length_le x y 0 x.length (x.length + 1)
  lia

theorem r_split (hs : Is c F M s) (hy : (y.length == 0) = false) (hz : x.length ≤ 10000) (h : ∀ D vs s', StrsAre vs (Txt.split x y) → Is c F ((D, LsP vs) :: M) s' → Q (.ref D) s') :
    wpAny (model c.prog c.w) A (call (.builtin "str.split") [.str x t, .str y u]) Q E s := by
  have nw : ∀ (l : List (Str × Tok)) (k : Nat), l.map (·.1) = Txt.split x y → Q (.ref s.heap.objs.size) { s with heap := s.heap.push { cls := .type "list", data := .seq (strValues l).toArray }, toks := k } := fun l k e =>
    h _ (strValues l) _ (e ▸ strsAre_of_values l) (((hs.push _).weaken fun o q => ⟨0, q⟩).toks k)
  have hsz : x.length ≤ sizeLine := by rw [sizeLine_eq]; lia
  have hsz2 : (Builtin.Str.partsBetween x (Builtin.Str.occurrences x y 0 x.length (x.length + 1)) y.length).length ≤ sizeLine := by
    have := occ_len x y; rw [sizeLine_eq]; lia
  cases h1 : (decide (x.length < y.length) || decide (Builtin.Str.strKind x < Builtin.Str.strKind y))
  · cases hf : (Builtin.Str.occurrences x y 0 x.length (x.length + 1)).isEmpty
    · refine call_meets PySem.F.slot_str_split (typeIs_str _ _ _) PySem.F.entry_str_split (PySem.F.args_str_split_2 _ _) (meets_str_split_sep x y t u h1 hy hf hsz hsz2) ?_
      show wants Q E _ { s with toks := _, heap := s.heap.push { cls := .type "list", data := .seq (strsFrom s.toks (Builtin.Str.partsBetween x (Builtin.Str.occurrences x y 0 x.length (x.length + 1)) y.length)).toArray } }
      rw [strsFrom_eq]
      exact nw (numbered s.toks _) _ ((numbered_texts _ _).trans ((if_neg (ne_true_of_eq_false h1)).trans (if_neg (ne_true_of_eq_false hf))).symm)
    · exact call_meets PySem.F.slot_str_split (typeIs_str _ _ _) PySem.F.entry_str_split (PySem.F.args_str_split_2 _ _) (meets_str_split_not_found x y t u h1 hy hf)
        (nw [(x, t)] s.toks ((if_neg (ne_true_of_eq_false h1)).trans (if_pos hf)).symm)
  · exact call_meets PySem.F.slot_str_split (typeIs_str _ _ _) PySem.F.entry_str_split (PySem.F.args_str_split_2 _ _) (meets_str_split_cannot_occur x y t u h1)
      (nw [(x, t)] s.toks (if_pos h1).symm)

theorem r_join {l : Addr} {vs : List Value} {ys : List Str} (hs : Is c F M s) (hl : s.heap.IsList l vs.toArray) (hi : StrsAre vs ys) (hx : x.length ≤ 16) (hw : (ys.map (·.length)).sum + ys.length ≤ 100000)
    (h : ∀ t s', Is c F M s' → Q (.str (Txt.join x ys) t) s') : wpAny (model c.prog c.w) A (call (.builtin "str.join") [.str x t, .ref l]) Q E s :=
  join_listW hl (by simpa using hi) hx (by lia) fun t' k => h t' _ (hs.toks k)

/-- a method of a str with one argument -/
theorem m_str1 {name : Str} {id : String} {e : Expr} (slot : Slot "str" name id) (hty : typeOf (.builtin id) = pure (.type "method_descriptor"))
    (h : wpAny (model c.prog c.w) A (eval e env) (fun v s₁ => wpAny (model c.prog c.w) A (call (.builtin id) [.str x t, v]) Q E s₁) E s) :
    MethodOn c.prog c.w A name pos (.str x t) [(false, eval e env)] Q E s :=
  ⟨"str", id, PySem.F.plainAttrs_str, slot, hty, typeIs_str _ _ _, (fun a e => nomatch e), callWith_builtin rfl (evalArgs_plain (spliced_cons (wpAny_mono h (fun v s₁ h₁ => spliced_nil h₁) fun _ _ x => x)))⟩

theorem r_typeS (h : Q (.type "str") s) : wpAny (model c.prog c.w) A (call (.type "type") [.str x t]) Q E s := by
  refine wpAny_call (codeAny_of_tree ?_)
  show wpAny _ _ (callAny (.type "type") ⟨[.str x t], []⟩) _ _ _
  simp only [callAny]
  refine wpAny_pure ⟨Code.quiet_builtin _ (by decide +kernel), codeAny_builtin entry_type_call ?_⟩
  unfold Builtin.«type.__call__»
  dsimp only
  unfold shownTypeOf
  repeat (first | wp_step)
  exact h
theorem r_typeI {i : Int} (h : Q (.type "int") s) : wpAny (model c.prog c.w) A (call (.type "type") [.int i t]) Q E s := by
  refine wpAny_call (codeAny_of_tree ?_)
  show wpAny _ _ (callAny (.type "type") ⟨[.int i t], []⟩) _ _ _
  simp only [callAny]
  refine wpAny_pure ⟨Code.quiet_builtin _ (by decide +kernel), codeAny_builtin entry_type_call ?_⟩
  unfold Builtin.«type.__call__»
  dsimp only
  unfold shownTypeOf
  repeat (first | wp_step)
  exact h

/-- a built-in name's value -/
theorem r_bn {n : Str} {p : Pos} (hs : Is c F M s) (hg : c.mg n = none) (hb : bootBuiltins n = some v) (hn : n ≠ "__name__") (h : Q v s)
    (hk : env.scope.kind = .function := by rfl) (hx : env.kindOf n = some .globalImplicit := by rfl) (hgl : env.globals = mainGlobals := by rfl) (hbl : env.builtins = builtinsNs := by rfl) (hd : (n == ("__debug__" : Str)) = false := by decide) :
    wpAny (model c.prog c.w) A (eval (.Name n p) env) Q E s :=
  Name_function_global hk hx (loadGlobal_builtin (hgl ▸ hs.gd.T.g.keeps hs.st.base) hg (hbl ▸ hs.gd.T.b.keeps hs.st.base) ((hs.gd.T.builtins n hn).trans hb) h) hd
/-- a global name's value -/
theorem r_gn {n : Str} {p : Pos} (hs : Is c F M s) (hg : c.mg n = some v) (h : Q v s)
    (hk : env.scope.kind = .function := by rfl) (hx : env.kindOf n = some .globalImplicit := by rfl) (hgl : env.globals = mainGlobals := by rfl) (hd : (n == ("__debug__" : Str)) = false := by decide) :
    wpAny (model c.prog c.w) A (eval (.Name n p) env) Q E s :=
  Name_function_global hk hx (loadGlobal_global (hgl ▸ hs.gd.T.g.keeps hs.st.base) hg h) hd

theorem r_isT {X Y : String} (h : Q (.bool (X == Y)) s) : wpAny (model c.prog c.w) A (compareOp .Is (.type X) (.type Y)) Q E s := by
  refine wpAny_is_plain rfl ?_
  have e : (Value.type X == Value.type Y) = (X == Y) := by
    by_cases hx : X = Y
    · subst hx; simp
    · have : Value.type X ≠ Value.type Y := fun e => hx (Value.type.inj e)
      rw [beq_eq_false_iff_ne.mpr this, beq_eq_false_iff_ne.mpr hx]
  rw [e]; exact h

/-- a tuple of the ledger -/
theorem r_lenT {l : Addr} {vs : List Value} (hs : Is c F M s) (hm : (l, (· = tupO vs)) ∈ M) (hf : vs.length < 100000) (h : ∀ t s', Is c F M s' → Q (.int vs.length t) s') :
    wpAny (model c.prog c.w) A (call (.builtin "len") [.ref l]) Q E s := by
  obtain ⟨o, e, rfl⟩ := hs.get hm
  refine len_tuple (items := vs.toArray) ⟨_, e, rfl, 0, rfl⟩ (by simp; lia) ?_
  have := h (s.toks + 1) _ (hs.toks (s.toks + 1 + 1))
  simpa using this
theorem r_itemT {value slice : Expr} {l : Addr} {vs : List Value} {k : Int} {j : Nat} (hs : Is c F M s) (hm : (l, (· = tupO vs)) ∈ M) (hlo : -(2 ^ 63) ≤ k) (hhi : k < 2 ^ 63) (hj : seqIndex? k vs.length = some j) (hx : vs[j]? = some v) (h : Q v s)
    (hsb : subscripted slice false (.ref l) (.int k u) = operate [.ref l, .int k u] (getItem (.ref l) (.int k u)) := by with_unfolding_all rfl) : wpAny (model c.prog c.w) A (subscriptTail value slice (.ref l) (.int k u)) Q E s := by
  obtain ⟨o, e, rfl⟩ := hs.get hm
  exact item_tupleT ⟨_, e, rfl, 0, rfl⟩ hlo hhi hj hx h hsb

theorem r_tuple {elts : List Expr} {k : Nat} (h : wpAny (model c.prog c.w) A (spliced (backTo pos (starEach elts env))) (fun vs s₁ => vs.length < 100000 ∧ (Ex2 fun F M => Is c F M s₁ ∧ ∀ a s', Is c F ((a, (· = tupO vs)) :: M) s' → Q (.ref a) s')) E s) :
    wpAny (model c.prog c.w) A (eval (.Tuple elts k pos) env) Q E s :=
  wpAny_Tuple (wpAny_mono h (fun vs s₁ h₁ => by
    obtain ⟨hz, F, M, hs, k⟩ := h₁
    exact ⟨by rw [sizeLine_eq]; lia, k _ _ (hs.push _)⟩) fun _ _ x => x)
theorem r_list {elts : List Expr} (h : wpAny (model c.prog c.w) A (spliced (backTo pos (starEach elts env))) (fun vs s₁ => vs.length < 100000 ∧ (Ex2 fun F M => Is c F M s₁ ∧ ∀ a s', Is c F ((a, LsP vs) :: M) s' → Q (.ref a) s')) E s) :
    wpAny (model c.prog c.w) A (eval (.List elts pos) env) Q E s :=
  wpAny_List (wpAny_mono h (fun vs s₁ h₁ => by
    obtain ⟨hz, F, M, hs, k⟩ := h₁
    exact ⟨by rw [sizeLine_eq]; lia, k _ _ ((hs.push _).weaken fun o q => ⟨0, q⟩)⟩) fun _ _ x => x)

/-- unpacking a tuple -/
theorem r_unpack {elts : List Expr} {k : Nat} {t : Addr} {vs : List Value} {Q : Unit → Shared → Prop} (hs : Is c F M s) (hh : A.handled = none) (ht : IsTup s.heap t vs.toArray) (hn : (assignEach elts env).length = vs.length) (hstar : (assignEach elts env).findIdx? (·.1) = none)
    (h : ∀ s', Is c F M s' → wpAny (model c.prog c.w) A (assignInOrder ((assignEach elts env).map (·.2)) vs) Q E s') : wpAny (model c.prog c.w) A (assign (.Tuple elts k pos) env (.ref t)) Q E s :=
  assign_Tuple_tuple hh ht (by simpa using hn) hstar fun h' he => by
    have := h _ (hs.keeps (h' := h') s.toks fun b o e => he b o (fun q => by rw [q] at e; exact absurd (Heap.lt_size e) (Nat.lt_irrefl _)) e)
    simpa using this
end
end Mine

namespace Mine
variable {w : World} {B : Heap} {os : OsState} {mg mb : Str → Option Value} {F : List (Addr × Obj)} {M M' : Led} {s : Shared} {A : Around} {E : Value → Shared → Prop} {Q : Value → Shared → Prop}

theorem b_type (G : Gd (cx w B os mg mb)) : mg "type" = none := mg_none_of G.X G.T.g (by kernel_rfl)
theorem b_str (G : Gd (cx w B os mg mb)) : mg "str" = none := mg_none_of G.X G.T.g (by kernel_rfl)
theorem bb_type : bootBuiltins "type" = some (.type "type") := by kernel_rfl
theorem bb_str : bootBuiltins "str" = some (.type "str") := by kernel_rfl
theorem g_kind (G : Gd (cx w B os mg mb)) : mg "_kind" = some (.ref 28) := mg_of G.X G.T.g (by kernel_rfl)
theorem g_c_path (G : Gd (cx w B os mg mb)) : mg "_c_path" = some (.ref 35) := mg_of G.X G.T.g (by kernel_rfl)
theorem g_splitroot (G : Gd (cx w B os mg mb)) : mg "_splitroot" = some (.ref 42) := mg_of G.X G.T.g (by kernel_rfl)
theorem g_normpath' (G : Gd (cx w B os mg mb)) : mg "_normpath" = some (.ref 49) := mg_of G.X G.T.g (by kernel_rfl)
theorem g_normpath (G : Gd (cx w B os mg mb)) : mg "normpath" = some (.ref 56) := mg_of G.X G.T.g (by kernel_rfl)

theorem kind_c {n x : Str} {t u : Tok} (hs : Is (cx w B os mg mb) F M s) (r : Rm 3 A) (k : ∀ t s', Is (cx w B os mg mb) F M s' → Q (.str "" t) s') :
    wpAny (model (cx w B os mg mb).prog w) A (call (.ref 28) [.str n t, .str x u]) Q E s := by
  refine r_fn (binds := [("name", .str n t), ("x", .str x u)]) hs r (by rfl) (by kernel_rfl) (.of_eq rfl) (locs rfl) (fun L s r' hs => ?_)
  refine wpAny_execs_cons (r_assign (r_CallT (c := cx w B os mg mb) hs (b_type hs.gd) bb_type (by decide) (wpAny_items_cons ?_)))
  refine r_loc hs (.head _) rfl (wpAny_items_nil (r_typeS (c := cx w B os mg mb) ?_))
  refine r_st hs .head fun s hs => ?_
  refine wpAny_execs_cons (wpAny_If (wpAny_isTrue_Compare1 (r_loc hs (.head _) rfl (r_bn (c := cx w B os mg mb) hs (b_str hs.gd) bb_str (by decide) ?_))))
  refine r_isT (c := cx w B os mg mb) (wpAny_truthy_bool (if_t rfl ?_))
  exact wpAny_execs_cons (wpAny_Return_some (r_str hs fun t s hs => k _ _ hs.drop))

/-- an empty dict of the ledger -/
noncomputable def D0P (o : Obj) : Prop := o = { cls := .type "dict", data := .dict #[] }
theorem r_truthD0 {c : Cx} {d : Addr} {Q : Bool → Shared → Prop} (hs : Is c F M s) (hm : (d, D0P) ∈ M) (h : ∀ s', Is c F M s' → Q false s') : wpAny (model c.prog c.w) A (truthy (.ref d)) Q E s := by
  obtain ⟨o, e, rfl⟩ := hs.get hm
  exact wpAny_truthy_dict (knd := strKind c.prog c.w) (kvs := []) (hs.noMods hm) ⟨_, #[], 0, e, ⟨rfl, rfl, rfl⟩, rfl, fun _ he => by simp at he, .nil, .nil⟩ (by simp) (h _ (hs.toks _))

theorem c_path_c {n1 n2 n3 x : Str} {t1 t2 t3 u : Tok} {ta d : Addr} (hs : Is (cx w B os mg mb) F M s) (r : Rm 5 A) (ha : (ta, (· = tupO [.str x u])) ∈ M) (hd : (d, D0P) ∈ M)
    (k : ∀ s', Is (cx w B os mg mb) F M s' → Q (.str x u) s') :
    wpAny (model (cx w B os mg mb).prog w) A (call (.ref 35) [.str n1 t1, .str n2 t2, .str n3 t3, .ref ta, .ref d]) Q E s := by
  refine r_fn (binds := [("name", .str n1 t1), ("cname", .str n2 t2), ("argname", .str n3 t3), ("args", .ref ta), ("kwargs", .ref d)]) hs r (by rfl) (by kernel_rfl) (.of_eq rfl) (locs rfl) (fun L s r' hs => ?_)
  refine wpAny_execs_cons (wpAny_If (wpAny_isTrue_BoolOp (wpAny_allTrue_And_cons (wpAny_isTrue_Compare1 ?_))))
  refine r_CallB (c := cx w B os mg mb) hs (b_len hs.gd) bb_len (by decide) (wpAny_items_cons (r_loc hs (.head _) rfl (wpAny_items_nil ?_)))
  refine r_lenT hs (.tail _ ha) (by simp) fun _ s hs => r_int hs fun _ s hs => r_eqi (c := cx w B os mg mb) (wpAny_truthy_bool (if_t rfl ?_))
  refine wpAny_allTrue_And_cons (wpAny_isTrue_Not (wpAny_isTrue_value (r_loc hs (.head _) rfl ?_)))
  refine r_truthD0 hs (.tail _ hd) fun s hs => if_t rfl (wpAny_allTrue_And_nil (if_t rfl ?_))
  refine wpAny_execs_cons (r_assign (Subscript_ (r_loc hs (.head _) rfl (r_int hs fun _ s hs => ?_))))
  refine r_itemT hs (.tail _ ha) (by decide) (by decide) (j := 0) rfl rfl ?_
  refine r_st hs .head fun s hs => wpAny_execs_nil ?_
  refine wpAny_execs_cons (r_assign (r_Call (c := cx w B os mg mb) hs (g_kind hs.gd) (by rfl) rfl ?_))
  refine wpAny_items_cons (r_loc hs (.head _) rfl (wpAny_items_cons (r_loc hs (.head _) rfl (wpAny_items_nil ⟨hs.K, ?_⟩))))
  refine kind_c hs (r'.mono (by decide)) fun t s hs => ?_
  refine r_st hs .head fun s hs => ?_
  refine wpAny_execs_cons (wpAny_If (wpAny_isTrue_value (r_loc hs (.head _) rfl ?_)))
  refine r_truthS hs (by decide) fun s hs => if_f rfl (wpAny_execs_nil ?_)
  exact wpAny_execs_cons (wpAny_Return_some (r_loc hs (.head _) rfl (k _ hs.drop)))

theorem splitroot_c {p : Str} {u : Tok} (hs : Is (cx w B os mg mb) F M s) (r : Rm 3 A) (hz : p.length ≤ 1000) (h1 : Txt.slice p none (some 1) = "/") (h2 : Txt.slice p (some 1) (some 2) ≠ "/")
    (k : ∀ a t1 t2 t3 s', Is (cx w B os mg mb) F ((a, (· = tupO [.str "" t1, .str "/" t2, .str (Txt.slice p (some 1) none) t3])) :: M) s' → Q (.ref a) s') :
    wpAny (model (cx w B os mg mb).prog w) A (call (.ref 42) [.str p u]) Q E s := by
  refine r_fn (binds := [("p", .str p u)]) hs r (by rfl) (by kernel_rfl) (.of_eq rfl) (locs rfl) (fun L s r' hs => ?_)
  refine wpAny_execs_cons (r_assign (r_str hs fun t1 s hs => r_st hs .head fun s hs => ?_))
  refine wpAny_execs_cons (r_assign (r_str hs fun t2 s hs => r_st hs .head fun s hs => ?_))
  refine wpAny_execs_cons (wpAny_If (wpAny_isTrue_Compare1 (r_sliceS (r_loc hs (.head _) rfl ?_))))
  refine ev_none (ev_some (r_int hs fun t3 s hs => ⟨p, u, none, some (1, t3), _, _, rfl, rfl, rfl, hs, by lia, fun t4 s hs => ?_⟩))
  refine r_loc hs (.head _) rfl (r_nes (c := cx w B os mg mb) (wpAny_truthy_bool (if_f ?_ ?_)))
  · show (Txt.slice p none (some 1) != "/") = false
    rw [h1]; rfl
  refine wpAny_execs_cons (wpAny_If (wpAny_isTrue_BoolOp (wpAny_allTrue_Or_cons (wpAny_isTrue_Compare1 (r_sliceS (r_loc hs (.head _) rfl ?_))))))
  refine ev_some (r_int hs fun t5 s hs => ev_some (r_int hs fun t6 s hs => ⟨p, u, some (1, t5), some (2, t6), _, _, rfl, rfl, rfl, hs, by lia, fun t7 s hs => ?_⟩))
  refine r_loc hs (.head _) rfl (r_nes (c := cx w B os mg mb) (wpAny_truthy_bool (if_t ?_ (if_t rfl ?_))))
  · exact bne_iff_ne.mpr h2
  refine wpAny_execs_cons (wpAny_Return_some (r_tuple (c := cx w B os mg mb) ?_))
  refine wpAny_items_cons (r_loc hs (.head _) rfl (wpAny_items_cons (r_loc hs (.head _) rfl (wpAny_items_cons (r_sliceS (r_loc hs (.head _) rfl ?_))))))
  refine ev_some (r_int hs fun t8 s hs => ev_none ⟨p, u, some (1, t8), none, _, _, rfl, rfl, rfl, hs, by lia, fun t9 s hs => wpAny_items_nil ⟨by simp, _, _, hs, fun a s hs => ?_⟩⟩)
  exact k a _ _ _ _ (hs.out (.tail .head))
end Mine

namespace Mine
section
variable {c : Cx} {F : List (Addr × Obj)} {M M' : Led} {s : Shared} {A : Around} {E : Value → Shared → Prop} {env : Env} {pos : Pos} {v : Value} {Q : Value → Shared → Prop} {x y : Str} {t u : Tok}
theorem r_itemNeg {value slice : Expr} {l : Addr} {vs : List Value} (hs : Is c F M s) (hm : (l, LsP (vs ++ [v])) ∈ M) (h : Q v s)
    (hsb : subscripted slice false (.ref l) (.int (-1) u) = operate [.ref l, .int (-1) u] (getItem (.ref l) (.int (-1) u)) := by with_unfolding_all rfl) :
    wpAny (model c.prog c.w) A (subscriptTail value slice (.ref l) (.int (-1) u)) Q E s :=
  tail_any (hs.ls hm).typeIs slot_list_getitem.lookup (wpAny_getItem_list_neg (hs.ls hm) (by decide) (by simp; lia) (by decide) (by
    have e : ((-1 : Int) + ((vs ++ [v]).toArray.size : Nat)).toNat = vs.length := by simp; lia
    rw [e]; simp) h) hsb
theorem r_neg {a : Int} (hs : Is c F M s) (h : ∀ t s', Is c F M s' → Q (.int (-a) t) s') : wpAny (model c.prog c.w) A (unaryOp .USub (.int a t)) Q E s := PyProof.Rows.neg_int (h _ _ (hs.toks _))

theorem strs_snoc {vs : List Value} {xs : List Str} (h : StrsAre vs xs) (x : Str) (t : Tok) : StrsAre (vs ++ [.str x t]) (xs ++ [x]) := by
  induction h with
  | nil => exact .cons x t .nil
  | cons y u _ ih => exact .cons y u ih
theorem strs_unsnoc {vs : List Value} {xs : List Str} (h : StrsAre vs xs) (h0 : xs ≠ []) : ∃ vs' xs' x t, vs = vs' ++ [.str x t] ∧ xs = xs' ++ [x] ∧ StrsAre vs' xs' := by
  induction h with
  | nil => exact absurd rfl h0
  | cons y u r ih =>
    cases r with
    | nil => exact ⟨[], [], y, u, rfl, rfl, .nil⟩
    | cons z t r' =>
      obtain ⟨vs', xs', x, t', e1, e2, e3⟩ := ih (List.cons_ne_nil _ _)
      exact ⟨.str y u :: vs', y :: xs', x, t', by rw [e1]; rfl, by rw [e2]; rfl, .cons y u e3⟩
theorem strs_len {vs : List Value} {xs : List Str} (h : StrsAre vs xs) : vs.length = xs.length := by
  induction h with
  | nil => rfl
  | cons y u _ ih => simp [ih]
theorem strs_get {vs : List Value} {xs : List Str} (h : StrsAre vs xs) : ∀ {i : Nat} {v : Value}, vs[i]? = some v → ∃ x t, v = .str x t ∧ xs[i]? = some x := by
  induction h with
  | nil => intro i v e; simp at e
  | cons y u _ ih =>
    intro i v e
    cases i with
    | zero => simp at e; exact ⟨y, u, e.symm, rfl⟩
    | succ i => exact ih (by simpa using e)
end

/-- one component -/
noncomputable def npStep (st : List Str) (cm : Str) : List Str :=
  if cm.length = 0 ∨ cm = "." then st
  else if cm ≠ ".." then st ++ [cm]
  else match st.getLast? with
    | some l => if l = ".." then st ++ [cm] else st.dropLast
    | none => st
noncomputable def npComps (rest : Str) : List Str := (Txt.split rest "/").foldl npStep []
noncomputable def npath (p : Str) : Str := "/" ++ Txt.join "/" (npComps (Txt.slice p (some 1) none))

variable {w : World} {B : Heap} {os : OsState} {mg mb : Str → Option Value} {F : List (Addr × Obj)} {M M' : Led} {s : Shared} {A : Around} {E : Value → Shared → Prop} {Q : Value → Shared → Prop}

/-- what is asked of a path -/
structure PathOk (p : Str) : Prop where
  len : p.length ≤ 1000
  pos : p.length ≠ 0
  one : Txt.slice p none (some 1) = "/"
  two : Txt.slice p (some 1) (some 2) ≠ "/"
  rest : (Txt.slice p (some 1) none).length ≤ 1000
  few : (Txt.split (Txt.slice p (some 1) none) "/").length ≤ 1000
  lens : ∀ x ∈ Txt.split (Txt.slice p (some 1) none) "/", x.length ≤ 1000
  out : ((npComps (Txt.slice p (some 1) none)).map (·.length)).sum + (npComps (Txt.slice p (some 1) none)).length ≤ 10000

set_option maxHeartbeats 2000000 in
theorem np_c {p : Str} {u : Tok} (hs : Is (cx w B os mg mb) F M s) (r : Rm 6 A) (hp : PathOk p) (k : ∀ t s', Is (cx w B os mg mb) F M s' → Q (.str (npath p) t) s') :
    wpAny (model (cx w B os mg mb).prog w) A (call (.ref 49) [.str p u]) Q E s := by
  refine r_fn (binds := [("path", .str p u)]) hs r (by rfl) (by kernel_rfl) (.of_eq rfl) (locs rfl) (fun L s r' hs => ?_)
  refine wpAny_execs_cons (r_assign (r_str hs fun t1 s hs => r_st hs .head fun s hs => ?_))
  refine wpAny_execs_cons (r_assign (r_str hs fun t2 s hs => r_st hs .head fun s hs => ?_))
  refine wpAny_execs_cons (r_assign (r_str hs fun t3 s hs => r_st hs .head fun s hs => ?_))
  have hz := hp.len
  refine wpAny_execs_cons (wpAny_If (wpAny_isTrue_Not (wpAny_isTrue_value (r_loc hs (.head _) rfl (r_truthS hs (by lia) fun s hs => if_f ?_ (wpAny_execs_nil ?_))))))
  · simp [hp.pos]
  refine wpAny_execs_cons (Assign_Tuple (r_Call (c := cx w B os mg mb) hs (g_splitroot hs.gd) (by rfl) rfl (wpAny_items_cons (r_loc hs (.head _) rfl (wpAny_items_nil ⟨hs.K, ?_⟩)))))
  refine splitroot_c hs (r'.mono (by decide)) hp.len hp.one hp.two fun ta u1 u2 u3 s hs => ?_
  obtain ⟨o, eo, rfl⟩ := hs.get (.head _)
  refine r_unpack hs r'.hd ⟨_, eo, rfl, 0, rfl⟩ rfl rfl fun s hs => ?_
  refine assignInOrder_cons (wpAny_assign_Name (r_st hs (.tail .head) fun s hs => ?_))
  refine assignInOrder_cons (wpAny_assign_Name (r_st hs (.tail .head) fun s hs => ?_))
  refine assignInOrder_cons (wpAny_assign_Name (r_st hs (.tail .head) fun s hs => assignInOrder_nil ?_))
  have hs := hs.drop
  refine wpAny_execs_cons (r_assign (wpAny_Call_method1_late rfl rfl rfl (r_loc hs (.head _) rfl (m_str1 (c := cx w B os mg mb) PySem.F.slot_str_split PySem.F.type_str_split (r_loc hs (.head _) rfl ?_)))))
  refine r_split hs (by decide) (by have := hp.rest; lia) fun D vs s hsp hs => r_st hs (.tail .head) fun s hs => ?_
  refine wpAny_execs_cons (r_assign (r_list (c := cx w B os mg mb) (wpAny_items_nil ⟨by simp, _, _, hs, fun nc s hs => r_st hs (.tail (.tail .head)) fun s hs => ?_⟩)))
  refine hs.fzL (.tail .head) fun nn hs => ?_
  refine wpAny_execs_cons (wpAny_For (r_loc hs (.tail _ (.head _)) rfl (r_iterL hs (.head _) fun I s hne hs => ?_)))
  refine r_for (Iter.list r'.hd hne) (fun i F' M' => Ex2 fun vs' m => And9 (F' = (D, lisO vs nn) :: F) (M' = (nc, LsP vs') :: (L, NsP m) :: M) (StrsAre vs' (((Txt.split (Txt.slice p (some 1) none) "/").take i).foldl npStep [])) (vs'.length ≤ i) (m "dot" = some (.str "." t2)) (m "dotdot" = some (.str ".." t3)) (m "initial_slashes" = some (.str "/" u2)) (m "new_comps" = some (.ref nc)) (m "sep" = some (.str "/" t1))) hs (fun _ h => (List.mem_singleton.mp h) ▸ .head _) ⟨[], _, rfl, rfl, .nil, Nat.le_refl _, rfl, rfl, rfl, rfl, rfl⟩ ?_ ?_
  · rintro i v F' M' s E' hi hv ⟨vs', m, rfl, rfl, hst, hli, m1, m2, m3, m4, m5⟩ - hs
    obtain ⟨cm, tc, rfl, ecm⟩ := strs_get hsp hv
    have hfew := hp.few
    have hsl := strs_len hsp
    have hcl : cm.length ≤ 1000 := hp.lens cm (List.mem_of_getElem? ecm)
    have estep : ((Txt.split (Txt.slice p (some 1) none) "/").take (i + 1)).foldl npStep [] = npStep (((Txt.split (Txt.slice p (some 1) none) "/").take i).foldl npStep []) cm := by
      rw [List.take_add_one, ecm, List.foldl_append]; rfl
    generalize hX : ((Txt.split (Txt.slice p (some 1) none) "/").take i).foldl npStep [] = X at hst estep
    refine wpAny_assign_Name (r_st hs (.tail (.tail .head)) fun s hs => gen fun QB hQB => ?_)
    have fin : ∀ (f : Flow) vs2 m2 s, f = .next ∨ f = .cont → Is (cx w B os mg mb) ((D, lisO vs nn) :: F) ((I, LiP D (i + 1)) :: (nc, LsP vs2) :: (L, NsP m2) :: M) s → StrsAre vs2 (npStep X cm) →
        m2 "dot" = some (.str "." t2) → m2 "dotdot" = some (.str ".." t3) → m2 "initial_slashes" = some (.str "/" u2) → m2 "new_comps" = some (.ref nc) → m2 "sep" = some (.str "/" t1) → vs2.length ≤ i + 1 → QB f s := by
      intro f vs2 m2 s hf hs h1 h2 h3 h4 h5 h6 h7
      refine hQB _ _ ?_
      rcases hf with rfl | rfl <;> exact ⟨_, _, fun _ h => h, ⟨vs2, m2, rfl, rfl, by rw [estep]; exact h1, h7, h2, h3, h4, h5, h6⟩, hs⟩
    have hxl := strs_len hst
    refine wpAny_execs_cons (wpAny_If (wpAny_isTrue_BoolOp (wpAny_allTrue_Or_cons (wpAny_isTrue_Not (wpAny_isTrue_value (r_loc hs (.tail _ (.tail _ (.head _))) rfl (r_truthS hs (by lia) fun s hs => ?_)))))))
    by_cases h1 : cm.length = 0
    · refine if_t (by simp [h1]) (if_t rfl (wpAny_execs_cons (wpAny_Continue ?_)))
      exact fin .cont vs' _ s (.inr rfl) hs (by unfold npStep; rw [if_pos (.inl h1)]; exact hst) m1 m2 m3 m4 m5 (by lia)
    refine if_f (by simp [h1]) (wpAny_allTrue_Or_cons (wpAny_isTrue_Compare1 (r_loc hs (.tail _ (.tail _ (.head _))) rfl (r_loc hs (.tail _ (.tail _ (.head _))) m1 (r_eqs (c := cx w B os mg mb) (wpAny_truthy_bool ?_))))))
    by_cases h2 : cm = "."
    · refine if_t (by simp [h2]) (if_t rfl (wpAny_execs_cons (wpAny_Continue ?_)))
      exact fin .cont vs' _ s (.inr rfl) hs (by unfold npStep; rw [if_pos (.inr h2)]; exact hst) m1 m2 m3 m4 m5 (by lia)
    refine if_f (by simpa using h2) (wpAny_allTrue_Or_nil (if_f rfl (wpAny_execs_nil ?_)))
    refine wpAny_execs_cons (wpAny_If (wpAny_isTrue_BoolOp (wpAny_allTrue_Or_cons (wpAny_isTrue_Compare1 (r_loc hs (.tail _ (.tail _ (.head _))) rfl (r_loc hs (.tail _ (.tail _ (.head _))) m2 (r_nes (c := cx w B os mg mb) (wpAny_truthy_bool ?_))))))))
    by_cases h3 : cm = ".."
    · refine if_f (by simp [h3]) (wpAny_allTrue_Or_cons (wpAny_isTrue_BoolOp (wpAny_allTrue_And_cons (wpAny_isTrue_Not (wpAny_isTrue_value (r_loc hs (.tail _ (.tail _ (.head _))) m3 (r_truthS hs (by decide) fun s hs => if_f rfl (if_f rfl ?_))))))))
      refine wpAny_allTrue_Or_cons (wpAny_isTrue_BoolOp (wpAny_allTrue_And_cons (wpAny_isTrue_value (r_loc hs (.tail _ (.tail _ (.head _))) m4 (r_truthL hs (.tail _ (.head _)) (by lia) fun s hs => ?_)))))
      by_cases hX0 : X = []
      · subst hX0
        have hv0 : vs' = [] := List.eq_nil_of_length_eq_zero (by simpa using hxl)
        subst hv0
        refine if_f rfl (if_f rfl (wpAny_allTrue_Or_nil (if_f rfl ?_)))
        refine wpAny_execs_cons (wpAny_If (wpAny_isTrue_value (r_loc hs (.tail _ (.tail _ (.head _))) m4 (r_truthL hs (.tail _ (.head _)) (by simp) fun s hs => if_f rfl (wpAny_execs_nil (wpAny_execs_nil (wpAny_execs_nil ?_)))))))
        exact fin .next [] _ s (.inl rfl) hs (by unfold npStep; rw [if_neg (by simp [h1, h2]), if_neg (by simp [h3])]; exact .nil) m1 m2 m3 m4 m5 (by simp)
      · obtain ⟨vs'', X', l, tl, rfl, rfl, hst'⟩ := strs_unsnoc hst hX0
        refine if_t (by simp) (wpAny_allTrue_And_cons (wpAny_isTrue_Compare1 (Subscript_ (r_loc hs (.tail _ (.tail _ (.head _))) m4 (wpAny_UnaryOp (r_int hs fun _ s hs => r_neg hs fun _ s hs => ?_))))))
        refine r_itemNeg hs (.tail _ (.head _)) (r_loc hs (.tail _ (.tail _ (.head _))) m2 (r_eqs (c := cx w B os mg mb) (wpAny_truthy_bool ?_)))
        have hl2 : vs''.length + 1 ≤ i := by simpa using hli
        by_cases h4 : l = ".."
        · refine if_t (by simp [h4]) (wpAny_allTrue_And_nil (if_t rfl (if_t rfl ?_)))
          refine wpAny_execs_cons (wpAny_Expr (wpAny_Call_method1_late rfl rfl rfl (r_loc hs (.tail _ (.tail _ (.head _))) m4 (m_append hs (.tail _ (.head _)) ?_))))
          refine r_loc hs (.tail _ (.tail _ (.head _))) rfl ⟨_, _, _, _, hs, .tail .head, by simp <;> lia, fun s hs => wpAny_execs_nil (wpAny_execs_nil ?_)⟩
          exact fin .next _ _ s (.inl rfl) hs (by unfold npStep; rw [if_neg (by simp [h1, h2]), if_neg (by simp [h3])]; simp only [List.getLast?_concat, h4, if_true]; rw [← h4]; exact strs_snoc (strs_snoc hst' l tl) cm tc) m1 m2 m3 m4 m5 (by simp; lia)
        · refine if_f (by simpa using h4) (if_f rfl (wpAny_allTrue_Or_nil (if_f rfl ?_)))
          refine wpAny_execs_cons (wpAny_If (wpAny_isTrue_value (r_loc hs (.tail _ (.tail _ (.head _))) m4 (r_truthL hs (.tail _ (.head _)) (by simp <;> lia) fun s hs => if_t (by simp) ?_))))
          refine wpAny_execs_cons (wpAny_Expr (wpAny_Call_method0_late rfl rfl (r_loc hs (.tail _ (.tail _ (.head _))) m4 (m_pop hs (.tail .head) (by lia) fun s hs => wpAny_execs_nil (wpAny_execs_nil (wpAny_execs_nil ?_))))))
          exact fin .next _ _ s (.inl rfl) hs (by unfold npStep; rw [if_neg (by simp [h1, h2]), if_neg (by simp [h3])]; simp only [List.getLast?_concat, h4, if_false, List.dropLast_concat]; exact hst') m1 m2 m3 m4 m5 (by lia)
    · refine if_t (by simpa using h3) (if_t rfl ?_)
      refine wpAny_execs_cons (wpAny_Expr (wpAny_Call_method1_late rfl rfl rfl (r_loc hs (.tail _ (.tail _ (.head _))) m4 (m_append hs (.tail _ (.head _)) ?_))))
      refine r_loc hs (.tail _ (.tail _ (.head _))) rfl ⟨_, _, vs', _, hs, .tail .head, by lia, fun s hs => wpAny_execs_nil (wpAny_execs_nil ?_)⟩
      exact fin .next _ _ s (.inl rfl) hs (by unfold npStep; rw [if_neg (by simp [h1, h2]), if_pos h3]; exact strs_snoc hst cm tc) m1 m2 m3 m4 m5 (by simp; lia)
  · rintro F' M' s ⟨vs', m, rfl, rfl, hst, hli, m1, m2, m3, m4, m5⟩ - hs
    have hs := hs.lessF (F' := F) fun q hq => .tail _ hq
    rw [strs_len hsp, List.take_length] at hst
    have hst : StrsAre vs' (npComps (Txt.slice p (some 1) none)) := hst
    refine wpAny_execs_cons (r_assign (r_loc hs (.tail _ (.head _)) m4 (r_st hs (.tail .head) fun s hs => ?_)))
    refine wpAny_execs_cons (r_assign (wpAny_BinOp (r_loc hs (.tail _ (.head _)) m3 (wpAny_Call_method1_late rfl rfl rfl (r_loc hs (.tail _ (.head _)) m5 (m_str1 (c := cx w B os mg mb) PySem.F.slot_str_join PySem.F.type_str_join (r_loc hs (.tail _ (.head _)) rfl ?_)))))))
    have hout := hp.out
    refine r_join hs (hs.ls (.head _)) hst (by decide) (by lia) fun tj s hs => ?_
    have hjl : (Txt.join "/" (npComps (Txt.slice p (some 1) none))).length ≤ 20000 := by
      have := StrLaws.join_length_le "/" (npComps (Txt.slice p (some 1) none))
      have e1 : ("/" : Str).length = 1 := rfl
      rw [e1] at this
      unfold Txt.join
      rw [StrLaws.glued_eq_join]
      lia
    refine r_adds hs (by show 1 + _ ≤ _; lia) fun tp s hs => ?_
    have e : npath p = "/" ++ Txt.join "/" (npComps (Txt.slice p (some 1) none)) := rfl
    rw [← e]
    have hpl : (npath p).length = 1 + (Txt.join "/" (npComps (Txt.slice p (some 1) none))).length := by
      unfold npath; rw [Str.length_append]; rfl
    have hlo : (npath p).length ≤ 100000 := by lia
    have hne : decide ((npath p).length ≠ 0) = true := decide_eq_true (by lia)
    clear e hpl
    generalize npath p = y at k hlo hne ⊢
    refine r_st hs (.tail .head) fun s hs => ?_
    refine wpAny_execs_cons (wpAny_Return_some (wpAny_Or2 (r_loc hs (.tail _ (.head _)) rfl ?_)))
    refine r_truthS hs hlo fun s hs => if_t hne ?_
    exact k _ _ hs.drop.drop

end Mine

namespace Mine
variable {w : World} {B : Heap} {os : OsState} {mg mb : Str → Option Value} {F : List (Addr × Obj)} {M M' : Led} {s : Shared} {A : Around} {E : Value → Shared → Prop} {Q : Value → Shared → Prop}
theorem wpAny_congr {α : Type} {Md : Model} {t t' : Sem α} {Q : α → Shared → Prop} (e : t = t') (h : wpAny Md A t' Q E s) : wpAny Md A t Q E s := e ▸ h
section
variable {c : Cx} {A : Around} {v : Value} {Q : Value → Shared → Prop}
theorem r_newTuple {vs : List Value} (hs : Is c F M s) (hz : vs.length < 100000) (h : ∀ a s', Is c F ((a, (· = tupO vs)) :: M) s' → Q (.ref a) s') : wpAny (model c.prog c.w) A (newTuple vs) Q E s :=
  wpAny_newObj_type (h _ _ (hs.push _)) (by show vs.toArray.size ≤ sizeLine; rw [sizeLine_eq]; simp; lia)
theorem r_alloc {o : Obj} {Q : Addr → Shared → Prop} (hs : Is c F M s) (h : ∀ a s', Is c F ((a, (· = o)) :: M) s' → Q a s') (hf : o.isFreed = false := by rfl) : wpAny (model c.prog c.w) A (alloc o) Q E s := wpAny_alloc (h _ _ (hs.push o hf))

/-- a call of a def whose binding makes objects -/
theorem r_fnB {n : Nat} {fa : Addr} {name qual : Str} {params : Arguments} {body : List Stmt} {scope : Scope} {dV kV doc pm cdv ct oc : Value} {an od : Option Addr} {osl : Array (Option Value)} {args : Args} {R : Result → Shared → Prop}
    (hs : Is c F M s) (r : Rm (n + 1) A)
    (ho : c.K.lookup fa = some ⟨oc, od, .func (fnOf name qual params body scope dV kV doc pm an cdv ct), osl⟩) (hcd : codeIn c.K cdv qual = true)
    (hb : wpAny (model c.prog c.w) A.in1 (bindArgs (fnOf name qual params body scope dV kV doc pm an cdv ct) args) (fun binds s₁ => Ex2 fun F M => And3 (Is c F M s₁) ((∀ y ∈ binds, scope.names.lookup y.1 = some .local)) (∀ L s', Rm n (A.deeper (envOf qual scope L fa cdv)) → Is c F ((L, NsP (fun y => binds.reverse.lookup y)) :: M) s' →
        wpAny (model c.prog c.w) (A.deeper (envOf qual scope L fa cdv)) (execs body (envOf qual scope L fa cdv)) (fun fl s'' => R (.ok (.ret (match fl with | .ret v => v | _ => .none))) s'') (fun _ _ => False) s')) (fun _ _ => False) s)
    (hco : scope.isCoroutine = false := by rfl) (hgen : scope.isGenerator = false := by rfl) (hk : scope.kind = .function := by rfl)
    (hcell : ∀ x ∈ scope.names, x.2 ≠ .cell := by decide) : codeAny (model c.prog c.w) A (.call (.ref fa) args) R s := by
  refine codeAny_call_function (fd := fnOf name qual params body scope dV kV doc pm an cdv ct) (body := body) r.room (hs.K _ _ ho) rfl hco hgen rfl (codeRec_of hs.K hcd) (wpAny_mono hb (fun binds s₁ h₁ => ?_) fun _ _ x => x.elim)
  obtain ⟨F, M, hs, hloc, h⟩ := h₁
  refine wpAny_newFunctionEnv hcell hloc (fun h₀ hns₀ hsb₀ => ⟨hs.noLimit.fresh _ hsb₀, codeAny_func ?_⟩) hk
  have hk₁ : ∀ b o, s₁.heap.get? b = some o → h₀.get? b = some o := fun b o e => hsb₀.extBut b o (Nat.ne_of_lt (Heap.lt_size e)) (Heap.get?_push_of_some _ e)
  obtain ⟨o, e, q⟩ := NsP.of hns₀
  have hs' : Is c F ((s₁.heap.objs.size, NsP (fun y => binds.reverse.lookup y)) :: M) { s₁ with heap := h₀, toks := s₁.toks + binds.length } := hs.new hk₁ (Heap.get_size _) hs.big e q
  exact wpAny_mono (h _ _ (r.deeper _) hs') (fun _ _ x => x) fun _ _ x => x.elim
end

/-- normpath, with its star arguments -/
theorem normpath_c {p : Str} {u : Tok} (hs : Is (cx w B os mg mb) F M s) (r : Rm 8 A) (hp : PathOk p) (k : ∀ t s', Is (cx w B os mg mb) F M s' → Q (.str (npath p) t) s') :
    wpAny (model (cx w B os mg mb).prog w) A (call (.ref 56) [.str p u]) Q E s := by
  refine wpAny_call (r_fnB hs r (by rfl) (by kernel_rfl) ?_)
  refine wpAny_congr (t' := do
    let t ← newTuple [.str p u]
    let d ← alloc { cls := .type "dict", data := .dict #[] }
    pure [(("args" : Str), t), (("kwargs" : Str), Value.ref d)]) ?e ?_
  case e => kernel_rfl
  refine wpAny_bind (r_newTuple hs (by simp) fun ta s hs => wpAny_bind (r_alloc hs fun d s hs => wpAny_pure ⟨_, _, hs, locs rfl, fun L s r' hs => ?_⟩))
  refine wpAny_execs_cons (wpAny_Return_some (r_Call (c := cx w B os mg mb) hs (g_normpath' hs.gd) (by rfl) rfl (wpAny_items_cons ?_)))
  refine r_Call (c := cx w B os mg mb) hs (g_c_path hs.gd) (by rfl) rfl (wpAny_items_cons (r_str hs fun _ s hs => ?_))
  refine wpAny_items_cons (r_str hs fun _ s hs => wpAny_items_cons (r_str hs fun _ s hs => ?_))
  refine wpAny_items_cons (r_loc hs (.head _) rfl (wpAny_items_cons (r_loc hs (.head _) rfl (wpAny_items_nil ⟨hs.K, ?_⟩))))
  refine c_path_c hs (r'.mono (by decide)) (.tail _ (.tail _ (.head _))) (.tail _ (.head _)) fun s hs => wpAny_items_nil ⟨hs.K, ?_⟩
  exact np_c hs (r'.mono (by decide)) hp fun t s hs => k t s hs.drop.drop.drop
end Mine

namespace Mine

/-- a set of texts: its entries are xs, in some order -/
structure SeO (c : Cx) (xs : List Str) (es : Array (Int × Value)) (t : SetTable) : Prop where
  txs : StrsAre (es.toList.map (·.2)) xs
  hash : ∀ e ∈ es.toList, ∀ x u, e.2 = .str x u → e.1 = hashStr c.w x
  fits : t.fits es.size = true
  led : t.led = !c.w.params.followText "set-order"
  plain : xs ≠ [] → t.plain = false
  few : xs.length < 1000
noncomputable def SeP (c : Cx) (xs : List Str) (o : Obj) : Prop := o.ExactSet ∧ ∃ es ep t, o.data = .set es ep t ∧ SeO c xs es t

section
variable {c : Cx} {F : List (Addr × Obj)} {M M' : Led} {s : Shared} {A : Around} {E : Value → Shared → Prop} {Q : Value → Shared → Prop} {x : Str} {xs : List Str} {es : Array (Int × Value)} {t : SetTable}

theorem SeO.size (h : SeO c xs es t) : es.size = xs.length := by
  have := strs_len h.txs; simpa using this
theorem SeO.elems (h : SeO c xs es t) : ElemsOf (PySem.strKind c.prog c.w) es.toList := by
  intro e he
  obtain ⟨i, hi, hie⟩ := List.getElem_of_mem he
  have h1 : (es.toList.map (·.2))[i]? = some e.2 := by rw [List.getElem?_map, List.getElem?_eq_getElem hi, hie]; rfl
  obtain ⟨y, u, ey, _⟩ := strs_get h.txs h1
  refine ⟨⟨y, ?_, h.hash e he y u ey⟩, by rw [ey]; rfl⟩
  rw [ey]; simp [PySem.strKind, Value.isStrOf]
theorem mem_strs {vs : List Value} {xs : List Str} (h : StrsAre vs xs) : ∀ {x : Str}, x ∈ xs ↔ ∃ t, Value.str x t ∈ vs := by
  induction h with
  | nil => intro x; simp
  | cons y u _ ih =>
    intro x
    simp only [List.mem_cons, ih]
    constructor
    · rintro (rfl | ⟨t, h⟩)
      · exact ⟨u, .inl rfl⟩
      · exact ⟨t, .inr h⟩
    · rintro ⟨t, h | h⟩
      · cases h; exact .inl rfl
      · exact .inr ⟨t, h⟩
theorem SeO.mem (h : SeO c xs es t) (x : Str) : x ∈ xs ↔ ∃ e ∈ es.toList, (PySem.strKind c.prog c.w).is x e.2 = true := by
  rw [mem_strs h.txs]
  constructor
  · rintro ⟨u, hu⟩
    obtain ⟨e, he, ee⟩ := List.mem_map.mp hu
    exact ⟨e, he, by rw [ee]; simp [PySem.strKind, Value.isStrOf]⟩
  · rintro ⟨e, he, hi⟩
    obtain ⟨u, hu⟩ := Value.isStrOf_shape (x := x) (v := e.2) hi
    exact ⟨u, hu ▸ List.mem_map.mpr ⟨e, he, rfl⟩⟩
theorem strs_perm {vs vs' : List Value} {xs : List Str} (h : StrsAre vs xs) (p : vs'.Perm vs) : ∃ xs', StrsAre vs' xs' ∧ xs'.Perm xs := by
  induction p generalizing xs with
  | nil => cases h; exact ⟨[], .nil, .refl _⟩
  | cons v _ ih =>
    cases h with
    | cons y u r => obtain ⟨ys, h1, h2⟩ := ih r; exact ⟨y :: ys, .cons y u h1, h2.cons y⟩
  | swap v v' l =>
    cases h with
    | cons y u r => cases r with
      | cons z w r => exact ⟨z :: y :: _, .cons z w (.cons y u r), .swap _ _ _⟩
  | trans _ _ ih1 ih2 =>
    obtain ⟨ys, h1, h2⟩ := ih2 h
    obtain ⟨zs, h3, h4⟩ := ih1 h1
    exact ⟨zs, h3, h4.trans h2⟩

theorem layNew_led (t : SetTable) (es : Array (Int × Value)) (h : Int) (v : Value) : (layNew t es h v).2.1.led = t.led := by
  unfold layNew SetTable.orStandIn SetTable.standIn
  split
  · dsimp only [SetTable.put]
    (repeat' split) <;> rfl
  · rfl
theorem relay_led (t : SetTable) (es : Array (Int × Value)) (n : Nat) : (relayAll t es n).2.1.led = t.led := by
  unfold relayAll
  split
  · rename_i t' order e
    dsimp only
    split
    · unfold SetTable.relaid SetTable.laid at e
      simp only [bind, Option.bind_eq_some_iff] at e
      obtain ⟨o, _, e⟩ := e
      injection e with e
      injection e with e1 e2
      rw [← e1]
    · rfl
  · rfl
theorem relay_plain (t : SetTable) (es : Array (Int × Value)) (n : Nat) (h : t.plain = false) : (relayAll t es n).2.1.plain = false := by
  unfold relayAll
  split
  · rename_i t' order e
    dsimp only
    split
    · unfold SetTable.relaid SetTable.laid at e
      simp only [bind, Option.bind_eq_some_iff] at e
      obtain ⟨o, _, e⟩ := e
      injection e with e
      injection e with e1 e2
      rw [← e1]; exact h
    · rfl
  · rfl

/-- the entries laid in another order, or with one more -/
theorem SeO.relaid {es' : Array (Int × Value)} {t' : SetTable} {ys : List Str} (hh : ∀ e ∈ es.toList, ∀ x u, e.2 = .str x u → e.1 = hashStr c.w x) (hst : StrsAre (es.toList.map (·.2)) ys) (p : es'.toList.Perm es.toList) (hf : t'.fits es'.size = true)
    (hl : t'.led = !c.w.params.followText "set-order") (hp : t'.plain = false) (hz : ys.length < 1000) : ∃ zs, zs.Perm ys ∧ SeO c zs es' t' := by
  obtain ⟨zs, h1, h2⟩ := strs_perm hst (p.map (·.2))
  exact ⟨zs, h2, h1, fun e he => hh e (p.mem_iff.mp he), hf, hl, fun _ => hp, by rw [h2.length_eq]; exact hz⟩

theorem add_tail {g : Bool → Sem Unit} {A : Around} {E : Value → Shared → Prop} {s : Shared} (hg : ∀ (b : Bool) (s₁ : Shared) (Q' : Unit → Shared → Prop), Q' () s₁ → wpAny (model c.prog c.w) A (g b) Q' E s₁)
    {a : Addr} {o : Obj} {ep : Nat} (ho : s.heap.get? a = some o) (hex : o.ExactSet) {es0 : Array (Int × Value)} {t0 : SetTable} (hd : o.data = .set es0 ep t0) {ys : List Str} {es1 : Array (Int × Value)} {t2 : SetTable} (h1 : SeO c ys es1 t2) (hy : ys ≠ [])
    {wasDummy : Bool} {R : Option Bool → Shared → Prop}
    (h : ∀ h' o' zs, Heap.SameBut a s.heap h' → h'.get? a = some o' → SeP c zs o' → zs.Perm ys → R (some true) { s with heap := h' }) :
    wpAny (model c.prog c.w) A (do
        storeSet a es1 t2
        if (!wasDummy && t2.tooFull) = true then do
            g (relayAll t2 es1 (SetTable.grown es1.size)).2.2
            storeSet a (relayAll t2 es1 (SetTable.grown es1.size)).1 (relayAll t2 es1 (SetTable.grown es1.size)).2.1
            pure (some true)
          else pure (some true)) R E s := by
  have hz1 : es1.size ≤ sizeLine := by rw [h1.size, sizeLine_eq]; have := h1.few; lia
  refine wpAny_bind (wpAny_storeSet_of ho hd ?_ hz1)
  have ho1 : (s.heap.update a (Obj.putSet es1 t2)).get? a = some { o with data := .set es1 (ep + 1) t2 } := by
    have := Heap.get?_update_self (Obj.putSet es1 t2) ho (by rw [putSet_of es1 t2 hd]; rfl)
    rw [putSet_of es1 t2 hd] at this; exact this
  have hsb1 := Heap.SameBut.update s.heap a (Obj.putSet es1 t2)
  split
  · have hp := relayAll_perm t2 es1 (SetTable.grown es1.size)
    have hfr := relayAll_fits t2 es1 (SetTable.grown es1.size)
    have hlr := relay_led t2 es1 (SetTable.grown es1.size)
    have hpr := relay_plain t2 es1 (SetTable.grown es1.size) (h1.plain hy)
    generalize relayAll t2 es1 (SetTable.grown es1.size) = Rl at hp hfr hlr hpr ⊢
    obtain ⟨es2, t3, gave2⟩ := Rl
    dsimp only at hp hfr hlr hpr ⊢
    obtain ⟨zs, hzs, h2⟩ := SeO.relaid h1.hash h1.txs hp hfr (hlr.trans h1.led) hpr h1.few
    have hz2 : es2.size ≤ sizeLine := by rw [h2.size, sizeLine_eq]; have := h2.few; lia
    refine wpAny_bind (hg _ _ _ ?_)
    refine wpAny_bind (wpAny_storeSet_of ho1 rfl ?_ hz2)
    have ho2 := Heap.get?_update_self (Obj.putSet es2 t3) ho1 (by rfl)
    exact wpAny_pure (h _ _ zs (hsb1.trans (Heap.SameBut.update _ a _)) ho2 ⟨hex, es2, ep + 2, t3, rfl, h2⟩ hzs)
  · exact wpAny_pure (h _ _ ys hsb1 ho1 ⟨hex, es1, ep + 1, t2, rfl, h1⟩ (.refl _))

theorem set_add {a : Addr} {o : Obj} {tk : Tok} {Q : Bool → Shared → Prop} (ho : s.heap.get? a = some o) (hP : SeP c xs o) (hz : xs.length + 1 < 1000)
    (h : ∀ h' o' ys b, Heap.SameBut a s.heap h' → h'.get? a = some o' → SeP c ys o' → (∀ y, y ∈ ys ↔ y ∈ xs ∨ y = x) → ys.length ≤ xs.length + 1 → Q b { s with heap := h', toks := s.toks + 1 }) :
    wpAny (model c.prog c.w) A (setAdd a (.str x tk)) Q E s := by
  obtain ⟨hex, es, ep, t, hd, hS⟩ := hP
  have hkey : (PySem.strKind c.prog c.w).is x (.str x tk) = true := strKind_is _ _ _ _
  unfold setAdd
  refine wpAny_holding ?_
  refine wpAny_bind ((PySem.strKind c.prog c.w).pyHash (k := x) hkey ?_)
  unfold setAddHashed setAddHashedIn
  refine wpAny_holding (wpAny_bind (wpAny_setState_of (s := { s with toks := s.toks + 1 }) ho hd hS.fits ?_))
  dsimp only
  have hb : es.size < scanBound := by rw [hS.size]; unfold scanBound; lia
  rw [byScan_of (knd := PySem.strKind c.prog c.w) rfl hb hS.elems]
  simp only [↓reduceIte]
  unfold setAddByScan
  refine wpAny_bind ?_
  refine wpAny_bind (wpAny_rule ?_)
  refine wpAny_bind (wpAny_setScan_of (knd := PySem.strKind c.prog c.w) hkey (s := { s with toks := s.toks + 1 }) ho hd hS.fits hS.elems ?_)
  cases hr : List.findIdx? (fun e => (PySem.strKind c.prog c.w).is x e.2) es.toList with
  | some j =>
    dsimp only
    obtain ⟨hj, hpj, _⟩ := List.findIdx?_eq_some_iff_getElem.mp hr
    have hx : x ∈ xs := (hS.mem x).mpr ⟨es.toList[j], List.getElem_mem hj, hpj⟩
    refine wpAny_pure (wpAny_pure ?_)
    exact h s.heap o xs _ (Heap.SameBut.refl _ _) ho ⟨hex, es, ep, t, hd, hS⟩ (fun y => ⟨.inl, fun q => q.elim id fun e => e ▸ hx⟩) (by lia)
  | none =>
    dsimp only
    have hx : x ∉ xs := fun hx => by
      obtain ⟨e, he, hp⟩ := (hS.mem x).mp hx
      have := List.findIdx?_eq_none_iff.mp hr e he; rw [hp] at this; exact Bool.noConfusion this
    have hgw : ∀ (b : Bool) {s₁ : Shared} {Q' : Unit → Shared → Prop}, Q' () s₁ → wpAny (model c.prog c.w) A (match b with | true => rule "set.scan.the-table-gave-way" | false => pure ()) Q' E s₁ :=
      fun b s₁ Q' hq => by cases b <;> first | exact wpAny_pure hq | exact wpAny_rule hq
    have hperm := layNew_perm t es ((PySem.strKind c.prog c.w).hash x) (.str x tk)
    have hfits := layNew_fits t es ((PySem.strKind c.prog c.w).hash x) (.str x tk)
    have hled := layNew_led t es ((PySem.strKind c.prog c.w).hash x) (.str x tk)
    generalize layNew t es ((PySem.strKind c.prog c.w).hash x) (.str x tk) = L at hperm hfits hled ⊢
    obtain ⟨es1, t1, wasDummy, gave⟩ := L
    dsimp only at hperm hfits hled ⊢
    have hsx : StrsAre ((es.push ((PySem.strKind c.prog c.w).hash x, .str x tk)).toList.map (·.2)) (xs ++ [x]) := by
      simp only [Array.toList_push, List.map_append, List.map_cons, List.map_nil]
      exact strs_snoc hS.txs x tk
    have hhx : ∀ e ∈ (es.push ((PySem.strKind c.prog c.w).hash x, Value.str x tk)).toList, ∀ y u, e.2 = .str y u → e.1 = hashStr c.w y := by
      intro e he y u ey
      rw [Array.toList_push] at he
      rcases List.mem_append.mp he with he | he
      · exact hS.hash e he y u ey
      · rw [List.mem_singleton] at he; subst he; cases ey; rfl
    refine wpAny_bind (hgw _ ?_)
    have hend : ∀ (t2 : SetTable), t2.fits es1.size = true → t2.led = t.led → t2.plain = false → ∀ (g : Bool → Sem Unit), (∀ (b : Bool) (s₁ : Shared) (Q' : Unit → Shared → Prop), Q' () s₁ → wpAny (model c.prog c.w) A (g b) Q' E s₁) →
        wpAny (model c.prog c.w) A (do
        storeSet a es1 t2
        if (!wasDummy && t2.tooFull) = true then do
            g (relayAll t2 es1 (SetTable.grown es1.size)).2.2
            storeSet a (relayAll t2 es1 (SetTable.grown es1.size)).1 (relayAll t2 es1 (SetTable.grown es1.size)).2.1
            pure (some true)
          else pure (some true)) (fun r s' => wpAny (model c.prog c.w) A (match r with | some added => pure added | none => setAddHashedIn a (.str x tk) ((PySem.strKind c.prog c.w).hash x) 99999) Q E s') E { s with toks := s.toks + 1 } := by
      intro t2 hf2 hl2 hp2 g hg
      obtain ⟨ys, hys, h1⟩ := SeO.relaid hhx hsx hperm hf2 (hl2.trans hS.led) hp2 (by simp; lia)
      have hyl := hys.length_eq
      refine add_tail (s := { s with toks := s.toks + 1 }) hg ho hex hd h1 (fun e => by rw [e] at hyl; simp at hyl) fun h' o' zs hsb ho' hP' hzs => ?_
      refine wpAny_pure (h h' o' zs true hsb ho' hP' (fun y => ?_) ?_)
      · rw [hzs.mem_iff, hys.mem_iff]; simp
      · rw [hzs.length_eq, hyl]; simp
    split
    · rename_i hpl
      refine wpAny_bind ?_
      rw [hashByValue_scannable 8 (x := .str x tk) rfl]
      refine wpAny_pure ?_
      refine hend _ ?_ ?_ ?_ _ ?_
      · exact SetTable.fits_plain_off hfits
      · exact hled
      · rfl
      · intro b s₁ Q' hq; cases b <;> first | exact wpAny_pure hq | exact wpAny_rule hq
    · rename_i hpl
      refine wpAny_bind (wpAny_pure ?_)
      simp only [↓reduceIte]
      refine hend t1 hfits hled (by simpa using hpl) _ ?_
      intro b s₁ Q' hq; cases b <;> first | exact wpAny_pure hq | exact wpAny_rule hq
end
end Mine

namespace Mine
section
variable {c : Cx} {F : List (Addr × Obj)} {M M' : Led} {s : Shared} {A : Around} {E : Value → Shared → Prop} {Q : Value → Shared → Prop} {x : Str} {xs : List Str}

theorem Is.sameBut {a : Addr} {P : Obj → Prop} {o' : Obj} {g : (Obj → Prop) → Led} {P' : Obj → Prop} (hs : Is c F M s) (hu : UpdF a P M g) {h' : Heap} (t : Nat) (hsb : Heap.SameBut a s.heap h') (ho : h'.get? a = some o') (hP : P' o') : Is c F (g P') { s with heap := h', toks := t } :=
  hs.change hu.upd t (fun b o hb e => hsb.extBut b o hb e) ho hP

theorem set_loop {S I l : Addr} {vs : List Value} {kk : Nat} {R : Result → Shared → Prop} (hh : A.handled = none) (hne : l ≠ I) (hl : (l, lisO vs kk) ∈ F) (hx : StrsAre vs xs) (hz : xs.length < 900)
    (hR : ∀ ys s', (∀ y, y ∈ ys ↔ y ∈ xs) → Is c F ((S, SeP c ys) :: M) s' → R (.ok (.ret .none)) s') :
    ∀ (k i : Nat) (ys : List Str) (s : Shared), vs.length - i = k → i ≤ vs.length → (∀ y, y ∈ ys ↔ y ∈ xs.take i) → ys.length ≤ i → Is c F ((I, LiP l i) :: (S, SeP c ys) :: M) s →
      codeAny (model c.prog c.w) A (.builtin "set.update.loop" ⟨[.ref S, .ref I], []⟩) R s := by
  have hlen := strs_len hx
  have T := Iter.list (c := c) (A := A.in1) (vs := vs) (k := kk) (I := I) (l := l) hh hne
  intro k
  induction k with
  | zero =>
    intro i ys s hk hi hy hyl hs
    have hin : i = vs.length := by lia
    subst hin
    refine codeAny_builtin PyProof.Rows.F.entry_set_update_loop ?_
    rw [Around.under_plainId PyProof.Rows.F.plain_set_update_loop _]
    show wpAny _ A.in1 (pyNext (.ref I) >>= _) _ _ s
    refine wpAny_bind (T.done F _ s _ _ hs (fun _ h => (List.mem_singleton.mp h) ▸ hl) fun s' hs' => ?_)
    show wpAny _ A.in1 (ret Value.none) _ _ s'
    exact wpAny_pure (hR ys s' (fun y => by rw [hy y, hlen, List.take_length]) hs')
  | succ k ih =>
    intro i ys s hk hi hy hyl hs
    have hlt : i < vs.length := by lia
    refine codeAny_builtin PyProof.Rows.F.entry_set_update_loop ?_
    rw [Around.under_plainId PyProof.Rows.F.plain_set_update_loop _]
    show wpAny _ A.in1 (pyNext (.ref I) >>= _) _ _ s
    refine wpAny_bind (T.item i F _ s _ _ hlt hs (fun _ h => (List.mem_singleton.mp h) ▸ hl) fun v s' hv hs' => ?_)
    obtain ⟨y, t, rfl, ey⟩ := strs_get hx hv
    show wpAny _ A.in1 (holding [Value.str y t] (setAdd S (.str y t)) >>= _) _ _ s'
    obtain ⟨o, eo, hP⟩ := hs'.get (.tail _ (.head _))
    refine wpAny_bind (wpAny_holding (set_add eo hP (by lia) fun h' o' zs b hsb ho' hP' hm hzl => ?_))
    have hs2 := hs'.sameBut (.tail .head) (s'.toks + 1) hsb ho' hP'
    refine wpAny_pure ⟨plainId_quiet PyProof.Rows.F.plain_set_update_loop _, ih (i + 1) zs _ (by lia) hlt (fun z => ?_) (by lia) hs2⟩
    rw [hm z, hy z, List.take_add_one, ey]; simp

noncomputable abbrev newSetO (c : Cx) : Obj := { cls := .type "set", dict := none, data := .set #[] 0 (.fresh 0 0 (!c.w.params.followText "set-order")) }
theorem newSet_is : SeP c [] (newSetO c) := ⟨⟨rfl, rfl, rfl⟩, #[], 0, _, rfl, ⟨.nil, (fun e he => by simp at he), rfl, rfl, fun h => absurd rfl h, by simp⟩⟩

theorem code_set_new' (a : Value) {Q₁ : Value → Shared → Prop} (h : Q₁ (.ref s.heap.objs.size) { s with heap := s.heap.push (newSetO c) }) :
    codeAny (model c.prog c.w) A (.call (.builtin "set.__new__") ⟨[.type "set", a], []⟩) (wants Q₁ E) s := by
  refine codeAny_of_tree ?_
  show wpAny _ A.in1 (do checkBuiltinCall "set.__new__" ⟨[.type "set", a], []⟩; again (.builtin "set.__new__" ⟨[.type "set", a], []⟩)) _ _ s
  refine wpAny_bind (wpAny_of_eq (PySem.F.newCall_set_1 a) (wpAny_pure ⟨plainId_quiet PySem.F.plain_set_new _, codeAny_builtin PySem.F.entry_set_new ?_⟩))
  rw [Around.under_plainId PySem.F.plain_set_new _]
  unfold Builtin.«set.__new__» Builtin.Frozenset.newClass
  have hsub := sub_set_self
  obtain ⟨hp, g, d, tk, os⟩ := s
  dsimp only
  wp_walk
  refine wpAny_askSetting (wpAny_pure ?_)
  dsimp only
  simp only [newObj]
  refine wpAny_bind (wpAny_alloc (wpAny_pure ?_))
  exact wpAny_pure h

set_option maxHeartbeats 3200000 in
theorem r_setL {l : Addr} {vs : List Value} {kk : Nat} (hs : Is c F M s) (hh : A.handled = none) (hl : (l, lisO vs kk) ∈ F) (hx : StrsAre vs xs) (hz : xs.length < 900)
    (h : ∀ a ys s', (∀ y, y ∈ ys ↔ y ∈ xs) → Is c F ((a, SeP c ys) :: M) s' → Q (.ref a) s') : wpAny (model c.prog c.w) A (call (.type "set") [.ref l]) Q E s := by
  obtain ⟨c', tl, hmro⟩ := PySem.F.called_set.mro
  have hmade := PySem.F.called_set.made
  have hsub := PySem.F.called_set.sub
  refine wpAny_call (codeAny_of_tree ?_)
  show wpAny _ _ (callAny (.type "set") _) _ _ _
  refine wpAny_pure ⟨Code.quiet_builtin _ (by decide +kernel), codeAny_builtin PySem.F.entry_type_call ?_⟩
  rw [Around.under_plain (weight_type_call_type "set" [.ref l] []) rfl]
  have h1 := PySem.F.called_set.notType
  have h2 := PySem.F.called_set.canCreate
  have hct := PySem.F.typeCall_set_1 (.ref l)
  repeat (any_goals (first | assumption | wp_step))
  refine codeAny_mono (code_set_new' (c := c) (.ref l) (E := E) (Q₁ := fun obj s₁ => obj = .ref s.heap.objs.size ∧ s₁ = { s with heap := s.heap.push (newSetO c) }) ⟨rfl, rfl⟩) fun r s₁ hr => ?_
  cases r with
  | error e => exact hr
  | ok fl =>
    cases fl with
    | ret obj =>
      obtain ⟨rfl, rfl⟩ := hr
      have hS : (s.heap.push (newSetO c)).get? s.heap.objs.size = some (newSetO c) := Heap.get?_push_size _ rfl
      have hT : Shared.TypeIs { s with heap := s.heap.push (newSetO c) } (.ref s.heap.objs.size) "set" := ⟨_, hS, rfl⟩
      have hli := PySem.F.called_set.init.lookup
      have hbi := PySem.F.called_set.init.bind (.ref s.heap.objs.size)
      repeat (any_goals (first | assumption | wp_step))
      have hs1 : Is c F ((s.heap.objs.size, SeP c []) :: M) { s with heap := s.heap.push (newSetO c) } := (hs.push (newSetO c)).weaken fun o q => q ▸ newSet_is
      refine codeAny_mono (codeAny_call_builtin (R := wants (fun r s₂ => r = .none ∧ ∃ ys, (∀ y, y ∈ ys ↔ y ∈ xs) ∧ Is c F ((s.heap.objs.size, SeP c ys) :: M) s₂) E) PySem.F.called_set.init.plain PySem.F.entry_set_init (check_set_init_1 hT ?_)) fun r₂ s₂ hr₂ => ?_
      · have hol' := hs1.getF hl
        have hsls := PySem.F.sub_list_set
        have hslf := PySem.F.sub_list_frozenset
        have hne : (Value.type "list" == Value.type "dict") = false := by decide
        unfold Builtin.«set.__init__» noKeywords Builtin.Frozenset.updateFrom
        generalize hPI : pyIter = PI
        wp_walk
        subst hPI
        refine r_iterL hs1 hl fun I s' hneI hs' => ?_
        refine wpAny_bind (wpAny_runValue ?_)
        refine set_loop (A := A.in1.in1) hh hneI hl hx hz ?_ vs.length 0 [] s' rfl (Nat.zero_le _) (by simp) (Nat.le_refl _) hs'
        intro ys s'' hm hs''
        show wpAny _ _ _ _ _ _
        refine wpAny_pure ?_
        show wpAny _ _ (ret Value.none) _ _ _
        exact wpAny_pure ⟨rfl, ys, hm, hs''⟩
      · cases r₂ with
        | error e => exact hr₂
        | ok fl₂ =>
          cases fl₂ with
          | ret r =>
            obtain ⟨rfl, ys, hm, hs2⟩ := hr₂
            repeat (any_goals (first | assumption | wp_step))
            exact h _ ys _ hm hs2
          | _ => exact hr₂.elim
    | _ => exact hr.elim
end
end Mine

namespace Mine
section facts
theorem owner_si : Manifest.owners.lookup (String.ofList ['r', 'o', 't', 'a', 'r', 'e', 't', 'i', '_', 't', 'e', 's'].reverse) = some Manifest.sig_set_iterator := by kernel_rfl
theorem slot_si_next : Slot "set_iterator" "__next__" "set_iterator.__next__" :=
  .of (owner := "set_iterator") (n := "__next__") (by rw [typeLookup_type, builtinLookup_eq_fast]; kernel_rfl) (by decide +kernel) (by decide +kernel) (by decide +kernel)
    (by first | exact .inl (by decide +kernel) | exact .inr (by decide +kernel)) (by rw [isSubtype_type]; kernel_rfl)
theorem entry_si_next : entryFor table "set_iterator.__next__" = some Builtin.«set_iterator.__next__» := entryFor_of_tree (by kernel_rfl)
theorem args_si_next_1 (a : Value) : argsOk "set_iterator.__next__" ⟨[a], []⟩ := by
  unfold argsOk; rw [signature?_of (id := "set_iterator.__next__") (n := ['_', '_', 't', 'x', 'e', 'n', '_', '_']) (o := ['r', 'o', 't', 'a', 'r', 'e', 't', 'i', '_', 't', 'e', 's']) (by kernel_rfl) owner_si]; kernel_rfl
theorem slot_si_iter : Slot "set_iterator" "__iter__" "set_iterator.__iter__" :=
  .of (owner := "set_iterator") (n := "__iter__") (by rw [typeLookup_type, builtinLookup_eq_fast]; kernel_rfl) (by decide +kernel) (by decide +kernel) (by decide +kernel)
    (by first | exact .inl (by decide +kernel) | exact .inr (by decide +kernel)) (by rw [isSubtype_type]; kernel_rfl)
theorem args_si_iter_1 (a : Value) : argsOk "set_iterator.__iter__" ⟨[a], []⟩ := by
  unfold argsOk; rw [signature?_of (id := "set_iterator.__iter__") (n := ['_', '_', 'r', 'e', 't', 'i', '_', '_']) (o := ['r', 'o', 't', 'a', 'r', 'e', 't', 'i', '_', 't', 'e', 's']) (by kernel_rfl) owner_si]; kernel_rfl
theorem entry_si_iter : entryFor table "set_iterator.__iter__" = some Builtin.«dict_keyiterator.__iter__» :=
  entryFor_alias (id' := "dict_keyiterator.__iter__") (by kernel_rfl) (by first | rfl | decide +kernel | (unfold String.splitOn; simp +decide [String.splitOnAux])) (by decide +kernel) (by kernel_rfl)
theorem entry_set_iter : entryFor table "set.__iter__" = some Builtin.«frozenset.__iter__» :=
  entryFor_alias (id' := "frozenset.__iter__") (by kernel_rfl) (by first | rfl | decide +kernel | (unfold String.splitOn; simp +decide [String.splitOnAux])) (by decide +kernel) (by kernel_rfl)
end facts

section
variable {c : Cx} {F : List (Addr × Obj)} {M M' : Led} {s : Shared} {A : Around} {E : Value → Shared → Prop} {Q : Value → Shared → Prop} {x : Str} {xs : List Str}

theorem wpAny_choose {Md : Model} {src : Source} {n : Nat} {Q : Nat → Shared → Prop} (hn : n ≠ 0) (h : ∀ k, k < n → Q k { s with drawn := s.drawn.bump src }) : wpAny Md A (choose src n) Q E s :=
  fun _ _ _ => ⟨hn, h _ (Nat.mod_lt _ (Nat.pos_of_ne_zero hn))⟩
theorem Is.drawn' (x : Is c F M s) (d) : Is c F M { s with drawn := d } := ⟨x.st, x.gens, x.os, x.gd⟩

theorem erase_perm {α : Type} : ∀ {l : List α} {i : Nat} (h : i < l.length), (l[i] :: l.eraseIdx i).Perm l
  | y :: ys, 0, _ => .refl _
  | y :: ys, i + 1, h => (List.Perm.swap _ _ _).trans ((erase_perm (l := ys) (i := i) (by simpa using h)).cons y)
theorem drawOrder_ok {α : Type} {Q : List α → Shared → Prop} : ∀ (n : Nat) (l : List α) (s : Shared) {Q : List α → Shared → Prop}, Is c F M s → l.length = n → (∀ l' s', l'.Perm l → Is c F M s' → Q l' s') → wpAny (model c.prog c.w) A (drawOrder n l) Q E s := by
  intro n
  induction n with
  | zero => intro l s Q hs hl k; have : l = [] := List.eq_nil_of_length_eq_zero hl; subst this; exact wpAny_pure (k [] s (.refl _) hs)
  | succ n ih =>
    intro l s Q hs hl k
    cases l with
    | nil => simp at hl
    | cons y ys =>
      show wpAny _ _ (choose .order (y :: ys).length >>= _) _ _ _
      refine wpAny_bind (wpAny_choose (by simp) fun i hi => ?_)
      have e : (y :: ys)[i]? = some (y :: ys)[i] := List.getElem?_eq_getElem hi
      rw [e]
      refine wpAny_bind (ih ((y :: ys).eraseIdx i) _ (hs.drawn' _) (by rw [List.length_eraseIdx_of_lt hi]; simpa using hl) fun l' s' hp hs' => wpAny_pure (k _ _ ?_ hs'))
      have h2 : ((y :: ys)[i] :: (y :: ys).eraseIdx i).Perm (y :: ys) := erase_perm hi
      exact (hp.cons _).trans h2

theorem pick_go {α : Type} (next : Nat → Nat) : ∀ (fuel k : Nat) (left : List α) (out : Array α), left.length = fuel → (pickOrder.go next fuel k left out).toList.Perm (out.toList ++ left) := by
  intro fuel
  induction fuel with
  | zero => intro k left out h; have : left = [] := List.eq_nil_of_length_eq_zero h; subst this; simp [pickOrder.go]
  | succ f ih =>
    intro k left out h
    have hlt : next k % left.length < left.length := Nat.mod_lt _ (by omega)
    unfold pickOrder.go
    rw [List.getElem?_eq_getElem hlt]
    dsimp only
    refine (ih _ _ _ (by rw [List.length_eraseIdx_of_lt hlt]; omega)).trans ?_
    rw [Array.toList_push, List.append_assoc]
    exact List.Perm.append_left _ (erase_perm hlt)
theorem pick_perm {α : Type} (next : Nat → Nat) (xs : Array α) : (pickOrder next xs).toList.Perm xs.toList := by
  have := pick_go next xs.size 0 xs.toList #[] (by simp)
  simpa [pickOrder] using this

/-- a set's iterator -/
noncomputable def SiP (fst : Nat → Value) (S : Addr) (n ep : Nat) (i : Nat) (o : Obj) : Prop := o.cls = .type "set_iterator" ∧ o.data = .fields #[fst i, rawInt i, .ref S, rawInt n, rawInt ep]

theorem si_self {I S : Addr} {fst : Nat → Value} {n ep i : Nat} (hs : Is c F ((I, SiP fst S n ep i) :: M) s) (h : Q (.ref I) s) : wpAny (model c.prog c.w) A (pyIter (.ref I)) Q E s := by
  obtain ⟨o, e, h1, h2⟩ := hs.get (.head _)
  have hT : s.TypeIs (.ref I) "set_iterator" := ⟨o, e, h1⟩
  refine wpAny_pyIter_slot hT slot_si_iter (wpAny_call_entry slot_si_iter hT entry_si_iter ?_ (args_si_iter_1 _))
  show wpAny _ _ (ret (.ref I)) _ _ s
  exact wpAny_pure ⟨_, rfl, "set_iterator", _, hT, slot_si_next.lookup, h⟩

theorem si_next {I S : Addr} {fst : Nat → Value} {n ep i : Nat} {o : Obj} {es : Array (Int × Value)} {t : SetTable} {Q : Option Value → Shared → Prop} (hs : Is c F ((I, SiP fst S n ep i) :: M) s) (ho : (S, o) ∈ F) (hd : o.data = .set es ep t) (hS : SeO c xs es t) (hn : n = xs.length)
    (h : wpAny (model c.prog c.w) A.in1 (if let .int slot _ := fst i then do
    match ← setNext S slot.toNat i ep with
    | some (x, next) =>
      setField (.ref I) 0 (rawInt next)
      setField (.ref I) 1 (rawInt (i + 1))
      ret x
    | none => setField (.ref I) 2 .none; raiseNew (← newExc (.type "StopIteration") [])
  else do
    let some places ← seqItems? (fst i) | unsupported "internal:set_iterator"
    match places[i]? with
    | some (.int place _) =>
      let x ← setNextDrawn S place.toNat ep
      setField (.ref I) 1 (rawInt (i + 1))
      ret x
    | some _ => unsupported "internal:set_iterator"
    | none => setField (.ref I) 0 (rawInt 0); setField (.ref I) 2 .none; raiseNew (← newExc (.type "StopIteration") [])) (fun r s' => ∃ v, r = .done (.ret v) ∧ Q (some v) s') (fun e s' => wpAny (model c.prog c.w) A (do if ← isInstance e (.type "StopIteration") then pure none else throw e) Q E s') s) :
    wpAny (model c.prog c.w) A (pyNext (.ref I)) Q E s := by
  obtain ⟨oi, ei, h1, h2⟩ := hs.get (.head _)
  have hT : s.TypeIs (.ref I) "set_iterator" := ⟨oi, ei, h1⟩
  unfold pyNext
  refine wpAny_bind (wpAny_attempt (wpAny_callSpecial?_slot (name := Str.ofString "__next__") hT slot_si_next
    (wpAny_call_entry slot_si_next hT entry_si_next ?_ (args_si_next_1 _))))
  unfold Builtin.«set_iterator.__next__»
  refine wpAny_bind (wpAny_of_eq (a := (Value.ref I, [])) rfl ?_)
  refine wpAny_bind (wpAny_fieldsOf ei h2 ?_)
  show wpAny _ _ (setEntries S >>= _) _ _ _
  unfold setEntries
  refine wpAny_bind (wpAny_bind (wpAny_setState_of (hs.getF ho) hd hS.fits (wpAny_pure ?_)))
  have e : (((es.size : Nat) : Int) != ((n : Nat) : Int)) = false := by rw [hS.size, hn]; simp
  show wpAny _ _ (if (((es.size : Nat) : Int) != ((n : Nat) : Int)) = true then _ else _) _ _ _
  rw [e, if_neg (by decide)]
  refine wpAny_mono h (fun r s' q => ?_) (fun e s' q => q)
  obtain ⟨v, e, q⟩ := q
  exact ⟨v, e, wpAny_pure q⟩

/-- the state behind a step -/
theorem si_step {I S : Addr} {fst : Nat → Value} {n ep i : Nat} {h' : Heap} (hs : Is c F ((I, SiP fst S n ep i) :: M) s) {oi : Obj} {v0 : Value} (ei : h'.get? I = some oi) (hc : oi.cls = .type "set_iterator") (hd : oi.data = .fields #[fst (i + 1), rawInt (i + 1), .ref S, rawInt n, rawInt ep]) (hsb : Heap.SameBut I s.heap h') :
    Is c F ((I, SiP fst S n ep (i + 1)) :: M) { s with heap := h' } :=
  hs.change .head s.toks (fun b o hb e => hsb.extBut b o hb e) ei ⟨hc, hd⟩

theorem mapF {a : Addr} {h : Heap} {o : Obj} {vs : Array Value} (ho : h.get? a = some o) (hd : o.data = .fields vs) (f : Array Value → Array Value) :
    ∃ o', (h.update a (Obj.mapFields f)).get? a = some o' ∧ o'.cls = o.cls ∧ o'.data = .fields (f vs) :=
  ⟨_, Heap.get?_update_self _ ho (Obj.isFreed_of_fields (Obj.data_mapFields hd _)), Obj.cls_mapFields .., by rw [Obj.data_mapFields hd]⟩

theorem si_stop' {Q : Option Value → Shared → Prop} {A : Around} {R : Fin → Shared → Prop} (hh : A.handled = none) {s : Shared} (h : ∀ h', (∀ b o, s.heap.get? b = some o → h'.get? b = some o) → Q none { s with heap := h' }) :
    wpAny (model c.prog c.w) A.in1 (newExc (.type "StopIteration") [] >>= fun e => (raiseNew e : Sem Fin)) R (fun e s' => wpAny (model c.prog c.w) A (do if ← isInstance e (.type "StopIteration") then pure none else throw e) Q E s') s := by
  refine wpAny_bind ?_
  simp only [newExc, newTuple]
  refine wpAny_bind (wpAny_newObj_type ?_ (by size_fits))
  refine wpAny_bind (m := firstArgMember _ _) (wpAny_of_eq (a := Value.none) (by first | rfl | (simp only [firstArgMember]; rfl)) ?_)
  refine wpAny_newObj_type ?_ (by size_fits)
  simp only [raiseNew]
  refine wpAny_bind (wpAny_handled ?_)
  first | rw [show A.in1.handled = none from hh] | rw [hh]
  refine wpAny_bind (wpAny_pure (wpAny_throw ?_))
  refine wpAny_bind (wpAny_isInstance (T := "StopIteration") (b := true) ⟨_, Heap.get?_push_size _ rfl, rfl⟩ isSubtype_stop ?_)
  exact wpAny_pure (h _ fun b o e => Heap.get?_push_of_some _ (Heap.get?_push_of_some _ e))

/-- the walk's end: the iterator is let go -/
theorem si_gone {I : Addr} {P : Obj → Prop} (hs : Is c F ((I, P) :: M) s) {h' : Heap} (hk : ∀ b o, b ≠ I → s.heap.get? b = some o → h'.get? b = some o) : Is c F M { s with heap := h' } := by
  refine ⟨⟨fun b o e => hk b o ?_ (hs.st.base b o e), fun p hp => hk _ _ ?_ (hs.st.fro p hp), fun p hp => ?_, fun p hp => hs.st.up p (.tail _ hp), hs.st.upF, fun p hp => hs.st.hi p (.tail _ hp), hs.st.hiF, fun p hp => hs.st.off p (.tail _ hp), (List.nodup_cons.mp hs.st.nd).2⟩, hs.gens, hs.os, hs.gd⟩
  · intro hb; subst hb; exact hs.st.noB (.head _) e
  · intro hb; exact hs.st.off _ (.head _) p hp hb.symm
  · obtain ⟨o, e, q⟩ := hs.get (.tail _ hp)
    refine ⟨o, hk _ _ ?_ e, q⟩
    intro hb
    exact (List.nodup_cons.mp hs.st.nd).1 (List.mem_map.mpr ⟨p, hp, hb⟩)

/-- an iterator by slots -/
theorem Iter.bySlot {I S : Addr} {fst : Nat → Value} {n ep : Nat} {o : Obj} {es : Array (Int × Value)} {t : SetTable} {zs : List Value} {sl : Nat → Nat} (hh : A.handled = none) (hd : o.data = .set es ep t) (hS : SeO c xs es t) (hn : n = xs.length) (hz : zs.length = n)
    (hf : ∀ i, fst i = rawInt (sl i))
    (h1 : ∀ i z s (Q : Option (Value × Nat) → Shared → Prop) (E : Value → Shared → Prop), zs[i]? = some z → s.heap.get? S = some o → Q (some (z, sl (i + 1))) s → wpAny (model c.prog c.w) A.in1 (setNext S (sl i) i ep) Q E s)
    (h2 : ∀ s (Q : Option (Value × Nat) → Shared → Prop) (E : Value → Shared → Prop), s.heap.get? S = some o → Q none s → wpAny (model c.prog c.w) A.in1 (setNext S (sl n) n ep) Q E s) :
    Iter c A I n [(S, o)] (SiP fst S n ep) (fun i v => zs[i]? = some v) where
  item := fun i F M s Q E hi hs hF k => by
    have ho := hF _ (.head _)
    refine si_next hs ho hd hS hn ?_
    obtain ⟨oi, ei, hc, hdi⟩ := hs.get (.head _)
    rw [hf i] at hdi ⊢
    dsimp only [rawInt]
    have ez : zs[i]? = some zs[i] := List.getElem?_eq_getElem (by omega)
    refine wpAny_bind (h1 i zs[i] _ _ _ ez (hs.getF ho) ?_)
    dsimp only
    refine wpAny_bind (wpAny_setField ei hdi (by simp) ?_)
    obtain ⟨o1, e1, c1, d1⟩ := mapF ei hdi (·.setIfInBounds 0 (rawInt (sl (i + 1))))
    refine wpAny_bind (wpAny_setField e1 d1 (by simp) ?_)
    obtain ⟨o2, e2, c2, d2⟩ := mapF e1 d1 (·.setIfInBounds 1 (rawInt ((i : Int) + 1)))
    refine wpAny_pure ⟨_, rfl, k _ _ ez (si_step (s := s) (v0 := .none) hs e2 (c2.trans (c1.trans hc)) ?_ ((Heap.SameBut.update s.heap I _).trans (Heap.SameBut.update _ I _)))⟩
    rw [d2, hf (i + 1)]; rfl
  done := fun F M s Q E hs hF k => by
    have ho := hF _ (.head _)
    refine si_next hs ho hd hS hn ?_
    obtain ⟨oi, ei, hc, hdi⟩ := hs.get (.head _)
    rw [hf n] at hdi ⊢
    dsimp only [rawInt]
    refine wpAny_bind (h2 _ _ _ (hs.getF ho) ?_)
    dsimp only
    refine wpAny_bind (wpAny_setField ei hdi (by simp) ?_)
    refine si_stop' hh fun h' hk => k _ (si_gone (s := s) hs fun b o hb e => hk b o ((Heap.get?_update_other _ _ (Ne.symm hb)).trans e))
  self := fun i F M s Q E hs hq => si_self hs hq
end
end Mine

namespace Mine
section
variable {c : Cx} {F : List (Addr × Obj)} {M M' : Led} {s : Shared} {A : Around} {E : Value → Shared → Prop} {Q : Value → Shared → Prop} {x : Str} {xs : List Str}

theorem Iter.weaken {I : Addr} {n n' : Nat} {Fd Fd' : List (Addr × Obj)} {P : Nat → Obj → Prop} {V V' : Nat → Value → Prop} (T : Iter c A I n Fd P V) (hn : n = n') (hF : ∀ p ∈ Fd, p ∈ Fd') (hV : ∀ i v, V i v → V' i v) : Iter c A I n' Fd' P V' where
  item := fun i F M s Q E hi hs hF' k => T.item i F M s Q E (hn ▸ hi) hs (fun p hp => hF' p (hF p hp)) fun v s' hv => k v s' (hV i v hv)
  done := fun F M s Q E hs hF' k => T.done F M s Q E (hn ▸ hs) (fun p hp => hF' p (hF p hp)) k
  self := T.self

theorem Iter.range0 {I : Addr} {n : Nat} (hh : A.handled = none) : Iter c A I n [] (RiP 0 1 n) (fun i v => ∃ t, v = .int (i : Int) t) :=
  (Iter.range hh).weaken rfl (fun _ h => h) fun i v ⟨t, e⟩ => ⟨t, by rw [e, Int.mul_one, Int.zero_add]⟩
theorem Iter.range1 {I : Addr} {n : Nat} (hh : A.handled = none) : Iter c A I n [] (RiP 1 1 n) (fun i v => ∃ t, v = .int ((1 + i : Nat) : Int) t) :=
  (Iter.range hh).weaken rfl (fun _ h => h) fun i v ⟨t, e⟩ => ⟨t, by rw [e, Int.mul_one, Int.natCast_add]; rfl⟩
theorem byText_c {Q : Bool → Shared → Prop} (h : Q (c.w.params.followText "set-order") s) : wpAny (model c.prog c.w) A setsByText Q E s := wpAny_bind (wpAny_askSetting (wpAny_pure h))

theorem seo_perm {es es' : List (Int × Value)} (hx : StrsAre (es.map (·.2)) xs) (hp : es'.Perm es) : ∃ ys, ys.Perm xs ∧ StrsAre (es'.map (·.2)) ys := by
  obtain ⟨ys, h1, h2⟩ := strs_perm hx (hp.map (·.2))
  exact ⟨ys, h2, h1⟩

theorem strs_get' {vs : List Value} {xs : List Str} (h : StrsAre vs xs) : ∀ (i : Nat) (v : Value), vs[i]? = some v → ∃ x t, v = .str x t ∧ xs[i]? = some x := fun i v e => strs_get h e

theorem Iter.drawn {I S T : Addr} {n ep : Nat} {o : Obj} {es : Array (Int × Value)} {t : SetTable} {ks : List Nat} {zs : List Value} (hh : A.handled = none) (hd : o.data = .set es ep t) (hS : SeO c xs es t) (hn : n = xs.length) (hz : ks.length = n) (hzs : zs.length = n)
    (hk : ∀ (i k : Nat) (z : Value), ks[i]? = some k → zs[i]? = some z → ∃ e, es[k]? = some e ∧ e.2 = z) :
    Iter c A I n [(S, o), (T, tupO (ks.map fun (i : Nat) => rawInt i))] (SiP (fun _ => .ref T) S n ep) (fun i v => zs[i]? = some v) where
  item := fun i F M s Q E hi hs hF k => by
    have ho := hF _ (.head _)
    have hT := hF _ (.tail _ (.head _))
    refine si_next hs ho hd hS hn ?_
    obtain ⟨oi, ei, hc, hdi⟩ := hs.get (.head _)
    dsimp only
    have ez : zs[i]? = some zs[i] := List.getElem?_eq_getElem (by omega)
    have ek : ks[i]? = some ks[i] := List.getElem?_eq_getElem (by omega)
    refine wpAny_bind (wpAny_seqItems (hs.getF hT) rfl ?_)
    have e3 : (ks.map fun (i : Nat) => rawInt i).toArray[i]? = some (rawInt ks[i]) := by simp [ek]
    dsimp only
    rw [e3]
    dsimp only [rawInt]
    obtain ⟨e, e4, e5⟩ := hk i _ _ ek ez
    refine wpAny_bind ?_
    unfold setNextDrawn
    refine wpAny_bind (wpAny_setState_of (hs.getF ho) hd hS.fits ?_)
    dsimp only
    rw [show (ep != ep) = false from by simp, if_neg (by decide)]
    try refine wpAny_bind (wpAny_pure ?_)
    rw [show ((ks[i] : Nat) : Int).toNat = ks[i] from rfl, e4]
    obtain ⟨eh, ev⟩ := e
    dsimp only at e5 ⊢
    subst e5
    refine wpAny_pure ?_
    refine wpAny_bind (wpAny_setField ei hdi (by simp) ?_)
    obtain ⟨o1, e1, c1, d1⟩ := mapF ei hdi (·.setIfInBounds 1 (rawInt ((i : Int) + 1)))
    exact wpAny_pure ⟨_, rfl, k _ _ ez (si_step (s := s) (v0 := .none) hs e1 (c1.trans hc) (by rw [d1]; rfl) (Heap.SameBut.update s.heap I _))⟩
  done := fun F M s Q E hs hF k => by
    have ho := hF _ (.head _)
    have hT := hF _ (.tail _ (.head _))
    refine si_next hs ho hd hS hn ?_
    obtain ⟨oi, ei, hc, hdi⟩ := hs.get (.head _)
    dsimp only
    refine wpAny_bind (wpAny_seqItems (hs.getF hT) rfl ?_)
    have e3 : (ks.map fun (i : Nat) => rawInt i).toArray[n]? = none := by simp [hz]
    dsimp only
    rw [e3]
    dsimp only
    refine wpAny_bind (wpAny_setField ei hdi (by simp) ?_)
    obtain ⟨o1, e1, c1, d1⟩ := mapF ei hdi (·.setIfInBounds 0 (rawInt 0))
    refine wpAny_bind (wpAny_setField e1 d1 (by simp) ?_)
    refine si_stop' hh fun h' hk => k _ (si_gone (s := s) hs fun b o hb e => hk b o ((Heap.get?_update_other _ _ (Ne.symm hb)).trans ((Heap.get?_update_other _ _ (Ne.symm hb)).trans e)))
  self := fun i F M s Q E hs hq => si_self hs hq

theorem next_text {S : Addr} {o : Obj} {es : Array (Int × Value)} {ep : Nat} {t : SetTable} {i sl : Nat} {Q : Option (Value × Nat) → Shared → Prop} (ho : s.heap.get? S = some o) (hd : o.data = .set es ep t) (hS : SeO c xs es t) (hb : c.w.params.followText "set-order" = true)
    (h : Q (((pickOrder (c.w.params.setOrder S ep) es)[i]?).map fun e => (e.2, sl)) s) : wpAny (model c.prog c.w) A (setNext S sl i ep) Q E s := by
  unfold setNext
  refine wpAny_bind (wpAny_setState_of ho hd hS.fits ?_)
  dsimp only
  refine wpAny_bind (byText_c ?_)
  rw [hb, if_pos rfl, show (ep != ep) = false from by simp, if_neg (by decide)]
  try refine wpAny_bind (wpAny_pure ?_)
  unfold setWalk
  refine wpAny_bind (wpAny_bind (wpAny_setState_of ho hd hS.fits ?_))
  dsimp only
  refine wpAny_bind (byText_c ?_)
  rw [hb, if_pos rfl]
  refine wpAny_bind (wpAny_askSetting (wpAny_pure ?_))
  exact wpAny_pure h

theorem next_one {S : Addr} {o : Obj} {es : Array (Int × Value)} {ep : Nat} {t : SetTable} {i sl : Nat} {Q : Option (Value × Nat) → Shared → Prop} (ho : s.heap.get? S = some o) (hd : o.data = .set es ep t) (hS : SeO c xs es t) (hb : c.w.params.followText "set-order" = false) (h1 : xs.length ≤ 1)
    (h : Q (match es[SetTable.below t.place sl]?, t.place[SetTable.below t.place sl]? with
    | some (_, x), some j => some (x, j + 1)
    | _, _ => none) s) : wpAny (model c.prog c.w) A (setNext S sl i ep) Q E s := by
  unfold setNext
  refine wpAny_bind (wpAny_setState_of ho hd hS.fits ?_)
  dsimp only
  refine wpAny_bind (byText_c ?_)
  rw [hb, if_neg (by decide)]
  have e1 : (!t.plain && decide (es.size > 1)) = false := by
    have : ¬ es.size > 1 := by rw [hS.size]; omega
    simp [this]
  show wpAny _ _ (if (!t.plain && decide (es.size > 1)) = true then _ else _) _ _ _
  rw [e1, if_neg (by decide)]
  have hl := hS.led
  rw [hb] at hl
  have e2 : (!t.led && !es.isEmpty) = false := by rw [hl]; rfl
  show wpAny _ _ ((if (!t.led && !es.isEmpty) = true then _ else _) >>= _) _ _ _
  rw [e2, if_neg (by decide)]
  exact wpAny_bind (wpAny_pure (wpAny_pure h))

theorem below_one (j : Nat) : SetTable.below #[j] 0 = 0 ∧ SetTable.below #[j] (j + 1) = 1 := by
  constructor
  · simp [SetTable.below, SetTable.below.go]
  · simp [SetTable.below, SetTable.below.go]

theorem r_iterS {S : Addr} {o : Obj} (hs : Is c F M s) (hh : A.handled = none) (hSF : (S, o) ∈ F) (hP : SeP c xs o)
    (h : ∀ I F' (ys : List Str) P s', (∀ p ∈ F, p ∈ F') → ys.Perm xs → Iter c A I ys.length F' P (fun i v => ∃ y t, v = .str y t ∧ ys[i]? = some y) → Is c F' ((I, P 0) :: M) s' → Q (.ref I) s') :
    wpAny (model c.prog c.w) A (pyIter (.ref S)) Q E s := by
  obtain ⟨hex, es, ep, t, hd, hS⟩ := id hP
  have ho := hs.getF hSF
  have hT : s.TypeIs (.ref S) "set" := ⟨o, ho, hex.1⟩
  refine wpAny_pyIter_slot hT PySem.F.slot_set_iter (wpAny_call_entry PySem.F.slot_set_iter hT entry_set_iter ?_ (PySem.F.args_set_iter_1 _))
  unfold Builtin.«frozenset.__iter__»
  refine wpAny_bind (wpAny_of_eq (a := S) rfl ?_)
  unfold Builtin.Frozenset.sizeOf setEntries
  refine wpAny_bind (wpAny_bind (wpAny_bind (wpAny_setState_of ho hd hS.fits (wpAny_pure (wpAny_pure ?_)))))
  dsimp only
  unfold setDrawn
  refine wpAny_bind (wpAny_bind (wpAny_setState_of ho hd hS.fits ?_))
  dsimp only
  refine wpAny_bind (byText_c (wpAny_pure ?_))
  have hsz := hS.size
  have few := hS.few
  show wpAny _ _ (if (!c.w.params.followText "set-order" && (!t.plain && decide (es.size > 1))) = true then _ else _) _ _ _
  have fin : ∀ (first : Value) (F' : List (Addr × Obj)) (fst : Nat → Value) (s : Shared), (∀ p ∈ F, p ∈ F') → fst 0 = first → (∃ ys : List Str, ys.Perm xs ∧ ∀ I, Iter c A I ys.length F' (SiP fst S es.size ep) (fun i v => ∃ y t, v = .str y t ∧ ys[i]? = some y)) → Is c F' M s →
      wpAny (model c.prog c.w) A.in1 (do ret (← newFields "set_iterator" [first, rawInt 0, .ref S, rawInt es.size, rawInt (← setEpoch S)])) (fun fin s' => ∃ v, fin = .done (.ret v) ∧ ∃ T' r, s'.TypeIs v T' ∧ typeLookup (.type T') "__next__" = pure (some r) ∧ Q v s') E s := by
    intro first F' fst s hFF hf ⟨ys, hys, T⟩ hs
    unfold setEpoch
    refine wpAny_bind (wpAny_bind (wpAny_setState_of (hs.getF (hFF _ hSF)) hd hS.fits (wpAny_pure ?_)))
    refine wpAny_bind (wpAny_newObj_type (wpAny_pure ⟨_, rfl, "set_iterator", _, ⟨_, Heap.get?_push_size _ rfl, rfl⟩, slot_si_next.lookup, ?_⟩))
    refine h _ F' ys _ _ hFF hys (T _) ((hs.push _).weaken fun o q => ?_)
    rw [q, ← hf]; exact ⟨rfl, rfl⟩
  cases hb : c.w.params.followText "set-order" with
  | true =>
    rw [Bool.not_true, Bool.false_and, if_neg (by decide)]
    refine wpAny_bind (wpAny_pure (fin (rawInt 0) F (fun _ => rawInt 0) s (fun _ h => h) rfl ?_ hs))
    have hp := pick_perm (c.w.params.setOrder S ep) es
    obtain ⟨ys, h1, h2⟩ := seo_perm hS.txs hp
    refine ⟨ys, h1, fun I => ?_⟩
    have hl : ((pickOrder (c.w.params.setOrder S ep) es).toList.map (·.2)).length = es.size := by rw [List.length_map, hp.length_eq]; simp
    refine (Iter.bySlot (c := c) (A := A) (I := I) (S := S) (fst := fun _ => rawInt 0) (n := es.size) (ep := ep) (zs := (pickOrder (c.w.params.setOrder S ep) es).toList.map (·.2)) (sl := fun _ => 0) hh hd hS hsz hl (fun _ => rfl) ?_ ?_).weaken ?_ (fun p hp => (List.mem_singleton.mp hp) ▸ hSF) (strs_get' h2)
    · intro i z s Q E hz ho hq
      refine next_text ho hd hS hb ?_
      rw [List.getElem?_map, Array.getElem?_toList] at hz
      generalize (pickOrder (c.w.params.setOrder S ep) es)[i]? = q at hz ⊢
      cases q with
      | none => cases hz
      | some e => cases hz; exact hq
    · intro s Q E ho hq
      refine next_text ho hd hS hb ?_
      have : (pickOrder (c.w.params.setOrder S ep) es)[es.size]? = none := by
        rw [Array.getElem?_eq_none_iff]
        rw [List.length_map, Array.length_toList] at hl
        omega
      rw [this]; exact hq
    · rw [← strs_len h2, hl]
  | false =>
    by_cases h1 : xs.length ≤ 1
    · have e1 : decide (es.size > 1) = false := decide_eq_false (by omega)
      rw [e1, Bool.and_false, Bool.and_false, if_neg (by decide)]
      have hpl : t.place.size = es.size := by
        have := hS.fits; unfold SetTable.fits at this; simp at this; exact this.1
      cases hes : es.toList with
      | nil =>
        have hes' : es = #[] := by apply Array.ext'; simpa using hes
        refine wpAny_bind (wpAny_pure (fin (rawInt 0) F (fun _ => rawInt 0) s (fun _ h => h) rfl ⟨xs, .refl _, fun I => ?_⟩ hs))
        have h0 : xs = [] := List.eq_nil_of_length_eq_zero (by rw [← hsz, hes']; rfl)
        refine (Iter.bySlot (c := c) (A := A) (I := I) (S := S) (fst := fun _ => rawInt 0) (n := es.size) (ep := ep) (zs := []) (sl := fun _ => 0) hh hd hS hsz (by rw [hes']; rfl) (fun _ => rfl) (fun i z s Q E hz => by simp at hz) ?_).weaken hsz (fun p hp => (List.mem_singleton.mp hp) ▸ hSF) (fun i v hv => by simp at hv)
        intro s Q E ho hq
        refine next_one ho hd hS hb h1 ?_
        have : es[SetTable.below t.place 0]? = none := by rw [hes']; simp
        rw [this]; exact hq
      | cons e r =>
        have hr : r = [] := by
          have : es.toList.length ≤ 1 := by rw [Array.length_toList]; omega
          rw [hes] at this; exact List.eq_nil_of_length_eq_zero (by simpa using this)
        subst hr
        have hes' : es = #[e] := by apply Array.ext'; simpa using hes
        subst hes'
        obtain ⟨j, hj⟩ : ∃ j, t.place = #[j] := by
          have : t.place.size = 1 := hpl
          generalize t.place = pl at this
          rcases pl with ⟨l⟩
          match l, this with
          | [a], _ => exact ⟨a, rfl⟩
        have hx := hS.txs
        refine wpAny_bind (wpAny_pure (fin (rawInt 0) F (fun i => rawInt (if i = 0 then 0 else j + 1 : Nat)) s (fun _ h => h) rfl ⟨xs, .refl _, fun I => ?_⟩ hs))
        refine (Iter.bySlot (c := c) (A := A) (I := I) (S := S) (n := 1) (ep := ep) (zs := [e.2]) (sl := fun i => if i = 0 then 0 else j + 1) hh hd hS hsz rfl (fun _ => rfl) ?_ ?_).weaken hsz (fun p hp => (List.mem_singleton.mp hp) ▸ hSF) (strs_get' hx)
        · intro i z s Q E hz ho hq
          have hi : i = 0 := by
            have := (List.getElem?_eq_some_iff.mp hz).1; simpa using this
          subst hi
          refine next_one ho hd hS hb h1 ?_
          rw [hj]
          simp only [if_true, (below_one j).1]
          simp only [List.getElem?_cons_zero, Option.some.injEq] at hz
          subst hz
          exact hq
        · intro s Q E ho hq
          refine next_one ho hd hS hb h1 ?_
          rw [hj]
          simp only [show (1 : Nat) ≠ 0 from by decide, if_false, (below_one j).2]
          exact hq
    · have hne : xs ≠ [] := fun e => by rw [e] at h1; simp at h1
      have e1 : decide (es.size > 1) = true := decide_eq_true (by omega)
      rw [e1, hS.plain hne]
      show wpAny _ _ (if true = true then _ else _) _ _ _
      rw [if_pos rfl]
      refine wpAny_bind (drawOrder_ok (c := c) (Q := fun _ _ => True) es.size (List.range es.size) s hs (by simp) fun ks s hk hs => ?_)
      refine wpAny_bind (r_newTuple hs (by rw [List.length_map, hk.length_eq]; simp; omega) fun T s hs => ?_)
      have hs := hs.fz_eq .head
      have hkl : ks.length = es.size := by rw [hk.length_eq]; simp
      refine fin (.ref T) _ (fun _ => .ref T) s (fun _ h => .tail _ h) rfl ?_ hs
      have hp : (ks.map fun k => es.toList.getD k (0, .none)).Perm es.toList := by
        refine (hk.map _).trans ?_
        have : (List.range es.size).map (fun k => es.toList.getD k ((0 : Int), Value.none)) = es.toList := by
          apply List.ext_getElem?
          intro i
          by_cases hi : i < es.size
          · rw [List.getElem?_map, List.getElem?_range hi]
            have : i < es.toList.length := by simpa using hi
            rw [List.getElem?_eq_getElem this, Option.map_some, List.getD, List.getElem?_eq_getElem this]; rfl
          · rw [List.getElem?_eq_none (by simp; omega), List.getElem?_eq_none (by simp; omega)]
        rw [this]
      obtain ⟨ys, h2, h3⟩ := seo_perm hS.txs hp
      refine ⟨ys, h2, fun I => ?_⟩
      refine (Iter.drawn (c := c) (A := A) (I := I) (S := S) (T := T) (ks := ks) (zs := (ks.map fun k => es.toList.getD k (0, .none)).map (·.2)) hh hd hS hsz hkl (by simp [hkl]) ?_).weaken (by rw [h2.length_eq, hsz]) (fun p hp => ?_) (strs_get' h3)
      · intro i k z ek ez
        rw [List.getElem?_map, List.getElem?_map, ek] at ez
        simp only [Option.map_some, Option.some.injEq] at ez
        have hkm : k < es.size := by simpa using (hk.mem_iff.mp (List.mem_of_getElem? ek))
        have e4 : es.toList[k]? = some es[k] := by simp [hkm]
        refine ⟨es[k], by simp [hkm], ?_⟩
        rw [← ez, List.getD, e4]; rfl
      · rcases List.mem_cons.mp hp with rfl | hp
        · exact .tail _ hSF
        · rw [List.mem_singleton] at hp; subst hp; exact .head _
end
end Mine

namespace Mine
section
variable {c : Cx} {F : List (Addr × Obj)} {M M' : Led} {s : Shared} {A : Around} {E : Value → Shared → Prop} {Q : Value → Shared → Prop} {x : Str} {xs : List Str} {env : Env} {pos : Pos} {v : Value} {t u : Tok}

/-- text in a frozen set -/
theorem r_inSet {S : Addr} {o : Obj} (hs : Is c F M s) (hS : (S, o) ∈ F) (hP : SeP c xs o) (h : ∀ s', Is c F M s' → Q (.bool (decide (x ∈ xs))) s') :
    wpAny (model c.prog c.w) A (compareOp .In (.str x t) (.ref S)) Q E s := by
  obtain ⟨hex, es, ep, tb, hd, hO⟩ := id hP
  refine wpAny_inSet_of (knd := PySem.strKind c.prog c.w) (k := x) (S := fun k => decide (k ∈ xs)) (n := es.size) (strKind_is _ _ _ _) rfl ⟨o, es, ep, tb, hs.getF hS, hex, hd, hO.elems, fun k => ?_, ?_, hO.fits, rfl⟩ (h _ (hs.toks _))
  · rw [decide_eq_true_iff]; exact hO.mem k
  · rw [hO.size]; have := hO.few; unfold scanBound; lia

/-- a dict with texts for keys -/
noncomputable def DcP (c : Cx) (f : Str → Option Value) (n : Nat) (o : Obj) : Prop :=
  Ex3 fun kvs es ep => And7 (o.ExactDict) (o.data = .dict es ep) (KeysOf (PySem.strKind c.prog c.w) es) (Pairs (PySem.strKind c.prog c.w) es.toList kvs) ((kvs.map (·.1)).Nodup) ((∀ k, valueAt kvs k = f k)) (kvs.length ≤ n)

theorem DcP.of {h : Heap} {d : Addr} {kvs : List (Str × Value)} (x : h.DictOf (PySem.strKind c.prog c.w) d kvs) {f : Str → Option Value} {n : Nat} (hf : ∀ k, valueAt kvs k = f k) (hn : kvs.length ≤ n) : ∃ o, h.get? d = some o ∧ DcP c f n o :=
  let ⟨o, es, ep, a, b, cc, d, e, g⟩ := x; ⟨o, a, kvs, es, ep, b, cc, d, e, g, hf, hn⟩
theorem valueAt_stored (kvs : List (Str × Value)) (k : Str) (v : Value) (k' : Str) : valueAt (stored kvs k v) k' = if k' = k then some v else valueAt kvs k' := by
  unfold stored valueAt
  split
  · rename_i h
    induction kvs with
    | nil => simp at h
    | cons p r ih =>
      obtain ⟨a, b⟩ := p
      by_cases e : a = k
      · subst e
        by_cases e' : a = k'
        · subst e'; simp
        · have e2 : ¬ k' = a := fun q => e' q.symm
          simp only [List.map_cons, if_true, List.find?_cons, e', decide_false, e2, if_false]
          by_cases hr : r.any (fun kv => kv.1 = a) = true
          · have := ih hr; simpa [e2] using this
          · have hid : r.map (fun kv => if kv.1 = a then (kv.1, v) else kv) = r := by
              rw [List.map_congr_left (g := id), List.map_id]
              intro q hq
              have : ¬ q.1 = a := fun e => hr (List.any_eq_true.mpr ⟨q, hq, by simp [e]⟩)
              simp [this]
            rw [hid]
      · have hr : r.any (fun kv => kv.1 = k) = true := by simpa [e] using h
        simp only [List.map_cons, e, if_false, List.find?_cons]
        by_cases e' : a = k'
        · subst e'; simp [e]
        · simp only [e', decide_false]
          exact ih hr
  · rename_i h
    rw [List.find?_append]
    by_cases e : k' = k
    · subst e
      have : kvs.find? (fun kv => kv.1 = k') = none := by
        rw [List.find?_eq_none]; intro q hq hk
        exact h (List.any_eq_true.mpr ⟨q, hq, hk⟩)
      rw [this]; simp
    · have : ¬ k = k' := fun q => e q.symm
      simp only [List.find?_cons, this, decide_false, List.find?_nil, Option.or_none, e, if_false]

theorem r_dictSet {d : Addr} {f : Str → Option Value} {n : Nat} {g : (Obj → Prop) → Led} {Q : Unit → Shared → Prop} (hs : Is c F M s) (hu : UpdF d (DcP c f n) M g) (hn : n ≤ 1000)
    (h : ∀ s', Is c F (g (DcP c (fun k => if k = x then some v else f k) (n + 1))) s' → Q () s') : wpAny (model c.prog c.w) A (setItem (.ref d) (.str x t) v) Q E s := by
  obtain ⟨o, eo, kvs, es, ep, h1, h2, h3, h4, h5, h6, h7⟩ := hs.get hu.mem
  refine wpAny_setItem_pairs (knd := PySem.strKind c.prog c.w) (k := x) (kvs := kvs) (strKind_is _ _ _ _) ⟨o, es, ep, eo, h1, h2, h3, h4, h5⟩ (fun h' hd hsb => ?_) (by rw [sizeLine_eq]; lia)
  obtain ⟨o', e', hP⟩ := DcP.of (f := fun k => if k = x then some v else f k) (n := n + 1) hd (fun k => by rw [valueAt_stored, h6]) (by have := stored_length_le kvs x v; lia)
  exact h _ (hs.sameBut hu (s.toks + 1) hsb e' hP)

theorem DcP.map (hs : Is c F M s) {d : Addr} {f : Str → Option Value} {n : Nat} (hm : (d, DcP c f n) ∈ M) : s.heap.MapOf (PySem.strKind c.prog c.w) d f := by
  obtain ⟨o, eo, kvs, es, ep, h1, h2, h3, h4, h5, h6, h7⟩ := hs.get hm
  have := Heap.DictOf.mapOf (knd := PySem.strKind c.prog c.w) (h := s.heap) (a := d) (kvs := kvs) ⟨o, es, ep, eo, h1, h2, h3, h4, h5⟩
  rwa [show valueAt kvs = f from funext h6] at this

theorem r_inDict {d : Addr} {f : Str → Option Value} {n : Nat} (hs : Is c F M s) (hm : (d, DcP c f n) ∈ M) (h : ∀ s', Is c F M s' → Q (.bool (f x).isSome) s') : wpAny (model c.prog c.w) A (compareOp .In (.str x t) (.ref d)) Q E s :=
  wpAny_in_of (knd := PySem.strKind c.prog c.w) (k := x) (strKind_is _ _ _ _) (hs.noMods hm) (DcP.map hs hm) (h _ (hs.toks _))

theorem r_itemD {value slice : Expr} {d : Addr} {f : Str → Option Value} {n : Nat} (hs : Is c F M s) (hm : (d, DcP c f n) ∈ M) (hf : f x = some v) (h : ∀ s', Is c F M s' → Q v s')
    (hsb : subscripted slice false (.ref d) (.str x u) = operate [.ref d, .str x u] (getItem (.ref d) (.str x u)) := by with_unfolding_all rfl) :
    wpAny (model c.prog c.w) A (subscriptTail value slice (.ref d) (.str x u)) Q E s :=
  tail_any (DcP.map hs hm).typeIs slot_dict_getitem.lookup (wpAny_getItem_of (knd := PySem.strKind c.prog c.w) (k := x) (strKind_is _ _ _ _) (DcP.map hs hm) hf (h _ (hs.toks _))) hsb

/-- attributes of an object of a class -/
structure InstK (K : Frag) (C : Addr) : Prop where
  set : findIn K (.ref C) "__setattr__" = some (some (.builtin "object.__setattr__"))
  over : plainOver K C = true
  hasD : hasDictIn K C = true
  pget : plainGet K C "" = true

theorem r_setattr {a dx C : Addr} {es : List DictEntry} {n : Nat} {g : (Obj → Prop) → Led} {name : Str} {Q : Unit → Shared → Prop} (hs : Is c F M s) (hx : (a, instObj C dx) ∈ F) (hu : UpdF dx (· = dictOf es n) M g) (hK : InstK c.K C)
    (ht : takerIn c.K C name = some none) (hl : (getL name es).isSome = true) (hz : es.length ≤ 900)
    (h : ∀ tk s', Is c F (g (· = dictOf (putL name (PyData.keyHash c.w.params name) (.str name tk) v es) (putN name es n))) s' → Q () s') : wpAny (model c.prog c.w) A (setAttr (.ref a) name v) Q E s := by
  obtain ⟨o, eo, rfl⟩ := hs.get hu.mem
  have hI : InstAt s.heap a (instObj C dx) C (some (dictOf es n)) := ⟨hs.getF hx, rfl, rfl, eo⟩
  have X := hs.K
  refine set_plain X hI hK.set (osa_open (s := { s with toks := s.toks + 1 }) X hI hK.over ht fun b => ?_)
  obtain ⟨cd, hc, hd'⟩ := any_some hK.hasD
  refine wpAny_bind (wpAny_pure (wpAny_bind (wpAny_bind (wpAny_loadPart (hs.getF hx) (wpAny_bind ((looks_clsIn (M := model c.prog c.w) X hc) _ _ _ _ (fun _ _ e => e) ?_))))))
  rw [hd']
  refine wpAny_pure (a := some dx) (wpAny_bind (wpAny_pure (wpAny_bind ?_)))
  unfold nsSet
  refine wpAny_bind (wpAny_bind (wpAny_askSetting (wpAny_pure (wpAny_bind (wpAny_mkText (wpAny_bind (wpAny_loadPart eo ?_)))))))
  have cc : (!es.toArray.any (·.key.isStr name) && es.toArray.any (·.refKey)) = false := by
    rw [← Array.any_toList, ← Array.any_toList]
    unfold getL at hl
    dsimp only
    split at hl
    · rename_i en he
      rw [List.any_eq_true.mpr ⟨en, List.mem_of_find?_eq_some he, List.find?_some he⟩]; rfl
    · split at hl
      · cases hl
      · rename_i z; rw [Bool.not_eq_true] at z; rw [z, Bool.and_false]
  dsimp only
  rw [aRefKeyMayBeTheName_at, cc]
  refine wpAny_updatePart eo ?_
  have e' : Obj.putName name (PyData.keyHash c.w.params name) (.str name (s.toks + 1)) v (dictOf es n) = dictOf (putL name (PyData.keyHash c.w.params name) (.str name (s.toks + 1)) v es) (putN name es n) := putName_dict ..
  have D' : (s.heap.update dx (Obj.putName name (PyData.keyHash c.w.params name) (.str name (s.toks + 1)) v)).get? dx = some (dictOf (putL name (PyData.keyHash c.w.params name) (.str name (s.toks + 1)) v es) (putN name es n)) := by
    have := Heap.get?_update_self (Obj.putName name (PyData.keyHash c.w.params name) (.str name (s.toks + 1)) v) eo (by rw [e']; rfl)
    rw [e'] at this; exact this
  have hpl : ∀ (es : List DictEntry) hsh key, (putL name hsh key v es).length ≤ es.length + 1 := by
    intro es hsh key
    induction es with
    | nil => simp [putL]
    | cons e r ih => unfold putL; split <;> simp <;> lia
  refine wpAny_bind (wpAny_lookBehind D' (pastItsLine_dict (by rw [List.size_toArray, sizeLine_eq]; have := hpl es (PyData.keyHash c.w.params name) (.str name (s.toks + 1)); lia)) ?_)
  exact wpAny_pure (h _ _ (hs.change hu.upd (s.toks + 1 + 1) (fun b o hb eb => (Heap.get?_update_other _ _ (Ne.symm hb)).trans eb) D' rfl))

theorem r_getattr {a dx C : Addr} {od : Obj} {name : Str} {attr : Option Value} {expr : Bool} (hs : Is c F M s) (hx : (a, instObj C dx) ∈ F) (hd : (dx, od) ∈ F) (hK : InstK c.K C)
    (ha : findIn c.K (.ref C) name = some attr) (hn : noGet c.K attr = true) (hl : lookIn name od = some (some v)) (hv : handedIn v = true) (h : ∀ s', Is c F M s' → Q v s') : wpAny (model c.prog c.w) A (getAttr (.ref a) name expr) Q E s :=
  get_value hs.K ⟨hs.getF hx, rfl, rfl, hs.getF hd⟩ (plainGet_of (name := "") hK.pget).1 (findObj_own hK.hasD ha hn hl) hv (h _ (hs.toks _))

/-- a method of an object, found in its class -/
theorem r_methI {o : Expr} {name : Str} {apos pos : Pos} {e : Expr} {args : List Expr}
    (h : wpAny (model c.prog c.w) A (eval o env) (fun ov s₁ => Ex7 fun a dx C od f F M => And10 (ov = .ref a) (Is c F M s₁) ((a, instObj C dx) ∈ F) ((dx, od) ∈ F) (InstK c.K C) (findIn c.K (.ref C) name = some (some (.ref f))) (isFn c.K (.ref f) = true) (lookIn name od = some none) (keepIn c.K (.ref f) = true) (wpAny (model c.prog c.w) A (spliced (backTo pos (starEach (e :: args) env))) (fun vs s₂ => c.K.In s₂.heap ∧ wpAny (model c.prog c.w) A (call (.ref f) (.ref a :: vs)) Q E s₂) E s₁)) E s)
    (hbase : attributeBase o name env (eval o env) = eval o env := by rfl)
    (hfew : methodCallForm ((e :: args).length + ([] : List Keyword).length) (backTo pos (starEach (e :: args) env)) (backToKw pos (keywordEach [] env)) = true := by rfl)
    (hline : (apos.endLine == pos.line) = true := by rfl)
    (he : starEach (e :: args) env = (false, eval e env) :: starEach args env := by rfl) (hplain : (backTo pos (starEach args env)).any (·.1) = false := by rfl) :
    wpAny (model c.prog c.w) A (eval (.Call (.Attribute o name apos) (e :: args) [] pos) env) Q E s := by
  rw [arm_eval_Call, hbase]
  refine wpAny_bind (wpAny_mono h (fun ov s₁ h₁ => ?_) fun _ _ e => e)
  obtain ⟨a, dx, C, od, f, F, M, rfl, hs, hx, hd, hK, hf, hfn, hl, hkp, hc⟩ := h₁
  refine wpAny_bind (wpAny_standAt ?_)
  have hpos : methodCallPos true o env apos pos = pure pos := by unfold methodCallPos; simp [hline]
  unfold methodCall
  rw [hfew]
  have hpg := plainGet_of (name := "") hK.pget
  refine wpAny_bind (wpAny_holding (method_fn (od := some od) hs.K ⟨hs.getF hx, rfl, rfl, hs.getF hd⟩ hpg.1 hpg.2 hf (beq_iff_eq.mp hfn) (by show (lookIn name od).map _ = _; rw [hl]; rfl) ?_))
  refine wpAny_bind (wpAny_of_eq hpos ?_)
  exact callWith_K hs.K hkp hc he hplain
end
end Mine

namespace Mine
section
variable {c : Cx} {F : List (Addr × Obj)} {M M' : Led} {s : Shared} {A : Around} {E : Value → Shared → Prop} {Q : Value → Shared → Prop} {x : Str} {xs : List Str} {env : Env} {pos : Pos} {v : Value} {t u : Tok} {m : Str → Option Value}

theorem r_appendCall {l : Addr} {vs : List Value} {g : (Obj → Prop) → Led} (hs : Is c F M s) (hu : UpdF l (LsP vs) M g) (hz : vs.length < 100000) (h : ∀ s', Is c F (g (LsP (vs ++ [v]))) s' → Q .none s') :
    wpAny (model c.prog c.w) A (call (.builtin "list.append") [.ref l, v]) Q E s := by
  obtain ⟨o, eo, n, rfl⟩ := hs.get hu.mem
  have hl : s.heap.IsList l vs.toArray := ⟨_, eo, rfl, n, rfl⟩
  refine wpAny_call_entry slot_list_append hl.typeIs entry_list_append ?_ (args_list_append _ _)
  show wpAny _ _ (updateSeq l (·.push v) >>= fun _ => ret .none) _ _ s
  refine wpAny_bind (wpAny_updateSeq eo rfl (wpAny_pure ⟨.none, rfl, h _ ?_⟩) (by rw [sizeLine_eq]; simp; lia))
  obtain ⟨o', e', hp⟩ := LsP.set (f := (·.push v)) eo ⟨n, rfl⟩ (vs ++ [v]) (by simp)
  exact hs.change hu.upd s.toks (fun b o hb eb => (Heap.get?_update_other _ _ (Ne.symm hb)).trans eb) e' hp

noncomputable abbrev testsOf (ifs : List Expr) (cenv : Env) : Sem Bool := forIn ifs true fun c r => if r = true then do let ok ← isTrue c cenv (eval c cenv); pure (ForInStep.yield ok) else pure (ForInStep.yield r)

theorem lc_loop {elt target iter : Expr} {ifs : List Expr} {scope : Scope} {pos : Pos} {cenv : Env} {I D : Addr} {n : Nat} {Fd : List (Addr × Obj)} {P : Nat → Obj → Prop} {V : Nat → Value → Prop} {R : Result → Shared → Prop} (T : Iter c A I n Fd P V) (J : Nat → List Value → List (Addr × Obj) → Led → Prop)
    (hs : Is c F ((I, P 0) :: (cenv.locals, NsP m) :: (D, LsP []) :: M) s) (hF : ∀ p ∈ Fd, p ∈ F) (h0 : J 0 [] F M)
    (turn : ∀ i v vs m F' M' s E', i < n → V i v → J i vs F' M' → (∀ p ∈ F, p ∈ F') → Is c F' ((I, P (i + 1)) :: (cenv.locals, NsP m) :: (D, LsP vs) :: M') s →
      wpAny (model c.prog c.w) A (assign target cenv v) (fun _ s₂ => wpAny (model c.prog c.w) A (testsOf ifs cenv) (fun ok s₃ =>
        if ok = true then wpAny (model c.prog c.w) A (eval elt cenv) (fun y s₄ => vs.length < 100000 ∧ (Ex3 fun F'' M'' m' => And3 ((∀ p ∈ F', p ∈ F'')) (J (i + 1) (vs ++ [y]) F'' M'') (Is c F'' ((I, P (i + 1)) :: (cenv.locals, NsP m') :: (D, LsP vs) :: M'') s₄))) E' s₃
        else Ex3 fun F'' M'' m' => And3 ((∀ p ∈ F', p ∈ F'')) (J (i + 1) vs F'' M'') (Is c F'' ((I, P (i + 1)) :: (cenv.locals, NsP m') :: (D, LsP vs) :: M'') s₃)) E' s₂) E' s)
    (done : ∀ vs m F' M' s, J n vs F' M' → (∀ p ∈ F, p ∈ F') → Is c F' ((cenv.locals, NsP m) :: (D, LsP vs) :: M') s → R (.ok .next) s)
    (ht : ∀ v, letOwnedTupleGo target (.ref I) v = pure () := by intro _; rfl) :
    codeAny (model c.prog c.w) A (.compLoop (.ListComp elt [⟨target, iter, ifs, 0⟩] scope pos) 0 (.ref I) (.ref D) cenv) R s := by
  refine codeAny_compLoop_tests (fun k s' => Ex5 fun i vs m F' M' => And5 (k = n + 1 - i) (i ≤ n) ((∀ p ∈ F, p ∈ F')) (J i vs F' M') (Is c F' ((I, P i) :: (cenv.locals, NsP m) :: (D, LsP vs) :: M') s')) ?_ (n + 1) ⟨0, [], m, F, M, rfl, Nat.zero_le _, fun _ h => h, h0, hs⟩ ht
  rintro k s ⟨i, vs, m, F', M', rfl, hi, hFF, hJ, hs⟩
  by_cases hlt : i < n
  · refine T.item i F' _ s _ _ hlt hs (fun p hp => hFF p (hF p hp)) fun v s' hv hs' => ?_
    refine wpAny_mono (turn i v vs m F' M' s' _ hlt hv hJ hFF hs') (fun _ s₂ h₂ => wpAny_mono h₂ (fun ok s₃ h₃ => ?_) fun _ _ x => x) fun _ _ x => x
    cases ok with
    | false =>
      simp only [Bool.false_eq_true, if_false] at h₃ ⊢
      obtain ⟨F'', M'', m', h1, h2, h3⟩ := h₃
      exact ⟨n + 1 - (i + 1), by lia, i + 1, vs, m', F'', M'', rfl, hlt, fun p hp => h1 p (hFF p hp), h2, h3⟩
    | true =>
      simp only [if_true] at h₃ ⊢
      refine wpAny_mono h₃ (fun y s₄ h₄ => ?_) fun _ _ x => x
      obtain ⟨hz, F'', M'', m', h1, h2, h3⟩ := h₄
      refine r_appendCall h3 (.tail (.tail .head)) hz fun s₅ hs₅ => ?_
      exact ⟨n + 1 - (i + 1), by lia, i + 1, vs ++ [y], m', F'', M'', rfl, hlt, fun p hp => h1 p (hFF p hp), h2, hs₅⟩
  · have : i = n := by lia
    subst this
    exact T.done F' _ s _ _ hs (fun p hp => hFF p (hF p hp)) fun s' hs' => done vs m F' M' s' hJ hFF hs'

/-- what a comprehension asks of its source -/
noncomputable def LcSrc (c : Cx) (A : Around) (env : Env) (elt target : Expr) (ifs : List Expr) (scope : Scope) (cl : List (Str × Addr)) (Qd : Addr → List (Addr × Obj) → List (Addr × (Obj → Prop)) → Shared → Prop) (it : Value) (s₂ : Shared) : Prop :=
  Ex7 fun I F M n Fd P V => And6 (it = .ref I) (Iter c A I n Fd P V) (Is c F ((I, P 0) :: M) s₂) ((∀ p ∈ Fd, p ∈ F)) ((∀ v, letOwnedTupleGo target (.ref I) v = pure ())) (∃ J : Nat → List Value → List (Addr × Obj) → Led → Prop, And3 (J 0 [] F M) ((∀ C D i v vs m F' M' s E', i < n → V i v → J i vs F' M' → (∀ p ∈ F, p ∈ F') → Is c F' ((I, P (i + 1)) :: (C, NsP m) :: (D, LsP vs) :: M') s →
      wpAny (model c.prog c.w) A (assign target (compEnvC scope cl C env) v) (fun _ s₂ => wpAny (model c.prog c.w) A (testsOf ifs (compEnvC scope cl C env)) (fun ok s₃ =>
        if ok = true then wpAny (model c.prog c.w) A (eval elt (compEnvC scope cl C env)) (fun y s₄ => vs.length < 100000 ∧ (Ex3 fun F'' M'' m' => And3 ((∀ p ∈ F', p ∈ F'')) (J (i + 1) (vs ++ [y]) F'' M'') (Is c F'' ((I, P (i + 1)) :: (C, NsP m') :: (D, LsP vs) :: M'') s₄))) E' s₃
        else Ex3 fun F'' M'' m' => And3 ((∀ p ∈ F', p ∈ F'')) (J (i + 1) vs F'' M'') (Is c F'' ((I, P (i + 1)) :: (C, NsP m') :: (D, LsP vs) :: M'') s₃)) E' s₂) E' s)) ((∀ D vs F' M' s, J n vs F' M' → (∀ p ∈ F, p ∈ F') → Is c F' ((D, LsP vs) :: M') s → Qd D F' ((D, LsP vs) :: M') s)))

theorem r_newList {vs : List Value} (hs : Is c F M s) (hz : vs.length < 100000) (h : ∀ a s', Is c F ((a, LsP vs) :: M) s' → Q (.ref a) s') : wpAny (model c.prog c.w) A (newList vs) Q E s :=
  wpAny_newObj_type (h _ _ ((hs.push _).weaken fun o q => ⟨0, q⟩)) (by show vs.toArray.size ≤ sizeLine; rw [sizeLine_eq]; simp; lia)

theorem Is.sameBut' {a : Addr} {P : Obj → Prop} (hs : Is c F ((a, P) :: M) s) {h' : Heap} (hsb : Heap.SameBut a s.heap h') : Is c F M { s with heap := h' } := si_gone hs fun b o hb e => hsb.extBut b o hb e

theorem lc_block {elt target iter : Expr} {ifs : List Expr} {scope : Scope} {cl : List (Str × Addr)} {pos : Pos} {it : Value} {RR : Value → Addr → Result → Shared → Prop} {Qd : Addr → List (Addr × Obj) → Led → Shared → Prop} (hcell : ∀ y ∈ scope.names, y.2 ≠ .cell) (hkind : scope.kind = .function)
    (h : LcSrc c A env elt target ifs scope cl Qd it s)
    (hRR : ∀ D C m F (vs : List Value) (M : Led) s, Is c F ((C, NsP m) :: (D, LsP vs) :: M) s → (∀ s', Is c F ((D, LsP vs) :: M) s' → Qd D F ((D, LsP vs) :: M) s') → RR (.ref D) C (.ok .next) s) :
    wpAny (model c.prog c.w) A (newList []) (fun acc s₃ => wpAny (model c.prog c.w) A (newFunctionEnv scope env.globals cl [] env.qual none .none (some env)) (fun cenv s₄ =>
      codeAny (model c.prog c.w) A (.compStart (.ListComp elt [⟨target, iter, ifs, 0⟩] scope pos) 0 it acc { cenv with scope := relabel scope env }) (RR acc cenv.locals) s₄) E s₃) E s := by
  obtain ⟨I, F, M, n, Fd, P, V, rfl, T, hs, hF, ht, J, h0, turn, done⟩ := h
  refine r_newList hs (by simp) fun D s hs => ?_
  refine wpAny_newFunctionEnv hcell (by intro y hy; simp at hy) (fun h₁ hns₁ hsb₁ => ?_) hkind
  obtain ⟨o, e, q⟩ := NsP.of hns₁
  have hs₁ : Is c F ((s.heap.objs.size, NsP (fun x => ([] : List (Str × Value)).reverse.lookup x)) :: (D, LsP []) :: (I, P 0) :: M) { s with heap := h₁, toks := s.toks + ([] : List (Str × Value)).length } :=
    hs.new (fun b o e => hsb₁.extBut b o (Nat.ne_of_lt (Heap.lt_size e)) (Heap.get?_push_of_some _ e)) (Heap.get_size _) hs.big e q
  have hs₂ := hs₁.perm (M' := (I, P 0) :: (s.heap.objs.size, NsP (fun x => ([] : List (Str × Value)).reverse.lookup x)) :: (D, LsP []) :: M) (((List.Perm.swap _ _ _).trans ((List.Perm.swap _ _ _).cons _)))
  generalize s.heap.objs.size = C at hs₂ ⊢
  have loop : codeAny (model c.prog c.w) A (.compLoop (.ListComp elt [⟨target, iter, ifs, 0⟩] scope pos) 0 (.ref I) (.ref D) (compEnvC scope cl C env)) (RR (.ref D) C) { s with heap := h₁, toks := s.toks + ([] : List (Str × Value)).length } := by
    refine lc_loop (cenv := compEnvC scope cl C env) T J hs₂ hF h0 (fun i v vs m F' M' s E' => turn C D i v vs m F' M' s E') (fun vs m F' M' s hJ hFF hs => ?_) ht
    exact hRR D C m F' vs M' s hs fun s' hs' => done D vs F' M' s' hJ hFF hs'
  exact codeAny_compStart_list loop (T.self 0 F _ _ _ _ hs₂ loop)

theorem r_lc {elt target iter : Expr} {ifs : List Expr} {scope : Scope} {pos : Pos} (cl : List (Str × Addr)) (hclos : closureFor scope env = pure cl)
    (h : wpAny (model c.prog c.w) A (eval iter env) (fun xv s₁ => wpAny (model c.prog c.w) A (pyIter xv) (fun it s₂ => LcSrc c A env elt target ifs scope cl (fun D F M s => Q (.ref D) s) it s₂) E s₁) E s)
    (hcell : ∀ y ∈ scope.names, y.2 ≠ .cell := by decide) (hkind : scope.kind = .function := by rfl)
    (hnames : ∀ y ∈ scope.names, y.2 = .local → scope.names.lookup y.1 = some .local := by decide)
    (hs : ∀ x, foldedSetIterable iter env x = pure x := by intro _; rfl) :
    wpAny (model c.prog c.w) A (eval (.ListComp elt [⟨target, iter, ifs, 0⟩] scope pos) env) Q E s := by
  rw [eval_ListComp]
  refine wpAny_comprehension_free (use := none) rfl hs hclos hkind hnames (wpAny_mono h (fun xv s₁ h₁ => wpAny_mono h₁ (fun it s₂ h₂ => ?_) fun _ _ e => e) fun _ _ e => e)
  refine lc_block (RR := fun acc C => compPost (model c.prog c.w) A E none Q acc C) hcell hkind h₂ (fun D C m F vs M s hs hd => ?_)
  exact ⟨m, hs.ns (.head _), fun h' hsb => hd _ (hs.sameBut' hsb)⟩

end
end Mine

namespace Mine
section
variable {c : Cx} {F : List (Addr × Obj)} {M M' : Led} {s : Shared} {A : Around} {E : Value → Shared → Prop} {Q : Value → Shared → Prop} {x : Str} {xs : List Str} {env : Env} {pos : Pos} {v : Value} {t u : Tok} {m : Str → Option Value}

theorem Rm.made {n : Nat} {C : Addr} {r : List Value} (h : Rm (n + 1) A) : Rm n (A.under (.builtin "type.__call__" ⟨.ref C :: r, []⟩)) :=
  ⟨h.hd, by have := h.dp; show A.depth + 1 + n < 1000; lia, by have := h.un; show A.units + 1 + 100 * n < 9900; lia⟩

theorem r_make {C fI : Addr} {rest : List Value} {R : Result → Shared → Prop} (hs : Is c F M s) (hm : makesIn c.K C = true) (hi : findIn c.K (.ref C) "__init__" = some (some (.ref fI))) (hf : typeIn c.K (.ref fI) = some (.type "function"))
    (h : ∀ x dx s', Is c ((x, instObj C dx) :: F) ((dx, (· = dictOf [] 0)) :: M) s' → codeAny (model c.prog c.w) (A.under (.builtin "type.__call__" ⟨.ref C :: rest, []⟩)) (.call (.ref fI) ⟨.ref x :: rest, []⟩) (InitBack x R) s') :
    codeAny (model c.prog c.w) A (.call (.ref C) ⟨rest, []⟩) R s := by
  have hs2 := ((hs.push emptyDict).push (instObj C s.heap.objs.size)).fz_eq .head
  obtain ⟨hh, g, d, t, os⟩ := s
  refine make_core (makes_of hs.K hm) (looks_findIn hs.K hi) (fun self => bind_fn hs.K self hf) (.inl rfl) ?_
  have := h _ _ _ hs2
  dsimp only at this
  rw [Heap.size_push] at this
  exact this

/-- a comprehension that leaves the ledger as it is -/
theorem LcSrc.fixed {elt target : Expr} {ifs : List Expr} {scope : Scope} {cl : List (Str × Addr)} {Qd : Addr → List (Addr × Obj) → List (Addr × (Obj → Prop)) → Shared → Prop} {I : Addr} {n : Nat} {Fd : List (Addr × Obj)} {P : Nat → Obj → Prop} {V : Nat → Value → Prop}
    (hs : Is c F ((I, P 0) :: M) s) (T : Iter c A I n Fd P V) (hF : ∀ p ∈ Fd, p ∈ F) (J : Nat → List Value → Prop) (h0 : J 0 [])
    (turn : ∀ C D i v vs m s E', i < n → V i v → J i vs → Is c F ((I, P (i + 1)) :: (C, NsP m) :: (D, LsP vs) :: M) s →
      wpAny (model c.prog c.w) A (assign target (compEnvC scope cl C env) v) (fun _ s₂ => wpAny (model c.prog c.w) A (testsOf ifs (compEnvC scope cl C env)) (fun ok s₃ =>
        if ok = true then wpAny (model c.prog c.w) A (eval elt (compEnvC scope cl C env)) (fun y s₄ => vs.length < 100000 ∧ ∃ m', J (i + 1) (vs ++ [y]) ∧ Is c F ((I, P (i + 1)) :: (C, NsP m') :: (D, LsP vs) :: M) s₄) E' s₃
        else ∃ m', J (i + 1) vs ∧ Is c F ((I, P (i + 1)) :: (C, NsP m') :: (D, LsP vs) :: M) s₃) E' s₂) E' s)
    (done : ∀ D vs s, J n vs → Is c F ((D, LsP vs) :: M) s → Qd D F ((D, LsP vs) :: M) s)
    (ht : ∀ v, letOwnedTupleGo target (.ref I) v = pure () := by intro _; rfl) :
    LcSrc c A env elt target ifs scope cl Qd (.ref I) s := by
  refine ⟨I, F, M, n, Fd, P, V, rfl, T, hs, hF, ht, fun i vs F' M' => F' = F ∧ M' = M ∧ J i vs, ⟨rfl, rfl, h0⟩, ?_, ?_⟩
  · rintro C D i v vs m F' M' s E' hi hv ⟨rfl, rfl, hJ⟩ - hs
    refine wpAny_mono (turn C D i v vs m s E' hi hv hJ hs) (fun _ s₂ h₂ => wpAny_mono h₂ (fun ok s₃ h₃ => ?_) fun _ _ x => x) fun _ _ x => x
    cases ok with
    | false =>
      simp only [Bool.false_eq_true, if_false] at h₃ ⊢
      obtain ⟨m', h1, h2⟩ := h₃
      exact ⟨_, _, m', fun _ h => h, ⟨rfl, rfl, h1⟩, h2⟩
    | true =>
      simp only [if_true] at h₃ ⊢
      refine wpAny_mono h₃ (fun y s₄ h₄ => ?_) fun _ _ x => x
      obtain ⟨hz, m', h1, h2⟩ := h₄
      exact ⟨hz, _, _, m', fun _ h => h, ⟨rfl, rfl, h1⟩, h2⟩
  · rintro D vs F' M' s ⟨rfl, rfl, hJ⟩ - hs
    exact done D vs s hJ hs

/-- a call of a plain def, as code -/
theorem r_fnC {n : Nat} {fa : Addr} {name qual : Str} {params : Arguments} {body : List Stmt} {scope : Scope} {dV kV doc pm cdv ct oc : Value} {an od : Option Addr} {osl : Array (Option Value)} {args : List Value} {binds : List (Str × Value)} {R : Result → Shared → Prop}
    (hs : Is c F M s) (r : Rm (n + 1) A)
    (ho : c.K.lookup fa = some ⟨oc, od, .func (fnOf name qual params body scope dV kV doc pm an cdv ct), osl⟩) (hcd : codeIn c.K cdv qual = true)
    (hbind : BindsTo s (fnOf name qual params body scope dV kV doc pm an cdv ct) ⟨args, []⟩ binds) (hloc : ∀ y ∈ binds, scope.names.lookup y.1 = some .local)
    (h : ∀ L s', Rm n (A.deeper (envOf qual scope L fa cdv)) → Is c F ((L, NsP (fun y => binds.reverse.lookup y)) :: M) s' →
      wpAny (model c.prog c.w) (A.deeper (envOf qual scope L fa cdv)) (execs body (envOf qual scope L fa cdv)) (fun fl s'' => R (.ok (.ret (match fl with | .ret v => v | _ => .none))) s'') (fun _ _ => False) s')
    (hco : scope.isCoroutine = false := by rfl) (hgen : scope.isGenerator = false := by rfl) (hk : scope.kind = .function := by rfl)
    (hcell : ∀ x ∈ scope.names, x.2 ≠ .cell := by decide) : codeAny (model c.prog c.w) A (.call (.ref fa) ⟨args, []⟩) R s := by
  refine codeAny_call_def (fd := fnOf name qual params body scope dV kV doc pm an cdv ct) (body := body) (binds := binds) r.room (hs.K _ _ ho) rfl hs.noLimit (codeRec_of hs.K hcd) rfl hbind hcell hloc (fun h₁ hns hk₁ => ?_) hco hgen hk
  have hn : s.heap.get? s.heap.objs.size = none := by
    cases e : s.heap.get? s.heap.objs.size with
    | none => rfl
    | some o => exact absurd (Heap.lt_size e) (Nat.lt_irrefl _)
  obtain ⟨o, e, q⟩ := NsP.of hns
  have hs' : Is c F ((s.heap.objs.size, NsP (fun y => binds.reverse.lookup y)) :: M) { s with heap := h₁, toks := s.toks + binds.length } := ⟨hs.st.add hk₁ hn hs.big e q, hs.gens, hs.os, hs.gd⟩
  exact wpAny_mono (h _ _ (r.deeper _) hs') (fun _ _ x => x) fun _ _ x => x.elim

/-- a class is called by its name -/
theorem r_CallC {p : Pos} {e : Expr} {rest : List Expr} {C : Addr} (hs : Is c F M s) (hg : c.mg x = some (.ref C)) (hkp : keepIn c.K (.ref C) = true)
    (h : wpAny (model c.prog c.w) A (spliced (backTo pos (starEach (e :: rest) env))) (fun vs s₁ => c.K.In s₁.heap ∧ wpAny (model c.prog c.w) A (call (.ref C) vs) Q E s₁) E s)
    (he : starEach (e :: rest) env = (false, eval e env) :: starEach rest env := by rfl) (hplain : (backTo pos (starEach rest env)).any (·.1) = false := by rfl)
    (hk : env.scope.kind = .function := by rfl) (hx : env.kindOf x = some .globalImplicit := by rfl) (hgl : env.globals = mainGlobals := by rfl) (hd : (x == ("__debug__" : Str)) = false := by decide) :
    wpAny (model c.prog c.w) A (eval (.Call (.Name x p) (e :: rest) [] pos) env) Q E s := by
  show wpAny _ _ (do callWith pos (← eval (.Name x p) env) [] (backTo pos (starEach (e :: rest) env)) (backToKw pos (keywordEach [] env))) Q E s
  refine wpAny_bind (Name_function_global hk hx (loadGlobal_global (hgl ▸ hs.gd.T.g.keeps hs.st.base) hg ?_) hd)
  exact callWith_K (first := []) hs.K hkp h he hplain

theorem r_truthF {l : Addr} {vs : List Value} {n : Nat} {Q : Bool → Shared → Prop} (hs : Is c F M s) (hm : (l, lisO vs n) ∈ F) (hz : vs.length < 100000) (h : ∀ s', Is c F M s' → Q (!vs.isEmpty) s') : wpAny (model c.prog c.w) A (truthy (.ref l)) Q E s := by
  refine wpAny_truthy_list ⟨_, hs.getF hm, rfl, n, rfl⟩ (by simp <;> lia) ?_
  have := h _ (hs.toks (s.toks + 1 + 1))
  simpa using this

/-- a dict of one int -/
theorem r_dict1 {k : Str} {i : Int} {ka kb : Nat} {kp kq : Pos} (hs : Is c F M s) (h : ∀ d t s', Is c F ((d, DcP c (fun x => if x = k then some (.int i t) else none) 1) :: M) s' → Q (.ref d) s') :
    wpAny (model c.prog c.w) A (eval (.Dict [some (.Constant (.str k) ka kp)] [.Constant (.int i) kb kq] pos) env) Q E s := by
  refine wpAny_Dict_pairs (knd := PySem.strKind c.prog c.w) (pairs := [(eval (.Constant (.str k) ka kp) env, do let x ← eval (.Constant (.int i) kb kq) env; standAt pos; pure x)]) rfl (by simp) (by simp) ?_
  have hs1 := (hs.push emptyDict).weaken (P' := DcP c (fun _ => none) 0) fun o q => by
    subst q; exact ⟨[], #[], 0, ⟨rfl, rfl, rfl⟩, rfl, (fun _ he => by simp at he), .nil, .nil, fun _ => rfl, Nat.le_refl _⟩
  refine wpAny_bind (r_str hs1 fun t1 s1 hs1 => wpAny_bind (wpAny_holding (wpAny_bind (r_int hs1 fun t2 s2 hs2 => wpAny_bind (wpAny_standAt (wpAny_pure ?_))))))
  refine wpAny_bind (wpAny_holding (wpAny_pure (wpAny_pure ?_)))
  obtain ⟨o, eo, kvs, es, ep, h1, h2, h3, h4, h5, h6, h7⟩ := hs2.get (.head _)
  have hk0 : kvs = [] := List.eq_nil_of_length_eq_zero (by lia)
  subst hk0
  refine ⟨[(k, .int i t2)], ⟨strKind_is _ _ _ _, rfl, trivial⟩, ⟨o, es, ep, eo, h1, h2, h3, h4, h5⟩, fun h' hd hsb => ?_⟩
  obtain ⟨o', e', hP⟩ := DcP.of (f := fun x => if x = k then some (Value.int i t2) else none) (n := 1) hd (fun k' => by
    show valueAt (stored [] k (.int i t2)) k' = _
    rw [valueAt_stored]; rfl) (by show (stored [] k (.int i t2)).length ≤ 1; simp [stored])
  exact h _ t2 _ (hs2.sameBut .head _ hsb e' hP)
end

variable {w : World} {B : Heap} {os : OsState} {mg mb : Str → Option Value} {F : List (Addr × Obj)} {M M' : Led} {s : Shared} {A : Around} {E : Value → Shared → Prop} {Q : Value → Shared → Prop}
theorem ig_k {params : Params} : InstK (Mine.myK params) 79 := ⟨by kernel_rfl, by kernel_rfl, by kernel_rfl, by kernel_rfl⟩
theorem g_Ignore (G : Gd (cx w B os mg mb)) : mg "_Ignore" = some (.ref 79) := mg_of G.X G.T.g (by kernel_rfl)
theorem ig_makes {params : Params} : makesIn (Mine.myK params) 79 = true := by kernel_rfl
theorem ig_init {params : Params} : findIn (Mine.myK params) (.ref 79) "__init__" = some (some (.ref 69)) := by kernel_rfl
theorem ig_initf {params : Params} : typeIn (Mine.myK params) (.ref 69) = some (.type "function") := by kernel_rfl
theorem ig_mods {params : Params} : findIn (Mine.myK params) (.ref 79) "_mods" = some none := by kernel_rfl
theorem ig_dirs {params : Params} : findIn (Mine.myK params) (.ref 79) "_dirs" = some none := by kernel_rfl
theorem ig_ignore {params : Params} : findIn (Mine.myK params) (.ref 79) "_ignore" = some none := by kernel_rfl
theorem ig_names {params : Params} : findIn (Mine.myK params) (.ref 79) "names" = some (some (.ref 76)) := by kernel_rfl
theorem ig_namesf {params : Params} : isFn (Mine.myK params) (.ref 76) = true := by kernel_rfl
theorem ig_namesk {params : Params} : keepIn (Mine.myK params) (.ref 76) = true := by kernel_rfl
theorem ig_keep {params : Params} : keepIn (Mine.myK params) (.ref 79) = true := by kernel_rfl
theorem ig_tmods {params : Params} : takerIn (Mine.myK params) 79 "_mods" = some none := by kernel_rfl
theorem ig_tdirs {params : Params} : takerIn (Mine.myK params) 79 "_dirs" = some none := by kernel_rfl
theorem ig_tignore {params : Params} : takerIn (Mine.myK params) 79 "_ignore" = some none := by kernel_rfl
theorem b_set (G : Gd (cx w B os mg mb)) : mg "set" = none := mg_none_of G.X G.T.g (by kernel_rfl)
theorem bb_set : bootBuiltins "set" = some (.type "set") := by kernel_rfl
theorem g_sep (G : Gd (cx w B os mg mb)) : ∃ t, mg "sep" = some (.str "/" t) := ⟨_, mg_of G.X G.T.g (by rfl)⟩
end Mine

namespace Mine
variable {w : World} {B : Heap} {os : OsState} {mg mb : Str → Option Value} {F : List (Addr × Obj)} {M M' : Led} {s : Shared} {A : Around} {E : Value → Shared → Prop} {Q : Value → Shared → Prop}

/-- an _Ignore at x, its dict of answers at d -/
noncomputable def Ign (c : Cx) (F : List (Addr × Obj)) (x d : Addr) (mods dirs : List Str) : Prop :=
  Ex8 fun dx od S oS D vD nD ys => And12 ((x, instObj 79 dx) ∈ F) ((dx, od) ∈ F) (lookIn "_mods" od = some (some (.ref S))) (lookIn "_dirs" od = some (some (.ref D))) (lookIn "_ignore" od = some (some (.ref d))) (lookIn "names" od = some none) ((S, oS) ∈ F) (SeP c ys oS) ((∀ y, y ∈ ys ↔ y ∈ mods)) ((D, lisO vD nD) ∈ F) (StrsAre vD dirs) (dirs.length < 900)
theorem Ign.mono {c : Cx} {F F' : List (Addr × Obj)} {x d : Addr} {mods dirs : List Str} (h : Ign c F x d mods dirs) (hf : ∀ p ∈ F, p ∈ F') : Ign c F' x d mods dirs :=
  let ⟨dx, od, S, oS, D, vD, nD, ys, h1, h2, h3, h4, h5, h6, h7, h8, h9, h10, h11, h12⟩ := h
  ⟨dx, od, S, oS, D, vD, nD, ys, hf _ h1, hf _ h2, h3, h4, h5, h6, hf _ h7, h8, h9, hf _ h10, h11, h12⟩

/-- the answers known -/
noncomputable def CaP (c : Cx) (g : Str → Option Int) (n : Nat) (o : Obj) : Prop := ∃ f, DcP c f n o ∧ ∀ k, (g k = none ∧ f k = none) ∨ ∃ a t, g k = some a ∧ f k = some (.int a t)

set_option maxHeartbeats 4000000 in
theorem init_c {x dx lm ld : Addr} {vm vd : List Value} {km kd : Nat} {mods dirs : List Str} {R : Result → Shared → Prop} (hs : Is (cx w B os mg mb) F ((dx, (· = dictOf [] 0)) :: M) s) (r : Rm 12 A) (hx : (x, instObj 79 dx) ∈ F)
    (hlm : (lm, lisO vm km) ∈ F) (hld : (ld, lisO vd kd) ∈ F) (hvm : StrsAre vm mods) (hvd : StrsAre vd dirs) (hm0 : mods ≠ []) (hd0 : dirs ≠ []) (hmz : mods.length < 900) (hdz : dirs.length < 900) (hpo : ∀ p ∈ dirs, PathOk p)
    (k : ∀ d F' s', (∀ p ∈ F, p ∈ F') → Ign (cx w B os mg mb) F' x d mods (dirs.map npath) → Is (cx w B os mg mb) F' ((d, CaP (cx w B os mg mb) (fun k => if k = "<string>" then some 1 else none) 1) :: M) s' → R (.ok (.ret (.none))) s') :
    codeAny (model (cx w B os mg mb).prog w) A (.call (.ref 69) ⟨[.ref x, .ref lm, .ref ld], []⟩) R s := by
  have hlm' := strs_len hvm
  have hld' := strs_len hvd
  have hem : vm.isEmpty = false := by cases vm with | nil => exact absurd (List.eq_nil_of_length_eq_zero (by simpa using hlm'.symm)) hm0 | cons _ _ => rfl
  have hed : vd.isEmpty = false := by cases vd with | nil => exact absurd (List.eq_nil_of_length_eq_zero (by simpa using hld'.symm)) hd0 | cons _ _ => rfl
  refine r_fnC (binds := [("self", .ref x), ("modules", .ref lm), ("dirs", .ref ld)]) hs r (by rfl) (by kernel_rfl) (binds_K hs.K rfl (by rfl) rfl rfl rfl) (locs rfl) (fun L s r' hs => ?_)
  refine wpAny_execs_cons (plainObj_wpAny_Assign_Attribute (wpAny_IfExp (wpAny_isTrue_Not (wpAny_isTrue_value (r_loc hs (.head _) rfl (r_truthF hs hlm (by lia) fun s hs => if_f (by simp [hem]) ?_))))))
  refine r_CallT (c := cx w B os mg mb) hs (b_set hs.gd) bb_set (by decide) (wpAny_items_cons (r_loc hs (.head _) rfl (wpAny_items_nil ?_)))
  refine r_setL hs r'.hd hlm hvm hmz fun S ys s hys hs => ?_
  refine r_loc hs (.tail _ (.head _)) rfl ?_
  refine r_setattr hs hx (.tail (.tail .head)) ig_k ig_tmods rfl (by simp) fun t1 s hs => ?_
  obtain ⟨oS, hoS, hs⟩ := hs.fz .head
  refine wpAny_execs_cons (plainObj_wpAny_Assign_Attribute (wpAny_IfExp (wpAny_isTrue_Not (wpAny_isTrue_value (r_loc hs (.head _) rfl (r_truthF hs (.tail _ hld) (by lia) fun s hs => if_f (by simp [hed]) ?_))))))
  refine r_lc (c := cx w B os mg mb) [] rfl (r_loc hs (.head _) rfl (r_iterL hs (.tail _ hld) fun I s hne hs => ?_))
  refine LcSrc.fixed hs (Iter.list r'.hd hne) (fun p hp => (List.mem_singleton.mp hp) ▸ .tail _ hld) (fun i vs => StrsAre vs ((dirs.take i).map npath) ∧ vs.length = i) ⟨.nil, rfl⟩ ?_ ?_
  · rintro C D i v vs m s E' hi hv ⟨hst, hl⟩ hs
    obtain ⟨y, ty, rfl, ey⟩ := strs_get hvd hv
    refine wpAny_assign_Name (r_st hs (.tail .head) fun s hs => wpAny_tests_nil (if_t rfl ?_))
    refine r_Call (c := cx w B os mg mb) hs (g_normpath hs.gd) (by rfl) rfl (wpAny_items_cons (r_loc hs (.tail _ (.head _)) rfl (wpAny_items_nil ⟨hs.K, ?_⟩)))
    refine normpath_c hs (r'.mono (by decide)) (hpo y (List.mem_of_getElem? ey)) fun t2 s hs => ⟨by lia, _, ⟨?_, by simp [hl]⟩, hs⟩
    rw [List.take_add_one, ey, List.map_append]
    exact strs_snoc hst _ t2
  rintro D vD s ⟨hst, hl⟩ hs
  rw [hld', List.take_length] at hst
  refine r_loc hs (.tail _ (.head _)) rfl ?_
  refine r_setattr hs (.tail _ hx) (.tail (.tail .head)) ig_k ig_tdirs rfl (Nat.le_of_ble_eq_true rfl) fun t2 s hs => ?_
  obtain ⟨oD, ⟨nD, rfl⟩, hs⟩ := hs.fz .head
  refine wpAny_execs_cons (plainObj_wpAny_Assign_Attribute (r_dict1 hs fun d t3 s hs => ?_))
  refine r_loc hs (.tail _ (.head _)) rfl ?_
  refine r_setattr hs (.tail _ (.tail _ hx)) (.tail (.tail .head)) ig_k ig_tignore rfl (Nat.le_of_ble_eq_true rfl) fun t4 s hs => wpAny_execs_nil ?_
  have hs := (hs.out (.tail .head)).fz_eq (.tail .head)
  refine k d _ s (fun p hp => .tail _ (.tail _ (.tail _ hp))) ⟨dx, _, S, oS, D, vD, nD, ys, .tail _ (.tail _ (.tail _ hx)), .head _, rfl, rfl, rfl, rfl, .tail _ (.tail _ (.head _)), hoS, hys, .tail _ (.head _), hst, by simp; lia⟩ (hs.weaken fun o ho => ⟨_, ho, fun kk => ?_⟩)
  by_cases e : kk = "<string>"
  · exact .inr ⟨1, t3, by simp [e], by simp [e]⟩
  · exact .inl ⟨by simp [e], by simp [e]⟩
end Mine

namespace Mine
section
variable {c : Cx} {F : List (Addr × Obj)} {M M' : Led} {s : Shared} {A : Around} {E : Value → Shared → Prop} {Q : Value → Shared → Prop} {x : Str} {xs : List Str} {env : Env} {pos : Pos} {v : Value} {t u : Tok} {m : Str → Option Value}

theorem Is.opened {a : Addr} {P : Obj → Prop} {g : (Obj → Prop) → Led} (hs : Is c F M s) (hu : UpdF a P M g) : ∃ o, P o ∧ Is c F (g (· = o)) s := by
  obtain ⟨o, eo, hP⟩ := hs.get hu.mem
  exact ⟨o, hP, hs.change (o := o) hu.upd s.toks (fun b o _ e => e) eo rfl⟩
theorem Is.weakenAt {a : Addr} {P P' : Obj → Prop} {g : (Obj → Prop) → Led} (hs : Is c F M s) (hu : UpdF a P M g) (h : ∀ o, P o → P' o) : Is c F (g P') s := by
  obtain ⟨o, eo, hP⟩ := hs.get hu.mem
  exact hs.change (o := o) hu.upd s.toks (fun b o _ e => e) eo (h o hP)
theorem CaP.opened {d : Addr} {g : Str → Option Int} {n : Nat} {gg : (Obj → Prop) → Led} (hs : Is c F M s) (hu : UpdF d (CaP c g n) M gg) : ∃ f, Is c F (gg (DcP c f n)) s ∧ ∀ k, (g k = none ∧ f k = none) ∨ ∃ a t, g k = some a ∧ f k = some (.int a t) := by
  obtain ⟨o, ⟨f, h1, h2⟩, hs⟩ := hs.opened hu
  exact ⟨f, hs.weakenAt hu.again fun o e => e ▸ h1, h2⟩

theorem r_inCa {d : Addr} {g : Str → Option Int} {n : Nat} {gg : (Obj → Prop) → Led} (hs : Is c F M s) (hu : UpdF d (CaP c g n) M gg) (h : ∀ s', Is c F M s' → Q (.bool (g x).isSome) s') : wpAny (model c.prog c.w) A (compareOp .In (.str x t) (.ref d)) Q E s := by
  obtain ⟨f, hs2, hf⟩ := CaP.opened hs hu
  refine r_inDict hs2 hu.again.mem fun s' hs' => ?_
  have e : (f x).isSome = (g x).isSome := by rcases hf x with ⟨h1, h2⟩ | ⟨a, t, h1, h2⟩ <;> rw [h1, h2] <;> rfl
  rw [e]
  have := hs'.weakenAt (P' := CaP c g n) hu.again fun o ho => ⟨f, ho, hf⟩
  rw [hu.same] at this
  exact h _ this

theorem r_itemCa {value slice : Expr} {d : Addr} {g : Str → Option Int} {n : Nat} {gg : (Obj → Prop) → Led} {a : Int} (hs : Is c F M s) (hu : UpdF d (CaP c g n) M gg) (hg : g x = some a) (h : ∀ t s', Is c F M s' → Q (.int a t) s')
    (hsb : subscripted slice false (.ref d) (.str x u) = operate [.ref d, .str x u] (getItem (.ref d) (.str x u)) := by with_unfolding_all rfl) :
    wpAny (model c.prog c.w) A (subscriptTail value slice (.ref d) (.str x u)) Q E s := by
  obtain ⟨f, hs2, hf⟩ := CaP.opened hs hu
  rcases hf x with ⟨h1, h2⟩ | ⟨a', t', h1, h2⟩
  · rw [hg] at h1; cases h1
  · rw [hg] at h1; cases h1
    refine r_itemD hs2 hu.again.mem h2 (fun s' hs' => ?_) hsb
    have := hs'.weakenAt (P' := CaP c g n) hu.again fun o ho => ⟨f, ho, hf⟩
    rw [hu.same] at this
    exact h _ _ this

theorem r_setCa {d : Addr} {g : Str → Option Int} {n : Nat} {gg : (Obj → Prop) → Led} {a : Int} {Q : Unit → Shared → Prop} (hs : Is c F M s) (hu : UpdF d (CaP c g n) M gg) (hn : n ≤ 1000)
    (h : ∀ s', Is c F (gg (CaP c (fun k => if k = x then some a else g k) (n + 1))) s' → Q () s') : wpAny (model c.prog c.w) A (setItem (.ref d) (.str x t) (.int a u)) Q E s := by
  obtain ⟨f, hs2, hf⟩ := CaP.opened hs hu
  refine r_dictSet hs2 hu.again hn fun s' hs' => h _ (hs'.weakenAt (hu.again) fun o ho => ⟨_, ho, fun k => ?_⟩)
  by_cases e : k = x
  · exact .inr ⟨a, u, by simp [e], by simp [e]⟩
  · simpa [e] using hf k

theorem r_none (h : Q .none s) : wpAny (model c.prog c.w) A (eval (.Constant .none t pos) env) Q E s := wpAny_Constant_none h
theorem r_isNone {v : Value} {b : Bool} (hv : (v = .none ∧ b = true) ∨ (∃ x t, v = .str x t ∧ b = false)) (h : Q (.bool b) s) : wpAny (model c.prog c.w) A (compareOp .Is v .none) Q E s := by
  rcases hv with ⟨rfl, rfl⟩ | ⟨x, t, rfl, rfl⟩
  · exact wpAny_is_plain rfl h
  · exact wpAny_is_plain rfl h

theorem CaP.more {g g' : Str → Option Int} {n n' : Nat} {o : Obj} (h : CaP c g n o) (hg : ∀ k, g k = g' k) (hn : n ≤ n') : CaP c g' n' o :=
  let ⟨f, ⟨kvs, es, ep, a, b, cc, d, e, i, j⟩, h2⟩ := h; ⟨f, ⟨kvs, es, ep, a, b, cc, d, e, i, Nat.le_trans j hn⟩, fun k => by rw [← hg k]; exact h2 k⟩
end

/-- what names answers -/
noncomputable def ignB (mods dirs : List Str) (fn : Option Str) (mo : Str) : Bool :=
  mods.contains mo || mods.any (fun m => Txt.startswith mo (m ++ ".")) || (match fn with | none => true | some f => dirs.any fun d => Txt.startswith f (d ++ "/"))
noncomputable def ign (mods dirs : List Str) (fn : Option Str) (mo : Str) : Int := if ignB mods dirs fn mo then 1 else 0
noncomputable def FnV (fn : Option Str) (v : Value) : Prop := match fn with | none => v = .none | some f => ∃ u, v = .str f u

variable {w : World} {B : Heap} {os : OsState} {mg mb : Str → Option Value} {F : List (Addr × Obj)} {M M' : Led} {s : Shared} {A : Around} {E : Value → Shared → Prop} {Q : Value → Shared → Prop}

/-- the answer is kept and given back -/
theorem ret_c {env : Env} {x d dx : Addr} {od : Obj} {m : Str → Option Value} {mo : Str} {t : Tok} {g : Str → Option Int} {n : Nat} {gg : (Obj → Prop) → Led} {i : Int} {k1 k2 : Nat} {p1 p2 p3 p4 p5 p6 p7 p8 : Pos} {Q : Flow → Shared → Prop} (hs : Is (cx w B os mg mb) F M s) (hL : (env.locals, NsP m) ∈ M)
    (h1 : m "self" = some (.ref x)) (h2 : m "modulename" = some (.str mo t)) (hx : (x, instObj 79 dx) ∈ F) (hdx : (dx, od) ∈ F) (li : lookIn "_ignore" od = some (some (.ref d))) (hu : UpdF d (CaP (cx w B os mg mb) g n) M gg) (hn : n ≤ 900)
    (k : ∀ t s', Is (cx w B os mg mb) F (gg (CaP (cx w B os mg mb) (fun k => if k = mo then some i else g k) (n + 1))) s' → Q (.ret (.int i t)) s')
    (hk : env.scope.kind = .function := by rfl) (l1 : env.kindOf "self" = some .local := by rfl) (l2 : env.kindOf "modulename" = some .local := by rfl) :
    wpAny (model (cx w B os mg mb).prog w) A (execs [.Assign [.Subscript (.Attribute (.Name "self" p1) "_ignore" p2) (.Name "modulename" p3) p4] (.Constant (.int i) k1 p5) p6, .Return (some (.Constant (.int i) k2 p7)) p8] env) Q E s := by
  refine wpAny_execs_cons (wpAny_Assign_Subscript (r_int hs fun t1 s hs => Attribute_name (r_loc hs hL h1 (r_getattr hs hx hdx ig_k ig_ignore rfl li rfl fun s hs => r_loc hs hL h2 ?_ hk l2) hk l1)))
  exact r_setCa hs hu (by lia) fun s hs => wpAny_execs_cons (wpAny_Return_some (r_int hs fun t2 s hs => k t2 s hs))

set_option maxHeartbeats 4000000 in
theorem names_c {x d : Addr} {mods dirs : List Str} {fn : Option Str} {fv : Value} {mo : Str} {t : Tok} {g : Str → Option Int} {n : Nat} {gg : (Obj → Prop) → Led} (hs : Is (cx w B os mg mb) F M s) (r : Rm 8 A)
    (hI : Ign (cx w B os mg mb) F x d mods dirs) (hu : UpdF d (CaP (cx w B os mg mb) g n) M gg) (hn : n ≤ 900) (hfv : FnV fn fv) (hmz : ∀ y ∈ mods, y.length ≤ 1000) (hdz : ∀ y ∈ dirs, y.length ≤ 1000)
    (k : ∀ t s' F', (∀ p ∈ F, p ∈ F') → Is (cx w B os mg mb) F' (gg (CaP (cx w B os mg mb) (fun k => if k = mo then some ((g mo).getD (ign mods dirs fn mo)) else g k) (n + 1))) s' → Q (.int ((g mo).getD (ign mods dirs fn mo)) t) s') :
    wpAny (model (cx w B os mg mb).prog w) A (call (.ref 76) [.ref x, fv, .str mo t]) Q E s := by
  obtain ⟨dx, od, S, oS, D, vD, nD, ys, hx, hdx, lm, ld, li, ln, hS, hoS, hys, hD, hvD, hdl⟩ := hI
  obtain ⟨tsep, hsep⟩ := g_sep hs.gd
  generalize hV : (g mo).getD (ign mods dirs fn mo) = V at k
  refine r_fn (binds := [("self", .ref x), ("filename", fv), ("modulename", .str mo t)]) hs r (by rfl) (by kernel_rfl) (.of_eq rfl) (locs rfl) (fun L s r' hs => ?_)
  refine wpAny_execs_cons (wpAny_If (wpAny_isTrue_Compare1 (r_loc hs (.head _) rfl (Attribute_name (r_loc hs (.head _) rfl (r_getattr hs hx hdx ig_k ig_ignore rfl li rfl fun s hs => ?_))))))
  refine r_inCa hs (.tail hu) fun s hs => wpAny_truthy_bool ?_
  cases hg : g mo with
  | some a =>
    obtain rfl : V = a := by rw [← hV, hg]; rfl
    refine if_t rfl (wpAny_execs_cons (wpAny_Return_some (Subscript_ (Attribute_name (r_loc hs (.head _) rfl (r_getattr hs hx hdx ig_k ig_ignore rfl li rfl fun s hs => ?_))))))
    refine r_loc hs (.head _) rfl (r_itemCa hs (.tail hu) hg fun t2 s hs => k _ _ F (fun _ h => h) ?_)
    exact hs.drop.weakenAt hu fun o ho => ho.more (fun kk => by by_cases e : kk = mo <;> simp [e, hg]) (by lia)
  | none =>
    refine if_f rfl (wpAny_execs_nil ?_)
    -- the answer 1
    have one : ∀ (s : Shared) (F' : List (Addr × Obj)) m (MM : Led), (∀ p ∈ F, p ∈ F') → Is (cx w B os mg mb) F' ((L, NsP m) :: M) s → m "self" = some (.ref x) → m "modulename" = some (.str mo t) → True := fun _ _ _ _ _ _ _ _ => trivial
    refine wpAny_execs_cons (wpAny_If (wpAny_isTrue_Compare1 (r_loc hs (.head _) rfl (Attribute_name (r_loc hs (.head _) rfl (r_getattr hs hx hdx ig_k ig_mods rfl lm rfl fun s hs => ?_))))))
    refine r_inSet hs hS hoS fun s hs => wpAny_truthy_bool ?_
    by_cases h1 : mo ∈ ys
    · have hb : ign mods dirs fn mo = 1 := by
        unfold ign ignB; rw [if_pos]; rw [List.contains_iff_mem.mpr ((hys mo).mp h1)]; rfl
      obtain rfl : V = 1 := by rw [← hV, hg, hb]; rfl
      refine if_t (by simpa using h1) ?_
      exact ret_c hs (.head _) rfl rfl hx hdx li (.tail hu) (by lia) fun _ _ hs => k _ _ F (fun _ h => h) hs.drop
    refine if_f (by simpa using h1) (wpAny_execs_nil ?_)
    have hm1 : mods.contains mo = false := by
      cases e : mods.contains mo with
      | false => rfl
      | true => exact absurd ((hys mo).mpr (List.contains_iff_mem.mp e)) h1
    refine wpAny_execs_cons (wpAny_For (Attribute_name (r_loc hs (.head _) rfl (r_getattr hs hx hdx ig_k ig_mods rfl lm rfl fun s hs => ?_))))
    refine r_iterS hs r'.hd hS hoS fun I F' zs P s hFF hzs T hs => ?_
    refine r_for T (fun i F1 M1 => ∃ m, And6 (F1 = F') (M1 = (L, NsP m) :: M) (m "self" = some (.ref x)) (m "filename" = some fv) (m "modulename" = some (.str mo t)) (∀ (j : Nat) (y : Str), j < i → zs[j]? = some y → Txt.startswith mo (y ++ ".") = false)) hs (fun _ h => h)
      ⟨_, rfl, rfl, rfl, rfl, rfl, fun j y hj => absurd hj (Nat.not_lt_zero _)⟩ ?_ ?_
    · rintro i v F1 M1 s E' hi ⟨y, ty, rfl, ey⟩ ⟨m, rfl, rfl, m1, m2, m3, hno⟩ - hs
      have hym : y ∈ mods := (hys y).mp (hzs.mem_iff.mp (List.mem_of_getElem? ey))
      have hyl := hmz y hym
      refine wpAny_assign_Name (r_st hs (.tail .head) fun s hs => gen fun QB hQB => ?_)
      refine wpAny_execs_cons (wpAny_If (wpAny_isTrue_value (wpAny_Call_method1_late rfl rfl rfl (r_loc hs (.tail _ (.head _)) m3 (m_str1 (c := cx w B os mg mb) PySem.F.slot_str_startswith PySem.F.type_str_startswith (wpAny_BinOp (r_loc hs (.tail _ (.head _)) rfl (r_str hs fun t1 s hs => ?_))))))))
      refine r_adds hs (by show y.length + 1 ≤ _; lia) fun t2 s hs => ?_
      refine SC.startswith (wpAny_truthy_bool ?_)
      cases hsw : Txt.startswith mo (y ++ ".") with
      | true =>
        have hb : ign mods dirs fn mo = 1 := by
          unfold ign ignB; rw [if_pos]
          have : mods.any (fun m => Txt.startswith mo (m ++ ".")) = true := List.any_eq_true.mpr ⟨y, hym, hsw⟩
          rw [this]; simp
        obtain rfl : V = 1 := by rw [← hV, hg, hb]; rfl
        refine if_t rfl ?_
        exact ret_c hs (.tail _ (.head _)) m1 m3 (hFF _ hx) (hFF _ hdx) li (.tail (.tail hu)) (by lia) fun _ _ hs => hQB _ _ (k _ _ F1 hFF hs.drop.drop)
      | false =>
        refine if_f rfl (wpAny_execs_nil (wpAny_execs_nil (hQB _ _ ⟨F1, _, fun _ h => h, ?_, hs⟩)))
        refine ⟨_, rfl, rfl, m1, m2, m3, ?_⟩
        intro j y' hj ej
        by_cases e : j = i
        · subst e; rw [ey] at ej; cases ej; exact hsw
        · exact hno j y' (by lia) ej
    rintro F1 M1 s ⟨m, rfl, rfl, m1, m2, m3, hno⟩ - hs
    have hm2 : mods.any (fun m => Txt.startswith mo (m ++ ".")) = false := by
      rw [List.any_eq_false]
      intro y hy
      have : y ∈ zs := hzs.mem_iff.mpr ((hys y).mpr hy)
      obtain ⟨j, hj, ej⟩ := List.getElem_of_mem this
      rw [hno j y hj (by rw [List.getElem?_eq_getElem hj, ej])]; decide
    refine wpAny_execs_cons (wpAny_If (wpAny_isTrue_Compare1 (r_loc hs (.head _) m2 (r_none (c := cx w B os mg mb) ?_))))
    cases fn with
    | none =>
      have hfv' : fv = .none := hfv
      have hb : ign mods dirs none mo = 1 := by
        unfold ign ignB; rw [if_pos]; simp
      obtain rfl : V = 1 := by rw [← hV, hg, hb]; rfl
      refine r_isNone (c := cx w B os mg mb) (b := true) (.inl ⟨hfv', rfl⟩) (wpAny_truthy_bool (if_t rfl ?_))
      exact ret_c hs (.head _) m1 m3 (hFF _ hx) (hFF _ hdx) li (.tail hu) (by lia) fun _ _ hs => k _ _ F1 hFF hs.drop
    | some f =>
      obtain ⟨uf, efv⟩ : ∃ u, fv = .str f u := hfv
      rw [efv] at m2
      refine r_isNone (c := cx w B os mg mb) (b := false) (.inr ⟨f, uf, efv, rfl⟩) (wpAny_truthy_bool (if_f rfl (wpAny_execs_nil ?_)))
      refine wpAny_execs_cons (wpAny_For (Attribute_name (r_loc hs (.head _) m1 (r_getattr hs (hFF _ hx) (hFF _ hdx) ig_k ig_dirs rfl ld rfl fun s hs => ?_))))
      refine r_iterL hs (hFF _ hD) fun I s hne hs => ?_
      refine r_for (Iter.list r'.hd hne) (fun i F2 M2 => ∃ m, And6 (F2 = F1) (M2 = (L, NsP m) :: M) (m "self" = some (.ref x)) (m "filename" = some (.str f uf)) (m "modulename" = some (.str mo t)) (∀ (j : Nat) (y : Str), j < i → dirs[j]? = some y → Txt.startswith f (y ++ "/") = false)) hs (fun p hp => (List.mem_singleton.mp hp) ▸ hFF _ hD)
        ⟨_, rfl, rfl, m1, m2, m3, fun j y hj => absurd hj (Nat.not_lt_zero _)⟩ ?_ ?_
      · rintro i v F2 M2 s E' hi hv ⟨m, rfl, rfl, m1, m2, m3, hno⟩ - hs
        obtain ⟨y, ty, rfl, ey⟩ := strs_get hvD hv
        have hym : y ∈ dirs := List.mem_of_getElem? ey
        have hyl := hdz y hym
        refine wpAny_assign_Name (r_st hs (.tail .head) fun s hs => gen fun QB hQB => ?_)
        refine wpAny_execs_cons (wpAny_If (wpAny_isTrue_value (wpAny_Call_method1_late rfl rfl rfl (r_loc hs (.tail _ (.head _)) m2 (m_str1 (c := cx w B os mg mb) PySem.F.slot_str_startswith PySem.F.type_str_startswith (wpAny_BinOp (r_loc hs (.tail _ (.head _)) rfl (r_gn hs hsep ?_))))))))
        refine r_adds hs (by show y.length + 1 ≤ _; lia) fun t2 s hs => ?_
        refine SC.startswith (wpAny_truthy_bool ?_)
        cases hsw : Txt.startswith f (y ++ "/") with
        | true =>
          have hb : ign mods dirs (some f) mo = 1 := by
            unfold ign ignB; rw [if_pos]
            have : dirs.any (fun d => Txt.startswith f (d ++ "/")) = true := List.any_eq_true.mpr ⟨y, hym, hsw⟩
            dsimp only
            rw [this]; simp
          obtain rfl : V = 1 := by rw [← hV, hg, hb]; rfl
          refine if_t rfl ?_
          exact ret_c hs (.tail _ (.head _)) m1 m3 (hFF _ hx) (hFF _ hdx) li (.tail (.tail hu)) (by lia) fun _ _ hs => hQB _ _ (k _ _ F2 hFF hs.drop.drop)
        | false =>
          refine if_f rfl (wpAny_execs_nil (wpAny_execs_nil (hQB _ _ ⟨F2, _, fun _ h => h, ?_, hs⟩)))
          refine ⟨_, rfl, rfl, m1, m2, m3, ?_⟩
          intro j y' hj ej
          by_cases e : j = i
          · subst e; rw [ey] at ej; cases ej; exact hsw
          · exact hno j y' (by lia) ej
      rintro F2 M2 s ⟨m, rfl, rfl, m1, m2, m3, hno⟩ - hs
      have hm3 : dirs.any (fun d => Txt.startswith f (d ++ "/")) = false := by
        rw [List.any_eq_false]
        intro y hy
        obtain ⟨j, hj, ej⟩ := List.getElem_of_mem hy
        rw [hno j y (by rw [strs_len hvD]; exact hj) (by rw [List.getElem?_eq_getElem hj, ej])]; decide
      have hb : ign mods dirs (some f) mo = 0 := by
        have e : ignB mods dirs (some f) mo = false := by
          show (mods.contains mo || mods.any (fun m => Txt.startswith mo (m ++ ".")) || dirs.any fun d => Txt.startswith f (d ++ "/")) = false
          rw [hm1, hm2, hm3]; rfl
        unfold ign; rw [e]; rfl
      obtain rfl : V = 0 := by rw [← hV, hg, hb]; rfl
      exact ret_c hs (.head _) m1 m3 (hFF _ hx) (hFF _ hdx) li (.tail hu) (by lia) fun _ _ hs => k _ _ F2 hFF hs.drop
end Mine

namespace Mine
section
variable {c : Cx} {F : List (Addr × Obj)} {M M' : Led} {s : Shared} {A : Around} {E : Value → Shared → Prop} {Q : Value → Shared → Prop} {x : Str} {xs : List Str} {env : Env} {pos : Pos} {v : Value} {t u : Tok} {m : Str → Option Value}
theorem r_itemS {value slice : Expr} {i : Int} (hs : Is c F M s) (hr : fitsSsize i = true) (h1 : -(x.length : Int) ≤ i) (h2 : i < x.length) (h : ∀ t s', Is c F M s' → Q (.str (Txt.item x i) t) s')
    (hsb : subscripted slice false (.str x t) (.int i u) = operate [.str x t, .int i u] (getItem (.str x t) (.int i u)) := by with_unfolding_all rfl)
    (ht : ∀ r, letTemporaryGo value (.str x t) r = pure () := by intro _; with_unfolding_all rfl) :
    wpAny (model c.prog c.w) A (subscriptTail value slice (.str x t) (.int i u)) Q E s := item_str hr h1 h2 (fun _ => h _ _ (hs.toks _)) hsb ht
theorem r_itemF {value slice : Expr} {l : Addr} {vs : List Value} {n : Nat} {k : Int} (hs : Is c F M s) (hm : (l, lisO vs n) ∈ F) (h0 : 0 ≤ k) (hk : k < 2 ^ 63) (hx : vs[k.toNat]? = some v) (h : Q v s)
    (hsb : subscripted slice false (.ref l) (.int k u) = operate [.ref l, .int k u] (getItem (.ref l) (.int k u)) := by with_unfolding_all rfl) :
    wpAny (model c.prog c.w) A (subscriptTail value slice (.ref l) (.int k u)) Q E s :=
  have hl : s.heap.IsList l vs.toArray := ⟨_, hs.getF hm, rfl, n, rfl⟩
  tail_any hl.typeIs slot_list_getitem.lookup (wpAny_getItem_list hl h0 hk (by simpa using hx) h) hsb
theorem r_joinF {l : Addr} {vs : List Value} {n : Nat} {ys : List Str} (hs : Is c F M s) (hl : (l, lisO vs n) ∈ F) (hi : StrsAre vs ys) (hx : x.length ≤ 16) (hw : (ys.map (·.length)).sum + ys.length ≤ 100000)
    (h : ∀ t s', Is c F M s' → Q (.str (Txt.join x ys) t) s') : wpAny (model c.prog c.w) A (call (.builtin "str.join") [.str x t, .ref l]) Q E s :=
  r_join hs ⟨_, hs.getF hl, rfl, n, rfl⟩ hi hx hw h
/-- a method of a text that is written out -/
theorem r_cmeth {k name : Str} {id : String} {ka : Nat} {kp apos : Pos} {e : Expr} (hs : Is c F M s) (slot : Slot "str" name id) (hty : typeOf (.builtin id) = pure (.type "method_descriptor"))
    (hline : (apos.endLine == pos.line) = true) (htrees : backTo pos (starEach [e] env) = [(false, eval e env)])
    (h : ∀ t s', Is c F M s' → wpAny (model c.prog c.w) A (eval e env) (fun v s₁ => wpAny (model c.prog c.w) A (call (.builtin id) [.str k t, v]) Q E s₁) E s') :
    wpAny (model c.prog c.w) A (eval (.Call (.Attribute (.Constant (.str k) ka kp) name apos) [e] [] pos) env) Q E s :=
  wpAny_Call_method1_late rfl hline htrees (r_str hs fun t s hs => m_str1 (c := c) slot hty (h t s hs))
end
/-- a path in one of four manners -/
noncomputable def written (ps : List Str) (k : Int) : Str :=
  if k = 0 then "/" ++ Txt.join "/" ps
  else if k = 1 then "/" ++ Txt.join "//" ps ++ "/"
  else if k = 2 then "/" ++ Txt.join "/./" ps ++ "/."
  else "/z/../" ++ Txt.join "/" ps ++ "/z/.."
/-- a row as text -/
noncomputable def tx (ps : List Str) : Str := if (["x", "xy"] : List Str).any (· == ps.headD "") then "/" ++ Txt.join "/" ps else Txt.join "." ps
/-- a row that is small enough -/
noncomputable def Small (ps : List Str) : Prop := (ps.map (·.length)).sum + ps.length ≤ 100 ∧ ps ≠ []
theorem Small.join {ps : List Str} (h : Small ps) {x : Str} (hx : x.length ≤ 16) : (Txt.join x ps).length ≤ 2000 := by
  have := StrLaws.join_length_le x ps
  unfold Txt.join
  rw [StrLaws.glued_eq_join]
  have h1 := h.1
  have h2 : x.length * ps.length ≤ 16 * ps.length := Nat.mul_le_mul_right _ hx
  have h3 : ps.length * x.length ≤ ps.length * 16 := Nat.mul_le_mul_left _ hx
  lia

variable {w : World} {B : Heap} {os : OsState} {mg mb : Str → Option Value} {F : List (Addr × Obj)} {M M' : Led} {s : Shared} {A : Around} {E : Value → Shared → Prop} {Q : Value → Shared → Prop}

set_option maxHeartbeats 4000000 in
theorem written_c {l : Addr} {vs : List Value} {n : Nat} {ps : List Str} {k : Int} {t : Tok} (hs : Is (cx w B os mg mb) F M s) (r : Rm 3 A) (hl : (l, lisO vs n) ∈ F) (hi : StrsAre vs ps) (hz : Small ps)
    (h : ∀ t s', Is (cx w B os mg mb) F M s' → Q (.str (written ps k) t) s') :
    wpAny (model (cx w B os mg mb).prog w) A (call (.ref 132) [.ref l, .int k t]) Q E s := by
  have hw : (ps.map (·.length)).sum + ps.length ≤ 100000 := by have := hz.1; lia
  refine r_fn (binds := [("row", .ref l), ("manner", .int k t)]) hs r (by rfl) (by kernel_rfl) (.of_eq rfl) (locs rfl) (fun L s r' hs => ?_)
  refine wpAny_execs_cons (wpAny_If (wpAny_isTrue_Compare1 (r_loc hs (.head _) rfl (r_int hs fun _ s hs => r_eqi (c := cx w B os mg mb) (wpAny_truthy_bool ?_)))))
  by_cases h0 : k = 0
  · refine if_t (by simp [h0]) (wpAny_execs_cons (wpAny_Return_some (wpAny_BinOp ?_)))
    apply r_str hs; intro _ s hs
    apply r_cmeth hs PySem.F.slot_str_join PySem.F.type_str_join
    · rfl
    · rfl
    intro _ s hs
    refine r_loc hs (.head _) rfl ?_
    refine r_joinF hs hl hi (by decide) hw fun _ s hs => r_adds hs (by have := hz.join (x := "/") (by decide); show 1 + _ ≤ _; lia) fun _ s hs => ?_
    have e : written ps k = "/" ++ Txt.join "/" ps := if_pos h0
    rw [e] at h
    exact h _ _ hs.drop
  refine if_f (by simpa using h0) (wpAny_execs_nil ?_)
  refine wpAny_execs_cons (wpAny_If (wpAny_isTrue_Compare1 (r_loc hs (.head _) rfl (r_int hs fun _ s hs => r_eqi (c := cx w B os mg mb) (wpAny_truthy_bool ?_)))))
  by_cases h1 : k = 1
  · refine if_t (by simp [h1]) (wpAny_execs_cons (wpAny_Return_some (wpAny_BinOp (wpAny_BinOp ?_))))
    apply r_str hs; intro _ s hs
    apply r_cmeth hs PySem.F.slot_str_join PySem.F.type_str_join
    · rfl
    · rfl
    intro _ s hs
    refine r_loc hs (.head _) rfl ?_
    have hj := hz.join (x := "//") (by decide)
    refine r_joinF hs hl hi (by decide) hw fun _ s hs => r_adds hs (by show 1 + _ ≤ _; lia) fun _ s hs => r_str hs fun _ s hs => r_adds hs (by rw [Str.length_append]; show 1 + _ + 1 ≤ _; lia) fun _ s hs => ?_
    have e : written ps k = "/" ++ Txt.join "//" ps ++ "/" := (if_neg h0).trans (if_pos h1)
    rw [e] at h
    exact h _ _ hs.drop
  refine if_f (by simpa using h1) (wpAny_execs_nil ?_)
  refine wpAny_execs_cons (wpAny_If (wpAny_isTrue_Compare1 (r_loc hs (.head _) rfl (r_int hs fun _ s hs => r_eqi (c := cx w B os mg mb) (wpAny_truthy_bool ?_)))))
  by_cases h2 : k = 2
  · refine if_t (by simp [h2]) (wpAny_execs_cons (wpAny_Return_some (wpAny_BinOp (wpAny_BinOp ?_))))
    apply r_str hs; intro _ s hs
    apply r_cmeth hs PySem.F.slot_str_join PySem.F.type_str_join
    · rfl
    · rfl
    intro _ s hs
    refine r_loc hs (.head _) rfl ?_
    have hj := hz.join (x := "/./") (by decide)
    refine r_joinF hs hl hi (by decide) hw fun _ s hs => r_adds hs (by show 1 + _ ≤ _; lia) fun _ s hs => r_str hs fun _ s hs => r_adds hs (by rw [Str.length_append]; show 1 + _ + 2 ≤ _; lia) fun _ s hs => ?_
    have e : written ps k = "/" ++ Txt.join "/./" ps ++ "/." := (if_neg h0).trans ((if_neg h1).trans (if_pos h2))
    rw [e] at h
    exact h _ _ hs.drop
  refine if_f (by simpa using h2) (wpAny_execs_nil ?_)
  refine wpAny_execs_cons (wpAny_Return_some (wpAny_BinOp (wpAny_BinOp ?_)))
  apply r_str hs; intro _ s hs
  apply r_cmeth hs PySem.F.slot_str_join PySem.F.type_str_join
  · rfl
  · rfl
  intro _ s hs
  refine r_loc hs (.head _) rfl ?_
  have hj := hz.join (x := "/") (by decide)
  refine r_joinF hs hl hi (by decide) hw fun _ s hs => r_adds hs (by show 6 + _ ≤ _; lia) fun _ s hs => r_str hs fun _ s hs => r_adds hs (by rw [Str.length_append]; show 6 + _ + 5 ≤ _; lia) fun _ s hs => ?_
  have e : written ps k = "/z/../" ++ Txt.join "/" ps ++ "/z/.." := (if_neg h0).trans ((if_neg h1).trans (if_neg h2))
  rw [e] at h
  exact h _ _ hs.drop

set_option maxHeartbeats 4000000 in
theorem text_c {l : Addr} {vs : List Value} {n : Nat} {ps : List Str} (hs : Is (cx w B os mg mb) F M s) (r : Rm 3 A) (hl : (l, lisO vs n) ∈ F) (hi : StrsAre vs ps) (hz : Small ps)
    (h : ∀ t s', Is (cx w B os mg mb) F M s' → Q (.str (tx ps) t) s') :
    wpAny (model (cx w B os mg mb).prog w) A (call (.ref 139) [.ref l]) Q E s := by
  have hw : (ps.map (·.length)).sum + ps.length ≤ 100000 := by have := hz.1; lia
  obtain ⟨p0, pr, rfl⟩ : ∃ p0 pr, ps = p0 :: pr := by
    cases ps with
    | nil => exact absurd rfl hz.2
    | cons a b => exact ⟨a, b, rfl⟩
  obtain ⟨v0, vr, rfl⟩ : ∃ v0 vr, vs = v0 :: vr := by cases hi; exact ⟨_, _, rfl⟩
  obtain ⟨t0, e0⟩ : ∃ t0, v0 = .str p0 t0 := by cases hi; exact ⟨_, rfl⟩
  refine r_fn (binds := [("row", .ref l)]) hs r (by rfl) (by kernel_rfl) (.of_eq rfl) (locs rfl) (fun L s r' hs => ?_)
  refine wpAny_execs_cons (wpAny_Return_some (wpAny_IfExp (wpAny_isTrue_Compare1 (Subscript_ (r_loc hs (.head _) rfl (r_int hs fun _ s hs => r_itemF hs hl (by decide) (by decide) rfl ?_))))))
  rw [e0]
  refine r_list (c := cx w B os mg mb) (wpAny_items_cons (r_str hs fun t1 s hs => wpAny_items_cons (r_str hs fun t2 s hs => wpAny_items_nil ⟨by simp, _, _, hs, fun a s hs => ?_⟩)))
  refine in_list_strs (ys := ["x", "xy"]) (hs.ls (.head _)) (.cons _ _ (.cons _ _ .nil)) (wpAny_truthy_bool ?_)
  have hs := hs.drop
  cases hb : (["x", "xy"] : List Str).any (· == p0) with
  | true =>
    refine if_t rfl (wpAny_BinOp ?_)
    apply r_str hs; intro _ s hs
    apply r_cmeth hs PySem.F.slot_str_join PySem.F.type_str_join
    · rfl
    · rfl
    intro _ s hs
    refine r_loc hs (.head _) rfl ?_
    refine r_joinF hs hl hi (by decide) hw fun _ s hs => r_adds hs (by have := hz.join (x := "/") (by decide); show 1 + _ ≤ _; lia) fun _ s hs => ?_
    have e : tx (p0 :: pr) = "/" ++ Txt.join "/" (p0 :: pr) := if_pos hb
    rw [e] at h
    exact h _ _ hs.drop
  | false =>
    refine if_f rfl (?_)
    apply r_cmeth hs PySem.F.slot_str_join PySem.F.type_str_join
    · rfl
    · rfl
    intro _ s hs
    refine r_loc hs (.head _) rfl ?_
    refine r_joinF hs hl hi (by decide) hw fun _ s hs => ?_
    have e : tx (p0 :: pr) = Txt.join "." (p0 :: pr) := if_neg (ne_true_of_eq_false hb)
    rw [e] at h
    exact h _ _ hs.drop

/-- what _law_answer asks -/
noncomputable def askFn (text : Str) : Str := if Txt.item text 0 = "/" then text ++ "/f.py" else "/f.py"
noncomputable def askMo (text module : Str) : Str := if Txt.item text 0 = "/" then module else text

set_option maxHeartbeats 4000000 in
theorem answer_c {x d : Addr} {mods dirs : List Str} {text mo : Str} {t u : Tok} {g : Str → Option Int} {n : Nat} {gg : (Obj → Prop) → Led} (hs : Is (cx w B os mg mb) F M s) (r : Rm 10 A)
    (hI : Ign (cx w B os mg mb) F x d mods dirs) (hu : UpdF d (CaP (cx w B os mg mb) g n) M gg) (hn : n ≤ 900) (hmz : ∀ y ∈ mods, y.length ≤ 1000) (hdz : ∀ y ∈ dirs, y.length ≤ 1000) (ht0 : 0 < text.length) (htz : text.length ≤ 1000)
    (k : ∀ t s' F', (∀ p ∈ F, p ∈ F') → Is (cx w B os mg mb) F' (gg (CaP (cx w B os mg mb) (fun k => if k = askMo text mo then some ((g (askMo text mo)).getD (ign mods dirs (some (askFn text)) (askMo text mo))) else g k) (n + 1))) s' →
      Q (.int ((g (askMo text mo)).getD (ign mods dirs (some (askFn text)) (askMo text mo))) t) s') :
    wpAny (model (cx w B os mg mb).prog w) A (call (.ref 146) [.ref x, .str text t, .str mo u]) Q E s := by
  obtain ⟨dx, od, S, oS, D, vD, nD, ys, hx, hdx, lm, ld, li, ln, hrest⟩ := id hI
  refine r_fn (binds := [("reader", .ref x), ("text", .str text t), ("module", .str mo u)]) hs r (by rfl) (by kernel_rfl) (.of_eq rfl) (locs rfl) (fun L s r' hs => ?_)
  refine wpAny_execs_cons (wpAny_If (wpAny_isTrue_Compare1 (Subscript_ (r_loc hs (.head _) rfl (r_int hs fun _ s hs => r_itemS hs (by decide) (by lia) (by lia) fun _ s hs => r_str hs fun _ s hs => r_eqs (c := cx w B os mg mb) (wpAny_truthy_bool ?_))))))
  by_cases h0 : Txt.item text 0 = "/"
  · have e1 : askFn text = text ++ "/f.py" := if_pos h0
    have e2 : askMo text mo = mo := if_pos h0
    rw [e1, e2] at k
    refine if_t (by simp [h0]) (wpAny_execs_cons (wpAny_Return_some (r_methI (c := cx w B os mg mb) (r_loc hs (.head _) rfl ?_))))
    refine ⟨x, dx, 79, od, 76, _, _, rfl, hs, hx, hdx, ig_k, ig_names, ig_namesf, ln, ig_namesk, ?_⟩
    refine wpAny_items_cons (wpAny_BinOp (r_loc hs (.head _) rfl (r_str hs fun _ s hs => r_adds hs (by show _ + 5 ≤ _; lia) fun tf s hs => wpAny_items_cons (r_loc hs (.head _) rfl (wpAny_items_nil ⟨hs.K, ?_⟩)))))
    refine names_c (fn := some (text ++ "/f.py")) hs (r'.mono (by decide)) hI (.tail hu) hn ⟨tf, rfl⟩ hmz hdz fun t s F' hFF hs => k _ _ _ hFF hs.drop
  · have e1 : askFn text = "/f.py" := if_neg h0
    have e2 : askMo text mo = text := if_neg h0
    rw [e1, e2] at k
    refine if_f (by simpa using h0) (wpAny_execs_nil (wpAny_execs_cons (wpAny_Return_some (r_methI (c := cx w B os mg mb) (r_loc hs (.head _) rfl ?_)))))
    refine ⟨x, dx, 79, od, 76, _, _, rfl, hs, hx, hdx, ig_k, ig_names, ig_namesf, ln, ig_namesk, ?_⟩
    refine wpAny_items_cons (r_str hs fun tf s hs => wpAny_items_cons (r_loc hs (.head _) rfl (wpAny_items_nil ⟨hs.K, ?_⟩)))
    refine names_c (fn := some "/f.py") hs (r'.mono (by decide)) hI (.tail hu) hn ⟨tf, rfl⟩ hmz hdz fun t s F' hFF hs => k _ _ _ hFF hs.drop
end Mine

namespace Mine
section heap
variable {α : Type} {lt : α → α → Bool}

/-- an order -/
structure Ord' (lt : α → α → Bool) : Prop where
  tr : ∀ a b c, lt b a = false → lt c b = false → lt c a = false
  asy : ∀ a b, lt a b = true → lt b a = false

/-- the heap's order at and above sp, but for the hole p -/
noncomputable def HB (lt : α → α → Bool) (xs : List α) (sp p : Nat) : Prop :=
  ∀ i a b, 0 < i → sp ≤ (i - 1) / 2 → i ≠ p → (i - 1) / 2 ≠ p → xs[(i - 1) / 2]? = some a → xs[i]? = some b → lt b a = false
noncomputable def HF (lt : α → α → Bool) (xs : List α) (sp : Nat) : Prop :=
  ∀ i a b, 0 < i → sp ≤ (i - 1) / 2 → xs[(i - 1) / 2]? = some a → xs[i]? = some b → lt b a = false
inductive Anc : Nat → Nat → Prop
  | self {p} : Anc p p
  | up {sp p} : 0 < p → Anc sp ((p - 1) / 2) → Anc sp p
theorem Anc.le {sp p : Nat} (h : Anc sp p) : sp ≤ p := by
  induction h with
  | self => exact Nat.le_refl _
  | up h0 _ ih => lia
theorem Anc.par {sp p : Nat} (h : Anc sp p) (hlt : sp < p) : Anc sp ((p - 1) / 2) := by
  cases h with
  | self => lia
  | up _ h => exact h
theorem anc_zero : ∀ p, Anc 0 p := by
  intro p
  induction p using Nat.strongRecOn with
  | _ p ih =>
    cases p with
    | zero => exact .self
    | succ n => exact .up (by lia) (ih _ (by lia))

theorem set_get (xs : List α) (p i : Nat) (a : α) : (xs.set p a)[i]? = if p = i ∧ p < xs.length then some a else xs[i]? := by
  rw [List.getElem?_set]
  by_cases h : p = i
  · subst h
    by_cases h2 : p < xs.length
    · simp [h2]
    · simp [h2]
  · simp [h]

theorem perm_swap {xs : List α} {p q : Nat} {b : α} (a : α) (hp : p < xs.length) (hq : xs[q]? = some b) (hne : p ≠ q) : ((xs.set p b).set q a).Perm (xs.set p a) := by
  classical
  induction xs generalizing p q with
  | nil => simp at hp
  | cons x r ih =>
    cases p with
    | zero =>
      cases q with
      | zero => exact absurd rfl hne
      | succ q =>
        simp only [List.getElem?_cons_succ] at hq
        simp only [List.set_cons_zero, List.set_cons_succ]
        have hql : q < r.length := (List.getElem?_eq_some_iff.mp hq).1
        have e : ∀ (l : List α) (k : Nat) (y z : α), l[k]? = some z → (z :: l.set k y).Perm (y :: l) := by
          intro l
          induction l with
          | nil => intro k y z h; simp at h
          | cons w l ih2 =>
            intro k y z h
            cases k with
            | zero => simp only [List.getElem?_cons_zero, Option.some.injEq] at h; subst h; exact List.Perm.swap _ _ _
            | succ k =>
              simp only [List.getElem?_cons_succ] at h
              simp only [List.set_cons_succ]
              exact (List.Perm.swap _ _ _).trans (((ih2 k y z h).cons w).trans (List.Perm.swap _ _ _))
        exact e r q a b hq
    | succ p =>
      cases q with
      | zero =>
        simp only [List.getElem?_cons_zero, Option.some.injEq] at hq
        subst hq
        simp only [List.set_cons_succ, List.set_cons_zero]
        have hpl : p < r.length := by simpa using hp
        have e : ∀ (l : List α) (k : Nat) (y z : α), k < l.length → (z :: l.set k y).Perm (y :: l.set k z) := by
          intro l
          induction l with
          | nil => intro k y z h; simp at h
          | cons w l ih2 =>
            intro k y z h
            cases k with
            | zero => exact List.Perm.swap _ _ _
            | succ k =>
              simp only [List.set_cons_succ]
              exact (List.Perm.swap _ _ _).trans (((ih2 k y z (by simpa using h)).cons w).trans (List.Perm.swap _ _ _))
        exact e r p x a hpl
      | succ q =>
        simp only [List.getElem?_cons_succ] at hq
        simp only [List.set_cons_succ]
        exact (ih (by simpa using hp) hq (by lia)).cons x

theorem sd_ok (O : Ord' lt) (new : α) (sp : Nat) : ∀ (p : Nat) (xs : List α), p < xs.length → Anc sp p → HB lt xs sp p → (∀ c b, 0 < c → (c - 1) / 2 = p → xs[c]? = some b → lt b new = false) →
    (sp < p → ∀ c a b, 0 < c → (c - 1) / 2 = p → xs[(p - 1) / 2]? = some a → xs[c]? = some b → lt b a = false) →
    HF lt (sd lt new xs sp p) sp ∧ (sd lt new xs sp p).Perm (xs.set p new) := by
  intro p
  induction p using Nat.strongRecOn with
  | _ p ih =>
    intro xs hp hanc h1 h2 h3
    have fin : (sp < p → ∀ a, xs[(p - 1) / 2]? = some a → lt new a = false) → HF lt (xs.set p new) sp := by
      intro hpar i a b hi hsp ha hb
      rw [set_get] at ha hb
      by_cases e1 : p = i
      · subst e1
        rw [if_pos ⟨rfl, hp⟩] at hb
        rw [if_neg (by lia)] at ha
        cases hb
        exact hpar (by lia) a ha
      · rw [if_neg (fun h => e1 h.1)] at hb
        by_cases e2 : p = (i - 1) / 2
        · rw [if_pos ⟨e2, hp⟩] at ha
          cases ha
          exact h2 i b hi e2.symm hb
        · rw [if_neg (fun h => e2 h.1)] at ha
          exact h1 i a b hi hsp (Ne.symm e1) (Ne.symm e2) ha hb
    rw [sd]
    by_cases hlt : sp < p
    · rw [dif_pos hlt]
      have hq : (p - 1) / 2 < p := by lia
      obtain ⟨par, epar⟩ : ∃ par, xs[(p - 1) / 2]? = some par := ⟨_, List.getElem?_eq_getElem (by lia)⟩
      rw [epar]
      dsimp only
      by_cases hn : lt new par = true
      · rw [if_pos hn]
        have hanc' := hanc.par hlt
        have hsp' := hanc'.le
        have := ih ((p - 1) / 2) hq (xs.set p par) (by rw [List.length_set]; lia) hanc' ?_ ?_ ?_
        · refine ⟨this.1, this.2.trans ?_⟩
          exact perm_swap new hp epar (by lia)
        · intro i a b hi hsp hne1 hne2 ha hb
          rw [set_get] at ha hb
          have e1 : ¬ p = i := fun e => hne2 (by rw [← e])
          rw [if_neg (fun h => e1 h.1)] at hb
          by_cases e2 : p = (i - 1) / 2
          · rw [if_pos ⟨e2, hp⟩] at ha
            cases ha
            exact h3 hlt i _ b hi e2.symm epar hb
          · rw [if_neg (fun h => e2 h.1)] at ha
            exact h1 i a b hi hsp (Ne.symm e1) (Ne.symm e2) ha hb
        · intro c b hc hcp hb
          rw [set_get] at hb
          by_cases e1 : p = c
          · rw [if_pos ⟨e1, hp⟩] at hb
            cases hb
            exact O.asy _ _ hn
          · rw [if_neg (fun h => e1 h.1)] at hb
            have h4 : lt b par = false := h1 c par b hc (by lia) (Ne.symm e1) (by lia) (by rw [hcp]; exact epar) hb
            exact O.tr new par b (O.asy _ _ hn) h4
        · intro hsp2 c a b hc hcp ha hb
          rw [set_get] at ha hb
          rw [if_neg (by lia)] at ha
          have hgp : lt par a = false := h1 ((p - 1) / 2) a par (by lia) (by have := hanc'.par hsp2; have := this.le; lia) (by lia) (by lia) ha epar
          by_cases e1 : p = c
          · rw [if_pos ⟨e1, hp⟩] at hb
            cases hb
            exact hgp
          · rw [if_neg (fun h => e1 h.1)] at hb
            have h4 : lt b par = false := h1 c par b hc (by lia) (Ne.symm e1) (by lia) (by rw [hcp]; exact epar) hb
            exact O.tr a par b hgp h4
      · rw [if_neg hn]
        refine ⟨fin fun _ a ha => ?_, .refl _⟩
        rw [epar] at ha; cases ha; simpa using hn
    · rw [dif_neg hlt]
      exact ⟨fin fun h => absurd h hlt, .refl _⟩

theorem chd_par {xs : List α} (p : Nat) : (chd lt xs p - 1) / 2 = p := by
  unfold chd; split
  · split <;> lia
  · lia
theorem chd_min (O : Ord' lt) {xs : List α} {p c : Nat} {a b : α} (hc : 0 < c) (hcp : (c - 1) / 2 = p) (ha : xs[chd lt xs p]? = some a) (hb : xs[c]? = some b) (hir : ∀ x, lt x x = false) : lt b a = false := by
  have hcc : c = 2 * p + 1 ∨ c = 2 * p + 2 := by lia
  unfold chd at ha
  split at ha
  · rename_i l r el er
    split at ha
    · rename_i hl
      rw [el] at ha; cases ha
      rcases hcc with rfl | rfl
      · rw [el] at hb; cases hb; exact hir _
      · rw [er] at hb; cases hb; exact O.asy _ _ hl
    · rename_i hl
      rw [er] at ha; cases ha
      rcases hcc with rfl | rfl
      · rw [el] at hb; cases hb; simpa using hl
      · rw [er] at hb; cases hb; exact hir _
  · rename_i hn
    rcases hcc with rfl | rfl
    · rw [ha] at hb; cases hb; exact hir _
    · exact (hn _ _ ha hb).elim

theorem dn_ok (O : Ord' lt) (hir : ∀ x, lt x x = false) (sp : Nat) : ∀ (n : Nat) (p : Nat) (xs : List α), xs.length - p = n → p < xs.length → Anc sp p → HB lt xs sp p →
    (sp < p → ∀ c a b, 0 < c → (c - 1) / 2 = p → xs[(p - 1) / 2]? = some a → xs[c]? = some b → lt b a = false) →
    (dn lt xs p).2 < (dn lt xs p).1.length ∧ Anc sp (dn lt xs p).2 ∧ HB lt (dn lt xs p).1 sp (dn lt xs p).2 ∧ (dn lt xs p).1.length ≤ 2 * (dn lt xs p).2 + 1 ∧ ∀ a, ((dn lt xs p).1.set (dn lt xs p).2 a).Perm (xs.set p a) := by
  intro n
  induction n using Nat.strongRecOn with
  | _ n ih =>
    intro p xs hn hp hanc h1 h3
    rw [dn]
    by_cases hlt : 2 * p + 1 < xs.length
    · rw [dif_pos hlt]
      have hc := chd_lt (lt := lt) hlt
      have hcg := chd_le lt xs p
      have hcp := chd_par (lt := lt) (xs := xs) p
      obtain ⟨y, ey⟩ : ∃ y, xs[chd lt xs p]? = some y := ⟨_, List.getElem?_eq_getElem hc⟩
      rw [ey]
      dsimp only
      generalize hC : chd lt xs p = C at *
      have := ih (xs.length - C) (by lia) C (xs.set p y) (by rw [List.length_set]) (by rw [List.length_set]; exact hc) (.up (by lia) (by rw [hcp]; exact hanc)) ?_ ?_
      · obtain ⟨a1, a2, a3, a4, a5⟩ := this
        refine ⟨a1, a2, a3, a4, fun a => (a5 a).trans (perm_swap a hp ey (by lia))⟩
      · intro i a b hi hsp hne1 hne2 ha hb
        rw [set_get] at ha hb
        by_cases e1 : p = i
        · rw [if_pos ⟨e1, hp⟩] at hb
          cases hb
          rw [if_neg (by lia)] at ha
          subst e1
          exact h3 (by lia) C a _ (by lia) hcp ha ey
        · rw [if_neg (fun h => e1 h.1)] at hb
          by_cases e2 : p = (i - 1) / 2
          · rw [if_pos ⟨e2, hp⟩] at ha
            cases ha
            exact chd_min O hi e2.symm (by rw [hC]; exact ey) hb hir
          · rw [if_neg (fun h => e2 h.1)] at ha
            exact h1 i a b hi hsp (Ne.symm e1) (Ne.symm e2) ha hb
      · intro _ d a b hd hdc ha hb
        rw [set_get] at ha hb
        rw [if_pos ⟨hcp.symm, hp⟩] at ha
        cases ha
        rw [if_neg (by lia)] at hb
        have := hanc.le
        exact h1 d _ b hd (by lia) (by lia) (by lia) (by rw [hdc]; exact ey) hb
    · rw [dif_neg hlt]
      exact ⟨hp, hanc, h1, (by show xs.length ≤ 2 * p + 1; lia), fun a => .refl _⟩

theorem su_ok (O : Ord' lt) (hir : ∀ x, lt x x = false) {new : α} {p : Nat} {xs : List α} (hp : xs[p]? = some new) (h : HF lt xs (p + 1)) : HF lt (su lt new xs p) p ∧ (su lt new xs p).Perm xs := by
  have hpl : p < xs.length := (List.getElem?_eq_some_iff.mp hp).1
  obtain ⟨a1, a2, a3, a4, a5⟩ := dn_ok O hir p (xs.length - p) p xs rfl hpl .self (fun i a b hi hsp hne1 hne2 ha hb => h i a b hi (by lia) ha hb) (fun h => absurd h (Nat.lt_irrefl _))
  unfold su
  have hset : ∀ (l : List α) (q : Nat) (a b : α), (l.set q a).set q b = l.set q b := fun l q a b => List.set_set ..
  have := sd_ok O new p (dn lt xs p).2 ((dn lt xs p).1.set (dn lt xs p).2 new) (by rw [List.length_set]; exact a1) a2 ?_ ?_ ?_
  · refine ⟨this.1, this.2.trans ?_⟩
    rw [hset]
    refine (a5 new).trans ?_
    have e : xs.set p new = xs := by
      apply List.ext_getElem?
      intro i
      rw [set_get]
      by_cases e : p = i
      · subst e; rw [if_pos ⟨rfl, hpl⟩, hp]
      · rw [if_neg (fun h => e h.1)]
    rw [e]
  · intro i a b hi hsp hne1 hne2 ha hb
    rw [set_get] at ha hb
    rw [if_neg (fun h => hne2 h.1.symm)] at ha
    rw [if_neg (fun h => hne1 h.1.symm)] at hb
    exact a3 i a b hi hsp hne1 hne2 ha hb
  · intro c b hc hcp hb
    have : c < ((dn lt xs p).1.set (dn lt xs p).2 new).length := (List.getElem?_eq_some_iff.mp hb).1
    rw [List.length_set] at this
    lia
  · intro _ c a b hc hcp ha hb
    have : c < ((dn lt xs p).1.set (dn lt xs p).2 new).length := (List.getElem?_eq_some_iff.mp hb).1
    rw [List.length_set] at this
    lia

theorem push_ok (O : Ord' lt) {k : α} {xs : List α} (h : HF lt xs 0) : HF lt (sd lt k (xs ++ [k]) 0 xs.length) 0 ∧ (sd lt k (xs ++ [k]) 0 xs.length).Perm (xs ++ [k]) := by
  have hnc : ∀ c : Nat, 0 < c → (c - 1) / 2 = xs.length → (xs ++ [k])[c]? = none := fun c h0 hc => List.getElem?_eq_none (by rw [List.length_append]; show xs.length + 1 ≤ c; lia)
  have := sd_ok O k 0 xs.length (xs ++ [k]) (by simp) (anc_zero _) ?_ ?_ ?_
  · refine ⟨this.1, this.2.trans ?_⟩
    have : (xs ++ [k]).set xs.length k = xs ++ [k] := by simp
    rw [this]
  · intro i a b hi hsp hne1 hne2 ha hb
    have hil : i < (xs ++ [k]).length := (List.getElem?_eq_some_iff.mp hb).1
    have hil' : i < xs.length := by simp at hil; lia
    rw [List.getElem?_append_left (by lia)] at ha
    rw [List.getElem?_append_left hil'] at hb
    exact h i a b hi hsp ha hb
  · intro c b hc hcp hb; rw [hnc c hc hcp] at hb; cases hb
  · intro _ c a b hc hcp ha hb; rw [hnc c hc hcp] at hb; cases hb

theorem HF.root {xs ys : List α} {k0 ki : α} (h : HF lt (k0 :: xs) 0) (hy : ∃ zs, xs = ys ++ zs) : HF lt (ki :: ys) 1 := by
  obtain ⟨zs, rfl⟩ := hy
  intro i a b hi hsp ha hb
  have hil : i < (ki :: ys).length := (List.getElem?_eq_some_iff.mp hb).1
  have e : ∀ j, 1 ≤ j → j < (ki :: ys).length → (k0 :: (ys ++ zs))[j]? = (ki :: ys)[j]? := by
    intro j hj hjl
    cases j with
    | zero => lia
    | succ j => simp only [List.getElem?_cons_succ]; rw [List.getElem?_append_left (by simpa using hjl)]
  exact h i a b hi (by lia) (by rw [e _ hsp (by lia)]; exact ha) (by rw [e _ hi hil]; exact hb)

theorem replace_ok (O : Ord' lt) (hir : ∀ x, lt x x = false) {xs ys : List α} {k0 ki : α} (h : HF lt (k0 :: xs) 0) (hy : ∃ zs, xs = ys ++ zs) : HF lt (su lt ki (ki :: ys) 0) 0 ∧ (su lt ki (ki :: ys) 0).Perm (ki :: ys) :=
  su_ok O hir rfl (h.root hy)

theorem hfy_ok (O : Ord' lt) (hir : ∀ x, lt x x = false) (xs : List α) (n : Nat) (hn : HF lt xs n) : ∀ i, i ≤ n → HF lt (hfy lt xs n i) (n - i) ∧ (hfy lt xs n i).Perm xs := by
  intro i
  induction i with
  | zero => intro _; exact ⟨by simpa [hfy] using hn, .refl _⟩
  | succ i ih =>
    intro hi
    obtain ⟨h1, h2⟩ := ih (by lia)
    rw [hfy]
    have e : n - 1 - i + 1 = n - i := by lia
    have e2 : n - (i + 1) = n - 1 - i := by lia
    cases hk : (hfy lt xs n i)[n - 1 - i]? with
    | none =>
      refine ⟨?_, h2⟩
      dsimp only
      intro j a b hj hsp ha hb
      by_cases e3 : (j - 1) / 2 = n - 1 - i
      · rw [e3, hk] at ha; cases ha
      · exact h1 j a b hj (by lia) ha hb
    | some k =>
      dsimp only
      have := su_ok O hir hk (by rw [e]; exact h1)
      rw [e2]
      exact ⟨this.1, this.2.trans h2⟩

theorem heapify_ok (O : Ord' lt) (hir : ∀ x, lt x x = false) (xs : List α) : HF lt (hfy lt xs (xs.length / 2) (xs.length / 2)) 0 ∧ (hfy lt xs (xs.length / 2) (xs.length / 2)).Perm xs := by
  have := hfy_ok O hir xs (xs.length / 2) (fun i a b hi hsp ha hb => by
    have hil : i < xs.length := (List.getElem?_eq_some_iff.mp hb).1
    lia) (xs.length / 2) (Nat.le_refl _)
  rwa [Nat.sub_self] at this

theorem HF.min (O : Ord' lt) (hir : ∀ x, lt x x = false) {k0 : α} {xs : List α} (h : HF lt (k0 :: xs) 0) : ∀ (i : Nat) (b : α), (k0 :: xs)[i]? = some b → lt b k0 = false := by
  intro i
  induction i using Nat.strongRecOn with
  | _ i ih =>
    intro b hb
    cases i with
    | zero => simp at hb; subst hb; exact hir _
    | succ i =>
      have hil : i + 1 < (k0 :: xs).length := (List.getElem?_eq_some_iff.mp hb).1
      obtain ⟨a, ea⟩ : ∃ a, (k0 :: xs)[(i + 1 - 1) / 2]? = some a := ⟨_, List.getElem?_eq_getElem (by lia)⟩
      have h1 := ih ((i + 1 - 1) / 2) (by lia) a ea
      exact O.tr k0 a b h1 (h (i + 1) a b (by lia) (Nat.zero_le _) ea hb)
theorem HF.min' (O : Ord' lt) (hir : ∀ x, lt x x = false) {k0 : α} {xs : List α} (h : HF lt (k0 :: xs) 0) {b : α} (hb : b ∈ k0 :: xs) : lt b k0 = false := by
  obtain ⟨i, hi⟩ := List.mem_iff_getElem?.mp hb
  exact h.min O hir i b hi
end heap
end Mine

namespace Mine
noncomputable def ext (parts : List Str) (ls : List (List Str)) : List (List Str) := ls.flatMap fun r => parts.map fun p => r ++ [p]
noncomputable def mP : List Str := ["a", "ab"]
noncomputable def dP : List Str := ["x", "xy"]
noncomputable def mRows : List (List Str) := ext mP [[]] ++ ext mP (ext mP [[]]) ++ ext mP (ext mP (ext mP [[]]))
noncomputable def dRows : List (List Str) := ext dP [[]] ++ ext dP (ext dP [[]])
noncomputable def allRows : List (List Str) := mRows ++ dRows

noncomputable def smallB (ps : List Str) : Bool := decide ((ps.map (·.length)).sum + ps.length ≤ 100) && decide (ps ≠ [])
theorem small_of {ps : List Str} (h : smallB ps = true) : Small ps := by
  unfold smallB at h
  rw [Bool.and_eq_true, decide_eq_true_eq, decide_eq_true_eq] at h
  exact h
noncomputable def pathB (p : Str) : Bool := decide (p.length ≤ 1000) && decide (p.length ≠ 0) && decide (Txt.slice p none (some 1) = "/") && decide (Txt.slice p (some 1) (some 2) ≠ "/") && decide ((Txt.slice p (some 1) none).length ≤ 1000) &&
  decide ((Txt.split (Txt.slice p (some 1) none) "/").length ≤ 1000) && (Txt.split (Txt.slice p (some 1) none) "/").all (fun x => decide (x.length ≤ 1000)) &&
  decide (((npComps (Txt.slice p (some 1) none)).map (·.length)).sum + (npComps (Txt.slice p (some 1) none)).length ≤ 10000)
theorem path_of {p : Str} (h : pathB p = true) : PathOk p := by
  unfold pathB at h
  simp only [Bool.and_eq_true, decide_eq_true_eq, List.all_eq_true] at h
  obtain ⟨⟨⟨⟨⟨⟨⟨h1, h2⟩, h3⟩, h4⟩, h5⟩, h6⟩, h7⟩, h8⟩ := h
  exact ⟨h1, h2, h3, h4, h5, h6, h7, h8⟩

theorem f_small : allRows.all smallB = true := by decide +kernel
theorem f_len : allRows.all (fun r => decide (0 < (tx r).length) && decide ((tx r).length ≤ 20)) = true := by decide +kernel
theorem f_path : dRows.all (fun r => ([0, 1, 2, 3] : List Int).all fun k => pathB (written r k) && decide (npath (written r k) = tx r)) = true := by decide +kernel
theorem f_path2 : dRows.all (fun r => pathB (tx r) && decide (npath (tx r) = tx r)) = true := by decide +kernel
theorem f_inj : allRows.all (fun r => allRows.all fun r' => decide (tx r = tx r' → r = r')) = true := by decide +kernel
theorem f_dir : mRows.all (fun r => decide (Txt.item (tx r) 0 ≠ "/")) = true ∧ dRows.all (fun r => decide (Txt.item (tx r) 0 = "/")) = true := by constructor <;> decide +kernel
theorem f_pre_m : mRows.all (fun r => mRows.all fun r' => (decide (tx r = tx r') || Txt.startswith (tx r) (tx r' ++ ".")) == r'.isPrefixOf r) = true := by decide +kernel
theorem f_pre_d : dRows.all (fun r => dRows.all fun r' => Txt.startswith (tx r ++ "/f.py") (tx r' ++ "/") == r'.isPrefixOf r) = true := by decide +kernel
theorem f_pre_n : dRows.all (fun r' => !Txt.startswith "/f.py" (tx r' ++ "/")) = true := by decide +kernel
end Mine

namespace Mine
/-- a new module's name -/
noncomputable def fN (p : Str) (n : Nat) : Str := p ++ Str.ofString (toString (n : Int))
theorem n_mod : (List.range 40).all (fun n => mRows.all fun r => (["f", "g"] : List Str).all fun p => decide (tx r ≠ fN p n) && !Txt.startswith (fN p n) (tx r ++ ".")) = true := by decide +kernel
theorem n_h : mRows.all (fun r => decide (tx r ≠ "h") && !Txt.startswith "h" (tx r ++ ".") && decide (tx r ≠ "<string>")) = true := by decide +kernel
theorem n_inj : (List.range 40).all (fun n => (List.range 40).all fun m => decide (fN "f" n ≠ fN "g" m) && (decide (n = m) || (decide (fN "f" n ≠ fN "f" m) && decide (fN "g" n ≠ fN "g" m)))) = true := by decide +kernel
theorem n_other : (List.range 40).all (fun n => decide (fN "f" n ≠ "h") && decide (fN "g" n ≠ "h") && decide (fN "f" n ≠ "<string>") && decide (fN "g" n ≠ "<string>") && decide ((fN "f" n).length ≤ 10) && decide ((fN "g" n).length ≤ 10)) = true := by decide +kernel
theorem n_cross : mRows.all (fun r => dRows.all fun r' => !r'.isPrefixOf r && !r.isPrefixOf r') = true := by decide +kernel

/-- some beginning is on the list -/
noncomputable def belowB (Ls : List (List Str)) (r : List Str) : Bool := Ls.any fun r' => r'.isPrefixOf r
noncomputable def ansI (Ls : List (List Str)) (r : List Str) : Int := if belowB Ls r then 1 else 0

section
variable {ms ds : List (List Str)} {r : List Str}
theorem any_congr {α : Type} {l : List α} {p q : α → Bool} (h : ∀ x ∈ l, p x = q x) : l.any p = l.any q := by
  induction l with
  | nil => rfl
  | cons a b ih => simp only [List.any_cons]; rw [h a (.head _), ih fun x hx => h x (.tail _ hx)]
theorem all_of {α : Type} {l : List α} {p : α → Bool} (h : l.all p = true) {x : α} (hx : x ∈ l) : p x = true := List.all_eq_true.mp h x hx
theorem any_false {α : Type} {l : List α} {p : α → Bool} (h : ∀ x ∈ l, p x = false) : l.any p = false := by
  rw [List.any_eq_false]; intro x hx; rw [h x hx]; decide

theorem cross_md {r r' : List Str} (h : r ∈ mRows) (h' : r' ∈ dRows) : r'.isPrefixOf r = false ∧ r.isPrefixOf r' = false := by
  have := all_of (all_of n_cross h) h'
  rw [Bool.and_eq_true] at this
  exact ⟨by simpa using this.1, by simpa using this.2⟩

theorem below_append (r : List Str) : belowB (ms ++ ds) r = (belowB ms r || belowB ds r) := by unfold belowB; rw [List.any_append]

theorem ans_m (hm : ∀ x ∈ ms, x ∈ mRows) (hd : ∀ x ∈ ds, x ∈ dRows) (hr : r ∈ mRows) : ign (ms.map tx) (ds.map tx) (some "/f.py") (tx r) = ansI (ms ++ ds) r := by
  have e : ignB (ms.map tx) (ds.map tx) (some "/f.py") (tx r) = belowB (ms ++ ds) r := by
    rw [below_append]
    show ((ms.map tx).contains (tx r) || (ms.map tx).any (fun m => Txt.startswith (tx r) (m ++ ".")) || (ds.map tx).any fun d => Txt.startswith "/f.py" (d ++ "/")) = _
    have h1 : (ds.map tx).any (fun d => Txt.startswith "/f.py" (d ++ "/")) = false := by
      rw [List.any_map]
      refine any_false fun x hx => ?_
      have := all_of f_pre_n (hd x hx)
      simpa using this
    have h2 : belowB ds r = false := any_false fun x hx => (cross_md hr (hd x hx)).1
    have h3 : ((ms.map tx).contains (tx r) || (ms.map tx).any (fun m => Txt.startswith (tx r) (m ++ "."))) = belowB ms r := by
      rw [List.contains_eq_any_beq, List.any_map, List.any_map]
      have : ∀ (l : List (List Str)) (p q : List Str → Bool), (l.any p || l.any q) = l.any fun x => p x || q x := by
        intro l p q
        induction l with
        | nil => rfl
        | cons a b ih => simp only [List.any_cons]; rw [← ih]; cases p a <;> cases q a <;> simp
      rw [this]
      refine any_congr fun x hx => ?_
      have := all_of (all_of f_pre_m hr) (hm x hx)
      have := beq_iff_eq.mp this
      rw [← this]
      simp only [Function.comp]
      congr 1
    rw [h1, h2, h3]
  unfold ign ansI; rw [e]

theorem ans_d {mo : Str} (hm : ∀ x ∈ ms, x ∈ mRows) (hd : ∀ x ∈ ds, x ∈ dRows) (hr : r ∈ dRows) (hmo : ∀ x ∈ mRows, tx x ≠ mo ∧ Txt.startswith mo (tx x ++ ".") = false) : ign (ms.map tx) (ds.map tx) (some (tx r ++ "/f.py")) mo = ansI (ms ++ ds) r := by
  have e : ignB (ms.map tx) (ds.map tx) (some (tx r ++ "/f.py")) mo = belowB (ms ++ ds) r := by
    rw [below_append]
    show ((ms.map tx).contains mo || (ms.map tx).any (fun m => Txt.startswith mo (m ++ ".")) || (ds.map tx).any fun d => Txt.startswith (tx r ++ "/f.py") (d ++ "/")) = _
    have h1 : (ms.map tx).contains mo = false := by
      rw [List.contains_eq_any_beq, List.any_map]
      refine any_false fun x hx => ?_
      have := (hmo x (hm x hx)).1
      simp only [Function.comp, beq_eq_false_iff_ne]
      exact fun q => this q.symm
    have h2 : (ms.map tx).any (fun m => Txt.startswith mo (m ++ ".")) = false := by
      rw [List.any_map]
      exact any_false fun x hx => (hmo x (hm x hx)).2
    have h3 : belowB ms r = false := any_false fun x hx => (cross_md (hm x hx) hr).2
    have h4 : (ds.map tx).any (fun d => Txt.startswith (tx r ++ "/f.py") (d ++ "/")) = belowB ds r := by
      rw [List.any_map]
      refine any_congr fun x hx => ?_
      exact beq_iff_eq.mp (all_of (all_of f_pre_d hr) (hd x hx))
    rw [h1, h2, h3, h4]; rfl
  unfold ign ansI; rw [e]

theorem fN_ok {n : Nat} (hn : n < 40) {p : Str} (hp : p = "f" ∨ p = "g") : ∀ x ∈ mRows, tx x ≠ fN p n ∧ Txt.startswith (fN p n) (tx x ++ ".") = false := by
  intro x hx
  have := all_of (all_of n_mod (List.mem_range.mpr hn)) hx
  have := all_of this (x := p) (by rcases hp with rfl | rfl <;> simp)
  rw [Bool.and_eq_true] at this
  exact ⟨by simpa using this.1, by simpa using this.2⟩
theorem h_ok : ∀ x ∈ mRows, tx x ≠ "h" ∧ Txt.startswith "h" (tx x ++ ".") = false ∧ tx x ≠ "<string>" := by
  intro x hx
  have := all_of n_h hx
  rw [Bool.and_eq_true, Bool.and_eq_true] at this
  exact ⟨by simpa using this.1.1, by simpa using this.1.2, by simpa using this.2⟩
end

/-- what is known of the answers kept -/
structure CaI (Ls : List (List Str)) (N N' : Nat) (H : Bool) (g : Str → Option Int) : Prop where
  mod : ∀ r ∈ mRows, g (tx r) = none ∨ g (tx r) = some (ansI Ls r)
  f : ∀ n, N ≤ n → n < 40 → g (fN "f" n) = none
  g' : ∀ n, N' ≤ n → n < 40 → g (fN "g" n) = none
  h : H = false → g "h" = none

theorem CaI.start {Ls : List (List Str)} : CaI Ls 0 0 false (fun k => if k = "<string>" then some 1 else none) where
  mod := fun r hr => .inl (if_neg (h_ok r hr).2.2)
  f := fun n _ hn => by
    have := all_of n_other (List.mem_range.mpr hn)
    simp only [Bool.and_eq_true, decide_eq_true_eq] at this
    exact if_neg this.1.1.1.2
  g' := fun n _ hn => by
    have := all_of n_other (List.mem_range.mpr hn)
    simp only [Bool.and_eq_true, decide_eq_true_eq] at this
    exact if_neg this.1.1.2
  h := fun _ => by decide +kernel

theorem CaI.addF {Ls : List (List Str)} {N N' : Nat} {H : Bool} {g : Str → Option Int} {a : Int} (h : CaI Ls N N' H g) (hN : N < 40) : CaI Ls (N + 1) N' H (fun k => if k = fN "f" N then some a else g k) where
  mod := fun r hr => by
    show (if tx r = fN "f" N then some a else g (tx r)) = none ∨ _
    rw [if_neg (fN_ok hN (.inl rfl) r hr).1]; exact h.mod r hr
  f := fun n hn hn40 => by
    have := all_of (all_of n_inj (List.mem_range.mpr hn40)) (List.mem_range.mpr hN)
    simp only [Bool.and_eq_true, Bool.or_eq_true, decide_eq_true_eq] at this
    have hne : fN "f" n ≠ fN "f" N := by rcases this.2 with h | h; lia; exact h.1
    show (if _ then _ else _) = _
    rw [if_neg hne]; exact h.f n (by lia) hn40
  g' := fun n hn hn40 => by
    have := all_of (all_of n_inj (List.mem_range.mpr hN)) (List.mem_range.mpr hn40)
    simp only [Bool.and_eq_true, decide_eq_true_eq] at this
    show (if _ then _ else _) = _
    rw [if_neg (Ne.symm this.1)]; exact h.g' n hn hn40
  h := fun hH => by
    have := all_of n_other (List.mem_range.mpr hN)
    simp only [Bool.and_eq_true, decide_eq_true_eq] at this
    show (if _ then _ else _) = _
    rw [if_neg (Ne.symm this.1.1.1.1.1)]; exact h.h hH

theorem CaI.addG {Ls : List (List Str)} {N N' : Nat} {H : Bool} {g : Str → Option Int} {a : Int} (h : CaI Ls N N' H g) (hN : N' < 40) : CaI Ls N (N' + 1) H (fun k => if k = fN "g" N' then some a else g k) where
  mod := fun r hr => by
    show (if tx r = fN "g" N' then some a else g (tx r)) = none ∨ _
    rw [if_neg (fN_ok hN (.inr rfl) r hr).1]; exact h.mod r hr
  f := fun n hn hn40 => by
    have := all_of (all_of n_inj (List.mem_range.mpr hn40)) (List.mem_range.mpr hN)
    simp only [Bool.and_eq_true, decide_eq_true_eq] at this
    show (if _ then _ else _) = _
    rw [if_neg this.1]; exact h.f n hn hn40
  g' := fun n hn hn40 => by
    have := all_of (all_of n_inj (List.mem_range.mpr hn40)) (List.mem_range.mpr hN)
    simp only [Bool.and_eq_true, Bool.or_eq_true, decide_eq_true_eq] at this
    have hne : fN "g" n ≠ fN "g" N' := by rcases this.2 with h | h; lia; exact h.2
    show (if _ then _ else _) = _
    rw [if_neg hne]; exact h.g' n (by lia) hn40
  h := fun hH => by
    have := all_of n_other (List.mem_range.mpr hN)
    simp only [Bool.and_eq_true, decide_eq_true_eq] at this
    show (if _ then _ else _) = _
    rw [if_neg (Ne.symm this.1.1.1.1.2)]; exact h.h hH

theorem CaI.addM {Ls : List (List Str)} {N N' : Nat} {H : Bool} {g : Str → Option Int} (h : CaI Ls N N' H g) {r : List Str} (hr : r ∈ mRows) : CaI Ls N N' H (fun k => if k = tx r then some (ansI Ls r) else g k) where
  mod := fun r' hr' => by
    show (if tx r' = tx r then _ else _) = none ∨ _
    by_cases e : tx r' = tx r
    · have := all_of (all_of f_inj (List.mem_append_left dRows hr')) (List.mem_append_left dRows hr)
      have e' : r' = r := (decide_eq_true_eq.mp this) e
      rw [if_pos e, e']; exact .inr rfl
    · rw [if_neg e]; exact h.mod r' hr'
  f := fun n hn hn40 => by
    show (if _ then _ else _) = _
    rw [if_neg (Ne.symm (fN_ok hn40 (.inl rfl) r hr).1)]; exact h.f n hn hn40
  g' := fun n hn hn40 => by
    show (if _ then _ else _) = _
    rw [if_neg (Ne.symm (fN_ok hn40 (.inr rfl) r hr).1)]; exact h.g' n hn hn40
  h := fun hH => by
    show (if _ then _ else _) = _
    rw [if_neg (Ne.symm (h_ok r hr).1)]; exact h.h hH

theorem CaI.more {Ls : List (List Str)} {N N1 N' N1' : Nat} {H : Bool} {g : Str → Option Int} (h : CaI Ls N N' H g) (h1 : N ≤ N1) (h2 : N' ≤ N1') : CaI Ls N1 N1' H g :=
  ⟨h.mod, fun n hn => h.f n (by lia), fun n hn => h.g' n (by lia), h.h⟩
end Mine

namespace Mine

theorem kLt_iff (a b : Int × Str) : kLt a b = true ↔ a.1 < b.1 ∨ (a.1 = b.1 ∧ a.2.cps.toList < b.2.cps.toList) := by
  unfold kLt keyLt; simp
theorem kLt_irr (a : Int × Str) : kLt a a = false := by
  rw [Bool.eq_false_iff, Ne, kLt_iff]
  rintro (h | ⟨_, h⟩)
  · lia
  · exact List.lt_irrefl _ h
theorem kLt_trans {a b c : Int × Str} (h1 : kLt a b = true) (h2 : kLt b c = true) : kLt a c = true := by
  rw [kLt_iff] at *
  rcases h1 with h1 | ⟨h1, h1'⟩ <;> rcases h2 with h2 | ⟨h2, h2'⟩
  · exact .inl (by lia)
  · exact .inl (by lia)
  · exact .inl (by lia)
  · exact .inr ⟨by lia, List.lt_trans h1' h2'⟩
theorem kLt_tri (a b : Int × Str) : kLt a b = true ∨ a = b ∨ kLt b a = true := by
  rw [kLt_iff, kLt_iff]
  by_cases h1 : a.1 < b.1
  · exact .inl (.inl h1)
  by_cases h2 : b.1 < a.1
  · exact .inr (.inr (.inl h2))
  have h3 : a.1 = b.1 := by lia
  by_cases h4 : a.2.cps.toList < b.2.cps.toList
  · exact .inl (.inr ⟨h3, h4⟩)
  by_cases h5 : b.2.cps.toList < a.2.cps.toList
  · exact .inr (.inr (.inr ⟨h3.symm, h5⟩))
  have h6 : a.2.cps.toList = b.2.cps.toList := List.le_antisymm (List.not_lt.mp h5) (List.not_lt.mp h4)
  refine .inr (.inl ?_)
  obtain ⟨a1, ⟨a2⟩⟩ := a
  obtain ⟨b1, ⟨b2⟩⟩ := b
  simp only at h3 h6
  rw [h3, Array.toList_inj.mp h6]
theorem kLt_asy {a b : Int × Str} (h : kLt a b = true) : kLt b a = false := by
  cases e : kLt b a with
  | false => rfl
  | true => have := kLt_trans h e; rw [kLt_irr] at this; cases this
theorem kLt_le {a b : Int × Str} (h : kLt b a = false) : kLt a b = true ∨ a = b := by
  rcases kLt_tri a b with h1 | h1 | h1
  · exact .inl h1
  · exact .inr h1
  · rw [h] at h1; cases h1
theorem kOrd : Ord' kLt where
  tr := fun a b c h1 h2 => by
    rcases kLt_le h1 with h1 | rfl
    · rcases kLt_le h2 with h2 | rfl
      · exact kLt_asy (kLt_trans h1 h2)
      · exact kLt_asy h1
    · exact h2
  asy := fun a b h => kLt_asy h

theorem sorted_unique : ∀ {l l' : List (Int × Str)}, l.Perm l' → l.Pairwise (fun a b => kLt a b = true) → l'.Pairwise (fun a b => kLt a b = true) → l = l'
  | [], l', hp, _, _ => by have := hp.length_eq; exact (List.eq_nil_of_length_eq_zero this.symm).symm
  | a :: l, [], hp, _, _ => by have := hp.length_eq; simp at this
  | a :: l, b :: l', hp, h1, h2 => by
    rw [List.pairwise_cons] at h1 h2
    have hab : a = b := by
      rcases List.mem_cons.mp (hp.mem_iff.mp (.head _) : a ∈ b :: l') with e | e
      · exact e
      · rcases List.mem_cons.mp (hp.mem_iff.mpr (.head _) : b ∈ a :: l) with e' | e'
        · exact e'.symm
        · have x := h1.1 b e'
          have y := h2.1 a e
          rw [kLt_asy x] at y; cases y
    subst hab
    rw [sorted_unique ((List.perm_cons a).mp hp) h1.2 h2.2]

theorem perm_map_inv {α β : Type} (f : α → β) : ∀ {ks : List β} {l : List α}, ks.Perm (l.map f) → ∃ l' : List α, l'.Perm l ∧ ks = l'.map f := by
  have key : ∀ {ks ks' : List β}, ks.Perm ks' → ∀ l : List α, ks' = l.map f → ∃ l' : List α, l'.Perm l ∧ ks = l'.map f := by
    intro ks ks' hp
    induction hp with
    | nil => intro l h; have : l = [] := by simpa using h.symm
             subst this; exact ⟨[], .refl _, rfl⟩
    | cons x _ ih =>
      intro l h
      cases l with
      | nil => simp at h
      | cons a l =>
        simp only [List.map_cons, List.cons.injEq] at h
        obtain ⟨l', h1, h2⟩ := ih l h.2
        exact ⟨a :: l', h1.cons a, by rw [List.map_cons, ← h2, h.1]⟩
    | swap x y z =>
      intro l h
      match l, h with
      | a :: b :: l, h =>
        simp only [List.map_cons, List.cons.injEq] at h
        exact ⟨b :: a :: l, List.Perm.swap _ _ _, by rw [List.map_cons, List.map_cons, h.1, h.2.1, h.2.2]⟩
    | trans _ _ ih1 ih2 =>
      intro l h
      obtain ⟨l1, a1, a2⟩ := ih2 l h
      obtain ⟨l2, b1, b2⟩ := ih1 l1 a2
      exact ⟨l2, b1.trans a1, b2⟩
  intro ks l hp
  exact key hp l rfl

/-- what stands between the parts, and the two parts -/
noncomputable def markOf (r : List Str) : Str := if Txt.item (tx r) 0 = "/" then "/" else "."
noncomputable def oneOf (r : List Str) : Str := if Txt.item (tx r) 0 = "/" then "x" else "a"
noncomputable def otherOf (r : List Str) : Str := if Txt.item (tx r) 0 = "/" then "xy" else "ab"
noncomputable def growB (r : List Str) : Bool := decide ((Txt.split (tx r) (markOf r)).length < 3)
theorem f_grow : allRows.all (fun r => !growB r || (allRows.contains (r ++ [oneOf r]) && allRows.contains (r ++ [otherOf r]) && decide (tx (r ++ [oneOf r]) = tx r ++ markOf r ++ oneOf r) && decide (tx (r ++ [otherOf r]) = tx r ++ markOf r ++ otherOf r) && decide (r.length < 3))) = true := by decide +kernel
theorem f_part : allRows.all (fun r => (["a", "ab", "x", "xy"] : List Str).contains (oneOf r) && (["a", "ab", "x", "xy"] : List Str).contains (otherOf r)) = true := by decide +kernel

noncomputable def expand (Ls : List (List Str)) : Nat → List Str → List (List Str)
  | 0, r => [r]
  | n + 1, r => if belowB Ls r || !growB r then [r] else r :: (expand Ls n (r ++ [oneOf r]) ++ expand Ls n (r ++ [otherOf r]))
noncomputable def expR (Ls : List (List Str)) (r : List Str) : List (List Str) := expand Ls (3 - r.length) r
theorem grow_all {r : List Str} (hr : r ∈ allRows) (hg : growB r = true) : r ++ [oneOf r] ∈ allRows ∧ r ++ [otherOf r] ∈ allRows ∧ tx (r ++ [oneOf r]) = tx r ++ markOf r ++ oneOf r ∧ tx (r ++ [otherOf r]) = tx r ++ markOf r ++ otherOf r ∧ r.length < 3 := by
  have := all_of f_grow hr
  rw [hg] at this
  simp only [Bool.not_true, Bool.false_or, Bool.and_eq_true, decide_eq_true_eq, List.contains_iff_mem] at this
  obtain ⟨⟨⟨⟨h1, h2⟩, h3⟩, h4⟩, h5⟩ := this
  exact ⟨h1, h2, h3, h4, h5⟩
theorem expR_stop {Ls : List (List Str)} {r : List Str} (h : (belowB Ls r || !growB r) = true) : expR Ls r = [r] := by
  unfold expR
  cases 3 - r.length with
  | zero => rfl
  | succ n => rw [expand, if_pos h]
theorem expR_go {Ls : List (List Str)} {r : List Str} (hr : r ∈ allRows) (hb : belowB Ls r = false) (hg : growB r = true) : expR Ls r = r :: (expR Ls (r ++ [oneOf r]) ++ expR Ls (r ++ [otherOf r])) := by
  have hl := (grow_all hr hg).2.2.2.2
  unfold expR
  have e : 3 - r.length = (3 - (r.length + 1)) + 1 := by lia
  rw [e, expand, if_neg (by rw [hb, hg]; decide)]
  simp only [List.length_append, List.length_singleton]

section
variable {pr : Str → Int} {Ls : List (List Str)}
noncomputable def cost (pr : Str → Int) (r : List Str) : Int := (r.map pr).sum
noncomputable def key (pr : Str → Int) (r : List Str) : Int × Str := (cost pr r, tx r)
theorem cost_snoc (r : List Str) (p : Str) : cost pr (r ++ [p]) = cost pr r + pr p := by simp [cost]
theorem key_inj {r r' : List Str} (h : r ∈ allRows) (h' : r' ∈ allRows) (e : key pr r = key pr r') : r = r' := by
  have := all_of (all_of f_inj h) h'
  exact (decide_eq_true_eq.mp this) (congrArg Prod.snd e)
theorem part_pos (hp : ∀ p ∈ (["a", "ab", "x", "xy"] : List Str), 0 < pr p) {r : List Str} (hr : r ∈ allRows) : 0 < pr (oneOf r) ∧ 0 < pr (otherOf r) := by
  have := all_of f_part hr
  rw [Bool.and_eq_true, List.contains_iff_mem, List.contains_iff_mem] at this
  exact ⟨hp _ this.1, hp _ this.2⟩

theorem expand_ok (hp : ∀ p ∈ (["a", "ab", "x", "xy"] : List Str), 0 < pr p) : ∀ (n : Nat) (r : List Str), r ∈ allRows → ∀ e ∈ expand Ls n r, e ∈ allRows ∧ (e = r ∨ cost pr r < cost pr e) := by
  intro n
  induction n with
  | zero => intro r hr e he; rw [expand, List.mem_singleton] at he; subst he; exact ⟨hr, .inl rfl⟩
  | succ n ih =>
    intro r hr e he
    rw [expand] at he
    split at he
    · rw [List.mem_singleton] at he; subst he; exact ⟨hr, .inl rfl⟩
    · rename_i hc
      have hg : growB r = true := by
        cases h : growB r with
        | true => rfl
        | false => rw [h] at hc; simp at hc
      obtain ⟨g1, g2, _⟩ := grow_all hr hg
      have hpp := part_pos hp hr
      rcases List.mem_cons.mp he with rfl | he
      · exact ⟨hr, .inl rfl⟩
      · rcases List.mem_append.mp he with he | he
        · obtain ⟨a, b⟩ := ih _ g1 e he
          refine ⟨a, .inr ?_⟩
          have := cost_snoc (pr := pr) r (oneOf r)
          rcases b with rfl | b <;> lia
        · obtain ⟨a, b⟩ := ih _ g2 e he
          refine ⟨a, .inr ?_⟩
          have := cost_snoc (pr := pr) r (otherOf r)
          rcases b with rfl | b <;> lia

/-- the walk's state -/
structure WI (pr : Str → Int) (Ls : List (List Str)) (Vis T H : List (List Str)) : Prop where
  rows : ∀ r ∈ H, r ∈ allRows
  perm : (T ++ H.flatMap (expR Ls)).Perm Vis
  srt : (T.map (key pr)).Pairwise (fun a b => kLt a b = true)
  low : ∀ t ∈ T, ∀ e ∈ H.flatMap (expR Ls), kLt (key pr t) (key pr e) = true

theorem WI.permH {Vis T H H' : List (List Str)} (h : WI pr Ls Vis T H) (hp : H'.Perm H) : WI pr Ls Vis T H' where
  rows := fun r hr => h.rows r (hp.mem_iff.mp hr)
  perm := (List.Perm.append_left T (List.Perm.flatMap_right _ hp)).trans h.perm
  srt := h.srt
  low := fun t ht e he => h.low t ht e ((List.Perm.flatMap_right _ hp).mem_iff.mp he)

theorem WI.step (hp : ∀ p ∈ (["a", "ab", "x", "xy"] : List Str), 0 < pr p) {Vis T H : List (List Str)} {r : List Str} (hnd : Vis.Nodup) (h : WI pr Ls Vis T (r :: H)) (hmin : ∀ q ∈ r :: H, kLt (key pr q) (key pr r) = false) :
    WI pr Ls Vis (T ++ [r]) ((if belowB Ls r || !growB r then [] else [r ++ [oneOf r], r ++ [otherOf r]]) ++ H) := by
  have hr := h.rows r (.head _)
  obtain ⟨rest, hrest⟩ : ∃ rest, expR Ls r = r :: rest ∧ rest = (if belowB Ls r || !growB r then [] else [r ++ [oneOf r], r ++ [otherOf r]]).flatMap (expR Ls) := by
    cases hc : (belowB Ls r || !growB r) with
    | true => exact ⟨[], expR_stop hc, by simp⟩
    | false =>
      rw [Bool.or_eq_false_iff] at hc
      exact ⟨_, expR_go hr hc.1 (by simpa using hc.2), by simp⟩
  have hall : ∀ e ∈ (r :: H).flatMap (expR Ls), e ∈ allRows ∧ (kLt (key pr e) (key pr r) = false) := by
    intro e he
    obtain ⟨q, hq, heq⟩ := List.mem_flatMap.mp he
    obtain ⟨a, b⟩ := expand_ok (Ls := Ls) hp _ q (h.rows q hq) e heq
    refine ⟨a, ?_⟩
    rcases b with rfl | b
    · exact hmin _ hq
    · have h1 := hmin q hq
      have h2 : kLt (key pr q) (key pr e) = true := (kLt_iff _ _).mpr (.inl b)
      exact kOrd.tr _ _ _ h1 (kLt_asy h2)
  have hperm : (T ++ [r] ++ ((if belowB Ls r || !growB r then [] else [r ++ [oneOf r], r ++ [otherOf r]]) ++ H).flatMap (expR Ls)).Perm Vis := by
    refine List.Perm.trans ?_ h.perm
    rw [List.flatMap_append, ← hrest.2, List.flatMap_cons, hrest.1, List.append_assoc]
    exact .refl _
  have hne : ∀ e ∈ ((if belowB Ls r || !growB r then [] else [r ++ [oneOf r], r ++ [otherOf r]]) ++ H).flatMap (expR Ls), e ≠ r := by
    intro e he e'
    subst e'
    have nd := hperm.nodup_iff.mpr hnd
    rw [List.append_assoc, List.nodup_append] at nd
    have nd2 := nd.2.1
    rw [List.singleton_append, List.nodup_cons] at nd2
    exact nd2.1 he
  have hmem : ∀ e ∈ ((if belowB Ls r || !growB r then [] else [r ++ [oneOf r], r ++ [otherOf r]]) ++ H).flatMap (expR Ls), e ∈ (r :: H).flatMap (expR Ls) := by
    intro e he
    rw [List.flatMap_append, ← hrest.2] at he
    rw [List.flatMap_cons, hrest.1]
    exact List.mem_append.mpr ((List.mem_append.mp he).imp (fun h => .tail _ h) id)
  have hlt : ∀ e ∈ ((if belowB Ls r || !growB r then [] else [r ++ [oneOf r], r ++ [otherOf r]]) ++ H).flatMap (expR Ls), kLt (key pr r) (key pr e) = true := by
    intro e he
    obtain ⟨a, b⟩ := hall e (hmem e he)
    rcases kLt_le b with b | b
    · exact b
    · exact absurd (key_inj hr a b).symm (hne e he)
  refine ⟨?_, hperm, ?_, ?_⟩
  · intro q hq
    rcases List.mem_append.mp hq with hq | hq
    · split at hq
      · simp at hq
      · rename_i hc
        have hg : growB r = true := by
          cases h : growB r with
          | true => rfl
          | false => rw [h] at hc; simp at hc
        obtain ⟨g1, g2, _⟩ := grow_all hr hg
        simp only [List.mem_cons, List.not_mem_nil, or_false] at hq
        rcases hq with rfl | rfl
        · exact g1
        · exact g2
    · exact h.rows q (.tail _ hq)
  · rw [List.map_append, List.pairwise_append]
    refine ⟨h.srt, by simp, ?_⟩
    intro a ha b hb
    simp only [List.map_cons, List.map_nil, List.mem_singleton] at hb
    subst hb
    obtain ⟨t, ht, rfl⟩ := List.mem_map.mp ha
    exact h.low t ht r (by rw [List.flatMap_cons, hrest.1]; exact .head _)
  · intro t ht e he
    rcases List.mem_append.mp ht with ht | ht
    · exact h.low t ht e (hmem e he)
    · rw [List.mem_singleton] at ht; subst ht; exact hlt e he
end
end Mine

namespace Mine
/-- no shorter beginning is on the list -/
noncomputable def noProp (Ls : List (List Str)) (r : List Str) : Bool := (List.range' 1 (r.length - 1)).all fun k => !Ls.contains (r.take k)
noncomputable def visOf (Ls : List (List Str)) : List (List Str) := allRows.filter (noProp Ls)

section
variable {Ls : List (List Str)}
theorem noProp_snoc {r : List Str} (hr : r ≠ []) (p : Str) : noProp Ls (r ++ [p]) = (noProp Ls r && !Ls.contains r) := by
  unfold noProp
  obtain ⟨n, hn⟩ : ∃ n, r.length = n + 1 := ⟨r.length - 1, by have := List.length_pos_iff.mpr hr; lia⟩
  rw [List.length_append, List.length_singleton, hn]
  have e : n + 1 + 1 - 1 = n + 1 := rfl
  have e2 : n + 1 - 1 = n := rfl
  rw [e, e2, List.range'_concat, List.all_append]
  congr 1
  · apply Bool.eq_iff_iff.mpr
    rw [List.all_eq_true, List.all_eq_true]
    refine forall_congr' fun k => ?_
    refine imp_congr_right fun hk => ?_
    have : k ≤ r.length := by have := List.mem_range'_1.mp hk; lia
    rw [List.take_append_of_le_length this]
  · have : (r ++ [p]).take (1 + 1 * n) = r := by
      have : 1 + 1 * n = r.length := by lia
      rw [this]; simp
    rw [List.all_cons, List.all_nil, this, Bool.and_true]

theorem below_iff (h0 : [] ∉ Ls) {r : List Str} : belowB Ls r = true ↔ ∃ k, 1 ≤ k ∧ k ≤ r.length ∧ r.take k ∈ Ls := by
  unfold belowB
  rw [List.any_eq_true]
  constructor
  · rintro ⟨q, hq, hp⟩
    have hp := List.isPrefixOf_iff_prefix.mp hp
    have e := List.prefix_iff_eq_take.mp hp
    refine ⟨q.length, ?_, hp.length_le, by rw [← e]; exact hq⟩
    rcases Nat.eq_zero_or_pos q.length with h | h
    · exact absurd (List.eq_nil_of_length_eq_zero h ▸ hq) h0
    · exact h
  · rintro ⟨k, h1, h2, h3⟩
    exact ⟨_, h3, List.isPrefixOf_iff_prefix.mpr (List.take_prefix k r)⟩
theorem noProp_iff {r : List Str} : noProp Ls r = true ↔ ∀ k, 1 ≤ k → k < r.length → r.take k ∉ Ls := by
  unfold noProp
  rw [List.all_eq_true]
  constructor
  · intro h k h1 h2 h3
    have := h k (List.mem_range'_1.mpr ⟨h1, by lia⟩)
    simp [h3] at this
  · intro h k hk
    have := List.mem_range'_1.mp hk
    have := h k this.1 (by lia)
    simp [this]
theorem below_noProp (h0 : [] ∉ Ls) {r : List Str} (hr : r ≠ []) : belowB Ls r = !(noProp Ls r && !Ls.contains r) := by
  have hl := List.length_pos_iff.mpr hr
  apply Bool.eq_iff_iff.mpr
  rw [below_iff h0]
  constructor
  · rintro ⟨k, h1, h2, h3⟩
    by_cases e : k = r.length
    · subst e
      rw [List.take_length] at h3
      simp [h3]
    · have : noProp Ls r = false := by
        cases h : noProp Ls r with
        | false => rfl
        | true => exact absurd h3 (noProp_iff.mp h k h1 (by lia))
      rw [this]; rfl
  · intro h
    by_cases hc : r ∈ Ls
    · exact ⟨r.length, hl, Nat.le_refl _, by rw [List.take_length]; exact hc⟩
    · have hn : noProp Ls r = false := by
        cases h' : noProp Ls r with
        | false => rfl
        | true => rw [h'] at h; simp [hc] at h
      have : ¬ ∀ k, 1 ≤ k → k < r.length → r.take k ∉ Ls := fun hh => by rw [noProp_iff.mpr hh] at hn; cases hn
      have ⟨k, hk⟩ := Classical.not_forall.mp this
      have ⟨h1, hk⟩ := Classical.not_imp.mp hk
      have ⟨h2, hk⟩ := Classical.not_imp.mp hk
      exact ⟨k, h1, by lia, Classical.not_not.mp hk⟩

noncomputable def sub : Nat → List Str → List (List Str)
  | 0, r => [r]
  | n + 1, r => if growB r then r :: (sub n (r ++ [oneOf r]) ++ sub n (r ++ [otherOf r])) else [r]
theorem sub_filter (h0 : [] ∉ Ls) : ∀ (n : Nat) (r : List Str), r ≠ [] → (sub n r).filter (noProp Ls) = if noProp Ls r then expand Ls n r else [] := by
  intro n
  induction n with
  | zero => intro r hr; rw [sub, expand]; cases h : noProp Ls r <;> simp [h]
  | succ n ih =>
    intro r hr
    rw [sub, expand]
    have hb := below_noProp h0 hr
    have k1 := noProp_snoc (Ls := Ls) hr (oneOf r)
    have k2 := noProp_snoc (Ls := Ls) hr (otherOf r)
    cases hg : growB r with
    | false => simp only [Bool.false_eq_true, if_false, Bool.not_false, Bool.or_true, if_true]; cases h : noProp Ls r <;> simp [h]
    | true =>
      simp only [if_true, Bool.not_true, Bool.or_false]
      rw [List.filter_cons, List.filter_append, ih _ (by simp), ih _ (by simp), k1, k2]
      cases h : noProp Ls r with
      | false => simp
      | true =>
        rw [h] at hb
        cases hc : Ls.contains r with
        | true => rw [hc] at hb; rw [hb]; simp
        | false => rw [hc] at hb; rw [hb]; simp

noncomputable def roots : List (List Str) := [["ab"], ["x"], ["a"], ["xy"]]
theorem f_sub : allRows.isPerm (roots.flatMap (sub 2)) = true := by decide +kernel
theorem f_nodup : allRows.Nodup := by decide +kernel
theorem f_nonnil : allRows.all (fun r => decide (r ≠ [])) = true := by decide +kernel
theorem vis_nodup : (visOf Ls).Nodup := f_nodup.filter _
theorem nil_not (hL : ∀ r ∈ Ls, r ∈ allRows) : [] ∉ Ls := fun h => by
  have := all_of f_nonnil (hL _ h)
  exact (decide_eq_true_eq.mp this) rfl
theorem vis_start {pr : Str → Int} (hL : ∀ r ∈ Ls, r ∈ allRows) : WI pr Ls (visOf Ls) [] roots where
  rows := by decide +kernel
  perm := by
    rw [List.nil_append]
    have h0 := nil_not hL
    have e : roots.flatMap (expR Ls) = (roots.flatMap (sub 2)).filter (noProp Ls) := by
      have e1 : ∀ r : List Str, r.length = 1 → expR Ls r = (sub 2 r).filter (noProp Ls) := by
        intro r hr
        rw [sub_filter h0 2 r (by intro e; rw [e] at hr; simp at hr)]
        have : noProp Ls r = true := by unfold noProp; rw [hr]; rfl
        rw [this, if_pos rfl]
        unfold expR; rw [hr]
      unfold roots
      simp only [List.flatMap_cons, List.flatMap_nil, List.filter_append, List.append_nil]
      rw [e1 _ rfl, e1 _ rfl, e1 _ rfl, e1 _ rfl]
    rw [e]
    exact ((List.isPerm_iff.mp f_sub).symm).filter _
  srt := .nil
  low := fun t ht => by simp at ht

theorem vis_ans (hL : ∀ r ∈ Ls, r ∈ allRows) {r : List Str} (hr : r ∈ visOf Ls) : belowB Ls r = Ls.contains r := by
  have ⟨h1, h2⟩ := List.mem_filter.mp hr
  have := below_noProp (nil_not hL) (decide_eq_true_eq.mp (all_of f_nonnil h1))
  rw [this, h2]; simp

theorem least {P : Nat → Prop} : ∀ n, P n → ∃ k, k ≤ n ∧ P k ∧ ∀ j, j < k → ¬ P j := by
  intro n
  induction n using Nat.strongRecOn with
  | _ n ih =>
    intro h
    by_cases hx : ∃ j, j < n ∧ P j
    · obtain ⟨j, hj, hP⟩ := hx
      obtain ⟨k, a, b, c⟩ := ih j hj hP
      exact ⟨k, by lia, b, c⟩
    · exact ⟨n, Nat.le_refl _, h, fun j hj hP => hx ⟨j, hj, hP⟩⟩

/-- the least rows on the list tell the same -/
theorem below_least (hL : ∀ r ∈ Ls, r ∈ allRows) {L2 : List (List Str)} (h2 : ∀ r, r ∈ L2 ↔ r ∈ visOf Ls ∧ r ∈ Ls) (r : List Str) : belowB L2 r = belowB Ls r := by
  have h0 := nil_not hL
  have h02 : [] ∉ L2 := fun h => h0 ((h2 _).mp h).2
  apply Bool.eq_iff_iff.mpr
  rw [below_iff h0, below_iff h02]
  constructor
  · rintro ⟨k, a, b, d⟩; exact ⟨k, a, b, ((h2 _).mp d).2⟩
  · rintro ⟨k, a, b, d⟩
    obtain ⟨j, hj, hP, hmin⟩ := least (P := fun k => 1 ≤ k ∧ r.take k ∈ Ls) k ⟨a, d⟩
    refine ⟨j, hP.1, by lia, (h2 _).mpr ⟨List.mem_filter.mpr ⟨hL _ hP.2, noProp_iff.mpr fun i h1 h2 h3 => ?_⟩, hP.2⟩⟩
    have hl : (r.take j).length = j := by rw [List.length_take]; lia
    rw [List.take_take] at h3
    rw [hl] at h2
    rw [Nat.min_eq_left (by lia)] at h3
    exact hmin i h2 ⟨h1, h3⟩
end
end Mine

namespace Mine
theorem f_ok : allRows.all (fun r => PyData.strOk (tx r)) = true := by decide +kernel

section
variable {c : Cx} {F : List (Addr × Obj)} {M M' : Led} {s : Shared} {A : Around} {E : Value → Shared → Prop} {Q : Value → Shared → Prop} {x : Str} {xs : List Str} {env : Env} {pos : Pos} {v : Value} {t u : Tok} {m : Str → Option Value}

/-- data to be read from the frozen objects -/
noncomputable def RdF (F : List (Addr × Obj)) (v : Value) (d : PyData) : Prop := ∀ h : Heap, (∀ p ∈ F, h.get? p.1 = some p.2) → ∃ as, Reads h v d as
noncomputable def RdA (F : List (Addr × Obj)) (vs : List Value) (ds : List PyData) : Prop := ∀ h : Heap, (∀ p ∈ F, h.get? p.1 = some p.2) → ∃ as, ReadsAll h vs ds as
theorem RdF.mono {F' : List (Addr × Obj)} {d : PyData} (h : RdF F v d) (hf : ∀ p ∈ F, p ∈ F') : RdF F' v d := fun hp hh => h hp fun p hpF => hh p (hf p hpF)
theorem RdA.mono {F' : List (Addr × Obj)} {vs : List Value} {ds : List PyData} (h : RdA F vs ds) (hf : ∀ p ∈ F, p ∈ F') : RdA F' vs ds := fun hp hh => h hp fun p hpF => hh p (hf p hpF)
theorem RdA.nil : RdA F [] [] := fun h _ => ⟨_, .nil⟩
theorem RdA.cons {vs : List Value} {d : PyData} {ds : List PyData} (h1 : RdF F v d) (h2 : RdA F vs ds) : RdA F (v :: vs) (d :: ds) := fun h hh =>
  let ⟨_, a⟩ := h1 h hh; let ⟨_, b⟩ := h2 h hh; ⟨_, .cons a b⟩
theorem RdA.snoc {vs : List Value} {d : PyData} {ds : List PyData} (h2 : RdA F vs ds) (h1 : RdF F v d) : RdA F (vs ++ [v]) (ds ++ [d]) := by
  intro h hh
  obtain ⟨as, a⟩ := h2 h hh
  clear h2
  induction vs generalizing ds as with
  | nil => cases a; exact RdA.cons h1 RdA.nil h hh
  | cons w vs ih =>
    cases a with
    | cons a1 a2 =>
      obtain ⟨bs, b⟩ := ih _ a2
      exact ⟨_, .cons a1 b⟩
theorem RdF.int (i : Int) (t : Tok) : RdF F (.int i t) (.int i) := fun _ _ => ⟨_, .int i t⟩
theorem RdF.str (x : Str) (t : Tok) : RdF F (.str x t) (.str x) := fun _ _ => ⟨_, .str x t⟩
theorem RdF.bool (b : Bool) : RdF F (.bool b) (.bool b) := fun _ _ => ⟨_, .bool b⟩
theorem RdF.none : RdF F .none .none := fun _ _ => ⟨_, .none⟩
theorem RdF.tup {a : Addr} {vs : List Value} {ds : List PyData} {n : Nat} (hm : (a, ({ cls := .type "tuple", data := .seq vs.toArray n } : Obj)) ∈ F) (h : RdA F vs ds) : RdF F (.ref a) (.tuple ds) := fun hp hh =>
  let ⟨_, b⟩ := h hp hh; ⟨_, .tuple (hh _ hm) rfl rfl (by simpa using b)⟩
theorem RdF.lis {a : Addr} {vs : List Value} {ds : List PyData} {n : Nat} (hm : (a, lisO vs n) ∈ F) (h : RdA F vs ds) : RdF F (.ref a) (.list ds) := fun hp hh =>
  let ⟨_, b⟩ := h hp hh; ⟨_, .list (hh _ hm) rfl rfl (by simpa using b)⟩
theorem RdA.at (hs : Is c F M s) {vs : List Value} {ds : List PyData} (h : RdA F vs ds) : ∃ as, ReadsAll s.heap vs ds as := h s.heap hs.st.fro
noncomputable def keyD (k : Int × Str) : PyData := .tuple [.int k.1, .str k.2]
theorem KeyIn.rd {v : Value} {k : Int × Str} (h : KeyIn F v k) : RdF F v (keyD k) := by
  obtain ⟨a, n, t, u, rfl, hm⟩ := h
  exact RdF.tup (vs := [.int k.1 t, .str k.2 u]) hm (.cons (.int _ _) (.cons (.str _ _) .nil))
theorem Keys.rd {vs : List Value} {ks : List (Int × Str)} (h : Keys F vs ks) : RdA F vs (ks.map keyD) := by
  induction h with
  | nil => exact .nil
  | cons hv _ ih => exact .cons hv.rd ih

theorem r_neNil {hp l : Addr} {vs : List Value} {ds : List PyData} (hs : Is c F M s) (hm : (hp, LsP vs) ∈ M) (hl : (l, LsP []) ∈ M) (hr : RdA F vs ds) (hc : PyData.canLayAll0 ds = true) (hu : A.units + 64 < cLine) (h : Q (.bool (!vs.isEmpty)) s) :
    wpAny (model c.prog c.w) A (compareOp .NotEq (.ref hp) (.ref l)) Q E s := by
  obtain ⟨o1, e1, n1, rfl⟩ := hs.get hm
  obtain ⟨o2, e2, n2, rfl⟩ := hs.get hl
  obtain ⟨as, ra⟩ := hr.at hs
  have r1 : Reads s.heap (.ref hp) (.list ds) (hp :: as) := .list e1 rfl rfl (by simpa using ra)
  have r2 : Reads s.heap (.ref l) (.list []) (l :: []) := .list e2 rfl rfl .nil
  refine SeqAt.compareNe_reads r1 r2 (by simpa [PyData.canLay0] using hc) rfl ?_ ?_
  · have : min (PyData.list ds).depth (PyData.list []).depth ≤ 1 := Nat.min_le_right _ _
    lia
  · have : PyData.eqv (.list ds) (.list []) = vs.isEmpty := by
      cases ra with
      | nil => rfl
      | cons _ _ => rfl
    rw [this]; exact h

theorem r_strI {i : Int} (hs : Is c F M s) (hi : i.natAbs.log2 < 1920) (h : ∀ t s', Is c F M s' → Q (.str (toString i) t) s') : wpAny (model c.prog c.w) A (call (.type "str") [.int i t]) Q E s := PySem.P.str_of_int hi (h _ _ (hs.toks _))
end
end Mine

namespace Mine
variable {w : World} {B : Heap} {os : OsState} {mg mb : Str → Option Value} {F : List (Addr × Obj)} {M M' : Led} {s : Shared} {A : Around} {E : Value → Shared → Prop} {Q : Value → Shared → Prop}

theorem g_answer (G : Gd (cx w B os mg mb)) : mg "_law_answer" = some (.ref 146) := mg_of G.X G.T.g (by kernel_rfl)
theorem g_heapify (G : Gd (cx w B os mg mb)) : mg "heapify" = some (.ref 111) := mg_of G.X G.T.g (by kernel_rfl)
theorem g_heapreplace (G : Gd (cx w B os mg mb)) : mg "heapreplace" = some (.ref 104) := mg_of G.X G.T.g (by kernel_rfl)
theorem g_heappush (G : Gd (cx w B os mg mb)) : mg "heappush" = some (.ref 90) := mg_of G.X G.T.g (by kernel_rfl)
theorem g_heappop (G : Gd (cx w B os mg mb)) : mg "heappop" = some (.ref 97) := mg_of G.X G.T.g (by kernel_rfl)
theorem b_int (G : Gd (cx w B os mg mb)) : mg "int" = none := mg_none_of G.X G.T.g (by kernel_rfl)
theorem bb_int : bootBuiltins "int" = some (.type "int") := by kernel_rfl

/-- what is asked of a reader over the rows ms and ds -/
structure Rdr (w : World) (B : Heap) (os : OsState) (mg mb : Str → Option Value) (F : List (Addr × Obj)) (x d : Addr) (ms ds : List (List Str)) : Prop where
  ign : Ign (cx w B os mg mb) F x d (ms.map tx) (ds.map tx)
  m : ∀ r ∈ ms, r ∈ mRows
  d : ∀ r ∈ ds, r ∈ dRows
theorem Rdr.mono {F' : List (Addr × Obj)} {x d : Addr} {ms ds : List (List Str)} (h : Rdr w B os mg mb F x d ms ds) (hf : ∀ p ∈ F, p ∈ F') : Rdr w B os mg mb F' x d ms ds := ⟨h.ign.mono hf, h.m, h.d⟩
theorem tx_len {r : List Str} (h : r ∈ allRows) : 0 < (tx r).length ∧ (tx r).length ≤ 20 := by
  have := all_of f_len h
  simpa using this
theorem Rdr.lens {x d : Addr} {ms ds : List (List Str)} (h : Rdr w B os mg mb F x d ms ds) : (∀ y ∈ ms.map tx, y.length ≤ 1000) ∧ ∀ y ∈ ds.map tx, y.length ≤ 1000 := by
  constructor
  · intro y hy
    obtain ⟨r, hr, rfl⟩ := List.mem_map.mp hy
    have := tx_len (List.mem_append_left dRows (h.m r hr)); lia
  · intro y hy
    obtain ⟨r, hr, rfl⟩ := List.mem_map.mp hy
    have := tx_len (List.mem_append_right mRows (h.d r hr)); lia

theorem dir_item {r : List Str} (h : r ∈ dRows) : Txt.item (tx r) 0 = "/" := by simpa using all_of f_dir.2 h
theorem mod_item {r : List Str} (h : r ∈ mRows) : Txt.item (tx r) 0 ≠ "/" := by simpa using all_of f_dir.1 h

/-- a reader is asked about a row, with a new name f.. -/
theorem askF_c {x d : Addr} {ms ds : List (List Str)} {r : List Str} {N N' : Nat} {H : Bool} {t u : Tok} {g : Str → Option Int} {n : Nat} {gg : (Obj → Prop) → Led} (hs : Is (cx w B os mg mb) F M s) (rm : Rm 10 A)
    (hR : Rdr w B os mg mb F x d ms ds) (hu : UpdF d (CaP (cx w B os mg mb) g n) M gg) (hn : n ≤ 900) (hg : CaI (ms ++ ds) N N' H g) (hN : N < 40) (hr : r ∈ allRows)
    (k : ∀ t s' F' g', (∀ p ∈ F, p ∈ F') → CaI (ms ++ ds) (N + 1) N' H g' → Is (cx w B os mg mb) F' (gg (CaP (cx w B os mg mb) g' (n + 1))) s' → Q (.int (ansI (ms ++ ds) r) t) s') :
    wpAny (model (cx w B os mg mb).prog w) A (call (.ref 146) [.ref x, .str (tx r) t, .str (fN "f" N) u]) Q E s := by
  have hl := hR.lens
  have htx := tx_len hr
  refine answer_c hs rm hR.ign hu hn hl.1 hl.2 htx.1 (by lia) fun t s' F' hFF hs' => ?_
  rcases List.mem_append.mp hr with hm | hd
  · have e1 : askFn (tx r) = "/f.py" := if_neg (mod_item hm)
    have e2 : askMo (tx r) (fN "f" N) = tx r := if_neg (mod_item hm)
    rw [e1, e2, ans_m hR.m hR.d hm] at hs' ⊢
    have e3 : (g (tx r)).getD (ansI (ms ++ ds) r) = ansI (ms ++ ds) r := by rcases hg.mod r hm with h | h <;> rw [h] <;> rfl
    rw [e3] at hs' ⊢
    exact k t s' F' _ hFF ((hg.addM hm).more (Nat.le_succ _) (Nat.le_refl _)) hs'
  · have e1 : askFn (tx r) = tx r ++ "/f.py" := if_pos (dir_item hd)
    have e2 : askMo (tx r) (fN "f" N) = fN "f" N := if_pos (dir_item hd)
    rw [e1, e2, ans_d hR.m hR.d hd (fN_ok hN (.inl rfl)), hg.f N (Nat.le_refl _) hN] at hs' ⊢
    exact k t s' F' _ hFF (hg.addF hN) hs'

theorem askG_c {x d : Addr} {ms ds : List (List Str)} {r : List Str} {N N' : Nat} {H : Bool} {t u : Tok} {g : Str → Option Int} {n : Nat} {gg : (Obj → Prop) → Led} (hs : Is (cx w B os mg mb) F M s) (rm : Rm 10 A)
    (hR : Rdr w B os mg mb F x d ms ds) (hu : UpdF d (CaP (cx w B os mg mb) g n) M gg) (hn : n ≤ 900) (hg : CaI (ms ++ ds) N N' H g) (hN : N' < 40) (hr : r ∈ allRows)
    (k : ∀ t s' F' g', (∀ p ∈ F, p ∈ F') → CaI (ms ++ ds) N (N' + 1) H g' → Is (cx w B os mg mb) F' (gg (CaP (cx w B os mg mb) g' (n + 1))) s' → Q (.int (ansI (ms ++ ds) r) t) s') :
    wpAny (model (cx w B os mg mb).prog w) A (call (.ref 146) [.ref x, .str (tx r) t, .str (fN "g" N') u]) Q E s := by
  have hl := hR.lens
  have htx := tx_len hr
  refine answer_c hs rm hR.ign hu hn hl.1 hl.2 htx.1 (by lia) fun t s' F' hFF hs' => ?_
  rcases List.mem_append.mp hr with hm | hd
  · have e1 : askFn (tx r) = "/f.py" := if_neg (mod_item hm)
    have e2 : askMo (tx r) (fN "g" N') = tx r := if_neg (mod_item hm)
    rw [e1, e2, ans_m hR.m hR.d hm] at hs' ⊢
    have e3 : (g (tx r)).getD (ansI (ms ++ ds) r) = ansI (ms ++ ds) r := by rcases hg.mod r hm with h | h <;> rw [h] <;> rfl
    rw [e3] at hs' ⊢
    exact k t s' F' _ hFF ((hg.addM hm).more (Nat.le_refl _) (Nat.le_succ _)) hs'
  · have e1 : askFn (tx r) = tx r ++ "/f.py" := if_pos (dir_item hd)
    have e2 : askMo (tx r) (fN "g" N') = fN "g" N' := if_pos (dir_item hd)
    rw [e1, e2, ans_d hR.m hR.d hd (fN_ok hN (.inr rfl)), hg.g' N' (Nat.le_refl _) hN] at hs' ⊢
    exact k t s' F' _ hFF (hg.addG hN) hs'

/-- what goes out, as values -/
noncomputable def TEnt (pr : Str → Int) (Ls : List (List Str)) (F : List (Addr × Obj)) (v : Value) (r : List Str) : Prop := Ex3 fun a vk t => And3 (v = .ref a) ((a, tupO [vk, .int (ansI Ls r) t, .bool true]) ∈ F) (KeyIn F vk (key pr r))
inductive Told (pr : Str → Int) (Ls : List (List Str)) (F : List (Addr × Obj)) : List Value → List (List Str) → Prop
  | nil : Told pr Ls F [] []
  | cons {v vs r rs} : TEnt pr Ls F v r → Told pr Ls F vs rs → Told pr Ls F (v :: vs) (r :: rs)
theorem Told.mono {pr : Str → Int} {Ls : List (List Str)} {F F' : List (Addr × Obj)} {vs : List Value} {rs : List (List Str)} (h : Told pr Ls F vs rs) (hf : ∀ p ∈ F, p ∈ F') : Told pr Ls F' vs rs := by
  induction h with
  | nil => exact .nil
  | cons hv _ ih => obtain ⟨a, vk, t, e, m1, m2⟩ := hv; exact .cons ⟨a, vk, t, e, hf _ m1, m2.mono hf⟩ ih
theorem Told.snoc {pr : Str → Int} {Ls : List (List Str)} {F : List (Addr × Obj)} {vs : List Value} {rs : List (List Str)} {v : Value} {r : List Str} (h : Told pr Ls F vs rs) (hv : TEnt pr Ls F v r) : Told pr Ls F (vs ++ [v]) (rs ++ [r]) := by
  induction h with
  | nil => exact .cons hv .nil
  | cons hv' _ ih => exact .cons hv' ih
theorem Told.length {pr : Str → Int} {Ls : List (List Str)} {F : List (Addr × Obj)} {vs : List Value} {rs : List (List Str)} (h : Told pr Ls F vs rs) : vs.length = rs.length := by
  induction h with
  | nil => rfl
  | cons _ _ ih => simp [ih]
theorem keys_ok {pr : Str → Int} : ∀ {H : List (List Str)}, (∀ r ∈ H, r ∈ allRows) → PyData.canLayAll0 ((H.map (key pr)).map keyD) = true
  | [], _ => rfl
  | r :: H, h => by
    have h1 : PyData.strOk (tx r) = true := all_of f_ok (h r (.head _))
    have h2 := keys_ok (pr := pr) (H := H) fun q hq => h q (.tail _ hq)
    simp only [List.map_cons, PyData.canLayAll0, keyD, PyData.canLay0, key, Bool.and_true, Bool.true_and]
    rw [h1]
    simpa using h2
theorem vis_len {Ls : List (List Str)} : (visOf Ls).length ≤ 20 := by
  have : allRows.length = 20 := by decide +kernel
  rw [← this]; exact List.length_filter_le _ _
end Mine

namespace Mine
theorem in0 {p : Addr × (Obj → Prop)} {M : Led} : p ∈ p :: M := .head _
theorem in1 {a p : Addr × (Obj → Prop)} {M : Led} : p ∈ a :: p :: M := .tail _ (.head _)
theorem in2 {a b p : Addr × (Obj → Prop)} {M : Led} : p ∈ a :: b :: p :: M := .tail _ (.tail _ (.head _))
theorem in3 {a b c p : Addr × (Obj → Prop)} {M : Led} : p ∈ a :: b :: c :: p :: M := .tail _ (.tail _ (.tail _ (.head _)))
theorem Is.pack {c : Cx} {F : List (Addr × Obj)} {M : Led} {s : Shared} (hs : Is c F M s) (P : List (Addr × Obj) → Prop) (h : P F) : ∃ F', P F' ∧ Is c F' M s := ⟨F, h, hs⟩
theorem Is.pack2 {c : Cx} {F : List (Addr × Obj)} {M : Led} {s : Shared} {G : Prop} (hs : Is c F M s) (P1 P2 : List (Addr × Obj) → Prop) (h1 : P1 F) (h2 : P2 F) (k : ∀ F', P1 F' → P2 F' → Is c F' M s → G) : G := k F h1 h2 hs
theorem Is.pack3 {c : Cx} {F : List (Addr × Obj)} {M : Led} {s : Shared} {G : Prop} (hs : Is c F M s) (P1 P2 P3 : List (Addr × Obj) → Prop) (h1 : P1 F) (h2 : P2 F) (h3 : P3 F) (k : ∀ F', P1 F' → P2 F' → P3 F' → Is c F' M s → G) : G := k F h1 h2 h3 hs
theorem key_root {pr : Str → Int} (p : Str) (t : Str) (h : tx [p] = t) : key pr [p] = (pr p, t) := by
  unfold key cost; rw [h]; simp
theorem keys_unsnoc {F : List (Addr × Obj)} : ∀ {vs : List Value} {v : Value} {ks : List (Int × Str)} {k : Int × Str}, Keys F (vs ++ [v]) (ks ++ [k]) → Keys F vs ks ∧ KeyIn F v k
  | [], v, [], k, h => by cases h with | cons a b => exact ⟨.nil, a⟩
  | [], v, k' :: ks, k, h => by have := h.length; simp at this
  | v' :: vs, v, [], k, h => by have := h.length; simp at this
  | v' :: vs, v, k' :: ks, k, h => by
    cases h with
    | cons a b => exact ⟨.cons a (keys_unsnoc b).1, (keys_unsnoc b).2⟩
theorem tx_ab : tx ["ab"] = "ab" := by decide +kernel
theorem tx_a : tx ["a"] = "a" := by decide +kernel
theorem tx_x : tx ["x"] = "/x" := by decide +kernel
theorem tx_xy : tx ["xy"] = "/xy" := by decide +kernel
theorem roots_keys {pr : Str → Int} : roots.map (key pr) = ([(pr "ab", "ab"), (pr "x", "/x"), (pr "a", "a"), (pr "xy", "/xy")] : List (Int × Str)) := by
  unfold roots
  simp only [List.map_cons, List.map_nil]
  rw [key_root _ _ tx_ab, key_root _ _ tx_x, key_root _ _ tx_a, key_root _ _ tx_xy]

variable {w : World} {B : Heap} {os : OsState} {mg mb : Str → Option Value} {F : List (Addr × Obj)} {M M' : Led} {s : Shared} {A : Around} {E : Value → Shared → Prop} {Q : Value → Shared → Prop}

/-- a key made of a price and a text -/
theorem keyT {env : Env} {m : Str → Option Value} {pd : Addr} {gp : Str → Option Int} {np : Nat} {gg : (Obj → Prop) → Led} {x y : Str} {p : Int} {k1 k2 kk : Nat} {p1 p2 p3 p4 p5 : Pos} (hs : Is (cx w B os mg mb) F M s) (hL : (env.locals, NsP m) ∈ M) (hp : m "prices" = some (.ref pd))
    (hu : UpdF pd (CaP (cx w B os mg mb) gp np) M gg) (hx : gp x = some p) (k : ∀ a F' s', (∀ q ∈ F, q ∈ F') → KeyIn F' (.ref a) (p, y) → Is (cx w B os mg mb) F' M s' → Q (.ref a) s')
    (hk : env.scope.kind = .function := by rfl) (hl : env.kindOf "prices" = some .local := by rfl) :
    wpAny (model (cx w B os mg mb).prog w) A (eval (.Tuple [.Subscript (.Name "prices" p1) (.Constant (.str x) k1 p2) p3, .Constant (.str y) k2 p4] kk p5) env) Q E s := by
  refine r_tuple (c := cx w B os mg mb) (wpAny_items_cons (Subscript_ (r_loc hs hL hp (r_str hs fun _ s hs => r_itemCa hs hu hx fun t1 s hs => ?_) hk hl)))
  refine wpAny_items_cons (r_str hs fun u1 s hs => wpAny_items_nil ⟨by simp, _, _, hs, fun a s hs => ?_⟩)
  exact k a _ s (fun q hq => .tail _ hq) ⟨a, 0, t1, u1, rfl, .head _⟩ (hs.fz_eq .head)
/-- a key one part longer -/
theorem keyE {env : Env} {m : Str → Option Value} {pd : Addr} {gp : Str → Option Int} {np : Nat} {gg : (Obj → Prop) → Led} {y T mk o : Str} {P q : Int} {tp tt tm t1 : Tok} {kk : Nat} {p1 p2 p3 p4 p5 q1 q2 q3 q4 q5 pp : Pos} (hs : Is (cx w B os mg mb) F M s) (hL : (env.locals, NsP m) ∈ M)
    (h1 : m "prices" = some (.ref pd)) (h2 : m "price" = some (.int P tp)) (h3 : m "text" = some (.str T tt)) (h4 : m "mark" = some (.str mk tm)) (h5 : m y = some (.str o t1))
    (hu : UpdF pd (CaP (cx w B os mg mb) gp np) M gg) (hx : gp o = some q) (hz : T.length + mk.length + o.length ≤ 100000) (k : ∀ a F' s', (∀ q ∈ F, q ∈ F') → KeyIn F' (.ref a) (P + q, T ++ mk ++ o) → Is (cx w B os mg mb) F' M s' → Q (.ref a) s')
    (hk : env.scope.kind = .function := by rfl) (l1 : env.kindOf "prices" = some .local := by rfl) (l2 : env.kindOf "price" = some .local := by rfl) (l3 : env.kindOf "text" = some .local := by rfl) (l4 : env.kindOf "mark" = some .local := by rfl) (l5 : env.kindOf y = some .local := by rfl) (hd : (y == ("__debug__" : Str)) = false := by decide) :
    wpAny (model (cx w B os mg mb).prog w) A (eval (.Tuple [.BinOp (.Name "price" p1) .Add (.Subscript (.Name "prices" p2) (.Name y p3) p4) p5, .BinOp (.BinOp (.Name "text" q1) .Add (.Name "mark" q2) q3) .Add (.Name y q4) q5] kk pp) env) Q E s := by
  refine r_tuple (c := cx w B os mg mb) (wpAny_items_cons (wpAny_BinOp (r_loc hs hL h2 (Subscript_ (r_loc hs hL h1 (r_loc hs hL h5 (r_itemCa hs hu hx fun _ s hs => r_add hs fun t5 s hs => ?_) hk l5 hd) hk l1)) hk l2)))
  refine wpAny_items_cons (wpAny_BinOp (wpAny_BinOp (r_loc hs hL h3 (r_loc hs hL h4 (r_adds hs (by lia) fun _ s hs => r_loc hs hL h5 (r_adds hs (by rw [Str.length_append]; lia) fun t6 s hs => ?_) hk l5 hd) hk l4) hk l3)))
  refine wpAny_items_nil ⟨by simp, _, _, hs, fun a s hs => ?_⟩
  exact k a _ s (fun q hq => .tail _ hq) ⟨a, 0, t5, t6, rfl, .head _⟩ (hs.fz_eq .head)

set_option maxHeartbeats 8000000 in
theorem walk_c {x d pd : Addr} {ms ds : List (List Str)} {pr : Str → Int} {gp g : Str → Option Int} {np n N' : Nat} {Hh : Bool} (hs : Is (cx w B os mg mb) F ((d, CaP (cx w B os mg mb) g n) :: (pd, CaP (cx w B os mg mb) gp np) :: M) s) (r : Rm 16 A)
    (hR : Rdr w B os mg mb F x d ms ds) (hgp : ∀ p ∈ (["a", "ab", "x", "xy"] : List Str), gp p = some (pr p)) (hpos : ∀ p ∈ (["a", "ab", "x", "xy"] : List Str), 0 < pr p) (hn : n ≤ 800) (hg : CaI (ms ++ ds) 1 N' Hh g)
    (k : ∀ tl vt T g' n' F' s', (∀ p ∈ F, p ∈ F') → WI pr (ms ++ ds) (visOf (ms ++ ds)) T [] → Told pr (ms ++ ds) F' vt T → CaI (ms ++ ds) 30 N' Hh g' → n' ≤ n + 20 →
      Is (cx w B os mg mb) F' ((tl, LsP (.none :: vt)) :: (d, CaP (cx w B os mg mb) g' n') :: (pd, CaP (cx w B os mg mb) gp np) :: M) s' → Q (.ref tl) s') :
    wpAny (model (cx w B os mg mb).prog w) A (call (.ref 153) [.ref x, .ref pd]) Q E s := by
  have hL : ∀ q ∈ ms ++ ds, q ∈ allRows := fun q hq => (List.mem_append.mp hq).elim (fun h => List.mem_append_left _ (hR.m q h)) fun h => List.mem_append_right _ (hR.d q h)
  refine r_fn (binds := [("reader", .ref x), ("prices", .ref pd)]) hs r (by rfl) (by kernel_rfl) (.of_eq rfl) (locs rfl) (fun L s r' hs => ?_)
  have ga := hgp "a" (by decide +kernel)
  have gab := hgp "ab" (by decide +kernel)
  have gx := hgp "x" (by decide +kernel)
  have gxy := hgp "xy" (by decide +kernel)
  refine wpAny_execs_cons (r_assign (r_list (c := cx w B os mg mb) (wpAny_items_cons (keyT hs in0 rfl (.tail (.tail .head)) gab fun a1 F1 s hF1 hk1 hs => wpAny_items_cons (keyT hs in0 rfl (.tail (.tail .head)) gx fun a2 F2 s hF2 hk2 hs => wpAny_items_cons (keyT hs in0 rfl (.tail (.tail .head)) ga fun a3 F3 s hF3 hk3 hs => wpAny_items_cons (keyT hs in0 rfl (.tail (.tail .head)) gxy fun a4 F0 s hF4 hk4 hs => ?_)))))))
  have hF0 : ∀ p ∈ F, p ∈ F0 := fun p hp => hF4 p (hF3 p (hF2 p (hF1 p hp)))
  have hkeys : Keys F0 [.ref a1, .ref a2, .ref a3, .ref a4] (roots.map (key pr)) := by
    rw [roots_keys]
    exact .cons (((hk1.mono hF2).mono hF3).mono hF4) (.cons ((hk2.mono hF3).mono hF4) (.cons (hk3.mono hF4) (.cons hk4 .nil)))
  refine wpAny_items_nil ⟨by simp, _, _, hs, fun hp s hs => ?_⟩
  refine r_st hs (.tail .head) fun s hs => ?_
  refine wpAny_execs_cons (r_assign (r_list (c := cx w B os mg mb) (wpAny_items_cons (r_Call (c := cx w B os mg mb) hs (g_heapify hs.gd) (by rfl) rfl (wpAny_items_cons (r_loc hs in1 rfl (wpAny_items_nil ⟨hs.K, ?_⟩)))))))
  refine heapify_c hs (r'.mono (by decide)) .head hkeys (by simp) fun vh s hkh hlh hs => ?_
  refine wpAny_items_nil ⟨by simp, _, _, hs, fun tl s hs => ?_⟩
  refine r_st hs (.tail (.tail .head)) fun s hs => ?_
  obtain ⟨hfh, hph⟩ := heapify_ok kOrd kLt_irr (roots.map (key pr))
  obtain ⟨H0, hH0, eH0⟩ := perm_map_inv (key pr) hph
  rw [eH0] at hkh hfh
  refine wpAny_execs_cons ?_
  refine r_while (c := cx w B os mg mb) (fun k s => Ex8 fun T H F' vh vt m g' n' => And13 (Is (cx w B os mg mb) F' ((tl, LsP (.none :: vt)) :: (hp, LsP vh) :: (L, NsP m) :: (d, CaP (cx w B os mg mb) g' n') :: (pd, CaP (cx w B os mg mb) gp np) :: M) s) ((∀ p ∈ F, p ∈ F')) (Keys F' vh (H.map (key pr))) (HF kLt (H.map (key pr)) 0) (WI pr (ms ++ ds) (visOf (ms ++ ds)) T H) (Told pr (ms ++ ds) F' vt T) (CaI (ms ++ ds) (T.length + 1) N' Hh g') (n' ≤ n + T.length) (k = (visOf (ms ++ ds)).length - T.length) (m "heap" = some (.ref hp)) (m "told" = some (.ref tl)) (m "reader" = some (.ref x)) (m "prices" = some (.ref pd))) (visOf (ms ++ ds)).length ?_ ?_
  · exact ⟨[], H0, F0, vh, [], _, g, n, hs, hF0, hkh, hfh, (vis_start hL).permH hH0, .nil, hg, Nat.le_refl _, rfl, rfl, rfl, rfl, rfl⟩
  rintro k0 s E' ⟨T, H, F', vh, vt, m, g', n', hs, hFF, hkh, hfh, hW, hT, hca, hn', rfl, m1, m2, m3, m4⟩
  have hlen := hW.perm.length_eq
  rw [List.length_append] at hlen
  have hv20 := vis_len (Ls := ms ++ ds)
  have hvt := hT.length
  have hkl := hkh.length
  rw [List.length_map] at hkl
  have hexp : H.length ≤ (H.flatMap (expR (ms ++ ds))).length := by
    clear hlen hkl hkh hfh hW
    induction H with
    | nil => simp
    | cons a b ih =>
      rw [List.flatMap_cons, List.length_append, List.length_cons]
      have : 1 ≤ (expR (ms ++ ds) a).length := by
        unfold expR
        cases 3 - a.length with
        | zero => simp [expand]
        | succ n => rw [expand]; split <;> simp
      lia
  refine wpAny_isTrue_Compare1 (r_loc hs in2 m1 (r_list (c := cx w B os mg mb) (wpAny_items_nil ⟨by simp, _, _, hs, fun l s hs => ?_⟩)))
  refine r_neNil hs in2 in0 hkh.rd (keys_ok hW.rows) r'.units (wpAny_truthy_bool ?_)
  have hs := hs.drop
  cases H with
  | nil =>
    have hv0 : vh = [] := List.eq_nil_of_length_eq_zero (by simpa using hkl)
    rw [hv0]
    refine if_f rfl ?_
    refine wpAny_execs_cons (wpAny_Return_some (r_loc hs in2 m2 ?_))
    have hs := (hs.out (.tail .head)).out (.tail .head)
    exact k tl vt T g' n' F' s hFF hW hT (hca.more (by lia) (Nat.le_refl _)) (by lia) hs
  | cons r0 H1 =>
    obtain ⟨v0, vh1, rfl⟩ : ∃ v0 vh1, vh = v0 :: vh1 := by cases hkh; exact ⟨_, _, rfl⟩
    have hk0 : KeyIn F' v0 (key pr r0) := by cases hkh; assumption
    have hk1 : Keys F' vh1 (H1.map (key pr)) := by cases hkh; assumption
    have hr0 := hW.rows r0 (.head _)
    have htx := tx_len hr0
    have hmin : ∀ q ∈ r0 :: H1, kLt (key pr q) (key pr r0) = false := fun q hq => hfh.min' kOrd kLt_irr (List.mem_map.mpr ⟨q, hq, rfl⟩)
    have hstep := hW.step hpos vis_nodup hmin
    obtain ⟨a0, nn0, tp, tt, rfl, hm0⟩ := id hk0
    have hTl : T.length < 20 := by
      rw [List.flatMap_cons, List.length_append] at hlen hexp
      have : 1 ≤ (r0 :: H1).length := by simp
      lia
    have hvl1 : vh1.length < 20 := by
      have : (Value.ref a0 :: vh1).length = vh1.length + 1 := rfl
      lia
    have hTv : T.length < (visOf (ms ++ ds)).length := by
      have : (Value.ref a0 :: vh1).length = vh1.length + 1 := rfl
      lia
    refine if_t rfl (gen fun QB hQB => ?_)
    refine wpAny_execs_cons (Assign_Tuple (Subscript_ (r_loc hs in2 m1 (r_int hs fun _ s hs => r_item hs in1 (by decide) (by decide) rfl ?_))))
    refine r_unpack hs r'.hd (vs := [.int (key pr r0).1 tp, .str (key pr r0).2 tt]) ⟨_, hs.getF hm0, rfl, nn0, rfl⟩ rfl rfl fun s hs => ?_
    refine assignInOrder_cons (wpAny_assign_Name (r_st hs (.tail (.tail .head)) fun s hs => ?_))
    refine assignInOrder_cons (wpAny_assign_Name (r_st hs (.tail (.tail .head)) fun s hs => assignInOrder_nil ?_))
    have hkey2 : (key pr r0).2 = tx r0 := rfl
    refine wpAny_execs_cons (r_cut (Q' := fun f s => f = .next ∧ (Ex4 fun m tm t1 t2 => And10 (Is (cx w B os mg mb) F' ((tl, LsP (.none :: vt)) :: (hp, LsP (.ref a0 :: vh1)) :: (L, NsP m) :: (d, CaP (cx w B os mg mb) g' n') :: (pd, CaP (cx w B os mg mb) gp np) :: M) s) (m "heap" = some (.ref hp)) (m "told" = some (.ref tl)) (m "reader" = some (.ref x)) (m "prices" = some (.ref pd)) (m "price" = some (.int (key pr r0).1 tp)) (m "text" = some (.str (tx r0) tt)) (m "mark" = some (.str (markOf r0) tm)) (m "one" = some (.str (oneOf r0) t1)) (m "other" = some (.str (otherOf r0) t2)))) ?_ ?_)
    · refine gen fun QC hQC => ?_
      refine Assign_Tuple (wpAny_IfExp (wpAny_isTrue_Compare1 (Subscript_ (r_loc hs in2 rfl (r_int hs fun _ s hs => r_itemS hs (by decide) (by rw [hkey2]; lia) (by rw [hkey2]; lia) fun _ s hs => r_str hs fun _ s hs => r_eqs (c := cx w B os mg mb) (wpAny_truthy_bool ?_))))))
      rw [hkey2]
      by_cases h0 : Txt.item (tx r0) 0 = "/"
      · refine if_t (by simp [h0]) (r_tuple (c := cx w B os mg mb) (wpAny_items_cons (r_str hs fun tm s hs => wpAny_items_cons (r_str hs fun t1 s hs => wpAny_items_cons (r_str hs fun t2 s hs => wpAny_items_nil ⟨by simp, _, _, hs, fun at' s hs => ?_⟩)))))
        obtain ⟨o, eo, rfl⟩ := hs.get in0
        refine r_unpack hs r'.hd (vs := [.str "/" tm, .str "x" t1, .str "xy" t2]) ⟨_, eo, rfl, 0, rfl⟩ rfl rfl fun s hs => ?_
        have hs := hs.drop
        refine assignInOrder_cons (wpAny_assign_Name (r_st hs (.tail (.tail .head)) fun s hs => ?_))
        refine assignInOrder_cons (wpAny_assign_Name (r_st hs (.tail (.tail .head)) fun s hs => ?_))
        refine assignInOrder_cons (wpAny_assign_Name (r_st hs (.tail (.tail .head)) fun s hs => assignInOrder_nil ?_))
        have e1 : markOf r0 = "/" := if_pos h0
        have e2 : oneOf r0 = "x" := if_pos h0
        have e3 : otherOf r0 = "xy" := if_pos h0
        refine hQC _ _ ?_
        rw [e1, e2, e3]
        exact ⟨rfl, _, tm, t1, t2, hs, m1, m2, m3, m4, rfl, rfl, rfl, rfl, rfl⟩
      · refine if_f (by simpa using h0) (r_tuple (c := cx w B os mg mb) (wpAny_items_cons (r_str hs fun tm s hs => wpAny_items_cons (r_str hs fun t1 s hs => wpAny_items_cons (r_str hs fun t2 s hs => wpAny_items_nil ⟨by simp, _, _, hs, fun at' s hs => ?_⟩)))))
        obtain ⟨o, eo, rfl⟩ := hs.get in0
        refine r_unpack hs r'.hd (vs := [.str "." tm, .str "a" t1, .str "ab" t2]) ⟨_, eo, rfl, 0, rfl⟩ rfl rfl fun s hs => ?_
        have hs := hs.drop
        refine assignInOrder_cons (wpAny_assign_Name (r_st hs (.tail (.tail .head)) fun s hs => ?_))
        refine assignInOrder_cons (wpAny_assign_Name (r_st hs (.tail (.tail .head)) fun s hs => ?_))
        refine assignInOrder_cons (wpAny_assign_Name (r_st hs (.tail (.tail .head)) fun s hs => assignInOrder_nil ?_))
        have e1 : markOf r0 = "." := if_neg h0
        have e2 : oneOf r0 = "a" := if_neg h0
        have e3 : otherOf r0 = "ab" := if_neg h0
        refine hQC _ _ ?_
        rw [e1, e2, e3]
        exact ⟨rfl, _, tm, t1, t2, hs, m1, m2, m3, m4, rfl, rfl, rfl, rfl, rfl⟩
    clear hs m1 m2 m3 m4
    rintro f s ⟨rfl, m, tm, t1, t2, hs, m1, m2, m3, m4, m5, m6, m7, m8, m9⟩
    refine wpAny_execs_cons (r_assign (r_Call (c := cx w B os mg mb) hs (g_answer hs.gd) (by rfl) rfl (wpAny_items_cons (r_loc hs in2 m3 (wpAny_items_cons (r_loc hs in2 m6 (wpAny_items_cons (wpAny_BinOp (r_str hs fun _ s hs => ?_)))))))))
    refine r_CallT (c := cx w B os mg mb) hs (b_str hs.gd) bb_str (by decide) (wpAny_items_cons (r_CallB (c := cx w B os mg mb) hs (b_len hs.gd) bb_len (by decide) (wpAny_items_cons (r_loc hs in2 m2 (wpAny_items_nil ?_)))))
    have hvl : (Value.none :: vt).length = T.length + 1 := by simp [hvt]
    refine r_len hs in0 (by rw [hvl]; lia) fun _ s hs => wpAny_items_nil (r_strI hs (by rw [hvl]; exact Nat.lt_of_le_of_lt (Nat.log2_le_self _) (by lia)) fun _ s hs => ?_)
    have hfn : (("f" : Str) ++ Str.ofString (toString (((Value.none :: vt).length : Nat) : Int))) = fN "f" (T.length + 1) := by rw [hvl]; rfl
    have hfl : (fN "f" (T.length + 1)).length ≤ 10 := by
      have := all_of n_other (List.mem_range.mpr (show T.length + 1 < 40 by lia))
      simp only [Bool.and_eq_true, decide_eq_true_eq] at this
      exact this.1.2
    refine r_adds hs (by rw [← Str.length_append, hfn]; lia) fun _ s hs => wpAny_items_nil ⟨hs.K, ?_⟩
    rw [hfn]
    refine askF_c hs (r'.mono (by decide)) (hR.mono hFF) (.tail (.tail (.tail .head))) (by lia) hca (by lia) hr0 fun ta s F1 g1 hF1 hca1 hs => ?_
    refine r_st hs (.tail (.tail .head)) fun s hs => ?_
    have hkh1 := hk1.mono hF1
    have hk01 := hk0.mono hF1
    have hb0 : ansI (ms ++ ds) r0 = if belowB (ms ++ ds) r0 then 1 else 0 := rfl
    refine wpAny_execs_cons (r_cut (Q' := fun f s => f = .next ∧ (Ex4 fun (F2 : List (Addr × Obj)) (H2 : List (List Str)) (vh2 : List Value) (m : Str → Option Value) => And11 (Is (cx w B os mg mb) F2 ((tl, LsP (.none :: vt)) :: (hp, LsP vh2) :: (L, NsP m) :: (d, CaP (cx w B os mg mb) g1 (n' + 1)) :: (pd, CaP (cx w B os mg mb) gp np) :: M) s) ((∀ p ∈ F1, p ∈ F2)) (Keys F2 vh2 (H2.map (key pr))) (HF kLt (H2.map (key pr)) 0) (H2.Perm ((if belowB (ms ++ ds) r0 || !growB r0 then [] else [r0 ++ [oneOf r0], r0 ++ [otherOf r0]]) ++ H1)) (m "heap" = some (.ref hp)) (m "told" = some (.ref tl)) (m "reader" = some (.ref x)) (m "prices" = some (.ref pd)) (m "answer" = some (.int (ansI (ms ++ ds) r0) ta)) (m "out" = some (.ref a0)))) ?_ ?_)
    · have hsplit : (Txt.split (tx r0) (markOf r0)).length ≤ 22 := by
        have : allRows.all (fun r => decide ((Txt.split (tx r) (markOf r)).length ≤ 22)) = true := by decide +kernel
        simpa using all_of this hr0
      have hml : (markOf r0).length = 1 := by unfold markOf; split <;> rfl
      have hol : (oneOf r0).length ≤ 2 ∧ (otherOf r0).length ≤ 2 := by unfold oneOf otherOf; split <;> exact ⟨by decide, by decide⟩
      have hkl2 : (H1.map (key pr)).length = vh1.length := by have := hk1.length; lia
      cases hc : (belowB (ms ++ ds) r0 || !growB r0) with
      | false =>
        refine gen fun QC hQC => ?_
        rw [Bool.or_eq_false_iff] at hc
        have hg0 : growB r0 = true := by simpa using hc.2
        have ha0 : ansI (ms ++ ds) r0 = 0 := by unfold ansI; rw [hc.1]; rfl
        obtain ⟨gr1, gr2, gt1, gt2, _⟩ := grow_all hr0 hg0
        have gpp := all_of f_part hr0
        rw [Bool.and_eq_true, List.contains_iff_mem, List.contains_iff_mem] at gpp
        refine wpAny_If (wpAny_isTrue_BoolOp (wpAny_allTrue_And_cons (wpAny_isTrue_Compare1 (r_loc hs in2 rfl (r_int hs fun _ s hs => r_eqi (c := cx w B os mg mb) (wpAny_truthy_bool ?_))))))
        refine if_t (by rw [ha0]; rfl) (wpAny_allTrue_And_cons (wpAny_isTrue_Compare1 (r_CallB (c := cx w B os mg mb) hs (b_len hs.gd) bb_len (by decide) (wpAny_items_cons (wpAny_Call_method1_late rfl rfl rfl (r_loc hs in2 m6 (m_str1 (c := cx w B os mg mb) PySem.F.slot_str_split PySem.F.type_str_split (r_loc hs in2 m7 ?_))))))))
        refine r_split hs (by rw [hml]; rfl) (by lia) fun D vs s hsp hs => wpAny_items_nil ?_
        have hsl := strs_len hsp
        refine r_len hs in0 (by lia) fun _ s hs => r_int hs fun _ s hs => r_lt (c := cx w B os mg mb) (wpAny_truthy_bool ?_)
        have hs := hs.drop
        have hlt3 : (Txt.split (tx r0) (markOf r0)).length < 3 := by unfold growB at hg0; exact decide_eq_true_eq.mp hg0
        refine if_t (by rw [hsl]; exact decide_eq_true (by lia)) (wpAny_allTrue_And_nil (if_t rfl ?_))
        refine wpAny_execs_cons (r_assign (r_Call (c := cx w B os mg mb) hs (g_heapreplace hs.gd) (by rfl) rfl (wpAny_items_cons (r_loc hs in2 m1 (wpAny_items_cons (keyE hs in2 m4 m5 m6 m7 m8 (.tail (.tail (.tail (.tail .head)))) (hgp _ gpp.1) (by lia) fun b1 F2 s hF2 hb1 hs => wpAny_items_nil ⟨hs.K, ?_⟩))))))
        have hb1 : KeyIn F2 (.ref b1) (key pr (r0 ++ [oneOf r0])) := by
          unfold key; rw [cost_snoc, gt1]; exact hb1
        refine heapreplace_c hs (r'.mono (by decide)) (.tail .head) (.cons (hk01.mono hF2) (hkh1.mono hF2)) hb1 (by lia) fun vh2 s hkh2 hl2 hs => ?_
        obtain ⟨hfh2, hp2⟩ := replace_ok kOrd kLt_irr (ki := key pr (r0 ++ [oneOf r0])) (ys := H1.map (key pr)) hfh ⟨[], by simp⟩
        refine r_st hs (.tail (.tail .head)) fun s hs => ?_
        refine wpAny_execs_cons (wpAny_Expr (r_Call (c := cx w B os mg mb) hs (g_heappush hs.gd) (by rfl) rfl (wpAny_items_cons (r_loc hs in2 m1 (wpAny_items_cons (keyE hs in2 m4 m5 m6 m7 m9 (.tail (.tail (.tail (.tail .head)))) (hgp _ gpp.2) (by lia) fun b2 F3 s hF3 hb2 hs => wpAny_items_nil ⟨hs.K, ?_⟩))))))
        have hb2 : KeyIn F3 (.ref b2) (key pr (r0 ++ [otherOf r0])) := by
          unfold key; rw [cost_snoc, gt2]; exact hb2
        refine heappush_c hs (r'.mono (by decide)) (.tail .head) (hkh2.mono hF3) hb2 (by lia) fun vh3 s hkh3 hl3 hs => wpAny_execs_nil ?_
        obtain ⟨hfh3, hp3⟩ := push_ok kOrd (k := key pr (r0 ++ [otherOf r0])) hfh2
        have hperm : (sd kLt (key pr (r0 ++ [otherOf r0])) (su kLt (key pr (r0 ++ [oneOf r0])) (key pr (r0 ++ [oneOf r0]) :: H1.map (key pr)) 0 ++ [key pr (r0 ++ [otherOf r0])]) 0 (su kLt (key pr (r0 ++ [oneOf r0])) (key pr (r0 ++ [oneOf r0]) :: H1.map (key pr)) 0).length).Perm (([r0 ++ [oneOf r0], r0 ++ [otherOf r0]] ++ H1).map (key pr)) := by
          refine hp3.trans ((hp2.append_right _).trans ?_)
          simp only [List.map_append, List.map_cons, List.map_nil, List.cons_append, List.nil_append]
          exact (List.perm_append_singleton _ _).cons _
        obtain ⟨H2, hH2, eH2⟩ := perm_map_inv (key pr) hperm
        rw [eH2] at hkh3 hfh3
        refine hQC _ _ ?_
        exact ⟨rfl, F3, H2, vh3, _, hs, fun p hp => hF3 p (hF2 p hp), hkh3, hfh3, hH2, m1, m2, m3, m4, rfl, rfl⟩
      | true =>
        refine gen fun QC hQC => ?_
        refine wpAny_If (r_cut (Q' := fun b s => b = false ∧ Is (cx w B os mg mb) F1 ((tl, LsP (.none :: vt)) :: (hp, LsP (.ref a0 :: vh1)) :: (L, NsP (up m "answer" (.int (ansI (ms ++ ds) r0) ta))) :: (d, CaP (cx w B os mg mb) g1 (n' + 1)) :: (pd, CaP (cx w B os mg mb) gp np) :: M) s) ?_ ?_)
        · refine gen fun QD hQD => ?_
          refine wpAny_isTrue_BoolOp (wpAny_allTrue_And_cons (wpAny_isTrue_Compare1 (r_loc hs in2 rfl (r_int hs fun _ s hs => r_eqi (c := cx w B os mg mb) (wpAny_truthy_bool ?_)))))
          cases hb : belowB (ms ++ ds) r0 with
          | true =>
            have ha0 : ansI (ms ++ ds) r0 = 1 := by unfold ansI; rw [hb]; rfl
            refine if_f (by rw [ha0]; rfl) (hQD _ _ ⟨rfl, hs⟩)
          | false =>
            have ha0 : ansI (ms ++ ds) r0 = 0 := by unfold ansI; rw [hb]; rfl
            have hg0 : growB r0 = false := by rw [hb] at hc; simpa using hc
            refine if_t (by rw [ha0]; rfl) (wpAny_allTrue_And_cons (wpAny_isTrue_Compare1 (r_CallB (c := cx w B os mg mb) hs (b_len hs.gd) bb_len (by decide) (wpAny_items_cons (wpAny_Call_method1_late rfl rfl rfl (r_loc hs in2 m6 (m_str1 (c := cx w B os mg mb) PySem.F.slot_str_split PySem.F.type_str_split (r_loc hs in2 m7 ?_))))))))
            refine r_split hs (by rw [hml]; rfl) (by lia) fun D vs s hsp hs => wpAny_items_nil ?_
            have hsl := strs_len hsp
            refine r_len hs in0 (by lia) fun _ s hs => r_int hs fun _ s hs => r_lt (c := cx w B os mg mb) (wpAny_truthy_bool ?_)
            have hs := hs.drop
            have hlt3 : ¬ (Txt.split (tx r0) (markOf r0)).length < 3 := by unfold growB at hg0; exact decide_eq_false_iff_not.mp hg0
            exact if_f (by rw [hsl]; exact decide_eq_false (by lia)) (hQD _ _ ⟨rfl, hs⟩)
        rintro b s ⟨rfl, hs⟩
        refine if_f rfl ?_
        refine wpAny_execs_cons (r_assign (r_Call (c := cx w B os mg mb) hs (g_heappop hs.gd) (by rfl) rfl (wpAny_items_cons (r_loc hs in2 m1 (wpAny_items_nil ⟨hs.K, ?_⟩)))))
        rcases List.eq_nil_or_concat H1 with rfl | ⟨H1', rl, rfl⟩
        · have hv1 : vh1 = [] := List.eq_nil_of_length_eq_zero (by simpa using hkl2.symm)
          subst hv1
          refine heappop1_c hs (r'.mono (by decide)) (.tail .head) fun s hs => r_st hs (.tail (.tail .head)) fun s hs => wpAny_execs_nil ?_
          refine hQC _ _ ?_
          exact ⟨rfl, F1, [], [], _, hs, fun _ h => h, .nil, (fun i a b _ _ ha => by simp at ha), by simp, m1, m2, m3, m4, rfl, rfl⟩
        · rw [List.concat_eq_append] at *
          rw [List.map_append] at hkh1 hkl2
          obtain ⟨vh1', vl, rfl⟩ : ∃ vh1' vl, vh1 = vh1' ++ [vl] := by
            rcases List.eq_nil_or_concat vh1 with h | ⟨a, b, h⟩
            · rw [h] at hkl2; simp at hkl2
            · exact ⟨a, b, by rw [h, List.concat_eq_append]⟩
          have hsp : Keys F1 vh1' (H1'.map (key pr)) ∧ KeyIn F1 vl (key pr rl) := keys_unsnoc hkh1
          refine heappop_c hs (r'.mono (by decide)) (.tail .head) (.cons hk01 hsp.1) hsp.2 (by simp at hvl1; lia) fun vh2 s hkh2 hl2 hs => r_st hs (.tail (.tail .head)) fun s hs => wpAny_execs_nil ?_
          obtain ⟨hfh2, hp2⟩ := replace_ok kOrd kLt_irr (ki := key pr rl) (ys := H1'.map (key pr)) hfh ⟨[key pr rl], by simp⟩
          have hperm : (su kLt (key pr rl) (key pr rl :: H1'.map (key pr)) 0).Perm ((H1' ++ [rl]).map (key pr)) := by
            refine hp2.trans ?_
            rw [List.map_append]
            exact (List.perm_append_singleton _ _).symm
          obtain ⟨H2, hH2, eH2⟩ := perm_map_inv (key pr) hperm
          rw [eH2] at hkh2 hfh2
          refine hQC _ _ ?_
          exact ⟨rfl, F1, H2, vh2, _, hs, fun _ h => h, hkh2, hfh2, hH2, m1, m2, m3, m4, rfl, rfl⟩
    clear hs m1 m2 m3 m4 m5 m6 m7 m8 m9
    rintro f s ⟨rfl, F2, H2, vh2, m, hs, hF2, hkh2, hfh2, hH2, m1, m2, m3, m4, m5, m6⟩
    refine wpAny_execs_cons (wpAny_Expr (wpAny_Call_method1_late rfl rfl rfl (r_loc hs in2 m2 (m_append hs in0 ?_))))
    refine r_tuple (c := cx w B os mg mb) (wpAny_items_cons (r_loc hs in2 m6 (wpAny_items_cons (r_loc hs in2 m5 (wpAny_items_cons (wpAny_Compare1 ?_))))))
    refine r_CallT (c := cx w B os mg mb) hs (b_type hs.gd) bb_type (by decide) (wpAny_items_cons (r_loc hs in2 m5 (wpAny_items_nil (r_typeI (c := cx w B os mg mb) ?_))))
    refine r_bn (c := cx w B os mg mb) hs (b_int hs.gd) bb_int (by decide) (r_isT (c := cx w B os mg mb) (wpAny_items_nil ⟨by simp, _, _, hs, fun ae s hs => ?_⟩))
    have hs := hs.fz_eq .head
    refine ⟨_, _, _, _, hs, .head, by rw [hvl]; lia, fun s hs => wpAny_execs_nil ?_⟩
    refine hQB _ _ ?_
    refine ⟨(visOf (ms ++ ds)).length - (T ++ [r0]).length, by rw [List.length_append, List.length_singleton]; lia, ?_⟩
    refine hs.pack2 (fun F3 => (∀ p ∈ F2, p ∈ F3)) (fun F3 => TEnt pr (ms ++ ds) F3 (.ref ae) r0) (fun p hp => .tail _ hp) (⟨ae, .ref a0, ta, rfl, .head _, (hk01.mono hF2).mono fun p hp => .tail _ hp⟩) fun F3 hF3 hent hs => ?_
    have hs : Is (cx w B os mg mb) F3 ((tl, LsP (.none :: (vt ++ [.ref ae]))) :: (hp, LsP vh2) :: (L, NsP m) :: (d, CaP (cx w B os mg mb) g1 (n' + 1)) :: (pd, CaP (cx w B os mg mb) gp np) :: M) s := hs
    have hF23 : ∀ p ∈ F', p ∈ F3 := fun p hp => hF3 p (hF2 p (hF1 p hp))
    refine ⟨T ++ [r0], H2, F3, vh2, vt ++ [.ref ae], m, g1, n' + 1, hs, fun p hp => hF23 p (hFF p hp), hkh2.mono hF3, hfh2, hstep.permH hH2, (hT.mono hF23).snoc hent, ?_, by simp; lia, rfl, m1, m2, m3, m4⟩
    rw [List.length_append]; exact hca1
end Mine

namespace Mine
/-- a cell -/
noncomputable def CeP (v : Option Value) (o : Obj) : Prop := o.data = .cell v
/-- the cells of a call -/
noncomputable def cel (cs : List (Str × Addr)) (mc : Str → Option Value) : Led := cs.map fun p => (p.2, CeP (mc p.1))

section
variable {c : Cx} {F : List (Addr × Obj)} {M M' : Led} {s : Shared} {A : Around} {E : Value → Shared → Prop} {Q : Value → Shared → Prop} {x : Str} {env : Env} {pos : Pos} {v : Value} {t u : Tok} {m mc : Str → Option Value} {cs : List (Str × Addr)} {L a : Addr} {P : Obj → Prop}

theorem cel_mem (h : (x, a) ∈ cs) : (a, CeP (mc x)) ∈ cel cs mc ++ M := List.mem_append_left _ (List.mem_map.mpr ⟨(x, a), h, rfl⟩)

theorem r_cel {b : Addr} (hs : Is c F M s) (hm : (b, CeP (mc x)) ∈ M) (hc : env.cells.lookup x = some b) (hv : mc x = some v) (h : Q v s)
    (hk : env.scope.kind = .function := by rfl) (hl : env.kindOf x = some .cell := by rfl) (hd : (x == ("__debug__" : Str)) = false := by decide) :
    wpAny (model c.prog c.w) A (eval (.Name x pos) env) Q E s := by
  obtain ⟨o, eo, ho⟩ := hs.get hm
  rw [hv] at ho
  exact wpAny_Name (wpAny_loadName_cell hk hl hc ⟨o, eo, ho⟩ h) hd

theorem cel_upd (hn : (cs.map (·.1)).Nodup) (h : (x, a) ∈ cs) (v : Value) : Upd a (CeP (mc x)) (CeP (some v)) (cel cs mc ++ M) (cel cs (up mc x v) ++ M) := by
  induction cs with
  | nil => simp at h
  | cons p r ih =>
    rw [List.map_cons, List.nodup_cons] at hn
    have hoff : x ∉ r.map (·.1) → cel r (up mc x v) = cel r mc := by
      intro hx
      unfold cel
      refine List.map_congr_left fun q hq => ?_
      rw [up_ne (fun e => hx (List.mem_map.mpr ⟨q, hq, e⟩))]
    rcases List.mem_cons.mp h with rfl | h
    · show Upd a _ _ ((a, CeP (mc x)) :: (cel r mc ++ M)) ((a, CeP (up mc x v x)) :: (cel r (up mc x v) ++ M))
      rw [hoff hn.1, up_same]
      exact .head
    · have hne : p.1 ≠ x := fun e => hn.1 (e ▸ List.mem_map.mpr ⟨(x, a), h, rfl⟩)
      show Upd a _ _ ((p.2, CeP (mc p.1)) :: (cel r mc ++ M)) ((p.2, CeP (up mc x v p.1)) :: (cel r (up mc x v) ++ M))
      rw [up_ne hne]
      exact .tail (ih hn.2 h)

theorem r_stC {Q : Unit → Shared → Prop} {v0 : Option Value} (hs : Is c F M s) (hu : Upd a (CeP v0) (CeP (some v)) M M') (hc : env.cells.lookup x = some a) (k : ∀ s', Is c F M' s' → Q () s')
    (hk : env.scope.kind = .function := by rfl) (hl : env.kindOf x = some .cell := by rfl) : wpAny (model c.prog c.w) A (storeName env x v) Q E s := by
  obtain ⟨o, eo, ho⟩ := hs.get hu.mem
  refine wpAny_storeName_cell hk hl hc ⟨o, eo, ho⟩ fun h' hi hsb => ?_
  obtain ⟨o', eo', ho'⟩ := hi
  exact k _ (hs.change hu s.toks (fun b o hb e => hsb.extBut b o hb e) eo' ho')

/-- the ledger under a name -/
theorem Is.hide0 {G : Prop} (hs : Is c F M s)  (k : ∀ M', Is c F M' s → (∀ l F' s', Is c F' (l ++ M') s' → Is c F' (l ++ M) s') → G) : G := k M  hs fun _ _ _ h => h
theorem Is.hide1 {p1 : Addr × (Obj → Prop)} {G : Prop} (hs : Is c F M s) (h1 : p1 ∈ M) (k : ∀ M', p1 ∈ M' → Is c F M' s → (∀ l F' s', Is c F' (l ++ M') s' → Is c F' (l ++ M) s') → G) : G := k M h1 hs fun _ _ _ h => h
theorem Is.hide2 {p1 p2 : Addr × (Obj → Prop)} {G : Prop} (hs : Is c F M s) (h1 : p1 ∈ M) (h2 : p2 ∈ M) (k : ∀ M', p1 ∈ M' → p2 ∈ M' → Is c F M' s → (∀ l F' s', Is c F' (l ++ M') s' → Is c F' (l ++ M) s') → G) : G := k M h1 h2 hs fun _ _ _ h => h
theorem Is.hide3 {p1 p2 p3 : Addr × (Obj → Prop)} {G : Prop} (hs : Is c F M s) (h1 : p1 ∈ M) (h2 : p2 ∈ M) (h3 : p3 ∈ M) (k : ∀ M', p1 ∈ M' → p2 ∈ M' → p3 ∈ M' → Is c F M' s → (∀ l F' s', Is c F' (l ++ M') s' → Is c F' (l ++ M) s') → G) : G := k M h1 h2 h3 hs fun _ _ _ h => h
theorem Is.hideU {p1 p2 : Addr × (Obj → Prop)} {G : Prop} {g : (Obj → Prop) → Led} (hs : Is c F M s) (h1 : p1 ∈ M) (h2 : p2 ∈ M) (u : UpdF a P M g) (k : ∀ M' g', p1 ∈ M' → p2 ∈ M' → UpdF a P M' g' → Is c F M' s → (∀ l F' s', Is c F' (l ++ M') s' → Is c F' (l ++ M) s') → G) : G := k M g h1 h2 u hs fun _ _ _ h => h
theorem Is.hideV {p1 : Addr × (Obj → Prop)} {G : Prop} {g : (Obj → Prop) → Led} (hs : Is c F M s) (h1 : p1 ∈ M) (u : UpdF a P M g) (k : ∀ M' g', p1 ∈ M' → UpdF a P M' g' → Is c F M' s → (∀ l P' F' s', Is c F' (l ++ g' P') s' → Is c F' (l ++ g P') s') → G) : G := k M g h1 u hs fun _ _ _ _ h => h
/-- a new object goes beneath the frame -/
theorem Is.sink {p : Addr × (Obj → Prop)} (hs : Is c F ((a, P) :: p :: (cel cs mc ++ M)) s) : Is c F (p :: (cel cs mc ++ (a, P) :: M)) s :=
  hs.perm ((List.perm_middle.cons p).trans (List.Perm.swap _ _ _))
theorem UpdF.app {l : Led} {g : (Obj → Prop) → Led} (h : UpdF a P M g) : UpdF a P (l ++ M) (fun P' => l ++ g P') := by
  induction l with
  | nil => exact h
  | cons q r ih => exact .tail ih
theorem UpdF.fr {p : Addr × (Obj → Prop)} {g : (Obj → Prop) → Led} (h : UpdF a P M g) : UpdF a P (p :: (cel cs mc ++ M)) (fun P' => p :: (cel cs mc ++ g P')) := .tail h.app
theorem mem_fr {p q : Addr × (Obj → Prop)} (h : q ∈ M) : q ∈ p :: (cel cs mc ++ M) := .tail _ (List.mem_append_right _ h)
theorem Out.app {l : Led} {p : Addr × (Obj → Prop)} (h : Out p M M') : Out p (l ++ M) (l ++ M') := by
  induction l with
  | nil => exact h
  | cons q r ih => exact .tail ih
theorem Out.fr {p q : Addr × (Obj → Prop)} (h : Out p M M') : Out p (q :: (cel cs mc ++ M)) (q :: (cel cs mc ++ M')) := .tail h.app
end

noncomputable def lawFd (p : Params) : Option (List Stmt × Scope) := some (fb (fAt 22), fs (fAt 22))

/-- the law's cells -/
noncomputable def lawCs (L : Addr) : List (Str × Addr) := [("j", L + 8), ("plain", L + 7), ("prices", L + 6), ("row", L + 5), ("q", L + 4), ("parts", L + 3), ("listed", L + 2), ("script", L + 1)]
theorem lawCs_nodup (L : Addr) : ((lawCs L).map (·.1)).Nodup := by
  show (["j", "plain", "prices", "row", "q", "parts", "listed", "script"] : List Str).Nodup
  decide +kernel

end Mine

namespace Mine
/-- the tree's answer when the questions, all beneath n, are answered by b -/
noncomputable def kasR {α : Type} (b : Nat → Nat → Bool) (n : Nat) : KasT α → Option α
  | .ret a => some a
  | .ask i j k => if i < n ∧ j < n then kasR b n (k (b i j)) else none
theorem kasR_ask {α : Type} {b : Nat → Nat → Bool} {n i j : Nat} {k : Bool → KasT α} (hi : i < n) (hj : j < n) : kasR b n (.ask i j k) = kasR b n (k (b i j)) := by rw [kasR, if_pos ⟨hi, hj⟩]
theorem kasR_bind {α β : Type} (b : Nat → Nat → Bool) (n : Nat) (f : α → KasT β) : ∀ t : KasT α, kasR b n (t.bind f) = (kasR b n t).bind fun a => kasR b n (f a)
  | .ret _ => rfl
  | .ask i j k => by
    rw [KasT.bind, kasR, kasR]
    split
    · exact kasR_bind b n f (k (b i j))
    · rfl
theorem kasR_wp {α : Type} {b : Nat → Nat → Bool} {n : Nat} {cmp : Nat → Nat → (Bool → Shared → Prop) → Shared → Prop} {I : Shared → Prop} (hc : ∀ i j C s, i < n → j < n → I s → (∀ s', I s' → C (b i j) s') → cmp i j C s) {Q : α → Shared → Prop} :
    ∀ (t : KasT α) (s : Shared) (a : α), kasR b n t = some a → I s → (∀ s', I s' → Q a s') → t.kasWp cmp Q s
  | .ret a, s, a', e, hI, h => by cases e; exact h s hI
  | .ask i j k, s, a', e, hI, h => by
    rw [kasR] at e
    split at e
    · rename_i hij
      exact hc i j _ s hij.1 hij.2 hI fun s' hI' => kasR_wp hc (k (b i j)) s' a' e hI' h
    · cases e

noncomputable def At (p : Array Nat) (i : Nat) : Nat := p.getD i 0
theorem At_of {p : Array Nat} {i : Nat} {x : Nat} (h : p[i]? = some x) : At p i = x := by unfold At; rw [Array.getD_eq_getD_getElem?, h]; rfl
theorem At_get {p : Array Nat} {i : Nat} (h : i < p.size) : p[i]? = some (At p i) := by
  unfold At; rw [Array.getD_eq_getD_getElem?, Array.getElem?_eq_getElem h]; rfl
noncomputable def Asc (b : Nat → Nat → Bool) (p : Array Nat) (k : Nat) : Prop := ∀ i j, i < j → j < k → b (At p i) (At p j) = true

structure TO (b : Nat → Nat → Bool) (n : Nat) : Prop where
  irr : ∀ i, b i i = false
  tr : ∀ i j k, b i j = true → b j k = true → b i k = true
  tot : ∀ i j, i < n → j < n → i ≠ j → b i j = true ∨ b j i = true

structure PP (p : Array Nat) (n : Nat) : Prop where
  perm : p.toList.Perm (List.range n)
theorem PP.size {p : Array Nat} {n : Nat} (h : PP p n) : p.size = n := by have := h.perm.length_eq; simpa using this
theorem PP.lt {p : Array Nat} {n i : Nat} (h : PP p n) (hi : i < n) : At p i < n := by
  have h1 : p[i]? = some (At p i) := At_get (by rw [h.size]; exact hi)
  have : At p i ∈ p.toList := by rw [← Array.getElem?_toList] at h1; exact List.mem_of_getElem? h1
  simpa using h.perm.mem_iff.mp this
theorem PP.inj {p : Array Nat} {n i j : Nat} (h : PP p n) (hi : i < n) (hj : j < n) (hne : i ≠ j) : At p i ≠ At p j := by
  have nd : p.toList.Nodup := h.perm.nodup_iff.mpr List.nodup_range
  intro e
  have h1 : p.toList[i]? = some (At p i) := by rw [Array.getElem?_toList]; exact At_get (by rw [h.size]; exact hi)
  have h2 : p.toList[j]? = some (At p i) := by rw [Array.getElem?_toList, e]; exact At_get (by rw [h.size]; exact hj)
  exact hne ((List.getElem?_inj (by rw [Array.length_toList, h.size]; exact hi) nd).mp (h1.trans h2.symm))

section
variable {b : Nat → Nat → Bool} {n : Nat}
theorem TO.not (O : TO b n) {i j : Nat} (hi : i < n) (hj : j < n) (hne : i ≠ j) (h : b i j = false) : b j i = true := by
  rcases O.tot i j hi hj hne with h1 | h1
  · rw [h] at h1; cases h1
  · exact h1
theorem Asc.ext (O : TO b n) {p : Array Nat} {k : Nat} (h : Asc b p k) (hk : 0 < k) (hn : b (At p (k - 1)) (At p k) = true) : Asc b p (k + 1) := by
  intro i j hij hj
  by_cases e : j = k
  · subst e
    by_cases e2 : i = j - 1
    · subst e2; exact hn
    · exact O.tr _ _ _ (h i (j - 1) (by lia) (by lia)) hn
  · exact h i j hij (by lia)

theorem asc_ok (O : TO b n) {p : Array Nat} (hp : PP p n) : ∀ (f k : Nat), 0 < k → k + f ≤ n → Asc b p k → ∃ m, kasR b n (kas_asc p f k) = some m ∧ k ≤ m ∧ m ≤ k + f ∧ Asc b p m ∧ (m < k + f → b (At p m) (At p (m - 1)) = true) := by
  intro f
  induction f with
  | zero => intro k h0 hk h; exact ⟨k, rfl, Nat.le_refl _, Nat.le_refl _, h, fun h => absurd h (Nat.lt_irrefl _)⟩
  | succ f ih =>
    intro k h0 hk h
    have ea : kasR b n (kas_asc p (f + 1) k) = kasR b n (if b (At p k) (At p (k - 1)) = true then KasT.ret k else kas_asc p f (k + 1)) := kasR_ask (hp.lt (by lia)) (hp.lt (by lia))
    rw [ea]
    cases hb : b (At p k) (At p (k - 1)) with
    | true => exact ⟨k, rfl, Nat.le_refl _, by lia, h, fun _ => hb⟩
    | false =>
      have hn : b (At p (k - 1)) (At p k) = true := O.not (hp.lt (by lia)) (hp.lt (by lia)) (hp.inj (by lia) (by lia) (by lia)) hb
      obtain ⟨m, h1, h2, h3, h4, h5⟩ := ih (k + 1) (by lia) (by lia) (h.ext O h0 hn)
      exact ⟨m, h1, by lia, by lia, h4, fun hm => h5 (by lia)⟩

noncomputable def Dsc (b : Nat → Nat → Bool) (p : Array Nat) (k : Nat) : Prop := ∀ i j, i < j → j < k → b (At p j) (At p i) = true
theorem Dsc.ext (O : TO b n) {p : Array Nat} {k : Nat} (h : Dsc b p k) (hk : 0 < k) (hn : b (At p k) (At p (k - 1)) = true) : Dsc b p (k + 1) := by
  intro i j hij hj
  by_cases e : j = k
  · subst e
    by_cases e2 : i = j - 1
    · subst e2; exact hn
    · exact O.tr _ _ _ hn (h i (j - 1) (by lia) (by lia))
  · exact h i j hij (by lia)
theorem desc_ok (O : TO b n) {p : Array Nat} (hp : PP p n) : ∀ (f k : Nat), 0 < k → k + f ≤ n → Dsc b p k → ∃ m, kasR b n (kas_desc f p k 0) = some (p, m, 0) ∧ k ≤ m ∧ m ≤ k + f ∧ Dsc b p m := by
  intro f
  induction f with
  | zero => intro k h0 hk h; exact ⟨k, rfl, Nat.le_refl _, Nat.le_refl _, h⟩
  | succ f ih =>
    intro k h0 hk h
    have ea : kasR b n (kas_desc (f + 1) p k 0) = kasR b n (if b (At p k) (At p (k - 1)) = true then (if 0 > 0 then kas_desc f (kas_rev p (k - (0 + 1)) k) (k + 1) 0 else kas_desc f p (k + 1) 0)
      else .ask (At p (k - 1)) (At p k) fun d => if d = true then .ret (p, k, 0) else kas_desc f p (k + 1) (0 + 1)) := kasR_ask (hp.lt (by lia)) (hp.lt (by lia))
    rw [ea]
    cases hb : b (At p k) (At p (k - 1)) with
    | true =>
      obtain ⟨m, h1, h2, h3, h4⟩ := ih (k + 1) (by lia) (by lia) (h.ext O h0 hb)
      exact ⟨m, h1, by lia, by lia, h4⟩
    | false =>
      have hn : b (At p (k - 1)) (At p k) = true := O.not (hp.lt (by lia)) (hp.lt (by lia)) (hp.inj (by lia) (by lia) (by lia)) hb
      refine ⟨k, ?_, Nat.le_refl _, by lia, h⟩
      show kasR b n (.ask (At p (k - 1)) (At p k) fun d => if d = true then KasT.ret (p, k, 0) else kas_desc f p (k + 1) (0 + 1)) = _
      rw [kasR_ask (hp.lt (by lia)) (hp.lt (by lia)), hn]; rfl

theorem rev_at {p : Array Nat} {m k : Nat} (hm : m ≤ p.size) (hk : k < m) : At (kas_rev p 0 m) k = At p (m - 1 - k) := by
  have h := getElem?_mirror_all (xs := p) (i := 0) (j := m) hm k
  rw [if_pos ⟨Nat.zero_le _, hk⟩] at h
  refine At_of (h.trans ?_)
  rw [show 0 + m - 1 - k = m - 1 - k from by lia]
  exact At_get (by lia)
theorem rev_pp {p : Array Nat} {m : Nat} (hp : PP p n) : PP (kas_rev p 0 m) n := ⟨(Array.perm_iff_toList_perm.mp (mirror_perm p 0 m ((m - 0) / 2))).trans hp.perm⟩
theorem rev_asc {p : Array Nat} {m : Nat} (hm : m ≤ p.size) (h : Dsc b p m) : Asc b (kas_rev p 0 m) m := by
  intro i j hij hj
  rw [rev_at hm (by lia), rev_at hm hj]
  exact h _ _ (by lia) (by lia)

theorem tail3_ok (O : TO b n) {p : Array Nat} {m : Nat} (hp : PP p n) (h0 : 0 < m) (hm : m ≤ n) (h : Dsc b p m) : ∃ m' p', kasR b n (kas_tail3 m n p) = some (m', p') ∧ 0 < m' ∧ m' ≤ n ∧ PP p' n ∧ Asc b p' m' := by
  unfold kas_tail3
  rw [kasR_bind]
  have hp' := rev_pp (m := m) hp
  obtain ⟨m', h1, h2, h3, h4, _⟩ := asc_ok O hp' (n - m) m h0 (by lia) (rev_asc (by rw [hp.size]; exact hm) h)
  rw [h1]
  exact ⟨m', _, rfl, by lia, by lia, hp', h4⟩

theorem count_ok (O : TO b n) {p : Array Nat} (hp : PP p n) (h2 : 2 ≤ n) : ∃ m' p', kasR b n (kas_count n p) = some (m', p') ∧ 0 < m' ∧ m' ≤ n ∧ PP p' n ∧ Asc b p' m' := by
  unfold kas_count
  rw [kasR_bind]
  obtain ⟨m, h1, h3, h4, h5, h6⟩ := asc_ok O hp (n - 1) 1 (by lia) (by lia) (fun i j hij hj => by lia)
  rw [h1, Option.bind_some]
  by_cases e : m = n
  · subst e
    rw [if_pos (by simp)]
    exact ⟨m, p, rfl, by lia, Nat.le_refl _, hp, h5⟩
  · rw [if_neg (by simpa using e)]
    by_cases e2 : m > 1
    · rw [if_pos e2]
      have ea : kasR b n (.ask (p.getD 0 0) (p.getD (m - 1) 0) fun c => if c = true then KasT.ret (m, p) else kas_descPart m n (kas_rev p 0 m)) = kasR b n (if b (At p 0) (At p (m - 1)) = true then KasT.ret (m, p) else kas_descPart m n (kas_rev p 0 m)) := kasR_ask (hp.lt (by lia)) (hp.lt (by lia))
      rw [ea, h5 0 (m - 1) (by lia) (by lia), if_pos rfl]
      exact ⟨m, p, rfl, by lia, by lia, hp, h5⟩
    · rw [if_neg e2]
      have e3 : m = 1 := by lia
      subst e3
      have hd := h6 (by lia)
      unfold kas_descPart
      rw [kasR_bind]
      obtain ⟨k, g1, g2, g3, g4⟩ := desc_ok O hp (n - (1 + 1)) (1 + 1) (by lia) (by lia) (fun i j hij hj => by
        have : i = 0 ∧ j = 1 := by lia
        rw [this.1, this.2]; exact hd)
      rw [g1, Option.bind_some]
      show ∃ m' p', kasR b n (if 0 > 0 then _ else kas_tail3 k n p) = _ ∧ _
      rw [if_neg (Nat.lt_irrefl _)]
      exact tail3_ok O hp (by lia) (by lia) g4

theorem place_ok (O : TO b n) {p : Array Nat} (hp : PP p n) {k : Nat} (hk : k < n) (hs : Asc b p k) : ∀ (f l r : Nat), r - l ≤ f → l ≤ r → r ≤ k → (∀ i, i < l → b (At p i) (At p k) = true) → (∀ i, r ≤ i → i < k → b (At p k) (At p i) = true) →
    ∃ l', kasR b n (kas_place p k f l r) = some l' ∧ l' ≤ k ∧ (∀ i, i < l' → b (At p i) (At p k) = true) ∧ (∀ i, l' ≤ i → i < k → b (At p k) (At p i) = true) := by
  intro f
  induction f with
  | zero =>
    intro l r hf hlr hr h1 h2
    have : l = r := by lia
    subst this
    exact ⟨l, rfl, hr, h1, h2⟩
  | succ f ih =>
    intro l r hf hlr hr h1 h2
    rw [kas_place]
    by_cases e : l ≥ r
    · rw [if_pos e]
      have : l = r := by lia
      subst this
      exact ⟨l, rfl, hr, h1, h2⟩
    · rw [if_neg e]
      have ea : kasR b n (.ask (p.getD k 0) (p.getD ((l + r) / 2) 0) fun c => if c = true then kas_place p k f l ((l + r) / 2) else kas_place p k f ((l + r) / 2 + 1) r) = kasR b n (if b (At p k) (At p ((l + r) / 2)) = true then kas_place p k f l ((l + r) / 2) else kas_place p k f ((l + r) / 2 + 1) r) := kasR_ask (hp.lt hk) (hp.lt (by lia))
      rw [ea]
      cases hb : b (At p k) (At p ((l + r) / 2)) with
      | true =>
        rw [if_pos rfl]
        refine ih l ((l + r) / 2) (by lia) (by lia) (by lia) h1 fun i hi hik => ?_
        by_cases e2 : i = (l + r) / 2
        · rw [e2]; exact hb
        · exact O.tr _ _ _ hb (hs _ _ (by lia) hik)
      | false =>
        have hn : b (At p ((l + r) / 2)) (At p k) = true := O.not (hp.lt hk) (hp.lt (by lia)) (hp.inj hk (by lia) (by lia)) hb
        rw [if_neg (by decide)]
        refine ih ((l + r) / 2 + 1) r (by lia) (by lia) hr (fun i hi => ?_) h2
        by_cases e2 : i = (l + r) / 2
        · rw [e2]; exact hn
        · exact O.tr _ _ _ (hs i ((l + r) / 2) (by lia) (by lia)) hn

theorem bub_at {p : Array Nat} {k l i : Nat} (hk : k < p.size) (hl : l ≤ k) (hi : i ≤ k) : At (bubble p k (k - l)) i = if i = l then At p k else if l < i then At p (i - 1) else At p i := by
  have h := getElem?_bubble hk (k - l) (by lia) i
  have e : k - (k - l) = l := by lia
  rw [e] at h
  by_cases e1 : i = l
  · rw [if_pos e1] at h ⊢
    exact At_of (h.trans (At_get hk))
  · rw [if_neg e1] at h ⊢
    by_cases e2 : l < i
    · rw [if_pos ⟨e2, hi⟩] at h
      rw [if_pos e2]
      exact At_of (h.trans (At_get (by lia)))
    · rw [if_neg (fun h => e2 h.1)] at h
      rw [if_neg e2]
      exact At_of (h.trans (At_get (by lia)))

theorem bin_ok (O : TO b n) : ∀ (f : Nat) (p : Array Nat) (k : Nat), k + f = n → PP p n → Asc b p k → ∃ p', kasR b n (kas_bin f p k) = some p' ∧ PP p' n ∧ Asc b p' n := by
  intro f
  induction f with
  | zero => intro p k hk hp h; have : k = n := by lia
            subst this; exact ⟨p, rfl, hp, h⟩
  | succ f ih =>
    intro p k hk hp h
    rw [kas_bin, kasR_bind]
    obtain ⟨l, h1, h2, h3, h4⟩ := place_ok O hp (show k < n by lia) h k 0 k (by lia) (by lia) (Nat.le_refl _) (fun i hi => by lia) (fun i hi hik => by lia)
    rw [h1, Option.bind_some]
    have hks : k < p.size := by rw [hp.size]; lia
    refine ih _ (k + 1) (by lia) ⟨(Array.perm_iff_toList_perm.mp (bubble_perm p k (k - l))).trans hp.perm⟩ ?_
    intro i j hij hj
    rw [bub_at hks h2 (by lia), bub_at hks h2 (by lia)]
    by_cases ei : i = l
    · rw [if_pos ei, if_neg (by lia), if_pos (by lia)]
      exact h4 _ (by lia) (by lia)
    · rw [if_neg ei]
      by_cases ej : j = l
      · rw [if_pos ej, if_neg (by lia)]
        exact h3 i (by lia)
      · rw [if_neg ej]
        by_cases e1 : l < i
        · rw [if_pos e1, if_pos (by lia)]
          exact h _ _ (by lia) (by lia)
        · rw [if_neg e1]
          by_cases e2 : l < j
          · rw [if_pos e2]
            by_cases e3 : i = j - 1
            · lia
            · exact h _ _ (by lia) (by lia)
          · rw [if_neg e2]; exact h _ _ hij (by lia)

theorem sort_ok (O : TO b n) (h2 : 2 ≤ n) : ∃ p, kasR b n (kas_sort n) = some p ∧ PP p n ∧ Asc b p n := by
  unfold kas_sort
  rw [kasR_bind]
  obtain ⟨m, p, h1, h3, h4, h5, h6⟩ := count_ok O (p := List.toArray (List.range n)) ⟨.refl _⟩ h2
  rw [h1, Option.bind_some]
  show ∃ p', kasR b n (if m < n then kas_bin (n - max m 1) p (max m 1) else .ret p) = some p' ∧ _
  by_cases e : m < n
  · rw [if_pos e]
    have e2 : max m 1 = m := by lia
    rw [e2]
    exact bin_ok O (n - m) p m (by lia) h5 h6
  · rw [if_neg e]
    have : m = n := by lia
    subst this
    exact ⟨p, rfl, h5, h6⟩
end
end Mine

namespace Mine
section
variable {c : Cx} {F : List (Addr × Obj)} {M M' : Led} {s : Shared} {A : Around} {E : Value → Shared → Prop} {Q : Value → Shared → Prop} {x : Str} {env : Env} {pos : Pos} {v : Value} {t u : Tok} {m mc : Str → Option Value} {L a : Addr} {P : Obj → Prop}

theorem led_uniq {P P' : Obj → Prop} : ∀ {M : Led}, (M.map (·.1)).Nodup → (a, P) ∈ M → (a, P') ∈ M → P = P'
  | p :: M, hn, h1, h2 => by
    rw [List.map_cons, List.nodup_cons] at hn
    rcases List.mem_cons.mp h1 with e1 | e1 <;> rcases List.mem_cons.mp h2 with e2 | e2
    · rw [← e1] at e2; exact (Prod.mk.inj e2).2.symm
    · exact absurd (List.mem_map.mpr ⟨_, e2, by rw [← e1]⟩) hn.1
    · exact absurd (List.mem_map.mpr ⟨_, e1, by rw [← e2]⟩) hn.1
    · exact led_uniq hn.2 e1 e2

/-- all stays but L's namespace, which stays as a namespace; one object is new -/
theorem Is.viaNs (hs : Is c F M s) (hL : (L, NsP m) ∈ M) {h' : Heap} {D : Addr} {o : Obj} {tk : Nat} (hns : h'.Ns L m) (hN : ∀ a o, a ≠ L → s.heap.get? a = some o → h'.get? a = some o) (hDn : s.heap.get? D = none) (h3 : 3 < D) (ho : h'.get? D = some o) (hP : P o) :
    Is c F ((D, P) :: M) { s with heap := h', toks := tk } := by
  have hLs : ∃ o, s.heap.get? L = some o := let ⟨o, e, _⟩ := hs.get hL; ⟨o, e⟩
  have led : ∀ p ∈ M, ∃ o, h'.get? p.1 = some o ∧ p.2 o := by
    intro p hp
    by_cases e : p.1 = L
    · obtain ⟨a, P'⟩ := p
      simp only at e
      subst e
      have := led_uniq hs.st.nd hp hL
      subst this
      exact NsP.of hns
    · obtain ⟨o, eo, q⟩ := hs.st.led p hp
      exact ⟨o, hN _ _ e eo, q⟩
  refine ⟨⟨fun b o e => hN b o ?_ (hs.st.base b o e), fun p hp => hN _ _ ?_ (hs.st.fro p hp), ?_, ?_, hs.st.upF, ?_, hs.st.hiF, ?_, ?_⟩, hs.gens, hs.os, hs.gd⟩
  · intro hb; subst hb; exact hs.st.noB hL e
  · intro hb; exact hs.st.off _ hL p hp hb.symm
  · intro p hp
    rcases List.mem_cons.mp hp with rfl | hp
    · exact ⟨o, ho, hP⟩
    · exact led p hp
  · intro p hp
    rcases List.mem_cons.mp hp with rfl | hp
    · show c.B.get? D = none
      cases e : c.B.get? D with
      | none => rfl
      | some o => have := hs.st.base _ _ e; rw [hDn] at this; cases this
    · exact hs.st.up p hp
  · intro p hp
    rcases List.mem_cons.mp hp with rfl | hp
    · exact h3
    · exact hs.st.hi p hp
  · intro p hp q hq
    rcases List.mem_cons.mp hp with rfl | hp
    · intro e
      have := hs.st.fro q hq
      rw [← e, hDn] at this; cases this
    · exact hs.st.off p hp q hq
  · refine List.nodup_cons.mpr ⟨fun hm => ?_, hs.st.nd⟩
    obtain ⟨p, hp, e⟩ := List.mem_map.mp hm
    obtain ⟨o, q, _⟩ := hs.st.led p hp
    have e' : p.1 = D := e
    rw [e', hDn] at q; cases q

/-- all objects but one's -/
noncomputable def allBut (h : Heap) (L : Addr) : List (Addr × Obj) := (List.range h.objs.size).filterMap fun a => if a = L then none else (h.get? a).map fun o => (a, o)
theorem allBut_mem {h : Heap} {a : Addr} {o : Obj} : (a, o) ∈ allBut h L ↔ a ≠ L ∧ h.get? a = some o := by
  unfold allBut
  rw [List.mem_filterMap]
  constructor
  · rintro ⟨b, hb, e⟩
    split at e
    · cases e
    · rename_i hne
      obtain ⟨o', e1, e2⟩ := Option.map_eq_some_iff.mp e
      cases e2
      exact ⟨hne, e1⟩
  · rintro ⟨hne, e⟩
    exact ⟨a, List.mem_range.mpr (Heap.lt_size e), by rw [if_neg hne, e]; rfl⟩
noncomputable def noHeap (h : Heap) : Heap := { h with objs := #[] }
theorem noHeap_get (h : Heap) (a : Addr) : (noHeap h).get? a = none := by
  cases e : (noHeap h).get? a with
  | none => rfl
  | some o => have := Heap.lt_size e; exact absurd this (Nat.not_lt_zero _)
theorem Is.fr (hs : Is c F M s) (hL : (L, NsP m) ∈ M) : Fr (noHeap s.heap) L s.heap m ∧ News (noHeap s.heap) L s.heap (allBut s.heap L) :=
  ⟨⟨hs.ns hL, (fun b o e => by rw [noHeap_get] at e; exact nomatch e), Nat.zero_le _⟩, fun p hp => by
    obtain ⟨a, o⟩ := p
    obtain ⟨h1, h2⟩ := allBut_mem.mp hp
    exact ⟨h2, h1, noHeap_get _ _⟩⟩

theorem keys_at {F : List (Addr × Obj)} {vs : List Value} {ks : List (Int × Str)} (h : Keys F vs ks) {i : Nat} (hi : i < vs.length) : KeyIn F (vs.getD i .none) (ks.getD i (0, "")) := by
  obtain ⟨v, e, hk⟩ := h.get (i := i) (List.getElem?_eq_getElem (by rw [← h.length]; exact hi))
  rw [List.getD, e, List.getD, List.getElem?_eq_getElem (by rw [← h.length]; exact hi)]
  exact hk
theorem Keys.tups {F : List (Addr × Obj)} {h : Heap} (hF : ∀ p ∈ F, h.get? p.1 = some p.2) {vs : List Value} {ks : List (Int × Str)} (hk : Keys F vs ks) : ∃ fs, KatTups h vs fs ∧ fs.length = vs.length ∧ ∀ v ∈ fs, ∃ i t, v = .int i t := by
  induction hk with
  | nil => exact ⟨[], trivial, rfl, fun v hv => nomatch hv⟩
  | cons hv _ ih =>
    obtain ⟨fs, h1, h2, h3⟩ := ih
    obtain ⟨a, n, t, u, rfl, hm⟩ := hv
    refine ⟨.int _ t :: fs, KatTups.cons (hF _ hm) rfl rfl rfl h1, by simp [h2], fun v hv => ?_⟩
    rcases List.mem_cons.mp hv with rfl | hv
    · exact ⟨_, _, rfl⟩
    · exact h3 v hv

theorem key_lt {s : Shared} {A : Around} {Q : Bool → Shared → Prop} {v v' : Value} {k k' : Int × Str} (hF : ∀ p ∈ F, s.heap.get? p.1 = some p.2) (hv : KeyIn F v k) (hv' : KeyIn F v' k') (h : Q (kLt k k') s) :
    wpAny (model c.prog c.w) A (keyLt' (tuples' true) v v') Q (fun _ _ => False) s := by
  obtain ⟨a, n, t, u, rfl, ma⟩ := hv
  obtain ⟨a', n', t', u', rfl, ma'⟩ := hv'
  refine kat_lt (hF _ ma) rfl (hF _ ma') rfl ?_
  show KatLex _ _ _ _ _ _ [(Value.int k.1 t, Value.int k'.1 t'), (Value.str k.2 u, Value.str k'.2 u')] 0 s
  refine kat_cons (wpAny_eqBool_int (kat_go (fun e => ?_) fun e => ?_))
  · have e : k.1 = k'.1 := by simpa using e
    refine kat_yes (kat_cons (wpAny_eqBool_str (kat_go (fun e2 => ?_) fun e2 => ?_)))
    · have e2 : k.2 = k'.2 := by simpa using e2
      refine kat_yes (kat_nil ?_)
      have : kLt k k' = false := by
        have : k = k' := Prod.ext e e2
        rw [this]; exact kLt_irr _
      rw [this] at h; exact h
    · have e2 : k.2 ≠ k'.2 := by simpa using e2
      refine kat_no (kat_one _ _ ?_)
      refine PyProof.Rows.lt_str ?_
      have : kLt k k' = decide (k.2.cps.toList < k'.2.cps.toList) := by
        unfold kLt keyLt; simp [e]
      rw [this] at h
      exact h
  · have e : k.1 ≠ k'.1 := by simpa using e
    refine kat_no ?_
    refine oneLt_int ?_
    have : kLt k k' = decide (k.1 < k'.1) := by
      unfold kLt keyLt; simp [e]
    rw [this] at h
    exact h

theorem keys_of_idx {F : List (Addr × Obj)} {vs : List Value} {ks : List (Int × Str)} (h : Keys F vs ks) : ∀ (l : List Nat), (∀ i ∈ l, i < vs.length) → Keys F (l.map fun i => vs.getD i .none) (l.map fun i => ks.getD i (0, ""))
  | [], _ => .nil
  | i :: l, hl => .cons (keys_at h (hl i (.head _))) (keys_of_idx h l fun j hj => hl j (.tail _ hj))

theorem r_sorted {l : Addr} {vs : List Value} {ks : List (Int × Str)} (hs : Is c F M s) (hL : (L, NsP m) ∈ M) (hl : s.heap.IsList l vs.toArray) (hk : Keys F vs ks) (hnd : ks.Nodup) (h2 : 2 ≤ vs.length) (h64 : vs.length < 64)
    (h : ∀ D vs' ks' s', Keys F vs' ks' → ks'.Perm ks → ks'.Pairwise (fun a b => kLt a b = true) → Is c F ((D, LsP vs') :: M) s' → Q (.ref D) s') :
    wpAny (model c.prog c.w) A (call (.builtin "sorted") [.ref l]) Q E s := by
  obtain ⟨fr, nw⟩ := hs.fr hL
  have hlen := hk.length
  refine kat_sorted fr nw hl h2 h64 fun D e1 h' fr' nw' hlow => ?_
  have hold : ∀ a o, a ≠ L → s.heap.get? a = some o → h'.get? a = some o := fun a o hne e => (nw' (a, o) (.tail _ (allBut_mem.mpr ⟨hne, e⟩))).1
  have hLs : ∃ o, s.heap.get? L = some o := let ⟨o, e, _⟩ := hs.get hL; ⟨o, e⟩
  have hD : s.heap.get? D = none := by
    cases e : s.heap.get? D with
    | none => rfl
    | some o =>
      have h1 := (nw' _ (.head _)).2.1
      exact absurd (hlow (D, o) (allBut_mem.mpr ⟨h1, e⟩)) (Nat.lt_irrefl _)
  have hF' : ∀ p ∈ F, h'.get? p.1 = some p.2 := fun p hp => hold _ _ (fun e => hs.st.off _ hL p hp e.symm) (hs.st.fro p hp)
  obtain ⟨fs, t1, t2, t3⟩ := hk.tups (h := h') hF'
  refine kat_kind (s := { s with heap := h' }) (T := .type "int") t1 (by lia) (fun v hv => ?_) (by decide) ?_
  · obtain ⟨i, t, rfl⟩ := t3 v hv
    exact Looks.of_pure rfl
  show (kas_sort vs.length).kasWp (kas_ask c.prog c.w A.in1.in1 (tuples' true) vs) _ _
  have O : TO (fun i j => decide (i < vs.length) && decide (j < vs.length) && kLt (ks.getD i (0, "")) (ks.getD j (0, ""))) vs.length := by
    refine ⟨fun i => by rw [kLt_irr]; simp, fun i j k h1 h2 => ?_, fun i j hi hj hne => ?_⟩
    · simp only [Bool.and_eq_true, decide_eq_true_eq] at h1 h2 ⊢
      exact ⟨⟨h1.1.1, h2.1.2⟩, kLt_trans h1.2 h2.2⟩
    · simp only [hi, hj, decide_true, Bool.true_and]
      rcases kLt_tri (ks.getD i (0, "")) (ks.getD j (0, "")) with h | h | h
      · exact .inl h
      · exfalso
        rw [List.getD, List.getD, List.getElem?_eq_getElem (by lia), List.getElem?_eq_getElem (by lia)] at h
        exact hne ((List.getElem_inj hnd).mp h)
      · exact .inr h
  obtain ⟨p, hp1, hp2, hp3⟩ := sort_ok O h2
  refine kasR_wp (b := fun i j => decide (i < vs.length) && decide (j < vs.length) && kLt (ks.getD i (0, "")) (ks.getD j (0, ""))) (n := vs.length) (I := fun s' => s' = { s with heap := h' }) ?_ (kas_sort vs.length) _ p hp1 rfl ?_
  · rintro i j C s' hi hj rfl hC
    refine key_lt (F := F) hF' (keys_at hk hi) (keys_at hk hj) ?_
    have := hC _ rfl
    simpa [hi, hj] using this
  · rintro s' rfl
    refine KasFin.intro fr' nw' (.head fun q hq => Nat.ne_of_lt (hlow q hq)) fun h'' cc fr'' nw'' => ?_
    have hmem : ∀ i ∈ p.toList, i < vs.length := fun i hi => by simpa using hp2.perm.mem_iff.mp hi
    refine h D _ _ _ (keys_of_idx hk p.toList hmem) ?_ ?_ ?_
    · refine (hp2.perm.map _).trans ?_
      have : (List.range vs.length).map (fun i => ks.getD i (0, "")) = ks := by
        apply List.ext_getElem?
        intro i
        by_cases hi : i < vs.length
        · rw [List.getElem?_map, List.getElem?_range hi, Option.map_some, List.getD, List.getElem?_eq_getElem (by lia)]; rfl
        · rw [List.getElem?_eq_none (by simp; lia), List.getElem?_eq_none (by lia)]
      rw [this]
    · rw [List.pairwise_map, List.pairwise_iff_getElem]
      intro i j hi hj hij
      have hps := hp2.size
      rw [Array.length_toList] at hi hj
      have := hp3 i j hij (by lia)
      have e1 : At p i = p.toList[i] := by apply At_of; rw [Array.getElem?_eq_getElem hi]; simp
      have e2 : At p j = p.toList[j] := by apply At_of; rw [Array.getElem?_eq_getElem hj]; simp
      rw [e1, e2] at this
      simp only [Bool.and_eq_true] at this
      exact this.2
    · refine hs.viaNs (tk := s.toks) hL fr''.ns (fun a o hne e => (nw'' (a, o) (.tail _ (allBut_mem.mpr ⟨hne, e⟩))).1) hD ?_ (nw'' _ (.head _)).1 ⟨cc, rfl⟩
      obtain ⟨o, es, ep, e, _⟩ := hs.gd.T.g.keeps hs.st.base
      have h3L : mainGlobals ≠ L := fun q => absurd (show 3 < L from hs.st.hi _ hL) (by rw [← q]; exact Nat.lt_irrefl 3)
      exact hlow (mainGlobals, o) (allBut_mem.mpr ⟨h3L, e⟩)
end
end Mine

namespace Mine
section
variable {c : Cx} {F : List (Addr × Obj)} {M M' : Led} {s : Shared} {A : Around} {E : Value → Shared → Prop} {Q : Value → Shared → Prop} {x : Str} {env : Env} {pos : Pos} {v : Value} {t u : Tok} {m mc : Str → Option Value} {L a : Addr} {P : Obj → Prop}

/-- a slice of a list, without a step -/
theorem r_sliceL {value : Expr} {lower upper : Option Expr} {p : Pos}
    (h : wpAny (model c.prog c.w) A (eval value env) (fun o s₁ => wpAny (model c.prog c.w) A (evalPart lower env) (fun vl s₂ => wpAny (model c.prog c.w) A (evalPart upper env) (fun vu s₃ =>
      Ex6 fun l items lo hi F M => And7 (o = .ref l) (s₃.heap.IsList l items) (items.size ≤ 100000) (IsPart vl lo) (IsPart vu hi) (Is c F M s₃) (∀ D s', Is c F ((D, LsP (slicePick items lo hi none).toList) :: M) s' → Q (.ref D) s')) E s₂) E s₁) E s)
    (ht : ∀ o r, letTemporaryGo value o r = pure () := by intro _ _; rfl) :
    wpAny (model c.prog c.w) A (eval (.Subscript value (.Slice lower upper none p) pos) env) Q E s := by
  refine wpAny_Subscript_list_slice (wpAny_mono h (fun o s₁ h₁ => wpAny_mono h₁ (fun vl s₂ h₂ => wpAny_mono h₂ (fun vu s₃ h₃ => ?_) fun _ _ x => x) fun _ _ x => x) fun _ _ x => x) ht
  obtain ⟨l, items, lo, hi, F, M, rfl, hl, hz, pl, pu, hs, k⟩ := h₃
  refine ⟨l, items, lo, hi, rfl, hl, by rw [sizeLine_eq]; lia, pl, pu, ?_⟩
  have hs1 := (hs.push { cls := .type "slice", data := .fields #[vl, vu, .none] }).drop
  have hs2 := hs1.push { cls := .type "list", data := .seq (slicePick items lo hi none) }
  have e : ({ s₃ with heap := s₃.heap.push { cls := .type "slice", data := .fields #[vl, vu, .none] } } : Shared).heap.objs.size = s₃.heap.objs.size + 1 := Heap.size_push ..
  rw [e] at hs2
  exact k _ _ (hs2.weaken fun o q => ⟨0, by rw [q]⟩)

theorem r_addL {l b : Addr} {vs ws : List Value} {n n' : Nat} (hs : Is c F M s) (hl : s.heap.get? l = some (lisO vs n)) (hb : s.heap.get? b = some (lisO ws n')) (hz : vs.length + ws.length ≤ 100000)
    (h : ∀ D s', Is c F ((D, LsP (vs ++ ws)) :: M) s' → Q (.ref D) s') : wpAny (model c.prog c.w) A (binaryOp .Add (.ref l) (.ref b)) Q E s :=
  P.add_list (items := vs.toArray) (items2 := ws.toArray) hl hb (h _ _ ((hs.push _).weaken fun o q => ⟨0, by rw [q]; simp⟩)) (by rw [sizeLine_eq]; simp; lia)

theorem r_abs {i : Int} (hs : Is c F M s) (h : ∀ t s', Is c F M s' → Q (.int (if i < 0 then -i else i) t) s') : wpAny (model c.prog c.w) A (call (.builtin "abs") [.int i t]) Q E s :=
  call_abs_int fun u tk => h u _ (hs.toks tk)

theorem r_sum {l : Addr} {vs : List Value} {ns : List Int} (hs : Is c F M s) (hh : A.handled = none) (hl : s.heap.IsList l vs.toArray) (hi : IntsAre vs ns) (h : ∀ t s', Is c F M s' → Q (.int ns.sum t) s') :
    wpAny (model c.prog c.w) A (call (.builtin "sum") [.ref l]) Q E s := by
  obtain ⟨xs, e⟩ := hi.allInts.items
  have hn : (xs.toList.map (·.1)) = ns := by
    have h1 := nums_intItems xs
    rw [← e] at h1
    rw [← h1, show vs.toArray.toList = vs from rfl, hi.numsOf]
  rw [e] at hl
  refine sum_intListG hh hl fun h' tk t' hk => ?_
  have := h t' _ (hs.keeps tk hk)
  rw [preSum_eq, List.take_of_length_le (by simp), hn]
  exact this

/-- list.extend by a frozen list -/
theorem m_extend {l : Addr} {vs : List Value} {e : Expr} (hs : Is c F M s) (hm : (l, LsP vs) ∈ M)
    (h : wpAny (model c.prog c.w) A (eval e env) (fun v s₁ => Ex7 fun F M vs ws n b g => And6 (v = .ref b) (Is c F M s₁) (UpdF l (LsP vs) M g) ((b, lisO ws n) ∈ F) (vs.length + ws.length ≤ 100000) (∀ s', Is c F (g (LsP (vs ++ ws))) s' → Q .none s')) E s) :
    MethodOn c.prog c.w A "extend" pos (.ref l) [(false, eval e env)] Q E s := by
  obtain ⟨n0, hl⟩ := LsP.obj hs hm
  refine ⟨"list", "list.extend", PySem.F.plainAttrs_list, PySem.F.slot_list_extend, PySem.F.type_list_extend, ⟨_, hl, rfl⟩, ?_, ?_⟩
  · intro a e; cases e; exact ⟨_, hl, rfl⟩
  · refine P.extend_list (wpAny_mono h (fun v s₁ h₁ => ?_) fun _ _ x => x)
    obtain ⟨F, M, vs, ws, n, b, g, rfl, hs, hu, hb, hz, k⟩ := h₁
    obtain ⟨o, eo, n1, rfl⟩ := hs.get hu.mem
    refine ⟨b, vs.toArray, ws.toArray, n1, n, by rw [sizeLine_eq]; simp; lia, by rw [sizeLine_eq]; simp; lia, ?_, rfl, eo, hs.getF hb, k _ ?_⟩
    · have : Builtin.List.listTooLong (vs.toArray.size + ws.toArray.size) = false := by
        unfold Builtin.List.listTooLong; rw [sizeLine_eq]; simp; lia
      rw [this]; simp
    · obtain ⟨o', e', hp⟩ := LsP.set (f := fun xs => xs ++ ws.toArray) eo ⟨n1, rfl⟩ (vs ++ ws) (by simp)
      exact hs.change hu.upd s₁.toks (fun b o hb eb => (Heap.get?_update_other _ _ (Ne.symm hb)).trans eb) e' hp
end
end Mine

namespace Mine
/-- the row that a number stands for -/
noncomputable def pOf (x : Int) : List Str := if x.fmod 2 = 1 then dP else mP
noncomputable def qOf (x : Int) : Int := x.fdiv 2
noncomputable def lenOf (x : Int) : Nat := if (qOf x).fmod 3 = 0 then 1 else if (qOf x).fmod 3 = 1 then 2 else (3 - x.fmod 2).toNat
noncomputable def bitOf (x : Int) (i : Nat) : Nat := ((((qOf x).fdiv 3).fdiv (2 ^ i)).fmod 2).toNat
noncomputable def rowOf (x : Int) : List Str := (List.range (lenOf x)).map fun i => (pOf x).getD (bitOf x i) ""
noncomputable def manOf (x : Int) : Int := ((qOf x).fdiv 24).fmod 4

theorem fmod2 (x : Int) : x.fmod 2 = 0 ∨ x.fmod 2 = 1 := by
  have h1 := Int.fmod_nonneg_of_pos x (b := 2) (by decide)
  have h2 := Int.fmod_lt_of_pos x (b := 2) (by decide)
  lia
theorem fmod3 (x : Int) : x.fmod 3 = 0 ∨ x.fmod 3 = 1 ∨ x.fmod 3 = 2 := by
  have h1 := Int.fmod_nonneg_of_pos x (b := 3) (by decide)
  have h2 := Int.fmod_lt_of_pos x (b := 3) (by decide)
  lia
theorem fmod4 (x : Int) : x.fmod 4 = 0 ∨ x.fmod 4 = 1 ∨ x.fmod 4 = 2 ∨ x.fmod 4 = 3 := by
  have h1 := Int.fmod_nonneg_of_pos x (b := 4) (by decide)
  have h2 := Int.fmod_lt_of_pos x (b := 4) (by decide)
  lia
theorem bit_lt (x : Int) (i : Nat) : bitOf x i < 2 := by
  unfold bitOf
  rcases fmod2 (((qOf x).fdiv 3).fdiv (2 ^ i)) with h | h <;> rw [h] <;> decide
theorem len_ok (x : Int) : (x.fmod 2 = 1 → lenOf x = 1 ∨ lenOf x = 2) ∧ (x.fmod 2 = 0 → lenOf x = 1 ∨ lenOf x = 2 ∨ lenOf x = 3) := by
  unfold lenOf
  rcases fmod3 (qOf x) with h | h | h <;> rw [h] <;> constructor <;> intro hx <;> rw [hx] <;> decide

theorem row_d' : ∀ (a b : _root_.Fin 2), [dP.getD a.1 ""] ∈ dRows ∧ [dP.getD a.1 "", dP.getD b.1 ""] ∈ dRows := by decide +kernel
theorem row_d (a b : Nat) (ha : a < 2) (hb : b < 2) : [dP.getD a ""] ∈ dRows ∧ [dP.getD a "", dP.getD b ""] ∈ dRows := row_d' ⟨a, ha⟩ ⟨b, hb⟩
theorem row_m' : ∀ (a b c : _root_.Fin 2), [mP.getD a.1 ""] ∈ mRows ∧ [mP.getD a.1 "", mP.getD b.1 ""] ∈ mRows ∧ [mP.getD a.1 "", mP.getD b.1 "", mP.getD c.1 ""] ∈ mRows := by decide +kernel
theorem row_m (a b c : Nat) (ha : a < 2) (hb : b < 2) (hc : c < 2) : [mP.getD a ""] ∈ mRows ∧ [mP.getD a "", mP.getD b ""] ∈ mRows ∧ [mP.getD a "", mP.getD b "", mP.getD c ""] ∈ mRows := row_m' ⟨a, ha⟩ ⟨b, hb⟩ ⟨c, hc⟩

theorem rowOf_odd {x : Int} (h : x.fmod 2 = 1) : rowOf x ∈ dRows := by
  unfold rowOf
  have hp : pOf x = dP := if_pos h
  rw [hp]
  have := row_d (bitOf x 0) (bitOf x 1) (bit_lt _ _) (bit_lt _ _)
  rcases (len_ok x).1 h with e | e <;> rw [e]
  · exact this.1
  · exact this.2
theorem rowOf_even {x : Int} (h : x.fmod 2 = 0) : rowOf x ∈ mRows := by
  unfold rowOf
  have hp : pOf x = mP := if_neg (by rw [h]; decide)
  rw [hp]
  have := row_m (bitOf x 0) (bitOf x 1) (bitOf x 2) (bit_lt _ _) (bit_lt _ _) (bit_lt _ _)
  rcases (len_ok x).2 h with e | e | e <;> rw [e]
  · exact this.1
  · exact this.2.1
  · exact this.2.2
theorem rowOf_all (x : Int) : rowOf x ∈ allRows := by
  rcases fmod2 x with h | h
  · exact List.mem_append_left _ (rowOf_even h)
  · exact List.mem_append_right _ (rowOf_odd h)
theorem row_8 : rowOf 8 = (["ab", "a"] : List Str) := by decide +kernel
theorem row_51 : rowOf 51 = (["x", "x"] : List Str) := by decide +kernel
theorem pylong_small (a b : Int) (h : b.natAbs < 2 ^ 60) : Builtin.divisionGoesByPylong a b = false := by
  unfold Builtin.divisionGoesByPylong
  have hd : (if (b == 0) = true then 0 else b.natAbs.log2 / 30 + 1) ≤ 300 := by
    split
    · lia
    · have : b.natAbs.log2 ≤ 60 := by
        by_cases h0 : b.natAbs = 0
        · rw [h0]; decide
        · have := (Nat.log2_lt h0).mpr h; lia
      lia
  have : decide ((if (b == 0) = true then 0 else b.natAbs.log2 / 30 + 1) > 300) = false := decide_eq_false (by lia)
  dsimp only
  rw [this]; rfl
end Mine

namespace Mine
variable {w : World} {B : Heap} {os : OsState} {mg mb : Str → Option Value} {F : List (Addr × Obj)} {M M' : Led} {s : Shared} {A : Around} {E : Value → Shared → Prop}

theorem g_written (G : Gd (cx w B os mg mb)) : mg "_law_written" = some (.ref 132) := mg_of G.X G.T.g (by kernel_rfl)

theorem r_iterR0 {c : Cx} {rr : Addr} {n : Nat} {Q : Value → Shared → Prop} (hs : Is c F M s) (hr : (rr, RgP 0 ((n : Nat) : Int)) ∈ M) (hn : n < 100000) (h : ∀ I s', Is c F ((I, RiP 0 1 n 0) :: M) s' → Q (.ref I) s') :
    wpAny (model c.prog c.w) A (pyIter (.ref rr)) Q E s := r_iterR (a := 0) hs (by rw [Int.zero_add]; exact hr) (by decide) (by decide) hn h
/-- rows as frozen lists -/
inductive RowsIn (F : List (Addr × Obj)) : List Value → List (List Str) → Prop
  | nil : RowsIn F [] []
  | cons {a vs n v r vr rs} : v = .ref a → (a, lisO vs n) ∈ F → StrsAre vs r → RowsIn F vr rs → RowsIn F (v :: vr) (r :: rs)
theorem RowsIn.mono {F F' : List (Addr × Obj)} {vs : List Value} {rs : List (List Str)} (h : RowsIn F vs rs) (hf : ∀ p ∈ F, p ∈ F') : RowsIn F' vs rs := by
  induction h with
  | nil => exact .nil
  | cons e m st _ ih => exact .cons e (hf _ m) st ih
theorem RowsIn.snoc {F : List (Addr × Obj)} {vs : List Value} {rs : List (List Str)} {a : Addr} {ws : List Value} {n : Nat} {r : List Str} (h : RowsIn F vs rs) (hm : (a, lisO ws n) ∈ F) (hst : StrsAre ws r) : RowsIn F (vs ++ [.ref a]) (rs ++ [r]) := by
  induction h with
  | nil => exact .cons rfl hm hst .nil
  | cons e m st _ ih => exact .cons e m st ih
theorem RowsIn.length {F : List (Addr × Obj)} {vs : List Value} {rs : List (List Str)} (h : RowsIn F vs rs) : vs.length = rs.length := by
  induction h with
  | nil => rfl
  | cons _ _ _ _ ih => simp [ih]
theorem RowsIn.get {F : List (Addr × Obj)} {vs : List Value} {rs : List (List Str)} (h : RowsIn F vs rs) : ∀ {i : Nat} {v : Value}, vs[i]? = some v → Ex4 fun a ws n r => And4 (v = .ref a) ((a, lisO ws n) ∈ F) (StrsAre ws r) (rs[i]? = some r) := by
  induction h with
  | nil => intro i v e; simp at e
  | cons e m st _ ih =>
    intro i v hv
    cases i with
    | zero => simp at hv; subst hv; exact ⟨_, _, _, _, e, m, st, rfl⟩
    | succ i => exact ih (by simpa using hv)

theorem ints_get {vs : List Value} {ns : List Int} (h : IntsAre vs ns) : ∀ {i : Nat} {v : Value}, vs[i]? = some v → ∃ x t, v = .int x t ∧ ns[i]? = some x := by
  induction h with
  | nil => intro i v e; simp at e
  | cons y u _ ih =>
    intro i v e
    cases i with
    | zero => simp at e; exact ⟨y, u, e.symm, rfl⟩
    | succ i => exact ih (by simpa using e)
/-- the numbers -/
noncomputable def numsL (ns : List Int) : List Int := [8, 34, 51, 105] ++ ns.take 6
noncomputable def listedOf (ns : List Int) : List (List Str) := (numsL ns).map rowOf
/-- directories as written -/
noncomputable def dirsW : List Int → List Str
  | [] => []
  | x :: r => if x.fmod 2 = 1 then written (rowOf x) (manOf x) :: dirsW r else dirsW r
noncomputable def modsW : List Int → List Str
  | [] => []
  | x :: r => if x.fmod 2 = 1 then modsW r else tx (rowOf x) :: modsW r
theorem dirsW_app (a b : List Int) : dirsW (a ++ b) = dirsW a ++ dirsW b := by
  induction a with
  | nil => rfl
  | cons x r ih => simp only [List.cons_append, dirsW]; split <;> simp [ih]
theorem modsW_app (a b : List Int) : modsW (a ++ b) = modsW a ++ modsW b := by
  induction a with
  | nil => rfl
  | cons x r ih => simp only [List.cons_append, modsW]; split <;> simp [ih]

set_option maxHeartbeats 8000000 in
theorem law_1 {L fa sl : Addr} {cdv : Value} {body : List Stmt} {scope : Scope} {m mc : Str → Option Value} {Q : Flow → Shared → Prop} {so : Obj} {vsS : List Value} {ns : List Int} (hb : lawFd w.params = some (body, scope))
    (hs : Is (cx w B os mg mb) F ((L, NsP m) :: (cel (lawCs L) mc ++ M)) s) (r : Rm 20 A) (hsl : B.IsList sl vsS.toArray) (hsi : IntsAre vsS ns) (hmc : mc "script" = some (.ref sl)) (hn63 : ns.length ≤ 63)
    (k : ∀ F' m' mc' ll lm ld vl vm vd nl nm nd s', (∀ p ∈ F, p ∈ F') → mc' "script" = some (.ref sl) → mc' "listed" = some (.ref ll) → m' "modules" = some (.ref lm) → m' "directories" = some (.ref ld) →
      (ll, lisO vl nl) ∈ F' → (lm, lisO vm nm) ∈ F' → (ld, lisO vd nd) ∈ F' → RowsIn F' vl (listedOf ns) → StrsAre vm (modsW (numsL ns)) → StrsAre vd (dirsW (numsL ns)) →
      Is (cx w B os mg mb) F' ((L, NsP m') :: (cel (lawCs L) mc' ++ M)) s' → wpAny (model (cx w B os mg mb).prog w) A (execs (body.drop 4) (envOfC "law" scope L fa cdv)) Q E s') :
    wpAny (model (cx w B os mg mb).prog w) A (execs body (envOfC "law" scope L fa cdv)) Q E s := by
  have hb' := hb
  unfold lawFd at hb'
  conv at hb' => lhs; whnf
  simp only [Option.some.injEq, Prod.mk.injEq] at hb'
  obtain ⟨rfl, rfl⟩ := hb'
  have hnd := lawCs_nodup L
  have c1 : (("script" : Str), L + 1) ∈ lawCs L := by simp [lawCs]
  have c2 : (("listed" : Str), L + 2) ∈ lawCs L := by simp [lawCs]
  have c3 : (("parts" : Str), L + 3) ∈ lawCs L := by simp [lawCs]
  have c4 : (("q" : Str), L + 4) ∈ lawCs L := by simp [lawCs]
  have c5 : (("row" : Str), L + 5) ∈ lawCs L := by simp [lawCs]
  refine wpAny_execs_cons (r_assign (r_list (c := cx w B os mg mb) (wpAny_items_nil ⟨by simp, _, _, hs, fun ll s hs => ?_⟩)))
  have hs := hs.sink
  refine r_stC hs (.tail (cel_upd hnd c2 _)) rfl fun s hs => ?_
  refine wpAny_execs_cons (r_assign (r_list (c := cx w B os mg mb) (wpAny_items_nil ⟨by simp, _, _, hs, fun lm s hs => ?_⟩)))
  have hs := hs.sink
  refine r_st hs .head fun s hs => ?_
  refine wpAny_execs_cons (r_assign (r_list (c := cx w B os mg mb) (wpAny_items_nil ⟨by simp, _, _, hs, fun ld s hs => ?_⟩)))
  have hs := hs.sink
  refine r_st hs .head fun s hs => ?_
  refine wpAny_execs_cons (wpAny_For (wpAny_BinOp (r_list (c := cx w B os mg mb) (wpAny_items_cons (r_int hs fun u1 s hs => wpAny_items_cons (r_int hs fun u2 s hs => wpAny_items_cons (r_int hs fun u3 s hs => wpAny_items_cons (r_int hs fun u4 s hs => wpAny_items_nil ⟨by simp, _, _, hs, fun l4 s hs => ?_⟩))))))))
  refine hs.fzL .head fun n4 hs => ?_
  refine r_sliceL (c := cx w B os mg mb) (r_cel (mc := up mc "listed" (.ref ll)) hs (.tail _ (cel_mem c1)) rfl (by exact hmc) ?_)
  have hsz : vsS.length = ns.length := hsi.length
  refine ev_none (ev_some (r_int hs fun t6 s hs => ⟨sl, vsS.toArray, none, some 6, _, _, rfl, hsl.at fun o e => hs.st.base _ o e, by simp; lia, .none, .int 6 t6, hs, fun ls s hs => ?_⟩))
  have hsl6 : IntsAre (slicePick vsS.toArray none (some 6) none).toList (ns.take 6) := kmk_upto hsi (by decide)
  refine hs.getL in0 fun n6 e6 => ?_
  have hl6 := hsl6.length
  refine r_addL hs (hs.getF (.head _)) e6 (by rw [hl6]; simp; lia) fun lx s hs => ?_
  have hs := hs.out (.tail .head)
  refine hs.fzL .head fun nx hs => ?_
  have hxs : IntsAre ([Value.int 8 u1, .int 34 u2, .int 51 u3, .int 105 u4] ++ (slicePick vsS.toArray none (some 6) none).toList) (numsL ns) := .cons _ _ (.cons _ _ (.cons _ _ (.cons _ _ hsl6)))
  generalize [Value.int 8 u1, .int 34 u2, .int 51 u3, .int 105 u4] ++ (slicePick vsS.toArray none (some 6) none).toList = vx at hs hxs
  refine r_iterL hs (.head _) fun I s hne hs => ?_
  refine r_for (Iter.list r.hd hne) (fun i F1 M1 => Ex5 fun m mc vl vm vd => And11 (M1 = (L, NsP m) :: (cel (lawCs L) mc ++ (ld, LsP vd) :: (lm, LsP vm) :: (ll, LsP vl) :: M)) (mc "script" = some (.ref sl)) (mc "listed" = some (.ref ll)) (m "modules" = some (.ref lm)) (m "directories" = some (.ref ld)) (RowsIn F1 vl (((numsL ns).take i).map rowOf)) (StrsAre vm (modsW ((numsL ns).take i))) (StrsAre vd (dirsW ((numsL ns).take i))) (vl.length = i) (vm.length ≤ i) (vd.length ≤ i)) hs (fun p hp => (List.mem_singleton.mp hp) ▸ .head _)
    ⟨_, _, [], [], [], rfl, hmc, rfl, rfl, rfl, .nil, .nil, .nil, rfl, Nat.le_refl _, Nat.le_refl _⟩ ?_ ?_
  · rintro i v F1 M1 s E' hi hv ⟨m, mc, vl, vm, vd, rfl, mc1, mc2, m1, m2, hrl, hsm, hsd, hl1, hl2, hl3⟩ hF1 hs
    obtain ⟨x, tx', rfl, ex⟩ : ∃ x t, v = .int x t ∧ (numsL ns)[i]? = some x := ints_get hxs hv
    refine wpAny_assign_Name (r_st hs (.tail .head) fun s hs => gen fun QB hQB => ?_)
    refine wpAny_execs_cons (r_assign (r_cut (Q' := fun v s => Ex4 fun lp vp np F2 => And5 (v = .ref lp) ((∀ p ∈ F1, p ∈ F2)) ((lp, lisO vp np) ∈ F2) (StrsAre vp (pOf x)) (Is (cx w B os mg mb) F2 ((I, LiP lx (i + 1)) :: (L, NsP (up m "x" (.int x tx'))) :: (cel (lawCs L) mc ++ (ld, LsP vd) :: (lm, LsP vm) :: (ll, LsP vl) :: M)) s)) ?_ ?_))
    · refine gen fun QC hQC => ?_
      refine wpAny_IfExp (wpAny_isTrue_Compare1 (wpAny_BinOp (r_loc hs in1 rfl (r_int hs fun _ s hs => r_mod hs (by decide) fun _ s hs => r_int hs fun _ s hs => r_eqi (c := cx w B os mg mb) (wpAny_truthy_bool ?_)))))
      by_cases hx : x.fmod 2 = 1
      · refine if_t (by simp [hx]) (r_list (c := cx w B os mg mb) (wpAny_items_cons (r_str hs fun v1 s hs => wpAny_items_cons (r_str hs fun v2 s hs => wpAny_items_nil ⟨by simp, _, _, hs, fun lp s hs => ?_⟩))))
        refine hs.fzL .head fun np hs => ?_
        refine hQC _ _ ⟨lp, _, np, _, rfl, fun p hp => .tail _ hp, .head _, ?_, hs⟩
        have : pOf x = dP := if_pos hx
        rw [this]; exact .cons _ _ (.cons _ _ .nil)
      · refine if_f (by simpa using hx) (r_list (c := cx w B os mg mb) (wpAny_items_cons (r_str hs fun v1 s hs => wpAny_items_cons (r_str hs fun v2 s hs => wpAny_items_nil ⟨by simp, _, _, hs, fun lp s hs => ?_⟩))))
        refine hs.fzL .head fun np hs => ?_
        refine hQC _ _ ⟨lp, _, np, _, rfl, fun p hp => .tail _ hp, .head _, ?_, hs⟩
        have : pOf x = mP := if_neg hx
        rw [this]; exact .cons _ _ (.cons _ _ .nil)
    clear hs
    rintro v s ⟨lp, vp, np, F2, rfl, hF2, hlp, hvp, hs⟩
    refine r_stC hs (.tail (.tail (cel_upd hnd c3 _))) rfl fun s hs => ?_
    refine wpAny_execs_cons (r_assign (wpAny_BinOp (r_loc hs in1 rfl (r_int hs fun _ s hs => r_div hs (by decide) (pylong_small _ _ (by decide)) fun tq s hs => ?_))))
    refine r_stC hs (.tail (.tail (cel_upd hnd c4 _))) rfl fun s hs => ?_
    have hq : x.fdiv 2 = qOf x := rfl
    rw [hq] at hs
    refine hs.hide3 in1 (.tail _ (.tail _ (cel_mem (mc := up (up mc "parts" (.ref lp)) "q" (.int (qOf x) tq)) c4))) (.tail _ (.tail _ (cel_mem (mc := up (up mc "parts" (.ref lp)) "q" (.int (qOf x) tq)) c3))) fun M1 iL i4 i3 hs back => ?_
    refine wpAny_execs_cons (r_assign (r_lc (c := cx w B os mg mb) [("q", L + 4), ("parts", L + 3)] rfl ?_))
    refine r_CallT (c := cx w B os mg mb) hs (b_range hs.gd) bb_range (by decide) (wpAny_items_cons (Subscript_ (r_list (c := cx w B os mg mb) (wpAny_items_cons (r_int hs fun w1 s hs => wpAny_items_cons (r_int hs fun w2 s hs => wpAny_items_cons (wpAny_BinOp (r_int hs fun _ s hs => wpAny_BinOp (r_loc hs iL rfl (r_int hs fun _ s hs => r_mod hs (by decide) fun _ s hs => r_sub hs fun w3 s hs => wpAny_items_nil ⟨by simp, _, _, hs, fun l3 s hs => ?_⟩))))))))))
    refine wpAny_BinOp (r_cel (x := "q") (mc := up (up mc "parts" (.ref lp)) "q" (.int (qOf x) tq)) hs (.tail _ i4) rfl rfl (r_int hs fun _ s hs => r_mod hs (by decide) fun _ s hs => ?_))
    obtain ⟨tl, hitem⟩ : ∃ tl, [Value.int 1 w1, .int 2 w2, .int (3 - x.fmod 2) w3][((qOf x).fmod 3).toNat]? = some (.int (lenOf x : Nat) tl) := by
      unfold lenOf
      have := fmod2 x
      rcases fmod3 (qOf x) with h | h | h <;> rw [h]
      · exact ⟨w1, rfl⟩
      · exact ⟨w2, rfl⟩
      · refine ⟨w3, ?_⟩
        have e : (((3 - x.fmod 2).toNat : Nat) : Int) = 3 - x.fmod 2 := by lia
        show some (Value.int (3 - x.fmod 2) w3) = some (.int (((3 - x.fmod 2).toNat : Nat) : Int) w3)
        rw [e]
    refine r_item hs in0 (by have := fmod3 (qOf x); lia) (by have := fmod3 (qOf x); lia) hitem ?_
    have hs := hs.drop
    have hlen3 : lenOf x ≤ 3 := by
      rcases fmod2 x with h | h
      · rcases (len_ok x).2 h with e | e | e <;> lia
      · rcases (len_ok x).1 h with e | e <;> lia
    refine wpAny_items_nil (r_range1 hs fun rr s hs => ?_)
    refine r_iterR0 hs in0 (by lia) fun I2 s hs => ?_
    have hs := hs.out (.tail .head)
    have hvpl := strs_len hvp
    have hpl : (pOf x).length = 2 := by unfold pOf; split <;> rfl
    refine LcSrc.fixed hs (Iter.range0 r.hd) (fun p hp => nomatch hp) (fun i2 vs => StrsAre vs ((List.range i2).map fun i => (pOf x).getD (bitOf x i) "") ∧ vs.length = i2) ⟨.nil, rfl⟩ ?_ ?_
    · rintro C D i2 v vs m2 s E2 hi2 ⟨tv, rfl⟩ ⟨hst, hvl⟩ hs
      refine wpAny_assign_Name (r_st hs (.tail .head) fun s hs => wpAny_tests_nil (if_t rfl (gen fun QD hQD => ?_)))
      refine Subscript_ (r_cel (x := "parts") (mc := up (up mc "parts" (.ref lp)) "q" (.int (qOf x) tq)) hs (.tail _ (.tail _ (.tail _ i3))) rfl rfl ?_)
      refine wpAny_BinOp (wpAny_BinOp (wpAny_BinOp (r_cel (x := "q") (mc := up (up mc "parts" (.ref lp)) "q" (.int (qOf x) tq)) hs (.tail _ (.tail _ (.tail _ i4))) rfl rfl (r_int hs fun _ s hs => r_div hs (by decide) (pylong_small _ _ (by decide)) fun _ s hs => ?_))))
      refine wpAny_BinOp (r_int hs fun _ s hs => r_loc hs in1 rfl (r_pow hs (by omega) (by have e : (Builtin.Int.intBits 2 : Int) = 2 := by decide
                                                                                           rw [e]; lia) fun _ s hs => ?_))
      have hpow : (2 : Int) ^ ((i2 : Int)).toNat = 2 ^ i2 := rfl
      have hp4 : (2 : Int) ^ i2 = 1 ∨ (2 : Int) ^ i2 = 2 ∨ (2 : Int) ^ i2 = 4 := by
        have : i2 = 0 ∨ i2 = 1 ∨ i2 = 2 := by lia
        rcases this with h | h | h <;> rw [h]
        · exact .inl rfl
        · exact .inr (.inl rfl)
        · exact .inr (.inr rfl)
      rw [hpow]
      refine r_div hs (by lia) (pylong_small _ _ (by rcases hp4 with h | h | h <;> rw [h] <;> decide)) fun _ s hs => r_int hs fun _ s hs => r_mod hs (by decide) fun ti s hs => ?_
      have hb01 := fmod2 (((qOf x).fdiv 3).fdiv (2 ^ i2))
      have hbl := bit_lt x i2
      obtain ⟨ve, hve⟩ : ∃ ve, vp[bitOf x i2]? = some ve := ⟨_, List.getElem?_eq_getElem (by lia)⟩
      obtain ⟨y, ty, rfl, ey⟩ := strs_get hvp hve
      refine r_itemF hs hlp (by lia) (by lia) hve (hQD _ _ ⟨by lia, _, ⟨?_, by simp [hvl]⟩, hs⟩)
      rw [List.range_succ, List.map_append]
      have : (pOf x).getD (bitOf x i2) "" = y := by rw [List.getD, ey]; rfl
      rw [List.map_singleton, this]
      exact strs_snoc hst y ty
    rintro lr vr s ⟨hst, hvl⟩ hs
    have hs := back [(lr, LsP vr)] _ _ hs
    have hst : StrsAre vr (rowOf x) := hst
    refine hs.fzL .head fun nr hs => ?_
    refine r_stC hs (.tail (.tail (cel_upd hnd c5 _))) rfl fun s hs => ?_
    have hsmall : Small (rowOf x) := small_of (all_of f_small (rowOf_all x))
    refine hs.pack2 (fun F3 => (∀ p ∈ F2, p ∈ F3)) (fun F3 => (lr, lisO vr nr) ∈ F3) (fun p hp => .tail _ hp) (.head _) fun F3 hF3 hlr hs => ?_
    generalize hmc3 : up (up (up mc "parts" (.ref lp)) "q" (.int (qOf x) tq)) "row" (.ref lr) = mc3 at hs
    have k1 : mc3 "script" = some (.ref sl) := by rw [← hmc3]; exact mc1
    have k2 : mc3 "listed" = some (.ref ll) := by rw [← hmc3]; exact mc2
    have k3 : mc3 "row" = some (.ref lr) := by rw [← hmc3]; rfl
    have k4 : mc3 "q" = some (.int (qOf x) tq) := by rw [← hmc3]; rfl
    have hnl : (numsL ns).length ≤ 10 := by unfold numsL; rw [List.length_append, List.length_take]; simp; lia
    have hi10 : i < 10 := by have := (List.getElem?_eq_some_iff.mp ex).1; lia
    refine wpAny_execs_cons (wpAny_Expr (wpAny_Call_method1_late rfl rfl rfl (r_cel (x := "listed") (mc := mc3) hs (.tail _ (.tail _ (cel_mem c2))) rfl k2 (m_append hs (.tail _ (mem_fr (.tail _ (.tail _ (.head _))))) ?_))))
    refine r_cel (x := "row") (mc := mc3) hs (.tail _ (.tail _ (cel_mem c5))) rfl k3 ⟨_, _, _, _, hs, .tail (.fr (.tail (.tail .head))), by lia, fun s hs => ?_⟩
    have hrl2 : RowsIn F3 (vl ++ [.ref lr]) (((numsL ns).take (i + 1)).map rowOf) := by
      rw [List.take_add_one, ex, List.map_append]
      exact (hrl.mono fun p hp => hF3 p (hF2 p hp)).snoc hlr hst
    have hF13 : ∀ p ∈ F1, p ∈ F3 := fun p hp => hF3 p (hF2 p hp)
    refine wpAny_execs_cons (wpAny_If (wpAny_isTrue_Compare1 (wpAny_BinOp (r_loc hs in1 rfl (r_int hs fun _ s hs => r_mod hs (by decide) fun _ s hs => r_int hs fun _ s hs => r_eqi (c := cx w B os mg mb) (wpAny_truthy_bool ?_))))))
    by_cases hx : x.fmod 2 = 1
    · refine if_t (by simp [hx]) (wpAny_execs_cons (wpAny_Expr (wpAny_Call_method1_late rfl rfl rfl (r_loc hs in1 m2 (m_append hs (.tail _ (mem_fr (.head _))) ?_)))))
      refine r_Call (c := cx w B os mg mb) hs (g_written hs.gd) (by rfl) rfl (wpAny_items_cons (r_cel (x := "row") (mc := mc3) hs (.tail _ (.tail _ (cel_mem c5))) rfl k3 (wpAny_items_cons (wpAny_BinOp (wpAny_BinOp (r_cel (x := "q") (mc := mc3) hs (.tail _ (.tail _ (cel_mem c4))) rfl k4 (r_int hs fun _ s hs => r_div hs (by decide) (pylong_small _ _ (by decide)) fun _ s hs => r_int hs fun _ s hs => r_mod hs (by decide) fun _ s hs => wpAny_items_nil ⟨hs.K, ?_⟩)))))))
      refine written_c hs (r.mono (by decide)) hlr hst hsmall fun tw s hs => ⟨_, _, _, _, hs, .tail (.fr .head), by lia, fun s hs => wpAny_execs_nil (wpAny_execs_nil ?_)⟩
      refine hQB _ _ ⟨F3, _, hF13, ?_, hs⟩
      refine ⟨_, mc3, _, _, _, rfl, k1, k2, m1, m2, hrl2, ?_, ?_, by simp [hl1], by lia, by simp; lia⟩
      · rw [List.take_add_one, ex, modsW_app]
        show StrsAre vm (modsW _ ++ (if x.fmod 2 = 1 then [] else [tx (rowOf x)]))
        rw [if_pos hx, List.append_nil]; exact hsm
      · rw [List.take_add_one, ex, dirsW_app]
        show StrsAre (vd ++ _) (dirsW _ ++ (if x.fmod 2 = 1 then [written (rowOf x) (manOf x)] else []))
        rw [if_pos hx]; exact strs_snoc hsd _ tw
    · refine if_f (by simpa using hx) (wpAny_execs_cons (wpAny_Expr (wpAny_Call_method1_late rfl rfl rfl (r_loc hs in1 m1 (m_append hs (.tail _ (mem_fr (.tail _ (.head _)))) ?_)))))
      apply r_cmeth hs PySem.F.slot_str_join PySem.F.type_str_join
      · rfl
      · rfl
      intro _ s hs
      refine r_cel (x := "row") (mc := mc3) hs (.tail _ (.tail _ (cel_mem c5))) rfl k3 ?_
      refine r_joinF hs hlr hst (by decide) (by have := hsmall.1; lia) fun tw s hs => ⟨_, _, _, _, hs, .tail (.fr (.tail .head)), by lia, fun s hs => wpAny_execs_nil (wpAny_execs_nil ?_)⟩
      have hx0 : x.fmod 2 = 0 := by rcases fmod2 x with h | h; exact h; exact absurd h hx
      have etx : tx (rowOf x) = Txt.join "." (rowOf x) := by
        have : mRows.all (fun r => decide (tx r = Txt.join "." r)) = true := by decide +kernel
        simpa using all_of this (rowOf_even hx0)
      refine hQB _ _ ⟨F3, _, hF13, ?_, hs⟩
      refine ⟨_, mc3, _, _, _, rfl, k1, k2, m1, m2, hrl2, ?_, ?_, by simp [hl1], by simp; lia, by lia⟩
      · rw [List.take_add_one, ex, modsW_app]
        show StrsAre (vm ++ _) (modsW _ ++ (if x.fmod 2 = 1 then [] else [tx (rowOf x)]))
        rw [if_neg hx, etx]; exact strs_snoc hsm _ tw
      · rw [List.take_add_one, ex, dirsW_app]
        show StrsAre vd (dirsW _ ++ (if x.fmod 2 = 1 then [written (rowOf x) (manOf x)] else []))
        rw [if_neg hx, List.append_nil]; exact hsd
  · rintro F1 M1 s ⟨m, mc, vl, vm, vd, rfl, mc1, mc2, m1, m2, hrl, hsm, hsd, hl1, hl2, hl3⟩ hF1 hs
    have hlen : vx.length = (numsL ns).length := hxs.length
    rw [hlen, List.take_length] at hrl hsm hsd
    refine hs.fzL (.fr .head) fun nd hs => ?_
    refine hs.fzL (.fr .head) fun nm hs => ?_
    refine hs.fzL (.fr .head) fun nl hs => ?_
    exact k _ m mc ll lm ld vl vm vd nl nm nd s (fun p hp => .tail _ (.tail _ (.tail _ (hF1 p (.tail _ (.tail _ hp)))))) mc1 mc2 m1 m2 (.head _) (.tail _ (.head _)) (.tail _ (.tail _ (.head _))) (hrl.mono fun p hp => .tail _ (.tail _ (.tail _ hp))) hsm hsd hs
end Mine

namespace Mine
section
variable {c : Cx} {F : List (Addr × Obj)} {M M' : Led} {s : Shared} {A : Around} {E : Value → Shared → Prop} {env : Env} {x : Str} {pos : Pos} {v : Value} {m : Str → Option Value}

/-- an iterator of tuples, which a target of tuples takes apart -/
structure TIter (c : Cx) (A : Around) (I : Addr) (n : Nat) (Fd : List (Addr × Obj)) (G : Nat → Led) (V : List (Addr × Obj) → Nat → Value → Prop) : Prop where
  item : ∀ i F M s (Q : Option Value → Shared → Prop) (E : Value → Shared → Prop), i < n → Is c F (G i ++ M) s → (∀ p ∈ Fd, p ∈ F) →
    (∀ v s₁, (∀ elts k pos (Q' : Unit → Shared → Prop) (E' : Value → Shared → Prop), (∀ F' s', (∀ p ∈ F, p ∈ F') → V F' i v → Is c F' (G (i + 1) ++ M) s' → Q' () s') → wpAny (model c.prog c.w) A (letOwnedTupleGo (.Tuple elts k pos) (.ref I) v) Q' E' s₁) → Q (some v) s₁) →
    wpAny (model c.prog c.w) A (pyNext (.ref I)) Q E s
  done : ∀ F M s (Q : Option Value → Shared → Prop) (E : Value → Shared → Prop), Is c F (G n ++ M) s → (∀ p ∈ Fd, p ∈ F) → (∀ s', Is c F M s' → Q none s') → wpAny (model c.prog c.w) A (pyNext (.ref I)) Q E s
  self : ∀ i F M s (Q : Value → Shared → Prop) (E : Value → Shared → Prop), Is c F (G i ++ M) s → Q (.ref I) s → wpAny (model c.prog c.w) A (pyIter (.ref I)) Q E s

theorem TIter.list {I l : Addr} {vs : List Value} {k : Nat} (hh : A.handled = none) (hne : l ≠ I) (hr : ∀ (i : Nat) (v : Value), vs[i]? = some v → ∃ T, v = .ref T) :
    TIter c A I vs.length [(l, lisO vs k)] (fun i => [(I, LiP l i)]) (fun _ i v => vs[i]? = some v) where
  item := fun i F M s Q E hi hs hF h => (Iter.list hh hne).item i F M s Q E hi hs hF fun v s' hv hs' => h v s' fun elts kk pos Q' E' h' => by
    obtain ⟨T, rfl⟩ := hr i v hv
    obtain ⟨o, e, h1, h2⟩ := hs'.get (.head _)
    exact wpAny_letOwnedTupleGo_listiter ⟨o, e, h1, h2⟩ (h' F s' (fun _ h => h) hv hs')
  done := fun F M s Q E hs hF h => (Iter.list hh hne).done F M s Q E hs hF h
  self := fun i F M s Q E hs hq => (Iter.list (vs := vs) (k := k) hh hne).self i F M s Q E hs hq

/-- enumerate's object -/
noncomputable def EnP (it : Addr) (i : Nat) (o : Obj) : Prop := ∃ old, o = { cls := .type "enumerate", dict := none, data := .fields #[.none, .bool false, .ref it, rawInt (i : Int), .none, old], slots := #[] }

theorem TIter.enum {e it l : Addr} {vs : List Value} {k : Nat} (hh : A.handled = none) (hei : e ≠ it) (hli : l ≠ it) (hle : l ≠ e) :
    TIter c A e vs.length [(l, lisO vs k)] (fun i => [(e, EnP it i), (it, LiP l i)]) (fun F i v => Ex3 fun T t y => And3 (v = .ref T) (vs[i]? = some y) ((T, tupO [.int (i : Int) t, y]) ∈ F)) where
  item := fun i F M s Q E hi hs hF h => by
    obtain ⟨oe, ee, old, rfl⟩ := hs.get (.head _)
    obtain ⟨oi, ei, h1, h2⟩ := hs.get (.tail _ (.head _))
    have ex : vs[i]? = some vs[i] := List.getElem?_eq_getElem hi
    refine wpAny_pyNext_enum_item (l := l) (items := vs.toArray) ee ⟨oi, ei, h1, h2⟩ ⟨_, hs.getF (hF _ (.head _)), rfl, k, rfl⟩ (x := vs[i]) (by rw [List.getElem?_toArray]; exact ex) hei fun h' he' hit' hT' hz' hk' => ?_
    refine h _ _ fun elts kk pos Q' E' h'' => wpAny_letOwnedTupleGo_enum (s := { s with heap := h', toks := s.toks + 1 }) he' fun h2' he2 hs2 => ?_
    obtain ⟨oi', ei', g1, g2⟩ := hit'
    have hfr : s.heap.get? s.heap.objs.size = none := Heap.get_size _
    have hesz : e ≠ s.heap.objs.size := Nat.ne_of_lt (Heap.lt_size ee)
    have hisz : it ≠ s.heap.objs.size := Nat.ne_of_lt (Heap.lt_size ei)
    -- first the inner iterator, then enumerate, then the tuple
    have hall : ∀ b o, b ≠ e → b ≠ it → s.heap.get? b = some o → h2'.get? b = some o := fun b o hb1 hb2 eb => (hs2.2 b hb1).trans (hk' b o hb1 hb2 eb)
    have hs3 : Is c F ((s.heap.objs.size, (· = tupO [.int (i : Int) s.toks, vs[i]])) :: (e, EnP it (i + 1)) :: (it, LiP l (i + 1)) :: M) { s with heap := h2', toks := s.toks + 1 } := by
      have hB : ∀ b o, c.B.get? b = some o → b ≠ e ∧ b ≠ it := fun b o eb => ⟨fun q => hs.st.noB (.head _) (q ▸ eb), fun q => hs.st.noB (.tail _ (.head _)) (q ▸ eb)⟩
      refine ⟨⟨fun b o eb => hall b o (hB b o eb).1 (hB b o eb).2 (hs.st.base b o eb), fun p hp => hall _ _ (fun q => hs.st.off _ (.head _) p hp q.symm) (fun q => hs.st.off _ (.tail _ (.head _)) p hp q.symm) (hs.st.fro p hp), ?_, ?_, hs.st.upF, ?_, hs.st.hiF, ?_, ?_⟩, hs.gens, hs.os, hs.gd⟩
      · intro p hp
        rcases List.mem_cons.mp hp with rfl | hp
        · exact ⟨_, (hs2.2 _ (Ne.symm hesz)).trans hT', rfl⟩
        · rcases List.mem_cons.mp hp with rfl | hp
          · exact ⟨_, he2, _, rfl⟩
          · rcases List.mem_cons.mp hp with rfl | hp
            · exact ⟨oi', (hs2.2 _ (Ne.symm hei)).trans ei', g1, g2⟩
            · obtain ⟨o, eo, q⟩ := hs.get (.tail _ (.tail _ hp))
              have nd := hs.st.nd
              rw [List.map_append] at nd
              have nd1 := List.nodup_cons.mp nd
              have nd2 := List.nodup_cons.mp nd1.2
              exact ⟨o, hall _ _ (fun q => nd1.1 (List.mem_cons_of_mem _ (List.mem_map.mpr ⟨p, hp, q⟩))) (fun q => nd2.1 (List.mem_map.mpr ⟨p, hp, q⟩)) eo, q⟩
      · intro p hp
        rcases List.mem_cons.mp hp with rfl | hp
        · show c.B.get? _ = none
          cases eb : c.B.get? s.heap.objs.size with
          | none => rfl
          | some o => have := hs.st.base _ _ eb; rw [hfr] at this; cases this
        · rcases List.mem_cons.mp hp with rfl | hp
          · exact hs.st.up (e, EnP it i) (.head _)
          · rcases List.mem_cons.mp hp with rfl | hp
            · exact hs.st.up (it, LiP l i) (.tail _ (.head _))
            · exact hs.st.up p (.tail _ (.tail _ hp))
      · intro p hp
        rcases List.mem_cons.mp hp with rfl | hp
        · exact hs.big
        · rcases List.mem_cons.mp hp with rfl | hp
          · exact hs.st.hi (e, EnP it i) (.head _)
          · rcases List.mem_cons.mp hp with rfl | hp
            · exact hs.st.hi (it, LiP l i) (.tail _ (.head _))
            · exact hs.st.hi p (.tail _ (.tail _ hp))
      · intro p hp q hq
        rcases List.mem_cons.mp hp with rfl | hp
        · intro eq
          have := hs.st.fro q hq
          rw [← eq, hfr] at this; cases this
        · rcases List.mem_cons.mp hp with rfl | hp
          · exact hs.st.off (e, EnP it i) (.head _) q hq
          · rcases List.mem_cons.mp hp with rfl | hp
            · exact hs.st.off (it, LiP l i) (.tail _ (.head _)) q hq
            · exact hs.st.off p (.tail _ (.tail _ hp)) q hq
      · refine List.nodup_cons.mpr ⟨fun hm => ?_, hs.st.nd⟩
        rcases List.mem_cons.mp hm with q | hm
        · exact hesz q.symm
        · rcases List.mem_cons.mp hm with q | hm
          · exact hisz q.symm
          · obtain ⟨p, hp, q⟩ := List.mem_map.mp hm
            obtain ⟨o, eo, _⟩ := hs.get (.tail _ (.tail _ hp))
            have q' : p.1 = s.heap.objs.size := q
            rw [q', hfr] at eo; cases eo
    have hs4 := hs3.fz_eq .head
    exact h'' _ _ (fun p hp => .tail _ hp) ⟨_, s.toks, vs[i], rfl, ex, .head _⟩ hs4
  done := fun F M s Q E hs hF h => by
    obtain ⟨oe, ee, old, rfl⟩ := hs.get (.head _)
    obtain ⟨oi, ei, h1, h2⟩ := hs.get (.tail _ (.head _))
    refine wpAny_pyNext_enum_end (l := l) (items := vs.toArray) hh ee ⟨oi, ei, h1, h2⟩ ⟨_, hs.getF (hF _ (.head _)), rfl, k, rfl⟩ (by simp) fun h' hk => h _ ?_
    exact si_gone (s := s) (hs.perm (M' := (it, LiP l vs.length) :: (e, EnP it vs.length) :: M) (List.Perm.swap _ _ _)) (fun b o hb eb => hk b o hb eb) |>.drop
  self := fun i F M s Q E hs hq => by
    obtain ⟨oe, ee, old, rfl⟩ := hs.get (.head _)
    exact wpAny_pyIter_enum ee hq
end
end Mine

namespace Mine
section
variable {c : Cx} {F : List (Addr × Obj)} {M M' : Led} {s : Shared} {A : Around} {E : Value → Shared → Prop} {env : Env} {x : Str} {pos : Pos} {v : Value} {m : Str → Option Value}

theorem r_forT {elts : List Expr} {kk : Nat} {tp : Pos} {body : List Stmt} {I : Addr} {n : Nat} {Fd : List (Addr × Obj)} {G : Nat → Led} {V : List (Addr × Obj) → Nat → Value → Prop} {Q : Flow → Shared → Prop} (T : TIter c A I n Fd G V) (J : Nat → List (Addr × Obj) → Led → Prop)
    (hs : Is c F (G 0 ++ M) s) (hF : ∀ p ∈ Fd, p ∈ F) (h0 : J 0 F M)
    (hJ : ∀ i F M F', J i F M → (∀ p ∈ F, p ∈ F') → J i F' M)
    (turn : ∀ i v F' M' s E', i < n → V F' i v → J i F' M' → (∀ p ∈ F, p ∈ F') → Is c F' (G (i + 1) ++ M') s → wpAny (model c.prog c.w) A (assign (.Tuple elts kk tp) env v) (fun _ s₂ => wpAny (model c.prog c.w) A (execs body env) (fun f s₃ => match f with
        | .next | .cont => Ex2 fun F'' M'' => And3 ((∀ p ∈ F', p ∈ F'')) (J (i + 1) F'' M'') (Is c F'' (G (i + 1) ++ M'') s₃)
        | .brk => Q .next s₃
        | .ret v => Q (.ret v) s₃) E' s₂) E' s)
    (done : ∀ F' M' s, J n F' M' → (∀ p ∈ F, p ∈ F') → Is c F' M' s → Q .next s) :
    codeAny (model c.prog c.w) A (.forLoop (.Tuple elts kk tp) (.ref I) body [] env) (fun r s' => match r with | .ok f => Q f s' | .error e => cameBackBy (model c.prog c.w) A env E e s') s := by
  refine codeAny_forLoop_any (fun k s' => Ex3 fun i F' M' => And5 (k = n + 1 - i) (i ≤ n) ((∀ p ∈ F, p ∈ F')) (J i F' M') (Is c F' (G i ++ M') s')) ?_ (n + 1) ⟨0, F, M, rfl, Nat.zero_le _, fun _ h => h, h0, hs⟩
  rintro k s ⟨i, F', M', rfl, hi, hFF, hJi, hs⟩
  by_cases hlt : i < n
  · refine T.item i F' M' s _ _ hlt hs (fun p hp => hFF p (hF p hp)) fun v s₁ hgo => ?_
    refine hgo _ _ _ _ _ fun F2 s' hF2 hv hs' => ?_
    refine wpAny_mono (turn i v F2 M' s' _ hlt hv (hJ i F' M' F2 hJi hF2) (fun p hp => hF2 p (hFF p hp)) hs') (fun _ s₂ h₂ => wpAny_mono h₂ (fun f s₃ h₃ => ?_) fun _ _ x => x) fun _ _ x => x
    cases f with
    | next => obtain ⟨F'', M'', h1, h2, h3⟩ := h₃; exact ⟨n + 1 - (i + 1), by lia, i + 1, F'', M'', rfl, hlt, fun p hp => h1 p (hF2 p (hFF p hp)), h2, h3⟩
    | cont => obtain ⟨F'', M'', h1, h2, h3⟩ := h₃; exact ⟨n + 1 - (i + 1), by lia, i + 1, F'', M'', rfl, hlt, fun p hp => h1 p (hF2 p (hFF p hp)), h2, h3⟩
    | brk => exact h₃
    | ret v => exact h₃
  · have : i = n := by lia
    subst this
    exact T.done F' M' s _ _ hs (fun p hp => hFF p (hF p hp)) fun s' hs' => wpAny_execs_nil (done F' M' s' hJi hFF hs')

/-- a list comprehension whose target is a tuple -/
theorem compT {elt target iter : Expr} {ifs : List Expr} {scope : Scope} {pos : Pos} {it acc : Value} {env : Env} {R : Result → Shared → Prop} (I : Nat → Shared → Prop)
    (turn : ∀ n s, I n s → wpAny (model c.prog c.w) A (pyNext it) (fun r s₁ => match r with
      | none => R (.ok .next) s₁
      | some v => wpAny (model c.prog c.w) A (letOwnedTupleGo target it v) (fun _ s₁' => wpAny (model c.prog c.w) A (assign target env v) (fun _ s₂ => wpAny (model c.prog c.w) A (testsOf ifs env) (fun ok s₃ =>
            if ok = true then wpAny (model c.prog c.w) A (eval elt env) (fun x s₄ =>
              wpAny (model c.prog c.w) A (call (.builtin "list.append") [acc, x]) (fun _ s₅ => ∃ m, m < n ∧ I m s₅) (notedBy (model c.prog c.w) A env fun e s' => R (.error e) s') s₄) (notedBy (model c.prog c.w) A env fun e s' => R (.error e) s') s₃
            else ∃ m, m < n ∧ I m s₃) (notedBy (model c.prog c.w) A env fun e s' => R (.error e) s') s₂) (notedBy (model c.prog c.w) A env fun e s' => R (.error e) s') s₁') (notedBy (model c.prog c.w) A env fun e s' => R (.error e) s') s₁) (notedBy (model c.prog c.w) A env fun e s' => R (.error e) s') s)
    (n : Nat) (h : I n s) : codeAny (model c.prog c.w) A (.compLoop (.ListComp elt [⟨target, iter, ifs, 0⟩] scope pos) 0 it acc env) R s := by
  refine codeAny_loop rfl I (fun n s hI => ?_) n h
  show wpAny _ A ((compTurn (.ListComp elt [⟨target, iter, ifs, 0⟩] scope pos) 0 it acc env).onRaise (fun x => do noteFrame x env; theTreesLotGoes x)) _ _ s
  refine wpAny_noted ?_
  rw [compTurn_list]
  refine wpAny_bind (wpAny_standAt (wpAny_bind (wpAny_mono (turn n s hI) (fun r s₁ h₁ => ?_) fun _ _ h' => h')))
  cases r with
  | none => exact wpAny_pure h₁
  | some v =>
    refine wpAny_bind (wpAny_mono h₁ (fun _ s₁' h₁' => ?_) fun _ _ h' => h')
    refine wpAny_bind (wpAny_mono h₁' (fun _ s₂ h₂ => wpAny_bind (wpAny_mono h₂ (fun ok s₃ h₃ => ?_) fun _ _ h' => h')) fun _ _ h' => h')
    cases ok with
    | false => exact wpAny_pure ⟨rfl, h₃⟩
    | true =>
      exact wpAny_bind (wpAny_bind (wpAny_mono h₃ (fun x s₄ h₄ => wpAny_bind (wpAny_mono h₄ (fun _ s₅ h₅ => wpAny_pure (wpAny_pure ⟨rfl, h₅⟩)) fun _ _ h' => h')) fun _ _ h' => h'))

noncomputable def LcSrcT (c : Cx) (A : Around) (env : Env) (elt : Expr) (elts : List Expr) (kk : Nat) (tp : Pos) (ifs : List Expr) (scope : Scope) (cl : List (Str × Addr)) (Qd : Addr → List (Addr × Obj) → List (Addr × (Obj → Prop)) → Shared → Prop) (it : Value) (s₂ : Shared) : Prop :=
  Ex7 fun I F M n Fd G V => And5 (it = .ref I) (TIter c A I n Fd G V) (Is c F (G 0 ++ M) s₂) ((∀ p ∈ Fd, p ∈ F)) (∃ J : Nat → List Value → List (Addr × Obj) → Led → Prop, And4 (J 0 [] F M) ((∀ i vs F M F', J i vs F M → (∀ p ∈ F, p ∈ F') → J i vs F' M)) ((∀ C D i v vs m F' M' s E', i < n → V F' i v → J i vs F' M' → (∀ p ∈ F, p ∈ F') → Is c F' (G (i + 1) ++ (C, NsP m) :: (D, LsP vs) :: M') s →
      wpAny (model c.prog c.w) A (assign (.Tuple elts kk tp) (compEnvC scope cl C env) v) (fun _ s₂ => wpAny (model c.prog c.w) A (testsOf ifs (compEnvC scope cl C env)) (fun ok s₃ =>
        if ok = true then wpAny (model c.prog c.w) A (eval elt (compEnvC scope cl C env)) (fun y s₄ => vs.length < 100000 ∧ (Ex3 fun F'' M'' m' => And3 ((∀ p ∈ F', p ∈ F'')) (J (i + 1) (vs ++ [y]) F'' M'') (Is c F'' (G (i + 1) ++ (C, NsP m') :: (D, LsP vs) :: M'') s₄))) E' s₃
        else Ex3 fun F'' M'' m' => And3 ((∀ p ∈ F', p ∈ F'')) (J (i + 1) vs F'' M'') (Is c F'' (G (i + 1) ++ (C, NsP m') :: (D, LsP vs) :: M'') s₃)) E' s₂) E' s)) ((∀ D vs F' M' s, J n vs F' M' → (∀ p ∈ F, p ∈ F') → Is c F' ((D, LsP vs) :: M') s → Qd D F' ((D, LsP vs) :: M') s)))

theorem lcT_block {elt iter : Expr} {elts : List Expr} {kk : Nat} {tp : Pos} {ifs : List Expr} {scope : Scope} {cl : List (Str × Addr)} {pos : Pos} {it : Value} {RR : Value → Addr → Result → Shared → Prop} {Qd : Addr → List (Addr × Obj) → Led → Shared → Prop} (hcell : ∀ y ∈ scope.names, y.2 ≠ .cell) (hkind : scope.kind = .function)
    (h : LcSrcT c A env elt elts kk tp ifs scope cl Qd it s)
    (hRR : ∀ D C m F (vs : List Value) (M : Led) s, Is c F ((C, NsP m) :: (D, LsP vs) :: M) s → (∀ s', Is c F ((D, LsP vs) :: M) s' → Qd D F ((D, LsP vs) :: M) s') → RR (.ref D) C (.ok .next) s) :
    wpAny (model c.prog c.w) A (newList []) (fun acc s₃ => wpAny (model c.prog c.w) A (newFunctionEnv scope env.globals cl [] env.qual none .none (some env)) (fun cenv s₄ =>
      codeAny (model c.prog c.w) A (.compStart (.ListComp elt [⟨.Tuple elts kk tp, iter, ifs, 0⟩] scope pos) 0 it acc { cenv with scope := relabel scope env }) (RR acc cenv.locals) s₄) E s₃) E s := by
  obtain ⟨I, F, M, n, Fd, G, V, rfl, T, hs, hF, J, h0, hJ, turn, done⟩ := h
  refine r_newList hs (by simp) fun D s hs => ?_
  refine wpAny_newFunctionEnv hcell (by intro y hy; simp at hy) (fun h₁ hns₁ hsb₁ => ?_) hkind
  obtain ⟨o, e, q⟩ := NsP.of hns₁
  have hs₁ : Is c F ((s.heap.objs.size, NsP (fun x => ([] : List (Str × Value)).reverse.lookup x)) :: (D, LsP []) :: (G 0 ++ M)) { s with heap := h₁, toks := s.toks + ([] : List (Str × Value)).length } :=
    hs.new (fun b o e => hsb₁.extBut b o (Nat.ne_of_lt (Heap.lt_size e)) (Heap.get?_push_of_some _ e)) (Heap.get_size _) hs.big e q
  have hs₂ := hs₁.perm (M' := G 0 ++ (s.heap.objs.size, NsP (fun x => ([] : List (Str × Value)).reverse.lookup x)) :: (D, LsP []) :: M) (List.perm_middle.trans (List.perm_middle.cons _))
  generalize s.heap.objs.size = C at hs₂ ⊢
  have loop : codeAny (model c.prog c.w) A (.compLoop (.ListComp elt [⟨.Tuple elts kk tp, iter, ifs, 0⟩] scope pos) 0 (.ref I) (.ref D) (compEnvC scope cl C env)) (RR (.ref D) C) { s with heap := h₁, toks := s.toks + ([] : List (Str × Value)).length } := by
    refine compT (env := compEnvC scope cl C env) (fun k s' => Ex5 fun i vs m F' M' => And5 (k = n + 1 - i) (i ≤ n) ((∀ p ∈ F, p ∈ F')) (J i vs F' M') (Is c F' (G i ++ (C, NsP m) :: (D, LsP vs) :: M') s')) ?_ (n + 1) ⟨0, [], _, F, M, rfl, Nat.zero_le _, fun _ h => h, h0, hs₂⟩
    rintro k s ⟨i, vs, m, F', M', rfl, hi, hFF, hJi, hs⟩
    by_cases hlt : i < n
    · refine T.item i F' _ s _ _ hlt hs (fun p hp => hFF p (hF p hp)) fun v s₁ hgo => ?_
      refine hgo _ _ _ _ _ fun F2 s' hF2 hv hs' => ?_
      refine wpAny_mono (turn C D i v vs m F2 M' s' _ hlt hv (hJ i vs F' M' F2 hJi hF2) (fun p hp => hF2 p (hFF p hp)) hs') (fun _ s₂ h₂ => wpAny_mono h₂ (fun ok s₃ h₃ => ?_) fun _ _ x => x) fun _ _ x => x
      cases ok with
      | false =>
        simp only [Bool.false_eq_true, if_false] at h₃ ⊢
        obtain ⟨F'', M'', m', h1, h2, h3⟩ := h₃
        exact ⟨n + 1 - (i + 1), by lia, i + 1, vs, m', F'', M'', rfl, hlt, fun p hp => h1 p (hF2 p (hFF p hp)), h2, h3⟩
      | true =>
        simp only [if_true] at h₃ ⊢
        refine wpAny_mono h₃ (fun y s₄ h₄ => ?_) fun _ _ x => x
        obtain ⟨hz, F'', M'', m', h1, h2, h3⟩ := h₄
        refine r_appendCall h3 (UpdF.app (.tail .head)) hz fun s₅ hs₅ => ?_
        exact ⟨n + 1 - (i + 1), by lia, i + 1, vs ++ [y], m', F'', M'', rfl, hlt, fun p hp => h1 p (hF2 p (hFF p hp)), h2, hs₅⟩
    · have : i = n := by lia
      subst this
      exact T.done F' _ s _ _ hs (fun p hp => hFF p (hF p hp)) fun s' hs' => hRR D C m F' vs M' s' hs' fun s'' hs'' => done D vs F' M' s'' hJi hFF hs''
  exact codeAny_compStart_list loop (T.self 0 F _ _ _ _ hs₂ loop)

theorem r_lcTA {elt iter : Expr} {elts : List Expr} {kk : Nat} {tp : Pos} {ifs : List Expr} {scope : Scope} {pos spos : Pos} {y : Str} {py : Pos} {Q : Flow → Shared → Prop} (cl : List (Str × Addr)) (hclos : closureFor scope env = pure cl)
    (hsw : swapsWith (.ListComp elt [⟨.Tuple elts kk tp, iter, ifs, 0⟩] scope pos) (some (.Name y py)) spos.line env = pure true)
    (h : wpAny (model c.prog c.w) A (eval iter env) (fun xv s₁ => wpAny (model c.prog c.w) A (pyIter xv) (fun it s₂ => LcSrcT c A env elt elts kk tp ifs scope cl (fun D F M s => Ex2 fun m g => UpdF env.locals (NsP m) M g ∧ ∀ s', Is c F (g (NsP (up m y (.ref D)))) s' → Q .next s') it s₂) E s₁) E s)
    (hy : env.kindOf y = some .local := by rfl) (hp : (env.scope.kind == .class || (env.scope.kind == .module && env.locals != env.globals)) = false := by rfl)
    (hcell : ∀ y ∈ scope.names, y.2 ≠ .cell := by decide) (hkind : scope.kind = .function := by rfl)
    (hnames : ∀ y ∈ scope.names, y.2 = .local → scope.names.lookup y.1 = some .local := by decide)
    (hs : ∀ x, foldedSetIterable iter env x = pure x := by intro _; rfl) :
    wpAny (model c.prog c.w) A (exec (.Assign [.Name y py] (.ListComp elt [⟨.Tuple elts kk tp, iter, ifs, 0⟩] scope pos) spos) env) Q E s := by
  rw [exec_Assign_Name_used _ _ _ _ hsw]
  refine wpAny_bind (wpAny_standAt (wpAny_bind ?_))
  show wpAny _ A (do let _ ← comprehension (.ListComp elt [⟨.Tuple elts kk tp, iter, ifs, 0⟩] scope pos) scope env _ (newList []) false (eval iter env) (some (assign (.Name y py) env))) _ _ s
  refine wpAny_bind (wpAny_mono (wpAny_comprehension_free (use := some (assign (.Name y py) env)) (Q := fun _ s' => Q .next s') rfl hs hclos hkind hnames
    (wpAny_mono h (fun xv s₁ h₁ => wpAny_mono h₁ (fun it s₂ h₂ => ?_) fun _ _ e => e) fun _ _ e => e)) (fun _ s' hq => wpAny_pure (wpAny_pure hq)) fun _ _ e => e)
  refine lcT_block (RR := fun acc C => compPost (model c.prog c.w) A E (some (assign (.Name y py) env)) (fun _ s' => Q .next s') acc C) hcell hkind h₂ (fun D C m F vs M s hs hd => ?_)
  show wpAny _ A (assign (.Name y py) env (.ref D)) _ _ _
  obtain ⟨m', g, hu, k⟩ := hd _ hs.drop
  refine wpAny_assign_Name (r_st hs (.tail hu) (fun s₂ hs₂ => ?_) hy hp)
  exact ⟨m, hs₂.ns (.head _), fun h' hsb => k _ (hs₂.sameBut' hsb)⟩
end
end Mine

namespace Mine
section
variable {c : Cx} {F : List (Addr × Obj)} {M M' : Led} {s : Shared} {A : Around} {E : Value → Shared → Prop} {env : Env} {x : Str} {pos : Pos} {v : Value} {m : Str → Option Value} {t : Tok}

theorem r_enum {l : Addr} {vs : List Value} {n : Nat} {Q : Value → Shared → Prop} (hs : Is c F M s) (hl : (l, lisO vs n) ∈ F) (h : ∀ e it s', e ≠ it → l ≠ it → l ≠ e → Is c F ((e, EnP it 0) :: (it, LiP l 0) :: M) s' → Q (.ref e) s') :
    wpAny (model c.prog c.w) A (call (.type "enumerate") [.ref l]) Q E s := by
  have el := hs.getF hl
  have hlt := Heap.lt_size el
  refine call_enumerate_list ⟨_, el, rfl, n, rfl⟩ fun h' he hit hz hk => ?_
  obtain ⟨oi, ei, g1, g2⟩ := hit
  refine h _ _ _ (Nat.ne_of_gt (Nat.lt_succ_self _)) (Nat.ne_of_lt hlt) (Nat.ne_of_lt (Nat.lt_succ_of_lt hlt)) ?_
  have h1 : s.heap.get? s.heap.objs.size = none := Heap.get_size _
  have h2 : s.heap.get? (s.heap.objs.size + 1) = none := by
    cases e : s.heap.get? (s.heap.objs.size + 1) with
    | none => rfl
    | some o => exact absurd (Heap.lt_size e) (Nat.not_lt.mpr (Nat.le_succ _))
  have hb := hs.big
  -- by way of a heap with the inner iterator alone is not to be had: both at once
  refine ⟨⟨fun b o e => hk b o (hs.st.base b o e), fun p hp => hk _ _ (hs.st.fro p hp), ?_, ?_, hs.st.upF, ?_, hs.st.hiF, ?_, ?_⟩, hs.gens, hs.os, hs.gd⟩
  · intro p hp
    rcases List.mem_cons.mp hp with rfl | hp
    · exact ⟨_, he, _, rfl⟩
    · rcases List.mem_cons.mp hp with rfl | hp
      · exact ⟨oi, ei, g1, g2⟩
      · obtain ⟨o, e, q⟩ := hs.get hp; exact ⟨o, hk _ _ e, q⟩
  · intro p hp
    have nb : ∀ a, s.heap.get? a = none → c.B.get? a = none := fun a ha => by
      cases e : c.B.get? a with
      | none => rfl
      | some o => have := hs.st.base _ _ e; rw [ha] at this; cases this
    rcases List.mem_cons.mp hp with rfl | hp
    · exact nb _ h2
    · rcases List.mem_cons.mp hp with rfl | hp
      · exact nb _ h1
      · exact hs.st.up p hp
  · intro p hp
    rcases List.mem_cons.mp hp with rfl | hp
    · exact Nat.lt_succ_of_lt hb
    · rcases List.mem_cons.mp hp with rfl | hp
      · exact hb
      · exact hs.st.hi p hp
  · intro p hp q hq
    rcases List.mem_cons.mp hp with rfl | hp
    · intro e; have := hs.st.fro q hq; rw [← e, h2] at this; cases this
    · rcases List.mem_cons.mp hp with rfl | hp
      · intro e; have := hs.st.fro q hq; rw [← e, h1] at this; cases this
      · exact hs.st.off p hp q hq
  · refine List.nodup_cons.mpr ⟨fun hm => ?_, List.nodup_cons.mpr ⟨fun hm => ?_, hs.st.nd⟩⟩
    · rcases List.mem_cons.mp hm with q | hm
      · exact absurd q (Nat.ne_of_gt (Nat.lt_succ_self _))
      · obtain ⟨p, hp, q⟩ := List.mem_map.mp hm
        obtain ⟨o, eo, _⟩ := hs.get hp
        have q' : p.1 = s.heap.objs.size + 1 := q
        rw [q', h2] at eo; cases eo
    · obtain ⟨p, hp, q⟩ := List.mem_map.mp hm
      obtain ⟨o, eo, _⟩ := hs.get hp
      have q' : p.1 = s.heap.objs.size := q
      rw [q', h1] at eo; cases eo

theorem r_dictSet' {d : Addr} {f : Str → Option Value} {n : Nat} {g : (Obj → Prop) → Led} {Q : Unit → Shared → Prop} (hs : Is c F M s) (hu : UpdF d (DcP c f n) M g) (hn : n ≤ 1000)
    (h : ∀ s', Is c F (g (DcP c (fun k => if k = x then some v else f k) (n + 1))) s' → Q () s') : wpAny (model c.prog c.w) A (dictSet d (.str x t) v) Q E s := by
  obtain ⟨o, eo, kvs, es, ep, h1, h2, h3, h4, h5, h6, h7⟩ := hs.get hu.mem
  refine wpAny_dictSet_pairs (knd := PySem.strKind c.prog c.w) (k := x) (kvs := kvs) (hsz := by rw [sizeLine_eq]; lia) (strKind_is _ _ _ _) ⟨o, es, ep, eo, h1, h2, h3, h4, h5⟩ (fun h' hd hsb => ?_)
  obtain ⟨o', e', hP⟩ := DcP.of (f := fun k => if k = x then some v else f k) (n := n + 1) hd (fun k => by rw [valueAt_stored, h6]) (by have := stored_length_le kvs x v; lia)
  exact h _ (hs.sameBut hu (s.toks + 1) hsb e' hP)

theorem compTD {kx vx target iter : Expr} {scope : Scope} {pos : Pos} {it : Value} {D : Addr} {env : Env} {R : Result → Shared → Prop} (I : Nat → Shared → Prop)
    (turn : ∀ n s, I n s → wpAny (model c.prog c.w) A (pyNext it) (fun r s₁ => match r with
      | none => R (.ok .next) s₁
      | some v => wpAny (model c.prog c.w) A (letOwnedTupleGo target it v) (fun _ s₁' => wpAny (model c.prog c.w) A (assign target env v) (fun _ s₂ =>
            wpAny (model c.prog c.w) A (eval kx env) (fun kv s₄ => wpAny (model c.prog c.w) A (eval vx env) (fun vv s₅ => wpAny (model c.prog c.w) A (dictSet D kv vv) (fun _ s₆ => ∃ m, m < n ∧ I m s₆) (notedBy (model c.prog c.w) A env fun e s' => R (.error e) s') s₅) (notedBy (model c.prog c.w) A env fun e s' => R (.error e) s') s₄) (notedBy (model c.prog c.w) A env fun e s' => R (.error e) s') s₂)
            (notedBy (model c.prog c.w) A env fun e s' => R (.error e) s') s₁') (notedBy (model c.prog c.w) A env fun e s' => R (.error e) s') s₁) (notedBy (model c.prog c.w) A env fun e s' => R (.error e) s') s)
    (n : Nat) (h : I n s) : codeAny (model c.prog c.w) A (.compLoop (.DictComp kx vx [⟨target, iter, [], 0⟩] scope pos) 0 it (.ref D) env) R s := by
  refine codeAny_loop rfl I (fun n s hI => ?_) n h
  show wpAny _ A ((compTurn (.DictComp kx vx [⟨target, iter, [], 0⟩] scope pos) 0 it (.ref D) env).onRaise (fun x => do noteFrame x env; theTreesLotGoes x)) _ _ s
  refine wpAny_noted ?_
  rw [compTurn_dict]
  refine wpAny_bind (wpAny_standAt (wpAny_bind (wpAny_mono (turn n s hI) (fun r s₁ h₁ => ?_) fun _ _ h' => h')))
  cases r with
  | none => exact wpAny_pure h₁
  | some v =>
    refine wpAny_bind (wpAny_mono h₁ (fun _ s₁' h₁' => ?_) fun _ _ h' => h')
    refine wpAny_bind (wpAny_mono h₁' (fun _ s₂ h₂ => wpAny_bind (wpAny_mono (wpAny_tests_nil (Q := fun ok s₃ => ok = true ∧ s₃ = s₂) ⟨rfl, rfl⟩) (fun ok s₃ h₃ => ?_) fun _ _ h' => h')) fun _ _ h' => h')
    obtain ⟨rfl, rfl⟩ := h₃
    exact wpAny_bind (wpAny_bind (wpAny_mono h₂ (fun kv s₄ h₄ => wpAny_bind (wpAny_holding (wpAny_mono h₄ (fun vv s₅ h₅ => wpAny_bind (wpAny_standAt (wpAny_holding (wpAny_mono h₅ (fun _ s₆ h₆ => wpAny_pure ⟨rfl, h₆⟩) fun _ _ h' => h')))) fun _ _ h' => h'))) fun _ _ h' => h'))
end
end Mine

namespace Mine
section
variable {c : Cx} {F : List (Addr × Obj)} {M M' : Led} {s : Shared} {A : Around} {E : Value → Shared → Prop} {env : Env} {x : Str} {pos : Pos} {v : Value} {m : Str → Option Value} {t : Tok} {Q : Value → Shared → Prop}

theorem r_newDict (hs : Is c F M s) (h : ∀ D s', Is c F ((D, DcP c (fun _ => none) 0) :: M) s' → Q (.ref D) s') : wpAny (model c.prog c.w) A newDict Q E s := by
  refine wpAny_newObj_type ?_
  obtain ⟨o, eo, hP⟩ := DcP.of (c := c) (f := fun _ => none) (n := 0) (Heap.DictOf.new (knd := PySem.strKind c.prog c.w) s.heap) (fun k => rfl) (Nat.le_refl _)
  refine h _ _ ?_
  exact hs.new (t := s.toks) (fun b o e => Heap.get?_push_of_some _ e) (Heap.get_size _) hs.big eo hP

noncomputable def DcSrc (c : Cx) (A : Around) (env : Env) (kx vx : Expr) (elts : List Expr) (kk : Nat) (tp : Pos) (scope : Scope) (cl : List (Str × Addr)) (Q : Value → Shared → Prop) (it : Value) (s₂ : Shared) : Prop :=
  Ex7 fun I F M n Fd G V => And6 (it = .ref I) (TIter c A I n Fd G V) (Is c F (G 0 ++ M) s₂) ((∀ p ∈ Fd, p ∈ F)) (n ≤ 900) (∃ J : Nat → (Str → Option Value) → Prop, And3 (J 0 (fun _ => none)) ((∀ C D i v f m F' s E', i < n → V F' i v → J i f → (∀ p ∈ F, p ∈ F') → Is c F' (G (i + 1) ++ (C, NsP m) :: (D, DcP c f i) :: M) s →
      wpAny (model c.prog c.w) A (assign (.Tuple elts kk tp) (compEnvC scope cl C env) v) (fun _ s₂ => wpAny (model c.prog c.w) A (eval kx (compEnvC scope cl C env)) (fun kv s₃ =>
        wpAny (model c.prog c.w) A (eval vx (compEnvC scope cl C env)) (fun vv s₄ => Ex4 fun x t m' F'' => And4 (kv = .str x t) ((∀ p ∈ F', p ∈ F'')) (J (i + 1) (fun k => if k = x then some vv else f k)) (Is c F'' (G (i + 1) ++ (C, NsP m') :: (D, DcP c f i) :: M) s₄)) E' s₃) E' s₂) E' s)) ((∀ D f F' s, J n f → (∀ p ∈ F, p ∈ F') → Is c F' ((D, DcP c f n) :: M) s → Q (.ref D) s)))

theorem r_dcT {kx vx iter : Expr} {elts : List Expr} {kk : Nat} {tp : Pos} {scope : Scope} {pos : Pos} (cl : List (Str × Addr)) (hclos : closureFor scope env = pure cl)
    (h : wpAny (model c.prog c.w) A (eval iter env) (fun xv s₁ => wpAny (model c.prog c.w) A (pyIter xv) (fun it s₂ => DcSrc c A env kx vx elts kk tp scope cl Q it s₂) E s₁) E s)
    (hcell : ∀ y ∈ scope.names, y.2 ≠ .cell := by decide) (hkind : scope.kind = .function := by rfl)
    (hnames : ∀ y ∈ scope.names, y.2 = .local → scope.names.lookup y.1 = some .local := by decide)
    (hs : ∀ x, foldedSetIterable iter env x = pure x := by intro _; rfl) :
    wpAny (model c.prog c.w) A (eval (.DictComp kx vx [⟨.Tuple elts kk tp, iter, [], 0⟩] scope pos) env) Q E s := by
  rw [arm_eval_DictComp]
  refine wpAny_comprehension_free (use := none) rfl hs hclos hkind hnames (wpAny_mono h (fun xv s₁ h₁ => wpAny_mono h₁ (fun it s₂ h₂ => ?_) fun _ _ e => e) fun _ _ e => e)
  obtain ⟨I, F, M, n, Fd, G, V, rfl, T, hs, hF, hn9, J, h0, turn, done⟩ := h₂
  refine r_newDict hs fun D s hs => ?_
  refine wpAny_newFunctionEnv hcell (by intro y hy; simp at hy) (fun h₁ hns₁ hsb₁ => ?_) hkind
  obtain ⟨o, e, q⟩ := NsP.of hns₁
  have hs₁ : Is c F ((s.heap.objs.size, NsP (fun x => ([] : List (Str × Value)).reverse.lookup x)) :: (D, DcP c (fun _ => none) 0) :: (G 0 ++ M)) { s with heap := h₁, toks := s.toks + ([] : List (Str × Value)).length } :=
    hs.new (fun b o e => hsb₁.extBut b o (Nat.ne_of_lt (Heap.lt_size e)) (Heap.get?_push_of_some _ e)) (Heap.get_size _) hs.big e q
  have hs₂ := hs₁.perm (M' := G 0 ++ (s.heap.objs.size, NsP (fun x => ([] : List (Str × Value)).reverse.lookup x)) :: (D, DcP c (fun _ => none) 0) :: M) (List.perm_middle.trans (List.perm_middle.cons _))
  generalize s.heap.objs.size = C at hs₂ ⊢
  have loop : codeAny (model c.prog c.w) A (.compLoop (.DictComp kx vx [⟨.Tuple elts kk tp, iter, [], 0⟩] scope pos) 0 (.ref I) (.ref D) (compEnvC scope cl C env)) (compPost (model c.prog c.w) A E none Q (.ref D) C) { s with heap := h₁, toks := s.toks + ([] : List (Str × Value)).length } := by
    refine compTD (env := compEnvC scope cl C env) (fun k s' => Ex4 fun i f m F' => And5 (k = n + 1 - i) (i ≤ n) ((∀ p ∈ F, p ∈ F')) (J i f) (Is c F' (G i ++ (C, NsP m) :: (D, DcP c f i) :: M) s')) ?_ (n + 1) ⟨0, _, _, F, rfl, Nat.zero_le _, fun _ h => h, h0, hs₂⟩
    rintro k s ⟨i, f, m, F', rfl, hi, hFF, hJi, hs⟩
    by_cases hlt : i < n
    · refine T.item i F' _ s _ _ hlt hs (fun p hp => hFF p (hF p hp)) fun v s₁ hgo => ?_
      refine hgo _ _ _ _ _ fun F2 s' hF2 hv hs' => ?_
      refine wpAny_mono (turn C D i v f m F2 s' _ hlt hv hJi (fun p hp => hF2 p (hFF p hp)) hs') (fun _ s₂ h₂ => wpAny_mono h₂ (fun kv s₃ h₃ => wpAny_mono h₃ (fun vv s₄ h₄ => ?_) fun _ _ x => x) fun _ _ x => x) fun _ _ x => x
      obtain ⟨x, t, m', F'', rfl, h1, h2, h3⟩ := h₄
      refine r_dictSet' h3 (UpdF.app (.tail .head)) (by omega) fun s₅ hs₅ => ?_
      exact ⟨n + 1 - (i + 1), by omega, i + 1, _, m', F'', rfl, hlt, fun p hp => h1 p (hF2 p (hFF p hp)), h2, hs₅⟩
    · have : i = n := by omega
      subst this
      refine T.done F' _ s _ _ hs (fun p hp => hFF p (hF p hp)) fun s' hs' => ?_
      exact ⟨m, hs'.ns (.head _), fun h' hsb => done D f F' _ hJi hFF (hs'.sameBut' hsb)⟩
  exact codeAny_compStart_dict loop (T.self 0 F _ _ _ _ hs₂ loop)
end
end Mine

namespace Mine
section
variable {c : Cx} {F : List (Addr × Obj)} {M M' : Led} {s : Shared} {A : Around} {E : Value → Shared → Prop} {env : Env} {x : Str} {pos : Pos} {v : Value} {m : Str → Option Value} {t : Tok} {Q : Value → Shared → Prop}

/-- a slice of a list, with a step -/
theorem r_sliceL3 {value : Expr} {lower upper step : Expr} {p : Pos}
    (h : wpAny (model c.prog c.w) A (eval value env) (fun o s₁ => wpAny (model c.prog c.w) A (eval lower env) (fun vl s₂ => wpAny (model c.prog c.w) A (eval upper env) (fun vu s₃ => wpAny (model c.prog c.w) A (eval step env) (fun vk s₄ =>
      Ex7 fun l items lo hi st F M => And9 (o = .ref l) (s₄.heap.IsList l items) (items.size ≤ 100000) (IsPart vl lo) (IsPart vu hi) (IsPart vk (some st)) (st ≠ 0) (Is c F M s₄) (∀ D s', Is c F ((D, LsP (slicePick items lo hi (some st)).toList) :: M) s' → Q (.ref D) s')) E s₃) E s₂) E s₁) E s)
    (ht : ∀ o r, letTemporaryGo value o r = pure () := by intro _ _; rfl) :
    wpAny (model c.prog c.w) A (eval (.Subscript value (.Slice (some lower) (some upper) (some step) p) pos) env) Q E s := by
  refine Subscript_ (wpAny_mono h (fun o s₁ h₁ => wpAny_Slice ?_) fun _ _ x => x)
  rw [evalPart_some, evalPart_some, evalPart_some]
  refine wpAny_mono h₁ (fun vl s₂ h₂ => wpAny_mono h₂ (fun vu s₃ h₃ => wpAny_mono h₃ (fun vk s₄ h₄ => ?_) fun _ _ x => x) fun _ _ x => x) fun _ _ x => x
  obtain ⟨l, items, lo, hi, st, F, M, rfl, hl, hz, pl, pu, pk, hst, hs, k⟩ := h₄
  refine subscriptTail_ops (Heap.IsList.typeIs (s := { s₄ with heap := s₄.heap.push { cls := .type "slice", data := .fields #[vl, vu, vk] } }) (hl.push _)) list_getitem_lookup
    (wpAny_getItem_list_slice (hl.push _) (Heap.IsSliceOf.new ..) pl pu pk (by simpa using hst) ?_ (by rw [sizeLine_eq]; lia)) (by with_unfolding_all rfl) (ht _)
  have hs1 := (hs.push { cls := .type "slice", data := .fields #[vl, vu, vk] }).drop
  have hs2 := hs1.push { cls := .type "list", data := .seq (slicePick items lo hi (some st)) }
  exact k _ _ (hs2.weaken fun o q => ⟨0, by rw [q]⟩)

theorem compTurn_out (elt t1 i1 t2 i2 : Expr) (scope : Scope) (pos : Pos) (it acc : Value) (env : Env) :
    compTurn (.ListComp elt [⟨t1, i1, [], 0⟩, ⟨t2, i2, [], 0⟩] scope pos) 0 it acc env = (standAt i1.pos >>= fun _ => pyNext it >>= fun r => match r with
      | none => pure (.done .next)
      | some v => letOwnedTupleGo t1 it v >>= fun _ => assign t1 env v >>= fun _ =>
        eval i2 env >>= fun x => standAt i2.pos >>= fun _ => foldedSetIterable i2 env x >>= fun x => holding [x] (pyIter x) >>= fun it2 =>
          runOwn (.compStart (.ListComp elt [⟨t1, i1, [], 0⟩, ⟨t2, i2, [], 0⟩] scope pos) 1 it2 acc env) env >>= fun _ =>
          again (.compLoop (.ListComp elt [⟨t1, i1, [], 0⟩, ⟨t2, i2, [], 0⟩] scope pos) 0 it acc env)) := by rfl
theorem compTurn_in (elt t1 i1 t2 i2 : Expr) (scope : Scope) (pos : Pos) (it acc : Value) (env : Env) :
    compTurn (.ListComp elt [⟨t1, i1, [], 0⟩, ⟨t2, i2, [], 0⟩] scope pos) 1 it acc env = (standAt i2.pos >>= fun _ => pyNext it >>= fun r => match r with
      | none => pure (.done .next)
      | some v => letOwnedTupleGo t2 it v >>= fun _ => assign t2 env v >>= fun _ =>
        (eval elt env >>= fun x => call (.builtin "list.append") [acc, x] >>= fun _ => pure ()) >>= fun _ =>
          again (.compLoop (.ListComp elt [⟨t1, i1, [], 0⟩, ⟨t2, i2, [], 0⟩] scope pos) 1 it acc env)) := by rfl

theorem compStart_in {elt t1 i1 t2 i2 : Expr} {scope : Scope} {pos : Pos} {it acc : Value} {env : Env} {R : Result → Shared → Prop}
    (h0 : codeAny (model c.prog c.w) A (.compLoop (.ListComp elt [⟨t1, i1, [], 0⟩, ⟨t2, i2, [], 0⟩] scope pos) 1 it acc env) R s)
    (h : wpAny (model c.prog c.w) A (pyIter it) (fun it' s' => codeAny (model c.prog c.w) A (.compLoop (.ListComp elt [⟨t1, i1, [], 0⟩, ⟨t2, i2, [], 0⟩] scope pos) 1 it' acc env) R s')
      (notedBy (model c.prog c.w) A env fun x s' => R (.error x) s') s) :
    codeAny (model c.prog c.w) A (.compStart (.ListComp elt [⟨t1, i1, [], 0⟩, ⟨t2, i2, [], 0⟩] scope pos) 1 it acc env) R s := by
  refine codeAny_of_tree ?_
  show wpAny _ _ ((compStart (.ListComp elt [⟨t1, i1, [], 0⟩, ⟨t2, i2, [], 0⟩] scope pos) 1 it acc env).onRaise (fun x => do noteFrame x env; standAt theWindowsPlace)) _ _ s
  refine wpAny_notedAt ?_
  unfold compStart
  show wpAny _ _ (ask >>= _) _ _ s
  refine wpAny_bind (wpAny_askSetting (wpAny_ite ?_))
  split
  · first
      | exact wpAny_bind (wpAny_pure (wpAny_pure (And.intro rfl h0)))
      | exact wpAny_pure (And.intro rfl h0)
  · first
      | exact wpAny_bind (wpAny_rule (wpAny_bind (wpAny_standAt (wpAny_bind (wpAny_mono h (fun it' s' h' => wpAny_pure (And.intro rfl h')) fun _ _ x => x)))))
      | (refine wpAny_bind (wpAny_rule ?_); show wpAny _ _ (standAt i2.pos >>= _) _ _ s; exact wpAny_bind (wpAny_standAt (wpAny_bind (wpAny_mono h (fun it' s' h' => wpAny_pure (And.intro rfl h')) fun _ _ x => x))))

/-- the inner loop -/
theorem lc2_in {elt t1 i1 t2 i2 : Expr} {scope : Scope} {pos : Pos} {cenv : Env} {I D : Addr} {n : Nat} {Fd : List (Addr × Obj)} {P : Nat → Obj → Prop} {V : Nat → Value → Prop} {R : Result → Shared → Prop} {vs0 : List Value} (T : Iter c A I n Fd P V) (J : Nat → List Value → List (Addr × Obj) → (Str → Option Value) → Prop)
    (hs : Is c F ((I, P 0) :: (cenv.locals, NsP m) :: (D, LsP vs0) :: M) s) (hF : ∀ p ∈ Fd, p ∈ F) (h0 : J 0 vs0 F m)
    (turn : ∀ i v vs m F' s E', i < n → V i v → J i vs F' m → (∀ p ∈ F, p ∈ F') → Is c F' ((I, P (i + 1)) :: (cenv.locals, NsP m) :: (D, LsP vs) :: M) s →
      wpAny (model c.prog c.w) A (assign t2 cenv v) (fun _ s₂ => wpAny (model c.prog c.w) A (eval elt cenv) (fun y s₄ => vs.length < 100000 ∧ (Ex2 fun F'' m' => And3 ((∀ p ∈ F', p ∈ F'')) (J (i + 1) (vs ++ [y]) F'' m') (Is c F'' ((I, P (i + 1)) :: (cenv.locals, NsP m') :: (D, LsP vs) :: M) s₄))) E' s₂) E' s)
    (done : ∀ vs m F' s, J n vs F' m → (∀ p ∈ F, p ∈ F') → Is c F' ((cenv.locals, NsP m) :: (D, LsP vs) :: M) s → R (.ok .next) s)
    (ht : ∀ v, letOwnedTupleGo t2 (.ref I) v = pure () := by intro _; rfl) :
    codeAny (model c.prog c.w) A (.compStart (.ListComp elt [⟨t1, i1, [], 0⟩, ⟨t2, i2, [], 0⟩] scope pos) 1 (.ref I) (.ref D) cenv) R s := by
  have loop : codeAny (model c.prog c.w) A (.compLoop (.ListComp elt [⟨t1, i1, [], 0⟩, ⟨t2, i2, [], 0⟩] scope pos) 1 (.ref I) (.ref D) cenv) R s := by
    refine codeAny_loop rfl (fun k s' => Ex4 fun i vs m F' => And5 (k = n + 1 - i) (i ≤ n) ((∀ p ∈ F, p ∈ F')) (J i vs F' m) (Is c F' ((I, P i) :: (cenv.locals, NsP m) :: (D, LsP vs) :: M) s')) ?_ (n + 1) ⟨0, vs0, m, F, rfl, Nat.zero_le _, fun _ h => h, h0, hs⟩
    rintro k s ⟨i, vs, m, F', rfl, hi, hFF, hJ, hs⟩
    show wpAny _ _ ((compTurn (.ListComp elt [⟨t1, i1, [], 0⟩, ⟨t2, i2, [], 0⟩] scope pos) 1 (.ref I) (.ref D) cenv).onRaise (fun x => do noteFrame x cenv; theTreesLotGoes x)) _ _ s
    refine wpAny_noted ?_
    rw [compTurn_in]
    by_cases hlt : i < n
    · refine wpAny_bind (wpAny_standAt (wpAny_bind (T.item i F' _ s _ _ hlt hs (fun p hp => hFF p (hF p hp)) fun v s' hv hs' => ?_)))
      refine wpAny_bind (wpAny_congr (ht v) (wpAny_pure ?_))
      refine wpAny_bind (wpAny_mono (turn i v vs m F' s' _ hlt hv hJ hFF hs') (fun _ s₂ h₂ => wpAny_bind (wpAny_bind (wpAny_mono h₂ (fun y s₄ h₄ => ?_) fun _ _ x => x))) fun _ _ x => x)
      obtain ⟨hz, F'', m', h1, h2, h3⟩ := h₄
      refine wpAny_bind (r_appendCall h3 (.tail (.tail .head)) hz fun s₅ hs₅ => wpAny_pure (wpAny_pure ⟨rfl, ?_⟩))
      exact ⟨n + 1 - (i + 1), by lia, i + 1, vs ++ [y], m', F'', rfl, hlt, fun p hp => h1 p (hFF p hp), h2, hs₅⟩
    · have : i = n := by lia
      subst this
      exact wpAny_bind (wpAny_standAt (wpAny_bind (T.done F' _ s _ _ hs (fun p hp => hFF p (hF p hp)) fun s' hs' => wpAny_pure (done vs m F' s' hJ hFF hs'))))
  exact compStart_in loop (T.self 0 F _ _ _ _ hs loop)

/-- what a comprehension with two sources asks -/
noncomputable def LcSrc2 (c : Cx) (A : Around) (env : Env) (elt t1 t2 i2 : Expr) (scope : Scope) (cl : List (Str × Addr)) (Qd : Addr → List (Addr × Obj) → List (Addr × (Obj → Prop)) → Shared → Prop) (it : Value) (s₂ : Shared) : Prop :=
  Ex7 fun I F M n Fd P V => And7 (it = .ref I) (Iter c A I n Fd P V) (Is c F ((I, P 0) :: M) s₂) ((∀ p ∈ Fd, p ∈ F)) ((∀ v, letOwnedTupleGo t1 (.ref I) v = pure ())) ((∀ I v, letOwnedTupleGo t2 (.ref I) v = pure ())) (∃ J : Nat → List Value → List (Addr × Obj) → Prop, And3 (J 0 [] F) ((∀ C D i v vs m F' s E', i < n → V i v → J i vs F' → (∀ p ∈ F, p ∈ F') → Is c F' ((I, P (i + 1)) :: (C, NsP m) :: (D, LsP vs) :: M) s →
      wpAny (model c.prog c.w) A (assign t1 (compEnvC scope cl C env) v) (fun _ s₂ => wpAny (model c.prog c.w) A (eval i2 (compEnvC scope cl C env)) (fun xv s₃ => wpAny (model c.prog c.w) A (pyIter xv) (fun it2 s₄ =>
        Ex7 fun I2 F2 n2 Fd2 P2 V2 m2 => And6 (it2 = .ref I2) (Iter c A I2 n2 Fd2 P2 V2) ((∀ p ∈ F', p ∈ F2)) ((∀ p ∈ Fd2, p ∈ F2)) (Is c F2 ((I2, P2 0) :: (C, NsP m2) :: (D, LsP vs) :: (I, P (i + 1)) :: M) s₄) (∃ J2 : Nat → List Value → List (Addr × Obj) → (Str → Option Value) → Prop, And3 (J2 0 vs F2 m2) ((∀ j v2 vs2 m3 F3 s E', j < n2 → V2 j v2 → J2 j vs2 F3 m3 → (∀ p ∈ F2, p ∈ F3) → Is c F3 ((I2, P2 (j + 1)) :: (C, NsP m3) :: (D, LsP vs2) :: (I, P (i + 1)) :: M) s →
            wpAny (model c.prog c.w) A (assign t2 (compEnvC scope cl C env) v2) (fun _ s₂ => wpAny (model c.prog c.w) A (eval elt (compEnvC scope cl C env)) (fun y s₄ => vs2.length < 100000 ∧ (Ex2 fun F4 m4 => And3 ((∀ p ∈ F3, p ∈ F4)) (J2 (j + 1) (vs2 ++ [y]) F4 m4) (Is c F4 ((I2, P2 (j + 1)) :: (C, NsP m4) :: (D, LsP vs2) :: (I, P (i + 1)) :: M) s₄))) E' s₂) E' s)) ((∀ vs2 m3 F3, J2 n2 vs2 F3 m3 → (∀ p ∈ F2, p ∈ F3) → J (i + 1) vs2 F3)))) E' s₃) E' s₂) E' s)) ((∀ D vs F' s, J n vs F' → (∀ p ∈ F, p ∈ F') → Is c F' ((D, LsP vs) :: M) s → Qd D F' ((D, LsP vs) :: M) s)))

theorem lc2_block {elt t1 i1 t2 i2 : Expr} {scope : Scope} {cl : List (Str × Addr)} {pos : Pos} {it : Value} {RR : Value → Addr → Result → Shared → Prop} {Qd : Addr → List (Addr × Obj) → Led → Shared → Prop} (hcell : ∀ y ∈ scope.names, y.2 ≠ .cell) (hkind : scope.kind = .function)
    (hs2 : ∀ env x, foldedSetIterable i2 env x = pure x)
    (h : LcSrc2 c A env elt t1 t2 i2 scope cl Qd it s)
    (hRR : ∀ D C m F (vs : List Value) (M : Led) s, Is c F ((C, NsP m) :: (D, LsP vs) :: M) s → (∀ s', Is c F ((D, LsP vs) :: M) s' → Qd D F ((D, LsP vs) :: M) s') → RR (.ref D) C (.ok .next) s) :
    wpAny (model c.prog c.w) A (newList []) (fun acc s₃ => wpAny (model c.prog c.w) A (newFunctionEnv scope env.globals cl [] env.qual none .none (some env)) (fun cenv s₄ =>
      codeAny (model c.prog c.w) A (.compStart (.ListComp elt [⟨t1, i1, [], 0⟩, ⟨t2, i2, [], 0⟩] scope pos) 0 it acc { cenv with scope := relabel scope env }) (RR acc cenv.locals) s₄) E s₃) E s := by
  obtain ⟨I, F, M, n, Fd, P, V, rfl, T, hs, hF, ht1, ht2, J, h0, turn, done⟩ := h
  refine r_newList hs (by simp) fun D s hs => ?_
  refine wpAny_newFunctionEnv hcell (by intro y hy; simp at hy) (fun h₁ hns₁ hsb₁ => ?_) hkind
  obtain ⟨o, e, q⟩ := NsP.of hns₁
  have hs₁ : Is c F ((s.heap.objs.size, NsP (fun x => ([] : List (Str × Value)).reverse.lookup x)) :: (D, LsP []) :: (I, P 0) :: M) { s with heap := h₁, toks := s.toks + ([] : List (Str × Value)).length } :=
    hs.new (fun b o e => hsb₁.extBut b o (Nat.ne_of_lt (Heap.lt_size e)) (Heap.get?_push_of_some _ e)) (Heap.get_size _) hs.big e q
  have hs₂ := hs₁.perm (M' := (I, P 0) :: (s.heap.objs.size, NsP (fun x => ([] : List (Str × Value)).reverse.lookup x)) :: (D, LsP []) :: M) (((List.Perm.swap _ _ _).trans ((List.Perm.swap _ _ _).cons _)))
  generalize s.heap.objs.size = C at hs₂ ⊢
  have loop : codeAny (model c.prog c.w) A (.compLoop (.ListComp elt [⟨t1, i1, [], 0⟩, ⟨t2, i2, [], 0⟩] scope pos) 0 (.ref I) (.ref D) (compEnvC scope cl C env)) (RR (.ref D) C) { s with heap := h₁, toks := s.toks + ([] : List (Str × Value)).length } := by
    refine codeAny_loop rfl (fun k s' => Ex4 fun i vs m F' => And5 (k = n + 1 - i) (i ≤ n) ((∀ p ∈ F, p ∈ F')) (J i vs F') (Is c F' ((I, P i) :: (C, NsP m) :: (D, LsP vs) :: M) s')) ?_ (n + 1) ⟨0, [], _, F, rfl, Nat.zero_le _, fun _ h => h, h0, hs₂⟩
    rintro k s ⟨i, vs, m, F', rfl, hi, hFF, hJ, hs⟩
    show wpAny _ _ ((compTurn (.ListComp elt [⟨t1, i1, [], 0⟩, ⟨t2, i2, [], 0⟩] scope pos) 0 (.ref I) (.ref D) (compEnvC scope cl C env)).onRaise (fun x => do noteFrame x (compEnvC scope cl C env); theTreesLotGoes x)) _ _ s
    refine wpAny_noted ?_
    rw [compTurn_out]
    by_cases hlt : i < n
    · refine wpAny_bind (wpAny_standAt (wpAny_bind (T.item i F' _ s _ _ hlt hs (fun p hp => hFF p (hF p hp)) fun v s' hv hs' => ?_)))
      refine wpAny_bind (wpAny_congr (ht1 v) (wpAny_pure ?_))
      refine wpAny_bind (wpAny_mono (turn C D i v vs m F' s' _ hlt hv hJ hFF hs') (fun _ s₂ h₂ => wpAny_bind (wpAny_mono h₂ (fun xv s₃ h₃ => ?_) fun _ _ x => x)) fun _ _ x => x)
      refine wpAny_bind (wpAny_standAt (wpAny_bind (wpAny_congr (hs2 _ xv) (wpAny_pure (wpAny_bind (wpAny_holding (wpAny_mono h₃ (fun it2 s₄ h₄ => ?_) fun _ _ x => x)))))))
      obtain ⟨I2, F2, n2, Fd2, P2, V2, m2, rfl, T2, hF2, hFd2, hs4, J2, hJ20, turn2, done2⟩ := h₄
      refine wpAny_bind (wpAny_runOwn ?_)
      refine lc2_in (cenv := compEnvC scope cl C env) T2 J2 hs4 hFd2 hJ20 (fun j v2 vs2 m3 F3 s E' => turn2 j v2 vs2 m3 F3 s E') (fun vs2 m3 F3 s5 hJ2 hF3 hs5 => ?_) (ht2 _)
      refine wpAny_pure ⟨rfl, n + 1 - (i + 1), by lia, i + 1, vs2, m3, F3, rfl, hlt, fun p hp => hF3 p (hF2 p (hFF p hp)), done2 vs2 m3 F3 hJ2 hF3, ?_⟩
      exact hs5.perm (((List.Perm.swap _ _ _).trans ((List.Perm.swap _ _ _).cons _)))
    · have : i = n := by lia
      subst this
      exact wpAny_bind (wpAny_standAt (wpAny_bind (T.done F' _ s _ _ hs (fun p hp => hFF p (hF p hp)) fun s' hs' => wpAny_pure (hRR D C m F' vs M s' hs' fun s'' hs'' => done D vs F' s'' hJ hFF hs''))))
  exact codeAny_compStart_list loop (T.self 0 F _ _ _ _ hs₂ loop)

theorem r_lc2A {elt t1 i1 t2 i2 : Expr} {scope : Scope} {pos spos : Pos} {y : Str} {py : Pos} {Q : Flow → Shared → Prop} (cl : List (Str × Addr)) (hclos : closureFor scope env = pure cl)
    (hsw : swapsWith (.ListComp elt [⟨t1, i1, [], 0⟩, ⟨t2, i2, [], 0⟩] scope pos) (some (.Name y py)) spos.line env = pure true)
    (h : wpAny (model c.prog c.w) A (eval i1 env) (fun xv s₁ => wpAny (model c.prog c.w) A (pyIter xv) (fun it s₂ => LcSrc2 c A env elt t1 t2 i2 scope cl (fun D F M s => Ex2 fun m g => UpdF env.locals (NsP m) M g ∧ ∀ s', Is c F (g (NsP (up m y (.ref D)))) s' → Q .next s') it s₂) E s₁) E s)
    (hy : env.kindOf y = some .local := by rfl) (hp : (env.scope.kind == .class || (env.scope.kind == .module && env.locals != env.globals)) = false := by rfl)
    (hcell : ∀ y ∈ scope.names, y.2 ≠ .cell := by decide) (hkind : scope.kind = .function := by rfl)
    (hnames : ∀ y ∈ scope.names, y.2 = .local → scope.names.lookup y.1 = some .local := by decide)
    (hs : ∀ x, foldedSetIterable i1 env x = pure x := by intro _; rfl) (hs2 : ∀ env x, foldedSetIterable i2 env x = pure x := by intro _ _; rfl) :
    wpAny (model c.prog c.w) A (exec (.Assign [.Name y py] (.ListComp elt [⟨t1, i1, [], 0⟩, ⟨t2, i2, [], 0⟩] scope pos) spos) env) Q E s := by
  rw [exec_Assign_Name_used _ _ _ _ hsw]
  refine wpAny_bind (wpAny_standAt (wpAny_bind ?_))
  show wpAny _ A (do let _ ← comprehension (.ListComp elt [⟨t1, i1, [], 0⟩, ⟨t2, i2, [], 0⟩] scope pos) scope env _ (newList []) false (eval i1 env) (some (assign (.Name y py) env))) _ _ s
  refine wpAny_bind (wpAny_mono (wpAny_comprehension_free (use := some (assign (.Name y py) env)) (Q := fun _ s' => Q .next s') rfl hs hclos hkind hnames
    (wpAny_mono h (fun xv s₁ h₁ => wpAny_mono h₁ (fun it s₂ h₂ => ?_) fun _ _ e => e) fun _ _ e => e)) (fun _ s' hq => wpAny_pure (wpAny_pure hq)) fun _ _ e => e)
  refine lc2_block (RR := fun acc C => compPost (model c.prog c.w) A E (some (assign (.Name y py) env)) (fun _ s' => Q .next s') acc C) hcell hkind hs2 h₂ (fun D C m F vs M s hs hd => ?_)
  show wpAny _ A (assign (.Name y py) env (.ref D)) _ _ _
  obtain ⟨m', g, hu, k⟩ := hd _ hs.drop
  refine wpAny_assign_Name (r_st hs (.tail hu) (fun s₂ hs₂ => ?_) hy hp)
  exact ⟨m, hs₂.ns (.head _), fun h' hsb => k _ (hs₂.sameBut' hsb)⟩
end
end Mine

namespace Mine
variable {w : World} {B : Heap} {os : OsState} {mg mb : Str → Option Value} {F : List (Addr × Obj)} {M M' : Led} {s : Shared} {A : Around} {E : Value → Shared → Prop}

theorem b_enumerate (G : Gd (cx w B os mg mb)) : mg "enumerate" = none := mg_none_of G.X G.T.g (by kernel_rfl)
theorem bb_enumerate : bootBuiltins "enumerate" = some (.type "enumerate") := by kernel_rfl
theorem b_abs (G : Gd (cx w B os mg mb)) : mg "abs" = none := mg_none_of G.X G.T.g (by kernel_rfl)
theorem bb_abs : bootBuiltins "abs" = some (.builtin "abs") := by kernel_rfl
theorem b_sum (G : Gd (cx w B os mg mb)) : mg "sum" = none := mg_none_of G.X G.T.g (by kernel_rfl)
theorem bb_sum : bootBuiltins "sum" = some (.builtin "sum") := by kernel_rfl
theorem b_sorted (G : Gd (cx w B os mg mb)) : mg "sorted" = none := mg_none_of G.X G.T.g (by kernel_rfl)
theorem bb_sorted : bootBuiltins "sorted" = some (.builtin "sorted") := by kernel_rfl

noncomputable def P4 : List Str := ["a", "ab", "x", "xy"]
/-- the dict of prices behind i parts -/
noncomputable def PrJ (i : Nat) (f : Str → Option Value) : Prop := (∀ k, k ∈ P4.take i → ∃ a t, f k = some (.int a t) ∧ 0 < a) ∧ ∀ k, k ∉ P4.take i → f k = none
theorem PrJ.step {i : Nat} {f : Str → Option Value} {p : Str} {a : Int} {t : Tok} (h : PrJ i f) (hp : P4[i]? = some p) (ha : 0 < a) : PrJ (i + 1) (fun k => if k = p then some (.int a t) else f k) := by
  have e : P4.take (i + 1) = P4.take i ++ [p] := by rw [List.take_add_one, hp]; rfl
  constructor
  · intro k hk
    by_cases hkp : k = p
    · exact ⟨a, t, if_pos hkp, ha⟩
    · rw [e] at hk
      obtain ⟨b, u, h1, h2⟩ := h.1 k ((List.mem_append.mp hk).elim id fun q => absurd (List.mem_singleton.mp q) hkp)
      exact ⟨b, u, (if_neg hkp).trans h1, h2⟩
  · intro k hk
    rw [e] at hk
    have hkp : k ≠ p := fun q => hk (List.mem_append_right _ (q ▸ .head _))
    exact (if_neg hkp).trans (h.2 k fun q => hk (List.mem_append_left _ q))
noncomputable def gpOf (f : Str → Option Value) (k : Str) : Option Int := match f k with | some (.int a _) => some a | _ => none
theorem PrJ.fin {c : Cx} {f : Str → Option Value} (h : PrJ 4 f) : (∀ n o, DcP c f n o → CaP c (gpOf f) n o) ∧ ∀ p ∈ P4, ∃ a, gpOf f p = some a ∧ 0 < a := by
  refine ⟨fun n o hd => ⟨f, hd, fun k => ?_⟩, fun p hp => ?_⟩
  · by_cases hk : k ∈ P4.take 4
    · obtain ⟨a, t, e, _⟩ := h.1 k hk
      exact .inr ⟨a, t, by unfold gpOf; rw [e], e⟩
    · have := h.2 k hk
      exact .inl ⟨by unfold gpOf; rw [this], this⟩
  · obtain ⟨a, t, e, ha⟩ := h.1 p hp
    exact ⟨a, by unfold gpOf; rw [e], ha⟩

set_option maxHeartbeats 8000000 in
theorem law_2 {L fa sl : Addr} {cdv : Value} {body : List Stmt} {scope : Scope} {m mc : Str → Option Value} {Q : Flow → Shared → Prop} {vsS : List Value} {ns : List Int} (hb : lawFd w.params = some (body, scope))
    (hs : Is (cx w B os mg mb) F ((L, NsP m) :: (cel (lawCs L) mc ++ M)) s) (r : Rm 20 A) (hsl : B.IsList sl vsS.toArray) (hsi : IntsAre vsS ns) (hmc : mc "script" = some (.ref sl)) (hn63 : ns.length ≤ 63)
    (k : ∀ F' pd gp s', (∀ p ∈ F, p ∈ F') → (∀ p ∈ P4, ∃ a, gp p = some a ∧ 0 < a) →
      Is (cx w B os mg mb) F' ((L, NsP m) :: (cel (lawCs L) (up mc "prices" (.ref pd)) ++ (pd, CaP (cx w B os mg mb) gp 4) :: M)) s' → wpAny (model (cx w B os mg mb).prog w) A (execs (body.drop 5) (envOfC "law" scope L fa cdv)) Q E s') :
    wpAny (model (cx w B os mg mb).prog w) A (execs (body.drop 4) (envOfC "law" scope L fa cdv)) Q E s := by
  have hb' := hb
  unfold lawFd at hb'
  conv at hb' => lhs; whnf
  simp only [Option.some.injEq, Prod.mk.injEq] at hb'
  obtain ⟨rfl, rfl⟩ := hb'
  have hnd := lawCs_nodup L
  have c1 : (("script" : Str), L + 1) ∈ lawCs L := by simp [lawCs]
  have c6 : (("prices" : Str), L + 6) ∈ lawCs L := by simp [lawCs]
  have hsz : vsS.length = ns.length := hsi.length
  refine hs.hide1 (.tail _ (cel_mem (mc := mc) c1)) fun M1 i1 hs back => ?_
  refine wpAny_execs_cons (r_assign (r_dcT (c := cx w B os mg mb) [("script", L + 1)] rfl ?_))
  refine r_CallT (c := cx w B os mg mb) hs (b_enumerate hs.gd) bb_enumerate (by decide) (wpAny_items_cons (r_list (c := cx w B os mg mb) (wpAny_items_cons (r_str hs fun u1 s hs => wpAny_items_cons (r_str hs fun u2 s hs => wpAny_items_cons (r_str hs fun u3 s hs => wpAny_items_cons (r_str hs fun u4 s hs => wpAny_items_nil ⟨by simp, _, _, hs, fun l4 s hs => ?_⟩)))))))
  refine hs.fzL .head fun n4 hs => ?_
  refine wpAny_items_nil (r_enum hs (.head _) fun e it s hei hli hle hs => ?_)
  have hpv : StrsAre [Value.str "a" u1, .str "ab" u2, .str "x" u3, .str "xy" u4] P4 := .cons _ _ (.cons _ _ (.cons _ _ (.cons _ _ .nil)))
  have hpl : [Value.str "a" u1, .str "ab" u2, .str "x" u3, .str "xy" u4].length = 4 := rfl
  generalize [Value.str "a" u1, .str "ab" u2, .str "x" u3, .str "xy" u4] = vp at hs hpv hpl
  have T := TIter.enum (c := cx w B os mg mb) (A := A) (vs := vp) (k := n4) r.hd hei hli hle
  refine T.self 0 _ _ _ _ _ hs ?_
  refine ⟨e, _, _, _, _, _, _, rfl, T, hs, fun p hp => (List.mem_singleton.mp hp) ▸ .head _, by lia, PrJ, ⟨fun k hk => by simp at hk, fun k _ => rfl⟩, ?_, ?_⟩
  · rintro C D i v f m1 F1 s E1 hi ⟨T1, t1, y, rfl, hy, hT⟩ hJ hF1 hs
    have hs : Is (cx w B os mg mb) F1 ((e, EnP it (i + 1)) :: (it, LiP l4 (i + 1)) :: (C, NsP m1) :: (D, DcP (cx w B os mg mb) f i) :: M1) s := hs
    obtain ⟨p, tp, rfl, ep⟩ := strs_get hpv hy
    refine gen fun QO hQO => ?_
    refine r_unpack hs r.hd (vs := [.int (i : Int) t1, .str p tp]) ⟨_, hs.getF hT, rfl, 0, rfl⟩ rfl rfl fun s hs => ?_
    refine assignInOrder_cons (wpAny_assign_Name (r_st hs (.tail (.tail .head)) fun s hs => ?_))
    refine assignInOrder_cons (wpAny_assign_Name (r_st hs (.tail (.tail .head)) fun s hs => assignInOrder_nil (hQO _ _ ?_)))
    refine r_loc hs in2 rfl (gen fun QD hQD => ?_)
    refine wpAny_BinOp (r_CallB (c := cx w B os mg mb) hs (b_abs hs.gd) bb_abs (by decide) (wpAny_items_cons (r_CallB (c := cx w B os mg mb) hs (b_sum hs.gd) bb_sum (by decide) (wpAny_items_cons ?_))))
    refine r_sliceL3 (c := cx w B os mg mb) (r_cel (x := "script") (mc := mc) hs (.tail _ (.tail _ (.tail _ (.tail _ i1)))) rfl hmc (r_loc hs in2 rfl (r_int hs fun t6 s hs => r_int hs fun t4 s hs => ?_)))
    refine ⟨sl, vsS.toArray, some (i : Int), some 6, 4, _, _, rfl, hsl.at fun o e => hs.st.base _ o e, by simp; lia, .int _ _, .int _ _, .int _ _, by decide, hs, fun ls s hs => ?_⟩
    refine wpAny_items_nil (r_sum hs r.hd (hs.ls in0) (hsi.pick _ _ _) fun _ s hs => wpAny_items_nil (r_abs hs fun _ s hs => ?_))
    have hs := hs.drop
    refine Subscript_ (r_list (c := cx w B os mg mb) (wpAny_items_cons (r_int hs fun w1 s hs => wpAny_items_cons (r_int hs fun w2 s hs => wpAny_items_cons (r_int hs fun w3 s hs => wpAny_items_cons (r_int hs fun w4 s hs => wpAny_items_nil ⟨by simp, _, _, hs, fun lx s hs => ?_⟩))))))
    refine r_loc hs in3 rfl ?_
    obtain ⟨b, tb, hitem, hbp⟩ : ∃ b tb, [Value.int 2 w1, .int 3 w2, .int 4 w3, .int 1 w4][(i : Int).toNat]? = some (.int b tb) ∧ 0 < b := by
      have hi4 : i = 0 ∨ i = 1 ∨ i = 2 ∨ i = 3 := by lia
      clear hs hJ hy ep hT hi
      revert hi4
      generalize i = i'
      intro hi4
      rcases hi4 with rfl | rfl | rfl | rfl
      · exact ⟨2, w1, rfl, by decide⟩
      · exact ⟨3, w2, rfl, by decide⟩
      · exact ⟨4, w3, rfl, by decide⟩
      · exact ⟨1, w4, rfl, by decide⟩
    refine r_item hs in0 (by lia) (by lia) hitem (r_add hs.drop fun ta s hs => ?_)
    exact hQD _ _ ⟨p, tp, _, F1, rfl, fun _ h => h, hJ.step ep (by split <;> lia), hs⟩
  · rintro D f F1 s hJ hF1 hs
    rw [hpl] at hJ hs
    have hs := (back [(D, DcP (cx w B os mg mb) f 4)] _ _ hs).sink
    refine r_stC hs (.tail (cel_upd hnd c6 _)) rfl fun s hs => ?_
    obtain ⟨h1, h2⟩ := hJ.fin (c := cx w B os mg mb)
    have hs := hs.weakenAt (.fr .head) (h1 4)
    exact k F1 D _ s (fun p hp => hF1 p (.tail _ hp)) h2 hs
end Mine

namespace Mine
variable {w : World} {B : Heap} {os : OsState} {mg mb : Str → Option Value} {F : List (Addr × Obj)} {M M' : Led} {s : Shared} {A : Around} {E : Value → Shared → Prop}

noncomputable def lv (ps : List Str) : Nat → List (List Str)
  | 0 => [[]]
  | k + 1 => ext ps (lv ps k)
noncomputable def upTo (ps : List Str) : Nat → List (List Str)
  | 0 => []
  | k + 1 => upTo ps k ++ lv ps (k + 1)
noncomputable def doneRows : Nat → List (List Str)
  | 0 => []
  | 1 => mRows
  | _ => allRows
theorem ext_snoc (ps : List Str) (ls : List (List Str)) (r : List Str) : ext ps (ls ++ [r]) = ext ps ls ++ ps.map fun p => r ++ [p] := by
  unfold ext; rw [List.flatMap_append]; simp
theorem ext_len {ps : List Str} (h : ps.length = 2) (ls : List (List Str)) : (ext ps ls).length = 2 * ls.length := by
  induction ls with
  | nil => rfl
  | cons a b ih =>
    unfold ext at ih ⊢
    rw [List.flatMap_cons, List.length_append, ih, List.length_map, List.length_cons]; lia
theorem lv_len {ps : List Str} (h : ps.length = 2) : ∀ k, k ≤ 3 → (lv ps k).length ≤ 8 := by
  intro k hk
  have : k = 0 ∨ k = 1 ∨ k = 2 ∨ k = 3 := by lia
  rcases this with rfl | rfl | rfl | rfl <;> simp only [lv, ext_len h] <;> decide
theorem upTo_len {ps : List Str} (h : ps.length = 2) : ∀ k, k ≤ 3 → (upTo ps k).length ≤ 14 := by
  intro k hk
  have : k = 0 ∨ k = 1 ∨ k = 2 ∨ k = 3 := by lia
  rcases this with rfl | rfl | rfl | rfl <;> simp only [upTo, lv, ext_len h, List.length_append] <;> decide
theorem rows_1 : doneRows 1 = doneRows 0 ++ upTo mP 3 := by decide +kernel
theorem rows_2 : doneRows 2 = doneRows 1 ++ upTo dP 2 := by decide +kernel
theorem doneRows_len (i : Nat) : (doneRows i).length ≤ 20 := by
  rcases i with _ | _ | i
  · decide
  · decide +kernel
  · show allRows.length ≤ 20
    decide +kernel

theorem RowsIn.append {F : List (Addr × Obj)} {vs ws : List Value} {rs qs : List (List Str)} (h : RowsIn F vs rs) (h2 : RowsIn F ws qs) : RowsIn F (vs ++ ws) (rs ++ qs) := by
  induction h with
  | nil => exact h2
  | cons e m st _ ih => exact .cons e m st ih

set_option maxHeartbeats 8000000 in
theorem law_3 {L fa pv : Addr} {cdv : Value} {body : List Stmt} {scope : Scope} {m mc : Str → Option Value} {Q : Flow → Shared → Prop} (hb : lawFd w.params = some (body, scope))
    (hs : Is (cx w B os mg mb) F ((L, NsP m) :: (cel (lawCs L) mc ++ M)) s) (r : Rm 20 A)
    (k : ∀ F' m' mc' lr vr nr s', (∀ p ∈ F, p ∈ F') → mc' "listed" = mc "listed" → mc' "prices" = mc "prices" → m' "modules" = m "modules" → m' "directories" = m "directories" → m' "rows" = some (.ref lr) → (lr, lisO vr nr) ∈ F' → RowsIn F' vr allRows →
      Is (cx w B os mg mb) F' ((L, NsP m') :: (cel (lawCs L) mc' ++ M)) s' → wpAny (model (cx w B os mg mb).prog w) A (execs (body.drop 7) (envOfC "law" scope L fa cdv)) Q E s') :
    wpAny (model (cx w B os mg mb).prog w) A (execs (body.drop 5) (envOfC "law" scope L fa cdv)) Q E s := by
  have hb' := hb
  unfold lawFd at hb'
  conv at hb' => lhs; whnf
  simp only [Option.some.injEq, Prod.mk.injEq] at hb'
  obtain ⟨rfl, rfl⟩ := hb'
  have hnd := lawCs_nodup L
  have c3 : (("parts" : Str), L + 3) ∈ lawCs L := by simp [lawCs]
  refine wpAny_execs_cons (r_assign (r_list (c := cx w B os mg mb) (wpAny_items_nil ⟨by simp, _, _, hs, fun lr s hs => ?_⟩)))
  have hs := hs.sink
  refine r_st hs .head fun s hs => ?_
  refine wpAny_execs_cons (wpAny_For (r_list (c := cx w B os mg mb) (wpAny_items_cons (r_tuple (c := cx w B os mg mb) (wpAny_items_cons (r_list (c := cx w B os mg mb) (wpAny_items_cons (r_str hs fun u1 s hs => wpAny_items_cons (r_str hs fun u2 s hs => wpAny_items_nil ⟨by simp, _, _, hs, fun lp1 s hs => ?_⟩)))))))))
  refine hs.fzL .head fun np1 hs => ?_
  refine wpAny_items_cons (r_int hs fun u3 s hs => wpAny_items_nil ⟨by simp, _, _, hs, fun t1 s hs => ?_⟩)
  have hs := hs.fz_eq .head
  refine wpAny_items_cons (r_tuple (c := cx w B os mg mb) (wpAny_items_cons (r_list (c := cx w B os mg mb) (wpAny_items_cons (r_str hs fun u4 s hs => wpAny_items_cons (r_str hs fun u5 s hs => wpAny_items_nil ⟨by simp, _, _, hs, fun lp2 s hs => ?_⟩))))))
  refine hs.fzL .head fun np2 hs => ?_
  refine wpAny_items_cons (r_int hs fun u6 s hs => wpAny_items_nil ⟨by simp, _, _, hs, fun t2 s hs => ?_⟩)
  have hs := hs.fz_eq .head
  refine wpAny_items_nil ⟨by simp, _, _, hs, fun lx s hs => ?_⟩
  refine hs.fzL .head fun nx hs => ?_
  refine hs.pack3 (fun F0 => (∀ p ∈ F, p ∈ F0)) (fun F0 => (lx, lisO [.ref t1, .ref t2] nx) ∈ F0) (fun F0 => ∀ (i : Nat) (v : Value), [Value.ref t1, .ref t2][i]? = some v → ∃ tu lp vp np ps mo tm, v = .ref tu ∧ (tu, tupO [.ref lp, .int ((mo : Nat) : Int) tm]) ∈ F0 ∧ (lp, lisO vp np) ∈ F0 ∧ StrsAre vp ps ∧ ps.length = 2 ∧ mo ≤ 3 ∧ doneRows (i + 1) = doneRows i ++ upTo ps mo) (fun p hp => .tail _ (.tail _ (.tail _ (.tail _ (.tail _ hp))))) (.head _) (fun i v hv => by
      rcases i with _ | _ | i
      · obtain rfl : Value.ref t1 = v := by simpa using hv
        exact ⟨t1, lp1, _, np1, mP, 3, u3, rfl, .tail _ (.tail _ (.tail _ (.head _))), .tail _ (.tail _ (.tail _ (.tail _ (.head _)))), .cons _ _ (.cons _ _ .nil), rfl, by decide, rows_1⟩
      · obtain rfl : Value.ref t2 = v := by simpa using hv
        exact ⟨t2, lp2, _, np2, dP, 2, u6, rfl, .tail _ (.head _), .tail _ (.tail _ (.head _)), .cons _ _ (.cons _ _ .nil), rfl, by decide, rows_2⟩
      · simp at hv) fun F0 hF0 hlx hdat hs => ?_
  refine r_iterL hs hlx fun I s hne hs => ?_
  refine r_forT (TIter.list (c := cx w B os mg mb) (vs := [.ref t1, .ref t2]) (k := nx) r.hd hne fun i v hv => by obtain ⟨tu, _, _, _, _, _, _, e, _⟩ := hdat i v hv; exact ⟨tu, e⟩)
    (fun i F1 M1 => Ex3 fun m1 mc1 vr => And7 (M1 = (L, NsP m1) :: (cel (lawCs L) mc1 ++ (lr, LsP vr) :: M)) (mc1 "listed" = mc "listed") (mc1 "prices" = mc "prices") (m1 "modules" = m "modules") (m1 "directories" = m "directories") (m1 "rows" = some (.ref lr)) (RowsIn F1 vr (doneRows i)))
    hs (fun p hp => (List.mem_singleton.mp hp) ▸ hlx) ⟨_, _, _, rfl, rfl, rfl, rfl, rfl, rfl, .nil⟩ ?_ ?_ ?_
  · rintro i F1 M1 F2 ⟨m1, mc1, vr, e, h1, h2, h3, h4, h5, h6⟩ hF
    exact ⟨m1, mc1, vr, e, h1, h2, h3, h4, h5, h6.mono hF⟩
  · rintro i v F1 M1 s E1 hi hv ⟨m1, mc1, vr, rfl, h1, h2, h3, h4, h5, h6⟩ hF1 hs
    obtain ⟨tu, lp, vp, np, ps, mo, tm, rfl, htu, hlp, hvp, hps2, hmo, hdone⟩ := hdat i v hv
    have hs : Is (cx w B os mg mb) F1 ((I, LiP lx (i + 1)) :: (L, NsP m1) :: (cel (lawCs L) mc1 ++ (lr, LsP vr) :: M)) s := hs
    have hlp1 := hF1 _ hlp
    refine gen fun QO hQO => ?_
    refine r_unpack hs r.hd (vs := [.ref lp, .int (mo : Int) tm]) ⟨_, hs.getF (hF1 _ htu), rfl, 0, rfl⟩ rfl rfl fun s hs => ?_
    refine assignInOrder_cons (wpAny_assign_Name (r_stC hs (.tail (.tail (cel_upd hnd c3 _))) rfl fun s hs => ?_))
    refine assignInOrder_cons (wpAny_assign_Name (r_st hs (.tail .head) fun s hs => assignInOrder_nil (hQO _ _ (gen fun QB hQB => ?_))))
    refine wpAny_execs_cons (r_assign (r_list (c := cx w B os mg mb) (wpAny_items_cons (r_list (c := cx w B os mg mb) (wpAny_items_nil ⟨by simp, _, _, hs, fun le s hs => ?_⟩)))))
    refine hs.fzL .head fun ne hs => ?_
    refine wpAny_items_nil ⟨by simp, _, _, hs, fun lo s hs => ?_⟩
    refine hs.fzL .head fun no hs => ?_
    refine r_st hs (.tail .head) fun s hs => ?_
    generalize hmc2 : up mc1 "parts" (.ref lp) = mc2 at hs
    have g1 : mc2 "listed" = mc "listed" := by rw [← hmc2]; exact h1
    have g2 : mc2 "prices" = mc "prices" := by rw [← hmc2]; exact h2
    have g3 : mc2 "parts" = some (.ref lp) := by rw [← hmc2]; rfl
    refine wpAny_execs_cons (wpAny_For (r_CallT (c := cx w B os mg mb) hs (b_range hs.gd) bb_range (by decide) (wpAny_items_cons (r_loc hs in1 rfl (wpAny_items_nil (r_range1 hs fun rr s hs => ?_))))))
    refine r_iterR0 hs in0 (by lia) fun I2 s hs => ?_
    have hs := hs.out (.tail .head)
    have hvpl := strs_len hvp
    refine r_for (Iter.range r.hd) (fun kk F2 M2 => Ex5 fun m2 vr2 lo vlo nlo => And8 (M2 = (I, LiP lx (i + 1)) :: (L, NsP m2) :: (cel (lawCs L) mc2 ++ (lr, LsP vr2) :: M)) (m2 "modules" = m "modules") (m2 "directories" = m "directories") (m2 "rows" = some (.ref lr)) (m2 "longer" = some (.ref lo)) ((lo, lisO vlo nlo) ∈ F2) (RowsIn F2 vlo (lv ps kk)) (RowsIn F2 vr2 (doneRows i ++ upTo ps kk))) hs (fun p hp => nomatch hp) ⟨_, vr, lo, _, no, rfl, h3, h4, h5, rfl, .head _, .cons rfl (.tail _ (.head _)) .nil .nil, by
          rw [upTo, List.append_nil]; exact h6.mono fun p hp => .tail _ (.tail _ hp)⟩ ?_ ?_
    · rintro kk v F2 M2 s E2 hkk ⟨tv, rfl⟩ ⟨m2, vr2, lo, vlo, nlo, rfl, k3, k4, k5, k6, hlo, hrlo, hr2⟩ hF2 hs
      have hlp2 := hF2 _ (.tail _ (.tail _ hlp1))
      refine wpAny_assign_Name (r_st hs (.tail (.tail .head)) fun s hs => gen fun QI hQI => ?_)
      refine wpAny_execs_cons (r_lc2A (c := cx w B os mg mb) [("parts", L + 3)] rfl rfl (r_loc hs in2 k6 ?_))
      refine hs.hideV (.tail _ (.tail _ (.tail _ (cel_mem (mc := mc2) c3)))) (.tail (.tail .head)) fun M5 g5 i3' u5 hs back => ?_
      refine r_iterL hs hlo fun I3 s hne3 hs => ?_
      have hlvl := hrlo.length
      have hlv8 := lv_len hps2 kk (by lia)
      refine ⟨I3, _, _, _, _, _, _, rfl, Iter.list r.hd hne3, hs, fun p hp => (List.mem_singleton.mp hp) ▸ hlo, fun _ => rfl, fun _ _ => rfl, fun i3 vs F3 => RowsIn F3 vs (ext ps ((lv ps kk).take i3)), .nil, ?_, ?_⟩
      · rintro C D i3 v vs m3 F3 s E3 hi3 hv3 hJ3 hF3 hs
        obtain ⟨a, ws, nw, rr', rfl, ha, hws, err⟩ := (hrlo.mono hF3).get hv3
        refine wpAny_assign_Name (r_st hs (.tail .head) fun s hs => ?_)
        refine r_cel (x := "parts") (mc := mc2) hs (.tail _ (.tail _ (.tail _ i3'))) rfl g3 ?_
        refine r_iterL hs (hF3 _ hlp2) fun I4 s hne4 hs => ?_
        have hs := hs.perm (M' := (I4, LiP lp 0) :: (C, NsP (up m3 "row" (.ref a))) :: (D, LsP vs) :: (I3, LiP lo (i3 + 1)) :: _) (((List.Perm.swap _ _ _).trans ((List.Perm.swap _ _ _).cons _)).symm.cons _)
        refine ⟨I4, F3, _, _, _, _, _, rfl, Iter.list r.hd hne4, fun _ h => h, fun p hp => (List.mem_singleton.mp hp) ▸ hF3 _ hlp2, hs, fun j vs2 F4 m4 => RowsIn F4 vs2 (ext ps ((lv ps kk).take i3) ++ (ps.take j).map fun p => rr' ++ [p]) ∧ m4 "row" = some (.ref a), ⟨by rw [List.take_zero, List.map_nil, List.append_nil]; exact hJ3, rfl⟩, ?_, ?_⟩
        · rintro j v2 vs2 m4 F4 s E4 hj hv2 ⟨hJ4, hm4⟩ hF4 hs
          obtain ⟨p, tp, rfl, ep⟩ := strs_get hvp hv2
          have hl4 := hJ4.length
          rw [List.length_append, ext_len hps2, List.length_map, List.length_take, List.length_take] at hl4
          have hrl : rr'.length = ws.length := (strs_len hws).symm
          have hrr3 : ws.length ≤ 100 := by
            have hall : ∀ k', ∀ q ∈ lv ps k', q.length = k' := by
              intro k'
              induction k' with
              | zero => intro q hq; have : q = [] := by simpa [lv] using hq
                        rw [this]; rfl
              | succ k' ih =>
                intro q hq
                simp only [lv, ext, List.mem_flatMap, List.mem_map] at hq
                obtain ⟨q', hq', p', hp', rfl⟩ := hq
                rw [List.length_append, ih q' hq']; rfl
            have := hall kk rr' (List.mem_of_getElem? err)
            lia
          refine wpAny_assign_Name (r_st hs (.tail .head) fun s hs => gen fun QE hQE => ?_)
          refine wpAny_BinOp (r_loc hs in1 hm4 (r_list (c := cx w B os mg mb) (wpAny_items_cons (r_loc hs in1 rfl (wpAny_items_nil ⟨by simp, _, _, hs, fun lq s hs => ?_⟩)))))
          refine hs.getL in0 fun nq eq => ?_
          refine r_addL hs (hs.getF (hF4 _ ha)) eq (by simp; lia) fun ln s hs => ?_
          have hs := hs.out (.tail .head)
          refine hs.fzL .head fun nn hs => ?_
          refine hQE _ _ ⟨by lia, _, _, fun p hp => .tail _ hp, ?_, hs⟩
          refine ⟨?_, hm4⟩
          rw [List.take_add_one, ep, List.map_append, ← List.append_assoc]
          exact (hJ4.mono fun p hp => .tail _ hp).snoc (.head _) (strs_snoc hws p tp)
        · rintro vs2 m4 F4 ⟨hJ4, _⟩ hF4
          rw [List.take_add_one, err]
          show RowsIn F4 vs2 (ext ps (_ ++ [rr']))
          rw [ext_snoc]
          rw [hvpl, List.take_length] at hJ4
          exact hJ4
      · rintro D vs F3 s hJ3 hF3 hs
        rw [hlvl, List.take_length] at hJ3
        refine ⟨_, _, .tail u5, fun s hs => ?_⟩
        have hs := back [(D, LsP vs)] _ _ _ hs
        refine hs.fzL .head fun nD hs => ?_
        have hr2l := hr2.length
        have hJl := hJ3.length
        have hdl := doneRows_len i
        have hul := upTo_len hps2 kk (by lia)
        rw [List.length_append] at hr2l
        rw [ext_len hps2] at hJl
        refine wpAny_execs_cons (wpAny_Expr (wpAny_Call_method1_late rfl rfl rfl (r_loc hs in2 k5 (m_extend hs (.tail _ (.tail _ (mem_fr (.head _)))) (r_loc hs in2 rfl ⟨_, _, _, _, _, _, _, rfl, hs, .tail (.tail (.fr .head)), .head _, by lia, fun s hs => wpAny_execs_nil ?_⟩)))))
        refine hQI _ _ ⟨_, _, fun p hp => .tail _ (hF3 p hp), ?_, hs⟩
        refine ⟨_, _, D, vs, nD, rfl, k3, k4, k5, rfl, .head _, hJ3.mono fun p hp => .tail _ hp, ?_⟩
        rw [upTo, ← List.append_assoc]
        have h1 := hr2.mono fun p hp => (List.mem_cons_of_mem (D, lisO vs nD) (hF3 p hp))
        have h2 : RowsIn ((D, lisO vs nD) :: F3) vs (lv ps (kk + 1)) := hJ3.mono fun p hp => .tail _ hp
        exact h1.append h2
    · rintro F2 M2 s ⟨m2, vr2, lo, vlo, nlo, rfl, k3, k4, k5, k6, hlo, hrlo, hr2⟩ hF2 hs
      refine wpAny_execs_nil (hQB _ _ ?_)
      refine ⟨F2, _, fun p hp => hF2 p (.tail _ (.tail _ hp)), ⟨m2, mc2, vr2, rfl, g1, g2, k3, k4, k5, ?_⟩, hs⟩
      rw [hdone]; exact hr2
  · rintro F1 M1 s ⟨m1, mc1, vr, rfl, h1, h2, h3, h4, h5, h6⟩ hF1 hs
    refine hs.fzL (.fr .head) fun nr hs => ?_
    exact k _ m1 mc1 lr vr nr s (fun p hp => .tail _ (hF1 p (hF0 p hp))) h1 h2 h3 h4 h5 (.head _) (h6.mono fun p hp => .tail _ hp) hs
end Mine

namespace Mine
variable {w : World} {B : Heap} {os : OsState} {mg mb : Str → Option Value} {F : List (Addr × Obj)} {M M' : Led} {s : Shared} {A : Around} {E : Value → Shared → Prop}

/-- an _Ignore of rows -/
theorem ignore_c {lm ld : Addr} {vm vd : List Value} {km kd : Nat} {ms ds : List (List Str)} {dirs : List Str} {Q : Value → Shared → Prop} (hs : Is (cx w B os mg mb) F M s) (r : Rm 14 A) (hlm : (lm, lisO vm km) ∈ F) (hld : (ld, lisO vd kd) ∈ F)
    (hvm : StrsAre vm (ms.map tx)) (hvd : StrsAre vd dirs) (hnp : dirs.map npath = ds.map tx) (hpo : ∀ p ∈ dirs, PathOk p) (hms : ∀ q ∈ ms, q ∈ mRows) (hds : ∀ q ∈ ds, q ∈ dRows) (hm0 : ms ≠ []) (hd0 : ds ≠ []) (hmz : ms.length < 900) (hdz : ds.length < 900)
    (k : ∀ x d F' s', (∀ p ∈ F, p ∈ F') → Rdr w B os mg mb F' x d ms ds → Is (cx w B os mg mb) F' ((d, CaP (cx w B os mg mb) (fun k => if k = "<string>" then some 1 else none) 1) :: M) s' → Q (.ref x) s') :
    wpAny (model (cx w B os mg mb).prog w) A (call (.ref 79) [.ref lm, .ref ld]) Q E s := by
  have hl : dirs.length = ds.length := by have := congrArg List.length hnp; simpa using this
  refine wpAny_call (r_make (c := cx w B os mg mb) hs ig_makes ig_init ig_initf fun x dx s hs => ?_)
  refine init_c (mods := ms.map tx) (dirs := dirs) hs (r.mono (by decide : 13 ≤ 14)).made (.head _) (.tail _ hlm) (.tail _ hld) hvm hvd (fun e => hm0 (List.map_eq_nil_iff.mp e)) (fun e => hd0 (List.eq_nil_of_length_eq_zero (by rw [← hl, e]; rfl))) (by simpa using hmz) (by lia) hpo ?_
  intro d F' s' hF hI hs
  refine ⟨rfl, ?_⟩
  rw [hnp] at hI
  exact k x d F' s' (fun p hp => hF p (.tail _ hp)) ⟨hI, hms, hds⟩ hs

/-- the rows of modules and of directories -/
noncomputable def msOf : List Int → List (List Str)
  | [] => []
  | x :: r => if x.fmod 2 = 1 then msOf r else rowOf x :: msOf r
noncomputable def dsOf : List Int → List (List Str)
  | [] => []
  | x :: r => if x.fmod 2 = 1 then rowOf x :: dsOf r else dsOf r
theorem mods_tx (l : List Int) : modsW l = (msOf l).map tx := by
  induction l with
  | nil => rfl
  | cons x r ih => simp only [modsW, msOf]; split <;> simp [ih]
theorem path_row (x : Int) (h : x.fmod 2 = 1) : PathOk (written (rowOf x) (manOf x)) ∧ npath (written (rowOf x) (manOf x)) = tx (rowOf x) := by
  have h1 := all_of f_path (rowOf_odd h)
  have h2 := fmod4 ((qOf x).fdiv 24)
  have h3 : manOf x ∈ ([0, 1, 2, 3] : List Int) := by unfold manOf; simp; exact h2
  have h4 := all_of h1 h3
  simp only [Bool.and_eq_true, decide_eq_true_eq] at h4
  exact ⟨path_of h4.1, h4.2⟩
theorem dirs_np (l : List Int) : (dirsW l).map npath = (dsOf l).map tx := by
  induction l with
  | nil => rfl
  | cons x r ih =>
    simp only [dirsW, dsOf]
    split
    · rename_i h; rw [List.map_cons, List.map_cons, ih, (path_row x h).2]
    · exact ih
theorem dirs_ok (l : List Int) : ∀ p ∈ dirsW l, PathOk p := by
  induction l with
  | nil => intro p hp; exact nomatch hp
  | cons x r ih =>
    simp only [dirsW]
    split
    · rename_i h
      intro p hp
      rcases List.mem_cons.mp hp with rfl | hp
      · exact (path_row x h).1
      · exact ih p hp
    · exact ih
theorem ms_ok (l : List Int) : ∀ q ∈ msOf l, q ∈ mRows := by
  induction l with
  | nil => intro p hp; exact nomatch hp
  | cons x r ih =>
    simp only [msOf]
    split
    · exact ih
    · rename_i h
      intro p hp
      rcases List.mem_cons.mp hp with rfl | hp
      · exact rowOf_even ((fmod2 x).resolve_right h)
      · exact ih p hp
theorem ds_ok (l : List Int) : ∀ q ∈ dsOf l, q ∈ dRows := by
  induction l with
  | nil => intro p hp; exact nomatch hp
  | cons x r ih =>
    simp only [dsOf]
    split
    · rename_i h
      intro p hp
      rcases List.mem_cons.mp hp with rfl | hp
      · exact rowOf_odd h
      · exact ih p hp
    · exact ih
theorem ms_len (l : List Int) : (msOf l).length ≤ l.length := by
  induction l with
  | nil => exact Nat.le_refl _
  | cons x r ih => simp only [msOf]; split <;> simp <;> lia
theorem ds_len (l : List Int) : (dsOf l).length ≤ l.length := by
  induction l with
  | nil => exact Nat.le_refl _
  | cons x r ih => simp only [dsOf]; split <;> simp <;> lia
theorem listed_mem (l : List Int) (q : List Str) : q ∈ l.map rowOf ↔ q ∈ msOf l ++ dsOf l := by
  induction l with
  | nil => simp [msOf, dsOf]
  | cons x r ih =>
    simp only [List.map_cons, List.mem_cons, msOf, dsOf]
    split
    · rw [ih]; simp only [List.mem_append, List.mem_cons]; constructor
      · rintro (h | h | h)
        · exact .inr (.inl h)
        · exact .inl h
        · exact .inr (.inr h)
      · rintro (h | h | h)
        · exact .inr (.inl h)
        · exact .inl h
        · exact .inr (.inr h)
    · rw [ih]; simp only [List.mem_append, List.mem_cons]; constructor
      · rintro (h | h | h)
        · exact .inl (.inl h)
        · exact .inl (.inr h)
        · exact .inr h
      · rintro ((h | h) | h)
        · exact .inl h
        · exact .inr (.inl h)
        · exact .inr (.inr h)
noncomputable abbrev mS (ns : List Int) := msOf (numsL ns)
noncomputable abbrev dS (ns : List Int) := dsOf (numsL ns)
theorem nums_len (ns : List Int) : (numsL ns).length ≤ 10 := by unfold numsL; rw [List.length_append, List.length_take]; simp; lia
theorem f51 : ¬ ((8 : Int).fmod 2 = 1) ∧ ¬ ((34 : Int).fmod 2 = 1) ∧ (51 : Int).fmod 2 = 1 := by decide
theorem mS_mem (ns : List Int) : (["ab", "a"] : List Str) ∈ mS ns := by
  show _ ∈ msOf (8 :: _)
  rw [msOf, if_neg f51.1, row_8]; exact .head _
theorem dS_mem (ns : List Int) : (["x", "x"] : List Str) ∈ dS ns := by
  show _ ∈ dsOf (8 :: 34 :: 51 :: _)
  rw [dsOf, if_neg f51.1, dsOf, if_neg f51.2.1, dsOf, if_pos f51.2.2, row_51]; exact .head _

theorem g_walk (G : Gd (cx w B os mg mb)) : mg "_law_walk" = some (.ref 153) := mg_of G.X G.T.g (by kernel_rfl)
noncomputable def prOf (gp : Str → Option Int) (p : Str) : Int := (gp p).getD 0

set_option maxHeartbeats 8000000 in
theorem law_4 {L fa pd lm ld : Addr} {cdv : Value} {body : List Stmt} {scope : Scope} {m mc : Str → Option Value} {Q : Flow → Shared → Prop} {gp : Str → Option Int} {ns : List Int} {vm vd : List Value} {nm nd : Nat} (hb : lawFd w.params = some (body, scope))
    (hs : Is (cx w B os mg mb) F ((L, NsP m) :: (cel (lawCs L) mc ++ (pd, CaP (cx w B os mg mb) gp 4) :: M)) s) (r : Rm 20 A) (hmp : mc "prices" = some (.ref pd)) (hgp : ∀ p ∈ P4, ∃ a, gp p = some a ∧ 0 < a)
    (h1 : m "modules" = some (.ref lm)) (h2 : m "directories" = some (.ref ld)) (hlm : (lm, lisO vm nm) ∈ F) (hld : (ld, lisO vd nd) ∈ F) (hvm : StrsAre vm (modsW (numsL ns))) (hvd : StrsAre vd (dirsW (numsL ns)))
    (k : ∀ F' x d tl vt T g n' s', (∀ p ∈ F, p ∈ F') → Rdr w B os mg mb F' x d (mS ns) (dS ns) → WI (prOf gp) (mS ns ++ dS ns) (visOf (mS ns ++ dS ns)) T [] → Told (prOf gp) (mS ns ++ dS ns) F' vt T → CaI (mS ns ++ dS ns) 30 0 false g → n' ≤ 21 →
      Is (cx w B os mg mb) F' ((L, NsP (up (up m "first" (.ref x)) "told" (.ref tl))) :: (cel (lawCs L) mc ++ (tl, LsP (.none :: vt)) :: (d, CaP (cx w B os mg mb) g n') :: (pd, CaP (cx w B os mg mb) gp 4) :: M)) s' →
      wpAny (model (cx w B os mg mb).prog w) A (execs (body.drop 9) (envOfC "law" scope L fa cdv)) Q E s') :
    wpAny (model (cx w B os mg mb).prog w) A (execs (body.drop 7) (envOfC "law" scope L fa cdv)) Q E s := by
  have hb' := hb
  unfold lawFd at hb'
  conv at hb' => lhs; whnf
  simp only [Option.some.injEq, Prod.mk.injEq] at hb'
  obtain ⟨rfl, rfl⟩ := hb'
  have hnd := lawCs_nodup L
  have c6 : (("prices" : Str), L + 6) ∈ lawCs L := by simp [lawCs]
  have hnl := nums_len ns
  have hml : (mS ns).length ≤ (numsL ns).length := ms_len (numsL ns)
  have hdl : (dS ns).length ≤ (numsL ns).length := ds_len (numsL ns)
  rw [mods_tx] at hvm
  refine wpAny_execs_cons (r_assign (r_CallC (c := cx w B os mg mb) hs (g_Ignore hs.gd) ig_keep (wpAny_items_cons (r_loc hs in0 h1 (wpAny_items_cons (r_loc hs in0 h2 (wpAny_items_nil ⟨hs.K, ?_⟩)))))))
  refine ignore_c (ms := mS ns) (ds := dS ns) hs (r.mono (by decide)) hlm hld hvm hvd (dirs_np _) (dirs_ok _) (ms_ok _) (ds_ok _) (List.ne_nil_of_mem (mS_mem ns)) (List.ne_nil_of_mem (dS_mem ns)) (by lia) (by lia) fun x d F1 s hF1 hR hs => ?_
  have hs := hs.sink
  refine r_st hs .head fun s hs => ?_
  refine wpAny_execs_cons (r_assign (r_Call (c := cx w B os mg mb) hs (g_walk hs.gd) (by rfl) rfl (wpAny_items_cons (r_loc hs in0 rfl (wpAny_items_cons (r_cel (x := "prices") (mc := mc) hs (.tail _ (cel_mem c6)) rfl hmp (wpAny_items_nil ⟨hs.K, ?_⟩)))))))
  have hs := hs.perm (M' := (d, CaP (cx w B os mg mb) (fun k => if k = "<string>" then some 1 else none) 1) :: (pd, CaP (cx w B os mg mb) gp 4) :: (L, NsP (up m "first" (.ref x))) :: (cel (lawCs L) mc ++ M))
    (by
      refine List.Perm.trans ?_ (List.Perm.cons _ (List.perm_middle.symm))
      refine List.Perm.trans ?_ (List.Perm.swap _ _ _)
      refine List.Perm.cons _ ?_
      refine List.Perm.trans ?_ (List.Perm.cons _ (List.perm_middle.symm))
      exact List.Perm.swap _ _ _)
  have hgp' : ∀ p ∈ (["a", "ab", "x", "xy"] : List Str), gp p = some (prOf gp p) ∧ 0 < prOf gp p := fun p hp => by
    obtain ⟨a, e, ha⟩ := hgp p hp
    have : prOf gp p = a := by unfold prOf; rw [e]; rfl
    rw [this]; exact ⟨e, ha⟩
  refine walk_c (pr := prOf gp) (N' := 0) (Hh := false) hs (r.mono (by decide)) hR (fun p hp => (hgp' p hp).1) (fun p hp => (hgp' p hp).2) (by decide) (CaI.start.more (by decide) (by decide)) fun tl vt T g n' F2 s hF2 hW hT hca hn' hs => ?_
  have hs := hs.perm (M' := (L, NsP (up m "first" (.ref x))) :: (cel (lawCs L) mc ++ (tl, LsP (.none :: vt)) :: (d, CaP (cx w B os mg mb) g n') :: (pd, CaP (cx w B os mg mb) gp 4) :: M))
    (by
      refine List.Perm.trans (List.Perm.cons _ (List.perm_middle.trans (List.Perm.cons _ (List.perm_middle.trans (List.Perm.cons _ List.perm_middle))))) ?_
      refine List.Perm.trans (List.Perm.swap _ _ _) (List.Perm.cons _ ?_)
      refine List.Perm.trans (List.Perm.swap _ _ _) (List.Perm.cons _ ?_)
      exact List.Perm.swap _ _ _)
  refine r_st hs .head fun s hs => ?_
  exact k F2 x d tl vt T g n' s (fun p hp => hF2 p (hF1 p hp)) (hR.mono hF2) hW hT hca (by lia) hs
end Mine

namespace Mine
theorem slice_upto {vs : List Value} (k : Nat) : (slicePick vs.toArray none (some (k : Int)) none).toList = vs.take k := by
  have e : sliceBounds none (some (k : Int)) none vs.toArray.size = (((0 : Nat) : Int), ((min k vs.toArray.size : Nat) : Int), 1) := by
    simp only [sliceBounds, Option.getD_none, show (1 : Int) > 0 by decide, if_true, if_neg (show ¬ ((k : Int) < 0) by lia)]
    congr 1
    congr 1
    lia
  rw [kmk_pick_nat _ e]
  show ((vs.drop 0).take (min k vs.toArray.size - 0)) = _
  rw [List.drop_zero, Nat.sub_zero, List.size_toArray, kmk_take_min]
theorem slice_from1 {vs : List Value} : (slicePick vs.toArray (some 1) none none).toList = vs.drop 1 := by
  have e : sliceBounds (some 1) none none vs.toArray.size = (((min 1 vs.toArray.size : Nat) : Int), ((vs.toArray.size : Nat) : Int), 1) := by
    simp only [sliceBounds, Option.getD_none, show (1 : Int) > 0 by decide, if_true, if_neg (show ¬ ((1 : Int) < 0) by decide)]
    congr 1
    lia
  rw [kmk_pick_nat _ e]
  show ((vs.drop (min 1 vs.toArray.size)).take (vs.toArray.size - min 1 vs.toArray.size)) = _
  rw [List.size_toArray, kmk_drop_min, List.take_of_length_le (by rw [List.length_drop]; lia)]

noncomputable def rowD (q : List Str) : PyData := .list (q.map .str)
theorem eqvAll_strs : ∀ (a b : List Str), PyData.eqvAll (a.map .str) (b.map .str) = (a == b)
  | [], [] => rfl
  | [], _ :: _ => rfl
  | _ :: _, [] => rfl
  | x :: a, y :: b => by
    rw [List.map_cons, List.map_cons, PyData.eqvAll, eqvAll_strs a b]
    rfl
theorem eqv_rows (a b : List Str) : PyData.eqv (rowD a) (rowD b) = (a == b) := eqvAll_strs a b
theorem ok_strs : ∀ {q : List Str}, q.all PyData.strOk = true → PyData.canLayAll0 (q.map .str) = true
  | [], _ => rfl
  | x :: q, h => by
    rw [List.all_cons, Bool.and_eq_true] at h
    rw [List.map_cons, PyData.canLayAll0, PyData.canLay0, h.1, ok_strs h.2]; rfl
theorem ok_rows : ∀ {rs : List (List Str)}, (∀ q ∈ rs, q.all PyData.strOk = true) → PyData.canLayAll0 (rs.map rowD) = true
  | [], _ => rfl
  | q :: rs, h => by
    rw [List.map_cons, PyData.canLayAll0, rowD, PyData.canLay0, ok_strs (h q (.head _)), ok_rows fun q hq => h q (.tail _ hq)]; rfl
theorem depth_strs : ∀ q : List Str, PyData.depthAll (q.map .str) = 0
  | [] => rfl
  | x :: q => by rw [List.map_cons, PyData.depthAll, depth_strs q]; rfl
theorem f_okp : allRows.all (fun r => r.all PyData.strOk) = true := by decide +kernel
theorem f_parts : allRows.all (fun r => r.all fun p => P4.contains p) = true := by decide +kernel
theorem f_len3 : allRows.all (fun r => decide (1 ≤ r.length) && decide (r.length ≤ 3)) = true := by decide +kernel
theorem row_okp {r : List Str} (h : r ∈ allRows) : r.all PyData.strOk = true := all_of f_okp h
theorem row_len {r : List Str} (h : r ∈ allRows) : 1 ≤ r.length ∧ r.length ≤ 3 := by simpa using all_of f_len3 h
theorem row_part {r : List Str} (h : r ∈ allRows) {p : Str} (hp : p ∈ r) : p ∈ P4 := by
  have := all_of (all_of f_parts h) hp
  simpa using this
theorem take_ok {q : List Str} (h : q.all PyData.strOk = true) (k : Nat) : (q.take k).all PyData.strOk = true :=
  List.all_eq_true.mpr fun x hx => List.all_eq_true.mp h x (List.mem_of_mem_take hx)

section
variable {c : Cx} {F : List (Addr × Obj)} {M M' : Led} {s : Shared} {A : Around} {E : Value → Shared → Prop} {Q : Value → Shared → Prop} {x : Str} {env : Env} {pos : Pos} {v : Value} {t u : Tok} {m mc : Str → Option Value} {L a : Addr} {P : Obj → Prop}

theorem strs_rd {vs : List Value} {xs : List Str} (h : StrsAre vs xs) : RdA F vs (xs.map .str) := by
  induction h with
  | nil => exact .nil
  | cons y u _ ih => exact .cons (.str _ _) ih
theorem ints_rd {vs : List Value} {xs : List Int} (h : IntsAre vs xs) : RdA F vs (xs.map .int) := by
  induction h with
  | nil => exact .nil
  | cons y u _ ih => exact .cons (.int _ _) ih
theorem ok_ints : ∀ xs : List Int, PyData.canLayAll0 (xs.map .int) = true
  | [] => rfl
  | x :: q => by rw [List.map_cons, PyData.canLayAll0, ok_ints q]; rfl
theorem RowsIn.rd {vs : List Value} {rs : List (List Str)} (h : RowsIn F vs rs) : RdA F vs (rs.map rowD) := by
  induction h with
  | nil => exact .nil
  | cons e m st _ ih => exact .cons (e ▸ RdF.lis m (strs_rd st)) ih

/-- a new row in a frozen list of rows -/
theorem r_inRows {D ll : Addr} {ws vl : List Value} {q : List Str} {rs : List (List Str)} {nl n : Nat} (hs : Is c F M s) (hD : (D, LsP ws) ∈ M) (hw : StrsAre ws q) (hl : (ll, lisO vl nl) ∈ F) (hr : RowsIn F vl rs) (hq : q.all PyData.strOk = true) (hrs : ∀ q ∈ rs, q.all PyData.strOk = true) (r : Rm (n + 1) A)
    (h : Q (.bool (rs.contains q)) s) : wpAny (model c.prog c.w) A (compareOp .In (.ref D) (.ref ll)) Q E s := by
  obtain ⟨o, eo, n0, rfl⟩ := hs.get hD
  obtain ⟨as, ra⟩ := (strs_rd (F := F) hw).at hs
  obtain ⟨bs, rb⟩ := hr.rd.at hs
  have r1 : Reads s.heap (.ref D) (rowD q) (D :: as) := .list eo rfl rfl (by simpa using ra)
  have r2 : Reads s.heap (.ref ll) (.list (rs.map rowD)) (ll :: bs) := .list (hs.getF hl) rfl rfl (by simpa using rb)
  refine SeqAt.in_list_reads r2 r1 (ok_rows hrs) (by rw [rowD, PyData.canLay0]; exact ok_strs hq) ?_ ?_
  · have h1 := r.units
    have : (rowD q).depth = 1 := by rw [rowD, PyData.depth, depth_strs]
    lia
  · have : ((rs.map rowD).any fun y => PyData.eqv y (rowD q)) = rs.contains q := by
      rw [List.any_map]
      have e : (fun r => PyData.eqv (rowD r) (rowD q)) = fun r => r == q := funext fun r => eqv_rows r q
      show (rs.any fun r => PyData.eqv (rowD r) (rowD q)) = _
      rw [e]
      induction rs with
      | nil => rfl
      | cons a b ih => rw [List.any_cons, List.contains_cons]; congr 1
                       · exact Bool.eq_iff_iff.mpr ⟨fun h => by simpa using (beq_iff_eq.mp h).symm, fun h => by simpa using (beq_iff_eq.mp h).symm⟩
                       · rw [List.contains_eq_any_beq]
                         apply any_congr
                         intro y _
                         exact Bool.eq_iff_iff.mpr ⟨fun h => by simpa using (beq_iff_eq.mp h).symm, fun h => by simpa using (beq_iff_eq.mp h).symm⟩
    rw [this]; exact h

/-- a new list of ints against [] -/
theorem r_cmpNil {hp l : Addr} {vs : List Value} {ks : List Int} {n : Nat} {op : CmpOp} {b : Bool} (hop : (op = .Eq ∧ b = vs.isEmpty) ∨ (op = .NotEq ∧ b = !vs.isEmpty)) (hs : Is c F M s) (hm : (hp, LsP vs) ∈ M) (hl : (l, LsP []) ∈ M) (hi : IntsAre vs ks) (r : Rm (n + 1) A) (h : Q (.bool b) s) :
    wpAny (model c.prog c.w) A (compareOp op (.ref hp) (.ref l)) Q E s := by
  obtain ⟨o1, e1, n1, rfl⟩ := hs.get hm
  obtain ⟨o2, e2, n2, rfl⟩ := hs.get hl
  obtain ⟨as, ra⟩ := (ints_rd (F := F) hi).at hs
  have r1 : Reads s.heap (.ref hp) (.list (ks.map .int)) (hp :: as) := .list e1 rfl rfl (by simpa using ra)
  have r2 : Reads s.heap (.ref l) (.list []) (l :: []) := .list e2 rfl rfl .nil
  have hd : A.units + min (PyData.list (ks.map .int)).depth (PyData.list []).depth < cLine := by
    have : min (PyData.list (ks.map .int)).depth (PyData.list []).depth ≤ 1 := Nat.min_le_right _ _
    have := r.units
    lia
  have he : PyData.eqv (.list (ks.map .int)) (.list []) = vs.isEmpty := by cases hi <;> rfl
  rcases hop with ⟨rfl, rfl⟩ | ⟨rfl, rfl⟩
  · refine SeqAt.compareEq_reads r1 r2 (by simpa [PyData.canLay0] using ok_ints ks) rfl hd ?_
    rw [he]; exact h
  · refine SeqAt.compareNe_reads r1 r2 (by simpa [PyData.canLay0] using ok_ints ks) rfl hd ?_
    rw [he]; exact h

theorem r_lenF {l : Addr} {vs : List Value} {n : Nat} (hs : Is c F M s) (hm : (l, lisO vs n) ∈ F) (hf : vs.length < 100000) (h : ∀ t s', Is c F M s' → Q (.int vs.length t) s') :
    wpAny (model c.prog c.w) A (call (.builtin "len") [.ref l]) Q E s := by
  refine call_len_list (items := vs.toArray) ⟨_, hs.getF hm, rfl, n, rfl⟩ (by simp; lia) ?_
  have := h (s.toks + 1) _ (hs.toks (s.toks + 1 + 1))
  simpa using this

theorem isListF {l : Addr} {vs : List Value} {n : Nat} (hs : Is c F M s) (hm : (l, lisO vs n) ∈ F) : s.heap.IsList l vs.toArray := ⟨_, hs.getF hm, rfl, n, rfl⟩
end

variable {Ls L2 : List (List Str)}
theorem contains_congr (h : ∀ q, q ∈ Ls ↔ q ∈ L2) (q : List Str) : Ls.contains q = L2.contains q := by
  rw [Bool.eq_iff_iff, List.contains_iff_mem, List.contains_iff_mem]; exact h q
theorem noProp_range (h : ∀ q, q ∈ Ls ↔ q ∈ L2) {r : List Str} : ((List.range (r.length - 1)).all fun j => !Ls.contains (r.take (1 + j))) = noProp L2 r := by
  unfold noProp
  rw [List.range_eq_range', Bool.eq_iff_iff, List.all_eq_true, List.all_eq_true]
  constructor
  · intro hh k hk
    rw [List.mem_range'_1] at hk
    have := hh (k - 1) (by rw [List.mem_range'_1]; lia)
    rw [show 1 + (k - 1) = k by lia, contains_congr h] at this
    exact this
  · intro hh k hk
    rw [List.mem_range'_1] at hk
    have := hh (1 + k) (by rw [List.mem_range'_1]; lia)
    rw [contains_congr h]
    exact this
theorem below_range (h : ∀ q, q ∈ Ls ↔ q ∈ L2) (h0 : [] ∉ L2) {r : List Str} : (!(List.range r.length).all fun j => !Ls.contains (r.take (j + 1))) = belowB L2 r := by
  rw [Bool.eq_iff_iff, below_iff h0, Bool.not_eq_true', List.all_eq_false]
  constructor
  · rintro ⟨j, hj, hc⟩
    rw [List.mem_range] at hj
    rw [Bool.not_eq_true, Bool.not_eq_false', List.contains_iff_mem, h] at hc
    exact ⟨j + 1, by lia, by lia, hc⟩
  · rintro ⟨k, h1, h2, h3⟩
    refine ⟨k - 1, List.mem_range.mpr (by lia), ?_⟩
    rw [Bool.not_eq_true, Bool.not_eq_false', List.contains_iff_mem, h, show k - 1 + 1 = k by lia]
    exact h3
theorem isEmpty_snoc {vs : List Value} {v : Value} : (vs ++ [v]).isEmpty = false := by cases vs <;> rfl
theorem all_range_succ (n : Nat) (p : Nat → Bool) : (List.range (n + 1)).all p = ((List.range n).all p && p n) := by
  rw [List.range_succ, List.all_append]; simp
end Mine

namespace Mine
variable {w : World} {B : Heap} {os : OsState} {mg mb : Str → Option Value} {F : List (Addr × Obj)} {M M' : Led} {s : Shared} {A : Around} {E : Value → Shared → Prop}
theorem g_text (G : Gd (cx w B os mg mb)) : mg "_law_text" = some (.ref 139) := mg_of G.X G.T.g (by kernel_rfl)

theorem listed_all (ns : List Int) : ∀ q ∈ listedOf ns, q ∈ allRows := fun q hq => by
  obtain ⟨x, _, rfl⟩ := List.mem_map.mp hq
  exact rowOf_all x
theorem listed_iff (ns : List Int) (q : List Str) : q ∈ listedOf ns ↔ q ∈ mS ns ++ dS ns := listed_mem (numsL ns) q

set_option maxHeartbeats 8000000 in
theorem law_5 {L fa pd lr ll : Addr} {cdv : Value} {body : List Stmt} {scope : Scope} {m mc : Str → Option Value} {Q : Flow → Shared → Prop} {gp : Str → Option Int} {ns : List Int} {vr vl : List Value} {nr nl : Nat} {gM : (Obj → Prop) → Led} (hb : lawFd w.params = some (body, scope))
    (hs : Is (cx w B os mg mb) F ((L, NsP m) :: (cel (lawCs L) mc ++ M)) s) (r : Rm 20 A) (hmp : mc "prices" = some (.ref pd)) (hgp : ∀ p ∈ P4, ∃ a, gp p = some a ∧ 0 < a) (hpd : UpdF pd (CaP (cx w B os mg mb) gp 4) M gM)
    (h1 : m "rows" = some (.ref lr)) (hlr : (lr, lisO vr nr) ∈ F) (hvr : RowsIn F vr allRows) (h2 : mc "listed" = some (.ref ll)) (hll : (ll, lisO vl nl) ∈ F) (hvl : RowsIn F vl (listedOf ns))
    (k : ∀ F' mc' lp vp s', (∀ p ∈ F, p ∈ F') → (∀ y : Str, y ≠ "row" → mc' y = mc y) → Keys F' vp ((visOf (mS ns ++ dS ns)).map (key (prOf gp))) →
      Is (cx w B os mg mb) F' ((L, NsP (up m "pairs" (.ref lp))) :: (cel (lawCs L) mc' ++ (lp, LsP vp) :: M)) s' →
      wpAny (model (cx w B os mg mb).prog w) A (execs (body.drop 11) (envOfC "law" scope L fa cdv)) Q E s') :
    wpAny (model (cx w B os mg mb).prog w) A (execs (body.drop 9) (envOfC "law" scope L fa cdv)) Q E s := by
  have hb' := hb
  unfold lawFd at hb'
  conv at hb' => lhs; whnf
  simp only [Option.some.injEq, Prod.mk.injEq] at hb'
  obtain ⟨rfl, rfl⟩ := hb'
  have hnd := lawCs_nodup L
  have c2 : (("listed" : Str), L + 2) ∈ lawCs L := by simp [lawCs]
  have c5 : (("row" : Str), L + 5) ∈ lawCs L := by simp [lawCs]
  have c6 : (("prices" : Str), L + 6) ∈ lawCs L := by simp [lawCs]
  have hgp' : ∀ p ∈ P4, gp p = some (prOf gp p) := fun p hp => by
    obtain ⟨a, e, ha⟩ := hgp p hp
    have : prOf gp p = a := by unfold prOf; rw [e]; rfl
    rw [this]; exact e
  refine wpAny_execs_cons (r_assign (r_list (c := cx w B os mg mb) (wpAny_items_nil ⟨by simp, _, _, hs, fun lp s hs => ?_⟩)))
  have hs := hs.sink
  refine r_st hs .head fun s hs => ?_
  refine wpAny_execs_cons (wpAny_For (r_loc hs in0 h1 (r_iterL hs hlr fun I s hne hs => ?_)))
  refine r_for (Iter.list r.hd hne) (fun i F1 M1 => Ex2 fun mc1 vp => And3 (M1 = (L, NsP (up m "pairs" (.ref lp))) :: (cel (lawCs L) mc1 ++ (lp, LsP vp) :: M)) ((∀ y : Str, y ≠ "row" → mc1 y = mc y)) (Keys F1 vp (((allRows.take i).filter (noProp (mS ns ++ dS ns))).map (key (prOf gp)))))
    hs (fun p hp => (List.mem_singleton.mp hp) ▸ hlr) ⟨_, _, rfl, fun _ _ => rfl, .nil⟩ ?_ ?_
  · rintro i v F1 M1 s E1 hi hv ⟨mc1, vp, rfl, hmc1, hkeys⟩ hF1 hs
    obtain ⟨a, ws, nw, q, rfl, ha, hws, eq⟩ := (hvr.mono hF1).get hv
    have hqa : q ∈ allRows := List.mem_of_getElem? eq
    have hql := row_len hqa
    have hwl := strs_len hws
    have hkl := hkeys.length
    have hkl20 : vp.length ≤ 20 := by
      rw [hkl, List.length_map]
      refine Nat.le_trans (List.length_filter_le _ _) ?_
      rw [List.length_take]
      have : allRows.length = 20 := by decide +kernel
      lia
    refine wpAny_assign_Name (r_stC hs (.tail (.tail (cel_upd hnd c5 _))) rfl fun s hs => gen fun QB hQB => ?_)
    generalize hmc2 : up mc1 "row" (.ref a) = mc2 at hs
    have g1 : mc2 "row" = some (.ref a) := by rw [← hmc2]; rfl
    have g2 : ∀ y : Str, y ≠ "row" → mc2 y = mc y := fun y hy => by rw [← hmc2, up_ne hy]; exact hmc1 y hy
    have g3 : mc2 "listed" = some (.ref ll) := (g2 _ (by decide)).trans h2
    have g4 : mc2 "prices" = some (.ref pd) := (g2 _ (by decide)).trans hmp
    refine hs.hide2 (.tail _ (.tail _ (cel_mem (mc := mc2) c5))) (.tail _ (.tail _ (cel_mem (mc := mc2) c2))) fun M1 i1 i2' hs back => ?_
    refine wpAny_execs_cons (wpAny_If (wpAny_isTrue_Compare1 (r_lc (c := cx w B os mg mb) [("row", L + 5), ("listed", L + 2)] rfl ?_)))
    refine r_CallT (c := cx w B os mg mb) hs (b_range hs.gd) bb_range (by decide) (wpAny_items_cons (r_int hs fun _ s hs => wpAny_items_cons (r_CallB (c := cx w B os mg mb) hs (b_len hs.gd) bb_len (by decide) (wpAny_items_cons (r_cel (x := "row") (mc := mc2) hs i1 rfl g1 (wpAny_items_nil (r_lenF hs ha (by lia) fun _ s hs => ?_)))))))
    refine wpAny_items_nil (r_range2 hs fun rr s hs => ?_)
    have ewl : ((ws.length : Nat) : Int) = 1 + ((q.length - 1 : Nat) : Int) := by lia
    rw [ewl] at hs
    refine r_iterR hs in0 (by decide) (by decide) (by lia) fun I2 s hs => ?_
    have hs := hs.out (.tail .head)
    refine LcSrc.fixed hs (Iter.range1 r.hd) (fun p hp => nomatch hp) (fun i2 vs => ∃ ks, And3 (IntsAre vs ks) (vs.length ≤ i2) (vs.isEmpty = (List.range i2).all fun j => !(listedOf ns).contains (q.take (1 + j)))) ⟨[], .nil, Nat.le_refl _, rfl⟩ ?_ ?_
    · rintro C D i2 v vs m2 s E2 hi2 ⟨tv, rfl⟩ ⟨ks, hks, hvl2, hem⟩ hs
      refine wpAny_assign_Name (r_st hs (.tail .head) fun s hs => gen fun QT hQT => wpAny_tests_one (wpAny_isTrue_Compare1 (r_sliceL (c := cx w B os mg mb) (r_cel (x := "row") (mc := mc2) hs (.tail _ (.tail _ (.tail _ i1))) rfl g1 ?_))))
      refine ev_none (ev_some (r_loc hs in1 rfl ⟨a, ws.toArray, none, some ((1 + i2 : Nat) : Int), _, _, rfl, isListF hs ha, by simp; lia, .none, .int _ _, hs, fun D2 s hs => ?_⟩))
      rw [slice_upto] at hs
      refine r_cel (x := "listed") (mc := mc2) hs (.tail _ (.tail _ (.tail _ (.tail _ i2')))) rfl g3 ?_
      refine r_inRows hs in0 (hws.take' (1 + i2)) (hF1 _ hll) (hvl.mono hF1) (take_ok (row_okp hqa) _) (fun q hq => row_okp (listed_all ns q hq)) r (wpAny_truthy_bool ?_)
      have hs := hs.drop
      refine hQT _ _ ?_
      cases hc : (listedOf ns).contains (q.take (1 + i2)) with
      | true =>
        refine if_t rfl (r_loc hs in1 rfl ⟨by lia, _, ?_, hs⟩)
        refine ⟨ks ++ [((1 + i2 : Nat) : Int)], hks.append (.cons _ _ .nil), by simp; lia, ?_⟩
        rw [all_range_succ, hc]
        rw [isEmpty_snoc, Bool.not_true, Bool.and_false]
      | false =>
        refine if_f rfl ⟨_, ?_, hs⟩
        refine ⟨ks, hks, by lia, ?_⟩
        rw [all_range_succ, hc, hem]; simp
    rintro D vs s ⟨ks, hks, hvl2, hem⟩ hs
    have hs := back [(D, LsP vs)] _ _ hs
    rw [noProp_range (listed_iff ns)] at hem
    refine r_list (c := cx w B os mg mb) (wpAny_items_nil ⟨by simp, _, _, hs, fun l0 s hs => ?_⟩)
    refine r_cmpNil (.inl ⟨rfl, rfl⟩) hs in1 in0 hks r (wpAny_truthy_bool ?_)
    have hs := hs.drop.drop
    have etake : (allRows.take (i + 1)).filter (noProp (mS ns ++ dS ns)) = (allRows.take i).filter (noProp (mS ns ++ dS ns)) ++ (if noProp (mS ns ++ dS ns) q then [q] else []) := by
      rw [List.take_add_one, eq, List.filter_append]
      simp only [Option.toList_some, List.filter_cons, List.filter_nil]
    rw [hem]
    cases hnp : noProp (mS ns ++ dS ns) q with
    | false =>
      refine if_f rfl (wpAny_execs_nil (wpAny_execs_nil ?_))
      refine hQB _ _ ⟨F1, _, fun _ h => h, ?_, hs⟩
      refine ⟨mc2, vp, rfl, g2, ?_⟩
      rw [etake, hnp]; simpa using hkeys
    | true =>
      refine if_t rfl (wpAny_execs_cons (wpAny_Expr (wpAny_Call_method1_late rfl rfl rfl (r_loc hs in1 rfl (m_append hs (.tail _ (mem_fr (.head _))) ?_)))))
      refine hs.hideU (.tail _ (.tail _ (cel_mem (mc := mc2) c5))) (.tail _ (.tail _ (cel_mem (mc := mc2) c6))) (.tail (.fr (.tail hpd))) fun M2 g2' j5 j6 ju hs back2 => gen fun QV hQV => ?_
      refine r_tuple (c := cx w B os mg mb) (wpAny_items_cons (r_CallB (c := cx w B os mg mb) hs (b_sum hs.gd) bb_sum (by decide) (wpAny_items_cons (r_lc (c := cx w B os mg mb) [("prices", L + 6)] rfl (r_cel (x := "row") (mc := mc2) hs j5 rfl g1 (r_iterL hs ha fun I3 s hne3 hs => ?_))))))
      refine LcSrc.fixed hs (Iter.list r.hd hne3) (fun p hp => (List.mem_singleton.mp hp) ▸ ha) (fun i3 vs => IntsAre vs ((q.take i3).map (prOf gp)) ∧ vs.length = i3) ⟨.nil, rfl⟩ ?_ ?_
      · rintro C D3 i3 v vs3 m3 s E3 hi3 hv3 ⟨hin, hl3⟩ hs
        obtain ⟨p, tp, rfl, ep⟩ := strs_get hws hv3
        refine wpAny_assign_Name (r_st hs (.tail .head) fun s hs => wpAny_tests_nil (if_t rfl (gen fun QT hQT => ?_)))
        refine Subscript_ (r_cel (x := "prices") (mc := mc2) hs (.tail _ (.tail _ (.tail _ j6))) rfl g4 (r_loc hs in1 rfl ?_))
        refine r_itemCa hs (.tail (.tail (.tail ju))) (hgp' p (row_part hqa (List.mem_of_getElem? ep))) fun ti s hs => hQT _ _ ⟨by lia, _, ?_, hs⟩
        refine ⟨?_, by simp [hl3]⟩
        rw [List.take_add_one, ep, List.map_append]
        exact hin.append (.cons _ _ .nil)
      rintro D3 vs3 s ⟨hin, hl3⟩ hs
      rw [hwl, List.take_length] at hin
      refine wpAny_items_nil (r_sum hs r.hd (hs.ls in0) hin fun tsum s hs => ?_)
      have hs := hs.drop
      refine wpAny_items_cons (r_Call (c := cx w B os mg mb) hs (g_text hs.gd) (by rfl) rfl (wpAny_items_cons (r_cel (x := "row") (mc := mc2) hs j5 rfl g1 (wpAny_items_nil ⟨hs.K, ?_⟩))))
      refine text_c hs (r.mono (by decide)) ha hws (small_of (all_of f_small hqa)) fun tt s hs => wpAny_items_nil ⟨by simp, _, _, hs, fun at' s hs => ?_⟩
      have hs := back2 [] _ _ (hs.fz_eq .head)
      refine hQV _ _ ⟨_, _, _, _, hs, .tail (.fr .head), by lia, fun s hs => wpAny_execs_nil (wpAny_execs_nil ?_)⟩
      refine hQB _ _ ⟨_, _, fun p hp => .tail _ hp, ?_, hs⟩
      refine ⟨mc2, _, rfl, g2, ?_⟩
      rw [etake, hnp, if_pos rfl, List.map_append]
      exact (hkeys.mono fun p hp => .tail _ hp).append (.cons ⟨at', 0, tsum, tt, rfl, .head _⟩ .nil)
  · rintro F1 M1 s ⟨mc1, vp, rfl, hmc1, hkeys⟩ hF1 hs
    have hl : vr.length = allRows.length := hvr.length
    rw [hl, List.take_length] at hkeys
    exact k F1 mc1 lp vp s hF1 hmc1 hkeys hs
end Mine

namespace Mine
section
variable {c : Cx} {F : List (Addr × Obj)} {M M' : Led} {s : Shared} {A : Around} {E : Value → Shared → Prop} {Q : Value → Shared → Prop} {v : Value} {u : Tok}
/-- a key's text -/
theorem r_keyText {value slice : Expr} {kk : Int × Str} (hs : Is c F M s) (hk : KeyIn F v kk) (h : ∀ t, Q (.str kk.2 t) s)
    (hsb : ∀ l, subscripted slice false (.ref l) (.int 1 u) = operate [.ref l, .int 1 u] (getItem (.ref l) (.int 1 u)) := by intro _; with_unfolding_all rfl) : wpAny (model c.prog c.w) A (subscriptTail value slice v (.int 1 u)) Q E s := by
  obtain ⟨a, n, t, u', rfl, hm⟩ := hk
  exact item_tupleT (l := [.int kk.1 t, .str kk.2 u']) ⟨_, hs.getF hm, rfl, n, rfl⟩ (by decide) (by decide) (j := 1) rfl rfl (h _) (hsb a)
end
section
variable {Ls : List (List Str)} {pr : Str → Int}
theorem vis_two : 2 ≤ (visOf Ls).length := by
  have : allRows = (["a"] : List Str) :: ["ab"] :: allRows.drop 2 := by decide +kernel
  unfold visOf
  rw [this, List.filter_cons_of_pos (by rfl), List.filter_cons_of_pos (by rfl)]
  simp
theorem vis_all {r : List Str} (h : r ∈ visOf Ls) : r ∈ allRows := (List.mem_filter.mp h).1
theorem keys_nodup : ((visOf Ls).map (key pr)).Nodup := by
  rw [List.nodup_iff_pairwise_ne, List.pairwise_map]
  refine List.Pairwise.imp_of_mem ?_ (List.nodup_iff_pairwise_ne.mp (vis_nodup (Ls := Ls)))
  intro a b ha hb hne e
  exact hne (key_inj (vis_all ha) (vis_all hb) e)
theorem told_perm {T : List (List Str)} (h : WI pr Ls (visOf Ls) T []) : T.Perm (visOf Ls) := by have := h.perm; simpa using this
theorem told_keys {T : List (List Str)} (h : WI pr Ls (visOf Ls) T []) {ks : List (Int × Str)} (hp : ks.Perm ((visOf Ls).map (key pr))) (hs : ks.Pairwise (fun a b => kLt a b = true)) : ks = T.map (key pr) :=
  sorted_unique (hp.trans ((told_perm h).map _).symm) hs h.srt
/-- a row's text among the texts of the list -/
theorem plain_ans (hL : ∀ q ∈ Ls, q ∈ allRows) {L2 : List (List Str)} (h2 : ∀ q, q ∈ L2 ↔ q ∈ Ls) {r : List Str} (hr : r ∈ visOf Ls) : ((L2.map tx).any (· == tx r)) = belowB Ls r := by
  rw [vis_ans hL hr, Bool.eq_iff_iff, List.any_eq_true, List.contains_iff_mem]
  constructor
  · rintro ⟨y, hy, e⟩
    obtain ⟨q, hq, rfl⟩ := List.mem_map.mp hy
    have e : tx q = tx r := by simpa using e
    have hqL := (h2 q).mp hq
    have := all_of (all_of f_inj (hL q hqL)) (vis_all hr)
    simp only [decide_eq_true_eq] at this
    rw [← this e]; exact hqL
  · intro h
    exact ⟨tx r, List.mem_map.mpr ⟨r, (h2 r).mpr h, rfl⟩, by simp⟩
end
theorem Ls_all (ns : List Int) : ∀ q ∈ mS ns ++ dS ns, q ∈ allRows := fun q hq => listed_all ns q ((listed_iff ns q).mpr hq)

theorem Keys.get' {F : List (Addr × Obj)} {vs : List Value} {ks : List (Int × Str)} (h : Keys F vs ks) : ∀ {i : Nat} {v : Value}, vs[i]? = some v → ∃ k, ks[i]? = some k ∧ KeyIn F v k := by
  induction h with
  | nil => intro i k e; simp at e
  | cons hv _ ih =>
    intro i k e
    cases i with
    | zero => simp at e; subst e; exact ⟨_, rfl, hv⟩
    | succ i => exact ih (by simpa using e)

variable {w : World} {B : Heap} {os : OsState} {mg mb : Str → Option Value} {F : List (Addr × Obj)} {M M' : Led} {s : Shared} {A : Around} {E : Value → Shared → Prop}

set_option maxHeartbeats 8000000 in
theorem law_6 {L fa ll lp : Addr} {cdv : Value} {body : List Stmt} {scope : Scope} {m mc : Str → Option Value} {Q : Flow → Shared → Prop} {pr : Str → Int} {ns : List Int} {vl vp : List Value} {nl : Nat} {T : List (List Str)} (hb : lawFd w.params = some (body, scope))
    (hs : Is (cx w B os mg mb) F ((L, NsP m) :: (cel (lawCs L) mc ++ (lp, LsP vp) :: M)) s) (r : Rm 20 A)
    (h1 : m "pairs" = some (.ref lp)) (hvp : Keys F vp ((visOf (mS ns ++ dS ns)).map (key pr))) (h2 : mc "listed" = some (.ref ll)) (hll : (ll, lisO vl nl) ∈ F) (hvl : RowsIn F vl (listedOf ns)) (hW : WI pr (mS ns ++ dS ns) (visOf (mS ns ++ dS ns)) T [])
    (k : ∀ F' lpl ldu vd s', (∀ p ∈ F, p ∈ F') → Told pr (mS ns ++ dS ns) F' vd T →
      Is (cx w B os mg mb) F' ((L, NsP (up m "due" (.ref ldu))) :: (cel (lawCs L) (up mc "plain" (.ref lpl)) ++ (ldu, LsP (.none :: vd)) :: M)) s' →
      wpAny (model (cx w B os mg mb).prog w) A (execs (body.drop 13) (envOfC "law" scope L fa cdv)) Q E s') :
    wpAny (model (cx w B os mg mb).prog w) A (execs (body.drop 11) (envOfC "law" scope L fa cdv)) Q E s := by
  have hb' := hb
  unfold lawFd at hb'
  conv at hb' => lhs; whnf
  simp only [Option.some.injEq, Prod.mk.injEq] at hb'
  obtain ⟨rfl, rfl⟩ := hb'
  have hnd := lawCs_nodup L
  have c2 : (("listed" : Str), L + 2) ∈ lawCs L := by simp [lawCs]
  have c7 : (("plain" : Str), L + 7) ∈ lawCs L := by simp [lawCs]
  have hvll := hvl.length
  have hl10 : (listedOf ns).length ≤ 10 := by unfold listedOf; rw [List.length_map]; exact nums_len ns
  refine wpAny_execs_cons (r_assign (r_lc (c := cx w B os mg mb) [] rfl (r_cel (x := "listed") (mc := mc) hs (.tail _ (cel_mem c2)) rfl h2 ?_)))
  refine hs.hide0 fun M5 hs back => r_iterL hs hll fun I s hne hs => ?_
  refine LcSrc.fixed hs (Iter.list r.hd hne) (fun p hp => (List.mem_singleton.mp hp) ▸ hll) (fun i vs => StrsAre vs (((listedOf ns).take i).map tx) ∧ vs.length = i) ⟨.nil, rfl⟩ ?_ ?_
  · rintro C D i v vs m1 s E1 hi hv ⟨hst, hvsl⟩ hs
    obtain ⟨a, ws, nw, q, rfl, ha, hws, eq⟩ := hvl.get hv
    have hqa := listed_all ns q (List.mem_of_getElem? eq)
    refine wpAny_assign_Name (r_st hs (.tail .head) fun s hs => wpAny_tests_nil (if_t rfl (gen fun QD hQD => ?_)))
    refine r_Call (c := cx w B os mg mb) hs (g_text hs.gd) (by rfl) rfl (wpAny_items_cons (r_loc hs in1 rfl (wpAny_items_nil ⟨hs.K, ?_⟩)))
    refine text_c hs (r.mono (by decide)) ha hws (small_of (all_of f_small hqa)) fun tt s hs => hQD _ _ ⟨by lia, _, ?_, hs⟩
    refine ⟨?_, by simp [hvsl]⟩
    rw [List.take_add_one, eq, List.map_append]
    exact strs_snoc hst _ tt
  rintro lpl vpl s ⟨hst, hvsl⟩ hs
  have hs := back [(lpl, LsP vpl)] _ _ hs
  rw [hvll, List.take_length] at hst
  refine hs.fzL .head fun npl hs => ?_
  refine r_stC hs (.tail (cel_upd hnd c7 _)) rfl fun s hs => ?_
  generalize hmc2 : up mc "plain" (.ref lpl) = mc2 at hs
  have g1 : mc2 "plain" = some (.ref lpl) := by rw [← hmc2]; rfl
  refine hs.pack2 (fun F0 => (∀ p ∈ F, p ∈ F0)) (fun F0 => (lpl, lisO vpl npl) ∈ F0) (fun p hp => .tail _ hp) (.head _) fun F0 hF0 hlpl hs => ?_
  refine wpAny_execs_cons (r_assign (wpAny_BinOp (r_list (c := cx w B os mg mb) (wpAny_items_cons (r_none (c := cx w B os mg mb) (wpAny_items_nil ⟨by simp, _, _, hs, fun l0 s hs => ?_⟩))))))
  have hv20 := vis_len (Ls := mS ns ++ dS ns)
  have hv2 := vis_two (Ls := mS ns ++ dS ns)
  have hvpl := hvp.length
  rw [List.length_map] at hvpl
  refine r_lc (c := cx w B os mg mb) [("plain", L + 7)] rfl (r_CallB (c := cx w B os mg mb) hs (b_sorted hs.gd) bb_sorted (by decide) (wpAny_items_cons (r_loc hs in1 h1 (wpAny_items_nil ?_))))
  refine r_sorted hs (L := L) in1 (hs.ls (.tail _ (mem_fr (.head _)))) (hvp.mono hF0) keys_nodup (by lia) (by lia) fun D vs' ks' s hk' hp' hsr hs => ?_
  obtain rfl : ks' = T.map (key pr) := told_keys hW hp' hsr
  refine hs.fzL .head fun nD hs => ?_
  refine r_iterL hs (.head _) fun I2 s hne2 hs => ?_
  have hk'l := hk'.length
  rw [List.length_map] at hk'l
  have hTl : T.length ≤ 20 := by rw [(told_perm hW).length_eq]; exact hv20
  refine ⟨I2, _, _, _, _, _, _, rfl, Iter.list r.hd hne2, hs, fun p hp => (List.mem_singleton.mp hp) ▸ .head _, fun _ => rfl, fun i vs F1 M1 => M1 = (l0, LsP [.none]) :: (L, NsP m) :: (cel (lawCs L) mc2 ++ (lp, LsP vp) :: M) ∧ Told pr (mS ns ++ dS ns) F1 vs (T.take i), ⟨rfl, .nil⟩, ?_, ?_⟩
  · rintro C D3 i v vs m1 F1 M1 s E1 hi hv ⟨rfl, hT⟩ hF1 hs
    obtain ⟨kk, ekk, hkey⟩ := hk'.get' hv
    rw [List.getElem?_map] at ekk
    obtain ⟨q, eq, rfl⟩ := Option.map_eq_some_iff.mp ekk
    have hqv : q ∈ visOf (mS ns ++ dS ns) := (told_perm hW).mem_iff.mp (List.mem_of_getElem? eq)
    have hkey1 : KeyIn F1 v (key pr q) := hkey.mono fun p hp => hF1 p (.tail _ hp)
    have hTl2 := hT.length
    rw [List.length_take] at hTl2
    refine wpAny_assign_Name (r_st hs (.tail .head) fun s hs => wpAny_tests_nil (if_t rfl (gen fun QD hQD => ?_)))
    refine r_tuple (c := cx w B os mg mb) (wpAny_items_cons (r_loc hs in1 rfl (wpAny_items_cons (r_cut (Q' := fun y s => ∃ t, y = .int (ansI (mS ns ++ dS ns) q) t ∧ Is (cx w B os mg mb) F1 ((I2, LiP D (i + 1)) :: (C, NsP (up m1 "pair" v)) :: (D3, LsP vs) :: (l0, LsP [.none]) :: (L, NsP m) :: (cel (lawCs L) mc2 ++ (lp, LsP vp) :: M)) s) ?_ ?_))))
    · refine gen fun QC hQC => ?_
      refine wpAny_IfExp (wpAny_isTrue_Compare1 (Subscript_ (r_loc hs in1 rfl (r_int hs fun _ s hs => r_keyText hs hkey1 fun _ => ?_))))
      refine r_cel (x := "plain") (mc := mc2) hs (.tail _ (.tail _ (.tail _ (.tail _ (.tail _ (cel_mem c7)))))) rfl g1 ?_
      refine in_list_strs (isListF hs (hF1 _ (.tail _ hlpl))) hst (wpAny_truthy_bool ?_)
      have := plain_ans (Ls_all ns) (listed_iff ns) hqv
      rw [show (key pr q).2 = tx q from rfl, this]
      cases hbq : belowB (mS ns ++ dS ns) q with
      | true => exact if_t rfl (r_int hs fun t s hs => hQC _ _ ⟨t, by unfold ansI; rw [hbq]; rfl, hs⟩)
      | false => exact if_f rfl (r_int hs fun t s hs => hQC _ _ ⟨t, by unfold ansI; rw [hbq]; rfl, hs⟩)
    clear hs
    rintro v2 s ⟨t2, rfl, hs⟩
    refine wpAny_items_cons (wpAny_Constant_bool (wpAny_items_nil ⟨by simp, _, _, hs, fun at' s hs => ?_⟩))
    have hs := hs.fz_eq .head
    refine hQD _ _ ⟨by lia, _, _, _, fun p hp => .tail _ hp, ?_, hs⟩
    refine ⟨rfl, ?_⟩
    rw [List.take_add_one, eq]
    exact (hT.mono fun p hp => .tail _ hp).snoc ⟨at', _, t2, rfl, .head _, hkey1.mono fun p hp => .tail _ hp⟩
  · rintro D3 vs F1 M1 s ⟨rfl, hT⟩ hF1 hs
    rw [hk'l, List.take_length] at hT
    have hTl2 := hT.length
    refine hs.getL in1 fun n1 e1 => ?_
    refine hs.getL in0 fun n2 e2 => ?_
    refine r_addL hs e1 e2 (by simp; lia) fun ldu s hs => ?_
    have hs := (hs.out (.tail .head)).out (.tail .head)
    have hs := hs.sink
    refine r_st hs .head fun s hs => ?_
    have hs := hs.out (.fr (.tail .head))
    rw [← hmc2] at hs
    exact k F1 lpl ldu vs s (fun p hp => hF1 p (.tail _ (hF0 p hp))) hT hs
end Mine

namespace Mine
theorem Told.get {pr : Str → Int} {Ls : List (List Str)} {F : List (Addr × Obj)} {vs : List Value} {rs : List (List Str)} (h : Told pr Ls F vs rs) : ∀ {i : Nat} {v : Value}, vs[i]? = some v → ∃ q, rs[i]? = some q ∧ TEnt pr Ls F v q := by
  induction h with
  | nil => intro i k e; simp at e
  | cons hv _ ih =>
    intro i k e
    cases i with
    | zero => simp at e; subst e; exact ⟨_, rfl, hv⟩
    | succ i => exact ih (by simpa using e)

section
variable {Ls T : List (List Str)}
noncomputable def slashB (q : List Str) : Bool := Txt.item (tx q) 0 == "/"
noncomputable def lT (Ls T : List (List Str)) : List (List Str) := T.filter (belowB Ls)
noncomputable def ms2 (Ls T : List (List Str)) : List (List Str) := (lT Ls T).filter fun q => !slashB q
noncomputable def ds2 (Ls T : List (List Str)) : List (List Str) := (lT Ls T).filter slashB
theorem vis_mem {r : List Str} (h : r ∈ allRows) (hn : noProp Ls r = true) : r ∈ visOf Ls := List.mem_filter.mpr ⟨h, hn⟩
theorem below_self {r : List Str} (h : r ∈ Ls) : belowB Ls r = true := by
  unfold belowB
  rw [List.any_eq_true]
  exact ⟨r, h, List.isPrefixOf_iff_prefix.mpr (List.prefix_refl _)⟩
theorem least_two {a b : Str} (h : [a, b] ∈ Ls) (h1 : [a] ∈ allRows) (h2 : [a, b] ∈ allRows) : ([a] ∈ visOf Ls ∧ belowB Ls [a] = true) ∨ ([a, b] ∈ visOf Ls ∧ belowB Ls [a, b] = true) := by
  by_cases ha : [a] ∈ Ls
  · exact .inl ⟨vis_mem h1 rfl, below_self ha⟩
  · refine .inr ⟨vis_mem h2 ?_, below_self h⟩
    rw [noProp_iff]
    intro k hk1 hk2
    have : k = 1 := by simp at hk2; lia
    subst this
    exact ha
theorem slash_m {q : List Str} (h : q ∈ mRows) : slashB q = false := by simpa [slashB] using mod_item h
theorem slash_d {q : List Str} (h : q ∈ dRows) : slashB q = true := by simpa [slashB] using dir_item h
theorem all_m {q : List Str} (h : q ∈ allRows) (hs : slashB q = false) : q ∈ mRows := (List.mem_append.mp h).elim id fun hd => by rw [slash_d hd] at hs; cases hs
theorem all_d {q : List Str} (h : q ∈ allRows) (hs : slashB q = true) : q ∈ dRows := (List.mem_append.mp h).elim (fun hd => by rw [slash_m hd] at hs; cases hs) id
theorem ms2_ne (hT : T.Perm (visOf Ls)) (h : (["ab", "a"] : List Str) ∈ Ls) : ms2 Ls T ≠ [] := by
  rcases least_two h (by decide +kernel) (by decide +kernel) with ⟨h1, h2⟩ | ⟨h1, h2⟩
  · exact List.ne_nil_of_mem (List.mem_filter.mpr ⟨List.mem_filter.mpr ⟨hT.mem_iff.mpr h1, h2⟩, by decide +kernel⟩)
  · exact List.ne_nil_of_mem (List.mem_filter.mpr ⟨List.mem_filter.mpr ⟨hT.mem_iff.mpr h1, h2⟩, by decide +kernel⟩)
theorem ds2_ne (hT : T.Perm (visOf Ls)) (h : (["x", "x"] : List Str) ∈ Ls) : ds2 Ls T ≠ [] := by
  rcases least_two h (by decide +kernel) (by decide +kernel) with ⟨h1, h2⟩ | ⟨h1, h2⟩
  · exact List.ne_nil_of_mem (List.mem_filter.mpr ⟨List.mem_filter.mpr ⟨hT.mem_iff.mpr h1, h2⟩, by decide +kernel⟩)
  · exact List.ne_nil_of_mem (List.mem_filter.mpr ⟨List.mem_filter.mpr ⟨hT.mem_iff.mpr h1, h2⟩, by decide +kernel⟩)
theorem lT_all (hT : T.Perm (visOf Ls)) : ∀ q ∈ lT Ls T, q ∈ allRows := fun q hq => vis_all (hT.mem_iff.mp (List.mem_filter.mp hq).1)
theorem ms2_m (hT : T.Perm (visOf Ls)) : ∀ q ∈ ms2 Ls T, q ∈ mRows := fun q hq => all_m (lT_all hT q (List.mem_filter.mp hq).1) (by simpa using (List.mem_filter.mp hq).2)
theorem ds2_d (hT : T.Perm (visOf Ls)) : ∀ q ∈ ds2 Ls T, q ∈ dRows := fun q hq => all_d (lT_all hT q (List.mem_filter.mp hq).1) (List.mem_filter.mp hq).2
theorem both_mem (hT : T.Perm (visOf Ls)) (hL : ∀ q ∈ Ls, q ∈ allRows) (q : List Str) : q ∈ ms2 Ls T ++ ds2 Ls T ↔ q ∈ visOf Ls ∧ q ∈ Ls := by
  rw [List.mem_append, ms2, ds2, List.mem_filter, List.mem_filter, lT, List.mem_filter, hT.mem_iff]
  constructor
  · rintro (⟨⟨h1, h2⟩, _⟩ | ⟨⟨h1, h2⟩, _⟩)
    · rw [vis_ans hL h1, List.contains_iff_mem] at h2; exact ⟨h1, h2⟩
    · rw [vis_ans hL h1, List.contains_iff_mem] at h2; exact ⟨h1, h2⟩
  · rintro ⟨h1, h2⟩
    have h3 : belowB Ls q = true := below_self h2
    cases hs : slashB q with
    | true => exact .inr ⟨⟨h1, h3⟩, rfl⟩
    | false => exact .inl ⟨⟨h1, h3⟩, rfl⟩
theorem ans_both (hT : T.Perm (visOf Ls)) (hL : ∀ q ∈ Ls, q ∈ allRows) (q : List Str) : ansI (ms2 Ls T ++ ds2 Ls T) q = ansI Ls q := by
  unfold ansI; rw [below_least hL (both_mem hT hL)]
theorem ds2_np (hT : T.Perm (visOf Ls)) : ((ds2 Ls T).map tx).map npath = (ds2 Ls T).map tx ∧ ∀ p ∈ (ds2 Ls T).map tx, PathOk p := by
  have h : ∀ q ∈ ds2 Ls T, PathOk (tx q) ∧ npath (tx q) = tx q := fun q hq => by
    have := all_of f_path2 (ds2_d hT q hq)
    simp only [Bool.and_eq_true, decide_eq_true_eq] at this
    exact ⟨path_of this.1, this.2⟩
  constructor
  · rw [List.map_map]
    exact List.map_congr_left fun q hq => (h q hq).2
  · intro p hp
    obtain ⟨q, hq, rfl⟩ := List.mem_map.mp hp
    exact (h q hq).1
end

variable {w : World} {B : Heap} {os : OsState} {mg mb : Str → Option Value} {F : List (Addr × Obj)} {M M' : Led} {s : Shared} {A : Around} {E : Value → Shared → Prop}

set_option maxHeartbeats 8000000 in
theorem law_7 {L fa tl : Addr} {cdv : Value} {body : List Stmt} {scope : Scope} {m mc : Str → Option Value} {Q : Flow → Shared → Prop} {pr : Str → Int} {ns : List Int} {vt : List Value} {T : List (List Str)} (hb : lawFd w.params = some (body, scope))
    (hs : Is (cx w B os mg mb) F ((L, NsP m) :: (cel (lawCs L) mc ++ M)) s) (r : Rm 20 A)
    (h1 : m "told" = some (.ref tl)) (htl : (tl, LsP (.none :: vt)) ∈ M) (hT : Told pr (mS ns ++ dS ns) F vt T) (hW : WI pr (mS ns ++ dS ns) (visOf (mS ns ++ dS ns)) T [])
    (k : ∀ F' lf x2 d2 s', (∀ p ∈ F, p ∈ F') → Rdr w B os mg mb F' x2 d2 (ms2 (mS ns ++ dS ns) T) (ds2 (mS ns ++ dS ns) T) →
      Is (cx w B os mg mb) F' ((L, NsP (up (up m "left" (.ref lf)) "second" (.ref x2))) :: (cel (lawCs L) mc ++ (d2, CaP (cx w B os mg mb) (fun k => if k = "<string>" then some 1 else none) 1) :: M)) s' →
      wpAny (model (cx w B os mg mb).prog w) A (execs (body.drop 15) (envOfC "law" scope L fa cdv)) Q E s') :
    wpAny (model (cx w B os mg mb).prog w) A (execs (body.drop 13) (envOfC "law" scope L fa cdv)) Q E s := by
  have hb' := hb
  unfold lawFd at hb'
  conv at hb' => lhs; whnf
  simp only [Option.some.injEq, Prod.mk.injEq] at hb'
  obtain ⟨rfl, rfl⟩ := hb'
  have hnd := lawCs_nodup L
  have hperm := told_perm hW
  have hT20 : T.length ≤ 20 := by rw [hperm.length_eq]; exact vis_len
  have hvtl := hT.length
  refine wpAny_execs_cons (r_lcTA (c := cx w B os mg mb) [] rfl rfl (r_sliceL (c := cx w B os mg mb) (r_loc hs in0 h1 ?_)))
  refine ev_some (r_int hs fun t1 s hs => ev_none ⟨tl, (Value.none :: vt).toArray, some 1, none, _, _, rfl, hs.ls (mem_fr htl), by simp; lia, .int _ _, .none, hs, fun D1 s hs => ?_⟩)
  rw [slice_from1] at hs
  have hs : Is (cx w B os mg mb) F ((D1, LsP vt) :: (L, NsP m) :: (cel (lawCs L) mc ++ M)) s := hs
  refine hs.fzL .head fun n1 hs => ?_
  refine r_iterL hs (.head _) fun I s hne hs => ?_
  have hr : ∀ (i : Nat) (v : Value), vt[i]? = some v → ∃ T, v = .ref T := fun i v hv => by
    obtain ⟨q, _, a, _, _, e, _⟩ := hT.get hv
    exact ⟨a, e⟩
  refine ⟨I, _, _, _, _, _, _, rfl, TIter.list (c := cx w B os mg mb) (vs := vt) (k := n1) r.hd hne hr, hs, fun p hp => (List.mem_singleton.mp hp) ▸ .head _, fun i vs F1 M1 => M1 = (L, NsP m) :: (cel (lawCs L) mc ++ M) ∧ StrsAre vs ((lT (mS ns ++ dS ns) (T.take i)).map tx), ⟨rfl, .nil⟩, fun _ _ _ _ _ h _ => h, ?_, ?_⟩
  · rintro C D i v vs m1 F1 M1 s E1 hi hv ⟨rfl, hst⟩ hF1 hs
    obtain ⟨q, eq, a, vk, t, rfl, ha, hkey⟩ := hT.get hv
    have hs : Is (cx w B os mg mb) F1 ((I, LiP D1 (i + 1)) :: (C, NsP m1) :: (D, LsP vs) :: (L, NsP m) :: (cel (lawCs L) mc ++ M)) s := hs
    have hFF : ∀ p ∈ F, p ∈ F1 := fun p hp => hF1 p (.tail _ hp)
    have hvs20 : vs.length ≤ 20 := by
      rw [strs_len hst, List.length_map]
      exact Nat.le_trans (List.length_filter_le _ _) (Nat.le_trans (List.length_take_le' _ _) hT20)
    refine gen fun QO hQO => ?_
    refine r_unpack hs r.hd (vs := [vk, .int (ansI (mS ns ++ dS ns) q) t, .bool true]) ⟨_, hs.getF (hFF _ ha), rfl, 0, rfl⟩ rfl rfl fun s hs => ?_
    refine assignInOrder_cons (wpAny_assign_Name (r_st hs (.tail .head) fun s hs => ?_))
    refine assignInOrder_cons (wpAny_assign_Name (r_st hs (.tail .head) fun s hs => ?_))
    refine assignInOrder_cons (wpAny_assign_Name (r_st hs (.tail .head) fun s hs => assignInOrder_nil (hQO _ _ (gen fun QT hQT => ?_))))
    refine wpAny_tests_one (wpAny_isTrue_Compare1 (r_loc hs in1 rfl (r_int hs fun _ s hs => r_eqi (c := cx w B os mg mb) (wpAny_truthy_bool ?_))))
    have etake : lT (mS ns ++ dS ns) (T.take (i + 1)) = lT (mS ns ++ dS ns) (T.take i) ++ (if belowB (mS ns ++ dS ns) q then [q] else []) := by
      unfold lT
      rw [List.take_add_one, eq, List.filter_append]
      simp only [Option.toList_some, List.filter_cons, List.filter_nil]
    refine hQT _ _ ?_
    cases hbl : belowB (mS ns ++ dS ns) q with
    | true =>
      refine if_t (by unfold ansI; rw [hbl]; rfl) (Subscript_ (r_loc hs in1 rfl (r_int hs fun _ s hs => r_keyText hs (hkey.mono hFF) fun tt => ⟨by lia, _, _, _, fun _ h => h, ?_, hs⟩)))
      refine ⟨rfl, ?_⟩
      rw [etake, hbl, if_pos rfl, List.map_append]
      exact strs_snoc hst _ tt
    | false =>
      refine if_f (by unfold ansI; rw [hbl]; rfl) ⟨_, _, _, fun _ h => h, ?_, hs⟩
      refine ⟨rfl, ?_⟩
      rw [etake, hbl]
      simpa using hst
  rintro lf vf F1 M1 s ⟨rfl, hst⟩ hF1 hs
  rw [hvtl, List.take_length] at hst
  refine ⟨_, _, .tail .head, fun s hs => ?_⟩
  refine hs.fzL .head fun nf hs => ?_
  have hlT20 : (lT (mS ns ++ dS ns) T).length ≤ 20 := Nat.le_trans (List.length_filter_le _ _) hT20
  have hvfl := strs_len hst
  rw [List.length_map] at hvfl
  have hlTa := lT_all (T := T) hperm
  -- the two lists
  refine wpAny_execs_cons (r_assign (r_CallC (c := cx w B os mg mb) hs (g_Ignore hs.gd) ig_keep (wpAny_items_cons (r_lc (c := cx w B os mg mb) [] rfl (r_loc hs in0 rfl ?_)))))
  refine hs.hide0 fun M5 hs back => r_iterL hs (.head _) fun I2 s hne2 hs => ?_
  refine LcSrc.fixed hs (Iter.list r.hd hne2) (fun p hp => (List.mem_singleton.mp hp) ▸ .head _) (fun i vs => StrsAre vs ((((lT (mS ns ++ dS ns) T).take i).filter fun q => !slashB q).map tx)) .nil ?_ ?_
  · rintro C D i v vs m1 s E1 hi hv hst2 hs
    obtain ⟨x, tx', rfl, ex⟩ := strs_get hst hv
    rw [List.getElem?_map] at ex
    obtain ⟨q, eq, rfl⟩ := Option.map_eq_some_iff.mp ex
    have hql := tx_len (hlTa q (List.mem_of_getElem? eq))
    have hvs20 : vs.length ≤ 20 := by
      rw [strs_len hst2, List.length_map]
      exact Nat.le_trans (List.length_filter_le _ _) (Nat.le_trans (List.length_take_le' _ _) hlT20)
    refine wpAny_assign_Name (r_st hs (.tail .head) fun s hs => gen fun QT hQT => wpAny_tests_one (wpAny_isTrue_Compare1 (Subscript_ (r_loc hs in1 rfl (r_int hs fun _ s hs => r_itemS hs (by decide) (by lia) (by lia) fun _ s hs => r_str hs fun _ s hs => r_nes (c := cx w B os mg mb) (wpAny_truthy_bool ?_))))))
    have etake : ((lT (mS ns ++ dS ns) T).take (i + 1)).filter (fun q => !slashB q) = ((lT (mS ns ++ dS ns) T).take i).filter (fun q => !slashB q) ++ (if !slashB q then [q] else []) := by
      rw [List.take_add_one, eq, List.filter_append]
      simp only [Option.toList_some, List.filter_cons, List.filter_nil]
    refine hQT _ _ ?_
    cases hsl : slashB q with
    | true =>
      have e0 : (Txt.item (tx q) 0 != "/") = false := by unfold slashB at hsl; rw [bne, hsl]; rfl
      refine if_f e0 ⟨_, ?_, hs⟩
      rw [etake, hsl]; simpa using hst2
    | false =>
      have e0 : (Txt.item (tx q) 0 != "/") = true := by unfold slashB at hsl; rw [bne, hsl]; rfl
      refine if_t e0 (r_loc hs in1 rfl ⟨by lia, _, ?_, hs⟩)
      rw [etake, hsl, List.map_append]
      exact strs_snoc hst2 _ tx'
  rintro lm vm s hvm hs
  have hs := back [(lm, LsP vm)] _ _ hs
  rw [hvfl, List.take_length] at hvm
  refine hs.fzL .head fun nm hs => ?_
  refine wpAny_items_cons (r_lc (c := cx w B os mg mb) [] rfl (r_loc hs in0 rfl ?_))
  refine hs.hide0 fun M5 hs back => r_iterL hs (.tail _ (.head _)) fun I2 s hne2 hs => ?_
  refine LcSrc.fixed hs (Iter.list r.hd hne2) (fun p hp => (List.mem_singleton.mp hp) ▸ .tail _ (.head _)) (fun i vs => StrsAre vs ((((lT (mS ns ++ dS ns) T).take i).filter slashB).map tx)) .nil ?_ ?_
  · rintro C D i v vs m1 s E1 hi hv hst2 hs
    obtain ⟨x, tx', rfl, ex⟩ := strs_get hst hv
    rw [List.getElem?_map] at ex
    obtain ⟨q, eq, rfl⟩ := Option.map_eq_some_iff.mp ex
    have hql := tx_len (hlTa q (List.mem_of_getElem? eq))
    have hvs20 : vs.length ≤ 20 := by
      rw [strs_len hst2, List.length_map]
      exact Nat.le_trans (List.length_filter_le _ _) (Nat.le_trans (List.length_take_le' _ _) hlT20)
    refine wpAny_assign_Name (r_st hs (.tail .head) fun s hs => gen fun QT hQT => wpAny_tests_one (wpAny_isTrue_Compare1 (Subscript_ (r_loc hs in1 rfl (r_int hs fun _ s hs => r_itemS hs (by decide) (by lia) (by lia) fun _ s hs => r_str hs fun _ s hs => r_eqs (c := cx w B os mg mb) (wpAny_truthy_bool ?_))))))
    have etake : ((lT (mS ns ++ dS ns) T).take (i + 1)).filter slashB = ((lT (mS ns ++ dS ns) T).take i).filter slashB ++ (if slashB q then [q] else []) := by
      rw [List.take_add_one, eq, List.filter_append]
      simp only [Option.toList_some, List.filter_cons, List.filter_nil]
    refine hQT _ _ ?_
    cases hsl : slashB q with
    | false =>
      refine if_f hsl ⟨_, ?_, hs⟩
      rw [etake, hsl]; simpa using hst2
    | true =>
      refine if_t hsl (r_loc hs in1 rfl ⟨by lia, _, ?_, hs⟩)
      rw [etake, hsl, List.map_append]
      exact strs_snoc hst2 _ tx'
  rintro ld vd s hvd hs
  have hs := back [(ld, LsP vd)] _ _ hs
  rw [hvfl, List.take_length] at hvd
  refine hs.fzL .head fun nd hs => ?_
  refine wpAny_items_nil ⟨hs.K, ?_⟩
  have hm900 : (ms2 (mS ns ++ dS ns) T).length < 900 := Nat.lt_of_le_of_lt (List.length_filter_le _ _) (by lia)
  have hd900 : (ds2 (mS ns ++ dS ns) T).length < 900 := Nat.lt_of_le_of_lt (List.length_filter_le _ _) (by lia)
  refine ignore_c (ms := ms2 (mS ns ++ dS ns) T) (ds := ds2 (mS ns ++ dS ns) T) hs (r.mono (by decide)) (.tail _ (.head _)) (.head _) hvm hvd (ds2_np hperm).1 (ds2_np hperm).2 (ms2_m hperm) (ds2_d hperm) (ms2_ne hperm (List.mem_append_left _ (mS_mem ns))) (ds2_ne hperm (List.mem_append_right _ (dS_mem ns))) hm900 hd900 fun x2 d2 F2 s hF2 hR hs => ?_
  have hs := hs.sink
  refine r_st hs .head fun s hs => ?_
  exact k F2 lf x2 d2 s (fun p hp => hF2 p (.tail _ (.tail _ (.tail _ (hF1 p (.tail _ hp)))))) hR hs
end Mine

namespace Mine
theorem CaI.addH {Ls : List (List Str)} {N N' : Nat} {H : Bool} {g : Str → Option Int} {a : Int} (h : CaI Ls N N' H g) : CaI Ls N N' true (fun k => if k = "h" then some a else g k) where
  mod := fun r hr => by
    show (if tx r = "h" then some a else g (tx r)) = none ∨ _
    rw [if_neg (h_ok r hr).1]; exact h.mod r hr
  f := fun n hn hn40 => by
    have := all_of n_other (List.mem_range.mpr hn40)
    simp only [Bool.and_eq_true, decide_eq_true_eq] at this
    show (if _ then _ else _) = _
    rw [if_neg this.1.1.1.1.1]; exact h.f n hn hn40
  g' := fun n hn hn40 => by
    have := all_of n_other (List.mem_range.mpr hn40)
    simp only [Bool.and_eq_true, decide_eq_true_eq] at this
    show (if _ then _ else _) = _
    rw [if_neg this.1.1.1.1.2]; exact h.g' n hn hn40
  h := fun hH => by cases hH

theorem ign_none (mods dirs : List Str) (mo : Str) : ign mods dirs none mo = 1 := by
  unfold ign ignB; simp
theorem ign_h {ms ds : List (List Str)} (hm : ∀ r ∈ ms, r ∈ mRows) (hd : ∀ r ∈ ds, r ∈ dRows) : ign (ms.map tx) (ds.map tx) (some "/f.py") "h" = 0 := by
  have h1 : ((ms.map tx).contains "h") = false := by
    rw [Bool.eq_false_iff]
    intro h
    rw [List.contains_iff_mem, List.mem_map] at h
    obtain ⟨r, hr, e⟩ := h
    exact (h_ok r (hm r hr)).1 e
  have h2 : (ms.map tx).any (fun m => Txt.startswith "h" (m ++ ".")) = false := by
    refine any_false fun y hy => ?_
    obtain ⟨r, hr, rfl⟩ := List.mem_map.mp hy
    exact (h_ok r (hm r hr)).2.1
  have h3 : (ds.map tx).any (fun d => Txt.startswith "/f.py" (d ++ "/")) = false := by
    refine any_false fun y hy => ?_
    obtain ⟨r, hr, rfl⟩ := List.mem_map.mp hy
    simpa using all_of f_pre_n (hd r hr)
  unfold ign ignB
  rw [h1, h2]
  show (if (false || false || (ds.map tx).any (fun d => Txt.startswith "/f.py" (d ++ "/"))) = true then (1 : Int) else 0) = 0
  rw [h3]; rfl

noncomputable def entD (pr : Str → Int) (Ls : List (List Str)) (r : List Str) : PyData := .tuple [keyD (key pr r), .int (ansI Ls r), .bool true]
theorem Told.rd {pr : Str → Int} {Ls : List (List Str)} {F : List (Addr × Obj)} {vs : List Value} {rs : List (List Str)} (h : Told pr Ls F vs rs) : RdA F vs (rs.map (entD pr Ls)) := by
  induction h with
  | nil => exact .nil
  | cons hv _ ih =>
    obtain ⟨a, vk, t, rfl, ha, hk⟩ := hv
    exact .cons (RdF.tup (n := 0) ha (.cons hk.rd (.cons (.int _ _) (.cons (.bool _) .nil)))) ih
theorem ents_ok {pr : Str → Int} {Ls : List (List Str)} : ∀ {rs : List (List Str)}, (∀ r ∈ rs, r ∈ allRows) → PyData.canLayAll0 (rs.map (entD pr Ls)) = true
  | [], _ => rfl
  | r :: rs, h => by
    have h1 : PyData.strOk (tx r) = true := all_of f_ok (h r (.head _))
    have h2 := ents_ok (pr := pr) (Ls := Ls) (rs := rs) fun q hq => h q (.tail _ hq)
    simp only [List.map_cons, PyData.canLayAll0, entD, keyD, PyData.canLay0, key, Bool.and_true, Bool.true_and]
    rw [h1]
    simpa using h2
theorem ok_append : ∀ {a b : List PyData}, PyData.canLayAll0 a = true → PyData.canLayAll0 b = true → PyData.canLayAll0 (a ++ b) = true
  | [], b, _, h => h
  | x :: a, b, h1, h2 => by
    rw [PyData.canLayAll0, Bool.and_eq_true] at h1
    rw [List.cons_append, PyData.canLayAll0, h1.1, ok_append h1.2 h2]; rfl

variable {w : World} {B : Heap} {os : OsState} {mg mb : Str → Option Value} {F : List (Addr × Obj)} {M M' : Led} {s : Shared} {A : Around} {E : Value → Shared → Prop}

set_option maxHeartbeats 8000000 in
theorem law_8 {L fa tl ldu x d x2 d2 : Addr} {cdv : Value} {body : List Stmt} {scope : Scope} {m mc : Str → Option Value} {Q : Flow → Shared → Prop} {ms ds ms' ds' : List (List Str)} {vtl vdl : List Value} {D0 : List PyData} {g g2 : Str → Option Int} {n n2 : Nat} (hb : lawFd w.params = some (body, scope))
    (hs : Is (cx w B os mg mb) F ((L, NsP m) :: (cel (lawCs L) mc ++ (d2, CaP (cx w B os mg mb) g2 n2) :: (ldu, LsP vdl) :: (tl, LsP vtl) :: (d, CaP (cx w B os mg mb) g n) :: M)) s) (r : Rm 20 A)
    (h1 : m "told" = some (.ref tl)) (h2 : m "due" = some (.ref ldu)) (h3 : m "first" = some (.ref x)) (h4 : m "second" = some (.ref x2)) (hR : Rdr w B os mg mb F x d ms ds) (hR2 : Rdr w B os mg mb F x2 d2 ms' ds') (hn : n ≤ 800) (hn2 : n2 ≤ 800)
    (hg : CaI (ms ++ ds) 30 0 false g) (hg2 : CaI (ms' ++ ds') 30 0 false g2) (ht : RdA F vtl D0) (hd : RdA F vdl D0) (htz : vtl.length ≤ 100) (hdz : vdl.length ≤ 100)
    (k : ∀ F' vtl' vdl' g' g2' s', (∀ p ∈ F, p ∈ F') → CaI (ms ++ ds) 30 0 true g' → CaI (ms' ++ ds') 30 0 true g2' → RdA F' vtl' (D0 ++ [.list [.int 1, .int 0]]) → RdA F' vdl' (D0 ++ [.list [.int 1, .int 0]]) → vtl'.length ≤ 101 → vdl'.length ≤ 101 →
      Is (cx w B os mg mb) F' ((L, NsP m) :: (cel (lawCs L) mc ++ (d2, CaP (cx w B os mg mb) g2' (n2 + 1)) :: (ldu, LsP vdl') :: (tl, LsP vtl') :: (d, CaP (cx w B os mg mb) g' (n + 1)) :: M)) s' →
      wpAny (model (cx w B os mg mb).prog w) A (execs (body.drop 17) (envOfC "law" scope L fa cdv)) Q E s') :
    wpAny (model (cx w B os mg mb).prog w) A (execs (body.drop 15) (envOfC "law" scope L fa cdv)) Q E s := by
  have hb' := hb
  unfold lawFd at hb'
  conv at hb' => lhs; whnf
  simp only [Option.some.injEq, Prod.mk.injEq] at hb'
  obtain ⟨rfl, rfl⟩ := hb'
  have hl := hR.lens
  have hl2 := hR2.lens
  obtain ⟨dx, od, S, oS, D, vD, nD, ys, hx, hdx, lm, ld, li, ln, hrest⟩ := id hR.ign
  refine wpAny_execs_cons (wpAny_Expr (wpAny_Call_method1_late rfl rfl rfl (r_loc hs in0 h1 (m_append hs (mem_fr in2) ?_))))
  refine r_list (c := cx w B os mg mb) (wpAny_items_cons (r_methI (c := cx w B os mg mb) (r_loc hs in0 h3 ⟨x, dx, 79, od, 76, _, _, rfl, hs, hx, hdx, ig_k, ig_names, ig_namesf, ln, ig_namesk, ?_⟩)))
  refine wpAny_items_cons (r_none (c := cx w B os mg mb) (wpAny_items_cons (r_str hs fun _ s hs => wpAny_items_nil ⟨hs.K, ?_⟩)))
  refine names_c (fn := none) hs (r.mono (by decide)) hR.ign (.fr (.tail (.tail (.tail .head)))) (by lia) rfl hl.1 hl.2 fun t1 s F1 hF1 hs => ?_
  have e1 : (g "h").getD (ign (ms.map tx) (ds.map tx) none "h") = 1 := by rw [hg.h rfl, ign_none]; rfl
  rw [e1] at hs ⊢
  obtain ⟨dx', od', S', oS', D', vD', nD', ys', hx', hdx', lm', ld', li', ln', hrest'⟩ := id (hR2.mono hF1).ign
  refine wpAny_items_cons (r_methI (c := cx w B os mg mb) (r_loc hs in0 h4 ⟨x2, dx', 79, od', 76, _, _, rfl, hs, hx', hdx', ig_k, ig_names, ig_namesf, ln', ig_namesk, ?_⟩))
  refine wpAny_items_cons (r_str hs fun tf s hs => wpAny_items_cons (r_str hs fun _ s hs => wpAny_items_nil ⟨hs.K, ?_⟩))
  refine names_c (fn := some "/f.py") hs (r.mono (by decide)) (hR2.mono hF1).ign (.fr .head) (by lia) ⟨tf, rfl⟩ hl2.1 hl2.2 fun t2 s F2 hF2 hs => ?_
  have e2 : (g2 "h").getD (ign (ms'.map tx) (ds'.map tx) (some "/f.py") "h") = 0 := by rw [hg2.h rfl, ign_h hR2.m hR2.d]; rfl
  rw [e2] at hs ⊢
  refine wpAny_items_nil ⟨by simp, _, _, hs, fun la s hs => ?_⟩
  refine hs.fzL .head fun na hs => ?_
  refine ⟨_, _, _, _, hs, .fr (.tail (.tail .head)), by lia, fun s hs => ?_⟩
  refine hs.pack2 (fun F3 => (∀ p ∈ F, p ∈ F3)) (fun F3 => (la, lisO [.int 1 t1, .int 0 t2] na) ∈ F3) (fun p hp => .tail _ (hF2 p (hF1 p hp))) (.head _) fun F3 hF3 hla hs => ?_
  refine wpAny_execs_cons (wpAny_Expr (wpAny_Call_method1_late rfl rfl rfl (r_loc hs in0 h2 (m_append hs (mem_fr in1) ?_))))
  refine r_list (c := cx w B os mg mb) (wpAny_items_cons (r_int hs fun u1 s hs => wpAny_items_cons (r_int hs fun u2 s hs => wpAny_items_nil ⟨by simp, _, _, hs, fun lb s hs => ?_⟩)))
  refine hs.fzL .head fun nb hs => ?_
  refine ⟨_, _, _, _, hs, .fr (.tail .head), by lia, fun s hs => ?_⟩
  refine k _ _ _ _ _ s ?_ hg.addH hg2.addH ?_ ?_ ?_ ?_ hs
  · exact fun p hp => .tail _ (hF3 p hp)
  · exact (ht.mono fun p hp => .tail _ (hF3 p hp)).snoc (.lis (.tail _ hla) (.cons (.int _ _) (.cons (.int _ _) .nil)))
  · exact (hd.mono fun p hp => .tail _ (hF3 p hp)).snoc (.lis (.head _) (.cons (.int _ _) (.cons (.int _ _) .nil)))
  · simp; lia
  · simp; lia
end Mine

namespace Mine
theorem depth_le {n : Nat} : ∀ {l : List PyData}, (∀ x ∈ l, x.depth ≤ n) → PyData.depthAll l ≤ n
  | [], _ => Nat.zero_le _
  | x :: l, h => by rw [PyData.depthAll]; exact Nat.max_le.mpr ⟨h x (.head _), depth_le fun y hy => h y (.tail _ hy)⟩
theorem depth_of {n : Nat} : ∀ {l : List PyData}, PyData.depthAll l ≤ n → ∀ x ∈ l, x.depth ≤ n
  | x :: l, h, y, hy => by
    rw [PyData.depthAll] at h
    rcases List.mem_cons.mp hy with rfl | hy
    · exact (Nat.max_le.mp h).1
    · exact depth_of (Nat.max_le.mp h).2 y hy
noncomputable def ansD (Ls : List (List Str)) (r : List Str) : PyData := .list [.int (ansI Ls r), .int (ansI Ls r)]
theorem ans_okD {Ls : List (List Str)} : ∀ rs : List (List Str), PyData.canLayAll0 (rs.map (ansD Ls)) = true
  | [] => rfl
  | r :: rs => by rw [List.map_cons, PyData.canLayAll0, ans_okD rs]; rfl

variable {w : World} {B : Heap} {os : OsState} {mg mb : Str → Option Value} {F : List (Addr × Obj)} {M M' : Led} {s : Shared} {A : Around} {E : Value → Shared → Prop}

set_option maxHeartbeats 8000000 in
theorem law_9 {L fa tl ldu x d x2 d2 lr ll : Addr} {cdv : Value} {body : List Stmt} {scope : Scope} {m mc : Str → Option Value} {Q : Flow → Shared → Prop} {ms ds ms' ds' : List (List Str)} {vtl vdl : List Value} {D0 : List PyData} {g g2 : Str → Option Int} {n n2 : Nat} {ns : List Int} {vr vl : List Value} {nr nl : Nat} (hb : lawFd w.params = some (body, scope))
    (hs : Is (cx w B os mg mb) F ((L, NsP m) :: (cel (lawCs L) mc ++ (d2, CaP (cx w B os mg mb) g2 n2) :: (ldu, LsP vdl) :: (tl, LsP vtl) :: (d, CaP (cx w B os mg mb) g n) :: M)) s) (r : Rm 20 A)
    (h1 : m "told" = some (.ref tl)) (h2 : m "due" = some (.ref ldu)) (h3 : m "first" = some (.ref x)) (h4 : m "second" = some (.ref x2)) (h5 : m "rows" = some (.ref lr)) (h6 : mc "listed" = some (.ref ll))
    (hlr : (lr, lisO vr nr) ∈ F) (hvr : RowsIn F vr allRows) (hll : (ll, lisO vl nl) ∈ F) (hvl : RowsIn F vl (listedOf ns)) (hLs : ∀ q, q ∈ listedOf ns ↔ q ∈ ms ++ ds) (h0 : [] ∉ ms ++ ds)
    (hR : Rdr w B os mg mb F x d ms ds) (hR2 : Rdr w B os mg mb F x2 d2 ms' ds') (hans : ∀ q, ansI (ms' ++ ds') q = ansI (ms ++ ds) q) (hn : n ≤ 800) (hn2 : n2 ≤ 800)
    (hg : CaI (ms ++ ds) 30 0 true g) (hg2 : CaI (ms' ++ ds') 30 0 true g2) (ht : RdA F vtl D0) (hd : RdA F vdl D0) (htz : vtl.length ≤ 101) (hdz : vdl.length ≤ 101) (hD0 : PyData.canLayAll0 D0 = true) (hDd : PyData.depthAll D0 ≤ 10)
    (k : ∀ F' M' s', Is (cx w B os mg mb) F' M' s' → Q (.ret (.bool true)) s') :
    wpAny (model (cx w B os mg mb).prog w) A (execs (body.drop 17) (envOfC "law" scope L fa cdv)) Q E s := by
  have hb' := hb
  unfold lawFd at hb'
  conv at hb' => lhs; whnf
  simp only [Option.some.injEq, Prod.mk.injEq] at hb'
  obtain ⟨rfl, rfl⟩ := hb'
  have hnd := lawCs_nodup L
  have c2 : (("listed" : Str), L + 2) ∈ lawCs L := by simp [lawCs]
  have c5 : (("row" : Str), L + 5) ∈ lawCs L := by simp [lawCs]
  have c8 : (("j" : Str), L + 8) ∈ lawCs L := by simp [lawCs]
  have hvrl : vr.length = 20 := by rw [hvr.length]; decide +kernel
  refine wpAny_execs_cons (wpAny_For (r_CallT (c := cx w B os mg mb) hs (b_enumerate hs.gd) bb_enumerate (by decide) (wpAny_items_cons (r_loc hs in0 h5 (wpAny_items_nil (r_enum hs hlr fun e it s hei hli hle hs => ?_))))))
  have TI := TIter.enum (c := cx w B os mg mb) (A := A) (vs := vr) (k := nr) r.hd hei hli hle
  refine TI.self 0 _ _ _ _ _ hs ?_
  refine r_forT TI (fun i F1 M1 => Ex6 fun m1 mc1 vtl1 vdl1 g1 g21 => And9 (M1 = (L, NsP m1) :: (cel (lawCs L) mc1 ++ (d2, CaP (cx w B os mg mb) g21 (n2 + i)) :: (ldu, LsP vdl1) :: (tl, LsP vtl1) :: (d, CaP (cx w B os mg mb) g1 (n + i)) :: M)) ((∀ y : Str, y ≠ "below" → m1 y = m y)) (mc1 "listed" = some (.ref ll)) (CaI (ms ++ ds) 30 i true g1) (CaI (ms' ++ ds') 30 i true g21) (RdA F1 vtl1 (D0 ++ (allRows.take i).map (ansD (ms ++ ds)))) (RdA F1 vdl1 (D0 ++ (allRows.take i).map (ansD (ms ++ ds)))) (vtl1.length ≤ 101 + i) (vdl1.length ≤ 101 + i))
    hs (fun p hp => (List.mem_singleton.mp hp) ▸ hlr) ⟨m, mc, vtl, vdl, g, g2, rfl, fun _ _ => rfl, h6, hg, hg2, by simpa using ht, by simpa using hd, htz, hdz⟩ ?_ ?_ ?_
  · rintro i F1 M1 F2 ⟨m1, mc1, vtl1, vdl1, g1, g21, e1, e2, e3, e4, e5, e6, e7, e8, e9⟩ hF
    exact ⟨m1, mc1, vtl1, vdl1, g1, g21, e1, e2, e3, e4, e5, e6.mono hF, e7.mono hF, e8, e9⟩
  · rintro i v F1 M1 s E1 hi ⟨T1, t1, y, rfl, hy, hT⟩ ⟨m1, mc1, vtl1, vdl1, g1, g21, rfl, hm1, hmc1, hg1, hg21, ht1, hd1, htz1, hdz1⟩ hF1 hs
    obtain ⟨a, ws, nw, q, rfl, ha, hws, eq⟩ := (hvr.mono hF1).get hy
    have hqa : q ∈ allRows := List.mem_of_getElem? eq
    have hql := row_len hqa
    have hwl := strs_len hws
    have hs : Is (cx w B os mg mb) F1 ((e, EnP it (i + 1)) :: (it, LiP lr (i + 1)) :: (L, NsP m1) :: (cel (lawCs L) mc1 ++ (d2, CaP (cx w B os mg mb) g21 (n2 + i)) :: (ldu, LsP vdl1) :: (tl, LsP vtl1) :: (d, CaP (cx w B os mg mb) g1 (n + i)) :: M)) s := hs
    refine gen fun QO hQO => ?_
    refine r_unpack hs r.hd (vs := [.int (i : Int) t1, .ref a]) ⟨_, hs.getF hT, rfl, 0, rfl⟩ rfl rfl fun s hs => ?_
    refine assignInOrder_cons (wpAny_assign_Name (r_stC hs (.tail (.tail (.tail (cel_upd hnd c8 _)))) rfl fun s hs => ?_))
    refine assignInOrder_cons (wpAny_assign_Name (r_stC hs (.tail (.tail (.tail (cel_upd hnd c5 _)))) rfl fun s hs => assignInOrder_nil (hQO _ _ (gen fun QB hQB => ?_))))
    generalize hmc2 : up (up mc1 "j" (.int (i : Int) t1)) "row" (.ref a) = mc2 at hs
    have k1 : mc2 "row" = some (.ref a) := by rw [← hmc2]; rfl
    have k2 : mc2 "j" = some (.int (i : Int) t1) := by rw [← hmc2]; rfl
    have k3 : mc2 "listed" = some (.ref ll) := by rw [← hmc2]; exact hmc1
    have n1 : m1 "told" = some (.ref tl) := (hm1 _ (by decide)).trans h1
    have n2' : m1 "due" = some (.ref ldu) := (hm1 _ (by decide)).trans h2
    have n3 : m1 "first" = some (.ref x) := (hm1 _ (by decide)).trans h3
    have n4 : m1 "second" = some (.ref x2) := (hm1 _ (by decide)).trans h4
    refine wpAny_execs_cons (wpAny_Expr (wpAny_Call_method1_late rfl rfl rfl (r_loc hs in2 n1 (m_append hs (.tail _ (.tail _ (mem_fr in2))) ?_))))
    refine r_lc (c := cx w B os mg mb) [("row", L + 5), ("j", L + 8)] rfl (r_list (c := cx w B os mg mb) (wpAny_items_cons (r_loc hs in2 n3 (wpAny_items_cons (r_loc hs in2 n4 (wpAny_items_nil ⟨by simp, _, _, hs, fun lx s hs => ?_⟩))))))
    refine hs.fzL .head fun nx hs => ?_
    refine r_iterL hs (.head _) fun I3 s hne3 hs => ?_
    refine ⟨I3, _, _, _, _, _, _, rfl, Iter.list r.hd hne3, hs, fun p hp => (List.mem_singleton.mp hp) ▸ .head _, fun _ => rfl, fun i3 vs F3 M3 => Ex2 fun g1 g21 => And5 (M3 = (e, EnP it (i + 1)) :: (it, LiP lr (i + 1)) :: (L, NsP m1) :: (cel (lawCs L) mc2 ++ (d2, CaP (cx w B os mg mb) g21 (n2 + i + (i3 - 1))) :: (ldu, LsP vdl1) :: (tl, LsP vtl1) :: (d, CaP (cx w B os mg mb) g1 (n + i + min i3 1)) :: M)) (CaI (ms ++ ds) 30 (i + min i3 1) true g1) (CaI (ms' ++ ds') 30 (i + (i3 - 1)) true g21) (RdA F3 vs (List.replicate i3 (.int (ansI (ms ++ ds) q)))) (vs.length = i3), ⟨g1, g21, rfl, hg1, hg21, .nil, rfl⟩, ?_, ?_⟩
    · rintro C D i3 v vs m3 F3 M3 s E3 hi3 hv3 ⟨g1, g21, rfl, hg1, hg21, hrd, hvl3⟩ hF3 hs
      have hF13 : ∀ p ∈ F1, p ∈ F3 := fun p hp => hF3 p (.tail _ hp)
      have hFF : ∀ p ∈ F, p ∈ F3 := fun p hp => hF13 p (hF1 p hp)
      refine wpAny_assign_Name (r_st hs (.tail .head) fun s hs => wpAny_tests_nil (if_t rfl (gen fun QD hQD => ?_)))
      refine r_Call (c := cx w B os mg mb) hs (g_answer hs.gd) (by rfl) rfl (wpAny_items_cons (r_loc hs in1 rfl (wpAny_items_cons (r_Call (c := cx w B os mg mb) hs (g_text hs.gd) (by rfl) rfl (wpAny_items_cons (r_cel (x := "row") (mc := mc2) hs (.tail _ (.tail _ (.tail _ (.tail _ (.tail _ (.tail _ (cel_mem c5))))))) rfl k1 (wpAny_items_nil ⟨hs.K, ?_⟩)))))))
      refine text_c hs (r.mono (by decide)) (hF13 _ ha) hws (small_of (all_of f_small hqa)) fun tt s hs => ?_
      refine wpAny_items_cons (wpAny_BinOp (r_str hs fun _ s hs => r_CallT (c := cx w B os mg mb) hs (b_str hs.gd) bb_str (by decide) (wpAny_items_cons (r_cel (x := "j") (mc := mc2) hs (.tail _ (.tail _ (.tail _ (.tail _ (.tail _ (.tail _ (cel_mem c8))))))) rfl k2 (wpAny_items_nil ?_)))))
      refine r_strI hs (Nat.lt_of_le_of_lt (Nat.log2_le_self _) (by lia)) fun _ s hs => ?_
      have hfn : (("g" : Str) ++ Str.ofString (toString (i : Int))) = fN "g" i := rfl
      have hfl : (fN "g" i).length ≤ 10 := by
        have := all_of n_other (List.mem_range.mpr (show i < 40 by lia))
        simp only [Bool.and_eq_true, decide_eq_true_eq] at this
        exact this.2
      refine r_adds hs (by rw [← Str.length_append, hfn]; lia) fun _ s hs => wpAny_items_nil ⟨hs.K, ?_⟩
      rw [hfn]
      have hrep : List.replicate (i3 + 1) (PyData.int (ansI (ms ++ ds) q)) = List.replicate i3 (.int (ansI (ms ++ ds) q)) ++ [.int (ansI (ms ++ ds) q)] := List.replicate_succ'
      rcases i3 with _ | _ | i3
      · obtain rfl : Value.ref x = v := by simpa using hv3
        refine askG_c hs (r.mono (by decide)) (hR.mono hFF) (.tail (.tail (.tail (.tail (.tail (.fr (.tail (.tail (.tail .head))))))))) (by lia) hg1 (by lia) hqa fun ta s F4 g4 hF4 hg4 hs => hQD _ _ ⟨by lia, F4, _, _, hF4, ?_, hs⟩
        refine ⟨g4, g21, rfl, hg4, hg21, ?_, by simp [hvl3]⟩
        rw [hrep]
        exact (hrd.mono hF4).snoc (.int _ ta)
      · obtain rfl : Value.ref x2 = v := by simpa using hv3
        refine askG_c hs (r.mono (by decide)) (hR2.mono hFF) (.tail (.tail (.tail (.tail (.tail (.fr .head)))))) (by lia) hg21 (by lia) hqa fun ta s F4 g4 hF4 hg4 hs => hQD _ _ ⟨by lia, F4, _, _, hF4, ?_, hs⟩
        refine ⟨g1, g4, rfl, hg1, hg4, ?_, by simp [hvl3]⟩
        rw [hrep, hans]
        exact (hrd.mono hF4).snoc (.int _ ta)
      · exact absurd hi3 (by simp)
    rintro D vs F3 M3 s ⟨g1, g21, rfl, hg1, hg21, hrd, hvl3⟩ hF3 hs
    have hF13 : ∀ p ∈ F1, p ∈ F3 := fun p hp => hF3 p (.tail _ hp)
    refine hs.fzL .head fun nD hs => ?_
    refine ⟨_, _, _, _, hs, .tail (.tail (.fr (.tail (.tail .head)))), by lia, fun s hs => ?_⟩
    refine hs.pack2 (fun F4 => (∀ p ∈ F3, p ∈ F4)) (fun F4 => RdF F4 (.ref D) (ansD (ms ++ ds) q)) (fun p hp => .tail _ hp) (RdF.lis (.head _) (hrd.mono fun p hp => .tail _ hp)) fun F4 hF4 hD4 hs => ?_
    have hF14 : ∀ p ∈ F1, p ∈ F4 := fun p hp => hF4 p (hF13 p hp)
    -- below
    refine hs.hide2 (.tail _ (.tail _ (.tail _ (cel_mem (mc := mc2) c5)))) (.tail _ (.tail _ (.tail _ (cel_mem (mc := mc2) c2)))) fun M5 i5 i2' hs back => ?_
    refine wpAny_execs_cons (r_assign (wpAny_Compare1 (r_lc (c := cx w B os mg mb) [("row", L + 5), ("listed", L + 2)] rfl ?_)))
    refine r_CallT (c := cx w B os mg mb) hs (b_range hs.gd) bb_range (by decide) (wpAny_items_cons (r_CallB (c := cx w B os mg mb) hs (b_len hs.gd) bb_len (by decide) (wpAny_items_cons (r_cel (x := "row") (mc := mc2) hs i5 rfl k1 (wpAny_items_nil (r_lenF hs (hF14 _ ha) (by lia) fun _ s hs => ?_))))))
    refine wpAny_items_nil (r_range1 hs fun rr s hs => ?_)
    refine r_iterR0 hs in0 (by lia) fun I2 s hs => ?_
    have hs := hs.out (.tail .head)
    refine LcSrc.fixed hs (Iter.range0 r.hd) (fun p hp => nomatch hp) (fun i2 vs => ∃ ks, And3 (IntsAre vs ks) (vs.length ≤ i2) (vs.isEmpty = (List.range i2).all fun j => !(listedOf ns).contains (q.take (j + 1)))) ⟨[], .nil, Nat.le_refl _, rfl⟩ ?_ ?_
    · rintro C D2 i2 v vs2 m2 s E2 hi2 ⟨tv, rfl⟩ ⟨ks, hks, hvl2, hem⟩ hs
      refine wpAny_assign_Name (r_st hs (.tail .head) fun s hs => gen fun QT hQT => wpAny_tests_one (wpAny_isTrue_Compare1 (r_sliceL (c := cx w B os mg mb) (r_cel (x := "row") (mc := mc2) hs (.tail _ (.tail _ (.tail _ i5))) rfl k1 ?_))))
      refine ev_none (ev_some (wpAny_BinOp (r_loc hs in1 rfl (r_int hs fun _ s hs => r_add hs fun _ s hs => ?_))))
      have ei2 : (i2 : Int) + 1 = ((i2 + 1 : Nat) : Int) := by lia
      rw [ei2]
      refine ⟨a, ws.toArray, none, some ((i2 + 1 : Nat) : Int), _, _, rfl, isListF hs (hF14 _ ha), by simp; lia, .none, .int _ _, hs, fun D5 s hs => ?_⟩
      rw [slice_upto] at hs
      refine r_cel (x := "listed") (mc := mc2) hs (.tail _ (.tail _ (.tail _ (.tail _ i2')))) rfl k3 ?_
      refine r_inRows hs in0 (hws.take' (i2 + 1)) (hF14 _ (hF1 _ hll)) (hvl.mono fun p hp => hF14 p (hF1 p hp)) (take_ok (row_okp hqa) _) (fun q hq => row_okp (listed_all ns q hq)) r (wpAny_truthy_bool ?_)
      have hs := hs.drop
      refine hQT _ _ ?_
      cases hc : (listedOf ns).contains (q.take (i2 + 1)) with
      | true =>
        refine if_t rfl (r_loc hs in1 rfl ⟨by lia, _, ?_, hs⟩)
        refine ⟨ks ++ [(i2 : Int)], hks.append (.cons _ _ .nil), by simp; lia, ?_⟩
        rw [all_range_succ, hc]
        rw [isEmpty_snoc, Bool.not_true, Bool.and_false]
      | false =>
        refine if_f rfl ⟨_, ?_, hs⟩
        refine ⟨ks, hks, by lia, ?_⟩
        rw [all_range_succ, hc, hem]; simp
    rintro D2 vs2 s ⟨ks, hks, hvl2, hem⟩ hs
    have hs := back [(D2, LsP vs2)] _ _ hs
    rw [hwl] at hem
    have hbel : (!vs2.isEmpty) = belowB (ms ++ ds) q := by rw [hem]; exact below_range hLs h0
    refine r_list (c := cx w B os mg mb) (wpAny_items_nil ⟨by simp, _, _, hs, fun l0 s hs => ?_⟩)
    refine r_cmpNil (.inr ⟨rfl, rfl⟩) hs in1 in0 hks r ?_
    have hs := hs.drop.drop
    rw [hbel]
    refine r_st hs (.tail (.tail .head)) fun s hs => ?_
    refine wpAny_execs_cons (wpAny_Expr (wpAny_Call_method1_late rfl rfl rfl (r_loc hs in2 n2' (m_append hs (.tail _ (.tail _ (mem_fr in1))) (wpAny_IfExp (wpAny_isTrue_value (r_loc hs in2 rfl (wpAny_truthy_bool ?_))))))))
    have etake : D0 ++ (allRows.take (i + 1)).map (ansD (ms ++ ds)) = (D0 ++ (allRows.take i).map (ansD (ms ++ ds))) ++ [ansD (ms ++ ds) q] := by
      rw [List.take_add_one, eq, List.map_append, List.append_assoc]; rfl
    cases hbq : belowB (ms ++ ds) q with
    | true =>
      have ha1 : ansI (ms ++ ds) q = 1 := by unfold ansI; rw [hbq]; rfl
      refine if_t rfl (r_list (c := cx w B os mg mb) (wpAny_items_cons (r_int hs fun u1 s hs => wpAny_items_cons (r_int hs fun u2 s hs => wpAny_items_nil ⟨by simp, _, _, hs, fun lb s hs => ?_⟩))))
      refine hs.fzL .head fun nb hs => ?_
      refine ⟨_, _, _, _, hs, .tail (.tail (.fr (.tail .head))), by lia, fun s hs => wpAny_execs_nil ?_⟩
      refine hQB _ _ ⟨_, _, fun p hp => .tail _ (hF14 p hp), ?_, hs⟩
      refine ⟨_, _, _, _, g1, g21, rfl, fun y hy => (up_ne hy).trans (hm1 y hy), k3, hg1, hg21, ?_, ?_, by simp; lia, by simp; lia⟩
      · rw [etake]; exact (ht1.mono fun p hp => .tail _ (hF14 p hp)).snoc (hD4.mono fun p hp => .tail _ hp)
      · rw [etake]
        refine (hd1.mono fun p hp => .tail _ (hF14 p hp)).snoc ?_
        unfold ansD; rw [ha1]
        exact .lis (.head _) (.cons (.int _ _) (.cons (.int _ _) .nil))
    | false =>
      have ha1 : ansI (ms ++ ds) q = 0 := by unfold ansI; rw [hbq]; rfl
      refine if_f rfl (r_list (c := cx w B os mg mb) (wpAny_items_cons (r_int hs fun u1 s hs => wpAny_items_cons (r_int hs fun u2 s hs => wpAny_items_nil ⟨by simp, _, _, hs, fun lb s hs => ?_⟩))))
      refine hs.fzL .head fun nb hs => ?_
      refine ⟨_, _, _, _, hs, .tail (.tail (.fr (.tail .head))), by lia, fun s hs => wpAny_execs_nil ?_⟩
      refine hQB _ _ ⟨_, _, fun p hp => .tail _ (hF14 p hp), ?_, hs⟩
      refine ⟨_, _, _, _, g1, g21, rfl, fun y hy => (up_ne hy).trans (hm1 y hy), k3, hg1, hg21, ?_, ?_, by simp; lia, by simp; lia⟩
      · rw [etake]; exact (ht1.mono fun p hp => .tail _ (hF14 p hp)).snoc (hD4.mono fun p hp => .tail _ hp)
      · rw [etake]
        refine (hd1.mono fun p hp => .tail _ (hF14 p hp)).snoc ?_
        unfold ansD; rw [ha1]
        exact .lis (.head _) (.cons (.int _ _) (.cons (.int _ _) .nil))
  · rintro F1 M1 s ⟨m1, mc1, vtl1, vdl1, g1, g21, rfl, hm1, hmc1, hg1, hg21, ht1, hd1, htz1, hdz1⟩ hF1 hs
    have n1 : m1 "told" = some (.ref tl) := (hm1 _ (by decide)).trans h1
    have n2' : m1 "due" = some (.ref ldu) := (hm1 _ (by decide)).trans h2
    refine wpAny_execs_cons (wpAny_Return_some (wpAny_Compare1 (r_loc hs in0 n1 (r_loc hs in0 n2' ?_))))
    refine hs.getL (mem_fr in2) fun c1 e1 => ?_
    refine hs.getL (mem_fr in1) fun c2 e2 => ?_
    obtain ⟨as, ra⟩ := ht1.at hs
    obtain ⟨bs, rb⟩ := hd1.at hs
    generalize hDD : D0 ++ (allRows.take vr.length).map (ansD (ms ++ ds)) = DD at ra rb
    have hok : PyData.canLayAll0 DD = true := by rw [← hDD]; exact ok_append hD0 (ans_okD _)
    have hdep : PyData.depthAll DD ≤ 10 := by
      rw [← hDD]
      refine depth_le fun y hy => ?_
      rcases List.mem_append.mp hy with hy | hy
      · exact depth_of hDd y hy
      · obtain ⟨q, _, rfl⟩ := List.mem_map.mp hy
        exact (by decide : (1 : Nat) ≤ 10)
    have r1 : Reads s.heap (.ref tl) (.list DD) (tl :: as) := .list e1 rfl rfl (by simpa using ra)
    have r2 : Reads s.heap (.ref ldu) (.list DD) (ldu :: bs) := .list e2 rfl rfl (by simpa using rb)
    have hokL : (PyData.list DD).canLay0 = true := by rw [PyData.canLay0]; exact hok
    refine SeqAt.compareEq_reads r1 r2 hokL hokL ?_ ?_
    · have := r.units
      rw [PyData.depth]
      lia
    · rw [SeqAt.eqv_refl _ hokL]; exact k _ _ s hs
end Mine

namespace Mine
variable {w : World} {B : Heap} {os : OsState} {mg mb : Str → Option Value} {F : List (Addr × Obj)} {M M' : Led} {s : Shared} {A : Around} {E : Value → Shared → Prop}

theorem nil_Ls (ns : List Int) : [] ∉ mS ns ++ dS ns := nil_not (Ls_all ns)

set_option maxHeartbeats 8000000 in
theorem law_all {L fa sl : Addr} {cdv : Value} {body : List Stmt} {scope : Scope} {m mc : Str → Option Value} {Q : Flow → Shared → Prop} {vsS : List Value} {ns : List Int} (hb : lawFd w.params = some (body, scope))
    (hs : Is (cx w B os mg mb) F ((L, NsP m) :: (cel (lawCs L) mc ++ M)) s) (r : Rm 20 A) (hsl : B.IsList sl vsS.toArray) (hsi : IntsAre vsS ns) (hmc : mc "script" = some (.ref sl)) (hn63 : ns.length ≤ 63)
    (k : ∀ F' M' s', Is (cx w B os mg mb) F' M' s' → Q (.ret (.bool true)) s') :
    wpAny (model (cx w B os mg mb).prog w) A (execs body (envOfC "law" scope L fa cdv)) Q E s := by
  refine law_1 (so := { cls := .none, data := .plain }) hb hs r hsl hsi hmc hn63 ?_
  intro F1 m1 mc1 ll lm ld vl vm vd nl nm nd s hF1 a1 a2 a3 a4 hll hlm hld hvl hvm hvd hs
  refine law_2 hb hs r hsl hsi a1 hn63 ?_
  intro F2 pd gp s hF2 hgp hs
  refine law_3 (pv := 0) hb hs r ?_
  intro F3 m3 mc3 lr vr nr s hF3 b1 b2 b3 b4 b5 hlr hvr hs
  have p1 : mc3 "prices" = some (.ref pd) := b2.trans rfl
  have p2 : mc3 "listed" = some (.ref ll) := b1.trans a2
  have hF13 : ∀ p ∈ F1, p ∈ F3 := fun p hp => hF3 p (hF2 p hp)
  refine law_4 hb hs r p1 hgp (b3.trans a3) (b4.trans a4) (hF13 _ hlm) (hF13 _ hld) hvm hvd ?_
  intro F4 x d tl vt T g n4 s hF4 hR hW hT hg hn4 hs
  have q1 : up (up m3 "first" (.ref x)) "told" (.ref tl) "rows" = some (.ref lr) := b5
  refine law_5 hb hs r p1 hgp (.tail (.tail .head)) q1 (hF4 _ hlr) (hvr.mono hF4) p2 (hF4 _ (hF13 _ hll)) (hvl.mono fun p hp => hF4 p (hF13 p hp)) ?_
  intro F5 mc5 lp vp s hF5 hmc5 hkeys hs
  have p3 : mc5 "listed" = some (.ref ll) := (hmc5 _ (by decide)).trans p2
  have hF15 : ∀ p ∈ F1, p ∈ F5 := fun p hp => hF5 p (hF4 p (hF13 p hp))
  refine law_6 hb hs r rfl hkeys p3 (hF15 _ hll) (hvl.mono hF15) hW ?_
  intro F6 lpl ldu vd6 s hF6 hT6 hs
  have hF46 : ∀ p ∈ F4, p ∈ F6 := fun p hp => hF6 p (hF5 p hp)
  refine law_7 hb hs r (tl := tl) rfl in1 (hT.mono hF46) hW ?_
  intro F7 lf x2 d2 s hF7 hR2 hs
  have hF47 : ∀ p ∈ F4, p ∈ F7 := fun p hp => hF7 p (hF46 p hp)
  have hperm := told_perm hW
  have hTall : ∀ q ∈ T, q ∈ allRows := fun q hq => vis_all (hperm.mem_iff.mp hq)
  have hT20 : T.length ≤ 20 := by rw [hperm.length_eq]; exact vis_len
  have hl1 := hT.length
  have hl2 := hT6.length
  have hg2 : CaI (ms2 (mS ns ++ dS ns) T ++ ds2 (mS ns ++ dS ns) T) 30 0 false (fun k => if k = "<string>" then some 1 else none) := CaI.start.more (by decide) (by decide)
  refine law_8 (D0 := .none :: T.map (entD (prOf gp) (mS ns ++ dS ns))) hb hs r rfl rfl rfl rfl (hR.mono hF47) hR2 (by lia) (by decide) hg hg2 (.cons .none (hT.mono hF47).rd) (.cons .none (hT6.mono hF7).rd) (by simp; lia) (by simp; lia) ?_
  intro F8 vtl vdl g8 g28 s hF8 hg8 hg28 hrt hrd ht8 hd8 hs
  have hF48 : ∀ p ∈ F4, p ∈ F8 := fun p hp => hF8 p (hF47 p hp)
  have hF18 : ∀ p ∈ F1, p ∈ F8 := fun p hp => hF48 p (hF4 p (hF13 p hp))
  refine law_9 hb hs r rfl rfl rfl rfl (by exact b5) (by exact p3) (hF48 _ (hF4 _ hlr)) (hvr.mono fun p hp => hF48 p (hF4 p hp)) (hF18 _ hll) (hvl.mono hF18) (listed_iff ns) (nil_Ls ns) (hR.mono hF48) (hR2.mono hF8) (ans_both hperm (Ls_all ns)) (by lia) (by decide) hg8 hg28 hrt hrd ht8 hd8 ?_ ?_ k
  · exact ok_append (a := .none :: _) (by rw [PyData.canLayAll0, ents_ok hTall]; rfl) rfl
  · refine depth_le fun y hy => ?_
    rcases List.mem_append.mp hy with hy | hy
    · rcases List.mem_cons.mp hy with rfl | hy
      · exact Nat.zero_le _
      · obtain ⟨q, _, rfl⟩ := List.mem_map.mp hy
        exact (by decide : (2 : Nat) ≤ 10)
    · rw [List.mem_singleton.mp hy]; decide

theorem cells_mem {cm : Str → Option Value} {cs : List (Str × Addr)} {news : List (Addr × Obj)} (h : CellsAre cm cs news) : ∀ p ∈ cel cs cm, ∃ o, (p.1, o) ∈ news ∧ p.2 o := by
  induction h with
  | nil => intro p hp; exact nomatch hp
  | cons e _ ih =>
    intro p hp
    rcases List.mem_cons.mp hp with rfl | hp
    · exact ⟨_, .head _, e⟩
    · obtain ⟨o, h1, h2⟩ := ih p hp
      exact ⟨o, .tail _ h1, h2⟩

theorem start {s₁ : Shared} {h₁ : Heap} {tk : Nat} {m0 cm : Str → Option Value} {news : List (Addr × Obj)} (KX : (Mine.myK w.params).In s₁.heap) (T : TR mg mb s₁.heap) (hg : s₁.gens = #[])
    (F : Fr s₁.heap s₁.heap.objs.size h₁ m0) (N : News s₁.heap s₁.heap.objs.size h₁ news) (X : CellsAre cm (lawCs s₁.heap.objs.size) news) :
    Is (cx w s₁.heap s₁.os mg mb) [] ((s₁.heap.objs.size, NsP m0) :: (cel (lawCs s₁.heap.objs.size) cm ++ [])) { heap := h₁, gens := s₁.gens, drawn := s₁.drawn, toks := tk, os := s₁.os } := by
  have hbig : 3 < s₁.heap.objs.size := T.g.lt
  refine ⟨⟨F.keep, (fun p hp => nomatch hp), ?_, ?_, (fun p hp => nomatch hp), ?_, (fun p hp => nomatch hp), (fun p _ q hq => nomatch hq), ?_⟩, hg, rfl, KX, T⟩
  · intro p hp
    rcases List.mem_cons.mp hp with rfl | hp
    · exact NsP.of F.ns
    · rw [List.append_nil] at hp
      obtain ⟨o, h1, h2⟩ := cells_mem X p hp
      exact ⟨o, (N _ h1).1, h2⟩
  · intro p hp
    rcases List.mem_cons.mp hp with rfl | hp
    · exact Heap.get_size _
    · rw [List.append_nil] at hp
      obtain ⟨o, h1, h2⟩ := cells_mem X p hp
      exact (N _ h1).2.2
  · intro p hp
    rcases List.mem_cons.mp hp with rfl | hp
    · exact hbig
    · rw [List.append_nil] at hp
      obtain ⟨q, hq, rfl⟩ := List.mem_map.mp hp
      have : ∀ q ∈ lawCs s₁.heap.objs.size, s₁.heap.objs.size < q.2 := by
        intro q hq
        simp only [lawCs, List.mem_cons, List.not_mem_nil, or_false] at hq
        rcases hq with rfl | rfl | rfl | rfl | rfl | rfl | rfl | rfl <;> exact Nat.lt_add_of_pos_right (by decide)
      exact Nat.lt_trans hbig (this q hq)
  · generalize s₁.heap.objs.size = L
    show (([0, 8, 7, 6, 5, 4, 3, 2, 1] : List Nat).map (L + ·)).Nodup
    exact List.pairwise_map.mpr ((by decide : ([0, 8, 7, 6, 5, 4, 3, 2, 1] : List Nat).Nodup).imp fun h e => h (Nat.add_left_cancel e))
end Mine

namespace Mine
/-- the statements of the text that the top keeps in sight -/
noncomputable def view : Program := { PySem.Challenge.pw_nq0054_01 with main := { PySem.Challenge.pw_nq0054_01.main with body := [0, 1, 3, 4, 5, 6, 7, 9, 11, 12, 13, 14, 15, 16, 18, 19, 20, 21, 22].filterMap fun i => PySem.Challenge.pw_nq0054_01.main.body[i]? } }
noncomputable def hook : Hook := kHook myK myAs (fun _ => by kernel_rfl)
/-- the top's run behind an opening whose end is known -/
theorem left_of {p q : Program} {loose : List Str} {Xt : Shared → Bool} {α : Type} {Yf : Shared → α} {Ya : World → α} {N : Nat} {H₀ : Params → Heap} {gs₀ : Array GenState} {d₀ : Drawn} {k₀ : Nat}
    (ho : ∀ w : World, (fencedOpening treeTable p w N).map (fun s => (s.heap, s.gens, s.drawn, s.toks)) = some (H₀ w.params, gs₀, d₀, k₀))
    (hr : ∀ (w : World) (os : OsState), (topFrom treeTable p w N ⟨H₀ w.params, gs₀, d₀, k₀, os⟩).map (fun s => (openSeen q loose (importedModules p.main.body) Xt true s, Yf s)) = some (openGood q loose, Ya w)) : LeftO p q loose Xt Yf Ya N := fun w => by
  have h := ho w
  cases e : fencedOpening treeTable p w N with
  | none => rw [e] at h; cases h
  | some s =>
    rw [e] at h
    obtain ⟨a, b, c, d, os⟩ := s
    cases Option.some.inj h
    unfold openEnds
    rw [e]
    exact hr w os
theorem fence0 (s : Shared) : fenceModules? PySem.Challenge.pw_nq0054_01 s = some s := rfl
theorem open0 : opening PySem.Challenge.pw_nq0054_01 = plainProg PySem.Challenge.pw_nq0054_01.main.scope.names := by kernel_rfl
/-- the run of the top, in the kernel, with the library's quick forms of topRun, openSeen and treeTable -/
theorem rest0 (w : World) (os : OsState) : (topFrom treeTable PySem.Challenge.pw_nq0054_01 w 1808 ⟨boot_heap w.params, Array.mk [], boot_drawn, boot_toks, os⟩).map (fun s => (openSeen view [] (importedModules PySem.Challenge.pw_nq0054_01.main.body) (fun s => xlAt view [] s && recOk (RowW.records PySem.Challenge.rw_nq0054_01.row.toRowW) s) true s, hook.obs s)) = some (openGood view [], hook.val w) := by
  unfold topFrom
  try rw [PySem.W.Fast.te14082659384304107361, PySem.W.Fast.te4187177175401517315, PySem.W.Fast.te14364793385576792824]
  kernel_rfl
theorem left0 : LeftO PySem.Challenge.rw_nq0054_01.row.prog view [] (fun s => xlAt view [] s && recOk (RowW.records PySem.Challenge.rw_nq0054_01.row.toRowW) s) hook.obs hook.val 1808 := left_of (boot_open open0 (by decide) fence0) rest0
end Mine
set_option maxHeartbeats 8000000 in
theorem PySem.Challenge.cw_nq0054_01_holds : PySem.Challenge.rw_nq0054_01.Holds := by
  w_on
  o_law
  refine PySem.W.holds_open (q := Mine.view) (loose := []) (Xt := fun s => xlAt Mine.view [] s && recOk (RowW.records PySem.Challenge.rw_nq0054_01.row.toRowW) s) (XP := XL Mine.view []) (Yf := Hook.obs Mine.hook) (Ya := Hook.val Mine.hook) (YP := Hook.says (kHook Mine.myK Mine.myAs (fun _ => by kernel_rfl))) (N := 1808) Mine.left0 (Hook.of _) (Hook.keeps _) (fun s e => xl_of s (Bool.and_eq_true_iff.mp e).1) XL.keeps (by rfl) (by rfl) (by rfl) (fun s e => recFacts_of (Bool.and_eq_true_iff.mp e).2) (by rfl) (by assumption) (by decide +kernel) ⟨rfl, rfl, rfl, rfl, rfl, by decide +kernel⟩ ?hw ?hc
  case hw => w_witness2
  k_go0
  rename_i hL ra w1 r0 hI hr hc1 hc2 K0 hD h₁ tk₁ F w7 w6 w5 w4 w3 w2 w1' w0 l6 l5 l4 l3 l2 l1 l0 rt N0 X0
  refine Mine.law_all (F := []) (M := []) ?hb1 (Mine.start (by assumption) (⟨Top.g ‹_›, Top.b ‹_›, Top.nolimit ‹_›, Top.builtins ‹_›⟩) (by assumption) F N0 X0) ?rm1 hL hI ?script ?n63 ?fin1
  case hb1 => rfl
  case rm1 => exact ⟨rfl, by show 1 + claimMargin + 1 + 20 < 1000; decide, by show 4 + 3 + 100 * 20 < 9900; decide⟩
  case script => rfl
  case n63 => omega
  case fin1 =>
    intro F' M' s' hs
    refine ⟨.inl ⟨.bool true, .bool true, [], rfl, ?_, .bool true, ?_, fun _ => ⟨.nil, fun a ha => nomatch ha⟩⟩, hs.st.base, hs.os, hs.gens⟩
    · intro cls; rfl
    · first | wrow_post | exact postW_of (by wrow_shape) (by wtm_val) rfl
