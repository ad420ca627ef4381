import PyProof.Rows.All
import Wide.All
import OpenK.AllK
import Wide.FinOn
import PySem.Challenge.RW_pm0061_01
set_option Elab.async false
set_option maxRecDepth 100000
set_option compiler.extract_closed false
open PySem PySem.W PySem.Calls PyProof.Rows
local macro_rules | `(tactic| walk_at $s:str) => `(tactic| k_extra $s)

section
open PySem PySem.W PyProof.Rows
set_option maxRecDepth 100000
set_option maxHeartbeats 8000000
namespace Mine
/-- a def's arguments, block and scope, read off the row's own term -/
def dArgs : Stmt → Arguments | .FunctionDef _ a _ _ _ _ _ _ _ _ => a | _ => ⟨[], [], none, [], [], none, []⟩
def dBody : Stmt → List Stmt | .FunctionDef _ _ b _ _ _ _ _ _ _ => b | _ => []
def dScope : Stmt → Scope | .FunctionDef _ _ _ _ _ _ s _ _ _ => s | _ => { kind := .function, names := [], isGenerator := false, isCoroutine := false }
def cBody : Stmt → List Stmt | .ClassDef _ _ _ b _ _ _ _ _ _ _ => b | _ => []
def nthS (l : List Stmt) (i : Nat) : Stmt := (l.drop i).headD (.Pass ⟨0, 0, 0, 0⟩)
def topS (i : Nat) : Stmt := nthS PySem.Challenge.pw_pm0061_01.main.body i
def clsS (i : Nat) : Stmt := nthS (cBody (topS 14)) i
/-- the objects that stand when the top has run -/
noncomputable def heap : Params → Frag := fun P =>
  (nat_lit 2, { cls := Value.none, data := Data.dict #[{ hash := PyData.keyHash P (Str.ofString "\x69mport.loaded._sre"), key := Value.str (Str.ofString "\x69mport.loaded._sre") 183, val := Value.bool true }, { hash := PyData.keyHash P (Str.ofString "class._frozen_importlib.BuiltinImporter"), key := Value.str (Str.ofString "class._frozen_importlib.BuiltinImporter") 185, val := Value.ref 14 }, { hash := PyData.keyHash P (Str.ofString "watched.\x69mport"), key := Value.str (Str.ofString "watched.\x69mport") 206, val := Value.ref 18 }, { hash := PyData.keyHash P (Str.ofString "class._frozen_importlib.ModuleSpec"), key := Value.str (Str.ofString "class._frozen_importlib.ModuleSpec") 216, val := Value.ref 22 }, { hash := PyData.keyHash P (Str.ofString "sys.modules.booked-epoch"), key := Value.str (Str.ofString "sys.modules.booked-epoch") 245, val := Value.int 3 0 }, { hash := PyData.keyHash P (Str.ofString "\x69mport.later-laid._sre"), key := Value.str (Str.ofString "\x69mport.later-laid._sre") 270, val := Value.bool true }, { hash := PyData.keyHash P (Str.ofString "watched.library"), key := Value.str (Str.ofString "watched.library") 272, val := Value.ref 27 }, { hash := PyData.keyHash P (Str.ofString "watched.library-objects"), key := Value.str (Str.ofString "watched.library-objects") 0, val := Value.str (Str.ofString "\x0c") 0 }, { hash := PyData.keyHash P (Str.ofString "watched.library-deep._sre"), key := Value.str (Str.ofString "watched.library-deep._sre") 273, val := Value.str (Str.ofString "\x04\x00\x00\x0b\x04\x00\x00\x0b\x04\x00\x00\x03\x04\x00\x00\x0b\x08\x04dict\x02") 0 }] 9 }) ::
  (nat_lit 3, { cls := Value.type "dict", data := Data.dict #[{ hash := PyData.keyHash P (Str.ofString "__name__"), key := Value.str (Str.ofString "__name__") 165, val := Value.str (Str.ofString "law_pm0061_01") 615 }, { hash := PyData.keyHash P (Str.ofString "__doc__"), key := Value.str (Str.ofString "__doc__") 166, val := Value.none }, { hash := PyData.keyHash P (Str.ofString "__package__"), key := Value.str (Str.ofString "__package__") 167, val := Value.none }, { hash := PyData.keyHash P (Str.ofString "__loader__"), key := Value.str (Str.ofString "__loader__") 168, val := Value.builtin "__main__.__loader__#opaque" }, { hash := PyData.keyHash P (Str.ofString "__spec__"), key := Value.str (Str.ofString "__spec__") 169, val := Value.none }, { hash := PyData.keyHash P (Str.ofString "__annotations__"), key := Value.str (Str.ofString "__annotations__") 170, val := Value.ref 6 }, { hash := PyData.keyHash P (Str.ofString "__builtins__"), key := Value.str (Str.ofString "__builtins__") 171, val := Value.ref 4 }, { hash := PyData.keyHash P (Str.ofString "__file__"), key := Value.str (Str.ofString "__file__") 173, val := Value.str (Str.ofString "/claim/cut.py") 172 }, { hash := PyData.keyHash P (Str.ofString "__cached__"), key := Value.str (Str.ofString "__cached__") 174, val := Value.none }, { hash := PyData.keyHash P (Str.ofString "_sre"), key := Value.str (Str.ofString "_sre") 275, val := Value.ref 12 }, { hash := PyData.keyHash P (Str.ofString "_wall"), key := Value.str (Str.ofString "_wall") 288, val := Value.ref 38 }, { hash := PyData.keyHash P (Str.ofString "replace"), key := Value.str (Str.ofString "replace") 298, val := Value.ref 45 }, { hash := PyData.keyHash P (Str.ofString "cram"), key := Value.str (Str.ofString "cram") 308, val := Value.ref 52 }, { hash := PyData.keyHash P (Str.ofString "insort_right"), key := Value.str (Str.ofString "insort_right") 323, val := Value.ref 61 }, { hash := PyData.keyHash P (Str.ofString "bisect_right"), key := Value.str (Str.ofString "bisect_right") 337, val := Value.ref 70 }, { hash := PyData.keyHash P (Str.ofString "bisect_left"), key := Value.str (Str.ofString "bisect_left") 351, val := Value.ref 79 }, { hash := PyData.keyHash P (Str.ofString "tspecials"), key := Value.str (Str.ofString "tspecials") 387, val := Value.ref 84 }, { hash := PyData.keyHash P (Str.ofString "_name_disallowed_re"), key := Value.str (Str.ofString "_name_disallowed_re") 413, val := Value.ref 89 }, { hash := PyData.keyHash P (Str.ofString "_value_disallowed_re"), key := Value.str (Str.ofString "_value_disallowed_re") 447, val := Value.ref 94 }, { hash := PyData.keyHash P (Str.ofString "_formatparam"), key := Value.str (Str.ofString "_formatparam") 457, val := Value.ref 102 }, { hash := PyData.keyHash P (Str.ofString "Headers"), key := Value.str (Str.ofString "Headers") 614, val := Value.ref 223 }, { hash := PyData.keyHash P (Str.ofString "_law_words"), key := Value.str (Str.ofString "_law_words") 622, val := Value.ref 232 }, { hash := PyData.keyHash P (Str.ofString "_law_small"), key := Value.str (Str.ofString "_law_small") 629, val := Value.ref 239 }, { hash := PyData.keyHash P (Str.ofString "_law_row"), key := Value.str (Str.ofString "_law_row") 640, val := Value.ref 246 }, { hash := PyData.keyHash P (Str.ofString "_law_drawers"), key := Value.str (Str.ofString "_law_drawers") 650, val := Value.ref 253 }, { hash := PyData.keyHash P (Str.ofString "_law_stretch"), key := Value.str (Str.ofString "_law_stretch") 656, val := Value.ref 258 }, { hash := PyData.keyHash P (Str.ofString "_law_told"), key := Value.str (Str.ofString "_law_told") 662, val := Value.ref 263 }, { hash := PyData.keyHash P (Str.ofString "_law_fits"), key := Value.str (Str.ofString "_law_fits") 673, val := Value.ref 270 }, { hash := PyData.keyHash P (Str.ofString "_law_due"), key := Value.str (Str.ofString "_law_due") 679, val := Value.ref 275 }, { hash := PyData.keyHash P (Str.ofString "law"), key := Value.str (Str.ofString "law") 688, val := Value.ref 282 }] 30 }) ::
  (nat_lit 32, { cls := Value.type "tuple", data := Data.seq #[] }) ::
  (nat_lit 34, { cls := Value.type "tuple", data := Data.seq #[Value.str (Str.ofString "k") 285] }) ::
  (nat_lit 35, { cls := Value.type "tuple", data := Data.seq #[] }) ::
  (nat_lit 37, { cls := Value.type "code", data := Data.fields #[Value.str (Str.ofString "_wall") 282, Value.str (Str.ofString "_wall") 283, Value.str (Str.ofString "/claim/cut.py") 284, Value.int 2 0, Value.int 1 0, Value.int 0 0, Value.int 0 0, Value.int 3 0, Value.ref 32, Value.bool true, Value.int 276 0, Value.ref 33, Value.none, Value.ref 34, Value.ref 35, Value.ref 36, Value.int 286 0, Value.int 2 0, Value.str (Str.ofString "/claim/cut.py") 287] }) ::
  (nat_lit 38, { cls := Value.type "function", data := Data.func { name := Str.ofString "_wall", qualname := Str.ofString "_wall", params := (by refine' (?f1 : ∀ x : Arguments, (∃ K : Arguments, K = x) → Arguments) _ ?e1; (case e1 => (have e : ∃ K : Arguments, K = dArgs (topS 1) := ⟨_, rfl⟩; (conv at e => (enter [1, K, 2]; whnf)); exact e)); (case f1 => exact fun x _ => x)), body := FuncBody.stmts (by refine' (?f2 : ∀ x : List Stmt, (∃ K : List Stmt, K = x) → List Stmt) _ ?e2; (case e2 => (have e : ∃ K : List Stmt, K = dBody (topS 1) := ⟨_, rfl⟩; (conv at e => (enter [1, K, 2]; whnf)); exact e)); (case f2 => exact fun x _ => x)), scope := (by refine' (?f3 : ∀ x : Scope, (∃ K : Scope, K = x) → Scope) _ ?e3; (case e3 => (have e : ∃ K : Scope, K = dScope (topS 1) := ⟨_, rfl⟩; (conv at e => (enter [1, K, 2]; whnf)); exact e)); (case f3 => exact fun x _ => x)), globals := 3, closure := [], defaults := Value.none, kwdefaults := Value.none, pyModule := Value.str (Str.ofString "__main__") 164, code := Value.ref 37 } }) ::
  (nat_lit 39, { cls := Value.type "tuple", data := Data.seq #[] }) ::
  (nat_lit 41, { cls := Value.type "tuple", data := Data.seq #[Value.str (Str.ofString "text") 294, Value.str (Str.ofString "pairs") 295] }) ::
  (nat_lit 42, { cls := Value.type "tuple", data := Data.seq #[] }) ::
  (nat_lit 44, { cls := Value.type "code", data := Data.fields #[Value.str (Str.ofString "replace") 291, Value.str (Str.ofString "replace") 292, Value.str (Str.ofString "/claim/cut.py") 293, Value.int 6 0, Value.int 1 0, Value.int 0 0, Value.int 0 0, Value.int 7 0, Value.ref 39, Value.bool true, Value.int 276 0, Value.ref 40, Value.none, Value.ref 41, Value.ref 42, Value.ref 43, Value.int 296 0, Value.int 6 0, Value.str (Str.ofString "/claim/cut.py") 297] }) ::
  (nat_lit 45, { cls := Value.type "function", data := Data.func { name := Str.ofString "replace", qualname := Str.ofString "replace", params := (by refine' (?f4 : ∀ x : Arguments, (∃ K : Arguments, K = x) → Arguments) _ ?e4; (case e4 => (have e : ∃ K : Arguments, K = dArgs (topS 3) := ⟨_, rfl⟩; (conv at e => (enter [1, K, 2]; whnf)); exact e)); (case f4 => exact fun x _ => x)), body := FuncBody.stmts (by refine' (?f5 : ∀ x : List Stmt, (∃ K : List Stmt, K = x) → List Stmt) _ ?e5; (case e5 => (have e : ∃ K : List Stmt, K = dBody (topS 3) := ⟨_, rfl⟩; (conv at e => (enter [1, K, 2]; whnf)); exact e)); (case f5 => exact fun x _ => x)), scope := (by refine' (?f6 : ∀ x : Scope, (∃ K : Scope, K = x) → Scope) _ ?e6; (case e6 => (have e : ∃ K : Scope, K = dScope (topS 3) := ⟨_, rfl⟩; (conv at e => (enter [1, K, 2]; whnf)); exact e)); (case f6 => exact fun x _ => x)), globals := 3, closure := [], defaults := Value.none, kwdefaults := Value.none, pyModule := Value.str (Str.ofString "cpy313.pydoc") 289, code := Value.ref 44 } }) ::
  (nat_lit 46, { cls := Value.type "tuple", data := Data.seq #[] }) ::
  (nat_lit 48, { cls := Value.type "tuple", data := Data.seq #[Value.str (Str.ofString "text") 302, Value.str (Str.ofString "maxlen") 303, Value.str (Str.ofString "pre") 304, Value.str (Str.ofString "post") 305] }) ::
  (nat_lit 49, { cls := Value.type "tuple", data := Data.seq #[] }) ::
  (nat_lit 51, { cls := Value.type "code", data := Data.fields #[Value.str (Str.ofString "cram") 299, Value.str (Str.ofString "cram") 300, Value.str (Str.ofString "/claim/cut.py") 301, Value.int 11 0, Value.int 2 0, Value.int 0 0, Value.int 0 0, Value.int 3 0, Value.ref 46, Value.bool true, Value.int 276 0, Value.ref 47, Value.none, Value.ref 48, Value.ref 49, Value.ref 50, Value.int 306 0, Value.int 11 0, Value.str (Str.ofString "/claim/cut.py") 307] }) ::
  (nat_lit 52, { cls := Value.type "function", data := Data.func { name := Str.ofString "cram", qualname := Str.ofString "cram", params := (by refine' (?f7 : ∀ x : Arguments, (∃ K : Arguments, K = x) → Arguments) _ ?e7; (case e7 => (have e : ∃ K : Arguments, K = dArgs (topS 4) := ⟨_, rfl⟩; (conv at e => (enter [1, K, 2]; whnf)); exact e)); (case f7 => exact fun x _ => x)), body := FuncBody.stmts (by refine' (?f8 : ∀ x : List Stmt, (∃ K : List Stmt, K = x) → List Stmt) _ ?e8; (case e8 => (have e : ∃ K : List Stmt, K = dBody (topS 4) := ⟨_, rfl⟩; (conv at e => (enter [1, K, 2]; whnf)); exact e)); (case f8 => exact fun x _ => x)), scope := (by refine' (?f9 : ∀ x : Scope, (∃ K : Scope, K = x) → Scope) _ ?e9; (case e9 => (have e : ∃ K : Scope, K = dScope (topS 4) := ⟨_, rfl⟩; (conv at e => (enter [1, K, 2]; whnf)); exact e)); (case f9 => exact fun x _ => x)), globals := 3, closure := [], defaults := Value.none, kwdefaults := Value.none, pyModule := Value.str (Str.ofString "cpy313.pydoc") 289, code := Value.ref 51 } }) ::
  (nat_lit 53, { cls := Value.type "tuple", data := Data.seq #[Value.int 0 311, Value.none] }) ::
  (nat_lit 54, { cls := Value.type "dict", data := Data.dict #[{ hash := PyData.keyHash P (Str.ofString "key"), key := Value.str (Str.ofString "key") 312, val := Value.none }] 1 }) ::
  (nat_lit 55, { cls := Value.type "tuple", data := Data.seq #[] }) ::
  (nat_lit 57, { cls := Value.type "tuple", data := Data.seq #[Value.str (Str.ofString "a") 316, Value.str (Str.ofString "x") 317, Value.str (Str.ofString "lo") 318, Value.str (Str.ofString "hi") 319, Value.str (Str.ofString "key") 320] }) ::
  (nat_lit 58, { cls := Value.type "tuple", data := Data.seq #[] }) ::
  (nat_lit 60, { cls := Value.type "code", data := Data.fields #[Value.str (Str.ofString "insort_right") 313, Value.str (Str.ofString "insort_right") 314, Value.str (Str.ofString "/claim/cut.py") 315, Value.int 18 0, Value.int 4 0, Value.int 0 0, Value.int 1 0, Value.int 3 0, Value.ref 55, Value.bool true, Value.int 276 0, Value.ref 56, Value.none, Value.ref 57, Value.ref 58, Value.ref 59, Value.int 321 0, Value.int 18 0, Value.str (Str.ofString "/claim/cut.py") 322] }) ::
  (nat_lit 61, { cls := Value.type "function", data := Data.func { name := Str.ofString "insort_right", qualname := Str.ofString "insort_right", params := (by refine' (?f10 : ∀ x : Arguments, (∃ K : Arguments, K = x) → Arguments) _ ?e10; (case e10 => (have e : ∃ K : Arguments, K = dArgs (topS 6) := ⟨_, rfl⟩; (conv at e => (enter [1, K, 2]; whnf)); exact e)); (case f10 => exact fun x _ => x)), body := FuncBody.stmts (by refine' (?f11 : ∀ x : List Stmt, (∃ K : List Stmt, K = x) → List Stmt) _ ?e11; (case e11 => (have e : ∃ K : List Stmt, K = dBody (topS 6) := ⟨_, rfl⟩; (conv at e => (enter [1, K, 2]; whnf)); exact e)); (case f11 => exact fun x _ => x)), scope := (by refine' (?f12 : ∀ x : Scope, (∃ K : Scope, K = x) → Scope) _ ?e12; (case e12 => (have e : ∃ K : Scope, K = dScope (topS 6) := ⟨_, rfl⟩; (conv at e => (enter [1, K, 2]; whnf)); exact e)); (case f12 => exact fun x _ => x)), globals := 3, closure := [], defaults := Value.ref 53, kwdefaults := Value.ref 54, pyModule := Value.str (Str.ofString "cpy313.bisect") 309, code := Value.ref 60 } }) ::
  (nat_lit 62, { cls := Value.type "tuple", data := Data.seq #[Value.int 0 324, Value.none] }) ::
  (nat_lit 63, { cls := Value.type "dict", data := Data.dict #[{ hash := PyData.keyHash P (Str.ofString "key"), key := Value.str (Str.ofString "key") 325, val := Value.none }] 1 }) ::
  (nat_lit 64, { cls := Value.type "tuple", data := Data.seq #[] }) ::
  (nat_lit 66, { cls := Value.type "tuple", data := Data.seq #[Value.str (Str.ofString "a") 329, Value.str (Str.ofString "x") 330, Value.str (Str.ofString "lo") 331, Value.str (Str.ofString "hi") 332, Value.str (Str.ofString "key") 333, Value.str (Str.ofString "mid") 334] }) ::
  (nat_lit 67, { cls := Value.type "tuple", data := Data.seq #[] }) ::
  (nat_lit 69, { cls := Value.type "code", data := Data.fields #[Value.str (Str.ofString "bisect_right") 326, Value.str (Str.ofString "bisect_right") 327, Value.str (Str.ofString "/claim/cut.py") 328, Value.int 24 0, Value.int 4 0, Value.int 0 0, Value.int 1 0, Value.int 3 0, Value.ref 64, Value.bool true, Value.int 276 0, Value.ref 65, Value.none, Value.ref 66, Value.ref 67, Value.ref 68, Value.int 335 0, Value.int 24 0, Value.str (Str.ofString "/claim/cut.py") 336] }) ::
  (nat_lit 70, { cls := Value.type "function", data := Data.func { name := Str.ofString "bisect_right", qualname := Str.ofString "bisect_right", params := (by refine' (?f13 : ∀ x : Arguments, (∃ K : Arguments, K = x) → Arguments) _ ?e13; (case e13 => (have e : ∃ K : Arguments, K = dArgs (topS 7) := ⟨_, rfl⟩; (conv at e => (enter [1, K, 2]; whnf)); exact e)); (case f13 => exact fun x _ => x)), body := FuncBody.stmts (by refine' (?f14 : ∀ x : List Stmt, (∃ K : List Stmt, K = x) → List Stmt) _ ?e14; (case e14 => (have e : ∃ K : List Stmt, K = dBody (topS 7) := ⟨_, rfl⟩; (conv at e => (enter [1, K, 2]; whnf)); exact e)); (case f14 => exact fun x _ => x)), scope := (by refine' (?f15 : ∀ x : Scope, (∃ K : Scope, K = x) → Scope) _ ?e15; (case e15 => (have e : ∃ K : Scope, K = dScope (topS 7) := ⟨_, rfl⟩; (conv at e => (enter [1, K, 2]; whnf)); exact e)); (case f15 => exact fun x _ => x)), globals := 3, closure := [], defaults := Value.ref 62, kwdefaults := Value.ref 63, pyModule := Value.str (Str.ofString "cpy313.bisect") 309, code := Value.ref 69 } }) ::
  (nat_lit 71, { cls := Value.type "tuple", data := Data.seq #[Value.int 0 338, Value.none] }) ::
  (nat_lit 72, { cls := Value.type "dict", data := Data.dict #[{ hash := PyData.keyHash P (Str.ofString "key"), key := Value.str (Str.ofString "key") 339, val := Value.none }] 1 }) ::
  (nat_lit 73, { cls := Value.type "tuple", data := Data.seq #[] }) ::
  (nat_lit 75, { cls := Value.type "tuple", data := Data.seq #[Value.str (Str.ofString "a") 343, Value.str (Str.ofString "x") 344, Value.str (Str.ofString "lo") 345, Value.str (Str.ofString "hi") 346, Value.str (Str.ofString "key") 347, Value.str (Str.ofString "mid") 348] }) ::
  (nat_lit 76, { cls := Value.type "tuple", data := Data.seq #[] }) ::
  (nat_lit 78, { cls := Value.type "code", data := Data.fields #[Value.str (Str.ofString "bisect_left") 340, Value.str (Str.ofString "bisect_left") 341, Value.str (Str.ofString "/claim/cut.py") 342, Value.int 44 0, Value.int 4 0, Value.int 0 0, Value.int 1 0, Value.int 3 0, Value.ref 73, Value.bool true, Value.int 276 0, Value.ref 74, Value.none, Value.ref 75, Value.ref 76, Value.ref 77, Value.int 349 0, Value.int 44 0, Value.str (Str.ofString "/claim/cut.py") 350] }) ::
  (nat_lit 79, { cls := Value.type "function", data := Data.func { name := Str.ofString "bisect_left", qualname := Str.ofString "bisect_left", params := (by refine' (?f16 : ∀ x : Arguments, (∃ K : Arguments, K = x) → Arguments) _ ?e16; (case e16 => (have e : ∃ K : Arguments, K = dArgs (topS 8) := ⟨_, rfl⟩; (conv at e => (enter [1, K, 2]; whnf)); exact e)); (case f16 => exact fun x _ => x)), body := FuncBody.stmts (by refine' (?f17 : ∀ x : List Stmt, (∃ K : List Stmt, K = x) → List Stmt) _ ?e17; (case e17 => (have e : ∃ K : List Stmt, K = dBody (topS 8) := ⟨_, rfl⟩; (conv at e => (enter [1, K, 2]; whnf)); exact e)); (case f17 => exact fun x _ => x)), scope := (by refine' (?f18 : ∀ x : Scope, (∃ K : Scope, K = x) → Scope) _ ?e18; (case e18 => (have e : ∃ K : Scope, K = dScope (topS 8) := ⟨_, rfl⟩; (conv at e => (enter [1, K, 2]; whnf)); exact e)); (case f18 => exact fun x _ => x)), globals := 3, closure := [], defaults := Value.ref 71, kwdefaults := Value.ref 72, pyModule := Value.str (Str.ofString "cpy313.bisect") 309, code := Value.ref 78 } }) ::
  (nat_lit 83, { cls := Value.type "tuple", data := Data.seq #[Value.int 14 0, Value.int 14 0, Value.int 4 0, Value.int 1 0, Value.int 1 0, Value.int 9 0, Value.int 0 0, Value.int 4227896069 0, Value.int 939524097 0, Value.int 0 0, Value.int 0 0, Value.int 0 0, Value.int 0 0, Value.int 0 0, Value.int 0 0, Value.int 13 0, Value.int 11 0, Value.int 9 0, Value.int 0 0, Value.int 4227896069 0, Value.int 939524097 0, Value.int 0 0, Value.int 0 0, Value.int 0 0, Value.int 0 0, Value.int 0 0, Value.int 0 0, Value.int 1 0] }) ::
  (nat_lit 84, { cls := Value.type "re.Pattern", data := Data.fields #[Value.str (Str.ofString "[ \\(\\)<>@,;:\\\\\"/\\[\\]\\?=]") 355, Value.int 32 386, Value.int 0 0, Value.none, Value.none, Value.ref 83, Value.int 0 0] }) ::
  (nat_lit 88, { cls := Value.type "tuple", data := Data.seq #[Value.int 14 0, Value.int 10 0, Value.int 4 0, Value.int 1 0, Value.int 1 0, Value.int 22 0, Value.int 0 0, Value.int 31 0, Value.int 16 0, Value.int 127 0, Value.int 0 0, Value.int 13 0, Value.int 7 0, Value.int 22 0, Value.int 0 0, Value.int 31 0, Value.int 16 0, Value.int 127 0, Value.int 0 0, Value.int 1 0] }) ::
  (nat_lit 89, { cls := Value.type "re.Pattern", data := Data.fields #[Value.str (Str.ofString "[\\x00-\\x1F\\x7F]") 389, Value.int 32 412, Value.int 0 0, Value.none, Value.none, Value.ref 88, Value.int 0 0] }) ::
  (nat_lit 93, { cls := Value.type "tuple", data := Data.seq #[Value.int 14 0, Value.int 14 0, Value.int 4 0, Value.int 1 0, Value.int 1 0, Value.int 9 0, Value.int 4294966783 0, Value.int 0 0, Value.int 0 0, Value.int 2147483648 0, Value.int 0 0, Value.int 0 0, Value.int 0 0, Value.int 0 0, Value.int 0 0, Value.int 13 0, Value.int 11 0, Value.int 9 0, Value.int 4294966783 0, Value.int 0 0, Value.int 0 0, Value.int 2147483648 0, Value.int 0 0, Value.int 0 0, Value.int 0 0, Value.int 0 0, Value.int 0 0, Value.int 1 0] }) ::
  (nat_lit 94, { cls := Value.type "re.Pattern", data := Data.fields #[Value.str (Str.ofString "[\\x00-\\x08\\x0A-\\x1F\\x7F]") 415, Value.int 32 446, Value.int 0 0, Value.none, Value.none, Value.ref 93, Value.int 0 0] }) ::
  (nat_lit 95, { cls := Value.type "tuple", data := Data.seq #[Value.none, Value.int 1 448] }) ::
  (nat_lit 96, { cls := Value.type "tuple", data := Data.seq #[] }) ::
  (nat_lit 98, { cls := Value.type "tuple", data := Data.seq #[Value.str (Str.ofString "param") 452, Value.str (Str.ofString "value") 453, Value.str (Str.ofString "quote") 454] }) ::
  (nat_lit 99, { cls := Value.type "tuple", data := Data.seq #[] }) ::
  (nat_lit 101, { cls := Value.type "code", data := Data.fields #[Value.str (Str.ofString "_formatparam") 449, Value.str (Str.ofString "_formatparam") 450, Value.str (Str.ofString "/claim/cut.py") 451, Value.int 68 0, Value.int 3 0, Value.int 0 0, Value.int 0 0, Value.int 3 0, Value.ref 96, Value.bool true, Value.int 276 0, Value.ref 97, Value.none, Value.ref 98, Value.ref 99, Value.ref 100, Value.int 455 0, Value.int 68 0, Value.str (Str.ofString "/claim/cut.py") 456] }) ::
  (nat_lit 102, { cls := Value.type "function", data := Data.func { name := Str.ofString "_formatparam", qualname := Str.ofString "_formatparam", params := (by refine' (?f19 : ∀ x : Arguments, (∃ K : Arguments, K = x) → Arguments) _ ?e19; (case e19 => (have e : ∃ K : Arguments, K = dArgs (topS 13) := ⟨_, rfl⟩; (conv at e => (enter [1, K, 2]; whnf)); exact e)); (case f19 => exact fun x _ => x)), body := FuncBody.stmts (by refine' (?f20 : ∀ x : List Stmt, (∃ K : List Stmt, K = x) → List Stmt) _ ?e20; (case e20 => (have e : ∃ K : List Stmt, K = dBody (topS 13) := ⟨_, rfl⟩; (conv at e => (enter [1, K, 2]; whnf)); exact e)); (case f20 => exact fun x _ => x)), scope := (by refine' (?f21 : ∀ x : Scope, (∃ K : Scope, K = x) → Scope) _ ?e21; (case e21 => (have e : ∃ K : Scope, K = dScope (topS 13) := ⟨_, rfl⟩; (conv at e => (enter [1, K, 2]; whnf)); exact e)); (case f21 => exact fun x _ => x)), globals := 3, closure := [], defaults := Value.ref 95, kwdefaults := Value.none, pyModule := Value.str (Str.ofString "cpy313.wsgiref.headers") 352, code := Value.ref 101 } }) ::
  (nat_lit 110, { cls := Value.type "tuple", data := Data.seq #[Value.none] }) ::
  (nat_lit 111, { cls := Value.type "tuple", data := Data.seq #[] }) ::
  (nat_lit 113, { cls := Value.type "tuple", data := Data.seq #[Value.str (Str.ofString "self") 473, Value.str (Str.ofString "headers") 474, Value.str (Str.ofString "k") 475, Value.str (Str.ofString "v") 476] }) ::
  (nat_lit 114, { cls := Value.type "tuple", data := Data.seq #[] }) ::
  (nat_lit 116, { cls := Value.type "code", data := Data.fields #[Value.str (Str.ofString "__init__") 470, Value.str (Str.ofString "Headers.__init__") 471, Value.str (Str.ofString "/claim/cut.py") 472, Value.int 79 0, Value.int 2 0, Value.int 0 0, Value.int 0 0, Value.int 3 0, Value.ref 111, Value.bool true, Value.int 276 0, Value.ref 112, Value.none, Value.ref 113, Value.ref 114, Value.ref 115, Value.int 477 0, Value.int 79 0, Value.str (Str.ofString "/claim/cut.py") 478] }) ::
  (nat_lit 117, { cls := Value.type "function", data := Data.func { name := Str.ofString "__init__", qualname := Str.ofString "Headers.__init__", params := (by refine' (?f22 : ∀ x : Arguments, (∃ K : Arguments, K = x) → Arguments) _ ?e22; (case e22 => (have e : ∃ K : Arguments, K = dArgs (clsS 0) := ⟨_, rfl⟩; (conv at e => (enter [1, K, 2]; whnf)); exact e)); (case f22 => exact fun x _ => x)), body := FuncBody.stmts (by refine' (?f23 : ∀ x : List Stmt, (∃ K : List Stmt, K = x) → List Stmt) _ ?e23; (case e23 => (have e : ∃ K : List Stmt, K = dBody (clsS 0) := ⟨_, rfl⟩; (conv at e => (enter [1, K, 2]; whnf)); exact e)); (case f23 => exact fun x _ => x)), scope := (by refine' (?f24 : ∀ x : Scope, (∃ K : Scope, K = x) → Scope) _ ?e24; (case e24 => (have e : ∃ K : Scope, K = dScope (clsS 0) := ⟨_, rfl⟩; (conv at e => (enter [1, K, 2]; whnf)); exact e)); (case f24 => exact fun x _ => x)), globals := 3, closure := [], defaults := Value.ref 110, kwdefaults := Value.none, pyModule := Value.str (Str.ofString "cpy313.wsgiref.headers") 352, code := Value.ref 116 } }) ::
  (nat_lit 118, { cls := Value.type "tuple", data := Data.seq #[] }) ::
  (nat_lit 120, { cls := Value.type "tuple", data := Data.seq #[Value.str (Str.ofString "self") 483, Value.str (Str.ofString "value") 484, Value.str (Str.ofString "name") 485, Value.str (Str.ofString "regex") 486] }) ::
  (nat_lit 121, { cls := Value.type "tuple", data := Data.seq #[] }) ::
  (nat_lit 123, { cls := Value.type "code", data := Data.fields #[Value.str (Str.ofString "_convert_string_type") 480, Value.str (Str.ofString "Headers._convert_string_type") 481, Value.str (Str.ofString "/claim/cut.py") 482, Value.int 89 0, Value.int 2 0, Value.int 0 0, Value.int 1 0, Value.int 3 0, Value.ref 118, Value.bool true, Value.int 276 0, Value.ref 119, Value.none, Value.ref 120, Value.ref 121, Value.ref 122, Value.int 487 0, Value.int 89 0, Value.str (Str.ofString "/claim/cut.py") 488] }) ::
  (nat_lit 124, { cls := Value.type "function", data := Data.func { name := Str.ofString "_convert_string_type", qualname := Str.ofString "Headers._convert_string_type", params := (by refine' (?f25 : ∀ x : Arguments, (∃ K : Arguments, K = x) → Arguments) _ ?e25; (case e25 => (have e : ∃ K : Arguments, K = dArgs (clsS 1) := ⟨_, rfl⟩; (conv at e => (enter [1, K, 2]; whnf)); exact e)); (case f25 => exact fun x _ => x)), body := FuncBody.stmts (by refine' (?f26 : ∀ x : List Stmt, (∃ K : List Stmt, K = x) → List Stmt) _ ?e26; (case e26 => (have e : ∃ K : List Stmt, K = dBody (clsS 1) := ⟨_, rfl⟩; (conv at e => (enter [1, K, 2]; whnf)); exact e)); (case f26 => exact fun x _ => x)), scope := (by refine' (?f27 : ∀ x : Scope, (∃ K : Scope, K = x) → Scope) _ ?e27; (case e27 => (have e : ∃ K : Scope, K = dScope (clsS 1) := ⟨_, rfl⟩; (conv at e => (enter [1, K, 2]; whnf)); exact e)); (case f27 => exact fun x _ => x)), globals := 3, closure := [], defaults := Value.none, kwdefaults := Value.none, pyModule := Value.str (Str.ofString "cpy313.wsgiref.headers") 352, code := Value.ref 123 } }) ::
  (nat_lit 125, { cls := Value.type "tuple", data := Data.seq #[] }) ::
  (nat_lit 127, { cls := Value.type "tuple", data := Data.seq #[Value.str (Str.ofString "self") 493] }) ::
  (nat_lit 128, { cls := Value.type "tuple", data := Data.seq #[] }) ::
  (nat_lit 130, { cls := Value.type "code", data := Data.fields #[Value.str (Str.ofString "__len__") 490, Value.str (Str.ofString "Headers.__len__") 491, Value.str (Str.ofString "/claim/cut.py") 492, Value.int 97 0, Value.int 1 0, Value.int 0 0, Value.int 0 0, Value.int 3 0, Value.ref 125, Value.bool true, Value.int 276 0, Value.ref 126, Value.none, Value.ref 127, Value.ref 128, Value.ref 129, Value.int 494 0, Value.int 97 0, Value.str (Str.ofString "/claim/cut.py") 495] }) ::
  (nat_lit 131, { cls := Value.type "function", data := Data.func { name := Str.ofString "__len__", qualname := Str.ofString "Headers.__len__", params := (by refine' (?f28 : ∀ x : Arguments, (∃ K : Arguments, K = x) → Arguments) _ ?e28; (case e28 => (have e : ∃ K : Arguments, K = dArgs (clsS 2) := ⟨_, rfl⟩; (conv at e => (enter [1, K, 2]; whnf)); exact e)); (case f28 => exact fun x _ => x)), body := FuncBody.stmts (by refine' (?f29 : ∀ x : List Stmt, (∃ K : List Stmt, K = x) → List Stmt) _ ?e29; (case e29 => (have e : ∃ K : List Stmt, K = dBody (clsS 2) := ⟨_, rfl⟩; (conv at e => (enter [1, K, 2]; whnf)); exact e)); (case f29 => exact fun x _ => x)), scope := (by refine' (?f30 : ∀ x : Scope, (∃ K : Scope, K = x) → Scope) _ ?e30; (case e30 => (have e : ∃ K : Scope, K = dScope (clsS 2) := ⟨_, rfl⟩; (conv at e => (enter [1, K, 2]; whnf)); exact e)); (case f30 => exact fun x _ => x)), globals := 3, closure := [], defaults := Value.none, kwdefaults := Value.none, pyModule := Value.str (Str.ofString "cpy313.wsgiref.headers") 352, code := Value.ref 130 } }) ::
  (nat_lit 132, { cls := Value.type "tuple", data := Data.seq #[] }) ::
  (nat_lit 134, { cls := Value.type "tuple", data := Data.seq #[Value.str (Str.ofString "self") 500, Value.str (Str.ofString "name") 501, Value.str (Str.ofString "val") 502] }) ::
  (nat_lit 135, { cls := Value.type "tuple", data := Data.seq #[] }) ::
  (nat_lit 137, { cls := Value.type "code", data := Data.fields #[Value.str (Str.ofString "__setitem__") 497, Value.str (Str.ofString "Headers.__setitem__") 498, Value.str (Str.ofString "/claim/cut.py") 499, Value.int 100 0, Value.int 3 0, Value.int 0 0, Value.int 0 0, Value.int 3 0, Value.ref 132, Value.bool true, Value.int 276 0, Value.ref 133, Value.none, Value.ref 134, Value.ref 135, Value.ref 136, Value.int 503 0, Value.int 100 0, Value.str (Str.ofString "/claim/cut.py") 504] }) ::
  (nat_lit 138, { cls := Value.type "function", data := Data.func { name := Str.ofString "__setitem__", qualname := Str.ofString "Headers.__setitem__", params := (by refine' (?f31 : ∀ x : Arguments, (∃ K : Arguments, K = x) → Arguments) _ ?e31; (case e31 => (have e : ∃ K : Arguments, K = dArgs (clsS 3) := ⟨_, rfl⟩; (conv at e => (enter [1, K, 2]; whnf)); exact e)); (case f31 => exact fun x _ => x)), body := FuncBody.stmts (by refine' (?f32 : ∀ x : List Stmt, (∃ K : List Stmt, K = x) → List Stmt) _ ?e32; (case e32 => (have e : ∃ K : List Stmt, K = dBody (clsS 3) := ⟨_, rfl⟩; (conv at e => (enter [1, K, 2]; whnf)); exact e)); (case f32 => exact fun x _ => x)), scope := (by refine' (?f33 : ∀ x : Scope, (∃ K : Scope, K = x) → Scope) _ ?e33; (case e33 => (have e : ∃ K : Scope, K = dScope (clsS 3) := ⟨_, rfl⟩; (conv at e => (enter [1, K, 2]; whnf)); exact e)); (case f33 => exact fun x _ => x)), globals := 3, closure := [], defaults := Value.none, kwdefaults := Value.none, pyModule := Value.str (Str.ofString "cpy313.wsgiref.headers") 352, code := Value.ref 137 } }) ::
  (nat_lit 139, { cls := Value.type "tuple", data := Data.seq #[] }) ::
  (nat_lit 142, { cls := Value.type "code", data := Data.fields #[Value.str (Str.ofString "__delitem__") 506, Value.str (Str.ofString "Headers.__delitem__") 507, Value.str (Str.ofString "/claim/cut.py") 508, Value.int 104 0, Value.int 2 0, Value.int 0 0, Value.int 0 0, Value.int 3 0, Value.ref 139, Value.bool true, Value.int 276 0, Value.ref 140, Value.none, Value.none, Value.none, Value.ref 141, Value.int 509 0, Value.int 104 0, Value.str (Str.ofString "/claim/cut.py") 510] }) ::
  (nat_lit 143, { cls := Value.type "function", data := Data.func { name := Str.ofString "__delitem__", qualname := Str.ofString "Headers.__delitem__", params := (by refine' (?f34 : ∀ x : Arguments, (∃ K : Arguments, K = x) → Arguments) _ ?e34; (case e34 => (have e : ∃ K : Arguments, K = dArgs (clsS 4) := ⟨_, rfl⟩; (conv at e => (enter [1, K, 2]; whnf)); exact e)); (case f34 => exact fun x _ => x)), body := FuncBody.stmts (by refine' (?f35 : ∀ x : List Stmt, (∃ K : List Stmt, K = x) → List Stmt) _ ?e35; (case e35 => (have e : ∃ K : List Stmt, K = dBody (clsS 4) := ⟨_, rfl⟩; (conv at e => (enter [1, K, 2]; whnf)); exact e)); (case f35 => exact fun x _ => x)), scope := (by refine' (?f36 : ∀ x : Scope, (∃ K : Scope, K = x) → Scope) _ ?e36; (case e36 => (have e : ∃ K : Scope, K = dScope (clsS 4) := ⟨_, rfl⟩; (conv at e => (enter [1, K, 2]; whnf)); exact e)); (case f36 => exact fun x _ => x)), globals := 3, closure := [], defaults := Value.none, kwdefaults := Value.none, pyModule := Value.str (Str.ofString "cpy313.wsgiref.headers") 352, code := Value.ref 142 } }) ::
  (nat_lit 144, { cls := Value.type "tuple", data := Data.seq #[] }) ::
  (nat_lit 146, { cls := Value.type "tuple", data := Data.seq #[Value.str (Str.ofString "self") 515, Value.str (Str.ofString "name") 516] }) ::
  (nat_lit 147, { cls := Value.type "tuple", data := Data.seq #[] }) ::
  (nat_lit 149, { cls := Value.type "code", data := Data.fields #[Value.str (Str.ofString "__getitem__") 512, Value.str (Str.ofString "Headers.__getitem__") 513, Value.str (Str.ofString "/claim/cut.py") 514, Value.int 108 0, Value.int 2 0, Value.int 0 0, Value.int 0 0, Value.int 3 0, Value.ref 144, Value.bool true, Value.int 276 0, Value.ref 145, Value.none, Value.ref 146, Value.ref 147, Value.ref 148, Value.int 517 0, Value.int 108 0, Value.str (Str.ofString "/claim/cut.py") 518] }) ::
  (nat_lit 150, { cls := Value.type "function", data := Data.func { name := Str.ofString "__getitem__", qualname := Str.ofString "Headers.__getitem__", params := (by refine' (?f37 : ∀ x : Arguments, (∃ K : Arguments, K = x) → Arguments) _ ?e37; (case e37 => (have e : ∃ K : Arguments, K = dArgs (clsS 5) := ⟨_, rfl⟩; (conv at e => (enter [1, K, 2]; whnf)); exact e)); (case f37 => exact fun x _ => x)), body := FuncBody.stmts (by refine' (?f38 : ∀ x : List Stmt, (∃ K : List Stmt, K = x) → List Stmt) _ ?e38; (case e38 => (have e : ∃ K : List Stmt, K = dBody (clsS 5) := ⟨_, rfl⟩; (conv at e => (enter [1, K, 2]; whnf)); exact e)); (case f38 => exact fun x _ => x)), scope := (by refine' (?f39 : ∀ x : Scope, (∃ K : Scope, K = x) → Scope) _ ?e39; (case e39 => (have e : ∃ K : Scope, K = dScope (clsS 5) := ⟨_, rfl⟩; (conv at e => (enter [1, K, 2]; whnf)); exact e)); (case f39 => exact fun x _ => x)), globals := 3, closure := [], defaults := Value.none, kwdefaults := Value.none, pyModule := Value.str (Str.ofString "cpy313.wsgiref.headers") 352, code := Value.ref 149 } }) ::
  (nat_lit 151, { cls := Value.type "tuple", data := Data.seq #[] }) ::
  (nat_lit 153, { cls := Value.type "tuple", data := Data.seq #[Value.str (Str.ofString "self") 523, Value.str (Str.ofString "name") 524] }) ::
  (nat_lit 154, { cls := Value.type "tuple", data := Data.seq #[] }) ::
  (nat_lit 156, { cls := Value.type "code", data := Data.fields #[Value.str (Str.ofString "__contains__") 520, Value.str (Str.ofString "Headers.__contains__") 521, Value.str (Str.ofString "/claim/cut.py") 522, Value.int 111 0, Value.int 2 0, Value.int 0 0, Value.int 0 0, Value.int 3 0, Value.ref 151, Value.bool true, Value.int 276 0, Value.ref 152, Value.none, Value.ref 153, Value.ref 154, Value.ref 155, Value.int 525 0, Value.int 111 0, Value.str (Str.ofString "/claim/cut.py") 526] }) ::
  (nat_lit 157, { cls := Value.type "function", data := Data.func { name := Str.ofString "__contains__", qualname := Str.ofString "Headers.__contains__", params := (by refine' (?f40 : ∀ x : Arguments, (∃ K : Arguments, K = x) → Arguments) _ ?e40; (case e40 => (have e : ∃ K : Arguments, K = dArgs (clsS 6) := ⟨_, rfl⟩; (conv at e => (enter [1, K, 2]; whnf)); exact e)); (case f40 => exact fun x _ => x)), body := FuncBody.stmts (by refine' (?f41 : ∀ x : List Stmt, (∃ K : List Stmt, K = x) → List Stmt) _ ?e41; (case e41 => (have e : ∃ K : List Stmt, K = dBody (clsS 6) := ⟨_, rfl⟩; (conv at e => (enter [1, K, 2]; whnf)); exact e)); (case f41 => exact fun x _ => x)), scope := (by refine' (?f42 : ∀ x : Scope, (∃ K : Scope, K = x) → Scope) _ ?e42; (case e42 => (have e : ∃ K : Scope, K = dScope (clsS 6) := ⟨_, rfl⟩; (conv at e => (enter [1, K, 2]; whnf)); exact e)); (case f42 => exact fun x _ => x)), globals := 3, closure := [], defaults := Value.none, kwdefaults := Value.none, pyModule := Value.str (Str.ofString "cpy313.wsgiref.headers") 352, code := Value.ref 156 } }) ::
  (nat_lit 158, { cls := Value.type "tuple", data := Data.seq #[] }) ::
  (nat_lit 161, { cls := Value.type "code", data := Data.fields #[Value.str (Str.ofString "get_all") 528, Value.str (Str.ofString "Headers.get_all") 529, Value.str (Str.ofString "/claim/cut.py") 530, Value.int 114 0, Value.int 2 0, Value.int 0 0, Value.int 0 0, Value.int 3 0, Value.ref 158, Value.bool true, Value.int 276 0, Value.ref 159, Value.none, Value.none, Value.none, Value.ref 160, Value.int 531 0, Value.int 114 0, Value.str (Str.ofString "/claim/cut.py") 532] }) ::
  (nat_lit 162, { cls := Value.type "function", data := Data.func { name := Str.ofString "get_all", qualname := Str.ofString "Headers.get_all", params := (by refine' (?f43 : ∀ x : Arguments, (∃ K : Arguments, K = x) → Arguments) _ ?e43; (case e43 => (have e : ∃ K : Arguments, K = dArgs (clsS 7) := ⟨_, rfl⟩; (conv at e => (enter [1, K, 2]; whnf)); exact e)); (case f43 => exact fun x _ => x)), body := FuncBody.stmts (by refine' (?f44 : ∀ x : List Stmt, (∃ K : List Stmt, K = x) → List Stmt) _ ?e44; (case e44 => (have e : ∃ K : List Stmt, K = dBody (clsS 7) := ⟨_, rfl⟩; (conv at e => (enter [1, K, 2]; whnf)); exact e)); (case f44 => exact fun x _ => x)), scope := (by refine' (?f45 : ∀ x : Scope, (∃ K : Scope, K = x) → Scope) _ ?e45; (case e45 => (have e : ∃ K : Scope, K = dScope (clsS 7) := ⟨_, rfl⟩; (conv at e => (enter [1, K, 2]; whnf)); exact e)); (case f45 => exact fun x _ => x)), globals := 3, closure := [], defaults := Value.none, kwdefaults := Value.none, pyModule := Value.str (Str.ofString "cpy313.wsgiref.headers") 352, code := Value.ref 161 } }) ::
  (nat_lit 163, { cls := Value.type "tuple", data := Data.seq #[Value.none] }) ::
  (nat_lit 164, { cls := Value.type "tuple", data := Data.seq #[] }) ::
  (nat_lit 166, { cls := Value.type "tuple", data := Data.seq #[Value.str (Str.ofString "self") 537, Value.str (Str.ofString "name") 538, Value.str (Str.ofString "default") 539, Value.str (Str.ofString "k") 540, Value.str (Str.ofString "v") 541] }) ::
  (nat_lit 167, { cls := Value.type "tuple", data := Data.seq #[] }) ::
  (nat_lit 169, { cls := Value.type "code", data := Data.fields #[Value.str (Str.ofString "get") 534, Value.str (Str.ofString "Headers.get") 535, Value.str (Str.ofString "/claim/cut.py") 536, Value.int 118 0, Value.int 3 0, Value.int 0 0, Value.int 0 0, Value.int 3 0, Value.ref 164, Value.bool true, Value.int 276 0, Value.ref 165, Value.none, Value.ref 166, Value.ref 167, Value.ref 168, Value.int 542 0, Value.int 118 0, Value.str (Str.ofString "/claim/cut.py") 543] }) ::
  (nat_lit 170, { cls := Value.type "function", data := Data.func { name := Str.ofString "get", qualname := Str.ofString "Headers.get", params := (by refine' (?f46 : ∀ x : Arguments, (∃ K : Arguments, K = x) → Arguments) _ ?e46; (case e46 => (have e : ∃ K : Arguments, K = dArgs (clsS 8) := ⟨_, rfl⟩; (conv at e => (enter [1, K, 2]; whnf)); exact e)); (case f46 => exact fun x _ => x)), body := FuncBody.stmts (by refine' (?f47 : ∀ x : List Stmt, (∃ K : List Stmt, K = x) → List Stmt) _ ?e47; (case e47 => (have e : ∃ K : List Stmt, K = dBody (clsS 8) := ⟨_, rfl⟩; (conv at e => (enter [1, K, 2]; whnf)); exact e)); (case f47 => exact fun x _ => x)), scope := (by refine' (?f48 : ∀ x : Scope, (∃ K : Scope, K = x) → Scope) _ ?e48; (case e48 => (have e : ∃ K : Scope, K = dScope (clsS 8) := ⟨_, rfl⟩; (conv at e => (enter [1, K, 2]; whnf)); exact e)); (case f48 => exact fun x _ => x)), globals := 3, closure := [], defaults := Value.ref 163, kwdefaults := Value.none, pyModule := Value.str (Str.ofString "cpy313.wsgiref.headers") 352, code := Value.ref 169 } }) ::
  (nat_lit 171, { cls := Value.type "tuple", data := Data.seq #[] }) ::
  (nat_lit 174, { cls := Value.type "code", data := Data.fields #[Value.str (Str.ofString "keys") 545, Value.str (Str.ofString "Headers.keys") 546, Value.str (Str.ofString "/claim/cut.py") 547, Value.int 125 0, Value.int 1 0, Value.int 0 0, Value.int 0 0, Value.int 3 0, Value.ref 171, Value.bool true, Value.int 276 0, Value.ref 172, Value.none, Value.none, Value.none, Value.ref 173, Value.int 548 0, Value.int 125 0, Value.str (Str.ofString "/claim/cut.py") 549] }) ::
  (nat_lit 175, { cls := Value.type "function", data := Data.func { name := Str.ofString "keys", qualname := Str.ofString "Headers.keys", params := (by refine' (?f49 : ∀ x : Arguments, (∃ K : Arguments, K = x) → Arguments) _ ?e49; (case e49 => (have e : ∃ K : Arguments, K = dArgs (clsS 9) := ⟨_, rfl⟩; (conv at e => (enter [1, K, 2]; whnf)); exact e)); (case f49 => exact fun x _ => x)), body := FuncBody.stmts (by refine' (?f50 : ∀ x : List Stmt, (∃ K : List Stmt, K = x) → List Stmt) _ ?e50; (case e50 => (have e : ∃ K : List Stmt, K = dBody (clsS 9) := ⟨_, rfl⟩; (conv at e => (enter [1, K, 2]; whnf)); exact e)); (case f50 => exact fun x _ => x)), scope := (by refine' (?f51 : ∀ x : Scope, (∃ K : Scope, K = x) → Scope) _ ?e51; (case e51 => (have e : ∃ K : Scope, K = dScope (clsS 9) := ⟨_, rfl⟩; (conv at e => (enter [1, K, 2]; whnf)); exact e)); (case f51 => exact fun x _ => x)), globals := 3, closure := [], defaults := Value.none, kwdefaults := Value.none, pyModule := Value.str (Str.ofString "cpy313.wsgiref.headers") 352, code := Value.ref 174 } }) ::
  (nat_lit 176, { cls := Value.type "tuple", data := Data.seq #[] }) ::
  (nat_lit 179, { cls := Value.type "code", data := Data.fields #[Value.str (Str.ofString "values") 551, Value.str (Str.ofString "Headers.values") 552, Value.str (Str.ofString "/claim/cut.py") 553, Value.int 128 0, Value.int 1 0, Value.int 0 0, Value.int 0 0, Value.int 3 0, Value.ref 176, Value.bool true, Value.int 276 0, Value.ref 177, Value.none, Value.none, Value.none, Value.ref 178, Value.int 554 0, Value.int 128 0, Value.str (Str.ofString "/claim/cut.py") 555] }) ::
  (nat_lit 180, { cls := Value.type "function", data := Data.func { name := Str.ofString "values", qualname := Str.ofString "Headers.values", params := (by refine' (?f52 : ∀ x : Arguments, (∃ K : Arguments, K = x) → Arguments) _ ?e52; (case e52 => (have e : ∃ K : Arguments, K = dArgs (clsS 10) := ⟨_, rfl⟩; (conv at e => (enter [1, K, 2]; whnf)); exact e)); (case f52 => exact fun x _ => x)), body := FuncBody.stmts (by refine' (?f53 : ∀ x : List Stmt, (∃ K : List Stmt, K = x) → List Stmt) _ ?e53; (case e53 => (have e : ∃ K : List Stmt, K = dBody (clsS 10) := ⟨_, rfl⟩; (conv at e => (enter [1, K, 2]; whnf)); exact e)); (case f53 => exact fun x _ => x)), scope := (by refine' (?f54 : ∀ x : Scope, (∃ K : Scope, K = x) → Scope) _ ?e54; (case e54 => (have e : ∃ K : Scope, K = dScope (clsS 10) := ⟨_, rfl⟩; (conv at e => (enter [1, K, 2]; whnf)); exact e)); (case f54 => exact fun x _ => x)), globals := 3, closure := [], defaults := Value.none, kwdefaults := Value.none, pyModule := Value.str (Str.ofString "cpy313.wsgiref.headers") 352, code := Value.ref 179 } }) ::
  (nat_lit 181, { cls := Value.type "tuple", data := Data.seq #[] }) ::
  (nat_lit 183, { cls := Value.type "tuple", data := Data.seq #[Value.str (Str.ofString "self") 560] }) ::
  (nat_lit 184, { cls := Value.type "tuple", data := Data.seq #[] }) ::
  (nat_lit 186, { cls := Value.type "code", data := Data.fields #[Value.str (Str.ofString "items") 557, Value.str (Str.ofString "Headers.items") 558, Value.str (Str.ofString "/claim/cut.py") 559, Value.int 131 0, Value.int 1 0, Value.int 0 0, Value.int 0 0, Value.int 3 0, Value.ref 181, Value.bool true, Value.int 276 0, Value.ref 182, Value.none, Value.ref 183, Value.ref 184, Value.ref 185, Value.int 561 0, Value.int 131 0, Value.str (Str.ofString "/claim/cut.py") 562] }) ::
  (nat_lit 187, { cls := Value.type "function", data := Data.func { name := Str.ofString "items", qualname := Str.ofString "Headers.items", params := (by refine' (?f55 : ∀ x : Arguments, (∃ K : Arguments, K = x) → Arguments) _ ?e55; (case e55 => (have e : ∃ K : Arguments, K = dArgs (clsS 11) := ⟨_, rfl⟩; (conv at e => (enter [1, K, 2]; whnf)); exact e)); (case f55 => exact fun x _ => x)), body := FuncBody.stmts (by refine' (?f56 : ∀ x : List Stmt, (∃ K : List Stmt, K = x) → List Stmt) _ ?e56; (case e56 => (have e : ∃ K : List Stmt, K = dBody (clsS 11) := ⟨_, rfl⟩; (conv at e => (enter [1, K, 2]; whnf)); exact e)); (case f56 => exact fun x _ => x)), scope := (by refine' (?f57 : ∀ x : Scope, (∃ K : Scope, K = x) → Scope) _ ?e57; (case e57 => (have e : ∃ K : Scope, K = dScope (clsS 11) := ⟨_, rfl⟩; (conv at e => (enter [1, K, 2]; whnf)); exact e)); (case f57 => exact fun x _ => x)), globals := 3, closure := [], defaults := Value.none, kwdefaults := Value.none, pyModule := Value.str (Str.ofString "cpy313.wsgiref.headers") 352, code := Value.ref 186 } }) ::
  (nat_lit 188, { cls := Value.type "tuple", data := Data.seq #[] }) ::
  (nat_lit 190, { cls := Value.type "tuple", data := Data.seq #[Value.str (Str.ofString "self") 567] }) ::
  (nat_lit 191, { cls := Value.type "tuple", data := Data.seq #[] }) ::
  (nat_lit 193, { cls := Value.type "code", data := Data.fields #[Value.str (Str.ofString "__repr__") 564, Value.str (Str.ofString "Headers.__repr__") 565, Value.str (Str.ofString "/claim/cut.py") 566, Value.int 134 0, Value.int 1 0, Value.int 0 0, Value.int 0 0, Value.int 3 0, Value.ref 188, Value.bool true, Value.int 276 0, Value.ref 189, Value.none, Value.ref 190, Value.ref 191, Value.ref 192, Value.int 568 0, Value.int 134 0, Value.str (Str.ofString "/claim/cut.py") 569] }) ::
  (nat_lit 194, { cls := Value.type "function", data := Data.func { name := Str.ofString "__repr__", qualname := Str.ofString "Headers.__repr__", params := (by refine' (?f58 : ∀ x : Arguments, (∃ K : Arguments, K = x) → Arguments) _ ?e58; (case e58 => (have e : ∃ K : Arguments, K = dArgs (clsS 12) := ⟨_, rfl⟩; (conv at e => (enter [1, K, 2]; whnf)); exact e)); (case f58 => exact fun x _ => x)), body := FuncBody.stmts (by refine' (?f59 : ∀ x : List Stmt, (∃ K : List Stmt, K = x) → List Stmt) _ ?e59; (case e59 => (have e : ∃ K : List Stmt, K = dBody (clsS 12) := ⟨_, rfl⟩; (conv at e => (enter [1, K, 2]; whnf)); exact e)); (case f59 => exact fun x _ => x)), scope := (by refine' (?f60 : ∀ x : Scope, (∃ K : Scope, K = x) → Scope) _ ?e60; (case e60 => (have e : ∃ K : Scope, K = dScope (clsS 12) := ⟨_, rfl⟩; (conv at e => (enter [1, K, 2]; whnf)); exact e)); (case f60 => exact fun x _ => x)), globals := 3, closure := [], defaults := Value.none, kwdefaults := Value.none, pyModule := Value.str (Str.ofString "cpy313.wsgiref.headers") 352, code := Value.ref 193 } }) ::
  (nat_lit 195, { cls := Value.type "tuple", data := Data.seq #[] }) ::
  (nat_lit 198, { cls := Value.type "code", data := Data.fields #[Value.str (Str.ofString "__str__") 571, Value.str (Str.ofString "Headers.__str__") 572, Value.str (Str.ofString "/claim/cut.py") 573, Value.int 137 0, Value.int 1 0, Value.int 0 0, Value.int 0 0, Value.int 3 0, Value.ref 195, Value.bool true, Value.int 276 0, Value.ref 196, Value.none, Value.none, Value.none, Value.ref 197, Value.int 574 0, Value.int 137 0, Value.str (Str.ofString "/claim/cut.py") 575] }) ::
  (nat_lit 199, { cls := Value.type "function", data := Data.func { name := Str.ofString "__str__", qualname := Str.ofString "Headers.__str__", params := (by refine' (?f61 : ∀ x : Arguments, (∃ K : Arguments, K = x) → Arguments) _ ?e61; (case e61 => (have e : ∃ K : Arguments, K = dArgs (clsS 13) := ⟨_, rfl⟩; (conv at e => (enter [1, K, 2]; whnf)); exact e)); (case f61 => exact fun x _ => x)), body := FuncBody.stmts (by refine' (?f62 : ∀ x : List Stmt, (∃ K : List Stmt, K = x) → List Stmt) _ ?e62; (case e62 => (have e : ∃ K : List Stmt, K = dBody (clsS 13) := ⟨_, rfl⟩; (conv at e => (enter [1, K, 2]; whnf)); exact e)); (case f62 => exact fun x _ => x)), scope := (by refine' (?f63 : ∀ x : Scope, (∃ K : Scope, K = x) → Scope) _ ?e63; (case e63 => (have e : ∃ K : Scope, K = dScope (clsS 13) := ⟨_, rfl⟩; (conv at e => (enter [1, K, 2]; whnf)); exact e)); (case f63 => exact fun x _ => x)), globals := 3, closure := [], defaults := Value.none, kwdefaults := Value.none, pyModule := Value.str (Str.ofString "cpy313.wsgiref.headers") 352, code := Value.ref 198 } }) ::
  (nat_lit 200, { cls := Value.type "tuple", data := Data.seq #[] }) ::
  (nat_lit 202, { cls := Value.type "tuple", data := Data.seq #[Value.str (Str.ofString "self") 580] }) ::
  (nat_lit 203, { cls := Value.type "tuple", data := Data.seq #[] }) ::
  (nat_lit 205, { cls := Value.type "code", data := Data.fields #[Value.str (Str.ofString "__bytes__") 577, Value.str (Str.ofString "Headers.__bytes__") 578, Value.str (Str.ofString "/claim/cut.py") 579, Value.int 140 0, Value.int 1 0, Value.int 0 0, Value.int 0 0, Value.int 3 0, Value.ref 200, Value.bool true, Value.int 276 0, Value.ref 201, Value.none, Value.ref 202, Value.ref 203, Value.ref 204, Value.int 581 0, Value.int 140 0, Value.str (Str.ofString "/claim/cut.py") 582] }) ::
  (nat_lit 206, { cls := Value.type "function", data := Data.func { name := Str.ofString "__bytes__", qualname := Str.ofString "Headers.__bytes__", params := (by refine' (?f64 : ∀ x : Arguments, (∃ K : Arguments, K = x) → Arguments) _ ?e64; (case e64 => (have e : ∃ K : Arguments, K = dArgs (clsS 14) := ⟨_, rfl⟩; (conv at e => (enter [1, K, 2]; whnf)); exact e)); (case f64 => exact fun x _ => x)), body := FuncBody.stmts (by refine' (?f65 : ∀ x : List Stmt, (∃ K : List Stmt, K = x) → List Stmt) _ ?e65; (case e65 => (have e : ∃ K : List Stmt, K = dBody (clsS 14) := ⟨_, rfl⟩; (conv at e => (enter [1, K, 2]; whnf)); exact e)); (case f65 => exact fun x _ => x)), scope := (by refine' (?f66 : ∀ x : Scope, (∃ K : Scope, K = x) → Scope) _ ?e66; (case e66 => (have e : ∃ K : Scope, K = dScope (clsS 14) := ⟨_, rfl⟩; (conv at e => (enter [1, K, 2]; whnf)); exact e)); (case f66 => exact fun x _ => x)), globals := 3, closure := [], defaults := Value.none, kwdefaults := Value.none, pyModule := Value.str (Str.ofString "cpy313.wsgiref.headers") 352, code := Value.ref 205 } }) ::
  (nat_lit 207, { cls := Value.type "tuple", data := Data.seq #[] }) ::
  (nat_lit 209, { cls := Value.type "tuple", data := Data.seq #[Value.str (Str.ofString "self") 587, Value.str (Str.ofString "name") 588, Value.str (Str.ofString "value") 589] }) ::
  (nat_lit 210, { cls := Value.type "tuple", data := Data.seq #[] }) ::
  (nat_lit 212, { cls := Value.type "code", data := Data.fields #[Value.str (Str.ofString "setdefault") 584, Value.str (Str.ofString "Headers.setdefault") 585, Value.str (Str.ofString "/claim/cut.py") 586, Value.int 143 0, Value.int 3 0, Value.int 0 0, Value.int 0 0, Value.int 3 0, Value.ref 207, Value.bool true, Value.int 276 0, Value.ref 208, Value.none, Value.ref 209, Value.ref 210, Value.ref 211, Value.int 590 0, Value.int 143 0, Value.str (Str.ofString "/claim/cut.py") 591] }) ::
  (nat_lit 213, { cls := Value.type "function", data := Data.func { name := Str.ofString "setdefault", qualname := Str.ofString "Headers.setdefault", params := (by refine' (?f67 : ∀ x : Arguments, (∃ K : Arguments, K = x) → Arguments) _ ?e67; (case e67 => (have e : ∃ K : Arguments, K = dArgs (clsS 15) := ⟨_, rfl⟩; (conv at e => (enter [1, K, 2]; whnf)); exact e)); (case f67 => exact fun x _ => x)), body := FuncBody.stmts (by refine' (?f68 : ∀ x : List Stmt, (∃ K : List Stmt, K = x) → List Stmt) _ ?e68; (case e68 => (have e : ∃ K : List Stmt, K = dBody (clsS 15) := ⟨_, rfl⟩; (conv at e => (enter [1, K, 2]; whnf)); exact e)); (case f68 => exact fun x _ => x)), scope := (by refine' (?f69 : ∀ x : Scope, (∃ K : Scope, K = x) → Scope) _ ?e69; (case e69 => (have e : ∃ K : Scope, K = dScope (clsS 15) := ⟨_, rfl⟩; (conv at e => (enter [1, K, 2]; whnf)); exact e)); (case f69 => exact fun x _ => x)), globals := 3, closure := [], defaults := Value.none, kwdefaults := Value.none, pyModule := Value.str (Str.ofString "cpy313.wsgiref.headers") 352, code := Value.ref 212 } }) ::
  (nat_lit 214, { cls := Value.type "tuple", data := Data.seq #[] }) ::
  (nat_lit 216, { cls := Value.type "tuple", data := Data.seq #[Value.str (Str.ofString "self") 596, Value.str (Str.ofString "_name") 597, Value.str (Str.ofString "_value") 598, Value.str (Str.ofString "_params") 599, Value.str (Str.ofString "parts") 600, Value.str (Str.ofString "k") 601, Value.str (Str.ofString "v") 602] }) ::
  (nat_lit 217, { cls := Value.type "tuple", data := Data.seq #[] }) ::
  (nat_lit 219, { cls := Value.type "code", data := Data.fields #[Value.str (Str.ofString "add_header") 593, Value.str (Str.ofString "Headers.add_header") 594, Value.str (Str.ofString "/claim/cut.py") 595, Value.int 146 0, Value.int 3 0, Value.int 0 0, Value.int 0 0, Value.int 11 0, Value.ref 214, Value.bool true, Value.int 276 0, Value.ref 215, Value.none, Value.ref 216, Value.ref 217, Value.ref 218, Value.int 603 0, Value.int 146 0, Value.str (Str.ofString "/claim/cut.py") 604] }) ::
  (nat_lit 220, { cls := Value.type "function", data := Data.func { name := Str.ofString "add_header", qualname := Str.ofString "Headers.add_header", params := (by refine' (?f70 : ∀ x : Arguments, (∃ K : Arguments, K = x) → Arguments) _ ?e70; (case e70 => (have e : ∃ K : Arguments, K = dArgs (clsS 16) := ⟨_, rfl⟩; (conv at e => (enter [1, K, 2]; whnf)); exact e)); (case f70 => exact fun x _ => x)), body := FuncBody.stmts (by refine' (?f71 : ∀ x : List Stmt, (∃ K : List Stmt, K = x) → List Stmt) _ ?e71; (case e71 => (have e : ∃ K : List Stmt, K = dBody (clsS 16) := ⟨_, rfl⟩; (conv at e => (enter [1, K, 2]; whnf)); exact e)); (case f71 => exact fun x _ => x)), scope := (by refine' (?f72 : ∀ x : Scope, (∃ K : Scope, K = x) → Scope) _ ?e72; (case e72 => (have e : ∃ K : Scope, K = dScope (clsS 16) := ⟨_, rfl⟩; (conv at e => (enter [1, K, 2]; whnf)); exact e)); (case f72 => exact fun x _ => x)), globals := 3, closure := [], defaults := Value.none, kwdefaults := Value.none, pyModule := Value.str (Str.ofString "cpy313.wsgiref.headers") 352, code := Value.ref 219 } }) ::
  (nat_lit 221, { cls := Value.type "tuple", data := Data.seq #[Value.str (Str.ofString "_headers") 606] }) ::
  (nat_lit 222, { cls := Value.type "dict", data := Data.dict #[{ hash := PyData.keyHash P (Str.ofString "__module__"), key := Value.str (Str.ofString "__module__") 465, val := Value.str (Str.ofString "cpy313.wsgiref.headers") 352 }, { hash := PyData.keyHash P (Str.ofString "__firstlineno__"), key := Value.str (Str.ofString "__firstlineno__") 469, val := Value.int 77 468 }, { hash := PyData.keyHash P (Str.ofString "__init__"), key := Value.str (Str.ofString "__init__") 479, val := Value.ref 117 }, { hash := PyData.keyHash P (Str.ofString "_convert_string_type"), key := Value.str (Str.ofString "_convert_string_type") 489, val := Value.ref 124 }, { hash := PyData.keyHash P (Str.ofString "__len__"), key := Value.str (Str.ofString "__len__") 496, val := Value.ref 131 }, { hash := PyData.keyHash P (Str.ofString "__setitem__"), key := Value.str (Str.ofString "__setitem__") 505, val := Value.ref 138 }, { hash := PyData.keyHash P (Str.ofString "__delitem__"), key := Value.str (Str.ofString "__delitem__") 511, val := Value.ref 143 }, { hash := PyData.keyHash P (Str.ofString "__getitem__"), key := Value.str (Str.ofString "__getitem__") 519, val := Value.ref 150 }, { hash := PyData.keyHash P (Str.ofString "__contains__"), key := Value.str (Str.ofString "__contains__") 527, val := Value.ref 157 }, { hash := PyData.keyHash P (Str.ofString "get_all"), key := Value.str (Str.ofString "get_all") 533, val := Value.ref 162 }, { hash := PyData.keyHash P (Str.ofString "get"), key := Value.str (Str.ofString "get") 544, val := Value.ref 170 }, { hash := PyData.keyHash P (Str.ofString "keys"), key := Value.str (Str.ofString "keys") 550, val := Value.ref 175 }, { hash := PyData.keyHash P (Str.ofString "values"), key := Value.str (Str.ofString "values") 556, val := Value.ref 180 }, { hash := PyData.keyHash P (Str.ofString "items"), key := Value.str (Str.ofString "items") 563, val := Value.ref 187 }, { hash := PyData.keyHash P (Str.ofString "__repr__"), key := Value.str (Str.ofString "__repr__") 570, val := Value.ref 194 }, { hash := PyData.keyHash P (Str.ofString "__str__"), key := Value.str (Str.ofString "__str__") 576, val := Value.ref 199 }, { hash := PyData.keyHash P (Str.ofString "__bytes__"), key := Value.str (Str.ofString "__bytes__") 583, val := Value.ref 206 }, { hash := PyData.keyHash P (Str.ofString "setdefault"), key := Value.str (Str.ofString "setdefault") 592, val := Value.ref 213 }, { hash := PyData.keyHash P (Str.ofString "add_header"), key := Value.str (Str.ofString "add_header") 605, val := Value.ref 220 }, { hash := PyData.keyHash P (Str.ofString "__static_attributes__"), key := Value.str (Str.ofString "__static_attributes__") 607, val := Value.ref 221 }, { hash := PyData.keyHash P (Str.ofString "__dict__"), key := Value.str (Str.ofString "__dict__") 609, val := Value.ref 224 }, { hash := PyData.keyHash P (Str.ofString "__weakref__"), key := Value.str (Str.ofString "__weakref__") 611, val := Value.ref 225 }, { hash := PyData.keyHash P (Str.ofString "__doc__"), key := Value.str (Str.ofString "__doc__") 612, val := Value.none }] 4 }) ::
  (nat_lit 223, { cls := Value.type "type", data := Data.cls { name := Str.ofString "Headers", bases := [Value.type "object"], mro := [Value.ref 223, Value.type "object"], ns := 222, qualname := Str.ofString "Headers" }, slots := #[none, none, some (Value.str (Str.ofString "Headers") 458), some (Value.str (Str.ofString "Headers") 466), some (Value.builtin "object.__new__"), some (Value.bool true)] }) ::
  (nat_lit 224, { cls := Value.type "getset_descriptor", data := Data.fields #[Value.str (Str.ofString "__dict__") 608, Value.ref 223, Value.builtin "function.__dict__", Value.builtin "function.__dict__#set"] }) ::
  (nat_lit 225, { cls := Value.type "getset_descriptor", data := Data.fields #[Value.str (Str.ofString "__weakref__") 610, Value.ref 223, Value.builtin "ExceptionGroup.__weakref__", Value.none] }) ::
  (nat_lit 228, { cls := Value.type "tuple", data := Data.seq #[] }) ::
  (nat_lit 231, { cls := Value.type "code", data := Data.fields #[Value.str (Str.ofString "_law_words") 617, Value.str (Str.ofString "_law_words") 618, Value.str (Str.ofString "/claim/cut.py") 619, Value.int 160 0, Value.int 1 0, Value.int 0 0, Value.int 0 0, Value.int 3 0, Value.ref 228, Value.bool true, Value.int 276 0, Value.ref 229, Value.none, Value.none, Value.none, Value.ref 230, Value.int 620 0, Value.int 160 0, Value.str (Str.ofString "/claim/cut.py") 621] }) ::
  (nat_lit 232, { cls := Value.type "function", data := Data.func { name := Str.ofString "_law_words", qualname := Str.ofString "_law_words", params := (by refine' (?f73 : ∀ x : Arguments, (∃ K : Arguments, K = x) → Arguments) _ ?e73; (case e73 => (have e : ∃ K : Arguments, K = dArgs (topS 16) := ⟨_, rfl⟩; (conv at e => (enter [1, K, 2]; whnf)); exact e)); (case f73 => exact fun x _ => x)), body := FuncBody.stmts (by refine' (?f74 : ∀ x : List Stmt, (∃ K : List Stmt, K = x) → List Stmt) _ ?e74; (case e74 => (have e : ∃ K : List Stmt, K = dBody (topS 16) := ⟨_, rfl⟩; (conv at e => (enter [1, K, 2]; whnf)); exact e)); (case f74 => exact fun x _ => x)), scope := (by refine' (?f75 : ∀ x : Scope, (∃ K : Scope, K = x) → Scope) _ ?e75; (case e75 => (have e : ∃ K : Scope, K = dScope (topS 16) := ⟨_, rfl⟩; (conv at e => (enter [1, K, 2]; whnf)); exact e)); (case f75 => exact fun x _ => x)), globals := 3, closure := [], defaults := Value.none, kwdefaults := Value.none, pyModule := Value.str (Str.ofString "law_pm0061_01") 615, code := Value.ref 231 } }) ::
  (nat_lit 233, { cls := Value.type "tuple", data := Data.seq #[] }) ::
  (nat_lit 235, { cls := Value.type "tuple", data := Data.seq #[Value.str (Str.ofString "word") 626] }) ::
  (nat_lit 236, { cls := Value.type "tuple", data := Data.seq #[] }) ::
  (nat_lit 238, { cls := Value.type "code", data := Data.fields #[Value.str (Str.ofString "_law_small") 623, Value.str (Str.ofString "_law_small") 624, Value.str (Str.ofString "/claim/cut.py") 625, Value.int 165 0, Value.int 1 0, Value.int 0 0, Value.int 0 0, Value.int 3 0, Value.ref 233, Value.bool true, Value.int 276 0, Value.ref 234, Value.none, Value.ref 235, Value.ref 236, Value.ref 237, Value.int 627 0, Value.int 165 0, Value.str (Str.ofString "/claim/cut.py") 628] }) ::
  (nat_lit 239, { cls := Value.type "function", data := Data.func { name := Str.ofString "_law_small", qualname := Str.ofString "_law_small", params := (by refine' (?f76 : ∀ x : Arguments, (∃ K : Arguments, K = x) → Arguments) _ ?e76; (case e76 => (have e : ∃ K : Arguments, K = dArgs (topS 17) := ⟨_, rfl⟩; (conv at e => (enter [1, K, 2]; whnf)); exact e)); (case f76 => exact fun x _ => x)), body := FuncBody.stmts (by refine' (?f77 : ∀ x : List Stmt, (∃ K : List Stmt, K = x) → List Stmt) _ ?e77; (case e77 => (have e : ∃ K : List Stmt, K = dBody (topS 17) := ⟨_, rfl⟩; (conv at e => (enter [1, K, 2]; whnf)); exact e)); (case f77 => exact fun x _ => x)), scope := (by refine' (?f78 : ∀ x : Scope, (∃ K : Scope, K = x) → Scope) _ ?e78; (case e78 => (have e : ∃ K : Scope, K = dScope (topS 17) := ⟨_, rfl⟩; (conv at e => (enter [1, K, 2]; whnf)); exact e)); (case f78 => exact fun x _ => x)), globals := 3, closure := [], defaults := Value.none, kwdefaults := Value.none, pyModule := Value.str (Str.ofString "law_pm0061_01") 615, code := Value.ref 238 } }) ::
  (nat_lit 240, { cls := Value.type "tuple", data := Data.seq #[] }) ::
  (nat_lit 242, { cls := Value.type "tuple", data := Data.seq #[Value.str (Str.ofString "words") 633, Value.str (Str.ofString "row") 634, Value.str (Str.ofString "j") 635, Value.str (Str.ofString "ring") 636, Value.str (Str.ofString "at") 637] }) ::
  (nat_lit 243, { cls := Value.type "tuple", data := Data.seq #[] }) ::
  (nat_lit 245, { cls := Value.type "code", data := Data.fields #[Value.str (Str.ofString "_law_row") 630, Value.str (Str.ofString "_law_row") 631, Value.str (Str.ofString "/claim/cut.py") 632, Value.int 167 0, Value.int 1 0, Value.int 0 0, Value.int 0 0, Value.int 3 0, Value.ref 240, Value.bool true, Value.int 276 0, Value.ref 241, Value.none, Value.ref 242, Value.ref 243, Value.ref 244, Value.int 638 0, Value.int 167 0, Value.str (Str.ofString "/claim/cut.py") 639] }) ::
  (nat_lit 246, { cls := Value.type "function", data := Data.func { name := Str.ofString "_law_row", qualname := Str.ofString "_law_row", params := (by refine' (?f79 : ∀ x : Arguments, (∃ K : Arguments, K = x) → Arguments) _ ?e79; (case e79 => (have e : ∃ K : Arguments, K = dArgs (topS 18) := ⟨_, rfl⟩; (conv at e => (enter [1, K, 2]; whnf)); exact e)); (case f79 => exact fun x _ => x)), body := FuncBody.stmts (by refine' (?f80 : ∀ x : List Stmt, (∃ K : List Stmt, K = x) → List Stmt) _ ?e80; (case e80 => (have e : ∃ K : List Stmt, K = dBody (topS 18) := ⟨_, rfl⟩; (conv at e => (enter [1, K, 2]; whnf)); exact e)); (case f80 => exact fun x _ => x)), scope := (by refine' (?f81 : ∀ x : Scope, (∃ K : Scope, K = x) → Scope) _ ?e81; (case e81 => (have e : ∃ K : Scope, K = dScope (topS 18) := ⟨_, rfl⟩; (conv at e => (enter [1, K, 2]; whnf)); exact e)); (case f81 => exact fun x _ => x)), globals := 3, closure := [], defaults := Value.none, kwdefaults := Value.none, pyModule := Value.str (Str.ofString "law_pm0061_01") 615, code := Value.ref 245 } }) ::
  (nat_lit 247, { cls := Value.type "tuple", data := Data.seq #[] }) ::
  (nat_lit 249, { cls := Value.type "tuple", data := Data.seq #[Value.str (Str.ofString "words") 644, Value.str (Str.ofString "width") 645, Value.str (Str.ofString "head") 646, Value.str (Str.ofString "j") 647] }) ::
  (nat_lit 250, { cls := Value.type "tuple", data := Data.seq #[] }) ::
  (nat_lit 252, { cls := Value.type "code", data := Data.fields #[Value.str (Str.ofString "_law_drawers") 641, Value.str (Str.ofString "_law_drawers") 642, Value.str (Str.ofString "/claim/cut.py") 643, Value.int 174 0, Value.int 2 0, Value.int 0 0, Value.int 0 0, Value.int 3 0, Value.ref 247, Value.bool true, Value.int 276 0, Value.ref 248, Value.none, Value.ref 249, Value.ref 250, Value.ref 251, Value.int 648 0, Value.int 174 0, Value.str (Str.ofString "/claim/cut.py") 649] }) ::
  (nat_lit 253, { cls := Value.type "function", data := Data.func { name := Str.ofString "_law_drawers", qualname := Str.ofString "_law_drawers", params := (by refine' (?f82 : ∀ x : Arguments, (∃ K : Arguments, K = x) → Arguments) _ ?e82; (case e82 => (have e : ∃ K : Arguments, K = dArgs (topS 19) := ⟨_, rfl⟩; (conv at e => (enter [1, K, 2]; whnf)); exact e)); (case f82 => exact fun x _ => x)), body := FuncBody.stmts (by refine' (?f83 : ∀ x : List Stmt, (∃ K : List Stmt, K = x) → List Stmt) _ ?e83; (case e83 => (have e : ∃ K : List Stmt, K = dBody (topS 19) := ⟨_, rfl⟩; (conv at e => (enter [1, K, 2]; whnf)); exact e)); (case f83 => exact fun x _ => x)), scope := (by refine' (?f84 : ∀ x : Scope, (∃ K : Scope, K = x) → Scope) _ ?e84; (case e84 => (have e : ∃ K : Scope, K = dScope (topS 19) := ⟨_, rfl⟩; (conv at e => (enter [1, K, 2]; whnf)); exact e)); (case f84 => exact fun x _ => x)), globals := 3, closure := [], defaults := Value.none, kwdefaults := Value.none, pyModule := Value.str (Str.ofString "law_pm0061_01") 615, code := Value.ref 252 } }) ::
  (nat_lit 254, { cls := Value.type "tuple", data := Data.seq #[] }) ::
  (nat_lit 257, { cls := Value.type "code", data := Data.fields #[Value.str (Str.ofString "_law_stretch") 651, Value.str (Str.ofString "_law_stretch") 652, Value.str (Str.ofString "/claim/cut.py") 653, Value.int 179 0, Value.int 2 0, Value.int 0 0, Value.int 0 0, Value.int 3 0, Value.ref 254, Value.bool true, Value.int 276 0, Value.ref 255, Value.none, Value.none, Value.none, Value.ref 256, Value.int 654 0, Value.int 179 0, Value.str (Str.ofString "/claim/cut.py") 655] }) ::
  (nat_lit 258, { cls := Value.type "function", data := Data.func { name := Str.ofString "_law_stretch", qualname := Str.ofString "_law_stretch", params := (by refine' (?f85 : ∀ x : Arguments, (∃ K : Arguments, K = x) → Arguments) _ ?e85; (case e85 => (have e : ∃ K : Arguments, K = dArgs (topS 20) := ⟨_, rfl⟩; (conv at e => (enter [1, K, 2]; whnf)); exact e)); (case f85 => exact fun x _ => x)), body := FuncBody.stmts (by refine' (?f86 : ∀ x : List Stmt, (∃ K : List Stmt, K = x) → List Stmt) _ ?e86; (case e86 => (have e : ∃ K : List Stmt, K = dBody (topS 20) := ⟨_, rfl⟩; (conv at e => (enter [1, K, 2]; whnf)); exact e)); (case f86 => exact fun x _ => x)), scope := (by refine' (?f87 : ∀ x : Scope, (∃ K : Scope, K = x) → Scope) _ ?e87; (case e87 => (have e : ∃ K : Scope, K = dScope (topS 20) := ⟨_, rfl⟩; (conv at e => (enter [1, K, 2]; whnf)); exact e)); (case f87 => exact fun x _ => x)), globals := 3, closure := [], defaults := Value.none, kwdefaults := Value.none, pyModule := Value.str (Str.ofString "law_pm0061_01") 615, code := Value.ref 257 } }) ::
  (nat_lit 259, { cls := Value.type "tuple", data := Data.seq #[] }) ::
  (nat_lit 262, { cls := Value.type "code", data := Data.fields #[Value.str (Str.ofString "_law_told") 657, Value.str (Str.ofString "_law_told") 658, Value.str (Str.ofString "/claim/cut.py") 659, Value.int 182 0, Value.int 2 0, Value.int 0 0, Value.int 0 0, Value.int 3 0, Value.ref 259, Value.bool true, Value.int 276 0, Value.ref 260, Value.none, Value.none, Value.none, Value.ref 261, Value.int 660 0, Value.int 182 0, Value.str (Str.ofString "/claim/cut.py") 661] }) ::
  (nat_lit 263, { cls := Value.type "function", data := Data.func { name := Str.ofString "_law_told", qualname := Str.ofString "_law_told", params := (by refine' (?f88 : ∀ x : Arguments, (∃ K : Arguments, K = x) → Arguments) _ ?e88; (case e88 => (have e : ∃ K : Arguments, K = dArgs (topS 21) := ⟨_, rfl⟩; (conv at e => (enter [1, K, 2]; whnf)); exact e)); (case f88 => exact fun x _ => x)), body := FuncBody.stmts (by refine' (?f89 : ∀ x : List Stmt, (∃ K : List Stmt, K = x) → List Stmt) _ ?e89; (case e89 => (have e : ∃ K : List Stmt, K = dBody (topS 21) := ⟨_, rfl⟩; (conv at e => (enter [1, K, 2]; whnf)); exact e)); (case f89 => exact fun x _ => x)), scope := (by refine' (?f90 : ∀ x : Scope, (∃ K : Scope, K = x) → Scope) _ ?e90; (case e90 => (have e : ∃ K : Scope, K = dScope (topS 21) := ⟨_, rfl⟩; (conv at e => (enter [1, K, 2]; whnf)); exact e)); (case f90 => exact fun x _ => x)), globals := 3, closure := [], defaults := Value.none, kwdefaults := Value.none, pyModule := Value.str (Str.ofString "law_pm0061_01") 615, code := Value.ref 262 } }) ::
  (nat_lit 264, { cls := Value.type "tuple", data := Data.seq #[] }) ::
  (nat_lit 266, { cls := Value.type "tuple", data := Data.seq #[Value.str (Str.ofString "word") 666, Value.str (Str.ofString "ahead") 667, Value.str (Str.ofString "behind") 668, Value.str (Str.ofString "one") 669, Value.str (Str.ofString "other") 670] }) ::
  (nat_lit 267, { cls := Value.type "tuple", data := Data.seq #[] }) ::
  (nat_lit 269, { cls := Value.type "code", data := Data.fields #[Value.str (Str.ofString "_law_fits") 663, Value.str (Str.ofString "_law_fits") 664, Value.str (Str.ofString "/claim/cut.py") 665, Value.int 198 0, Value.int 5 0, Value.int 0 0, Value.int 0 0, Value.int 3 0, Value.ref 264, Value.bool true, Value.int 276 0, Value.ref 265, Value.none, Value.ref 266, Value.ref 267, Value.ref 268, Value.int 671 0, Value.int 198 0, Value.str (Str.ofString "/claim/cut.py") 672] }) ::
  (nat_lit 270, { cls := Value.type "function", data := Data.func { name := Str.ofString "_law_fits", qualname := Str.ofString "_law_fits", params := (by refine' (?f91 : ∀ x : Arguments, (∃ K : Arguments, K = x) → Arguments) _ ?e91; (case e91 => (have e : ∃ K : Arguments, K = dArgs (topS 22) := ⟨_, rfl⟩; (conv at e => (enter [1, K, 2]; whnf)); exact e)); (case f91 => exact fun x _ => x)), body := FuncBody.stmts (by refine' (?f92 : ∀ x : List Stmt, (∃ K : List Stmt, K = x) → List Stmt) _ ?e92; (case e92 => (have e : ∃ K : List Stmt, K = dBody (topS 22) := ⟨_, rfl⟩; (conv at e => (enter [1, K, 2]; whnf)); exact e)); (case f92 => exact fun x _ => x)), scope := (by refine' (?f93 : ∀ x : Scope, (∃ K : Scope, K = x) → Scope) _ ?e93; (case e93 => (have e : ∃ K : Scope, K = dScope (topS 22) := ⟨_, rfl⟩; (conv at e => (enter [1, K, 2]; whnf)); exact e)); (case f93 => exact fun x _ => x)), globals := 3, closure := [], defaults := Value.none, kwdefaults := Value.none, pyModule := Value.str (Str.ofString "law_pm0061_01") 615, code := Value.ref 269 } }) ::
  (nat_lit 271, { cls := Value.type "tuple", data := Data.seq #[] }) ::
  (nat_lit 274, { cls := Value.type "code", data := Data.fields #[Value.str (Str.ofString "_law_due") 674, Value.str (Str.ofString "_law_due") 675, Value.str (Str.ofString "/claim/cut.py") 676, Value.int 202 0, Value.int 2 0, Value.int 0 0, Value.int 0 0, Value.int 3 0, Value.ref 271, Value.bool true, Value.int 276 0, Value.ref 272, Value.none, Value.none, Value.none, Value.ref 273, Value.int 677 0, Value.int 202 0, Value.str (Str.ofString "/claim/cut.py") 678] }) ::
  (nat_lit 275, { cls := Value.type "function", data := Data.func { name := Str.ofString "_law_due", qualname := Str.ofString "_law_due", params := (by refine' (?f94 : ∀ x : Arguments, (∃ K : Arguments, K = x) → Arguments) _ ?e94; (case e94 => (have e : ∃ K : Arguments, K = dArgs (topS 23) := ⟨_, rfl⟩; (conv at e => (enter [1, K, 2]; whnf)); exact e)); (case f94 => exact fun x _ => x)), body := FuncBody.stmts (by refine' (?f95 : ∀ x : List Stmt, (∃ K : List Stmt, K = x) → List Stmt) _ ?e95; (case e95 => (have e : ∃ K : List Stmt, K = dBody (topS 23) := ⟨_, rfl⟩; (conv at e => (enter [1, K, 2]; whnf)); exact e)); (case f95 => exact fun x _ => x)), scope := (by refine' (?f96 : ∀ x : Scope, (∃ K : Scope, K = x) → Scope) _ ?e96; (case e96 => (have e : ∃ K : Scope, K = dScope (topS 23) := ⟨_, rfl⟩; (conv at e => (enter [1, K, 2]; whnf)); exact e)); (case f96 => exact fun x _ => x)), globals := 3, closure := [], defaults := Value.none, kwdefaults := Value.none, pyModule := Value.str (Str.ofString "law_pm0061_01") 615, code := Value.ref 274 } }) ::
  (nat_lit 276, { cls := Value.type "tuple", data := Data.seq #[] }) ::
  (nat_lit 278, { cls := Value.type "tuple", data := Data.seq #[Value.str (Str.ofString "script") 683, Value.str (Str.ofString "words") 684, Value.str (Str.ofString "width") 685] }) ::
  (nat_lit 279, { cls := Value.type "tuple", data := Data.seq #[] }) ::
  (nat_lit 281, { cls := Value.type "code", data := Data.fields #[Value.str (Str.ofString "law") 680, Value.str (Str.ofString "law") 681, Value.str (Str.ofString "/claim/cut.py") 682, Value.int 218 0, Value.int 1 0, Value.int 0 0, Value.int 0 0, Value.int 3 0, Value.ref 276, Value.bool true, Value.int 276 0, Value.ref 277, Value.none, Value.ref 278, Value.ref 279, Value.ref 280, Value.int 686 0, Value.int 218 0, Value.str (Str.ofString "/claim/cut.py") 687] }) ::
  (nat_lit 282, { cls := Value.type "function", data := Data.func { name := Str.ofString "law", qualname := Str.ofString "law", params := (by refine' (?f97 : ∀ x : Arguments, (∃ K : Arguments, K = x) → Arguments) _ ?e97; (case e97 => (have e : ∃ K : Arguments, K = dArgs (topS 24) := ⟨_, rfl⟩; (conv at e => (enter [1, K, 2]; whnf)); exact e)); (case f97 => exact fun x _ => x)), body := FuncBody.stmts (by refine' (?f98 : ∀ x : List Stmt, (∃ K : List Stmt, K = x) → List Stmt) _ ?e98; (case e98 => (have e : ∃ K : List Stmt, K = dBody (topS 24) := ⟨_, rfl⟩; (conv at e => (enter [1, K, 2]; whnf)); exact e)); (case f98 => exact fun x _ => x)), scope := (by refine' (?f99 : ∀ x : Scope, (∃ K : Scope, K = x) → Scope) _ ?e99; (case e99 => (have e : ∃ K : Scope, K = dScope (topS 24) := ⟨_, rfl⟩; (conv at e => (enter [1, K, 2]; whnf)); exact e)); (case f99 => exact fun x _ => x)), globals := 3, closure := [], defaults := Value.none, kwdefaults := Value.none, pyModule := Value.str (Str.ofString "law_pm0061_01") 615, code := Value.ref 281 } }) :: []
end Mine
end

section
open PySem PySem.W PySem.Calls PyProof.Rows Builtin Builtin.Str
set_option maxRecDepth 100000
namespace Mine

theorem sum_len_join (sep : Str) : ∀ ts : List Str, ts ≠ [] → (Str.join sep ts).length + sep.length = (ts.map (·.length)).sum + ts.length * sep.length
  | [], h => absurd rfl h
  | [x], _ => by simp [Str.join]
  | x :: y :: r, _ => by
    have ih := sum_len_join sep (y :: r) (by simp)
    show (x ++ sep ++ Str.join sep (y :: r)).length + _ = _
    simp only [Str.length_append, List.map_cons, List.sum_cons, List.length_cons, Nat.succ_mul] at ih ⊢
    omega

theorem split_ne (x y : Str) : Txt.split x y ≠ [] := by
  unfold Txt.split
  split
  · simp
  · split
    · simp
    · rw [StrLaws.partsBetween_eq]
      obtain ⟨p, r, e⟩ := StrLaws.partsFrom_ne x y.length 0 (occurrences x y 0 x.length (x.length + 1))
      rw [e]; simp

theorem split_sum (x y : Str) : ((Txt.split x y).map (·.length)).sum + (Txt.split x y).length * y.length = x.length + y.length := by
  have h := sum_len_join y (Txt.split x y) (split_ne x y)
  rw [StrLaws.join_split] at h
  exact h.symm

theorem join_split_ok {x y sep : Str} (hy : y.length = 1) (hs : sep.length = 1) (hx : x.length ≤ 1000) : JoinOk sep (Txt.split x y) = true := by
  have h := split_sum x y
  rw [hy] at h
  unfold JoinOk
  rw [StrLaws.joinTotal, hs]
  unfold Builtin.Str.tooLong
  rw [Bool.not_eq_true']
  simp
  rw [sizeLine_eq]
  omega

theorem join_split_len {x y sep : Str} (hy : y.length = 1) (hs : sep.length = 1) : (Txt.join sep (Txt.split x y)).length = x.length := by
  have h := split_sum x y
  have h2 := sum_len_join sep (Txt.split x y) (split_ne x y)
  show (Builtin.Str.glued sep (Txt.split x y)).length = _
  rw [StrLaws.glued_eq_join]
  rw [hy] at h; rw [hs] at h2
  omega
end Mine
end

section
open PySem PySem.W PySem.Calls PyProof.Rows Builtin Builtin.Str
set_option maxRecDepth 100000
namespace Mine

theorem strs_values : ∀ {vs : List Value} {ts : List Str}, StrsAre vs ts → ∃ l : List (Str × Tok), vs = strValues l ∧ l.map (·.1) = ts
  | _, _, .nil => ⟨[], rfl, rfl⟩
  | _, _, .cons a t h => by
    obtain ⟨l, e1, e2⟩ := strs_values h
    exact ⟨(a, t) :: l, by rw [e1]; rfl, by rw [← e2]; rfl⟩

theorem join_strs {prog : Program} {w : World} {A : Around} {E : Value → Shared → Prop} {s : Shared} {sep : Str} {t : Tok} {Q : Value → Shared → Prop} {D : Addr} {vs : List Value} {ts : List Str} {B : Nat}
    (hl : s.heap.IsList D vs.toArray) (hv : StrsAre vs ts) (hB : ∀ y ∈ ts, y.length ≤ B) (hn : ts.length * B + ts.length * sep.length ≤ 16777216)
    (hq : ∀ t' k, Q (.str (Txt.join sep ts) t') { s with toks := k }) : wpAny (model prog w) A (call (.builtin "str.join") [.str sep t, .ref D]) Q E s := by
  obtain ⟨l, rfl, e⟩ := strs_values hv
  refine SC.join hl e ?_ hq
  unfold JoinOk
  rw [StrLaws.joinFits hB hn]
  rfl

theorem pow4_le : ∀ k : Nat, k < 7 → (4 : Int) ^ k ≤ 4096 := by decide

theorem ints_at : ∀ {vs : List Value} {ns : List Int}, IntsAre vs ns → ∀ {i : Nat} {v : Value}, vs[i]? = some v → ∃ k t, v = .int k t ∧ ns[i]? = some k
  | _, _, .nil, i, v, h => by simp at h
  | _, _, .cons a t r, 0, v, h => ⟨a, t, by simpa using h.symm, rfl⟩
  | _, _, .cons a t r, i + 1, v, h => ints_at r (by simpa using h)
theorem strs_at : ∀ {vs : List Value} {ns : List Str}, StrsAre vs ns → ∀ {i : Nat} {v : Value}, vs[i]? = some v → ∃ k t, v = .str k t ∧ ns[i]? = some k
  | _, _, .nil, i, v, h => by simp at h
  | _, _, .cons a t r, 0, v, h => ⟨a, t, by simpa using h.symm, rfl⟩
  | _, _, .cons a t r, i + 1, v, h => strs_at r (by simpa using h)
theorem strs_snoc {y : Str} {t : Tok} : ∀ {vs : List Value} {ys : List Str}, StrsAre vs ys → StrsAre (vs ++ [.str y t]) (ys ++ [y])
  | _, _, .nil => .cons y t .nil
  | _, _, .cons z u r => .cons z u (strs_snoc r)

def signT (x : Int) (t : Nat) : Str := Txt.item (Str.ofString "aAbB") ((x.fdiv (7 * 4 ^ t)).fmod 4)
theorem sgn_snoc {x : Int} {k : Nat} {ys : List Value} {t : Tok} (hy : StrsAre ys ((List.range k).map fun t => signT x t)) :
    StrsAre (ys ++ [.str (Txt.item (Str.ofString "aAbB") ((x.fdiv (7 * 4 ^ (0 + (k : Int)).toNat)).fmod 4)) t]) ((List.range (k + 1)).map fun t => signT x t) := by
  have e : (0 + (k : Int)).toNat = k := by omega
  rw [e, List.range_succ, List.map_append, List.map_singleton]
  exact strs_snoc hy
def wordT (x : Int) : Str := Txt.join (Str.ofString "") ((List.range (x.fmod 7 - 0).toNat).map (signT x))
theorem item_ab {j : Int} (h0 : 0 ≤ j) (h1 : j < 4) : Txt.item (Str.ofString "aAbB") j = ⟨#[97]⟩ ∨ Txt.item (Str.ofString "aAbB") j = ⟨#[65]⟩ ∨ Txt.item (Str.ofString "aAbB") j = ⟨#[98]⟩ ∨ Txt.item (Str.ofString "aAbB") j = ⟨#[66]⟩ := by
  have : j = 0 ∨ j = 1 ∨ j = 2 ∨ j = 3 := by omega
  rcases this with rfl | rfl | rfl | rfl <;> decide +kernel
theorem signT_ab (x : Int) (t : Nat) : signT x t = ⟨#[97]⟩ ∨ signT x t = ⟨#[65]⟩ ∨ signT x t = ⟨#[98]⟩ ∨ signT x t = ⟨#[66]⟩ :=
  item_ab (fmod_lo _ (by decide)) (fmod_hi _ (by decide))
theorem wordT_fits (x : Int) : ∀ y ∈ (List.range (x.fmod 7 - 0).toNat).map (signT x), y.length ≤ 1 := by
  intro y hy
  obtain ⟨t, _, rfl⟩ := List.mem_map.mp hy
  rcases signT_ab x t with h | h | h | h <;> rw [h] <;> exact Nat.le_refl _
end Mine
end

section
open PySem PySem.W PySem.Calls PyProof.Rows
set_option maxRecDepth 100000
set_option maxHeartbeats 8000000
namespace Mine

abbrev TA (dp un : Nat) (gd : Option (List Code)) (outer : List Env) : Around := { handled := none, depth := dp, frames := some outer, guards := gd, units := un }

structure Site (w : World) (outer : List Env) (g : Heap) : Prop where
  below : ∃ base, ∃ A : Around, Below A base outer g
  kin : (heap w.params).In g
  top : ∃ p loose mean mg mb, Top p loose mean mg mb g

def Ext (h h' : Heap) : Prop := ∀ b o, h.get? b = some o → h'.get? b = some o
theorem Ext.refl (h : Heap) : Ext h h := fun _ _ e => e
theorem Ext.trans {a b c : Heap} (x : Ext a b) (y : Ext b c) : Ext a c := fun p o e => y p o (x p o e)

theorem Site.keeps {w : World} {outer : List Env} {g g' : Heap} (S : Site w outer g) (k : Ext g g') : Site w outer g' := by
  obtain ⟨⟨base, A, B⟩, X, ⟨p, l, me, mg, mb, T⟩⟩ := S
  exact ⟨⟨base, A, ⟨B.stack, fun b o e => k _ _ (B.stays b o e), B.frames.of_keeps fun b o e _ => ⟨o, k b o e, rfl⟩⟩⟩, X.keeps k, ⟨p, l, me, mg, mb, T.keeps k⟩⟩

theorem Site.of {w : World} {outer : List Env} {A₀ : Around} {base h₀ h : Heap} {L : Addr} {m : Str → Option Value} {env : Env} {p : Program} {loose : List Str} {mean : ExcName → Option Value} {mg mb : Str → Option Value}
    (B : Below A₀ base outer h₀) (F : Fr h₀ L h m) (X : (heap w.params).In h₀) (T : Top p loose mean mg mb h₀) (hf : env.frame = some L) (hke : env.scope.kind = .function) : Site w (env :: outer) h :=
  ⟨⟨base, _, pushX B F hf hke⟩, X.keeps F.keep, ⟨p, loose, mean, mg, mb, T.keeps F.keep⟩⟩

theorem enterE {w : World} {dp un : Nat} {gd : Option (List Code)} {outer : List Env} {s : Shared} {R : Result → Shared → Prop} {name qual : Str} {params : Arguments} {body : List Stmt} {scope : Scope} {dV kV doc pm cdv ct oc : Value} {an od : Option Addr} {osl : Array (Option Value)} {f : Addr} {args : Args} {binds : List (Str × Value)} {prog : Program}
    (S : Site w outer s.heap) (hroom : dp < recursionLimit)
    (ho : (heap w.params).lookup f = some ⟨oc, od, .func (fnOf name qual params body scope dV kV doc pm an cdv ct), osl⟩) (hcd : codeIn (heap w.params) cdv qual = true)
    (hbind : BindsTo s (fnOf name qual params body scope dV kV doc pm an cdv ct) args binds) (hloc : ∀ y ∈ binds, scope.names.lookup y.1 = some .local)
    (h : ∀ p loose mean mg mb base A₀ L' h₁, Below A₀ base outer s.heap → (heap w.params).In s.heap → Top p loose mean mg mb s.heap → Fr s.heap L' h₁ (fun y => binds.reverse.lookup y) → News s.heap L' h₁ [] →
      wpAny (model prog w) ((TA dp un gd outer).deeper (envOf qual scope L' f cdv)) (execs body (envOf qual scope L' f cdv))
        (fun fl s' => R (.ok (.ret (match fl with | .ret v => v | _ => .none))) s')
        (fun e s' => wpAny (model prog w) ((TA dp un gd outer).deeper (envOf qual scope L' f cdv)) (leaving (envOf qual scope L' f cdv) e) (fun _ s'' => R (.error e) s'') (fun e' s'' => R (.error e') s'') s')
        { s with heap := h₁, toks := s.toks + binds.length })
    (hco : scope.isCoroutine = false) (hgen : scope.isGenerator = false) (hk : scope.kind = .function)
    (hcell : ∀ x ∈ scope.names, x.2 ≠ .cell) : codeAny (model prog w) (TA dp un gd outer) (.call (.ref f) args) R s := by
  obtain ⟨⟨base, A, B⟩, X, ⟨p, l, me, mg, mb, T⟩⟩ := S
  refine codeAny_call_def (fd := fnOf name qual params body scope dV kV doc pm an cdv ct) (body := body) (binds := binds) hroom (X _ _ ho) rfl T.nolimit (codeRec_of X hcd) rfl hbind hcell hloc (fun h₁ hns hk₁ => ?_) hco hgen hk
  exact h p l me mg mb base A s.heap.objs.size h₁ B X T ⟨hns, hk₁, Nat.le_refl _⟩ News.nil

theorem enterEC {w : World} {dp un : Nat} {gd : Option (List Code)} {outer : List Env} {s : Shared} {R : Result → Shared → Prop} {name qual : Str} {params : Arguments} {body : List Stmt} {scope : Scope} {dV kV doc pm cdv ct oc : Value} {an od : Option Addr} {osl : Array (Option Value)} {f : Addr} {args : Args} {binds : List (Str × Value)} {prog : Program}
    (S : Site w outer s.heap) (hroom : dp < recursionLimit)
    (ho : (heap w.params).lookup f = some ⟨oc, od, .func (fnOf name qual params body scope dV kV doc pm an cdv ct), osl⟩) (hcd : codeIn (heap w.params) cdv qual = true)
    (hbind : BindsTo s (fnOf name qual params body scope dV kV doc pm an cdv ct) args binds) (hkind : (binds.all fun y => scope.names.lookup y.1 == some .local || scope.names.lookup y.1 == some .cell) = true)
    (hnd : ((cellsFrom 0 scope.names []).map (·.1)).Nodup)
    (h : ∀ p loose mean mg mb base A₀ L' h₁ tk cells, Below A₀ base outer s.heap → (heap w.params).In s.heap → Top p loose mean mg mb s.heap → Fr s.heap L' h₁ (bindL (envOfC qual scope L' f cdv).kindOf binds fun _ => none) → News s.heap L' h₁ cells →
      CellsAre (bindC (envOfC qual scope L' f cdv).kindOf binds fun _ => none) (cellsFrom (L' + 1) scope.names []) cells →
      wpAny (model prog w) ((TA dp un gd outer).deeper (envOfC qual scope L' f cdv)) (execs body (envOfC qual scope L' f cdv))
        (fun fl s' => R (.ok (.ret (match fl with | .ret v => v | _ => .none))) s')
        (fun e s' => wpAny (model prog w) ((TA dp un gd outer).deeper (envOfC qual scope L' f cdv)) (leaving (envOfC qual scope L' f cdv) e) (fun _ s'' => R (.error e) s'') (fun e' s'' => R (.error e') s'') s')
        { s with heap := h₁, toks := tk })
    (hco : scope.isCoroutine = false) (hgen : scope.isGenerator = false) (hk : scope.kind = .function) : codeAny (model prog w) (TA dp un gd outer) (.call (.ref f) args) R s := by
  obtain ⟨⟨base, A, B⟩, X, ⟨p, l, me, mg, mb, T⟩⟩ := S
  refine codeAny_call_function (fd := fnOf name qual params body scope dV kV doc pm an cdv ct) (body := body) hroom (X _ _ ho) rfl hco hgen rfl (codeRec_of X hcd) (hbind _ _ _ _ ?_)
  refine wpAny_newFunctionEnv_cells hk (kindsX hkind _) fun env' he s' x => ?_
  subst he
  refine ⟨T.nolimit.keeps x.toInCall.keep, codeAny_func ?_⟩
  obtain ⟨h₁, tk, rfl, _⟩ := x.done
  have hk₁ := x.toInCall.keep
  obtain ⟨cells, NC, Y⟩ := Cl.news (h₀ := s.heap) (Nat.le_refl _) fun n c hm => ⟨x.cell n c (lookup_of_mem_nodup (cellsFrom_names scope.names 0 (s.heap.objs.size + 1) [] [] rfl ▸ hnd) hm), x.above n c hm⟩
  exact h p l me mg mb base A s.heap.objs.size h₁ tk cells B X T ⟨x.toInCall.ns, hk₁, Nat.le_refl _⟩ (fun p hp => NC p hp) Y

theorem callE {prog : Program} {w : World} {A : Around} {s : Shared} {f : Value} {vs : List Value} {Q E : Value → Shared → Prop}
    (hc : codeAny (model prog w) A (.call f ⟨vs, []⟩) (fun r s' => match r with | .ok (.ret v) => Q v s' | .ok _ => False | .error e => E e s') s) : wpAny (model prog w) A (call f vs) Q E s := wpAny_call hc

end Mine
end

local macro_rules | `(tactic| k_room) => `(tactic| (simp only [depth_under_make, depth_under_kw, depth_in1, depth_deeper, depth_caller, recursionLimit, Mine.TA]; omega))

section
open PySem PySem.W PySem.Calls PyProof.Rows
set_option maxRecDepth 100000
set_option maxHeartbeats 8000000
namespace Mine

def preN (n : Int) : Int := if (n - 3).fdiv 2 > 0 then (n - 3).fdiv 2 else 0
def postN (n : Int) : Int := if (n - 3 - preN n) > 0 then n - 3 - preN n else 0
def cramT (x : Str) (n : Int) : Str := if n < (x.length : Int) then Txt.slice x none (some (preN n)) ++ Str.ofString "..." ++ Txt.slice x (some ((x.length : Int) - postN n)) none else x

theorem cramT_len (x : Str) (n : Int) : (cramT x n).length ≤ 2 * x.length + 3 := by
  unfold cramT
  have h1 := PySem.Txt.slice_le x none (some (preN n))
  have h2 := PySem.Txt.slice_le x (some ((x.length : Int) - postN n)) none
  split
  · rw [Str.length_append, Str.length_append, show (Str.ofString "...").length = 3 from rfl]; omega
  · omega

theorem cram_E {w : World} {dp un : Nat} {gd : Option (List Code)} {outer : List Env} {s : Shared} {Q E : Value → Shared → Prop} {x : Str} {t1 : Tok} {n : Int} {t2 : Tok}
    (S : Site w outer s.heap) (hdp : dp < 900) (hun : un < 9000) (hx : x.length ≤ 100) (h1 : -1 ≤ n) (h6 : n ≤ 6)
    (k : ∀ t h' tk', (cramT x n).length ≤ 2 * x.length + 3 → Ext s.heap h' → Q (.str (cramT x n) t) { s with heap := h', toks := tk' }) :
    wpAny (model PySem.Challenge.rw_pm0061_01.row.prog w) (TA dp un gd outer) (call (.ref 52) [.str x t1, .int n t2]) Q E s := by
  k_with_none
  have X0 := S.kin; revert X0; k_fill; intro _
  refine callE ?_
  refine' enterE (binds := [(Str.ofString "text", .str x t1), (Str.ofString "maxlen", .int n t2)]) ?k1 ?k8 ?k6 ?k7 ?k9 ?kB ?_ ?c2 ?c3 ?c4 ?c5; (case k1 => assumption); (case k6 => k_is); (case k7 => k_is); (case k8 => (simp only [recursionLimit]; omega)); (case k9 => first | exact BindsTo.of_eq rfl | exact binds_K (by k_in) rfl (by k_is) rfl rfl rfl); (case c5 => decide); (case kB => exact locs rfl); (case c2 => exact rfl); (case c3 => exact rfl); (case c4 => exact rfl); intro p' lo' me' mg' mb' ba' A' L' h' B' X' T' F' N'; (try dsimp only); (try k_fold)
  k_steps
  · have hc : n < (x.length : Int) := by assumption
    have e := fun t h' tk' y => k t h' tk' (cramT_len x n) y
    simp only [cramT, preN, postN, if_pos hc] at e
    exact e _ _ _ (Fr.keep (by assumption))
  · have hc : ¬ n < (x.length : Int) := by assumption
    have e := fun t h' tk' y => k t h' tk' (cramT_len x n) y
    simp only [cramT, if_neg hc] at e
    exact e _ _ _ (Fr.keep (by assumption))

theorem my_join {prog : Program} {w : World} {A : Around} {E : Value → Shared → Prop} {s : Shared} {x y sep : Str} {t : Tok} {Q : Value → Shared → Prop} {D : Addr} {l : List (Str × Tok)} (hl : s.heap.IsList D (strValues l).toArray) (ht : l.map (·.1) = Txt.split x y) (hy : y.length = 1) (hs : sep.length = 1) (hx : x.length ≤ 1000)
    (hq : ∀ t' k, (Txt.join sep (Txt.split x y)).length = x.length → Q (.str (Txt.join sep (Txt.split x y)) t') { s with toks := k }) : wpAny (model prog w) A (call (.builtin "str.join") [.str sep t, .ref D]) Q E s :=
  SC.join hl ht (join_split_ok hy hs hx) fun t' k => hq t' k (join_split_len hy hs)



def smallT (x : Str) : Str := Txt.join (Str.ofString "b") (Txt.split (Txt.join (Str.ofString "a") (Txt.split x (Str.ofString "A"))) (Str.ofString "B"))

theorem smallT_len (x : Str) : (smallT x).length = x.length := by
  unfold smallT
  rw [join_split_len rfl rfl, join_split_len rfl rfl]

theorem small_E {w : World} {dp un : Nat} {gd : Option (List Code)} {outer : List Env} {s : Shared} {Q E : Value → Shared → Prop} {x : Str} {t1 : Tok}
    (S : Site w outer s.heap) (hdp : dp < 890) (hun : un < 9000) (hx : x.length ≤ 100)
    (k : ∀ t h' tk', (smallT x).length = x.length → Ext s.heap h' → Q (.str (smallT x) t) { s with heap := h', toks := tk' }) :
    wpAny (model PySem.Challenge.rw_pm0061_01.row.prog w) (TA dp un gd outer) (call (.ref 239) [.str x t1]) Q E s := by
  k_with_none
  k_with "call builtin:str.join" => (k_here; (with_reducible show wpAny _ _ (call (Value.builtin "str.join") [Value.str _ _, Value.ref _]) _ _ _); (refine' my_join ?zk1 ?zk2 ?zk3 ?zk4 ?zk5 ?_; (case zk1 => is_list); (case zk2 => assumption); (case zk3 => rfl); (case zk4 => rfl); (case zk5 => omega); k_whole; intro _ _ _))
  k_with "subscriptTail Name Slice ref ref" => (k_here; (with_reducible show wpAny _ _ (subscriptTail _ (Expr.Slice (some _) none none _) (Value.ref _) (Value.ref _)) _ _ _); (with_unfolding_all refine' slice_tuple_from (a := 2) (s := ⟨_, _, _, _, _⟩) ?zk1 ?zk2 ?zk3 ?zk4 ?zk5 ?_ ?zk6 ?zk7 ?zk8; (case zk1 => k_asm); (case zk2 => k_asm); (case zk3 => exact News.isTup (by k_asm) (by k_mem)); (case zk4 => decide); (case zk5 => exact Nat.le_of_ble_eq_true rfl); (case zk6 => with_unfolding_all rfl); (case zk7 => (intro _; with_unfolding_all rfl)); (case zk8 => exact Nat.le_of_ble_eq_true rfl); k_whole; intro _ _ N'; first | (change News _ _ _ ((_, { cls := .type "tuple", data := .seq #[_, _] }) :: _) at N') | (change News _ _ _ ((_, { cls := .type "tuple", data := .seq #[] }) :: _) at N')))
  have X0 := S.kin; revert X0; k_fill; intro _
  refine callE ?_
  refine' enterE (binds := [(Str.ofString "word", .str x t1)]) ?k1 ?k8 ?k6 ?k7 ?k9 ?kB ?_ ?c2 ?c3 ?c4 ?c5; (case k1 => assumption); (case k6 => k_is); (case k7 => k_is); (case k8 => (simp only [recursionLimit]; omega)); (case k9 => first | exact BindsTo.of_eq rfl | exact binds_K (by k_in) rfl (by k_is) rfl rfl rfl); (case c5 => decide); (case kB => exact locs rfl); (case c2 => exact rfl); (case c3 => exact rfl); (case c4 => exact rfl); intro p' lo' me' mg' mb' ba' A' L' h' B' X' T' F' N'; (try dsimp only); (try k_fold)
  k_steps
  exact k _ _ _ (smallT_len x) (Fr.keep (by assumption))
end Mine
end

section
open PySem PySem.W PySem.Calls PyProof.Rows
set_option maxRecDepth 100000
set_option maxHeartbeats 8000000
namespace Mine

def fitsT (x : Str) (a b : Int) (o1 o2 : Str) : Bool := if (x.length : Int) < a + b then false else Txt.slice x none (some a) == Txt.slice o1 none (some a) && Txt.slice x (some (x.length - b)) none == Txt.slice o2 (some (o2.length - b)) none

theorem fits_E {w : World} {dp un : Nat} {gd : Option (List Code)} {outer : List Env} {s : Shared} {Q E : Value → Shared → Prop} {x o1 o2 : Str} {t1 t2 t3 t4 t5 : Tok} {a b : Int}
    (S : Site w outer s.heap) (hdp : dp < 900) (hun : un < 9000) (hx : x.length ≤ 100) (h1 : o1.length ≤ 100) (h2 : o2.length ≤ 100) (ha : 0 ≤ a) (ha' : a ≤ 10) (hb : 0 ≤ b) (hb' : b ≤ 10)
    (k : ∀ h' tk', Ext s.heap h' → Q (.bool (fitsT x a b o1 o2)) { s with heap := h', toks := tk' }) :
    wpAny (model PySem.Challenge.rw_pm0061_01.row.prog w) (TA dp un gd outer) (call (.ref 270) [.str x t1, .int a t2, .int b t3, .str o1 t4, .str o2 t5]) Q E s := by
  k_with_none
  have X0 := S.kin; revert X0; k_fill; intro _
  refine callE ?_
  refine' enterE (binds := [(Str.ofString "word", .str x t1), (Str.ofString "ahead", .int a t2), (Str.ofString "behind", .int b t3), (Str.ofString "one", .str o1 t4), (Str.ofString "other", .str o2 t5)]) ?k1 ?k8 ?k6 ?k7 ?k9 ?kB ?_ ?c2 ?c3 ?c4 ?c5; (case k1 => assumption); (case k6 => k_is); (case k7 => k_is); (case k8 => (simp only [recursionLimit]; omega)); (case k9 => first | exact BindsTo.of_eq rfl | exact binds_K (by k_in) rfl (by k_is) rfl rfl rfl); (case c5 => decide); (case kB => exact locs rfl); (case c2 => exact rfl); (case c3 => exact rfl); (case c4 => exact rfl); intro p' lo' me' mg' mb' ba' A' L' h' B' X' T' F' N'; (try dsimp only); (try k_fold)
  k_steps
  · have e := k
    simp only [fitsT, if_pos (by assumption : (x.length : Int) < a + b)] at e
    exact e _ _ (Fr.keep (by assumption))
  · have e := k
    simp only [fitsT, if_neg (by assumption : ¬ (x.length : Int) < a + b), (by assumption : (Txt.slice x none (some a) == Txt.slice o1 none (some a)) = true), Bool.true_and] at e
    exact e _ _ (Fr.keep (by assumption))
  · have e := k
    simp only [fitsT, if_neg (by assumption : ¬ (x.length : Int) < a + b), (by assumption : (Txt.slice x none (some a) == Txt.slice o1 none (some a)) = false), Bool.false_and] at e
    rw [(by assumption : (Txt.slice x none (some a) == Txt.slice o1 none (some a)) = false)]
    exact e _ _ (Fr.keep (by assumption))

theorem item_strs {prog : Program} {w : World} {A : Around} {E : Value → Shared → Prop} {s : Shared} {value slice : Expr} {l : Addr} {vs : List Value} {ws : List Str} {i : Int} {u : Tok} {Q : Value → Shared → Prop}
    (hl : s.heap.IsList l vs.toArray) (hv : StrsAre vs ws) (h0 : 0 ≤ i) (h1 : i < (ws.length : Int)) (hz : ws.length ≤ 1000) (h : ∀ t, Q (.str (ws.getD i.toNat Str.empty) t) s)
    (hs : subscripted slice false (.ref l) (.int i u) = operate [.ref l, .int i u] (getItem (.ref l) (.int i u)) := by with_unfolding_all rfl) :
    wpAny (model prog w) A (subscriptTail value slice (.ref l) (.int i u)) Q E s := by
  have : ∃ t, vs[i.toNat]? = some (.str (ws.getD i.toNat Str.empty) t) := by
    have hlt : i.toNat < ws.length := by omega
    clear h1 h0 hz h hs hl
    generalize i.toNat = n at *
    induction hv generalizing n with
    | nil => simp at hlt
    | cons a t r ih =>
      cases n with
      | zero => exact ⟨t, rfl⟩
      | succ n => exact ih n (by simpa using hlt)
  obtain ⟨t, ht⟩ := this
  exact tail_any hl.typeIs slot_list_getitem.lookup (wpAny_getItem_list hl h0 (by omega) (by simpa using ht) (h t)) hs



theorem fd2 (a b : Int) : (a + b).fdiv 2 = (a + b) / 2 := Int.fdiv_eq_ediv_of_nonneg _ (by decide)

/-- the state of a search by halves: all below lo are smaller, none from hi on is -/
def BL (ws : List Str) (P : Str → Prop) (lo hi : Int) : Prop := 0 ≤ lo ∧ lo ≤ hi ∧ hi ≤ (ws.length : Int) ∧ (∀ j : Nat, (j : Int) < lo → P (ws.getD j Str.empty)) ∧ (∀ j : Nat, hi ≤ (j : Int) → j < ws.length → ¬ P (ws.getD j Str.empty))

def Down (ws : List Str) (P : Str → Prop) : Prop := ∀ i j : Nat, i ≤ j → j < ws.length → P (ws.getD j Str.empty) → P (ws.getD i Str.empty)

theorem BL.start {ws : List Str} {P : Str → Prop} : BL ws P 0 (ws.length : Int) :=
  ⟨by omega, by omega, by omega, fun j h => by omega, fun j h h' => by omega⟩
theorem BL.lo {ws : List Str} {P : Str → Prop} {lo hi : Int} (h : BL ws P lo hi) (hd : Down ws P) (hlt : lo < hi) (c : P (ws.getD ((lo + hi).fdiv 2).toNat Str.empty)) : BL ws P ((lo + hi).fdiv 2 + 1) hi := by
  rw [fd2] at c ⊢
  obtain ⟨a, b, e, f, g⟩ := h
  refine ⟨by omega, by omega, e, fun j hj => hd j _ (by omega) (by omega) c, g⟩
theorem BL.hi {ws : List Str} {P : Str → Prop} {lo hi : Int} (h : BL ws P lo hi) (hd : Down ws P) (hlt : lo < hi) (c : ¬ P (ws.getD ((lo + hi).fdiv 2).toNat Str.empty)) : BL ws P lo ((lo + hi).fdiv 2) := by
  rw [fd2] at c ⊢
  obtain ⟨a, b, e, f, g⟩ := h
  refine ⟨a, by omega, by omega, f, fun j hj hn hp => c (hd _ j (by omega) hn hp)⟩

theorem BL.done {ws : List Str} {P : Str → Prop} {lo hi : Int} (h : BL ws P lo hi) (hn : ¬ lo < hi) : BL ws P lo lo := by
  obtain ⟨a, b, e, f, g⟩ := h
  exact ⟨a, by omega, by omega, f, fun j hj => g j (by omega)⟩

theorem bisl_E {w : World} {dp un : Nat} {gd : Option (List Code)} {outer : List Env} {s : Shared} {Q E : Value → Shared → Prop} {l : Addr} {vs : List Value} {ws : List Str} {x : Str} {t1 : Tok}
    (S : Site w outer s.heap) (hdp : dp < 900) (hun : un < 9000) (hl : s.heap.IsList l vs.toArray) (hv : StrsAre vs ws) (hz : ws.length ≤ 100)
    (hd : Down ws fun y => y.cps.toList < x.cps.toList)
    (k : ∀ i t h' tk', BL ws (fun y => y.cps.toList < x.cps.toList) i i → Ext s.heap h' → Q (.int i t) { s with heap := h', toks := tk' }) :
    wpAny (model PySem.Challenge.rw_pm0061_01.row.prog w) (TA dp un gd outer) (call (.ref 79) [.ref l, .str x t1]) Q E s := by
  k_with_none
  k_with "subscriptTail Name Name ref int" => (k_here; (with_reducible show wpAny _ _ (subscriptTail _ _ (Value.ref _) (Value.int _ _)) _ _ _); (with_unfolding_all refine' item_strs ?zk1 ?zk2 ?zk3 ?zk4 ?zk5 ?_ ?zk6; (case zk1 => is_list); (case zk2 => assumption); (case zk3 => l_idx); (case zk4 => l_idx); (case zk5 => omega); (case zk6 => with_unfolding_all rfl); k_whole); intro _)
  have X0 := S.kin; revert X0; k_fill; intro _
  refine callE ?_
  refine' enterE (binds := [(Str.ofString "a", .ref l), (Str.ofString "x", .str x t1), (Str.ofString "lo", .int 0 338), (Str.ofString "hi", .none), (Str.ofString "key", .none)]) ?k1 ?k8 ?k6 ?k7 ?k9 ?kB ?_ ?c2 ?c3 ?c4 ?c5; (case k1 => assumption); (case k6 => k_is); (case k7 => k_is); (case k8 => (simp only [recursionLimit]; omega)); (case k9 => (refine' kp_binds ?kx ?ke; (case kx => k_in); (case ke => exact fun _ => rfl))); (case c5 => decide); (case kB => exact locs rfl); (case c2 => exact rfl); (case c3 => exact rfl); (case c4 => exact rfl); intro p' lo' me' mg' mb' ba' A' L' h' B' X' T' F' N'; (try dsimp only); (try k_fold)
  k_with "state" => exact ⟨by omega, by omega, by omega, BL.start⟩
  k_with "exec While Compare cons nil" => k_while (fun _ lo hi => 0 ≤ lo ∧ lo ≤ hi ∧ hi ≤ (ws.length : Int) ∧ BL ws (fun y => y.cps.toList < x.cps.toList) lo hi) (fun _ lo hi => (hi - lo).toNat) "lo" "hi"
  k_steps
  · (refine ksw_end ⟨_, _, _, _⟩ (by assumption) (by assumption) (by kst_in) (by kst_facts) (by kst_all) (by ksw_same) ?_ ?_)
    · have b := BL.lo (by assumption) hd (by assumption) (by assumption)
      exact ⟨b.1, b.2.1, b.2.2.1, b⟩
    · simp only [fd2]; omega
  · (refine ksw_end ⟨_, _, _, _⟩ (by assumption) (by assumption) (by kst_in) (by kst_facts) (by kst_all) (by ksw_same) ?_ ?_)
    · have b := BL.hi (by assumption) hd (by assumption) (by assumption)
      exact ⟨b.1, b.2.1, b.2.2.1, b⟩
    · simp only [fd2]; omega
  · exact k _ _ _ _ (BL.done (by assumption) (by assumption)) (Fr.keep (by assumption))
end Mine
end

section
open PySem PySem.W PySem.Calls PyProof.Rows
set_option maxRecDepth 100000
set_option maxHeartbeats 8000000
namespace Mine

section
variable {prog : Program} {w : World} {A : Around} {E : Value → Shared → Prop} {s : Shared} {env : Env} {h₀ : Heap} {x : Str} {body : List Stmt} {Q : Flow → Shared → Prop}

def LpEnd {σ : Type} (h₀ : Heap) (L : Addr) (Led : σ → List (Addr × Obj)) (ps : σ → List (Str × Value)) (x : Str) (stored : List Str) (m₀ : Str → Option Value) (P : σ → Prop) (I : Addr) (o : Obj) (s s₂ : Shared) : Prop :=
  ∃ (c' : σ) (h' : Heap) (tk : Nat) (m' : Str → Option Value) (news' : List (Addr × Obj)), s₂ = { s with heap := h', toks := tk } ∧ Fr h₀ L h' m' ∧ News h₀ L h' news' ∧ (I, o) ∈ news' ∧ (∀ p ∈ Led c', p ∈ news') ∧ (∀ p ∈ Led c', p.1 ≠ I) ∧ (∀ p ∈ ps c', m' p.1 = some p.2) ∧ (∀ z, z ≠ x → (∀ p ∈ ps c', z ≠ p.1) → stored.contains z = false → m' z = m₀ z) ∧ P c'
def LpPost {σ : Type} (h₀ : Heap) (L : Addr) (Led : σ → List (Addr × Obj)) (ps : σ → List (Str × Value)) (x : Str) (stored : List Str) (m₀ : Str → Option Value) (P : σ → Prop) (I : Addr) (o : Obj) (s : Shared) (Q : Flow → Shared → Prop) (f : Flow) (s₂ : Shared) : Prop :=
  match f with
  | .ret v => Q (.ret v) s₂
  | .brk => Q .next s₂
  | _ => LpEnd h₀ L Led ps x stored m₀ P I o s s₂

theorem LpEnd.intro {σ : Type} {L : Addr} {Led : σ → List (Addr × Obj)} {ps : σ → List (Str × Value)} {stored : List Str} {m₀ : Str → Option Value} {P : σ → Prop} {I : Addr} {o : Obj} {s : Shared} (c' : σ) {h' : Heap} {tk : Nat} {m' : Str → Option Value} {news' : List (Addr × Obj)}
    (F : Fr h₀ L h' m') (N : News h₀ L h' news') (hI : (I, o) ∈ news') (hn : ∀ p ∈ Led c', p ∈ news') (hne : ∀ p ∈ Led c', p.1 ≠ I) (hk : ∀ p ∈ ps c', m' p.1 = some p.2) (hr : ∀ z, z ≠ x → (∀ p ∈ ps c', z ≠ p.1) → stored.contains z = false → m' z = m₀ z) (hp : P c') :
    LpEnd h₀ L Led ps x stored m₀ P I o s { s with heap := h', toks := tk } := ⟨c', h', tk, m', news', rfl, F, N, hI, hn, hne, hk, hr, hp⟩

theorem lp_any {σ : Type} {I : Addr} {l : Option Addr} {n : Nat} {Pv : Nat → Value → Prop} {St : Nat → Heap → Prop} {m₀ : Str → Option Value} (Led : σ → List (Addr × Obj)) (ps : σ → List (Str × Value)) (stored : List Str) (P : Nat → σ → Prop) (c₀ : σ)
    (W : Walks prog w A I (I :: l.toList) [I] n Pv St) (hst : St 0 s.heap) (hstI : ∀ i h, St i h → ∃ o, h.get? I = some o) (hIL : I ≠ env.locals) (hlL : ∀ a ∈ l, a ≠ env.locals) (hI0 : h₀.get? I = none) (hne0 : ∀ p ∈ Led c₀, p.1 ≠ I)
    (hl' : ∀ a ∈ l, (∃ o, h₀.get? a = some o) ∨ ∀ i c, P i c → ∃ o, (a, o) ∈ Led c) (F : Fr h₀ env.locals s.heap m₀) (N : News h₀ env.locals s.heap (Led c₀)) (hk : ∀ p ∈ ps c₀, m₀ p.1 = some p.2) (hp : P 0 c₀)
    (hl2 : ∀ a ∈ l, (∃ o, h₀.get? a = some o) ∨ ∃ o, ∀ i c, P i c → (a, o) ∈ Led c)
    (turn : ∀ (c : σ) (i : Nat) (v : Value) (u : Str → Option Value) h tk o, i < n → Pv i v → P i c → (∀ p ∈ Led c, p.1 ≠ I) →
      Fr h₀ env.locals h (fun y => if y = x then some v else kstB (fun z => if stored.contains z then u z else m₀ z) (ps c) y) → News h₀ env.locals h ((I, o) :: Led c) →
      wpAny (model prog w) A (execs body env) (LpPost h₀ env.locals Led ps x stored m₀ (P (i + 1)) I o s Q) E { s with heap := h, toks := tk })
    (done : ∀ (c : σ) (u : Str → Option Value) h tk, P n c → Fr h₀ env.locals h (fun y => if y = x then u y else kstB (fun z => if stored.contains z then u z else m₀ z) (ps c) y) → News h₀ env.locals h (Led c) → Q .next { s with heap := h, toks := tk }) :
    LoopAtV prog w A h₀ env x body Q E (.ref I) s := by
  let J : Nat → (Str → Option Value) → List (Addr × Obj) → Prop := fun i m nx => ∃ c, nx = Led c ∧ (∀ p ∈ ps c, m p.1 = some p.2) ∧ (∀ z, z ≠ x → (∀ p ∈ ps c, z ≠ p.1) → stored.contains z = false → m z = m₀ z) ∧ P i c
  refine ⟨I, _, _, n, Pv, St, m₀, Led c₀, J, rfl, W, ?_, ?_, ?_, hst, F, N, ⟨c₀, rfl, hk, fun _ _ _ _ => rfl, hp⟩, ?_, ?_⟩
  · intro hm
    rcases List.mem_cons.mp hm with e | hm
    · exact hIL e.symm
    · cases l with
      | none => cases hm
      | some a =>
        rw [Option.toList_some, List.mem_singleton] at hm
        exact hlL a rfl hm.symm
  · intro b hb
    rw [List.mem_singleton.mp hb]
    exact hI0
  · intro p hp hI
    exact hne0 p hp (List.mem_singleton.mp hI)
  · rintro i v m₁ news₁ s₁ own ⟨hh', tk', rfl⟩ hin hP ⟨c, rfl, h1, h2, hp'⟩ hoff hown hownget hownall hst₁ F₁ N₁
    obtain ⟨o, ho⟩ := hstI _ _ hst₁
    have hIo : (I, o) ∈ own := hownall I (.head _) hI0 o ho
    have N₂ : News h₀ env.locals hh' ((I, o) :: Led c) := fun p hp => by
      rcases List.mem_cons.mp hp with rfl | hp
      · exact N₁ _ (List.mem_append_left _ hIo)
      · exact N₁ _ (List.mem_append_right _ hp)
    have hne : ∀ p ∈ Led c, p.1 ≠ I := fun p hp e => hoff p hp (by rw [e]; exact .head _)
    refine wpAny_mono (turn c i v m₁ hh' tk' o hin hP hp' hne (kst_fr h1 h2 F₁) N₂) (fun f s₂ q => ?_) fun _ _ e => e
    have fin : LpEnd h₀ env.locals Led ps x stored m₀ (P (i + 1)) I o s s₂ → LoopStepU h₀ env.locals [I] own (J (i + 1)) { s with heap := hh', toks := tk' } .next s₂ := by
      rintro ⟨c', h', tk, m', news', rfl, F', N', hI, hn, hne', hk', hr', hp''⟩
      refine ⟨rfl, h', tk, m', Led c', rfl, F', fun p hp => ?_, fun p hp hq => hne' p hp (List.mem_singleton.mp hq), c', rfl, hk', hr', hp''⟩
      rcases List.mem_append.mp hp with hp | hp
      · have hpf := hown p hp
        rcases List.mem_cons.mp hpf with e | hpf
        · have e2 := hownget p hp
          have e3 : p = (I, o) := by
            obtain ⟨a, b⟩ := p
            simp only at e e2
            subst e
            have : hh'.get? a = some o := ho
            rw [this] at e2
            rw [Option.some.inj e2]
          rw [e3]
          exact N' _ hI
        · cases l with
          | none => cases hpf
          | some a =>
            rw [Option.toList_some, List.mem_singleton] at hpf
            have hpN := N₁ p (List.mem_append_left _ hp)
            rcases hl2 a rfl with ⟨ob, hb⟩ | ⟨ob, hb⟩
            · rw [hpf, hb] at hpN
              exact absurd hpN.2.2 (by simp)
            · have q1 := N₁ _ (List.mem_append_right _ (hb i c hp'))
              have q2 := N' _ (hn _ (hb _ _ hp''))
              have e2 := hownget p hp
              have e3 : p = (a, ob) := by
                obtain ⟨a', b'⟩ := p
                simp only at hpf e2
                subst hpf
                have q3 := q1.1
                simp only at q3
                have : hh'.get? a' = some ob := q3
                have e2' : hh'.get? a' = some b' := e2
                rw [this] at e2'
                rw [Option.some.inj e2']
              rw [e3]
              exact q2
      · exact N' _ (hn p hp)
    cases f with
    | ret v => exact .ret q
    | brk => exact .brk q
    | next => exact .next (fin q)
    | cont => exact .cont (fin q)
  · rintro h' tk m' news' F' N' _ ⟨c, rfl, h1, h2, hp'⟩
    exact done c m' h' tk hp' (kst_frOut h1 h2 F') N'

theorem lp_list {σ : Type} {l : Addr} {vs : List Value} {m₀ : Str → Option Value} (Led : σ → List (Addr × Obj)) (ps : σ → List (Str × Value)) (stored : List Str) (P : Nat → σ → Prop) (c₀ : σ)
    (hh : A.handled = none) (hl : s.heap.IsList l vs.toArray) (hl' : (∃ o, h₀.get? l = some o) ∨ ∃ o, ∀ i c, P i c → (l, o) ∈ Led c)
    (F : Fr h₀ env.locals s.heap m₀) (N : News h₀ env.locals s.heap (Led c₀)) (hk : ∀ p ∈ ps c₀, m₀ p.1 = some p.2) (hp : P 0 c₀)
    (turn : ∀ (c : σ) (i : Nat) (v : Value) (u : Str → Option Value) h tk I o, vs[i]? = some v → P i c → (∀ p ∈ Led c, p.1 ≠ I) →
      Fr h₀ env.locals h (fun y => if y = x then some v else kstB (fun z => if stored.contains z then u z else m₀ z) (ps c) y) → News h₀ env.locals h ((I, o) :: Led c) →
      wpAny (model prog w) A (execs body env) (LpPost h₀ env.locals Led ps x stored m₀ (P (i + 1)) I o s Q) E { s with heap := h, toks := tk })
    (done : ∀ (c : σ) (u : Str → Option Value) h tk, P vs.length c → Fr h₀ env.locals h (fun y => if y = x then u y else kstB (fun z => if stored.contains z then u z else m₀ z) (ps c) y) → News h₀ env.locals h (Led c) → Q .next { s with heap := h, toks := tk }) :
    wpAny (model prog w) A (pyIter (.ref l)) (fun it s₂ => LoopAtV prog w A h₀ env x body Q E it s₂) E s := by
  refine wpAny_pyIter_list hl ?_
  obtain ⟨ol, hol, hcl⟩ := id hl
  have hlt : l < s.heap.objs.size := Heap.lt_size hol
  have hlL : l ≠ env.locals := by
    intro e
    rcases hl' with ⟨o, ho⟩ | ⟨o, ho⟩
    · exact absurd (Nat.lt_of_lt_of_le (Heap.lt_size ho) F.above) (e ▸ Nat.lt_irrefl _)
    · exact (N _ (ho 0 c₀ hp)).2.1 e
  have W := Walks.list (prog := prog) (w := w) hh s.heap.objs.size l (Nat.ne_of_lt hlt) vs.toArray
  refine lp_any (l := some l) (s := { s with heap := s.heap.push _ }) Led ps stored P c₀ W ⟨⟨_, Heap.get?_push_size _ rfl, rfl, rfl⟩, hl.push _⟩ (fun i h st => ?_) (fun e => absurd F.ns.lt (e ▸ Nat.lt_irrefl _)) (fun a ha => (Option.some.inj ha) ▸ hlL) (next_is_new F)
    (fun p hp e => absurd (Heap.lt_size (N p hp).1) (e ▸ Nat.lt_irrefl _)) (fun a ha => ?_) (F.push _) (fun p hp => ⟨Heap.get?_push_of_some _ (N p hp).1, (N p hp).2⟩) hk hp (fun a ha => (Option.some.inj ha) ▸ hl') ?_ ?_
  · obtain ⟨⟨o, ho, _⟩, _⟩ := st
    exact ⟨o, ho⟩
  · obtain rfl := Option.some.inj ha
    rcases hl' with h | ⟨o, h⟩
    · exact .inl h
    · exact .inr fun i c hp => ⟨o, h i c hp⟩
  · intro c i v u h tk o hi hv hp' hne F' N'
    exact turn c i v u h tk _ o (by simpa using hv) hp' hne F' N'
  · intro c u h tk hp' F' N'
    exact done c u h tk (by simpa using hp') F' N'

theorem lp_range {σ : Type} {r : Addr} {b₀ : Int} {t₀ u₀ v₀ : Tok} {n : Nat} {m₀ : Str → Option Value} (Led : σ → List (Addr × Obj)) (ps : σ → List (Str × Value)) (stored : List Str) (P : Nat → σ → Prop) (c₀ : σ)
    (hh : A.handled = none) (hr : IsRange s.heap r 0 b₀ 1 t₀ u₀ v₀) (hsmall : Builtin.Range.small 0 b₀ 1 = true) (hn : Builtin.Range.rangeSize 0 b₀ 1 = (n : Int))
    (F : Fr h₀ env.locals s.heap m₀) (N : News h₀ env.locals s.heap (Led c₀)) (hk : ∀ p ∈ ps c₀, m₀ p.1 = some p.2) (hp : P 0 c₀)
    (turn : ∀ (c : σ) (i : Nat) (t : Tok) (u : Str → Option Value) h tk I o, i < n → P i c → (∀ p ∈ Led c, p.1 ≠ I) →
      Fr h₀ env.locals h (fun y => if y = x then some (.int (i : Int) t) else kstB (fun z => if stored.contains z then u z else m₀ z) (ps c) y) → News h₀ env.locals h ((I, o) :: Led c) →
      wpAny (model prog w) A (execs body env) (LpPost h₀ env.locals Led ps x stored m₀ (P (i + 1)) I o s Q) E { s with heap := h, toks := tk })
    (done : ∀ (c : σ) (u : Str → Option Value) h tk, P n c → Fr h₀ env.locals h (fun y => if y = x then u y else kstB (fun z => if stored.contains z then u z else m₀ z) (ps c) y) → News h₀ env.locals h (Led c) → Q .next { s with heap := h, toks := tk }) :
    wpAny (model prog w) A (pyIter (.ref r)) (fun it s₂ => LoopAtV prog w A h₀ env x body Q E it s₂) E s := by
  refine wpAny_pyIter_range hr hsmall ?_
  have W := Walks.range (prog := prog) (w := w) (A := A) hh s.heap.objs.size 0 1 n
  refine lp_any (l := none) (s := { s with heap := s.heap.push _ }) Led ps stored P c₀ W (by show IsRangeIter _ _ _ _ _; rw [hn]; simpa using Heap.get?_push_size _ rfl) (fun i h st => ⟨_, st⟩) (fun e => absurd F.ns.lt (e ▸ Nat.lt_irrefl _)) (fun a ha => by cases ha) (next_is_new F)
    (fun p hp e => absurd (Heap.lt_size (N p hp).1) (e ▸ Nat.lt_irrefl _)) (fun a ha => by cases ha) (F.push _) (fun p hp => ⟨Heap.get?_push_of_some _ (N p hp).1, (N p hp).2⟩) hk hp (fun a ha => by cases ha) ?_ ?_
  · rintro c i v u h tk o hi ⟨t, rfl⟩ hp' hne F' N'
    have e : (0 : Int) + (i : Int) * 1 = (i : Int) := by omega
    rw [e] at F'
    exact turn c i t u h tk _ o hi hp' hne F' N'
  · intro c u h tk hp' F' N'
    exact done c u h tk hp' F' N'
theorem lp_listD {σ : Type} {D : Addr} {l : Addr} {vs : List Value} {m₀ : Str → Option Value} (Led : Addr → σ → List (Addr × Obj)) (ps : σ → List (Str × Value)) (stored : List Str) (P : Nat → σ → Prop) (c₀ : σ)
    (hh : A.handled = none) (hl : s.heap.IsList l vs.toArray) (hl' : (∃ o, h₀.get? l = some o) ∨ ∃ o, ∀ i c, P i c → (l, o) ∈ Led D c)
    (F : Fr h₀ env.locals s.heap m₀) (N : News h₀ env.locals s.heap (Led D c₀)) (hk : ∀ p ∈ ps c₀, m₀ p.1 = some p.2) (hp : P 0 c₀)
    (turn : ∀ (c : σ) (i : Nat) (v : Value) (u : Str → Option Value) h tk I o, vs[i]? = some v → P i c → (∀ p ∈ Led D c, p.1 ≠ I) →
      Fr h₀ env.locals h (fun y => if y = x then some v else kstB (fun z => if stored.contains z then u z else m₀ z) (ps c) y) → News h₀ env.locals h ((I, o) :: Led D c) →
      wpAny (model prog w) A (execs body env) (LpPost h₀ env.locals (Led D) ps x stored m₀ (P (i + 1)) I o s Q) E { s with heap := h, toks := tk })
    (done : ∀ (c : σ) (u : Str → Option Value) h tk, P vs.length c → Fr h₀ env.locals h (fun y => if y = x then u y else kstB (fun z => if stored.contains z then u z else m₀ z) (ps c) y) → News h₀ env.locals h (Led D c) → Q .next { s with heap := h, toks := tk }) :
    wpAny (model prog w) A (pyIter (.ref l)) (fun it s₂ => LoopAtV prog w A h₀ env x body Q E it s₂) E s := lp_list (Led D) ps stored P c₀ hh hl hl' F N hk hp turn done

theorem lp_listD2 {σ : Type} {D D₂ : Addr} {l : Addr} {vs : List Value} {m₀ : Str → Option Value} (Led : Addr → Addr → σ → List (Addr × Obj)) (ps : σ → List (Str × Value)) (stored : List Str) (P : Nat → σ → Prop) (c₀ : σ)
    (hh : A.handled = none) (hl : s.heap.IsList l vs.toArray) (hl' : (∃ o, h₀.get? l = some o) ∨ ∃ o, ∀ i c, P i c → (l, o) ∈ Led D D₂ c)
    (F : Fr h₀ env.locals s.heap m₀) (N : News h₀ env.locals s.heap (Led D D₂ c₀)) (hk : ∀ p ∈ ps c₀, m₀ p.1 = some p.2) (hp : P 0 c₀)
    (turn : ∀ (c : σ) (i : Nat) (v : Value) (u : Str → Option Value) h tk I o, vs[i]? = some v → P i c → (∀ p ∈ Led D D₂ c, p.1 ≠ I) →
      Fr h₀ env.locals h (fun y => if y = x then some v else kstB (fun z => if stored.contains z then u z else m₀ z) (ps c) y) → News h₀ env.locals h ((I, o) :: Led D D₂ c) →
      wpAny (model prog w) A (execs body env) (LpPost h₀ env.locals (Led D D₂) ps x stored m₀ (P (i + 1)) I o s Q) E { s with heap := h, toks := tk })
    (done : ∀ (c : σ) (u : Str → Option Value) h tk, P vs.length c → Fr h₀ env.locals h (fun y => if y = x then u y else kstB (fun z => if stored.contains z then u z else m₀ z) (ps c) y) → News h₀ env.locals h (Led D D₂ c) → Q .next { s with heap := h, toks := tk }) :
    wpAny (model prog w) A (pyIter (.ref l)) (fun it s₂ => LoopAtV prog w A h₀ env x body Q E it s₂) E s := lp_list (Led D D₂) ps stored P c₀ hh hl hl' F N hk hp turn done

theorem lp_listD3 {σ : Type} {D D₂ D₃ : Addr} {l : Addr} {vs : List Value} {m₀ : Str → Option Value} (Led : Addr → Addr → Addr → σ → List (Addr × Obj)) (ps : σ → List (Str × Value)) (stored : List Str) (P : Nat → σ → Prop) (c₀ : σ)
    (hh : A.handled = none) (hl : s.heap.IsList l vs.toArray) (hl' : (∃ o, h₀.get? l = some o) ∨ ∃ o, ∀ i c, P i c → (l, o) ∈ Led D D₂ D₃ c)
    (F : Fr h₀ env.locals s.heap m₀) (N : News h₀ env.locals s.heap (Led D D₂ D₃ c₀)) (hk : ∀ p ∈ ps c₀, m₀ p.1 = some p.2) (hp : P 0 c₀)
    (turn : ∀ (c : σ) (i : Nat) (v : Value) (u : Str → Option Value) h tk I o, vs[i]? = some v → P i c → (∀ p ∈ Led D D₂ D₃ c, p.1 ≠ I) →
      Fr h₀ env.locals h (fun y => if y = x then some v else kstB (fun z => if stored.contains z then u z else m₀ z) (ps c) y) → News h₀ env.locals h ((I, o) :: Led D D₂ D₃ c) →
      wpAny (model prog w) A (execs body env) (LpPost h₀ env.locals (Led D D₂ D₃) ps x stored m₀ (P (i + 1)) I o s Q) E { s with heap := h, toks := tk })
    (done : ∀ (c : σ) (u : Str → Option Value) h tk, P vs.length c → Fr h₀ env.locals h (fun y => if y = x then u y else kstB (fun z => if stored.contains z then u z else m₀ z) (ps c) y) → News h₀ env.locals h (Led D D₂ D₃ c) → Q .next { s with heap := h, toks := tk }) :
    wpAny (model prog w) A (pyIter (.ref l)) (fun it s₂ => LoopAtV prog w A h₀ env x body Q E it s₂) E s := lp_list (Led D D₂ D₃) ps stored P c₀ hh hl hl' F N hk hp turn done

theorem lp_rangeD {σ : Type} {D : Addr} {r : Addr} {b₀ : Int} {t₀ u₀ v₀ : Tok} {n : Nat} {m₀ : Str → Option Value} (Led : Addr → σ → List (Addr × Obj)) (ps : σ → List (Str × Value)) (stored : List Str) (P : Nat → σ → Prop) (c₀ : σ)
    (hh : A.handled = none) (hr : IsRange s.heap r 0 b₀ 1 t₀ u₀ v₀) (hsmall : Builtin.Range.small 0 b₀ 1 = true) (hn : Builtin.Range.rangeSize 0 b₀ 1 = (n : Int))
    (F : Fr h₀ env.locals s.heap m₀) (N : News h₀ env.locals s.heap (Led D c₀)) (hk : ∀ p ∈ ps c₀, m₀ p.1 = some p.2) (hp : P 0 c₀)
    (turn : ∀ (c : σ) (i : Nat) (t : Tok) (u : Str → Option Value) h tk I o, i < n → P i c → (∀ p ∈ Led D c, p.1 ≠ I) →
      Fr h₀ env.locals h (fun y => if y = x then some (.int (i : Int) t) else kstB (fun z => if stored.contains z then u z else m₀ z) (ps c) y) → News h₀ env.locals h ((I, o) :: Led D c) →
      wpAny (model prog w) A (execs body env) (LpPost h₀ env.locals (Led D) ps x stored m₀ (P (i + 1)) I o s Q) E { s with heap := h, toks := tk })
    (done : ∀ (c : σ) (u : Str → Option Value) h tk, P n c → Fr h₀ env.locals h (fun y => if y = x then u y else kstB (fun z => if stored.contains z then u z else m₀ z) (ps c) y) → News h₀ env.locals h (Led D c) → Q .next { s with heap := h, toks := tk }) :
    wpAny (model prog w) A (pyIter (.ref r)) (fun it s₂ => LoopAtV prog w A h₀ env x body Q E it s₂) E s := lp_range (Led D) ps stored P c₀ hh hr hsmall hn F N hk hp turn done

theorem lp_rangeD2 {σ : Type} {D D₂ : Addr} {r : Addr} {b₀ : Int} {t₀ u₀ v₀ : Tok} {n : Nat} {m₀ : Str → Option Value} (Led : Addr → Addr → σ → List (Addr × Obj)) (ps : σ → List (Str × Value)) (stored : List Str) (P : Nat → σ → Prop) (c₀ : σ)
    (hh : A.handled = none) (hr : IsRange s.heap r 0 b₀ 1 t₀ u₀ v₀) (hsmall : Builtin.Range.small 0 b₀ 1 = true) (hn : Builtin.Range.rangeSize 0 b₀ 1 = (n : Int))
    (F : Fr h₀ env.locals s.heap m₀) (N : News h₀ env.locals s.heap (Led D D₂ c₀)) (hk : ∀ p ∈ ps c₀, m₀ p.1 = some p.2) (hp : P 0 c₀)
    (turn : ∀ (c : σ) (i : Nat) (t : Tok) (u : Str → Option Value) h tk I o, i < n → P i c → (∀ p ∈ Led D D₂ c, p.1 ≠ I) →
      Fr h₀ env.locals h (fun y => if y = x then some (.int (i : Int) t) else kstB (fun z => if stored.contains z then u z else m₀ z) (ps c) y) → News h₀ env.locals h ((I, o) :: Led D D₂ c) →
      wpAny (model prog w) A (execs body env) (LpPost h₀ env.locals (Led D D₂) ps x stored m₀ (P (i + 1)) I o s Q) E { s with heap := h, toks := tk })
    (done : ∀ (c : σ) (u : Str → Option Value) h tk, P n c → Fr h₀ env.locals h (fun y => if y = x then u y else kstB (fun z => if stored.contains z then u z else m₀ z) (ps c) y) → News h₀ env.locals h (Led D D₂ c) → Q .next { s with heap := h, toks := tk }) :
    wpAny (model prog w) A (pyIter (.ref r)) (fun it s₂ => LoopAtV prog w A h₀ env x body Q E it s₂) E s := lp_range (Led D D₂) ps stored P c₀ hh hr hsmall hn F N hk hp turn done

theorem lp_rangeD3 {σ : Type} {D D₂ D₃ : Addr} {r : Addr} {b₀ : Int} {t₀ u₀ v₀ : Tok} {n : Nat} {m₀ : Str → Option Value} (Led : Addr → Addr → Addr → σ → List (Addr × Obj)) (ps : σ → List (Str × Value)) (stored : List Str) (P : Nat → σ → Prop) (c₀ : σ)
    (hh : A.handled = none) (hr : IsRange s.heap r 0 b₀ 1 t₀ u₀ v₀) (hsmall : Builtin.Range.small 0 b₀ 1 = true) (hn : Builtin.Range.rangeSize 0 b₀ 1 = (n : Int))
    (F : Fr h₀ env.locals s.heap m₀) (N : News h₀ env.locals s.heap (Led D D₂ D₃ c₀)) (hk : ∀ p ∈ ps c₀, m₀ p.1 = some p.2) (hp : P 0 c₀)
    (turn : ∀ (c : σ) (i : Nat) (t : Tok) (u : Str → Option Value) h tk I o, i < n → P i c → (∀ p ∈ Led D D₂ D₃ c, p.1 ≠ I) →
      Fr h₀ env.locals h (fun y => if y = x then some (.int (i : Int) t) else kstB (fun z => if stored.contains z then u z else m₀ z) (ps c) y) → News h₀ env.locals h ((I, o) :: Led D D₂ D₃ c) →
      wpAny (model prog w) A (execs body env) (LpPost h₀ env.locals (Led D D₂ D₃) ps x stored m₀ (P (i + 1)) I o s Q) E { s with heap := h, toks := tk })
    (done : ∀ (c : σ) (u : Str → Option Value) h tk, P n c → Fr h₀ env.locals h (fun y => if y = x then u y else kstB (fun z => if stored.contains z then u z else m₀ z) (ps c) y) → News h₀ env.locals h (Led D D₂ D₃ c) → Q .next { s with heap := h, toks := tk }) :
    wpAny (model prog w) A (pyIter (.ref r)) (fun it s₂ => LoopAtV prog w A h₀ env x body Q E it s₂) E s := lp_range (Led D D₂ D₃) ps stored P c₀ hh hr hsmall hn F N hk hp turn done

end
end Mine
end

section
open PySem PySem.W PySem.Calls PyProof.Rows
set_option maxRecDepth 100000
set_option maxHeartbeats 8000000
namespace Mine
section
variable {prog : Program} {w : World} {A : Around} {E : Value → Shared → Prop} {s : Shared} {env : Env} {h₀ : Heap} {target : Expr} {body : List Stmt} {Q : Flow → Shared → Prop}

/-- the end of a turn whose target is any -/
def LtEnd {σ : Type} (h₀ : Heap) (L : Addr) (Led : σ → List (Addr × Obj)) (ps : σ → List (Str × Value)) (stored : List Str) (m₀ : Str → Option Value) (P : σ → Prop) (I : Addr) (o : Obj) (s : Shared) (f : Flow) (s₂ : Shared) : Prop :=
  f = .next ∧ ∃ (c' : σ) (h' : Heap) (tk : Nat) (m' : Str → Option Value) (news' : List (Addr × Obj)), s₂ = { s with heap := h', toks := tk } ∧ Fr h₀ L h' m' ∧ News h₀ L h' news' ∧ (I, o) ∈ news' ∧ (∀ p ∈ Led c', p ∈ news') ∧ (∀ p ∈ Led c', p.1 ≠ I) ∧ (∀ p ∈ ps c', m' p.1 = some p.2) ∧ (∀ z, (∀ p ∈ ps c', z ≠ p.1) → stored.contains z = false → m' z = m₀ z) ∧ P c'

theorem LtEnd.intro {σ : Type} {L : Addr} {Led : σ → List (Addr × Obj)} {ps : σ → List (Str × Value)} {stored : List Str} {m₀ : Str → Option Value} {P : σ → Prop} {I : Addr} {o : Obj} {s : Shared} (c' : σ) {h' : Heap} {tk : Nat} {m' : Str → Option Value} {news' : List (Addr × Obj)}
    (F : Fr h₀ L h' m') (N : News h₀ L h' news') (hI : (I, o) ∈ news') (hn : ∀ p ∈ Led c', p ∈ news') (hne : ∀ p ∈ Led c', p.1 ≠ I) (hk : ∀ p ∈ ps c', m' p.1 = some p.2) (hr : ∀ z, (∀ p ∈ ps c', z ≠ p.1) → stored.contains z = false → m' z = m₀ z) (hp : P c') :
    LtEnd h₀ L Led ps stored m₀ P I o s .next { s with heap := h', toks := tk } := ⟨rfl, c', h', tk, m', news', rfl, F, N, hI, hn, hne, hk, hr, hp⟩

theorem lt_list {σ : Type} {l : Addr} {vs : List Value} {m₀ : Str → Option Value} (Led : σ → List (Addr × Obj)) (ps : σ → List (Str × Value)) (stored : List Str) (P : Nat → σ → Prop) (c₀ : σ)
    (hh : A.handled = none) (hl : s.heap.IsList l vs.toArray) (hl' : (∃ o, h₀.get? l = some o) ∨ ∃ o, ∀ i c, P i c → (l, o) ∈ Led c)
    (F : Fr h₀ env.locals s.heap m₀) (N : News h₀ env.locals s.heap (Led c₀)) (hk : ∀ p ∈ ps c₀, m₀ p.1 = some p.2) (hp : P 0 c₀)
    (turn : ∀ (c : σ) (i : Nat) (v : Value) (u : Str → Option Value) (s₁ : Shared) h tk I o, vs[i]? = some v → P i c → (∀ p ∈ Led c, p.1 ≠ I) →
      Fr h₀ env.locals h (kstB (fun z => if stored.contains z then u z else m₀ z) (ps c)) → News h₀ env.locals h ((I, o) :: Led c) →
      wpAny (model prog w) A (assign target env v) (fun _ s₃ => wpAny (model prog w) A (execs body env) (LtEnd h₀ env.locals Led ps stored m₀ (P (i + 1)) I o s₁) E s₃) E { s₁ with heap := h, toks := tk })
    (done : ∀ (c : σ) (u : Str → Option Value) h tk, P vs.length c → Fr h₀ env.locals h (kstB (fun z => if stored.contains z then u z else m₀ z) (ps c)) → News h₀ env.locals h (Led c) → Q .next { s with heap := h, toks := tk }) :
    wpAny (model prog w) A (pyIter (.ref l)) (fun it s₂ => LoopAtT prog w A h₀ env target body Q E it s₂) E s := by
  refine wpAny_pyIter_list hl ?_
  obtain ⟨ol, hol, hcl⟩ := id hl
  have hlt : l < s.heap.objs.size := Heap.lt_size hol
  have hlL : l ≠ env.locals := by
    intro e
    rcases hl' with ⟨o, ho⟩ | ⟨o, ho⟩
    · exact absurd (Nat.lt_of_lt_of_le (Heap.lt_size ho) F.above) (e ▸ Nat.lt_irrefl _)
    · exact (N _ (ho 0 c₀ hp)).2.1 e
  have W := Walks.list (prog := prog) (w := w) hh s.heap.objs.size l (Nat.ne_of_lt hlt) vs.toArray
  let J : Nat → (Str → Option Value) → List (Addr × Obj) → Prop := fun i m nx => ∃ c, nx = Led c ∧ (∀ p ∈ ps c, m p.1 = some p.2) ∧ (∀ z, (∀ p ∈ ps c, z ≠ p.1) → stored.contains z = false → m z = m₀ z) ∧ P i c
  refine ⟨s.heap.objs.size, _, _, _, _, _, m₀, Led c₀, J, rfl, W, ?_, ?_, ?_, ⟨⟨_, Heap.get?_push_size _ rfl, rfl, rfl⟩, hl.push _⟩, F.push _, (fun p hp => ⟨Heap.get?_push_of_some _ (N p hp).1, (N p hp).2⟩), (fun i s' v Q' st hQ' => letGo_listiter st.1 hQ'), ⟨c₀, rfl, hk, fun _ _ _ => rfl, hp⟩, ?_, ?_⟩
  · intro hm
    rcases List.mem_cons.mp hm with e | hm
    · exact absurd F.ns.lt (e ▸ Nat.lt_irrefl _)
    · exact hlL (List.mem_singleton.mp hm).symm
  · intro b hb
    rw [List.mem_singleton.mp hb]
    exact next_is_new F
  · intro p hp hI
    exact absurd (Heap.lt_size (N p hp).1) ((List.mem_singleton.mp hI) ▸ Nat.lt_irrefl _)
  · rintro i v m₁ news₁ s₁ own hin hP ⟨c, rfl, h1, h2, hp'⟩ hoff hown hownget hownall hst₁ F₁ N₁
    obtain ⟨⟨o, ho, _⟩, _⟩ := id hst₁
    have hI0 : h₀.get? s.heap.objs.size = none := next_is_new F
    have hIo : (s.heap.objs.size, o) ∈ own := hownall _ (.head _) hI0 o ho
    have N₂ : News h₀ env.locals s₁.heap ((s.heap.objs.size, o) :: Led c) := fun p hp => by
      rcases List.mem_cons.mp hp with rfl | hp
      · exact N₁ _ (List.mem_append_left _ hIo)
      · exact N₁ _ (List.mem_append_right _ hp)
    have hne : ∀ p ∈ Led c, p.1 ≠ s.heap.objs.size := fun p hp e => hoff p hp (by rw [e]; exact .head _)
    refine wpAny_mono (turn c i v m₁ s₁ s₁.heap s₁.toks _ o (by simpa using hP) hp' hne (ksw_fr h1 h2 F₁) N₂) (fun _ s₂ q => wpAny_mono q (fun f s₃ q => ?_) fun _ _ e => e) fun _ _ e => e
    obtain ⟨rfl, c', h', tk, m', news', rfl, F', N', hI, hn, hne', hk', hr', hp''⟩ := q
    refine ⟨rfl, h', tk, m', Led c', rfl, F', fun p hp => ?_, fun p hp hq => hne' p hp (List.mem_singleton.mp hq), c', rfl, hk', hr', hp''⟩
    rcases List.mem_append.mp hp with hp | hp
    · have hpf := hown p hp
      have e2 := hownget p hp
      rcases List.mem_cons.mp hpf with e | hpf
      · have e3 : p = (s.heap.objs.size, o) := by
          obtain ⟨a, b⟩ := p
          simp only at e e2
          subst e
          rw [ho] at e2
          rw [Option.some.inj e2]
        rw [e3]
        exact N' _ hI
      · rw [List.mem_singleton] at hpf
        have hpN := N₁ p (List.mem_append_left _ hp)
        rcases hl' with ⟨ob, hb⟩ | ⟨ob, hb⟩
        · rw [hpf, hb] at hpN
          exact absurd hpN.2.2 (by simp)
        · have q1 := (N₁ _ (List.mem_append_right _ (hb i c hp'))).1
          have q2 := N' _ (hn _ (hb _ _ hp''))
          have e3 : p = (l, ob) := by
            obtain ⟨a', b'⟩ := p
            simp only at hpf e2 q1
            subst hpf
            rw [q1] at e2
            rw [Option.some.inj e2]
          rw [e3]
          exact q2
    · exact N' _ (hn p hp)
  · rintro h' tk m' news' F' N' _ ⟨c, rfl, h1, h2, hp'⟩
    exact done c m' h' tk (by simpa using hp') (ksw_fr h1 h2 F') N'
theorem lt_listD {σ : Type} {D : Addr} {l : Addr} {vs : List Value} {m₀ : Str → Option Value} (Led : Addr → σ → List (Addr × Obj)) (ps : σ → List (Str × Value)) (stored : List Str) (P : Nat → σ → Prop) (c₀ : σ)
    (hh : A.handled = none) (hl : s.heap.IsList l vs.toArray) (hl' : (∃ o, h₀.get? l = some o) ∨ ∃ o, ∀ i c, P i c → (l, o) ∈ Led D c)
    (F : Fr h₀ env.locals s.heap m₀) (N : News h₀ env.locals s.heap (Led D c₀)) (hk : ∀ p ∈ ps c₀, m₀ p.1 = some p.2) (hp : P 0 c₀)
    (turn : ∀ (c : σ) (i : Nat) (v : Value) (u : Str → Option Value) (s₁ : Shared) h tk I o, vs[i]? = some v → P i c → (∀ p ∈ Led D c, p.1 ≠ I) →
      Fr h₀ env.locals h (kstB (fun z => if stored.contains z then u z else m₀ z) (ps c)) → News h₀ env.locals h ((I, o) :: Led D c) →
      wpAny (model prog w) A (assign target env v) (fun _ s₃ => wpAny (model prog w) A (execs body env) (LtEnd h₀ env.locals (Led D) ps stored m₀ (P (i + 1)) I o s₁) E s₃) E { s₁ with heap := h, toks := tk })
    (done : ∀ (c : σ) (u : Str → Option Value) h tk, P vs.length c → Fr h₀ env.locals h (kstB (fun z => if stored.contains z then u z else m₀ z) (ps c)) → News h₀ env.locals h (Led D c) → Q .next { s with heap := h, toks := tk }) :
    wpAny (model prog w) A (pyIter (.ref l)) (fun it s₂ => LoopAtT prog w A h₀ env target body Q E it s₂) E s := lt_list (Led D) ps stored P c₀ hh hl hl' F N hk hp turn done

theorem lt_listD2 {σ : Type} {D D₂ : Addr} {l : Addr} {vs : List Value} {m₀ : Str → Option Value} (Led : Addr → Addr → σ → List (Addr × Obj)) (ps : σ → List (Str × Value)) (stored : List Str) (P : Nat → σ → Prop) (c₀ : σ)
    (hh : A.handled = none) (hl : s.heap.IsList l vs.toArray) (hl' : (∃ o, h₀.get? l = some o) ∨ ∃ o, ∀ i c, P i c → (l, o) ∈ Led D D₂ c)
    (F : Fr h₀ env.locals s.heap m₀) (N : News h₀ env.locals s.heap (Led D D₂ c₀)) (hk : ∀ p ∈ ps c₀, m₀ p.1 = some p.2) (hp : P 0 c₀)
    (turn : ∀ (c : σ) (i : Nat) (v : Value) (u : Str → Option Value) (s₁ : Shared) h tk I o, vs[i]? = some v → P i c → (∀ p ∈ Led D D₂ c, p.1 ≠ I) →
      Fr h₀ env.locals h (kstB (fun z => if stored.contains z then u z else m₀ z) (ps c)) → News h₀ env.locals h ((I, o) :: Led D D₂ c) →
      wpAny (model prog w) A (assign target env v) (fun _ s₃ => wpAny (model prog w) A (execs body env) (LtEnd h₀ env.locals (Led D D₂) ps stored m₀ (P (i + 1)) I o s₁) E s₃) E { s₁ with heap := h, toks := tk })
    (done : ∀ (c : σ) (u : Str → Option Value) h tk, P vs.length c → Fr h₀ env.locals h (kstB (fun z => if stored.contains z then u z else m₀ z) (ps c)) → News h₀ env.locals h (Led D D₂ c) → Q .next { s with heap := h, toks := tk }) :
    wpAny (model prog w) A (pyIter (.ref l)) (fun it s₂ => LoopAtT prog w A h₀ env target body Q E it s₂) E s := lt_list (Led D D₂) ps stored P c₀ hh hl hl' F N hk hp turn done

theorem lt_listD3 {σ : Type} {D D₂ D₃ : Addr} {l : Addr} {vs : List Value} {m₀ : Str → Option Value} (Led : Addr → Addr → Addr → σ → List (Addr × Obj)) (ps : σ → List (Str × Value)) (stored : List Str) (P : Nat → σ → Prop) (c₀ : σ)
    (hh : A.handled = none) (hl : s.heap.IsList l vs.toArray) (hl' : (∃ o, h₀.get? l = some o) ∨ ∃ o, ∀ i c, P i c → (l, o) ∈ Led D D₂ D₃ c)
    (F : Fr h₀ env.locals s.heap m₀) (N : News h₀ env.locals s.heap (Led D D₂ D₃ c₀)) (hk : ∀ p ∈ ps c₀, m₀ p.1 = some p.2) (hp : P 0 c₀)
    (turn : ∀ (c : σ) (i : Nat) (v : Value) (u : Str → Option Value) (s₁ : Shared) h tk I o, vs[i]? = some v → P i c → (∀ p ∈ Led D D₂ D₃ c, p.1 ≠ I) →
      Fr h₀ env.locals h (kstB (fun z => if stored.contains z then u z else m₀ z) (ps c)) → News h₀ env.locals h ((I, o) :: Led D D₂ D₃ c) →
      wpAny (model prog w) A (assign target env v) (fun _ s₃ => wpAny (model prog w) A (execs body env) (LtEnd h₀ env.locals (Led D D₂ D₃) ps stored m₀ (P (i + 1)) I o s₁) E s₃) E { s₁ with heap := h, toks := tk })
    (done : ∀ (c : σ) (u : Str → Option Value) h tk, P vs.length c → Fr h₀ env.locals h (kstB (fun z => if stored.contains z then u z else m₀ z) (ps c)) → News h₀ env.locals h (Led D D₂ D₃ c) → Q .next { s with heap := h, toks := tk }) :
    wpAny (model prog w) A (pyIter (.ref l)) (fun it s₂ => LoopAtT prog w A h₀ env target body Q E it s₂) E s := lt_list (Led D D₂ D₃) ps stored P c₀ hh hl hl' F N hk hp turn done

end
end Mine
end

section
open PySem PySem.W PySem.Calls PyProof.Rows
set_option maxRecDepth 100000
set_option maxHeartbeats 8000000
namespace Mine
section
variable {prog : Program} {w : World} {A : Around} {h₀ : Heap} {L : Addr} {m : Str → Option Value} {env : Env} {ct elt : Expr} {x : Str} {scope : Scope} {cl : List (Str × Addr)} {s : Shared} {S : List (Addr × Obj) → Prop} {P : Nat → Value → Prop} {Fin : List Value → List (Addr × Obj) → Prop} {news : List (Addr × Obj)}

theorem cr_U {n : Nat} (J : Nat → List Value → List (Addr × Obj) → Prop) (hJ : J 0 [] news)
    (turn : ∀ i ys nx v I oI C oC D m₂ h tk (E' : Value → Shared → Prop), i < n → P i v → J i ys nx → LCg.NsObj oC m₂ → m₂ x = some v → Fr h₀ L h m → News h₀ L h ((I, oI) :: (C, oC) :: (D, LCg.lst ys) :: nx) → LCg.Off3 I C D nx → ((@Ne Nat I C) ∧ (@Ne Nat I D) ∧ (@Ne Nat C D)) →
      wpAny (model prog w) A (eval elt (compEnvC scope cl C env)) (LCg.CompEnd h₀ L m { s with heap := h, toks := tk } I oI C oC D (LCg.lst ys) S (fun y news' => J (i + 1) (ys ++ [y]) news')) E' { s with heap := h, toks := tk })
    (fin : ∀ ys nx, J n ys nx → Fin ys nx) : LCg.CompRest prog w A h₀ L m env elt x scope cl s S P Fin n 0 [] news := by
  have key : ∀ (j i : Nat) (ys : List Value) (nx : List (Addr × Obj)), i + j = n → J i ys nx → LCg.CompRest prog w A h₀ L m env elt x scope cl s S P Fin j i ys nx := by
    intro j
    induction j with
    | zero =>
      intro i ys nx hi hy
      have e : i = n := by omega
      subst e
      exact LCg.CompRest.zero (fin ys nx hy)
    | succ j ih =>
      intro i ys nx hi hy
      refine LCg.CompRest.succ ?_
      intro v I oI C oC D m₂ h tk E' hv hC hx F N off ne
      refine wpAny_mono (turn i ys nx v I oI C oC D m₂ h tk E' (by omega) hv hy hC hx F N off ne) (fun y s₂ hq => ?_) fun _ _ e => e
      obtain ⟨h', tk', nw, e, F', N', off', hS, hn⟩ := hq
      exact ⟨h', tk', nw, e, F', N', off', hS, ih (i + 1) _ nw (by omega) hn⟩
  exact key n 0 [] news (by omega) hJ

theorem cr_T {n : Nat} (J : Nat → List Value → List (Addr × Obj) → Prop) (hJ : J 0 [] news)
    (turn : ∀ i ys nx v I oI C oC D m₂ h tk (E' : Value → Shared → Prop), i < n → P i v → J i ys nx → LCg.NsObj oC m₂ → m₂ x = some v → Fr h₀ L h m → News h₀ L h ((I, oI) :: (C, oC) :: (D, LCg.lst ys) :: nx) → LCg.Off3 I C D nx → ((@Ne Nat I C) ∧ (@Ne Nat I D) ∧ (@Ne Nat C D)) →
      wpAny (model prog w) A (isTrue ct (compEnvC scope cl C env) (eval ct (compEnvC scope cl C env))) (fun ok s' => if ok = true then
        wpAny (model prog w) A (eval elt (compEnvC scope cl C env)) (LCg.CompEnd h₀ L m { s with heap := h, toks := tk } I oI C oC D (LCg.lst ys) S (fun y news' => J (i + 1) (ys ++ [y]) news')) E' s'
        else LCg.CompEnd h₀ L m { s with heap := h, toks := tk } I oI C oC D (LCg.lst ys) S (fun _ news' => J (i + 1) ys news') Value.none s') E' { s with heap := h, toks := tk })
    (fin : ∀ ys nx, J n ys nx → Fin ys nx) : LCt.CompRestT prog w A h₀ L m env ct elt x scope cl s S P Fin n 0 [] news := by
  have key : ∀ (j i : Nat) (ys : List Value) (nx : List (Addr × Obj)), i + j = n → J i ys nx → LCt.CompRestT prog w A h₀ L m env ct elt x scope cl s S P Fin j i ys nx := by
    intro j
    induction j with
    | zero =>
      intro i ys nx hi hy
      have e : i = n := by omega
      subst e
      exact LCt.CompRestT.zero (fin ys nx hy)
    | succ j ih =>
      intro i ys nx hi hy
      refine LCt.CompRestT.succ ?_
      intro v I oI C oC D m₂ h tk E' hv hC hx F N off ne
      refine wpAny_mono (turn i ys nx v I oI C oC D m₂ h tk E' (by omega) hv hy hC hx F N off ne) (fun ok s₂ hq => ?_) fun _ _ e => e
      cases ok with
      | true =>
        simp only [if_true] at hq ⊢
        refine wpAny_mono hq (fun y s₃ hq => ?_) fun _ _ e => e
        obtain ⟨h', tk', nw, e, F', N', off', hS, hn⟩ := hq
        exact ⟨h', tk', nw, e, F', N', off', hS, ih (i + 1) _ nw (by omega) hn⟩
      | false =>
        simp only [Bool.false_eq_true, if_false] at hq ⊢
        obtain ⟨h', tk', nw, e, F', N', off', hS, hn⟩ := hq
        exact ⟨h', tk', nw, e, F', N', off', hS, ih (i + 1) _ nw (by omega) hn⟩
  exact key n 0 [] news (by omega) hJ
end
end Mine
end

section
open PySem PySem.W PySem.Calls PyProof.Rows
set_option maxRecDepth 100000
set_option maxHeartbeats 8000000
namespace Mine


theorem bisr_E {w : World} {dp un : Nat} {gd : Option (List Code)} {outer : List Env} {s : Shared} {Q E : Value → Shared → Prop} {l : Addr} {vs : List Value} {ws : List Str} {x : Str} {t1 t2 : Tok}
    (S : Site w outer s.heap) (hdp : dp < 900) (hun : un < 9000) (hl : s.heap.IsList l vs.toArray) (hv : StrsAre vs ws) (hz : ws.length ≤ 100)
    (hd : Down ws fun y => ¬ x.cps.toList < y.cps.toList)
    (k : ∀ i t h' tk', BL ws (fun y => ¬ x.cps.toList < y.cps.toList) i i → Ext s.heap h' → Q (.int i t) { s with heap := h', toks := tk' }) :
    wpAny (model PySem.Challenge.rw_pm0061_01.row.prog w) (TA dp un gd outer) (call (.ref 70) [.ref l, .str x t1, .int 0 t2, .none]) Q E s := by
  k_with_none
  k_with "subscriptTail Name Name ref int" => (k_here; (with_reducible show wpAny _ _ (subscriptTail _ _ (Value.ref _) (Value.int _ _)) _ _ _); (with_unfolding_all refine' item_strs ?zk1 ?zk2 ?zk3 ?zk4 ?zk5 ?_ ?zk6; (case zk1 => is_list); (case zk2 => assumption); (case zk3 => l_idx); (case zk4 => l_idx); (case zk5 => omega); (case zk6 => with_unfolding_all rfl); k_whole); intro _)
  have X0 := S.kin; revert X0; k_fill; intro _
  refine callE ?_
  refine' enterE (binds := [(Str.ofString "a", .ref l), (Str.ofString "x", .str x t1), (Str.ofString "lo", .int 0 t2), (Str.ofString "hi", .none), (Str.ofString "key", .none)]) ?k1 ?k8 ?k6 ?k7 ?k9 ?kB ?_ ?c2 ?c3 ?c4 ?c5; (case k1 => assumption); (case k6 => k_is); (case k7 => k_is); (case k8 => (simp only [recursionLimit]; omega)); (case k9 => (refine' kp_binds ?kx ?ke; (case kx => k_in); (case ke => exact fun _ => rfl))); (case c5 => decide); (case kB => exact locs rfl); (case c2 => exact rfl); (case c3 => exact rfl); (case c4 => exact rfl); intro p' lo' me' mg' mb' ba' A' L' h' B' X' T' F' N'; (try dsimp only); (try k_fold)
  k_with "state" => exact ⟨by omega, by omega, by omega, BL.start⟩
  k_with "exec While Compare cons nil" => k_while (fun _ lo hi => 0 ≤ lo ∧ lo ≤ hi ∧ hi ≤ (ws.length : Int) ∧ BL ws (fun y => ¬ x.cps.toList < y.cps.toList) lo hi) (fun _ lo hi => (hi - lo).toNat) "lo" "hi"
  k_steps
  · (refine ksw_end ⟨_, _, _, _⟩ (by assumption) (by assumption) (by kst_in) (by kst_facts) (by kst_all) (by ksw_same) ?_ ?_)
    · have b := BL.hi (by assumption) hd (by assumption) (not_not_intro (by assumption))
      exact ⟨b.1, b.2.1, b.2.2.1, b⟩
    · simp only [fd2]; omega
  · (refine ksw_end ⟨_, _, _, _⟩ (by assumption) (by assumption) (by kst_in) (by kst_facts) (by kst_all) (by ksw_same) ?_ ?_)
    · have b := BL.lo (by assumption) hd (by assumption) (by assumption)
      exact ⟨b.1, b.2.1, b.2.2.1, b⟩
    · simp only [fd2]; omega
  · exact k _ _ _ _ (BL.done (by assumption) (by assumption)) (Fr.keep (by assumption))
end Mine
end

section
open PySem PySem.W PySem.Calls PyProof.Rows
set_option maxRecDepth 100000
set_option maxHeartbeats 8000000
namespace Mine

theorem use_site {w : World} {outer : List Env} {A₀ : Around} {base h₀ h : Heap} {L : Addr} {m : Str → Option Value} {env : Env} {p : Program} {loose : List Str} {mean : ExcName → Option Value} {mg mb : Str → Option Value} {news : List (Addr × Obj)} {C : Prop}
    (k : Site w (env :: outer) h → (∀ h', Ext h h' → Fr h₀ L h' m ∧ News h₀ L h' news) → C)
    (B : Below A₀ base outer h₀) (F : Fr h₀ L h m) (X : (heap w.params).In h₀) (T : Top p loose mean mg mb h₀) (N : News h₀ L h news) (hf : env.frame = some L) (hke : env.scope.kind = .function) : C :=
  k (Site.of B F X T hf hke) fun _ e => ⟨F.keeps e, N.grown e⟩


theorem item_strsB {prog : Program} {w : World} {A : Around} {E : Value → Shared → Prop} {s : Shared} {value slice : Expr} {l : Addr} {vs : List Value} {ws : List Str} {i : Int} {u : Tok} {B : Nat} {Q : Value → Shared → Prop}
    (hl : s.heap.IsList l vs.toArray) (hv : StrsAre vs ws) (h0 : 0 ≤ i) (h1 : i < (ws.length : Int)) (hz : ws.length ≤ 1000) (hB : ∀ y ∈ ws, y.length ≤ B) (h : ∀ t, (ws.getD i.toNat Str.empty).length ≤ B → Q (.str (ws.getD i.toNat Str.empty) t) s)
    (hs : subscripted slice false (.ref l) (.int i u) = operate [.ref l, .int i u] (getItem (.ref l) (.int i u)) := by with_unfolding_all rfl) :
    wpAny (model prog w) A (subscriptTail value slice (.ref l) (.int i u)) Q E s := by
  refine item_strs hl hv h0 h1 hz (fun t => h t (hB _ ?_)) hs
  have hlt : i.toNat < ws.length := by omega
  rw [List.getD_eq_getElem?_getD, List.getElem?_eq_getElem hlt]
  exact List.getElem_mem hlt



def insT (r : List Str) (i : Int) (x : Str) : List Str := r.take i.toNat ++ x :: r.drop i.toNat

theorem strs_take : ∀ {vs : List Value} {ws : List Str}, StrsAre vs ws → ∀ n, StrsAre (vs.take n) (ws.take n)
  | _, _, .nil, n => by simp; exact .nil
  | _, _, .cons a t h, 0 => .nil
  | _, _, .cons a t h, n + 1 => .cons a t (strs_take h n)
theorem strs_drop : ∀ {vs : List Value} {ws : List Str}, StrsAre vs ws → ∀ n, StrsAre (vs.drop n) (ws.drop n)
  | _, _, .nil, n => by simp; exact .nil
  | _, _, .cons a t h, 0 => .cons a t h
  | _, _, .cons a t h, n + 1 => strs_drop h n
theorem strs_append : ∀ {vs vs' : List Value} {ws ws' : List Str}, StrsAre vs ws → StrsAre vs' ws' → StrsAre (vs ++ vs') (ws ++ ws')
  | _, _, _, _, .nil, h' => h'
  | _, _, _, _, .cons a t h, h' => .cons a t (strs_append h h')
theorem strs_len : ∀ {vs : List Value} {ws : List Str}, StrsAre vs ws → vs.length = ws.length
  | _, _, .nil => rfl
  | _, _, .cons a t h => by simp [strs_len h]

theorem ins_strs {prog : Program} {w : World} {A : Around} {E : Value → Shared → Prop} {s : Shared} {h₀ : Heap} {L D : Addr} {m : Str → Option Value} {news news' : List (Addr × Obj)} {vs : List Value} {r : List Str} {P : Str → Prop} {i : Int} {u : Tok} {x : Str} {t : Tok} {n : Nat} {Q : Value → Shared → Prop}
    (F : Fr h₀ L s.heap m) (N : News h₀ L s.heap news) (hv : StrsAre vs r) (hb : BL r P i i) (hz : r.length ≤ 1000)
    (U : Upd D (listOf vs.toArray n) (listOf (kl_ins vs i (.str x t)).toArray (n + 1)) news news')
    (h : ∀ h', Fr h₀ L h' m → News h₀ L h' news' → StrsAre (kl_ins vs i (.str x t)) (insT r i x) → Q .none { s with heap := h' }) :
    wpAny (model prog w) A (call (.builtin "list.insert") [.ref D, .int i u, .str x t]) Q E s := by
  obtain ⟨b1, b2, b3, _, _⟩ := hb
  have hl := strs_len hv
  refine kl_insert F N ?_ (by rw [List.toList_toArray]) U ?_ (fun h' F' N' => h h' F' N' ?_)
  · unfold Builtin.List.listFitsIndex
    simp only [Bool.and_eq_true, decide_eq_true_eq]
    omega
  · rw [List.toList_toArray, hl, sizeLine_eq]; omega
  · unfold kl_ins insT
    rw [if_neg (by omega), show min i.toNat vs.length = i.toNat by omega]
    exact strs_append (strs_take hv _) (.cons x t (strs_drop hv _))

def Srt (r : List Str) : Prop := r.Pairwise fun a b => ¬ b.cps.toList < a.cps.toList

theorem Srt.get {r : List Str} (h : Srt r) {i j : Nat} (hij : i ≤ j) (hj : j < r.length) : ¬ (r.getD j Str.empty).cps.toList < (r.getD i Str.empty).cps.toList := by
  rcases Nat.lt_or_eq_of_le hij with hlt | rfl
  · have := List.pairwise_iff_getElem.mp h i j (by omega) hj hlt
    rw [List.getD_eq_getElem?_getD, List.getD_eq_getElem?_getD, List.getElem?_eq_getElem hj, List.getElem?_eq_getElem (by omega : i < r.length)]
    exact this
  · exact List.lt_irrefl _

theorem Srt.downR {r : List Str} (h : Srt r) (x : Str) : Down r fun y => ¬ x.cps.toList < y.cps.toList := fun i j hij hj hp hq => by
  have h1 := h.get hij hj
  exact h1 (List.lt_of_le_of_lt (List.not_lt.mp hp) hq)
theorem Srt.downL {r : List Str} (h : Srt r) (x : Str) : Down r fun y => y.cps.toList < x.cps.toList := fun i j hij hj hp => by
  have h1 := h.get hij hj
  exact List.lt_of_le_of_lt (List.not_lt.mp h1) hp

def entryT (x : Str) (j : Nat) (a : Nat) : Str := Txt.slice (smallT x ++ Str.ofString "$") (some (a : Int)) none ++ Txt.slice (smallT x ++ Str.ofString "$") none (some (a : Int)) ++ Str.ofString "|" ++ Str.ofString (toString (j : Int))
def entsOf (x : Str) (j n : Nat) : List Str := (List.range n).map (entryT x j)
def entries (ws : List Str) (m : Nat) : List Str := (List.range m).flatMap fun j => entsOf (ws.getD j Str.empty) j ((ws.getD j Str.empty).length + 1)

theorem entsOf_succ (x : Str) (j n : Nat) : entsOf x j (n + 1) = entsOf x j n ++ [entryT x j n] := by
  unfold entsOf; rw [List.range_succ, List.map_append]; rfl
theorem entries_succ (ws : List Str) (m : Nat) : entries ws (m + 1) = entries ws m ++ entsOf (ws.getD m Str.empty) m ((ws.getD m Str.empty).length + 1) := by
  unfold entries; rw [List.range_succ, List.flatMap_append]; simp
theorem entsOf_len (x : Str) (j n : Nat) : (entsOf x j n).length = n := by simp [entsOf]
theorem entries_len {ws : List Str} (hw : ∀ y ∈ ws, y.length ≤ 6) : ∀ m, (entries ws m).length ≤ 7 * m
  | 0 => by simp [entries]
  | m + 1 => by
    have h := entries_len hw m
    rw [entries_succ, List.length_append, entsOf_len]
    have : (ws.getD m Str.empty).length ≤ 6 := by
      rw [List.getD_eq_getElem?_getD]
      cases e : ws[m]? with
      | none => simp [Str.empty, Str.length]
      | some y => exact hw y (List.mem_of_getElem? e)
    omega

theorem insT_perm (r : List Str) (i : Int) (x : Str) {es : List Str} (h : r.Perm es) : (insT r i x).Perm (es ++ [x]) := by
  unfold insT
  have h1 : (r.take i.toNat ++ x :: r.drop i.toNat).Perm (x :: (r.take i.toNat ++ r.drop i.toNat)) := List.perm_middle
  rw [List.take_append_drop] at h1
  exact h1.trans ((List.Perm.cons x h).trans (List.perm_append_singleton x es).symm)

theorem insT_srt {r : List Str} {i : Int} {x : Str} (h : Srt r) (b : BL r (fun y => ¬ x.cps.toList < y.cps.toList) i i) : Srt (insT r i x) := by
  obtain ⟨b0, _, b1, b2, b3⟩ := b
  have hp := List.pairwise_append.mp ((List.take_append_drop i.toNat r).symm ▸ h : (r.take i.toNat ++ r.drop i.toNat).Pairwise _)
  unfold insT
  refine List.pairwise_append.mpr ⟨hp.1, List.pairwise_cons.mpr ⟨fun y hy => ?_, hp.2.1⟩, fun a ha c hc => ?_⟩
  · obtain ⟨k, hk, e⟩ := List.mem_iff_getElem.mp hy
    rw [List.length_drop] at hk
    have := b3 (i.toNat + k) (by omega) (by omega)
    rw [List.getD_eq_getElem?_getD, List.getElem?_eq_getElem (by omega : i.toNat + k < r.length)] at this
    rw [List.getElem_drop] at e
    rw [← e]
    intro hlt
    exact this fun hlt' => List.lt_asymm hlt hlt'
  · rcases List.mem_cons.mp hc with rfl | hc
    · obtain ⟨k, hk, e⟩ := List.mem_iff_getElem.mp ha
      rw [List.length_take] at hk
      have := b2 k (by omega)
      rw [List.getD_eq_getElem?_getD, List.getElem?_eq_getElem (by omega : k < r.length)] at this
      rw [List.getElem_take] at e
      rw [← e]
      exact this
    · exact hp.2.2 a ha c hc

theorem comp_endT {h₀ h' : Heap} {L I C D : Addr} {oI oC : Obj} {m : Str → Option Value} {ys : List Value} {nx : List (Addr × Obj)} {s₁ : Shared} {tk : Nat} {R : Value → List (Addr × Obj) → Prop} {y : Value}
    (F : Fr h₀ L h' m) (N' : News h₀ L h' ((I, oI) :: (C, oC) :: (D, LCg.lst ys) :: nx)) (off : LCg.Off3 I C D nx) (r : R y nx) :
    LCg.CompEnd h₀ L m s₁ I oI C oC D (LCg.lst ys) (fun _ => True) R y { s₁ with heap := h', toks := tk } :=
  LCg.CompEnd.intro F N' nx (fun p hp => hp) off trivial r
theorem comp_endB {h₀ h' : Heap} {L I C D l : Addr} {its : Array Value} {oI oC : Obj} {m : Str → Option Value} {ys : List Value} {nx : List (Addr × Obj)} {s₁ : Shared} {tk : Nat} {R : Value → List (Addr × Obj) → Prop} {y : Value}
    (F : Fr h₀ L h' m) (N' : News h₀ L h' ((I, oI) :: (C, oC) :: (D, LCg.lst ys) :: nx)) (off : LCg.Off3 I C D nx) (hl : h₀.IsList l its) (r : R y nx) :
    LCg.CompEnd h₀ L m s₁ I oI C oC D (LCg.lst ys) (LCg.SrcAt h₀ l its) R y { s₁ with heap := h', toks := tk } :=
  LCg.CompEnd.intro F N' nx (fun p hp => hp) off (.inl hl) r

def STOP (p : Prop) : Prop := p
theorem stopI {p : Prop} (h : STOP p) : p := h



theorem row_E {w : World} {dp un : Nat} {gd : Option (List Code)} {outer : List Env} {s : Shared} {Q E : Value → Shared → Prop} {l : Addr} {vs : List Value} {ws : List Str}
    (S : Site w outer s.heap) (hdp : dp < 850) (hun : un < 8900) (hl : s.heap.IsList l vs.toArray) (hv : StrsAre vs ws) (hz : ws.length ≤ 6) (hw : ∀ y ∈ ws, y.length ≤ 6)
    (k : ∀ D h' tk' vs' r n, StrsAre vs' r → Srt r → r.Perm (entries ws ws.length) → s.heap.get? D = none → h'.get? D = some (listOf vs'.toArray n) → Ext s.heap h' → Q (.ref D) { s with heap := h', toks := tk' }) :
    wpAny (model PySem.Challenge.rw_pm0061_01.row.prog w) (TA dp un gd outer) (call (.ref 246) [.ref l]) Q E s := by
  k_with_none
  k_with "subscriptTail Name Name ref int" => (k_here; (with_reducible show wpAny _ _ (subscriptTail _ _ (Value.ref _) (Value.int _ _)) _ _ _); (with_unfolding_all refine' item_strs ?zk1 ?zk2 ?zk3 ?zk4 ?zk5 ?_ ?zk6; (case zk1 => is_list); (case zk2 => assumption); (case zk3 => l_idx); (case zk4 => l_idx); (case zk5 => omega); (case zk6 => with_unfolding_all rfl); k_whole); intro _)
  k_with "subscriptTail Name Name ref int" => (k_here; (with_reducible show wpAny _ _ (subscriptTail _ _ (Value.ref _) (Value.int _ _)) _ _ _); (with_unfolding_all refine' item_strsB ?zk1 ?zk2 ?zk3 ?zk4 ?zk5 ?zk7 ?_ ?zk6; (case zk1 => is_list); (case zk2 => assumption); (case zk3 => l_idx); (case zk4 => l_idx); (case zk5 => omega); (case zk7 => assumption); (case zk6 => with_unfolding_all rfl); k_whole); intro _ _)
  k_with "call ref" => (k_here; (with_reducible show wpAny _ _ (call (Value.ref 239) [Value.str _ _]) _ _ _); k_dflt (refine' use_site (fun S9 up9 => small_E S9 ?zk1 ?zk2 ?zk3 ?_) ?zk4 ?zk5 ?zk6 ?zk7 ?zk8 ?zkf ?zkk; (case zkf => exact rfl); (case zkk => exact rfl); (case zk1 => (simp only [depth_deeper, depth_in1, TA]; omega)); (case zk2 => (simp only [units_deeper, units_in1, TA]; omega)); (case zk3 => first | assumption | omega); (case zk4 => k_asm); (case zk5 => k_asm); (case zk6 => k_asm); (case zk7 => k_asm); (case zk8 => k_asm); (intro _ _ _ _ e9; obtain ⟨_, _⟩ := up9 _ e9; clear up9 S9 e9; (try dsimp only); (try k_fold))))
  k_with "call ref" => (k_here; (with_reducible show wpAny _ _ (call (Value.ref 70) [Value.ref _, Value.str _ _, Value.int 0 _, Value.none]) _ _ _); k_dflt (refine' use_site (fun S9 up9 => bisr_E S9 ?zk1 ?zk2 ?zka ?zkb ?zk3 (Srt.downR ?zkc _) ?_) ?zk4 ?zk5 ?zk6 ?zk7 ?zk8 ?zkf ?zkk; (case zkf => exact rfl); (case zkk => exact rfl); (case zk1 => (simp only [depth_deeper, depth_in1, TA]; omega)); (case zk2 => (simp only [units_deeper, units_in1, TA]; omega)); (case zka => is_list); (case zkb => assumption); (case zk3 => first | assumption | omega); (case zkc => assumption); (case zk4 => k_asm); (case zk5 => k_asm); (case zk6 => k_asm); (case zk7 => k_asm); (case zk8 => k_asm); (intro _ _ _ _ _ e9; obtain ⟨_, _⟩ := up9 _ e9; clear up9 S9 e9; (try dsimp only); (try k_fold))))
  k_with "call builtin:list.insert" => (k_here; (with_reducible show wpAny _ _ (call (Value.builtin _) [Value.ref _, Value.int _ _, Value.str _ _]) _ _ _); k_dflt (refine' ins_strs ?zF ?zN ?za ?zb ?zc ?zU ?_; (case zF => k_asm); (case zN => k_asm); (case zU => k_upd); (case za => assumption); (case zb => assumption); (case zc => omega); (intro _ _ _ _; (try dsimp only); (try k_fold))))
  have X0 := S.kin; revert X0; k_fill; intro _
  refine callE ?_
  refine' enterE (binds := [(Str.ofString "words", .ref l)]) ?k1 ?k8 ?k6 ?k7 ?k9 ?kB ?_ ?c2 ?c3 ?c4 ?c5; (case k1 => assumption); (case k6 => k_is); (case k7 => k_is); (case k8 => (simp only [recursionLimit]; omega)); (case k9 => first | exact BindsTo.of_eq rfl | exact binds_K (by k_in) rfl (by k_is) rfl rfl rfl); (case c5 => decide); (case kB => exact locs rfl); (case c2 => exact rfl); (case c3 => exact rfl); (case c4 => exact rfl); intro p' lo' me' mg' mb' ba' A' L' h' B' X' T' F' N'; (try dsimp only); (try k_fold)
  k_with "pyIter ref" => refine stopI ?_
  k_steps
  unfold STOP
  (rename Fr _ _ _ _ => lF'); (rename News _ _ _ _ => lN')
  refine' lp_rangeD (σ := List Value × List Str × Nat) (n := ws.length) (fun D c => [(D, listOf c.1.toArray c.2.2)]) (fun _ => []) [Str.ofString "ring", Str.ofString "at"] (fun i c => StrsAre c.1 c.2.1 ∧ Srt c.2.1 ∧ c.2.1.Perm (entries ws i)) ([], [], 0) (by rfl) (by assumption) ?ka ?kb lF' ?kc ?kd ?ke ?kt ?kz
  (case ka => exact small_one (by omega) (by omega) (by omega) (by omega))
  case kb => exact rangeSize_nat _ _
  case kc => exact lN'
  case kd => exact fun _ h => nomatch h
  case ke => exact ⟨.nil, List.Pairwise.nil, .nil⟩
  case kz =>
    rintro ⟨vr, r, n⟩ u h tk ⟨hr1, hr2, hr3⟩ F1 N1
    dsimp only [kstB] at F1 N1 hr1 hr2 hr3
    (try k_fold)
    k_steps
    have hN := N1 _ (.head _)
    exact k _ _ _ _ _ _ hr1 hr2 hr3 hN.2.2 hN.1 (Fr.keep (by assumption))
  case kt =>
    clear lF' lN'
    rintro ⟨vr, r, n⟩ i t u h tk I o hi ⟨hr1, hr2, hr3⟩ hne F1 N1
    dsimp only [kstB] at F1 N1 hr1 hr2 hr3 hne
    (try k_fold)
    k_steps
    unfold STOP
    have hn1 := neN (hne _ (.head _))
    have hd1 : (Str.ofString "$").length = 1 := rfl
    (rename Fr _ _ _ _ => lF'); (rename News _ _ _ _ => lN')
    refine' lp_rangeD (σ := List Value × List Str × Nat) (n := _) (fun D c => [(I, o), (D, listOf c.1.toArray c.2.2)]) (fun _ => []) [] (fun a c => StrsAre c.1 c.2.1 ∧ Srt c.2.1 ∧ c.2.1.Perm (entries ws i ++ entsOf (ws.getD i Str.empty) i a)) (vr, r, n) (by rfl) (by assumption) ?ka ?kb lF' ?kc ?kd ?ke ?kt ?kz
    (case ka => exact small_one (by omega) (by omega) (by omega) (by omega))
    case kb => exact rangeSize_nat _ _
    case kc => exact lN'
    case kd => exact fun _ h => nomatch h
    case ke => exact ⟨hr1, hr2, by simpa [entsOf] using hr3⟩
    case kz =>
      rintro ⟨vr', r', n'⟩ u h tk ⟨hr1', hr2', hr3'⟩ F1 N1
      dsimp only [kstB] at F1 N1 hr1' hr2' hr3'
      (try k_fold)
      k_steps
      refine LpEnd.intro ⟨vr', r', n'⟩ (by assumption) N1 (by k_mem) (by kst_in) (by intro p hp; rw [List.mem_singleton.mp hp]; exact hn1) (by exact fun _ h => nomatch h) (by kst_same) ⟨hr1', hr2', ?_⟩
      rw [entries_succ]
      have e : (ws.getD i Str.empty).length + 1 = ((((smallT (ws.getD (i : Int).toNat Str.empty)).length + (Str.ofString "$").length : Nat) : Int) - 0).toNat := by
        rw [smallT_len, Int.toNat_natCast]; omega
      rw [e]
      exact hr3'
    case kt =>
      clear lF' lN'
      rintro ⟨vr', r', n'⟩ i' t' u' h' tk' I' o' hi' ⟨hr1', hr2', hr3'⟩ hne' F1' N1'
      dsimp only [kstB] at F1' N1' hr1' hr2' hr3' hne'
      have hn1' := neN (hne' _ (.head _))
      have hn2' := neN (hne' _ (.tail _ (.head _)))
      dsimp only at hn1' hn2' hn1
      (try k_fold)
      have hr4' : r'.length ≤ 50 := by
        have h1 := hr3'.length_eq
        have h2 := entries_len hw i
        rw [List.length_append, entsOf_len] at h1
        omega
      k_steps
      refine LpEnd.intro ⟨_, insT r' _ _, _⟩ (by assumption) (by assumption) (by k_mem) (by kst_in) ?_ (by exact fun _ h => nomatch h) (by kst_same) ⟨by assumption, insT_srt hr2' (by assumption), ?_⟩
      · intro p hp
        rcases List.mem_cons.mp hp with rfl | hp
        · exact hn1'
        · rw [List.mem_singleton.mp hp]; exact hn2'
      · rw [entsOf_succ, ← List.append_assoc]
        have hp := fun i9 => insT_perm r' i9 (entryT (ws.getD i Str.empty) i i') hr3'
        simp only [entryT] at hp ⊢
        simp only [Int.toNat_natCast]
        exact hp _
end Mine
end

section
open PySem PySem.W PySem.Calls PyProof.Rows
set_option maxRecDepth 100000
set_option maxHeartbeats 8000000
namespace Mine



theorem words_E {w : World} {dp un : Nat} {gd : Option (List Code)} {outer : List Env} {s : Shared} {Q E : Value → Shared → Prop} {l : Addr} {vs : List Value} {ns : List Int}
    (S : Site w outer s.heap) (hdp : dp < 850) (hun : un < 8900) (hl : s.heap.IsList l vs.toArray) (hv : IntsAre vs ns) (hz : ns.length ≤ 63)
    (k : ∀ D h' tk' vs' n, StrsAre vs' ((ns.take 3 ++ [6445, 16155, 65]).map wordT) → s.heap.get? D = none → h'.get? D = some (listOf vs'.toArray n) → Ext s.heap h' → Q (.ref D) { s with heap := h', toks := tk' }) :
    wpAny (model PySem.Challenge.rw_pm0061_01.row.prog w) (TA dp un gd outer) (call (.ref 232) [.ref l]) Q E s := by
  k_with_none
  k_with "CompSrc" => refine stopI ?_
  k_with "CompSrcT" => refine stopI ?_
  k_with "call builtin:str.join" => (k_here; (with_reducible show wpAny _ _ (call (Value.builtin "str.join") [Value.str _ _, Value.ref _]) _ _ _); (refine' join_strs ?zk1 ?zk2 (wordT_fits _) ?zk4 ?_; (case zk1 => is_list); (case zk2 => assumption); (case zk4 => (simp only [List.length_map, List.length_range, Nat.mul_one]; rw [show (Str.ofString "").length = 0 from rfl]; omega)); k_whole; intro _ _))
  have X0 := S.kin; revert X0; k_fill; intro _
  refine callE ?_
  refine' enterEC (binds := [(Str.ofString "script", .ref l)]) ?k1 ?k8 ?k6 ?k7 ?k9 ?kB ?kD ?_ ?c2 ?c3 ?c4; (case k1 => assumption); (case k6 => k_is); (case k7 => k_is); (case k8 => (simp only [recursionLimit]; omega)); (case k9 => first | exact BindsTo.of_eq rfl | exact binds_K (by k_in) rfl (by k_is) rfl rfl rfl); (case kB => exact rfl); (case kD => decide +kernel); (case c2 => exact rfl); (case c3 => exact rfl); (case c4 => exact rfl); intro p' lo' me' mg' mb' ba' A' L' h' tk' cells' B' X' T' F' N' Y'; k_cells Y'; (try simp only [List.cons_append, List.nil_append] at N'); (try dsimp only); (try k_fold)
  k_with "pyIter ref" => refine stopI ?_
  k_steps
  refine For_invT s.heap ?_ (by intro _; rfl)
  k_steps
  unfold STOP
  rename_i o1 d1 Dw h3 l12 h2 D3 v3 h1 hI3 hC3 hL3 l13 l4 h4 l14 Dl vl hh FF NN hI l1
  refine' lt_list (σ := List Value × List Str × Nat × Obj) (fun c => [(Dw, listOf c.1.toArray c.2.2.1), (Dl, listOf vl.toArray 0), (L' + 1, c.2.2.2)]) (fun _ => []) [] (fun i c => StrsAre c.1 c.2.1 ∧ c.2.1 = ((ns.take 3 ++ [6445, 16155, 65]).take i).map wordT ∧ c.2.1.length ≤ i ∧ ∃ v, c.2.2.2.data = .cell v) ([], [], 0, o1) (by rfl) (by is_list) ?kx FF ?kc ?kd ?ke ?kt ?kz
  case kx => exact .inr ⟨_, fun _ _ _ => .tail _ (.head _)⟩
  case kc => exact kst_newsOf NN (by kst_in)
  case kd => exact fun _ h => nomatch h
  case ke => exact ⟨.nil, rfl, Nat.le_refl _, _, d1⟩
  case kz =>
    rintro ⟨vr, r, n, ox⟩ u h tk ⟨hr1, hr2, hr4, hr3⟩ F1 N1
    dsimp only [kstB] at F1 N1 hr1 hr2 hr3
    (try k_fold)
    k_steps
    have hN := N1 _ (.head _)
    rw [List.take_of_length_le (Nat.le_of_eq hI.length.symm)] at hr2
    subst hr2
    exact k _ _ _ _ _ hr1 hN.2.2 hN.1 (Fr.keep (by assumption))
  case kt =>
    rintro ⟨vr, r, n, ox⟩ i v u s₁ h tk I o hi ⟨hr1, hr2, hr4, v0, hr3⟩ hne F1 N1
    clear FF NN
    dsimp only [kstB] at F1 N1 hr1 hr2 hr3 hr4 hne
    obtain ⟨x, tx, rfl, hx⟩ := ints_at hI hi
    have hilt : i < vl.length := (List.getElem?_eq_some_iff.mp hi).1
    have hvl := hI.length
    have hl3 : (ns.take 3 ++ [6445, 16155, 65]).length ≤ 6 := by
      rw [List.length_append, List.length_take]
      show min 3 ns.length + 3 ≤ 6
      omega
    have hrl : r.length ≤ 6 := by omega
    have hn1 := neN (hne _ (.head _))
    have hn2 := neN (hne _ (.tail _ (.head _)))
    have hn3 := neN (hne _ (.tail _ (.tail _ (.head _))))
    dsimp only at hn1 hn2 hn3
    (try k_fold)
    k_steps
    unfold STOP
    (rename Fr _ _ _ _ => FF); (rename News _ _ _ _ => NN); (rename IsRange _ _ _ _ _ _ _ _ => RR)
    have b1 := fmod_lo x (n := 7) (by decide)
    have b2 := fmod_hi x (n := 7) (by decide)
    refine LCg.CompSrc.range (by rfl) FF NN RR (small_one (by omega) (by omega) (by omega) (by omega)) (rangeSize_nat _ _) (by rw [sizeLine_eq]; omega) ?_
    intro g'
    refine cr_U (fun i ys nx => nx = _ ∧ StrsAre ys ((List.range i).map fun t => signT x t)) ⟨rfl, .nil⟩ ?_ ?_
    · rintro k ys nx v I2 oI2 C oC D m₂ h tk E' hk ⟨t, rfl⟩ ⟨rfl, hy⟩ hC hx F N off ne
      have h4 : (0 : Int) < 4 ^ ((0 + (k : Int)).toNat) := Int.pow_pos (by decide)
      have h5 : (4 : Int) ^ ((0 + (k : Int)).toNat) ≤ 4096 := pow4_le _ (by omega)
      clear ne
      (try k_fold)
      k_steps
      (rename Fr _ _ _ _ => FZ); (rename News _ _ _ _ => NZ)
      exact comp_endT FZ NZ off ⟨rfl, sgn_snoc hy⟩
    · rintro ys nx ⟨rfl, hy⟩
      intro D h tk F N off
      simp only [LCg.Off1, and_true] at off
      (try k_fold)
      k_steps
      (rename News _ _ _ _ => NE)
      simp only [List.push_toArray] at NE
      have hs9 := fun t => strs_snoc (y := wordT x) (t := t) hr1
      unfold wordT at hs9
      refine LtEnd.intro ⟨_, r ++ [Txt.join (Str.ofString "") ((List.range (x.fmod 7 - 0).toNat).map (signT x))], _, _⟩ (by assumption) NE (by k_mem) (by kst_in) ?_ (by exact fun _ h => nomatch h) ?_ ⟨hs9 _, ?_, ?_, _, by assumption⟩
      rotate_left
      · intro z _ _; rfl
      rotate_left
      rotate_left
      · intro p hp
        rcases List.mem_cons.mp hp with rfl | hp
        · exact hn1
        · rcases List.mem_cons.mp hp with rfl | hp
          · exact hn2
          · rw [List.mem_singleton.mp hp]; exact hn3
      · dsimp only
        rw [List.take_add_one, hx, List.map_append, ← hr2]
        rfl
      · dsimp only
        rw [List.length_append, List.length_singleton]
        omega
end Mine
end

section
open PySem PySem.W PySem.Calls PyProof.Rows
set_option maxRecDepth 100000
set_option maxHeartbeats 8000000
namespace Mine

def codeN : Array Nat := #[14, 10, 4, 1, 1, 22, 0, 31, 16, 127, 0, 13, 7, 22, 0, 31, 16, 127, 0, 1]
def codeV : Array Nat := #[14, 14, 4, 1, 1, 9, 4294966783, 0, 0, 2147483648, 0, 0, 0, 0, 0, 13, 11, 9, 4294966783, 0, 0, 2147483648, 0, 0, 0, 0, 0, 1]

def okC (c : Nat) : Bool := 33 ≤ c && c ≤ 122

def Clean (code : Array Nat) : Prop := ∀ c, okC c = true → ∀ seen, ∃ seen', Sre.inSet code c code.size 5 true seen = .ok (false, seen')

theorem clean_of {code : Array Nat} (h : ∀ c, c < 123 → okC c = true → ∀ seen, ∃ seen', Sre.inSet code c code.size 5 true seen = .ok (false, seen')) : Clean code := fun c hc => by
  have : c < 123 := by simp [okC] at hc; omega
  exact h c this hc

theorem cleanN : Clean codeN := by
  intro c hc seen
  simp only [okC, Bool.and_eq_true, decide_eq_true_eq] at hc
  have e1 : (decide (0 ≤ c) && decide (c ≤ 31)) = false := by simp; omega
  have e2 : (c == 127) = false := by simp; omega
  have w0 : codeN.getD (5 + 0) 0 = 22 := rfl
  have w1 : codeN.getD (5 + 1) 0 = 0 := rfl
  have w2 : codeN.getD (5 + 2) 0 = 31 := rfl
  have w3 : codeN.getD (8 + 0) 0 = 16 := rfl
  have w4 : codeN.getD (8 + 1) 0 = 127 := rfl
  have w5 : codeN.getD (10 + 0) 0 = 0 := rfl
  have o0 : Sre.ops[22]? = some .RANGE := rfl
  have o1 : Sre.ops[16]? = some .LITERAL := rfl
  have o2 : Sre.ops[0]? = some .FAILURE := rfl
  have hs : codeN.size = 20 := rfl
  rw [hs]
  unfold Sre.inSet
  dsimp only
  rw [w0, o0]
  dsimp only
  have e1' : (decide (codeN.getD (5 + 1) 0 ≤ c) && decide (c ≤ codeN.getD (5 + 2) 0)) = false := by rw [← e1]; rfl
  rw [e1', if_neg (by decide)]
  unfold Sre.inSet
  dsimp only
  rw [w3, o1]
  dsimp only
  have e2' : (c == codeN.getD (8 + 1) 0) = false := by rw [← e2]; rfl
  rw [e2', if_neg (by decide)]
  unfold Sre.inSet
  dsimp only
  rw [w5, o2]
  exact ⟨_, rfl⟩

theorem bits_not : ∀ c, c < 123 → 33 ≤ c → (codeV.getD (6 + c / 32) 0).testBit (c % 32) = false := by decide

theorem cleanV : Clean codeV := by
  intro c hc seen
  simp only [okC, Bool.and_eq_true, decide_eq_true_eq] at hc
  have w0 : codeV.getD (5 + 0) 0 = 9 := rfl
  have w5 : codeV.getD (14 + 0) 0 = 0 := rfl
  have o0 : Sre.ops[9]? = some .CHARSET := rfl
  have o2 : Sre.ops[0]? = some .FAILURE := rfl
  have hs : codeV.size = 28 := rfl
  have hb := bits_not c (by omega) (by omega)
  have hb' : (decide (c < 256) && (codeV.getD (5 + (1 + c / 32)) 0).testBit (c % 32)) = false := by
    rw [show 5 + (1 + c / 32) = 6 + c / 32 from by omega, hb, Bool.and_false]
  rw [hs]
  unfold Sre.inSet
  dsimp only
  rw [w0, o0]
  dsimp only
  rw [hb', if_neg (by decide)]
  unfold Sre.inSet
  dsimp only
  rw [w5, o2]
  exact ⟨_, rfl⟩

theorem admitted_none {m : Sre.M} (hc : Clean m.code) (ht : ∀ s, s < m.lim → okC (m.text.getD s 0) = true) : ∀ fuel s seen, ∃ seen', Sre.M.admitted m fuel s seen = .ok (none, seen') := by
  intro fuel
  induction fuel with
  | zero => intro s seen; exact ⟨seen, rfl⟩
  | succ fuel ih =>
    intro s seen
    unfold Sre.M.admitted
    split
    · exact ⟨seen, rfl⟩
    · rename_i h
      obtain ⟨s1, e1⟩ := hc _ (ht s (by omega)) seen
      rw [e1]
      exact ih _ _

def Said (m : Sre.M) : Prop := m.answer = some false ∧ m.frames = [] ∧ m.outcome = none

theorem from_no {m : Sre.M} {s : Nat} {first : Bool} (hc : Clean m.code) (ht : ∀ s, s < m.lim → okC (m.text.getD s 0) = true) (h1 : m.hasFirstSet = true) (h2 : m.frames = []) (h3 : m.outcome = none) : Said (m.attemptFrom s first) := by
  unfold Sre.M.attemptFrom
  rw [h1, if_neg (by decide)]
  obtain ⟨s', e⟩ := admitted_none hc ht (m.lim + 1 - s) s m.seen
  rw [e]
  exact ⟨rfl, h2, h3⟩

theorem say_no {code text : Array Nat} {lim : Nat} (hc : Clean code) (ht : ∀ s, s < lim → okC (text.getD s 0) = true) (hf : ∀ m : Sre.M, m.code = code → m.hasFirstSet = true) :
    Said (Sre.forSearch code text 0 0 lim false) := by
  unfold Sre.forSearch
  dsimp only
  split
  · exact ⟨rfl, rfl, rfl⟩
  · exact from_no hc ht (hf _ rfl) rfl rfl

theorem first_of {code : Array Nat} (h : ((match Sre.ops[code.getD 0 0]? with | some .INFO => true | _ => false) && code.getD 2 0 == 4) = true) (m : Sre.M) (e : m.code = code) : m.hasFirstSet = true := by
  unfold Sre.M.hasFirstSet
  rw [e]
  exact h

theorem sayN {text : Array Nat} {lim : Nat} (ht : ∀ s, s < lim → okC (text.getD s 0) = true) : Said (Sre.forSearch codeN text 0 0 lim false) := say_no cleanN ht (first_of rfl)
theorem sayV {text : Array Nat} {lim : Nat} (ht : ∀ s, s < lim → okC (text.getD s 0) = true) : Said (Sre.forSearch codeV text 0 0 lim false) := say_no cleanV ht (first_of rfl)

theorem ran_no {m : Sre.M} (h : Said m) : (m.runFor 4).outcome = some .failed := by
  obtain ⟨h1, h2, h3⟩ := h
  unfold Sre.M.runFor
  rw [h3]
  unfold Sre.M.step
  rw [h3, h1, h2]
  rfl

section
variable {K : Frag} {S : Setting}
theorem peek_bind {α β : Type} {t : Sem α} {f : α → Sem β} {a : α} (h : peek K S t = some a) : peek K S (t >>= f) = peek K S (f a) := by
  show peek K S (t.bind f) = _
  induction t with
  | pure b => cases h; rfl
  | rule _ k ih => exact ih () h
  | point _ k ih => exact ih () h
  | ask k ih => exact ih _ h
  | load b part k ih =>
    show peek K S (Sem.load b part fun o => (k o).bind f) = _
    simp only [peek] at h ⊢
    cases e : K.lookup b with
    | none => simp [e] at h
    | some o => simp only [e] at h ⊢; exact ih o h
  | _ => cases h

theorem peek_drive {m : Sre.M} (h : Said m) (n : Nat) : peek K S (Builtin.Re.reDrive (n + 1) m) = some (m.runFor 4) := by
  unfold Builtin.Re.reDrive
  have e : (m.runFor 4).outcome = some .failed := ran_no h
  dsimp only
  rw [show Builtin.Re.reTurnSteps = 4 from rfl, e]
  rfl

theorem peek_forIn {α : Type} {f : α → PUnit → Sem (ForInStep PUnit)} (hf : ∀ a, peek K S (f a ⟨⟩) = some (.yield ⟨⟩)) : ∀ l : List α, peek K S (forIn l PUnit.unit f) = some ⟨⟩
  | [] => rfl
  | a :: l => by
    rw [List.forIn_cons]
    rw [peek_bind (hf a)]
    exact peek_forIn hf l

theorem peek_end {m : Sre.M} (h : Said m) : peek K S (Builtin.Re.reRunToEnd m) = some none := by
  unfold Builtin.Re.reRunToEnd
  have e9 : (2 ^ 64 : Nat) = (2 ^ 64 - 1) + 1 := by decide
  rw [e9, peek_bind (peek_drive h _)]
  have e : (m.runFor 4).outcome = some .failed := ran_no h
  rw [peek_bind (a := PUnit.unit)]
  · rw [e]; rfl
  · refine peek_forIn (fun i => ?_) _
    split <;> rfl
end

theorem ok_get {x : Str} (h : ∀ c ∈ x.cps.toList, okC c = true) {lim : Nat} (hl : lim ≤ x.cps.size) : ∀ s, s < lim → okC (x.cps.getD s 0) = true := fun s hs => by
  have hs' : s < x.cps.size := by omega
  rw [Array.getD_eq_getD_getElem?, Array.getElem?_eq_getElem hs']
  exact h _ (by simp)

section
variable {prog : Program} {w : World} {A : Around} {E : Value → Shared → Prop} {s : Shared} {Q : Value → Shared → Prop}

theorem peek_searchN {S : Setting} {x : Str} {t : Tok} (h : ∀ c ∈ x.cps.toList, okC c = true) : peek (heap w.params) S (Builtin.«re.Pattern.search» ⟨[.ref 89, .str x t], []⟩) = some (.done (.ret .none)) := by
  unfold Builtin.«re.Pattern.search»
  rw [peek_bind (a := { pattern := .ref 89, string := .str x t, code := codeN, text := x.cps, kind := 0, groups := 0, pos := min (0 : Int).toNat x.cps.size, lim := min (2 ^ 63 - 1 : Int).toNat x.cps.size })]
  · dsimp only
    unfold Builtin.Re.reAnswer
    have e0 : min (Int.toNat 0) x.cps.size = 0 := Nat.zero_min _
    rw [e0]
    rw [peek_bind (peek_end (sayN (ok_get h (Nat.min_le_right _ _))))]
    rfl
  · kernel_rfl
theorem peek_searchV {S : Setting} {x : Str} {t : Tok} (h : ∀ c ∈ x.cps.toList, okC c = true) : peek (heap w.params) S (Builtin.«re.Pattern.search» ⟨[.ref 94, .str x t], []⟩) = some (.done (.ret .none)) := by
  unfold Builtin.«re.Pattern.search»
  rw [peek_bind (a := { pattern := .ref 94, string := .str x t, code := codeV, text := x.cps, kind := 0, groups := 0, pos := min (0 : Int).toNat x.cps.size, lim := min (2 ^ 63 - 1 : Int).toNat x.cps.size })]
  · dsimp only
    unfold Builtin.Re.reAnswer
    have e0 : min (Int.toNat 0) x.cps.size = 0 := Nat.zero_min _
    rw [e0]
    rw [peek_bind (peek_end (sayV (ok_get h (Nat.min_le_right _ _))))]
    rfl
  · kernel_rfl

theorem peek_checkN {S : Setting} {x : Str} {t : Tok} : peek (heap w.params) S (checkBuiltinCall "re.Pattern.search" ⟨[.ref 89, .str x t], []⟩) = some () := by kernel_rfl
theorem peek_checkV {S : Setting} {x : Str} {t : Tok} : peek (heap w.params) S (checkBuiltinCall "re.Pattern.search" ⟨[.ref 94, .str x t], []⟩) = some () := by kernel_rfl
theorem plain_search : plainId "re.Pattern.search" = true := by decide +kernel
theorem entry_search : entryFor table "re.Pattern.search" = some Builtin.«re.Pattern.search» := entryFor_of_tree (by kernel_rfl)

theorem searchN {x : Str} {t : Tok} (X : (heap w.params).In s.heap) (h : ∀ c ∈ x.cps.toList, okC c = true) (q : Q .none s) : wpAny (model prog w) A (call (.builtin "re.Pattern.search") [.ref 89, .str x t]) Q E s := by
  refine callE (codeAny_call_builtin plain_search entry_search ?_)
  refine Looks.here (Looks.of_peek X peek_checkN) ?_
  refine Looks.here (Looks.of_peek X (peek_searchN h)) ?_
  exact q
theorem searchV {x : Str} {t : Tok} (X : (heap w.params).In s.heap) (h : ∀ c ∈ x.cps.toList, okC c = true) (q : Q .none s) : wpAny (model prog w) A (call (.builtin "re.Pattern.search") [.ref 94, .str x t]) Q E s := by
  refine callE (codeAny_call_builtin plain_search entry_search ?_)
  refine Looks.here (Looks.of_peek X peek_checkV) ?_
  refine Looks.here (Looks.of_peek X (peek_searchV h)) ?_
  exact q
theorem peek_gmN {S : Setting} {pl : Sem Bool} : peek (heap w.params) S (getMethod (.ref 89) (Str.ofString "search") pl) = some (.builtin "re.Pattern.search", [.ref 89]) := by kernel_rfl
theorem peek_gmV {S : Setting} {pl : Sem Bool} : peek (heap w.params) S (getMethod (.ref 94) (Str.ofString "search") pl) = some (.builtin "re.Pattern.search", [.ref 94]) := by kernel_rfl
theorem gmN {pl : Sem Bool} {Q : Value × List Value → Shared → Prop} (X : (heap w.params).In s.heap) (q : Q (.builtin "re.Pattern.search", [.ref 89]) s) : wpAny (model prog w) A (getMethod (.ref 89) (Str.ofString "search") pl) Q E s := Looks.here (Looks.of_peek X peek_gmN) q
theorem gmV {pl : Sem Bool} {Q : Value × List Value → Shared → Prop} (X : (heap w.params).In s.heap) (q : Q (.builtin "re.Pattern.search", [.ref 94]) s) : wpAny (model prog w) A (getMethod (.ref 94) (Str.ofString "search") pl) Q E s := Looks.here (Looks.of_peek X peek_gmV) q
end
end Mine
end

section
open PySem PySem.W PySem.Calls PyProof.Rows Builtin Builtin.Str
set_option maxRecDepth 100000
namespace Mine

theorem ind_beyond {n : Nat} {j : Int} (h : (n : Int) ≤ j) : strSliceIndices none (some j) 1 n = strSliceIndices none (some (n : Int)) 1 n := by
  have h0 : ¬ j < 0 := by omega
  have h1 : ¬ ((n : Int) < 0) := by omega
  have h2 : (1 : Int) > 0 := by decide
  simp only [strSliceIndices, h0, h1, h2, if_false, if_true, Int.min_eq_right h, Int.min_self]

theorem sl_to {x : Str} {j : Int} (h : 0 ≤ j) : (Txt.slice x none (some j)).cps.toList = x.cps.toList.take j.toNat := by
  have hx : x.length = x.cps.toList.length := rfl
  have main : ∀ j : Int, 0 ≤ j → j ≤ x.cps.toList.length → (Txt.slice x none (some j)).cps.toList = x.cps.toList.take j.toNat := by
    intro j h0 h1
    rw [beq_iff_eq.mp (slice_closes_to ⟨h0, h1⟩)]
    simp
  by_cases hj : j ≤ x.cps.toList.length
  · exact main j h hj
  · have e : Txt.slice x none (some j) = Txt.slice x none (some (x.length : Int)) := by
      unfold Txt.slice
      rw [ind_beyond (by omega)]
    rw [e, main _ (by omega) (by omega)]
    rw [List.take_of_length_le (by omega), List.take_of_length_le (by omega)]

theorem sl_from {x : Str} {i : Int} (h : 0 ≤ i) : (Txt.slice x (some i) none).cps.toList = x.cps.toList.drop i.toNat := by
  have hx : x.length = x.cps.toList.length := rfl
  by_cases hi : i ≤ (x.length : Int)
  · rw [slice_from_eq h hi rfl]
    rw [List.take_of_length_le (by rw [List.length_drop]; omega)]
  · rw [slice_beyond (by omega), List.drop_of_length_le (by omega)]
    rfl

theorem cat_list (x y : Str) : (x ++ y).cps.toList = x.cps.toList ++ y.cps.toList := by
  show (x.cps ++ y.cps).toList = _
  simp

def AB (x : Str) : Prop := ∀ c ∈ x.cps.toList, c = 65 ∨ c = 66 ∨ c = 97 ∨ c = 98
def ABD (x : Str) : Prop := ∀ c ∈ x.cps.toList, c = 46 ∨ c = 65 ∨ c = 66 ∨ c = 97 ∨ c = 98
theorem AB.d {x : Str} (h : AB x) : ABD x := fun c hc => .inr (h c hc)
theorem ABD.ok {x : Str} (h : ABD x) : ∀ c ∈ x.cps.toList, okC c = true := fun c hc => by
  rcases h c hc with rfl | rfl | rfl | rfl | rfl <;> rfl
theorem AB.getD {ws : List Str} (h : ∀ y ∈ ws, AB y) (k : Nat) : AB (ws.getD k Str.empty) := by
  rw [List.getD_eq_getElem?_getD]
  cases e : ws[k]? with
  | none => intro c hc; simp [Str.empty] at hc
  | some y => exact h y (List.mem_of_getElem? e)
theorem dots_list : (Str.ofString "...").cps.toList = [46, 46, 46] := by decide +kernel

theorem preN_nn (n : Int) : 0 ≤ preN n := by unfold preN; split <;> omega
theorem postN_nn (n : Int) : 0 ≤ postN n := by unfold postN; split <;> omega

theorem postN_le {n : Int} {k : Nat} (h : n < (k : Int)) : postN n ≤ k := by
  have := preN_nn n
  unfold postN
  split <;> omega
theorem cram_abd {x : Str} {n : Int} (h : AB x) : ABD (cramT x n) := by
  unfold cramT
  split
  · rename_i hn
    have hp := postN_le hn
    intro c hc
    rw [cat_list, cat_list, sl_to (preN_nn n), sl_from (by omega), dots_list] at hc
    rcases List.mem_append.mp hc with hc | hc
    · rcases List.mem_append.mp hc with hc | hc
      · exact .inr (h c (List.mem_of_mem_take hc))
      · simp at hc; exact .inl hc
    · exact .inr (h c (List.mem_of_mem_drop hc))
  · exact h.d

theorem digit_ok : ∀ i : Nat, i < 6 → ∀ c ∈ (Str.ofString (toString (i : Int))).cps.toList, okC c = true := by
  intro i hi
  have : i = 0 ∨ i = 1 ∨ i = 2 ∨ i = 3 ∨ i = 4 ∨ i = 5 := by omega
  rcases this with rfl | rfl | rfl | rfl | rfl | rfl <;> decide +kernel

theorem digit_list : ∀ i : Nat, i < 6 → (Str.ofString (toString (i : Int))) = ⟨#[48 + i]⟩ := by
  intro i hi
  have : i = 0 ∨ i = 1 ∨ i = 2 ∨ i = 3 ∨ i = 4 ∨ i = 5 := by omega
  rcases this with rfl | rfl | rfl | rfl | rfl | rfl <;> decide +kernel
end Mine
end

section
open PySem PySem.W PySem.Calls PyProof.Rows Builtin Builtin.Str
set_option maxRecDepth 100000
namespace Mine

def low (c : Nat) : Nat := if c = 65 then 97 else if c = 66 then 98 else c

theorem map_sub_free {c d : Nat} : ∀ {l : List Nat}, c ∉ l → (l.map fun e => if e = c then d else e) = l
  | [], _ => rfl
  | e :: l, h => by
    have h1 : ¬ e = c := fun q => h (q ▸ List.mem_cons_self ..)
    have h2 : c ∉ l := fun m => h (List.mem_cons_of_mem _ m)
    rw [List.map_cons, if_neg h1, map_sub_free h2]

theorem join_sub (c d : Nat) : ∀ parts : List Str, (∀ p ∈ parts, c ∉ p.cps.toList) → (Str.join ⟨#[d]⟩ parts).cps.toList = (Str.join ⟨#[c]⟩ parts).cps.toList.map fun e => if e = c then d else e
  | [], _ => rfl
  | [p], h => by
    show p.cps.toList = p.cps.toList.map _
    have hp := h p (List.mem_singleton.mpr rfl)
    exact (map_sub_free hp).symm
  | p :: q :: r, h => by
    have ih := join_sub c d (q :: r) fun a ha => h a (List.mem_cons_of_mem _ ha)
    have hp := h p (List.mem_cons_self ..)
    show (p ++ ⟨#[d]⟩ ++ Str.join ⟨#[d]⟩ (q :: r)).cps.toList = ((p ++ ⟨#[c]⟩ ++ Str.join ⟨#[c]⟩ (q :: r)).cps.toList).map _
    simp only [cat_list, ih, List.map_append]
    congr 2
    · exact (map_sub_free hp).symm
    · simp

theorem sub_list (x : Str) (c d : Nat) : (Txt.join ⟨#[d]⟩ (Txt.split x ⟨#[c]⟩)).cps.toList = x.cps.toList.map fun e => if e = c then d else e := by
  show (glued _ _).cps.toList = _
  rw [StrLaws.glued_eq_join, join_sub c d _ (StrLaws.split_free x c), StrLaws.join_split]

theorem small_list (x : Str) : (smallT x).cps.toList = x.cps.toList.map low := by
  unfold smallT
  rw [show Str.ofString "b" = ⟨#[98]⟩ from by decide +kernel, show Str.ofString "B" = ⟨#[66]⟩ from by decide +kernel, show Str.ofString "a" = ⟨#[97]⟩ from by decide +kernel, show Str.ofString "A" = ⟨#[65]⟩ from by decide +kernel]
  rw [sub_list, sub_list, List.map_map]
  apply List.map_congr_left
  intro c _
  show (if (if c = 65 then 97 else c) = 66 then 98 else (if c = 65 then 97 else c)) = low c
  unfold low
  by_cases h : c = 65
  · rw [if_pos h, if_pos h]; rfl
  · rw [if_neg h, if_neg h]

theorem Str.ext_list {x y : Str} (h : x.cps.toList = y.cps.toList) : x = y := PySem.Str.ext' (Array.toList_inj.mp h)

theorem sub_at {x y : Str} {k : Nat} (h : StrLaws.At x y x.length k) : (x.cps.toList.drop k).take y.length = y.cps.toList := by
  have e := strSub_of_subAt h.2
  have := congrArg (fun z : Str => z.cps.toList) e
  simp only [StrLaws.strSub_toList] at this
  rwa [show k + y.length - k = y.length by omega] at this
theorem at_of {x y : Str} {k : Nat} (hk : k + y.length ≤ x.length) (h : (x.cps.toList.drop k).take y.length = y.cps.toList) : StrLaws.At x y x.length k := by
  refine ⟨hk, ?_⟩
  have e : strSub x k (k + y.length) = y := by
    apply Str.ext_list
    rw [StrLaws.strSub_toList, show k + y.length - k = y.length by omega, h]
  have := congrArg (fun z : Str => z.cps) e
  show (x.cps.extract k (k + y.length) == y.cps) = true
  exact beq_iff_eq.mpr this

theorem dots_only {a b : List Nat} (ha : 46 ∉ a) (hb : 46 ∉ b) {k : Nat} (h : ((a ++ ([46, 46, 46] ++ b)).drop k).take 3 = [46, 46, 46]) : k = a.length := by
  have g : ∀ j, j < 3 → (a ++ ([46, 46, 46] ++ b))[k + j]? = some 46 := by
    intro j hj
    have e := congrArg (fun l : List Nat => l[j]?) h
    simp only [List.getElem?_take_of_lt hj, List.getElem?_drop] at e
    rw [e]
    have : j = 0 ∨ j = 1 ∨ j = 2 := by omega
    rcases this with rfl | rfl | rfl <;> rfl
  rcases Nat.lt_trichotomy k a.length with hlt | he | hgt
  · have := g 0 (by decide)
    rw [Nat.add_zero, List.getElem?_append_left hlt] at this
    exact absurd (List.mem_of_getElem? this) ha
  · exact he
  · have := g 2 (by decide)
    rw [List.getElem?_append_right (by omega), List.getElem?_append_right (by simp; omega)] at this
    exact absurd (List.mem_of_getElem? this) hb

theorem split_dots {a b x : Str} (ha : 46 ∉ a.cps.toList) (hb : 46 ∉ b.cps.toList) (hx : x.cps.toList = a.cps.toList ++ ([46, 46, 46] ++ b.cps.toList)) : Txt.split x (Str.ofString "...") = [a, b] := by
  have hd := dots_list
  have hw : (Str.ofString "...").length = 3 := rfl
  have hxl : x.length = a.length + (3 + b.length) := by
    have := congrArg List.length hx
    simp only [List.length_append, List.length_cons, List.length_nil] at this
    exact this
  have hat : ∀ k, StrLaws.At x (Str.ofString "...") x.length k → k = a.length := by
    intro k hk
    have e := sub_at hk
    rw [hx, hd, hw] at e
    exact dots_only ha hb e
  have hat2 : StrLaws.At x (Str.ofString "...") x.length a.length := by
    refine at_of (by rw [hw]; omega) ?_
    rw [hx, hd, hw, show a.length = a.cps.toList.length from rfl, List.drop_left]
    rfl
  obtain ⟨f, hG, hn⟩ := StrLaws.occ_tight x (Str.ofString "...") (by rw [hw]; decide)
  have hcuts : occurrences x (Str.ofString "...") 0 x.length (x.length + 1) = [a.length] := by
    generalize occurrences x (Str.ofString "...") 0 x.length (x.length + 1) = cuts at hG
    match cuts, hG with
    | [], hG =>
      have e : f = 0 := hG
      exact absurd hat2 (hn _ (by omega))
    | [c], hG =>
      rw [hat c hG.2.1]
    | c :: d :: r, hG =>
      have h1 := hat c hG.2.1
      have h2 := hat d hG.2.2.2.2.1
      have h3 := hG.2.2.2.1
      rw [hw] at h3
      omega
  unfold Txt.split
  rw [hcuts]
  have hk : Builtin.Str.strKind (Str.ofString "...") = 1 := by
    unfold Builtin.Str.strKind
    rw [if_pos]
    rw [← Array.all_toList, hd]
    decide
  have hk2 : ¬ Builtin.Str.strKind x < 1 := by have := strKind_pos x; omega
  rw [if_neg (by rw [hw, hk]; simp [hk2]; omega), if_neg (by simp), StrLaws.partsBetween_eq, hw]
  show [strSub x 0 a.length, strSub x (a.length + 3) x.length] = [a, b]
  have e1 : strSub x 0 a.length = a := by
    apply Str.ext_list
    rw [StrLaws.strSub_toList, hx, List.drop_zero, Nat.sub_zero, show a.length = a.cps.toList.length from rfl, List.take_left]
  have e2 : strSub x (a.length + 3) x.length = b := by
    apply Str.ext_list
    rw [StrLaws.strSub_toList, hx, show a.length = a.cps.toList.length from rfl, ← List.drop_drop, List.drop_left]
    show List.take _ b.cps.toList = _
    rw [List.take_of_length_le]
    have : b.cps.toList.length = b.length := rfl
    have : a.cps.toList.length = a.length := rfl
    omega
  rw [e1, e2]

def hA (x : Str) (n : Int) : Str := smallT (Txt.slice x none (some (preN n)))
def hB (x : Str) (n : Int) : Str := smallT (Txt.slice x (some ((x.length : Int) - postN n)) none)

theorem low_ab {l : List Nat} (h : ∀ c ∈ l, c = 65 ∨ c = 66 ∨ c = 97 ∨ c = 98) : ∀ c ∈ l.map low, c = 97 ∨ c = 98 := by
  intro c hc
  obtain ⟨d, hd, rfl⟩ := List.mem_map.mp hc
  rcases h d hd with rfl | rfl | rfl | rfl <;> simp [low]

theorem hA_list {x : Str} {n : Int} : (hA x n).cps.toList = (x.cps.toList.take (preN n).toNat).map low := by
  unfold hA; rw [small_list, sl_to (preN_nn n)]
theorem hB_list {x : Str} {n : Int} (h : n < (x.length : Int)) : (hB x n).cps.toList = (x.cps.toList.drop ((x.length : Int) - postN n).toNat).map low := by
  have := postN_le h
  unfold hB; rw [small_list, sl_from (by omega)]

theorem halves_eq {x : Str} {n : Int} (hx : AB x) (h : n < (x.length : Int)) : Txt.split (smallT (cramT x n)) (Str.ofString "...") = [hA x n, hB x n] := by
  have hp := postN_le h
  refine split_dots ?_ ?_ ?_
  · rw [hA_list]
    intro hm
    rcases low_ab (fun c hc => hx c (List.mem_of_mem_take hc)) _ hm with h | h <;> cases h
  · rw [hB_list h]
    intro hm
    rcases low_ab (fun c hc => hx c (List.mem_of_mem_drop hc)) _ hm with h | h <;> cases h
  · rw [small_list, hA_list, hB_list h]
    unfold cramT
    rw [if_pos h, cat_list, cat_list, sl_to (preN_nn n), sl_from (by omega), dots_list, List.map_append, List.map_append, List.append_assoc]
    rfl
end Mine
end

section
open PySem PySem.W PySem.Calls PyProof.Rows
set_option maxRecDepth 100000
set_option maxHeartbeats 8000000
namespace Mine
theorem lt_nil {prog : Program} {w : World} {A : Around} {E : Value → Shared → Prop} {s : Shared} {env : Env} {h₀ : Heap} {target : Expr} {body : List Stmt} {Q : Flow → Shared → Prop} {l : Addr} {m₀ : Str → Option Value} {news : List (Addr × Obj)}
    (F : Fr h₀ env.locals s.heap m₀) (N : News h₀ env.locals s.heap news) (hh : A.handled = none) (hl : s.heap.IsList l #[]) (hl' : ∃ o, (l, o) ∈ news)
    (k : ∀ h tk, Fr h₀ env.locals h m₀ → News h₀ env.locals h news → Q .next { s with heap := h, toks := tk }) :
    wpAny (model prog w) A (pyIter (.ref l)) (fun it s₂ => LoopAtT prog w A h₀ env target body Q E it s₂) E s := by
  refine lt_list (σ := Unit) (vs := []) (fun _ => news) (fun _ => []) [] (fun _ _ => True) () hh hl (.inr (hl'.imp fun _ h _ _ _ => h)) F N (fun _ h => nomatch h) trivial (fun _ _ _ _ _ _ _ _ _ h => nomatch h) fun c u h tk _ F' N' => k h tk (by simpa [kstB] using F') N'



theorem join_lone {prog : Program} {w : World} {A : Around} {E : Value → Shared → Prop} {s : Shared} {sep y : Str} {t u : Tok} {Q : Value → Shared → Prop} {D : Addr}
    (hl : s.heap.IsList D #[.str y u]) (hy : y.length ≤ 100) (hs : sep.length ≤ 100) (hq : ∀ t' k, Q (.str y t') { s with toks := k }) : wpAny (model prog w) A (call (.builtin "str.join") [.str sep t, .ref D]) Q E s :=
  join_strs (vs := [.str y u]) (ts := [y]) (B := 100) hl (.cons _ _ .nil) (fun z hz => by rw [List.mem_singleton.mp hz]; exact hy) (by simp only [List.length_singleton]; omega) hq


theorem app_any {prog : Program} {w : World} {A : Around} {E : Value → Shared → Prop} {s : Shared} {h₀ : Heap} {L D : Addr} {m : Str → Option Value} {news news' : List (Addr × Obj)} {vs : List Value} {y : Value} {n : Nat} {Q : Value → Shared → Prop}
    (F : Fr h₀ L s.heap m) (N : News h₀ L s.heap news) (U : Upd D (listOf vs.toArray n) (listOf (vs ++ [y]).toArray (n + 1)) news news') (hz : vs.length ≤ 1000)
    (h : ∀ h', Fr h₀ L h' m → News h₀ L h' news' → Q .none { s with heap := h' }) :
    wpAny (model prog w) A (call (.builtin "list.append") [.ref D, y]) Q E s := by
  obtain ⟨pre, post, rfl, rfl, a, c⟩ := U.split
  have z := N (D, listOf vs.toArray n) (List.mem_append.mpr (.inr (.head _)))
  refine append_at (hsz := by rw [List.size_toArray, sizeLine_eq]; omega) z.1 fun h' hs ho' => h h' (F.change hs z.2.1 z.2.2) (news_set N a c hs ?_)
  rw [List.push_toArray] at ho'
  exact ho'

section
variable {prog : Program} {w : World} {A : Around} {E : Value → Shared → Prop} {s : Shared} {env : Env} {h₀ : Heap} {x : Str} {body : List Stmt} {Q : Flow → Shared → Prop}
theorem lp_rangeD3P {σ : Type} {D D₂ D₃ : Addr} {r : Addr} {b₀ : Int} {t₀ u₀ v₀ : Tok} {n : Nat} {m₀ : Str → Option Value} (Led : Addr → Addr → Addr → σ → List (Addr × Obj)) (ps : σ → List (Str × Value)) (stored : List Str) (P : Addr → Nat → σ → Prop) (c₀ : σ)
    (hh : A.handled = none) (hr : IsRange s.heap r 0 b₀ 1 t₀ u₀ v₀) (hsmall : Builtin.Range.small 0 b₀ 1 = true) (hn : Builtin.Range.rangeSize 0 b₀ 1 = (n : Int))
    (F : Fr h₀ env.locals s.heap m₀) (N : News h₀ env.locals s.heap (Led D D₂ D₃ c₀)) (hk : ∀ p ∈ ps c₀, m₀ p.1 = some p.2) (hp : P D₃ 0 c₀)
    (turn : ∀ (c : σ) (i : Nat) (t : Tok) (u : Str → Option Value) h tk I o, i < n → P D₃ i c → (∀ p ∈ Led D D₂ D₃ c, p.1 ≠ I) →
      Fr h₀ env.locals h (fun y => if y = x then some (.int (i : Int) t) else kstB (fun z => if stored.contains z then u z else m₀ z) (ps c) y) → News h₀ env.locals h ((I, o) :: Led D D₂ D₃ c) →
      wpAny (model prog w) A (execs body env) (LpPost h₀ env.locals (Led D D₂ D₃) ps x stored m₀ (P D₃ (i + 1)) I o s Q) E { s with heap := h, toks := tk })
    (done : ∀ (c : σ) (u : Str → Option Value) h tk, P D₃ n c → Fr h₀ env.locals h (fun y => if y = x then u y else kstB (fun z => if stored.contains z then u z else m₀ z) (ps c) y) → News h₀ env.locals h (Led D D₂ D₃ c) → Q .next { s with heap := h, toks := tk }) :
    wpAny (model prog w) A (pyIter (.ref r)) (fun it s₂ => LoopAtV prog w A h₀ env x body Q E it s₂) E s := lp_range (Led D D₂ D₃) ps stored (P D₃) c₀ hh hr hsmall hn F N hk hp turn done

end
theorem drop2 {h₀ h : Heap} {L : Addr} {a b : Addr × Obj} {r : List (Addr × Obj)} (N : News h₀ L h (a :: b :: r)) : News h₀ L h (a :: r) := fun p hp => N p (by rcases List.mem_cons.mp hp with rfl | hp; exact .head _; exact .tail _ (.tail _ hp))

abbrev tupO (x : Str) (t : Tok) (y : Str) (u : Tok) : Obj := { cls := .type "tuple", data := .seq #[.str x t, .str y u] }
inductive TL (tl : List (Addr × Obj)) : List Value → List (Str × Str) → Prop
  | nil : TL tl [] []
  | cons (a : Addr) (x : Str) (t : Tok) (y : Str) (u : Tok) {vs ps} : (a, tupO x t y u) ∈ tl → TL tl vs ps → TL tl (.ref a :: vs) ((x, y) :: ps)
theorem TL.mono {tl tl' : List (Addr × Obj)} (h : ∀ p ∈ tl, p ∈ tl') : ∀ {vs ps}, TL tl vs ps → TL tl' vs ps
  | _, _, .nil => .nil
  | _, _, .cons a x t y u m r => .cons a x t y u (h _ m) (r.mono h)
theorem TL.snoc {tl : List (Addr × Obj)} {a : Addr} {x : Str} {t : Tok} {y : Str} {u : Tok} (h : (a, tupO x t y u) ∈ tl) : ∀ {vs ps}, TL tl vs ps → TL tl (vs ++ [.ref a]) (ps ++ [(x, y)])
  | _, _, .nil => .cons a x t y u h .nil
  | _, _, .cons a x t y u m r => .cons a x t y u m (r.snoc h)
theorem TL.length {tl : List (Addr × Obj)} : ∀ {vs ps}, TL tl vs ps → vs.length = ps.length
  | _, _, .nil => rfl
  | _, _, .cons a x t y u m r => by simp [r.length]
def psT (ws : List Str) (n : Int) (m : Nat) : List (Str × Str) := (List.range m).map fun j => (cramT (ws.getD j Str.empty) n, Str.ofString (toString (j : Int)))
theorem psT_succ (ws : List Str) (n : Int) (m : Nat) : psT ws n (m + 1) = psT ws n m ++ [(cramT (ws.getD m Str.empty) n, Str.ofString (toString (m : Int)))] := by
  unfold psT; rw [List.range_succ, List.map_append]; rfl
theorem psT_len (ws : List Str) (n : Int) (m : Nat) : (psT ws n m).length = m := by simp [psT]

theorem dr_end {s : Shared} {h₀ : Heap} {L : Addr} {xn : Str} {m₀ : Str → Option Value} {X Y A B : Addr × Obj} {Dl I D' : Addr} {o : Obj} {x y : Str} {t u : Tok} {vr : List Value} {n1 : Nat} {r : List (Addr × Obj)} {h' : Heap} {m' : Str → Option Value} {tk : Nat} {ps : List (Str × Str)}
    (N : News h₀ L h' ((D', tupO x t y u) :: A :: B :: (I, o) :: X :: Y :: (Dl, W.listOf (vr ++ [Value.ref D']).toArray (n1 + 1)) :: r)) (F : Fr h₀ L h' m') (hX : X.1 ≠ I) (hY : Y.1 ≠ I) (hl : Dl ≠ I) (hr : ∀ p ∈ r, p.1 ≠ I) (hDI : D' ≠ I) (hDl : D' ≠ Dl) (hrl : ∀ p ∈ r, p.1 ≠ Dl)
    (hT : TL r vr ps) (hs : ∀ z, z ≠ xn → m' z = m₀ z) :
    LpEnd h₀ L (fun c : List Value × List (Addr × Obj) × Nat => X :: Y :: (Dl, listOf c.1.toArray c.2.2) :: c.2.1) (fun _ => []) xn [] m₀ (fun c => TL c.2.1 c.1 (ps ++ [(x, y)]) ∧ ∀ p ∈ c.2.1, p.1 ≠ Dl) I o s { s with heap := h', toks := tk } := by
  refine LpEnd.intro ((vr ++ [Value.ref D'], (D', tupO x t y u) :: r, n1 + 1) : List Value × List (Addr × Obj) × Nat) F N (by k_mem) ?_ ?_ (fun _ h => nomatch h) (fun z hz _ _ => hs z hz) ⟨(hT.mono fun p hp => .tail _ hp).snoc (.head _), ?_⟩
  · intro p hp
    simp only [List.mem_cons] at hp ⊢
    rcases hp with h | h | h | h | h
    · exact .inr (.inr (.inr (.inr (.inl h))))
    · exact .inr (.inr (.inr (.inr (.inr (.inl h)))))
    · exact .inr (.inr (.inr (.inr (.inr (.inr (.inl h))))))
    · exact .inl h
    · exact .inr (.inr (.inr (.inr (.inr (.inr (.inr h))))))
  · intro p hp
    simp only [List.mem_cons] at hp
    rcases hp with rfl | rfl | rfl | rfl | h
    · exact hX
    · exact hY
    · exact hl
    · exact hDI
    · exact hr p h
  · intro p hp
    rcases List.mem_cons.mp hp with rfl | h
    · exact hDl
    · exact hrl p h

local macro_rules | `(tactic| k_all) => `(tactic| assumption)

theorem drawers_E {w : World} {dp un : Nat} {gd : Option (List Code)} {outer : List Env} {s : Shared} {Q E : Value → Shared → Prop} {l : Addr} {vs : List Value} {ws : List Str} {n : Int} {t2 : Tok}
    (S : Site w outer s.heap) (hdp : dp < 850) (hun : un < 8900) (hl : s.heap.IsList l vs.toArray) (hv : StrsAre vs ws) (hz : ws.length ≤ 6) (hw : ∀ y ∈ ws, y.length ≤ 6) (hab : ∀ y ∈ ws, AB y) (h1 : -1 ≤ n) (h6 : n ≤ 6)
    (k : ∀ D Dd Dl tl vr t0 n1 h' tk', TL tl vr (psT ws n ws.length) → (∀ p ∈ (D, instObj 223 Dd) :: (Dd, dictOf [⟨PyData.keyHash w.params (Str.ofString "_headers"), .str (Str.ofString "_headers") t0, .ref Dl⟩] 1) :: (Dl, listOf vr.toArray n1) :: tl, h'.get? p.1 = some p.2 ∧ s.heap.get? p.1 = none) → Ext s.heap h' → Q (.ref D) { s with heap := h', toks := tk' }) :
    wpAny (model PySem.Challenge.rw_pm0061_01.row.prog w) (TA dp un gd outer) (call (.ref 253) [.ref l, .int n t2]) Q E s := by
  k_with_none
  k_with "CompSrc" => refine stopI ?_
  k_with "CompSrcT" => refine stopI ?_
  k_with "subscriptTail Name Name ref int" => (k_here; (with_reducible show wpAny _ _ (subscriptTail _ _ (Value.ref _) (Value.int _ _)) _ _ _); (with_unfolding_all refine' item_strsB ?zk1 ?zk2 ?zk3 ?zk4 ?zk5 ?zk7 ?_ ?zk6; (case zk1 => is_list); (case zk2 => assumption); (case zk3 => l_idx); (case zk4 => l_idx); (case zk5 => omega); (case zk7 => assumption); (case zk6 => with_unfolding_all rfl); k_whole); intro _ _)
  k_with "exec For Tuple Name cons nil" => (refine stopI ?_)
  k_with "call ref" => (k_here; (with_reducible show wpAny _ _ (call (Value.ref 52) [Value.str _ _, Value.int _ _]) _ _ _); k_dflt (refine' use_site (fun S9 up9 => cram_E S9 ?zk1 ?zk2 ?zk3 ?zka ?zkb ?_) ?zk4 ?zk5 ?zk6 ?zk7 ?zk8 ?zkf ?zkk; (case zkf => exact rfl); (case zkk => exact rfl); (case zk1 => (simp only [depth_deeper, depth_in1, TA]; omega)); (case zk2 => (simp only [units_deeper, units_in1, TA]; omega)); (case zk3 => omega); (case zka => omega); (case zkb => omega); (case zk4 => k_asm); (case zk5 => k_asm); (case zk6 => k_asm); (case zk7 => k_asm); (case zk8 => k_asm); (intro _ _ _ _ e9; obtain ⟨_, _⟩ := up9 _ e9; clear up9 S9 e9; (try dsimp only); (try k_fold))))
  k_with "call type:range" => ((rename Fr _ _ _ _ => F'); (rename News _ _ _ _ => N'); (with_unfolding_all refine range1_rows F' N' ?_; intro _ _ _ _ _ _ _ _ _))
  k_with "call builtin:re.Pattern.search" => (k_here; first | (refine searchN (Frag.In.keeps (by assumption) (Fr.keep (by assumption))) ?zhok ?_; (case zhok => assumption); k_whole) | (refine searchV (Frag.In.keeps (by assumption) (Fr.keep (by assumption))) ?zhok ?_; (case zhok => assumption); k_whole))
  k_with "getMethod ref" => (k_here; first | (refine gmN (Frag.In.keeps (by assumption) (Fr.keep (by assumption))) ?_) | (refine gmV (Frag.In.keeps (by assumption) (Fr.keep (by assumption))) ?_))
  k_with "call builtin:str.join" => (k_here; (with_reducible show wpAny _ _ (call (Value.builtin "str.join") [Value.str _ _, Value.ref _]) _ _ _); (refine' join_lone ?zk1 ?zk2 ?zk3 ?_; (case zk1 => is_list); (case zk2 => omega); (case zk3 => exact Nat.le_of_ble_eq_true rfl); k_whole; intro _ _))
  k_with "call builtin:list.append" => (k_here; (with_reducible show wpAny _ _ (call (Value.builtin _) [Value.ref _, Value.ref _]) _ _ _); (rename News _ _ _ _ => lN9); (replace lN9 := drop2 lN9); k_dflt (refine' app_any ?zF ?zN ?zU ?zc ?_; (case zF => k_asm); (case zN => k_asm); (case zU => k_upd); (case zc => assumption); (intro _ _ _; (try dsimp only); (try k_fold))))
  have X0 := S.kin; revert X0; k_fill; intro _
  refine callE ?_
  refine' enterE (binds := [(Str.ofString "words", .ref l), (Str.ofString "width", .int n t2)]) ?k1 ?k8 ?k6 ?k7 ?k9 ?kB ?_ ?c2 ?c3 ?c4 ?c5; (case k1 => assumption); (case k6 => k_is); (case k7 => k_is); (case k8 => (simp only [recursionLimit]; omega)); (case k9 => first | exact BindsTo.of_eq rfl | exact binds_K (by k_in) rfl (by k_is) rfl rfl rfl); (case c5 => decide); (case kB => exact locs rfl); (case c2 => exact rfl); (case c3 => exact rfl); (case c4 => exact rfl); intro p' lo' me' mg' mb' ba' A' L' h' B' X' T' F' N'; (try dsimp only); (try k_fold)
  k_with "pyIter ref" => refine stopI ?_
  k_steps
  unfold STOP
  (rename Fr _ _ _ _ => lF')
  refine For_invTF lF' ?_ (by intro _; rfl)
  k_steps
  unfold STOP
  refine lt_nil (by assumption) (by assumption) (by rfl) (by is_list) ⟨_, by k_mem⟩ ?_
  intro h9 tk9 F9 N9
  (try dsimp only); (try k_fold)
  k_steps
  unfold STOP
  (rename Fr _ _ _ _ => lF'); (rename News _ _ _ _ => lN')
  refine' lp_rangeD3P (σ := List Value × List (Addr × Obj) × Nat) (n := ws.length) (fun D Dd Dl c => (D, instObj 223 Dd) :: (Dd, dictOf [⟨_, _, .ref Dl⟩] 1) :: (Dl, listOf c.1.toArray c.2.2) :: c.2.1) (fun _ => []) [] (fun Dl i c => TL c.2.1 c.1 (psT ws n i) ∧ ∀ p ∈ c.2.1, p.1 ≠ Dl) ([], [], 0) (by rfl) (by assumption) ?ka ?kb lF' ?kc ?kd ?ke ?kt ?kz
  (case ka => exact small_one (by omega) (by omega) (by omega) (by omega))
  case kb => exact rangeSize_nat _ _
  case kc => exact kst_newsOf lN' (by kst_in)
  case kd => exact fun _ h => nomatch h
  case ke => exact ⟨.nil, fun _ h => nomatch h⟩
  case kz =>
    rintro ⟨vr, r, n1⟩ u h tk ⟨hr1, hr2⟩ F1 N1
    dsimp only [kstB] at F1 N1 hr1 hr2
    (try k_fold)
    k_steps
    have hN := fun p hp => And.intro (N1 p hp).1 (N1 p hp).2.2
    exact k _ _ _ _ _ _ _ _ _ hr1 hN (Fr.keep (by assumption))
  case kt =>
    clear lF' lN'
    rintro ⟨vr, r, n1⟩ i t u h tk I o hi ⟨hr1, hr2⟩ hne F1 N1
    dsimp only [kstB] at F1 N1 hr1 hr2 hne
    have hlen : vr.length ≤ 1000 := by have := hr1.length; rw [psT_len] at this; omega
    have hn1 := neN (hne _ (.head _))
    have hn2 := neN (hne _ (.tail _ (.head _)))
    have hn3 := neN (hne _ (.tail _ (.tail _ (.head _))))
    have hn4 : ∀ p ∈ r, p.1 ≠ I := fun p hp => hne p (.tail _ (.tail _ (.tail _ hp)))
    dsimp only at hn1 hn2 hn3
    (try k_fold)
    have ha0 : (Str.ofString (toString (i : Int))).length ≤ 100 := by rw [digit_list i (by omega)]; exact Nat.le_of_ble_eq_true rfl
    have ha1 := digit_ok i (by omega)
    have ha2 := (cram_abd (n := n) (AB.getD hab (i : Int).toNat)).ok
    k_steps
    rw [psT_succ]
    refine dr_end (by assumption) (by assumption) hn1 hn2 hn3 hn4 (by k_ne) (by k_ne) hr2 hr1 ?_
    intro z hz
    exact if_neg hz
end Mine
end

section
open PySem PySem.W PySem.Calls PyProof.Rows
set_option maxRecDepth 100000
set_option maxHeartbeats 8000000
namespace Mine

theorem slice_strs {vs : List Value} {ns : List Str} (hi : StrsAre vs ns) {x y : Int} (h0 : 0 ≤ x) (h1 : x ≤ y) (h2 : y ≤ ns.length) :
    slicePick vs.toArray (some x) (some y) none = ((vs.drop x.toNat).take (y - x).toNat).toArray ∧ StrsAre ((vs.drop x.toNat).take (y - x).toNat) ((ns.drop x.toNat).take (y - x).toNat) := by
  have ex : x = (x.toNat : Int) := by omega
  have ey : y = (y.toNat : Int) := by omega
  have e : (y - x).toNat = y.toNat - x.toNat := by omega
  refine ⟨?_, strs_take (strs_drop hi _) _⟩
  rw [ex, ey, slicePick_run vs.toArray x.toNat y.toNat (by simp [strs_len hi]; omega) (by omega)]
  rw [← ex, ← ey, e]

theorem BL.mono {ws : List Str} {P P' : Str → Prop} {a b : Int} (ha : BL ws P a a) (hb : BL ws P' b b) (h : ∀ y, P y → P' y) : a ≤ b := by
  obtain ⟨a0, _, a1, a2, a3⟩ := ha
  obtain ⟨b0, _, b1, b2, b3⟩ := hb
  rcases Int.lt_or_le b a with hlt | hle
  · exact absurd (h _ (a2 b.toNat (by omega))) (b3 b.toNat (by omega) (by omega))
  · exact hle

theorem lt_app : ∀ {a b t : List Nat}, a < b → a < b ++ t
  | a, [], _, h => absurd h (List.not_lt_nil _)
  | [], b :: bs, _, _ => List.nil_lt_cons _ _
  | a :: as, b :: bs, t, h => by
    rcases List.cons_lt_cons_iff.mp h with h | ⟨e, h⟩
    · exact List.cons_lt_cons_iff.mpr (.inl h)
    · exact List.cons_lt_cons_iff.mpr (.inr ⟨e, lt_app h⟩)
theorem lt_tilde {y key : Str} (h : y.cps.toList < key.cps.toList) : y.cps.toList < (key ++ Str.ofString "~").cps.toList := by
  rw [cat_list]
  exact lt_app h

def inR (key y : Str) : Bool := decide (¬ y.cps.toList < key.cps.toList) && decide (y.cps.toList < (key ++ Str.ofString "~").cps.toList)

theorem filt_slice {ws : List Str} {key : Str} {a b : Int} (ha : BL ws (fun y => y.cps.toList < key.cps.toList) a a) (hb : BL ws (fun y => y.cps.toList < (key ++ Str.ofString "~").cps.toList) b b) :
    ws.filter (inR key) = (ws.drop a.toNat).take (b - a).toNat := by
  have hle := ha.mono hb fun y => lt_tilde
  obtain ⟨a0, _, a1, a2, a3⟩ := ha
  obtain ⟨b0, _, b1, b2, b3⟩ := hb
  have e1 : ws = ws.take a.toNat ++ ((ws.drop a.toNat).take (b - a).toNat ++ (ws.drop a.toNat).drop (b - a).toNat) := by rw [List.take_append_drop, List.take_append_drop]
  have f1 : (ws.take a.toNat).filter (inR key) = [] := by
    rw [List.filter_eq_nil_iff]
    intro y hy
    obtain ⟨k, hk, e⟩ := List.mem_iff_getElem.mp hy
    rw [List.length_take] at hk
    rw [List.getElem_take] at e
    have := a2 k (by omega)
    rw [List.getD_eq_getElem?_getD, List.getElem?_eq_getElem (by omega : k < ws.length), Option.getD_some, e] at this
    simp [inR, this]
  have f2 : ((ws.drop a.toNat).take (b - a).toNat).filter (inR key) = (ws.drop a.toNat).take (b - a).toNat := by
    rw [List.filter_eq_self]
    intro y hy
    obtain ⟨k, hk, e⟩ := List.mem_iff_getElem.mp hy
    rw [List.length_take, List.length_drop] at hk
    rw [List.getElem_take, List.getElem_drop] at e
    have h1 := a3 (a.toNat + k) (by omega) (by omega)
    have h2 := b2 (a.toNat + k) (by omega)
    rw [List.getD_eq_getElem?_getD, List.getElem?_eq_getElem (by omega : a.toNat + k < ws.length), Option.getD_some, e] at h1 h2
    simp [inR, h1, h2]
  have f3 : ((ws.drop a.toNat).drop (b - a).toNat).filter (inR key) = [] := by
    rw [List.filter_eq_nil_iff]
    intro y hy
    obtain ⟨k, hk, e⟩ := List.mem_iff_getElem.mp hy
    rw [List.length_drop, List.length_drop] at hk
    rw [List.getElem_drop, List.getElem_drop] at e
    have h2 := b3 (a.toNat + ((b - a).toNat + k)) (by omega) (by omega)
    rw [List.getD_eq_getElem?_getD, List.getElem?_eq_getElem (by omega : a.toNat + ((b - a).toNat + k) < ws.length), Option.getD_some, e] at h2
    simp [inR, h2]
  conv => lhs; rw [e1]
  rw [List.filter_append, List.filter_append, f1, f2, f3]
  simp

theorem ints_snoc {x : Int} {t : Tok} : ∀ {vs : List Value} {ys : List Int}, IntsAre vs ys → IntsAre (vs ++ [.int x t]) (ys ++ [x])
  | _, _, .nil => .cons x t .nil
  | _, _, .cons z u r => .cons z u (ints_snoc r)
theorem ints_snoc_at {α : Type} {f : α → Int} {k : Nat} {l : List α} {e : α} {ys : List Value} {t : Tok} (hy : IntsAre ys ((l.take k).map f)) (he : l[k]? = some e) : IntsAre (ys ++ [.int (f e) t]) ((l.take (k + 1)).map f) := by
  rw [List.take_add_one, he, List.map_append]
  exact ints_snoc hy

def lastD (e : Str) : Int := (PySem.intText? (Txt.item e (-1))).getD 0

theorem stretch_E {w : World} {dp un : Nat} {gd : Option (List Code)} {outer : List Env} {s : Shared} {Q E : Value → Shared → Prop} {l : Addr} {vs : List Value} {ws : List Str} {key : Str} {t1 : Tok}
    (S : Site w outer s.heap) (hdp : dp < 850) (hun : un < 8900) (hl : s.heap.IsList l vs.toArray) (hv : StrsAre vs ws) (hz : ws.length ≤ 42) (hs : Srt ws) (hk : key.length ≤ 100) (hd : ∀ e ∈ ws, 1 ≤ e.length ∧ e.length ≤ 100 ∧ PySem.intText? (Txt.item e (-1)) = some (lastD e))
    (k : ∀ D h' tk' vs' ns' n, IntsAre vs' ns' → ns'.Perm ((ws.filter (inR key)).map lastD) → ns'.Pairwise (· ≤ ·) → s.heap.get? D = none → h'.get? D = some (W.listOf vs'.toArray n) → Ext s.heap h' → Q (.ref D) { s with heap := h', toks := tk' }) :
    wpAny (model PySem.Challenge.rw_pm0061_01.row.prog w) (TA dp un gd outer) (call (.ref 258) [.ref l, .str key t1]) Q E s := by
  k_with_none
  k_with "CompSrc" => refine stopI ?_
  k_with "CompSrcT" => refine stopI ?_
  k_with "call ref" => (k_here; (with_reducible show wpAny _ _ (call (Value.ref 79) [Value.ref _, Value.str _ _]) _ _ _); k_dflt (refine' use_site (fun S9 up9 => bisl_E S9 ?zk1 ?zk2 ?zka ?zkb ?zk3 (Srt.downL ?zkc _) ?_) ?zk4 ?zk5 ?zk6 ?zk7 ?zk8 ?zkf ?zkk; (case zkf => exact rfl); (case zkk => exact rfl); (case zk1 => (simp only [depth_deeper, depth_in1, TA]; omega)); (case zk2 => (simp only [units_deeper, units_in1, TA]; omega)); (case zka => is_list); (case zkb => assumption); (case zk3 => first | assumption | omega); (case zkc => assumption); (case zk4 => k_asm); (case zk5 => k_asm); (case zk6 => k_asm); (case zk7 => k_asm); (case zk8 => k_asm); (intro _ _ _ _ _ e9; obtain ⟨_, _⟩ := up9 _ e9; clear up9 S9 e9; (try dsimp only); (try k_fold))))
  have X0 := S.kin; revert X0; k_fill; intro _
  refine callE ?_
  refine' enterE (binds := [(Str.ofString "row", .ref l), (Str.ofString "key", .str key t1)]) ?k1 ?k8 ?k6 ?k7 ?k9 ?kB ?_ ?c2 ?c3 ?c4 ?c5; (case k1 => assumption); (case k6 => k_is); (case k7 => k_is); (case k8 => (simp only [recursionLimit]; omega)); (case k9 => first | exact BindsTo.of_eq rfl | exact binds_K (by k_in) rfl (by k_is) rfl rfl rfl); (case c5 => decide); (case kB => exact locs rfl); (case c2 => exact rfl); (case c3 => exact rfl); (case c4 => exact rfl); intro p' lo' me' mg' mb' ba' A' L' h' B' X' T' F' N'; (try dsimp only); (try k_fold)
  k_steps
  unfold STOP
  (rename Fr _ _ _ _ => FF); (rename News _ _ _ _ => NN)
  rename_i i1 t1' h1 tk1 b1 t' k' a' i2 t2 h2 tk2 b2 h3 h4
  have hle := b1.mono b2 fun y => lt_tilde
  obtain ⟨hpick, hfs⟩ := slice_strs hv b1.1 hle b2.2.2.1
  rw [hpick] at NN
  have hfl : ((vs.drop i1.toNat).take (i2 - i1).toNat).length ≤ 42 := by
    have e := strs_len hv
    rw [List.length_take, List.length_drop]
    omega
  refine LCg.CompSrc.ledger (by rfl) FF NN (k := 0) (by k_mem) (by rw [sizeLine_eq, List.size_toArray]; omega) ?_
  intro g'
  refine cr_U (fun i ys nx => nx = _ ∧ IntsAre ys ((((ws.drop i1.toNat).take (i2 - i1).toNat).take i).map lastD)) ⟨rfl, .nil⟩ ?_ ?_
  · rintro k ys nx v I2 oI2 C oC D m₂ h tk E' hk hv ⟨rfl, hy⟩ hC hx F N off ne
    obtain ⟨e, te, rfl, he⟩ := strs_at hfs (by simpa using hv)
    have hem : e ∈ ws := List.mem_of_mem_drop (List.mem_of_mem_take (List.mem_of_getElem? he))
    obtain ⟨d1, d2, d3⟩ := hd e hem
    simp only [LCg.Off3, and_true] at off
    (try k_fold)
    k_steps
    exact ints_snoc_at hy he
  · rintro ys nx ⟨rfl, hy⟩
    intro D h tk F N off
    simp only [LCg.Off1, and_true] at off
    (try k_fold)
    k_steps
    have hfl2 : ((ws.drop i1.toNat).take (i2 - i1).toNat).length ≤ 42 := by rw [List.length_take, List.length_drop]; omega
    have hy2 : IntsAre ys (((ws.drop i1.toNat).take (i2 - i1).toNat).map lastD) := by
      have e : ((vs.drop i1.toNat).take (i2 - i1).toNat).length = ((ws.drop i1.toNat).take (i2 - i1).toNat).length := strs_len hfs
      rw [List.size_toArray, List.take_of_length_le (Nat.le_of_eq e.symm)] at hy
      exact hy
    refine kso_sorted F N (by is_list) hy2 (by rw [List.length_map]; omega) ?_
    intro D2 vs2 ns2 c2 h5 F5 N5 _ q1 _ q2 q3 _
    rw [← filt_slice b1 b2] at q2
    have hN := N5 _ (.head _)
    exact k _ _ _ _ _ _ q1 q2 q3 hN.2.2 hN.1 (Fr.keep (by assumption))
end Mine
end

section
open PySem PySem.W PySem.Calls PyProof.Rows
set_option maxRecDepth 100000
set_option maxHeartbeats 8000000
namespace Mine

theorem one_new {h h' : Heap} {D : Addr} {o : Obj} (a : h'.get? D = some o) (b : h.get? D = none) : ∀ p ∈ [(D, o)], h'.get? p.1 = some p.2 ∧ h.get? p.1 = none := fun p hp => by rw [List.mem_singleton.mp hp]; exact ⟨a, b⟩
theorem use_new {w : World} {outer : List Env} {A₀ : Around} {base h₀ h : Heap} {L : Addr} {m : Str → Option Value} {env : Env} {p : Program} {loose : List Str} {mean : ExcName → Option Value} {mg mb : Str → Option Value} {news : List (Addr × Obj)} {C : Prop}
    (k : Site w (env :: outer) h → (∀ h' nw, Ext h h' → (∀ p ∈ nw, h'.get? p.1 = some p.2 ∧ h.get? p.1 = none) → Fr h₀ L h' m ∧ News h₀ L h' (nw ++ news) ∧ (∀ p ∈ nw, ∀ q ∈ news, q.1 ≠ p.1)) → C)
    (B : Below A₀ base outer h₀) (F : Fr h₀ L h m) (X : (heap w.params).In h₀) (T : Top p loose mean mg mb h₀) (N : News h₀ L h news) (hf : env.frame = some L) (hke : env.scope.kind = .function) : C :=
  k (Site.of B F X T hf hke) fun h' nw e hn => ⟨F.keeps e, fun p hp => by
    rcases List.mem_append.mp hp with hp | hp
    · obtain ⟨h1, h2⟩ := hn p hp
      refine ⟨h1, fun e2 => ?_, ?_⟩
      · obtain ⟨o, es, ep, ho, _⟩ := F.ns
        rw [e2, ho] at h2
        cases h2
      · cases e3 : h₀.get? p.1 with
        | none => rfl
        | some o => rw [F.keep _ _ e3] at h2; cases h2
    · exact N.grown e p hp, fun p hp q hq e2 => by
    have h2 := (hn p hp).2
    rw [← e2, (N q hq).1] at h2
    cases h2⟩

theorem News.tail3 {h₀ h : Heap} {L : Addr} {a b c : Addr × Obj} {tl r : List (Addr × Obj)} (N : News h₀ L h (a :: b :: c :: tl ++ r)) : News h₀ L h (a :: b :: c :: (r ++ tl)) := fun p hp => N p (by
  simp only [List.mem_cons, List.mem_append, List.cons_append] at hp ⊢
  rcases hp with h | h | h | h | h
  · exact .inl h
  · exact .inr (.inl h)
  · exact .inr (.inr (.inl h))
  · exact .inr (.inr (.inr (.inr h)))
  · exact .inr (.inr (.inr (.inl h))))
end Mine
end

section
open PySem PySem.W PySem.Calls PyProof.Rows
set_option maxRecDepth 100000
set_option maxHeartbeats 8000000
namespace Mine
inductive HL (G : List (Addr × Obj)) : List Value → List (List Str) → Prop
  | nil : HL G [] []
  | cons (a : Addr) (n : Nat) {vs' ts vs tss} : (a, W.listOf (vs' : List Value).toArray n) ∈ G → StrsAre vs' ts → HL G vs tss → HL G (.ref a :: vs) (ts :: tss)
theorem HL.mono {G G' : List (Addr × Obj)} (h : ∀ p ∈ G, p ∈ G') : ∀ {vs tss}, HL G vs tss → HL G' vs tss
  | _, _, .nil => .nil
  | _, _, .cons a n m s r => .cons a n (h _ m) s (r.mono h)
theorem HL.snoc {G : List (Addr × Obj)} {a : Addr} {n : Nat} {vs' : List Value} {ts : List Str} (m : (a, W.listOf vs'.toArray n) ∈ G) (s : StrsAre vs' ts) : ∀ {vs tss}, HL G vs tss → HL G (vs ++ [.ref a]) (tss ++ [ts])
  | _, _, .nil => .cons a n m s .nil
  | _, _, .cons a n m' s' r => .cons a n m' s' (r.snoc m s)
theorem HL.length {G : List (Addr × Obj)} : ∀ {vs tss}, HL G vs tss → vs.length = tss.length
  | _, _, .nil => rfl
  | _, _, .cons a n m s r => by simp [r.length]
theorem HL.at {G : List (Addr × Obj)} : ∀ {vs tss}, HL G vs tss → ∀ {i : Nat} {v : Value}, vs[i]? = some v → ∃ a n vs' ts, v = .ref a ∧ (a, W.listOf (vs' : List Value).toArray n) ∈ G ∧ StrsAre vs' ts ∧ tss[i]? = some ts
  | _, _, .nil, i, v, h => by simp at h
  | _, _, .cons a n m s r, 0, v, h => ⟨a, n, _, _, by simpa using h.symm, m, s, rfl⟩
  | _, _, .cons a n m s r, i + 1, v, h => r.at (by simpa using h)


theorem map_at {α β : Type} {f : α → β} {l : List α} {i : Nat} {y : β} (h : (l.map f)[i]? = some y) : ∃ x, l[i]? = some x ∧ f x = y := by
  rw [List.getElem?_map] at h
  exact Option.map_eq_some_iff.mp h
theorem two_strs {vs : List Value} {p q : Str} (h : StrsAre vs [p, q]) : ∃ t u, vs = [.str p t, .str q u] := by
  cases h with
  | cons _ t h => cases h with
    | cons _ u h => cases h with
      | nil => exact ⟨t, u, rfl⟩
theorem item_two0 {prog : Program} {w : World} {A : Around} {E : Value → Shared → Prop} {s : Shared} {h₀ : Heap} {L l : Addr} {news : List (Addr × Obj)} {value slice : Expr} {p q : Str} {t u ut : Tok} {k : Nat} {Q : Value → Shared → Prop}
    (N : News h₀ L s.heap news) (hm : (l, W.listOf [Value.str p t, Value.str q u].toArray k) ∈ news) (h : ∀ t', Q (.str p t') s)
    (hs : subscripted slice false (.ref l) (.int 0 ut) = operate [.ref l, .int 0 ut] (getItem (.ref l) (.int 0 ut)) := by with_unfolding_all rfl) :
    wpAny (model prog w) A (subscriptTail value slice (.ref l) (.int 0 ut)) Q E s :=
  item_strs (ws := [p, q]) ⟨_, (N _ hm).1, rfl, k, rfl⟩ (.cons _ _ (.cons _ _ .nil)) (by decide) (by simp) (by simp) h hs
theorem item_two1 {prog : Program} {w : World} {A : Around} {E : Value → Shared → Prop} {s : Shared} {h₀ : Heap} {L l : Addr} {news : List (Addr × Obj)} {value slice : Expr} {p q : Str} {t u ut : Tok} {k : Nat} {Q : Value → Shared → Prop}
    (N : News h₀ L s.heap news) (hm : (l, W.listOf [Value.str p t, Value.str q u].toArray k) ∈ news) (h : ∀ t', Q (.str q t') s)
    (hs : subscripted slice false (.ref l) (.int 1 ut) = operate [.ref l, .int 1 ut] (getItem (.ref l) (.int 1 ut)) := by with_unfolding_all rfl) :
    wpAny (model prog w) A (subscriptTail value slice (.ref l) (.int 1 ut)) Q E s :=
  item_strs (ws := [p, q]) ⟨_, (N _ hm).1, rfl, k, rfl⟩ (.cons _ _ (.cons _ _ .nil)) (by decide) (by simp) (by simp) h hs


theorem off1_mem {D : Addr} : ∀ {l : List (Addr × Obj)}, LCg.Off1 D l → ∀ p ∈ l, p.1 ≠ D
  | [], _, _, h => nomatch h
  | _ :: _, x, p, h => by
    rcases List.mem_cons.mp h with rfl | h
    · exact x.1
    · exact off1_mem x.2 p h
def ask2 (n : Int) (x y : Str) : List Str := [hB y n ++ Str.ofString "$" ++ hA x n, hA x n ++ Str.ofString "..." ++ hB y n]
def longs (ws : List Str) (n : Int) : List Str := ws.filter fun (x : Str) => decide (n < (x.length : Int))
def asks1 (n : Int) (lg : List Str) (i : Nat) : List (List Str) := (lg.take i).flatMap fun x => lg.map (ask2 n x)

theorem filt_snoc {α β : Type} {f : α → Bool} {g : α → β} {l : List α} {k : Nat} {x : α} (he : l[k]? = some x) : (((l.take (k + 1)).filter f).map g) = ((l.take k).filter f).map g ++ (if f x = true then [g x] else []) := by
  rw [List.take_add_one, he, List.filter_append, List.map_append]
  congr 1
  by_cases h : f x = true
  · simp [h]
  · simp [h]

theorem half_end {h₀ h9 h' : Heap} {L I C D Ad l : Addr} {its : Array Value} {oI oC : Obj} {m : Str → Option Value} {ys : List Value} {nx G base : List (Addr × Obj)} {s₁ : Shared} {tk : Nat} {lv : List (Str × Tok)} {p q : Str} {tss tss' : List (List Str)}
    (N : News h₀ L h9 ((I, oI) :: (C, oC) :: (D, LCg.lst ys) :: nx)) (F : Fr h₀ L h' m) (N' : News h₀ L h' ((h9.objs.size, W.listOf (strValues lv).toArray 0) :: (I, oI) :: (C, oC) :: (D, LCg.lst ys) :: nx))
    (hv : StrsAre (strValues lv) [p, q]) (off : LCg.Off3 I C D nx) (hl : h₀.IsList l its) (hb : ∀ p ∈ base, p ∈ nx) (hA : ∃ o, (Ad, o) ∈ nx) (hG : ∀ p ∈ G, p ∈ nx ∧ p.1 ≠ Ad) (hy : HL G ys tss) (ht : tss' = tss ++ [[p, q]]) :
    LCg.CompEnd h₀ L m s₁ I oI C oC D (LCg.lst ys) (LCg.SrcAt h₀ l its) (fun y news' => (∀ p ∈ base, p ∈ news') ∧ ∃ G, (∀ p ∈ G, p ∈ news' ∧ p.1 ≠ Ad) ∧ HL G (ys ++ [y]) tss') (.ref h9.objs.size) { s₁ with heap := h', toks := tk } := by
  have hne : ∀ p ∈ (I, oI) :: (C, oC) :: (D, LCg.lst ys) :: nx, p.1 ≠ h9.objs.size := fun p hp e => absurd (Heap.lt_size (N p hp).1) (e ▸ Nat.lt_irrefl _)
  refine LCg.CompEnd.intro F N' ((h9.objs.size, W.listOf (strValues lv).toArray 0) :: nx) ?_ ⟨⟨(hne _ (.head _)).symm, (hne _ (.tail _ (.head _))).symm, (hne _ (.tail _ (.tail _ (.head _)))).symm⟩, off⟩ (.inl hl) ⟨fun p hp => .tail _ (hb p hp), (h9.objs.size, W.listOf (strValues lv).toArray 0) :: G, ?_, ?_⟩
  · intro p hp
    simp only [List.mem_cons] at hp ⊢
    rcases hp with h | h | h | h | h
    · exact .inr (.inl h)
    · exact .inr (.inr (.inl h))
    · exact .inr (.inr (.inr (.inl h)))
    · exact .inl h
    · exact .inr (.inr (.inr (.inr h)))
  · intro p hp
    rcases List.mem_cons.mp hp with rfl | hp
    · obtain ⟨o, ho⟩ := hA
      exact ⟨.head _, (hne _ (.tail _ (.tail _ (.tail _ ho)))).symm⟩
    · exact ⟨.tail _ (hG p hp).1, (hG p hp).2⟩
  · rw [ht]
    exact (hy.mono fun p hp => .tail _ hp).snoc (.head _) hv

theorem half_skip {h₀ h' : Heap} {L I C D l : Addr} {its : Array Value} {oI oC : Obj} {m : Str → Option Value} {ys : List Value} {nx : List (Addr × Obj)} {s₁ : Shared} {tk : Nat} {R : List (Addr × Obj) → Prop} {y : Value}
    (F : Fr h₀ L h' m) (N' : News h₀ L h' ((I, oI) :: (C, oC) :: (D, LCg.lst ys) :: nx)) (off : LCg.Off3 I C D nx) (hl : h₀.IsList l its) (r : R nx) :
    LCg.CompEnd h₀ L m s₁ I oI C oC D (LCg.lst ys) (LCg.SrcAt h₀ l its) (fun _ news' => R news') y { s₁ with heap := h', toks := tk } :=
  LCg.CompEnd.intro F N' nx (fun p hp => hp) off (.inl hl) r

theorem ask_end {s : Shared} {h₀ : Heap} {L : Addr} {xn : Str} {m₀ : Str → Option Value} {X1 X2 X3 X4 : Addr × Obj} {A I I2 D' : Addr} {o o2 : Obj} {p q : Str} {t u : Tok} {kk : Nat} {vb : List Value} {nb : Nat} {G4 : List (Addr × Obj)} {h' : Heap} {m' : Str → Option Value} {tk : Nat} {P : List Value × List (Addr × Obj) × Nat → Prop}
    (N : News h₀ L h' ((D', W.listOf [Value.str p t, Value.str q u].toArray kk) :: (I2, o2) :: (I, o) :: (A, W.listOf (vb ++ [Value.ref D']).toArray (nb + 1)) :: X1 :: X2 :: X3 :: X4 :: G4)) (F : Fr h₀ L h' m')
    (a1 : @Ne Nat I I2) (a2 : @Ne Nat A I2) (b1 : @Ne Nat X1.1 I2) (b2 : @Ne Nat X2.1 I2) (b3 : @Ne Nat X3.1 I2) (b4 : @Ne Nat X4.1 I2) (b5 : ∀ p ∈ G4, p.1 ≠ I2) (b6 : @Ne Nat D' I2) (hs : ∀ z, z ≠ xn → (∀ p ∈ ([] : List (Str × Value)), z ≠ p.1) → ([] : List Str).contains z = false → m' z = m₀ z)
    (hp : P (vb ++ [Value.ref D'], (D', W.listOf [Value.str p t, Value.str q u].toArray kk) :: G4, nb + 1)) :
    LpEnd h₀ L (fun c : List Value × List (Addr × Obj) × Nat => (I, o) :: (A, W.listOf c.1.toArray c.2.2) :: X1 :: X2 :: X3 :: X4 :: c.2.1) (fun _ => []) xn [] m₀ P I2 o2 s { s with heap := h', toks := tk } := by
  refine LpEnd.intro ((vb ++ [Value.ref D'], (D', W.listOf [Value.str p t, Value.str q u].toArray kk) :: G4, nb + 1) : List Value × List (Addr × Obj) × Nat) F N (.tail _ (.head _)) ?_ ?_ (fun _ h => nomatch h) hs hp
  · intro z hz
    simp only [List.mem_cons] at hz ⊢
    rcases hz with h | h | h | h | h | h | h | h
    · exact .inr (.inr (.inl h))
    · exact .inr (.inr (.inr (.inl h)))
    · exact .inr (.inr (.inr (.inr (.inl h))))
    · exact .inr (.inr (.inr (.inr (.inr (.inl h)))))
    · exact .inr (.inr (.inr (.inr (.inr (.inr (.inl h))))))
    · exact .inr (.inr (.inr (.inr (.inr (.inr (.inr (.inl h)))))))
    · exact .inl h
    · exact .inr (.inr (.inr (.inr (.inr (.inr (.inr (.inr h)))))))
  · intro z hz
    simp only [List.mem_cons] at hz
    rcases hz with rfl | rfl | rfl | rfl | rfl | rfl | rfl | h
    · exact a1
    · exact a2
    · exact b1
    · exact b2
    · exact b3
    · exact b4
    · exact b6
    · exact b5 z h

theorem ask_end2 {s : Shared} {h₀ : Heap} {L : Addr} {xn : Str} {m₀ : Str → Option Value} {X1 X2 X3 X4 : Addr × Obj} {A I2 D' : Addr} {o2 : Obj} {p q : Str} {t u : Tok} {kk : Nat} {vb : List Value} {nb : Nat} {G4 : List (Addr × Obj)} {h' : Heap} {m' : Str → Option Value} {tk : Nat} {P : List Value × List (Addr × Obj) × Nat → Prop} {st : List Str}
    (N : News h₀ L h' ((D', W.listOf [Value.str p t, Value.str q u].toArray kk) :: (I2, o2) :: (A, W.listOf (vb ++ [Value.ref D']).toArray (nb + 1)) :: X1 :: X2 :: X3 :: X4 :: G4)) (F : Fr h₀ L h' m')
    (a2 : @Ne Nat A I2) (b1 : @Ne Nat X1.1 I2) (b2 : @Ne Nat X2.1 I2) (b3 : @Ne Nat X3.1 I2) (b4 : @Ne Nat X4.1 I2) (b5 : ∀ p ∈ G4, p.1 ≠ I2) (b6 : @Ne Nat D' I2) (hs : ∀ z, z ≠ xn → (∀ p ∈ ([] : List (Str × Value)), z ≠ p.1) → st.contains z = false → m' z = m₀ z)
    (hp : P (vb ++ [Value.ref D'], (D', W.listOf [Value.str p t, Value.str q u].toArray kk) :: G4, nb + 1)) :
    LpEnd h₀ L (fun c : List Value × List (Addr × Obj) × Nat => (A, W.listOf c.1.toArray c.2.2) :: X1 :: X2 :: X3 :: X4 :: c.2.1) (fun _ => []) xn st m₀ P I2 o2 s { s with heap := h', toks := tk } := by
  refine LpEnd.intro ((vb ++ [Value.ref D'], (D', W.listOf [Value.str p t, Value.str q u].toArray kk) :: G4, nb + 1) : List Value × List (Addr × Obj) × Nat) F N (.tail _ (.head _)) ?_ ?_ (fun _ h => nomatch h) hs hp
  · intro z hz
    simp only [List.mem_cons] at hz ⊢
    rcases hz with h | h | h | h | h | h | h
    · exact .inr (.inr (.inl h))
    · exact .inr (.inr (.inr (.inl h)))
    · exact .inr (.inr (.inr (.inr (.inl h))))
    · exact .inr (.inr (.inr (.inr (.inr (.inl h)))))
    · exact .inr (.inr (.inr (.inr (.inr (.inr (.inl h))))))
    · exact .inl h
    · exact .inr (.inr (.inr (.inr (.inr (.inr (.inr h))))))
  · intro z hz
    simp only [List.mem_cons] at hz
    rcases hz with rfl | rfl | rfl | rfl | rfl | rfl | h
    · exact a2
    · exact b1
    · exact b2
    · exact b3
    · exact b4
    · exact b6
    · exact b5 z h

theorem hA_len (x : Str) (n : Int) : (hA x n).length ≤ x.length := by
  unfold hA; rw [smallT_len]; exact PySem.Txt.slice_le _ _ _
theorem hB_len (x : Str) (n : Int) : (hB x n).length ≤ x.length := by
  unfold hB; rw [smallT_len]; exact PySem.Txt.slice_le _ _ _
def ask1 (n : Int) (x : Str) : List Str := [Str.ofString "$" ++ smallT (cramT x n) ++ Str.ofString "|", smallT (cramT x n)]
def asks2 (n : Int) (ws : List Str) (i : Nat) : List (List Str) := ((ws.take i).filter fun (x : Str) => decide ((x.length : Int) ≤ n)).map (ask1 n)
theorem asks1_succ {n : Int} {lg : List Str} {i : Nat} {x : Str} (hx : lg[i]? = some x) : asks1 n lg (i + 1) = asks1 n lg i ++ lg.map (ask2 n x) := by
  unfold asks1
  rw [List.take_add_one, hx, List.flatMap_append]
  simp
theorem asks1_len (n : Int) (lg : List Str) : ∀ i, (asks1 n lg i).length ≤ i * lg.length := by
  intro i
  unfold asks1
  rw [List.length_flatMap]
  have : ((lg.take i).map fun x => (lg.map (ask2 n x)).length) = (lg.take i).map fun _ => lg.length := by
    apply List.map_congr_left; intro a _; simp
  rw [this, List.map_const', List.sum_replicate_nat, List.length_take]
  exact Nat.mul_le_mul (Nat.min_le_left _ _) (Nat.le_refl _)
end Mine
end

section
open PySem PySem.W PySem.Calls PyProof.Rows Builtin Builtin.Str
set_option maxRecDepth 100000
set_option maxHeartbeats 8000000
namespace Mine

def LD (x : Str) : Prop := ∀ c ∈ x.cps.toList, c = 46 ∨ c = 97 ∨ c = 98
def bigT (x : Str) : Str := ⟨x.cps.map up1⟩
theorem LD.ok {x : Str} (h : LD x) : ∀ c ∈ x.cps.toList, okC c = true := fun c hc => by
  rcases h c hc with rfl | rfl | rfl <;> rfl
theorem upper_ld {x : Str} (h : LD x) : Txt.upper x = bigT x := upper_ascii fun c hc => by rcases h c hc with rfl | rfl | rfl <;> decide
theorem lower_big {x : Str} (h : LD x) : Txt.lower (bigT x) = x := by
  have e : ∀ c ∈ (bigT x).cps.toList, c < 128 := by
    intro c hc
    simp only [bigT, Array.toList_map, List.mem_map] at hc
    obtain ⟨d, hd, rfl⟩ := hc
    rcases h d hd with rfl | rfl | rfl <;> decide
  rw [lower_ascii e]
  apply Str.ext_list
  show ((x.cps.map up1).map lo1).toList = x.cps.toList
  rw [Array.toList_map, Array.toList_map, List.map_map]
  have : x.cps.toList.map (lo1 ∘ up1) = x.cps.toList.map _root_.id := List.map_congr_left fun c hc => by
    rcases h c hc with rfl | rfl | rfl <;> rfl
  rw [this, List.map_id]
theorem lower_abd {x : Str} (h : ABD x) : Txt.lower x = smallT x := by
  rw [lower_ascii fun c hc => by rcases h c hc with rfl | rfl | rfl | rfl | rfl <;> decide]
  apply Str.ext_list
  rw [small_list]
  show (x.cps.map lo1).toList = _
  rw [Array.toList_map]
  exact List.map_congr_left fun c hc => by
    rcases h c hc with rfl | rfl | rfl | rfl | rfl <;> rfl
theorem bigT_len (x : Str) : (bigT x).length = x.length := by simp [bigT, Str.length]
theorem LD.cat {x y : Str} (hx : LD x) (hy : LD y) : LD (x ++ y) := by
  intro c hc
  rw [cat_list] at hc
  rcases List.mem_append.mp hc with hc | hc
  · exact hx c hc
  · exact hy c hc
theorem LD.dots : LD (Str.ofString "...") := by
  intro c hc
  rw [dots_list] at hc
  simp at hc
  exact .inl hc
theorem LD.low {x : Str} (h : ABD x) : LD (smallT x) := by
  intro c hc
  rw [small_list] at hc
  obtain ⟨d, hd, rfl⟩ := List.mem_map.mp hc
  rcases h d hd with rfl | rfl | rfl | rfl | rfl <;> simp [Mine.low]
theorem AB.sl_to {x : Str} (h : AB x) {j : Int} (hj : 0 ≤ j) : AB (Txt.slice x none (some j)) := by
  intro c hc
  rw [Mine.sl_to hj] at hc
  exact h c (List.mem_of_mem_take hc)
theorem AB.sl_from {x : Str} (h : AB x) {j : Int} (hj : 0 ≤ j) : AB (Txt.slice x (some j) none) := by
  intro c hc
  rw [Mine.sl_from hj] at hc
  exact h c (List.mem_of_mem_drop hc)
theorem hA_ld {x : Str} (h : AB x) (n : Int) : LD (hA x n) := LD.low (h.sl_to (preN_nn n)).d
theorem hB_ld {x : Str} (h : AB x) {n : Int} (hn : n < (x.length : Int)) : LD (hB x n) := LD.low (h.sl_from (by have := postN_le hn; omega)).d

section
variable {prog : Program} {w : World} {A : Around} {E : Value → Shared → Prop} {s : Shared} {x : Str} {t : Tok} {Q : Value → Shared → Prop}
theorem up_ld (h : LD x) (hl : x.length ≤ 100) (q : ∀ t' k, Q (.str (bigT x) t') { s with toks := k }) : wpAny (model prog w) A (call (.builtin "str.upper") [.str x t]) Q E s :=
  SCL.upper (by omega) fun _ => by rw [upper_ld h]; exact q _ _
theorem lo_big (h : LD x) (hl : x.length ≤ 100) (q : ∀ t' k, Q (.str x t') { s with toks := k }) : wpAny (model prog w) A (call (.builtin "str.lower") [.str (bigT x) t]) Q E s :=
  SCL.lower (by rw [bigT_len]; omega) fun _ => by rw [lower_big h]; exact q _ _
theorem lo_abd (h : ABD x) (hl : x.length ≤ 100) (q : ∀ t' k, Q (.str (smallT x) t') { s with toks := k }) : wpAny (model prog w) A (call (.builtin "str.lower") [.str x t]) Q E s :=
  SCL.lower (by omega) fun _ => by rw [lower_abd h]; exact q _ _
end

theorem longs_mem {ws : List Str} {n : Int} {x : Str} (h : x ∈ longs ws n) : x ∈ ws ∧ n < (x.length : Int) := by
  have := List.mem_filter.mp h
  exact ⟨this.1, by simpa using this.2⟩

def asksT (ws : List Str) (n : Int) : List (List Str) := asks1 n (longs ws n) (longs ws n).length ++ asks2 n ws ws.length
theorem asks_ok {ws : List Str} {n : Int} (hw : ∀ y ∈ ws, y.length ≤ 6) (hab : ∀ y ∈ ws, AB y) {a : List Str} (h : a ∈ asksT ws n) : ∃ p q, a = [p, q] ∧ p.length ≤ 100 ∧ q.length ≤ 100 ∧ LD q := by
  rcases List.mem_append.mp h with h | h
  · obtain ⟨x, hx, h⟩ := List.mem_flatMap.mp h
    obtain ⟨y, hy, rfl⟩ := List.mem_map.mp h
    have hx := longs_mem (List.mem_of_mem_take hx)
    have hy := longs_mem hy
    have a1 := hA_len x n
    have a2 := hB_len y n
    have a3 := hw x hx.1
    have a4 := hw y hy.1
    refine ⟨_, _, rfl, ?_, ?_, ((hA_ld (hab x hx.1) n).cat LD.dots).cat (hB_ld (hab y hy.1) hy.2)⟩
    · rw [Str.length_append, Str.length_append, show (Str.ofString "$").length = 1 from rfl]; omega
    · rw [Str.length_append, Str.length_append, show (Str.ofString "...").length = 3 from rfl]; omega
  · obtain ⟨x, hx, rfl⟩ := List.mem_map.mp h
    have hx := List.mem_of_mem_take (List.mem_filter.mp hx).1
    have a1 := cramT_len x n
    have a3 := hw x hx
    refine ⟨_, _, rfl, ?_, ?_, LD.low (cram_abd (hab x hx))⟩
    · rw [Str.length_append, Str.length_append, smallT_len, show (Str.ofString "$").length = 1 from rfl, show (Str.ofString "|").length = 1 from rfl]; omega
    · rw [smallT_len]; omega

theorem asks_len {ws : List Str} {n : Int} (hz : ws.length ≤ 6) : (asksT ws n).length ≤ 42 := by
  unfold asksT asks2
  rw [List.length_append, List.length_map]
  have e1 := asks1_len n (longs ws n) (longs ws n).length
  have e2 : (longs ws n).length ≤ 6 := Nat.le_trans (List.length_filter_le _ _) hz
  have e3 : (longs ws n).length * (longs ws n).length ≤ 6 * 6 := Nat.mul_le_mul e2 e2
  have e4 := List.length_filter_le (fun x : Str => decide ((x.length : Int) ≤ n)) (ws.take ws.length)
  rw [List.length_take] at e4
  omega
theorem intText_digit : ∀ i : Nat, i < 6 → PySem.intText? (Str.ofString (toString (i : Int))) = some (i : Int) := by
  intro i hi
  exact KIN.num_reads (by omega) (by omega)
theorem entryT_last {x : Str} {j a : Nat} (hj : j < 6) : Txt.item (entryT x j a) (-1) = Str.ofString (toString (j : Int)) := by
  unfold entryT
  rw [digit_list j hj]
  exact item_last_right1 _ _
theorem entryT_lastD {x : Str} {j a : Nat} (hj : j < 6) : lastD (entryT x j a) = (j : Int) := by
  unfold lastD
  rw [entryT_last hj, intText_digit j hj]
  rfl
theorem entryT_len {x : Str} {j a : Nat} (hx : x.length ≤ 6) (hj : j < 6) : 1 ≤ (entryT x j a).length ∧ (entryT x j a).length ≤ 100 := by
  have h1 := PySem.Txt.slice_le (smallT x ++ Str.ofString "$") (some (a : Int)) none
  have h2 := PySem.Txt.slice_le (smallT x ++ Str.ofString "$") none (some (a : Int))
  have h3 : (smallT x ++ Str.ofString "$").length = x.length + 1 := by rw [Str.length_append, smallT_len]; rfl
  unfold entryT
  rw [digit_list j hj, Str.length_append, Str.length_append, Str.length_append, show (Str.ofString "|").length = 1 from rfl]
  have h4 : (⟨#[48 + j]⟩ : Str).length = 1 := rfl
  omega
theorem entries_mem {ws : List Str} {m : Nat} {e : Str} (h : e ∈ entries ws m) : ∃ j a, j < m ∧ e = entryT (ws.getD j Str.empty) j a := by
  obtain ⟨j, hj, h⟩ := List.mem_flatMap.mp h
  obtain ⟨a, _, rfl⟩ := List.mem_map.mp h
  exact ⟨j, a, List.mem_range.mp hj, rfl⟩
theorem getD_len {ws : List Str} (hw : ∀ y ∈ ws, y.length ≤ 6) (m : Nat) : (ws.getD m Str.empty).length ≤ 6 := by
  rw [List.getD_eq_getElem?_getD]
  cases e : ws[m]? with
  | none => simp [Str.empty, Str.length]
  | some y => exact hw y (List.mem_of_getElem? e)
theorem rows_ok {ws rows : List Str} (hw : ∀ y ∈ ws, y.length ≤ 6) (hz : ws.length ≤ 6) (hp : rows.Perm (entries ws ws.length)) : ∀ e ∈ rows, 1 ≤ e.length ∧ e.length ≤ 100 ∧ PySem.intText? (Txt.item e (-1)) = some (lastD e) := by
  intro e he
  obtain ⟨j, a, hj, rfl⟩ := entries_mem (hp.mem_iff.mp he)
  have hl := entryT_len (a := a) (getD_len hw j) (by omega : j < 6)
  refine ⟨hl.1, hl.2, ?_⟩
  rw [entryT_lastD (by omega), entryT_last (by omega), intText_digit j (by omega)]

def sortI (l : List Int) : List Int := l.mergeSort fun a b => decide (a ≤ b)
theorem sortI_of {l r : List Int} (hp : r.Perm l) (hs : r.Pairwise (· ≤ ·)) : r = sortI l := by
  have h1 : (sortI l).Pairwise (fun a b => decide (a ≤ b) = true) := List.pairwise_mergeSort (by simp only [decide_eq_true_eq]; intro a b c; exact Int.le_trans) (by simp only [Bool.or_eq_true, decide_eq_true_eq]; intro a b; exact Int.le_total a b) l
  have h2 : (sortI l).Perm l := List.mergeSort_perm l _
  refine List.Perm.eq_of_pairwise (le := (· ≤ ·)) ?_ hs (h1.imp fun h => of_decide_eq_true h) (hp.trans h2.symm)
  intro a b _ _ h1 h2
  exact Int.le_antisymm h1 h2

def datP (xs ys : List Int) : Dat := .list [.list (xs.map .int), .list (ys.map .int)]
theorem dat_ints {G : List (Addr × Obj)} : ∀ {vs : List Value} {ns : List Int}, IntsAre vs ns → DatAll G vs (ns.map .int)
  | _, _, .nil => .nil
  | _, _, .cons _ t r => .cons (.int _ t) (dat_ints r)
def numD (y : Str) : Int := (PySem.intText? y).getD 0
def getsT (ws : List Str) (n : Int) (name : Str) : List Int := ((psT ws n ws.length).filter fun p => smallT p.1 == name).map fun p => numD p.2
def strchT (ws : List Str) (key : Str) : List Int := sortI (((entries ws ws.length).filter (inR key)).map lastD)
def toldD (ws : List Str) (n : Int) (a : List Str) : Dat := datP (strchT ws (a.getD 0 Str.empty)) (getsT ws n (a.getD 1 Str.empty))
theorem told_snoc {ws : List Str} {n : Int} {as : List (List Str)} {i : Nat} {p q : Str} (h : as[i]? = some [p, q]) : (as.take (i + 1)).map (toldD ws n) = (as.take i).map (toldD ws n) ++ [datP (strchT ws p) (getsT ws n q)] := by
  rw [List.take_add_one, h, List.map_append]
  rfl
theorem strch_of {ws rows : List Str} {key : Str} {ns : List Int} (hp : rows.Perm (entries ws ws.length)) (h1 : ns.Perm ((rows.filter (inR key)).map lastD)) (h2 : ns.Pairwise (· ≤ ·)) : ns = strchT ws key :=
  sortI_of (h1.trans ((hp.filter _).map _)) h2
theorem psT_at {ws : List Str} {n : Int} (hz : ws.length ≤ 6) (hw : ∀ y ∈ ws, y.length ≤ 6) (hab : ∀ y ∈ ws, AB y) {i : Nat} {p : Str × Str} (h : (psT ws n ws.length)[i]? = some p) : ABD p.1 ∧ p.1.length ≤ 100 ∧ p.2.length ≤ 100 ∧ PySem.intText? p.2 = some (numD p.2) := by
  obtain ⟨j, hj, rfl⟩ := map_at h
  have hj6 : j < ws.length := by
    have := List.mem_of_getElem? hj
    exact List.mem_range.mp this
  dsimp only
  have a1 := cramT_len (ws.getD j Str.empty) n
  have a2 := getD_len hw j
  refine ⟨cram_abd (AB.getD hab j), by omega, ?_, ?_⟩
  · rw [digit_list j (by omega)]; exact Nat.le_of_ble_eq_true rfl
  · unfold numD; rw [intText_digit j (by omega)]; rfl
theorem TL.at {tl : List (Addr × Obj)} : ∀ {vs ps}, TL tl vs ps → ∀ {i : Nat} {v : Value}, vs[i]? = some v → ∃ a x t y u, v = .ref a ∧ (a, tupO x t y u) ∈ tl ∧ ps[i]? = some (x, y)
  | _, _, .nil, i, v, h => by simp at h
  | _, _, .cons a x t y u m r, 0, v, h => ⟨a, x, t, y, u, by simpa using h.symm, m, rfl⟩
  | _, _, .cons a x t y u m r, i + 1, v, h => r.at (by simpa using h)
theorem strs_snocF {ps : List (Str × Str)} {f : Str × Str → Bool} {k : Nat} {x y : Str} {u : Tok} {ys : List Value} (hy : StrsAre ys (((ps.take k).filter f).map (·.2))) (he : ps[k]? = some (x, y)) (h : f (x, y) = true) : StrsAre (ys ++ [.str y u]) (((ps.take (k + 1)).filter f).map (·.2)) := by
  rw [filt_snoc he, if_pos h]
  exact strs_append hy (.cons _ _ .nil)
theorem strs_skipF {ps : List (Str × Str)} {f : Str × Str → Bool} {k : Nat} {x y : Str} {ys : List Value} (hy : StrsAre ys (((ps.take k).filter f).map (·.2))) (he : ps[k]? = some (x, y)) (h : ¬ f (x, y) = true) : StrsAre ys (((ps.take (k + 1)).filter f).map (·.2)) := by
  rw [filt_snoc he, if_neg h, List.append_nil]
  exact hy
theorem comp_end {h₀ h' : Heap} {L I C D l : Addr} {its : Array Value} {oI oC : Obj} {m : Str → Option Value} {ys : List Value} {nx : List (Addr × Obj)} {s₁ : Shared} {tk k : Nat} {R : Value → List (Addr × Obj) → Prop} {y : Value}
    (F : Fr h₀ L h' m) (N' : News h₀ L h' ((I, oI) :: (C, oC) :: (D, LCg.lst ys) :: nx)) (off : LCg.Off3 I C D nx) (hm : (l, ({ cls := .type "list", data := .seq its k } : Obj)) ∈ nx) (r : R y nx) :
    LCg.CompEnd h₀ L m s₁ I oI C oC D (LCg.lst ys) (LCg.SrcAt h₀ l its) R y { s₁ with heap := h', toks := tk } :=
  LCg.CompEnd.intro F N' nx (fun p hp => hp) off (.inr ⟨_, hm, rfl, _, rfl⟩) r
theorem psT_nums {ws : List Str} {n : Int} (hz : ws.length ≤ 6) (hw : ∀ y ∈ ws, y.length ≤ 6) (hab : ∀ y ∈ ws, AB y) {f : Str × Str → Bool} {y : Str} (h : y ∈ ((psT ws n ws.length).filter f).map (·.2)) : PySem.intText? y = some (numD y) ∧ y.length ≤ 100 := by
  obtain ⟨p, hp, rfl⟩ := List.mem_map.mp h
  obtain ⟨i, hi⟩ := List.mem_iff_getElem?.mp (List.mem_filter.mp hp).1
  obtain ⟨_, _, h3, h4⟩ := psT_at hz hw hab hi
  exact ⟨h4, h3⟩
theorem gets_eq (ws : List Str) (n : Int) (q : Str) : (((psT ws n ws.length).filter fun p => smallT p.1 == q).map (·.2)).map numD = getsT ws n q := by
  unfold getsT; rw [List.map_map]; rfl
theorem gets_len (ws : List Str) (n : Int) (f : Str × Str → Bool) : (((psT ws n ws.length).filter f).map (·.2)).length ≤ ws.length := by
  rw [List.length_map]
  exact Nat.le_trans (List.length_filter_le _ _) (by rw [psT_len]; exact Nat.le_refl _)
theorem not_in2 {x y z : Str} (h : [x, y].contains z = false) : z ≠ x ∧ z ≠ y ∧ ¬ [x, y].contains z = true := by
  refine ⟨?_, ?_, by rw [h]; decide⟩
  · intro e
    rw [e] at h
    simp at h
  · intro e
    rw [e] at h
    simp at h
def MarkK : Prop := True
def MarkA : Prop := True
theorem off1_of {D : Addr} : ∀ {l : List (Addr × Obj)}, (∀ p ∈ l, p.1 ≠ D) → LCg.Off1 D l
  | [], _ => trivial
  | p :: r, h => ⟨h p (.head _), off1_of fun q hq => h q (.tail _ hq)⟩
theorem told_end {s : Shared} {h₀ : Heap} {L : Addr} {st : List Str} {m₀ : Str → Option Value} {X0 X1 X2 X3 X4 Y7 Y9 : Addr × Obj} {I T E8 D8 D9 : Addr} {o e8 d8 d9 : Obj} {vc : List Value} {nc : Nat} {G5 : List (Addr × Obj)} {h' : Heap} {m' : Str → Option Value} {tk : Nat} {P : List Value × List (Addr × Obj) × Nat → Prop}
    (N : News h₀ L h' ((E8, e8) :: (D8, d8) :: Y7 :: Y9 :: (D9, d9) :: (I, o) :: (T, W.listOf (vc ++ [Value.ref E8]).toArray (nc + 1)) :: X0 :: X1 :: X2 :: X3 :: X4 :: G5)) (F : Fr h₀ L h' m')
    (a0 : @Ne Nat T I) (b0 : @Ne Nat X0.1 I) (b1 : @Ne Nat X1.1 I) (b2 : @Ne Nat X2.1 I) (b3 : @Ne Nat X3.1 I) (b4 : @Ne Nat X4.1 I) (b5 : ∀ p ∈ G5, p.1 ≠ I) (b6 : @Ne Nat E8 I) (b7 : @Ne Nat D8 I) (b8 : @Ne Nat D9 I)
    (hs : ∀ z, (∀ p ∈ ([] : List (Str × Value)), z ≠ p.1) → st.contains z = false → m' z = m₀ z)
    (hp : P (vc ++ [Value.ref E8], (E8, e8) :: (D8, d8) :: (D9, d9) :: G5, nc + 1)) :
    LtEnd h₀ L (fun c : List Value × List (Addr × Obj) × Nat => (T, W.listOf c.1.toArray c.2.2) :: X0 :: X1 :: X2 :: X3 :: X4 :: c.2.1) (fun _ => []) st m₀ P I o s .next { s with heap := h', toks := tk } := by
  refine LtEnd.intro ((vc ++ [Value.ref E8], (E8, e8) :: (D8, d8) :: (D9, d9) :: G5, nc + 1) : List Value × List (Addr × Obj) × Nat) F N (by simp) ?_ ?_ (fun _ h => nomatch h) hs hp
  · intro z hz
    simp only [List.mem_cons] at hz ⊢
    rcases hz with h | h | h | h | h | h | h | h | h | h <;> simp [h]
  · intro z hz
    simp only [List.mem_cons] at hz
    rcases hz with rfl | rfl | rfl | rfl | rfl | rfl | rfl | rfl | rfl | h
    · exact a0
    · exact b0
    · exact b1
    · exact b2
    · exact b3
    · exact b4
    · exact b6
    · exact b7
    · exact b8
    · exact b5 z h
theorem told_dat {G : List (Addr × Obj)} {E8 D8 D9 : Addr} {v9 zs vc : List Value} {n9 n8 nE : Nat} {x9 x8 : List Int} {ds : List Dat} (h : DatAll G vc ds) (i9 : IntsAre v9 x9) (i8 : IntsAre zs x8) :
    DatAll ((E8, W.listOf #[Value.ref D9, Value.ref D8] nE) :: (D8, W.listOf zs.toArray n8) :: (D9, W.listOf v9.toArray n9) :: G) (vc ++ [.ref E8]) (ds ++ [datP x9 x8]) :=
  (h.mono fun p hp => .tail _ (.tail _ (.tail _ hp))).append (.one (.list (vs := [Value.ref D9, Value.ref D8]) (.head _) (.cons (.list (.tail _ (.tail _ (.head _))) (dat_ints i9)) (.cons (.list (.tail _ (.head _)) (dat_ints i8)) .nil))))
theorem allLt_ne1 {d : Nat} : ∀ {l : List (Addr × Obj)}, AllLt d l → ∀ p ∈ l, p.1 ≠ d + 1
  | [], _, q, hq => nomatch hq
  | p :: r, h, q, hq => by
    obtain ⟨h1, h2⟩ : @LT.lt Nat _ p.1 d ∧ AllLt d r := h
    rcases List.mem_cons.mp hq with e | hq
    · rw [e]
      exact Nat.ne_of_lt (Nat.lt_succ_of_lt h1)
    · exact allLt_ne1 h2 q hq
end Mine
end

section
open PySem PySem.W PySem.Calls PyProof.Rows Builtin Builtin.Str
set_option maxRecDepth 100000
set_option maxHeartbeats 8000000
namespace Mine
def NeA (a b : Addr) : Prop := @Ne Nat a b
theorem NeA.ne {a b : Addr} (h : NeA a b) : @Ne Nat a b := h
theorem NeA.sym {a b : Addr} (h : NeA b a) : @Ne Nat a b := Ne.symm h
def OffA (D : Addr) (l : List (Addr × Obj)) : Prop := l.foldr (fun p r => NeA p.1 D ∧ r) True
theorem offA_of {D : Addr} : ∀ {l : List (Addr × Obj)}, LCg.Off1 D l → OffA D l
  | [], _ => trivial
  | _ :: _, h => ⟨h.1, offA_of h.2⟩
theorem offA_mem {D : Addr} : ∀ {l : List (Addr × Obj)}, OffA D l → ∀ p ∈ l, p.1 ≠ D
  | [], _, q, hq => nomatch hq
  | p :: r, h, q, hq => by
    obtain ⟨h1, h2⟩ : NeA p.1 D ∧ OffA D r := h
    rcases List.mem_cons.mp hq with e | hq
    · rw [e]; exact h1
    · exact offA_mem h2 q hq
theorem offA_ne {D : Addr} : ∀ {l : List (Addr × Obj)}, (∀ p ∈ l, p.1 ≠ D) → OffA D l
  | [], _ => trivial
  | p :: r, h => ⟨h p (.head _), offA_ne fun q hq => h q (.tail _ hq)⟩
theorem strs_snocM {f : Str → Str} {l : List Str} {k : Nat} {x : Str} {ys : List Value} {t : Tok} (hy : StrsAre ys ((l.take k).map f)) (he : l[k]? = some x) : StrsAre (ys ++ [.str (f x) t]) ((l.take (k + 1)).map f) := by
  rw [List.take_add_one, he, List.map_append]
  exact strs_append hy (.cons _ _ .nil)
theorem strs_snocT {l : List Str} {f : Str → Bool} {k : Nat} {y : Str} {u : Tok} {ys : List Value} (hy : StrsAre ys ((l.take k).filter f)) (he : l[k]? = some y) (h : f y = true) : StrsAre (ys ++ [.str y u]) ((l.take (k + 1)).filter f) := by
  rw [List.take_add_one, he, List.filter_append]
  exact strs_append hy (by simp only [Option.toList_some, List.filter_cons, h, if_true, List.filter_nil]; exact .cons _ _ .nil)
theorem strs_skipT {l : List Str} {f : Str → Bool} {k : Nat} {y : Str} {ys : List Value} (hy : StrsAre ys ((l.take k).filter f)) (he : l[k]? = some y) (h : ¬ f y = true) : StrsAre ys ((l.take (k + 1)).filter f) := by
  rw [List.take_add_one, he, List.filter_append]
  simp only [Option.toList_some, List.filter_cons, h, Bool.false_eq_true, if_false, List.filter_nil, List.append_nil]
  exact hy
theorem ints_snocR {f : Nat → Bool} {k : Nat} {u : Tok} {ys : List Value} (hy : IntsAre ys (((List.range k).filter f).map fun (j : Nat) => (j : Int))) (h : f k = true) : IntsAre (ys ++ [.int (k : Int) u]) (((List.range (k + 1)).filter f).map fun (j : Nat) => (j : Int)) := by
  rw [List.range_succ, List.filter_append, List.map_append]
  simp only [List.filter_cons, h, if_true, List.filter_nil, List.map_cons, List.map_nil]
  exact ints_snoc hy
theorem ints_skipR {f : Nat → Bool} {k : Nat} {ys : List Value} (hy : IntsAre ys (((List.range k).filter f).map fun (j : Nat) => (j : Int))) (h : ¬ f k = true) : IntsAre ys (((List.range (k + 1)).filter f).map fun (j : Nat) => (j : Int)) := by
  rw [List.range_succ, List.filter_append, List.map_append]
  simp only [List.filter_cons, h, Bool.false_eq_true, if_false, List.filter_nil, List.map_nil, List.append_nil]
  exact hy
theorem ints_snocT {l : List Int} {f : Int → Bool} {k : Nat} {y : Int} {u : Tok} {ys : List Value} (hy : IntsAre ys ((l.take k).filter f)) (he : l[k]? = some y) (h : f y = true) : IntsAre (ys ++ [.int y u]) ((l.take (k + 1)).filter f) := by
  rw [List.take_add_one, he, List.filter_append]
  simp only [Option.toList_some, List.filter_cons, h, if_true, List.filter_nil]
  exact ints_snoc hy
theorem ints_skipT {l : List Int} {f : Int → Bool} {k : Nat} {y : Int} {ys : List Value} (hy : IntsAre ys ((l.take k).filter f)) (he : l[k]? = some y) (h : ¬ f y = true) : IntsAre ys ((l.take (k + 1)).filter f) := by
  rw [List.take_add_one, he, List.filter_append]
  simp only [Option.toList_some, List.filter_cons, h, Bool.false_eq_true, if_false, List.filter_nil, List.append_nil]
  exact hy
def smalls (ws : List Str) : List Str := ws.map smallT
theorem smalls_len {ws : List Str} : (smalls ws).length = ws.length := by simp [smalls]
theorem smalls_mem {ws : List Str} (hw : ∀ y ∈ ws, y.length ≤ 6) {x : Str} (h : x ∈ smalls ws) : x.length ≤ 6 := by
  obtain ⟨y, hy, rfl⟩ := List.mem_map.mp h
  rw [smallT_len]; exact hw y hy
def aheadN (n : Int) : Int := (if n - 3 > 0 then n - 3 else 0).fdiv 2
def behindN (n : Int) : Int := (if n - 3 > 0 then n - 3 else 0) - aheadN n
theorem ahead_bd {n : Int} (h : n ≤ 6) : 0 ≤ aheadN n ∧ aheadN n ≤ 10 ∧ 0 ≤ behindN n ∧ behindN n ≤ 10 := by
  unfold behindN aheadN
  rw [Int.fdiv_eq_ediv_of_nonneg _ (by decide)]
  split <;> omega
def wideT (ws : List Str) (n : Int) : List Str := (smalls ws).filter fun (x : Str) => decide (n < (x.length : Int))
def hitsT (ws : List Str) (n : Int) (x y : Str) : List Int := ((List.range ws.length).filter fun j => fitsT ((smalls ws).getD j Str.empty) (aheadN n) (behindN n) x y).map fun (j : Nat) => (j : Int)
def longI (ws : List Str) (n : Int) (j : Int) : Bool := decide (n < (((smalls ws).getD j.toNat Str.empty).length : Int))
def dueD (ws : List Str) (n : Int) (x y : Str) : Dat := datP (hitsT ws n x y) ((hitsT ws n x y).filter (longI ws n))
def sameT (ws : List Str) (x : Str) : List Int := ((List.range ws.length).filter fun j => (smalls ws).getD j Str.empty == x).map fun (j : Nat) => (j : Int)
def due1 (ws : List Str) (n : Int) (i : Nat) : List Dat := ((wideT ws n).take i).flatMap fun x => (wideT ws n).map (dueD ws n x)
def due2 (ws : List Str) (n : Int) (i : Nat) : List Dat := (((smalls ws).take i).filter fun (x : Str) => decide ((x.length : Int) ≤ n)).map fun x => datP (sameT ws x) (sameT ws x)
def dueT (ws : List Str) (n : Int) : List Dat := due1 ws n (wideT ws n).length ++ due2 ws n ws.length
theorem due1_succ {ws : List Str} {n : Int} {i : Nat} {x : Str} (hx : (wideT ws n)[i]? = some x) : due1 ws n (i + 1) = due1 ws n i ++ (wideT ws n).map (dueD ws n x) := by
  unfold due1
  rw [List.take_add_one, hx, List.flatMap_append]
  simp
theorem due1_len (ws : List Str) (n : Int) : ∀ i, (due1 ws n i).length ≤ i * (wideT ws n).length := by
  intro i
  unfold due1
  rw [List.length_flatMap]
  have : (((wideT ws n).take i).map fun x => ((wideT ws n).map (dueD ws n x)).length) = ((wideT ws n).take i).map fun _ => (wideT ws n).length := by
    apply List.map_congr_left; intro a _; simp
  rw [this, List.map_const', List.sum_replicate_nat, List.length_take]
  exact Nat.mul_le_mul (Nat.min_le_left _ _) (Nat.le_refl _)
theorem wideT_len {ws : List Str} {n : Int} (hz : ws.length ≤ 6) : (wideT ws n).length ≤ 6 := by
  unfold wideT
  exact Nat.le_trans (List.length_filter_le _ _) (by rw [smalls_len]; exact hz)
theorem wideT_mem {ws : List Str} {n : Int} (hw : ∀ y ∈ ws, y.length ≤ 6) {x : Str} (h : x ∈ wideT ws n) : x.length ≤ 6 := smalls_mem hw (List.mem_filter.mp h).1
theorem hitsT_bd {ws : List Str} {n : Int} {x y : Str} {j : Int} (h : j ∈ hitsT ws n x y) : 0 ≤ j ∧ j < (smalls ws).length := by
  obtain ⟨i, hi, rfl⟩ := List.mem_map.mp h
  have := List.mem_range.mp (List.mem_filter.mp hi).1
  rw [smalls_len]
  omega
theorem hitsT_len {ws : List Str} {n : Int} {x y : Str} : (hitsT ws n x y).length ≤ ws.length := by
  unfold hitsT
  rw [List.length_map]
  exact Nat.le_trans (List.length_filter_le _ _) (by rw [List.length_range]; exact Nat.le_refl _)
theorem not_in1 {x z : Str} (h : [x].contains z = false) : z ≠ x ∧ ¬ [x].contains z = true := by
  refine ⟨?_, by rw [h]; decide⟩
  intro e
  rw [e] at h
  simp at h
theorem due_end {s : Shared} {h₀ : Heap} {L : Addr} {st : List Str} {m₀ : Str → Option Value} {X1 X2 X4 X5 X6 X7 X8 X9 : Addr × Obj} {I I2 U c7 E8 D8 D9 : Addr} {o o2 o7 e8 d8 d9 : Obj} {vc : List Value} {nc : Nat} {G5 : List (Addr × Obj)} {h' : Heap} {m' : Str → Option Value} {tk : Nat} {P : List Value × List (Addr × Obj) × Nat × Obj → Prop}
    (N : News h₀ L h' ((E8, e8) :: (D9, d9) :: (D8, d8) :: (I2, o2) :: (I, o) :: (U, W.listOf (vc ++ [Value.ref E8]).toArray (nc + 1)) :: X1 :: X2 :: (c7, o7) :: X4 :: X5 :: X6 :: X7 :: X8 :: X9 :: G5)) (F : Fr h₀ L h' m')
    (a0 : NeA I I2) (b0 : NeA U I2) (b1 : NeA X1.1 I2) (b2 : NeA X2.1 I2) (b3 : NeA c7 I2) (b4 : NeA X4.1 I2) (b5 : NeA X5.1 I2) (b6 : NeA X6.1 I2) (b7 : NeA X7.1 I2) (b8 : NeA X8.1 I2) (b9 : NeA X9.1 I2) (bG : ∀ p ∈ G5, p.1 ≠ I2) (g1 : NeA E8 I2) (g2 : NeA D9 I2) (g3 : NeA D8 I2)
    (hs : ∀ z, (∀ p ∈ ([] : List (Str × Value)), z ≠ p.1) → st.contains z = false → m' z = m₀ z)
    (hp : P (vc ++ [Value.ref E8], (E8, e8) :: (D9, d9) :: (D8, d8) :: G5, nc + 1, o7)) :
    LtEnd h₀ L (fun c : List Value × List (Addr × Obj) × Nat × Obj => (I, o) :: (U, W.listOf c.1.toArray c.2.2.1) :: X1 :: X2 :: (c7, c.2.2.2) :: X4 :: X5 :: X6 :: X7 :: X8 :: X9 :: c.2.1) (fun _ => []) st m₀ P I2 o2 s .next { s with heap := h', toks := tk } := by
  refine LtEnd.intro ((vc ++ [Value.ref E8], (E8, e8) :: (D9, d9) :: (D8, d8) :: G5, nc + 1, o7) : List Value × List (Addr × Obj) × Nat × Obj) F N (by simp) ?_ ?_ (fun _ h => nomatch h) hs hp
  · intro z hz
    simp only [List.mem_cons] at hz ⊢
    rcases hz with h | h | h | h | h | h | h | h | h | h | h | h | h | h | h <;> simp [h]
  · intro z hz
    simp only [List.mem_cons] at hz
    rcases hz with rfl | rfl | rfl | rfl | rfl | rfl | rfl | rfl | rfl | rfl | rfl | rfl | rfl | rfl | h
    · exact a0
    · exact b0
    · exact b1
    · exact b2
    · exact b3
    · exact b4
    · exact b5
    · exact b6
    · exact b7
    · exact b8
    · exact b9
    · exact g1
    · exact g2
    · exact g3
    · exact bG z h
theorem due_end2 {s : Shared} {h₀ : Heap} {L : Addr} {st : List Str} {m₀ : Str → Option Value} {X1 X2 X3 X4 X5 X6 X7 X9 : Addr × Obj} {I2 U c2 E8 D8 : Addr} {o2 o7 e8 d8 : Obj} {vc : List Value} {nc : Nat} {G5 : List (Addr × Obj)} {h' : Heap} {m' : Str → Option Value} {tk : Nat} {P : List Value × List (Addr × Obj) × Nat × Obj → Prop}
    (N : News h₀ L h' ((E8, e8) :: (D8, d8) :: (I2, o2) :: (U, W.listOf (vc ++ [Value.ref E8]).toArray (nc + 1)) :: X1 :: X2 :: X3 :: X4 :: X5 :: X6 :: X7 :: (c2, o7) :: X9 :: G5)) (F : Fr h₀ L h' m')
    (b0 : NeA U I2) (b1 : NeA X1.1 I2) (b2 : NeA X2.1 I2) (b3 : NeA X3.1 I2) (b4 : NeA X4.1 I2) (b5 : NeA X5.1 I2) (b6 : NeA X6.1 I2) (b7 : NeA X7.1 I2) (b8 : NeA c2 I2) (b9 : NeA X9.1 I2) (bG : ∀ p ∈ G5, p.1 ≠ I2) (g1 : NeA E8 I2) (g3 : NeA D8 I2)
    (hs : ∀ z, (∀ p ∈ ([] : List (Str × Value)), z ≠ p.1) → st.contains z = false → m' z = m₀ z)
    (hp : P (vc ++ [Value.ref E8], (E8, e8) :: (D8, d8) :: G5, nc + 1, o7)) :
    LtEnd h₀ L (fun c : List Value × List (Addr × Obj) × Nat × Obj => (U, W.listOf c.1.toArray c.2.2.1) :: X1 :: X2 :: X3 :: X4 :: X5 :: X6 :: X7 :: (c2, c.2.2.2) :: X9 :: c.2.1) (fun _ => []) st m₀ P I2 o2 s .next { s with heap := h', toks := tk } := by
  refine LtEnd.intro ((vc ++ [Value.ref E8], (E8, e8) :: (D8, d8) :: G5, nc + 1, o7) : List Value × List (Addr × Obj) × Nat × Obj) F N (by simp) ?_ ?_ (fun _ h => nomatch h) hs hp
  · intro z hz
    simp only [List.mem_cons] at hz ⊢
    rcases hz with h | h | h | h | h | h | h | h | h | h | h | h | h <;> simp [h]
  · intro z hz
    simp only [List.mem_cons] at hz
    rcases hz with rfl | rfl | rfl | rfl | rfl | rfl | rfl | rfl | rfl | rfl | rfl | rfl | h
    · exact b0
    · exact b1
    · exact b2
    · exact b3
    · exact b4
    · exact b5
    · exact b6
    · exact b7
    · exact b8
    · exact b9
    · exact g1
    · exact g3
    · exact bG z h
theorem told_dat2 {G : List (Addr × Obj)} {E8 D8 : Addr} {zs vc : List Value} {n8 nE : Nat} {x8 : List Int} {ds : List Dat} (h : DatAll G vc ds) (i8 : IntsAre zs x8) :
    DatAll ((E8, W.listOf #[Value.ref D8, Value.ref D8] nE) :: (D8, W.listOf zs.toArray n8) :: G) (vc ++ [.ref E8]) (ds ++ [datP x8 x8]) :=
  (h.mono fun p hp => .tail _ (.tail _ hp)).append (.one (.list (vs := [Value.ref D8, Value.ref D8]) (.head _) (.cons (.list (.tail _ (.head _)) (dat_ints i8)) (.cons (.list (.tail _ (.head _)) (dat_ints i8)) .nil))))
theorem due2_len (ws : List Str) (n : Int) (i : Nat) : (due2 ws n i).length ≤ ws.length := by
  unfold due2
  rw [List.length_map]
  refine Nat.le_trans (List.length_filter_le _ _) ?_
  rw [List.length_take, smalls_len]
  omega
theorem due2_yes {ws : List Str} {n : Int} {i : Nat} {x : Str} (he : (smalls ws)[i]? = some x) (h : (x.length : Int) ≤ n) : due2 ws n (i + 1) = due2 ws n i ++ [datP (sameT ws x) (sameT ws x)] := by
  unfold due2
  rw [filt_snoc he, if_pos (by simpa using h)]
theorem due2_no {ws : List Str} {n : Int} {i : Nat} {x : Str} (he : (smalls ws)[i]? = some x) (h : ¬ (x.length : Int) ≤ n) : due2 ws n (i + 1) = due2 ws n i := by
  unfold due2
  rw [filt_snoc he, if_neg (by simpa using h), List.append_nil]
end Mine
end

section
open PySem PySem.W PySem.Calls PyProof.Rows
set_option maxRecDepth 100000
set_option maxHeartbeats 8000000
namespace Mine


local macro_rules | `(tactic| k_mem) => `(tactic| assumption)
local macro_rules | `(tactic| k_all) => `(tactic| assumption)



local macro_rules | `(tactic| k_all) => `(tactic| ((with_reducible rename MarkK => mK9); (rename @LT.lt Nat _ _ _ ∧ _ => lt9); exact allLt_ne1 lt9))

theorem told_E {w : World} {dp un : Nat} {gd : Option (List Code)} {outer : List Env} {s : Shared} {Q E : Value → Shared → Prop} {l : Addr} {vs : List Value} {ws : List Str} {n : Int} {t2 : Tok}
    (S : Site w outer s.heap) (hdp : dp < 800) (hun : un < 8000) (hl : s.heap.IsList l vs.toArray) (hv : StrsAre vs ws) (hz : ws.length ≤ 6) (hw : ∀ y ∈ ws, y.length ≤ 6) (hab : ∀ y ∈ ws, AB y) (h1 : -1 ≤ n) (h6 : n ≤ 6)
    (k : ∀ D h' tk' vs' nr G, DatAll G vs' ((asksT ws n).map (toldD ws n)) → (∀ p ∈ (D, W.listOf vs'.toArray nr) :: G, h'.get? p.1 = some p.2 ∧ s.heap.get? p.1 = none) → Ext s.heap h' → Q (.ref D) { s with heap := h', toks := tk' }) :
    wpAny (model PySem.Challenge.rw_pm0061_01.row.prog w) (TA dp un gd outer) (call (.ref 263) [.ref l, .int n t2]) Q E s := by
  k_with_none
  k_with "CompSrc" => refine stopI ?_
  k_with "CompSrcT" => refine stopI ?_
  k_with "call ref" => (k_here; (with_reducible show wpAny _ _ (call (Value.ref 246) [Value.ref _]) _ _ _); k_dflt (refine' use_new (fun S9 up9 => row_E S9 ?zk1 ?zk2 ?zka ?zkb ?zk3 ?zkc ?_) ?zk4 ?zk5 ?zk6 ?zk7 ?zk8 ?zkf ?zkk; (case zkf => exact rfl); (case zkk => exact rfl); (case zk1 => (simp only [depth_deeper, depth_in1, TA]; omega)); (case zk2 => (simp only [units_deeper, units_in1, TA]; omega)); (case zka => is_list); (case zkb => assumption); (case zk3 => assumption); (case zkc => assumption); (case zk4 => k_asm); (case zk5 => k_asm); (case zk6 => k_asm); (case zk7 => k_asm); (case zk8 => k_asm); (intro _ _ _ _ _ _ _ _ _ q4 q5 e9; obtain ⟨_, N9, _⟩ := up9 _ _ e9 (one_new q5 q4); clear up9 S9 e9 q4 q5; (simp only [List.cons_append, List.nil_append] at N9); (try dsimp only); (try k_fold))))
  k_with "call ref" => (k_here; (with_reducible show wpAny _ _ (call (Value.ref 253) [Value.ref _, Value.int _ _]) _ _ _); k_dflt (refine' use_new (fun S9 up9 => drawers_E S9 ?zk1 ?zk2 ?zka ?zkb ?zk3 ?zkc ?zkg ?zkh ?zki ?_) ?zk4 ?zk5 ?zk6 ?zk7 ?zk8 ?zkf ?zkk; (case zkf => exact rfl); (case zkk => exact rfl); (case zk1 => (simp only [depth_deeper, depth_in1, TA]; omega)); (case zk2 => (simp only [units_deeper, units_in1, TA]; omega)); (case zka => is_list); (case zkb => assumption); (case zk3 => assumption); (case zkc => assumption); (case zkg => assumption); (case zkh => assumption); (case zki => assumption); (case zk4 => k_asm); (case zk5 => k_asm); (case zk6 => k_asm); (case zk7 => k_asm); (case zk8 => k_asm); (intro _ _ _ _ _ _ _ _ _ _ q2 e9; obtain ⟨_, N9, _⟩ := up9 _ _ e9 q2; clear up9 S9 e9 q2; (replace N9 := News.tail3 N9); (simp only [List.cons_append, List.nil_append] at N9); (try dsimp only); (try k_fold))))
  k_with "call ref" => (k_here; (with_reducible show wpAny _ _ (call (Value.ref 52) [Value.str _ _, Value.int _ _]) _ _ _); k_dflt (refine' use_site (fun S9 up9 => cram_E S9 ?zk1 ?zk2 ?zk3 ?zka ?zkb ?_) ?zk4 ?zk5 ?zk6 ?zk7 ?zk8 ?zkf ?zkk; (case zkf => exact rfl); (case zkk => exact rfl); (case zk1 => (simp only [depth_deeper, depth_in1, TA]; omega)); (case zk2 => (simp only [units_deeper, units_in1, TA]; omega)); (case zk3 => omega); (case zka => omega); (case zkb => omega); (case zk4 => k_asm); (case zk5 => k_asm); (case zk6 => k_asm); (case zk7 => k_asm); (case zk8 => k_asm); (intro _ _ _ _ e9; obtain ⟨_, _⟩ := up9 _ e9; clear up9 S9 e9; (try dsimp only); (try k_fold))))
  k_with "call ref" => (k_here; (with_reducible show wpAny _ _ (call (Value.ref 239) [Value.str _ _]) _ _ _); k_dflt (refine' use_site (fun S9 up9 => small_E S9 ?zk1 ?zk2 ?zk3 ?_) ?zk4 ?zk5 ?zk6 ?zk7 ?zk8 ?zkf ?zkk; (case zkf => exact rfl); (case zkk => exact rfl); (case zk1 => (simp only [depth_deeper, depth_in1, TA]; omega)); (case zk2 => (simp only [units_deeper, units_in1, TA]; omega)); (case zk3 => first | assumption | omega); (case zk4 => k_asm); (case zk5 => k_asm); (case zk6 => k_asm); (case zk7 => k_asm); (case zk8 => k_asm); (intro _ _ _ _ e9; obtain ⟨_, _⟩ := up9 _ e9; clear up9 S9 e9; (try dsimp only); (try k_fold))))
  k_with "subscriptTail Name Constant ref int" => (k_here; first | ((with_reducible show wpAny _ _ (subscriptTail _ _ (Value.ref _) (Value.int 0 _)) _ _ _); refine' item_two0 ?zN ?zm ?_ ?zhs; (case zN => k_asm); (case zm => k_mem); (case zhs => with_unfolding_all rfl); k_whole; intro _) | ((with_reducible show wpAny _ _ (subscriptTail _ _ (Value.ref _) (Value.int 1 _)) _ _ _); refine' item_two1 ?zN ?zm ?_ ?zhs; (case zN => k_asm); (case zm => k_mem); (case zhs => with_unfolding_all rfl); k_whole; intro _))
  k_with "call builtin:list.append" => (k_here; (with_reducible show wpAny _ _ (call (Value.builtin _) [Value.ref _, Value.ref _]) _ _ _); k_dflt (refine' app_any ?zF ?zN ?zU ?zc ?_; (case zF => k_asm); (case zN => k_asm); (case zU => k_upd); (case zc => assumption); (intro _ _ _; (try dsimp only); (try k_fold))))
  k_with "call ref" => (k_here; (with_reducible show wpAny _ _ (call (Value.ref 258) [Value.ref _, Value.str _ _]) _ _ _); k_dflt (refine' use_new (fun S9 up9 => stretch_E S9 ?zk1 ?zk2 ?zka ?zkb ?zk3 ?zkc ?zkd ?zke ?_) ?zk4 ?zk5 ?zk6 ?zk7 ?zk8 ?zkf ?zkk; (case zkf => exact rfl); (case zkk => exact rfl); (case zk1 => (simp only [depth_deeper, depth_in1, TA]; omega)); (case zk2 => (simp only [units_deeper, units_in1, TA]; omega)); (case zka => first | is_list | exact ⟨_, News.get (by k_asm) (by k_mem), rfl, _, rfl⟩); (case zkb => assumption); (case zk3 => assumption); (case zkc => assumption); (case zkd => assumption); (case zke => assumption); (case zk4 => k_asm); (case zk5 => k_asm); (case zk6 => k_asm); (case zk7 => k_asm); (case zk8 => k_asm); (intro _ _ _ _ _ _ _ _ _ q4 q5 e9; obtain ⟨_, N9, M9⟩ := up9 _ _ e9 (one_new q5 q4); clear up9 S9 e9 q4 q5; (have O9 := off1_of (M9 _ (.head _))); (simp only [List.cons_append, List.nil_append] at N9); (simp only [LCg.Off1] at O9); (try dsimp only); (try k_fold))))
  k_with "exec For Tuple Name cons nil" => (refine stopI ?_)
  k_with "call builtin:re.Pattern.search" => (k_here; first | (refine searchN (Frag.In.keeps (by assumption) (Fr.keep (by assumption))) ?zhok ?_; (case zhok => assumption); k_whole) | (refine searchV (Frag.In.keeps (by assumption) (Fr.keep (by assumption))) ?zhok ?_; (case zhok => assumption); k_whole))
  k_with "getMethod ref" => (k_here; first | ((with_reducible show wpAny _ _ (getMethod (Value.ref 89) _ _) _ _ _); refine gmN (Frag.In.keeps (by assumption) (Fr.keep (by assumption))) ?_) | ((with_reducible show wpAny _ _ (getMethod (Value.ref 94) _ _) _ _ _); refine gmV (Frag.In.keeps (by assumption) (Fr.keep (by assumption))) ?_))
  k_with "call builtin:str.upper" => (k_here; (with_reducible show wpAny _ _ (call (Value.builtin "str.upper") [Value.str _ _]) _ _ _); (refine' up_ld ?zk1 ?zk2 ?_; (case zk1 => assumption); (case zk2 => assumption); k_whole; intro _ _))
  k_with "call builtin:str.lower" => (k_here; first | ((with_reducible show wpAny _ _ (call (Value.builtin "str.lower") [Value.str (bigT _) _]) _ _ _); (refine' lo_big ?zk1 ?zk2 ?_; (case zk1 => assumption); (case zk2 => assumption); k_whole; intro _ _)) | ((with_reducible show wpAny _ _ (call (Value.builtin "str.lower") [Value.str _ _]) _ _ _); (refine' lo_abd ?zk1 ?zk2 ?_; (case zk1 => assumption); (case zk2 => assumption); k_whole; intro _ _)))
  k_with "eval ListComp" => (k_here; (with_reducible show wpAny _ _ (eval (Expr.ListComp _ [⟨Expr.Name _ _, _, [], 0⟩] _ _) _) _ _ _); k_dflt (refine LCg.ListComp_U (F₀ := by k_asm) (by with_unfolding_all rfl) (by decide) (by rfl) (by decide) (by rfl) ?_))
  k_with "call builtin:list.append" => ((with_reducible rename MarkA => m9); clear m9; (refine stopI ?_))
  have X0 := S.kin; revert X0; k_fill; intro _
  refine callE ?_
  refine' enterEC (binds := [(Str.ofString "words", .ref l), (Str.ofString "width", .int n t2)]) ?k1 ?k8 ?k6 ?k7 ?k9 ?kB ?kD ?_ ?c2 ?c3 ?c4; (case k1 => assumption); (case k6 => k_is); (case k7 => k_is); (case k8 => (simp only [recursionLimit]; omega)); (case k9 => first | exact BindsTo.of_eq rfl | exact binds_K (by k_in) rfl (by k_is) rfl rfl rfl); (case kB => exact rfl); (case kD => decide +kernel); (case c2 => exact rfl); (case c3 => exact rfl); (case c4 => exact rfl); intro p' lo' me' mg' mb' ba' A' L' h' tk' cells' B' X' T' F' N' Y'; k_cells Y'; (try simp only [List.cons_append, List.nil_append] at N'); (try dsimp only); (try k_fold)
  k_with "pyIter ref" => refine stopI ?_
  k_steps
  unfold STOP
  (rename Fr _ _ _ _ => FF); (rename News _ _ _ _ => NN)
  rename_i oc dc R hR tkR rv rows nR rq1 rq2 rq3 rM hb1 tb1 H Hd Hl tl hv' tH nH hH tkH hq hM hb2 tb2 A hb3 lA hb4
  refine LCt.CompSrcT.base (by rfl) FF NN hl (by rw [sizeLine_eq, List.size_toArray]; have := strs_len hv; omega) ?_
  intro g'
  refine cr_T (fun i ys nx => (∀ p ∈ (_ : List (Addr × Obj)), p ∈ nx) ∧ ∃ G, (∀ p ∈ G, p ∈ nx ∧ p.1 ≠ A) ∧ HL G ys (((ws.take i).filter fun (x : Str) => decide (n < (x.length : Int))).map fun x => [hA x n, hB x n])) ⟨fun p hp => hp, ([] : List (Addr × Obj)), (fun p (h : p ∈ ([] : List (Addr × Obj))) => (List.not_mem_nil h).elim), HL.nil⟩ ?_ ?_
  · rintro k ys nx v I2 oI2 C oC D m₂ h tk E' hk hvk ⟨hb, G, hG, hy⟩ hC hx F N off ne
    obtain ⟨x, tx, rfl, he⟩ := strs_at hv (by simpa using hvk)
    have hem : x ∈ ws := List.mem_of_getElem? he
    have hcell := hb (L' + 1, oc) (by repeat first | exact List.Mem.head _ | refine List.Mem.tail _ ?_)
    have hx6 := hw x hem
    clear FF NN
    (try k_fold)
    k_steps
    · have hc : n < (x.length : Int) := by assumption
      rename_i lv h9' k9' e1 e2 e3 e4 e5 e6
      have e7 := e2
      rw [e1, halves_eq (hab x hem) hc] at e7
      refine half_end (by assumption) e5 e6 e7 off hl hb ⟨_, hb (A, W.listOf #[] 0) (by repeat first | exact List.Mem.head _ | refine List.Mem.tail _ ?_)⟩ hG hy ?_
      rw [filt_snoc he, if_pos (by simpa using hc)]
    · have hc : ¬ n < (x.length : Int) := by assumption
      refine half_skip (by assumption) (by assumption) off hl ⟨hb, G, hG, ?_⟩
      rw [filt_snoc he, if_neg (by simpa using hc), List.append_nil]
      exact hy
  · rintro ys nx ⟨hb, G, hG, hy⟩
    intro D h tk F N off
    rw [List.size_toArray, strs_len hv, List.take_length] at hy
    simp only [List.forall_mem_cons] at hb
    obtain ⟨hbA, hbH, hbHd, hbHl, hbR, hbC, hbT⟩ := hb
    have hoA : A ≠ D := off1_mem off _ hbA
    obtain ⟨G2, hG2, hGD, hGR, hGT, hGA, hy2⟩ : ∃ G2 : List (Addr × Obj), (∀ p ∈ G2, p ∈ (D, LCg.lst ys) :: nx) ∧ (D, LCg.lst ys) ∈ G2 ∧ (R, W.listOf rv.toArray nR) ∈ G2 ∧ (∀ p ∈ tl, p ∈ G2) ∧ (∀ p ∈ G2, p.1 ≠ A) ∧ HL G2 ys ((ws.filter fun (x : Str) => decide (n < (x.length : Int))).map fun x => [hA x n, hB x n]) := by
      refine ⟨(D, LCg.lst ys) :: (R, W.listOf rv.toArray nR) :: (tl ++ G), ?_, .head _, .tail _ (.head _), fun p hp => .tail _ (.tail _ (List.mem_append_left _ hp)), ?_, hy.mono fun p hp => .tail _ (.tail _ (List.mem_append_right _ hp))⟩
      · intro p hp
        rcases List.mem_cons.mp hp with rfl | hp
        · exact .head _
        · rcases List.mem_cons.mp hp with rfl | hp
          · exact .tail _ hbR
          · rcases List.mem_append.mp hp with hp | hp
            · exact .tail _ (hbT p hp)
            · exact .tail _ (hG p hp).1
      · intro p hp
        rcases List.mem_cons.mp hp with rfl | hp
        · exact hoA.symm
        · rcases List.mem_cons.mp hp with rfl | hp
          · show R ≠ A
            k_ne
          · rcases List.mem_append.mp hp with hp | hp
            · exact Nat.ne_of_lt (kst_ltOf lA.2.2.2.2.2 p hp)
            · exact (hG p hp).2
    have N2 : News s.heap L' h ((A, W.listOf #[] 0) :: (H, instObj 223 Hd) :: (Hd, dictOf [⟨PyData.keyHash w.params (Str.ofString "_headers"), .str (Str.ofString "_headers") tH, .ref Hl⟩] 1) :: (Hl, W.listOf hv'.toArray nH) :: (L' + 1, oc) :: G2) := by
      intro p hp
      simp only [List.mem_cons] at hp
      rcases hp with rfl | rfl | rfl | rfl | rfl | hp
      · exact N _ (.tail _ hbA)
      · exact N _ (.tail _ hbH)
      · exact N _ (.tail _ hbHd)
      · exact N _ (.tail _ hbHl)
      · exact N _ (.tail _ hbC)
      · exact N _ (hG2 p hp)
    clear N off FF NN hbA hbH hbHd hbHl hbR hbC hbT hG hy hG2
    (try k_fold)
    k_steps
    unfold STOP
    (rename Fr _ _ _ _ => lF'); (rename News _ _ _ _ => lN')
    change HL G2 ys ((longs ws n).map fun x => [hA x n, hB x n]) at hy2
    have hlg6 : (longs ws n).length ≤ 6 := Nat.le_trans (List.length_filter_le _ _) hz
    have hlgw : ∀ x ∈ longs ws n, x ∈ ws := fun x hx => (List.mem_filter.mp hx).1
    obtain ⟨lg, hlg⟩ : ∃ lg, lg = longs ws n := ⟨_, rfl⟩
    rw [← hlg] at hy2 hlg6 hlgw
    have hysl := hy2.length
    rw [List.length_map] at hysl
    refine' lp_list (σ := List Value × List (Addr × Obj) × Nat) (fun c => (A, W.listOf c.1.toArray c.2.2) :: (H, instObj 223 Hd) :: (Hd, dictOf [⟨PyData.keyHash w.params (Str.ofString "_headers"), .str (Str.ofString "_headers") tH, .ref Hl⟩] 1) :: (Hl, W.listOf hv'.toArray nH) :: (L' + 1, oc) :: c.2.1) (fun _ => []) [Str.ofString "other"] (fun i c => HL c.2.1 c.1 (asks1 n lg i) ∧ (∀ p ∈ G2, p ∈ c.2.1) ∧ ∀ p ∈ c.2.1, p.1 ≠ A) ([], G2, 0) (by rfl) ⟨_, (lN' _ (.tail _ (.tail _ (.tail _ (.tail _ (.tail _ hGD)))))).1, rfl, _, rfl⟩ ?kx lF' lN' ?kd ?ke ?kt ?kz
    case kx => exact .inr ⟨_, fun i c hc => .tail _ (.tail _ (.tail _ (.tail _ (.tail _ (hc.2.1 _ hGD)))))⟩
    case kd => exact fun _ h => nomatch h
    case ke => exact ⟨.nil, fun _ h => h, hGA⟩
    case kz =>
      rintro ⟨va, G3, na⟩ u h tk ⟨hr1, hr2, hr3⟩ F1 N1
      dsimp only [kstB] at F1 N1 hr1 hr2 hr3
      rw [hysl] at hr1
      clear lF' lN'
      (try k_fold)
      k_steps
      unfold STOP
      (rename Fr _ _ _ _ => lF'); (rename News _ _ _ _ => lN')
      refine' lp_list (σ := List Value × List (Addr × Obj) × Nat) (fun c => (A, W.listOf c.1.toArray c.2.2) :: (H, instObj 223 Hd) :: (Hd, dictOf [⟨PyData.keyHash w.params (Str.ofString "_headers"), .str (Str.ofString "_headers") tH, .ref Hl⟩] 1) :: (Hl, W.listOf hv'.toArray nH) :: (L' + 1, oc) :: c.2.1) (fun _ => []) [Str.ofString "form"] (fun i c => HL c.2.1 c.1 (asks1 n lg lg.length ++ asks2 n ws i) ∧ (∀ p ∈ G2, p ∈ c.2.1) ∧ ∀ p ∈ c.2.1, p.1 ≠ A) (va, G3, na) (by rfl) (by is_list) ?wx lF' lN' ?wd ?we ?wt ?wz
      case wx => exact .inl (hl.imp fun _ h => h.1)
      case wd => exact fun _ h => nomatch h
      case we => exact ⟨by simpa [asks2] using hr1, hr2, hr3⟩
      case wz =>
        clear lF' lN'
        rintro ⟨vb, G4, nb⟩ u2 h2 tk2 ⟨hs1, hs2, hs3⟩ F2 N2
        dsimp only [kstB] at F2 N2 hs1 hs2 hs3
        (try k_fold)
        k_steps
        unfold STOP
        (rename Fr _ _ _ _ => lF')
        refine For_invTF lF' ?_ (by intro _; rfl)
        k_steps
        unfold STOP
        (rename Fr _ _ _ _ => lF'); (rename News _ _ _ _ => lN')
        rename_i T hT0 FT NT lT hT1
        have hTG : ∀ p ∈ G4, p.1 ≠ T := fun p hp => Nat.ne_of_lt (kst_ltOf lT.2.2.2.2.2 p hp)
        have hAT : A ≠ T := Nat.ne_of_lt lT.1
        rw [strs_len hv, hlg] at hs1
        change HL G4 vb (asksT ws n) at hs1
        clear FT NT
        have hrz : rows.length ≤ 42 := by
          have e := rq3.length_eq
          have e2 := entries_len hw ws.length
          omega
        have hro := rows_ok hw hz rq3
        refine' lt_list (σ := List Value × List (Addr × Obj) × Nat) (fun c => (T, W.listOf c.1.toArray c.2.2) :: (A, W.listOf vb.toArray nb) :: (H, instObj 223 Hd) :: (Hd, dictOf [⟨PyData.keyHash w.params (Str.ofString "_headers"), .str (Str.ofString "_headers") tH, .ref Hl⟩] 1) :: (Hl, W.listOf hv'.toArray nH) :: (L' + 1, oc) :: c.2.1) (fun _ => []) [Str.ofString "key", Str.ofString "name"] (fun i c => DatAll c.2.1 c.1 (((asksT ws n).take i).map (toldD ws n)) ∧ (∀ p ∈ G4, p ∈ c.2.1) ∧ (∀ p ∈ c.2.1, p.1 ≠ A) ∧ ∀ p ∈ c.2.1, p.1 ≠ T) ([], G4, 0) (by rfl) ⟨_, (lN' _ (.tail _ (.head _))).1, rfl, _, rfl⟩ ?yx lF' lN' ?yd ?ye ?yt ?yz
        case yx => exact .inr ⟨_, fun i c hc => .tail _ (.head _)⟩
        case yd => exact fun _ h => nomatch h
        case ye => exact ⟨.nil, fun _ h => h, hs3, hTG⟩
        case yz =>
          clear lF' lN'
          rintro ⟨vc, G5, nc⟩ u3 h3 tk3 ⟨ht1, ht2, ht3, ht4⟩ F3 N3
          dsimp only [kstB] at F3 N3 ht1 ht2 ht3 ht4
          rw [hs1.length, List.take_length] at ht1
          (try k_fold)
          k_steps
          refine k T _ _ _ nc _ ht1 ?_ (Fr.keep (by assumption))
          intro p hp
          rcases List.mem_cons.mp hp with rfl | hp
          · have e := N3 _ (.head _)
            exact ⟨e.1, e.2.2⟩
          · have e := N3 _ (.tail _ (.tail _ (.tail _ (.tail _ (.tail _ (.tail _ hp))))))
            exact ⟨e.1, e.2.2⟩
        case yt =>
          clear lF' lN'
          rintro ⟨vc, G5, nc⟩ i v u3 s3 h3 tk3 I o hi ⟨ht1, ht2, ht3, ht4⟩ hne F3 N3
          dsimp only [kstB] at F3 N3 ht1 ht2 ht3 ht4 hne
          obtain ⟨a1, n1, vs1, ts1, rfl, hm1, hv1, hts⟩ := hs1.at hi
          obtain ⟨p, q, rfl, hp1, hq1, hq2⟩ := asks_ok hw hab (List.mem_of_getElem? hts)
          obtain ⟨tp, tq, rfl⟩ := two_strs hv1
          have hq3 := hq2.ok
          have hm1' := ht2 _ hm1
          have hR1 := ht2 _ (hs2 _ hGR)
          have hn1 := neN (hne _ (.head _))
          have hn2 := neN (hne _ (.tail _ (.head _)))
          have hn3 := neN (hne _ (.tail _ (.tail _ (.head _))))
          have hn4 := neN (hne _ (.tail _ (.tail _ (.tail _ (.head _)))))
          have hn5 := neN (hne _ (.tail _ (.tail _ (.tail _ (.tail _ (.head _))))))
          have hn6 := neN (hne _ (.tail _ (.tail _ (.tail _ (.tail _ (.tail _ (.head _)))))))
          have hn7 : ∀ p ∈ G5, p.1 ≠ I := fun p hp => hne p (.tail _ (.tail _ (.tail _ (.tail _ (.tail _ (.tail _ hp))))))
          dsimp only at hn1 hn2 hn3 hn4 hn5 hn6
          have mK : MarkK := trivial
          have hvc : vc.length ≤ 1000 := by
            have e := ht1.length
            rw [List.length_map, List.length_take] at e
            have e2 := asks_len hz (ws := ws) (n := n)
            omega
          (try k_fold)
          k_steps
          (rename Fr _ _ _ _ => FF); (rename News _ _ _ _ => NN); (rename List.Perm _ _ => q2); (rename List.Pairwise _ _ => q3); (rename IntsAre _ _ => q1); (rename _ ≠ _ ∧ _ => o9)
          have hvl : hv'.length ≤ 6 := by have e := hq.length; rw [psT_len] at e; omega
          refine LCt.CompSrcT.ledger (by rfl) FF NN (k := nH) (by k_mem) (by rw [sizeLine_eq, List.size_toArray]; omega) ?_
          intro g7
          refine cr_T (fun i ys nx => nx = _ ∧ StrsAre ys ((((psT ws n ws.length).take i).filter fun p => smallT p.1 == q).map (·.2))) ⟨rfl, .nil⟩ ?_ ?_
          · rintro kk ys nx v I2 oI2 C oC D7 m₂ h7 tk7 E' hk7 hvk ⟨rfl, hy⟩ hC hx F N off ne
            obtain ⟨a7, x7, t7, y7, u7, rfl, hm7, he7⟩ := hq.at (by simpa using hvk)
            have hm7' := (ht2 _ (hs2 _ (hGT _ hm7)))
            obtain ⟨e1, e2, e3, e4⟩ := psT_at hz hw hab he7
            dsimp only at e1 e2 e3 e4
            have off0 := off
            simp only [LCg.Off3] at off
            clear FF NN
            (try k_fold)
            k_steps
            · have hc : (smallT x7 == q) = true := by assumption
              exact comp_end F N off0 (k := nH) (by k_mem) ⟨rfl, strs_snocF hy he7 hc⟩
            · have hc : (smallT x7 == q) = false := by assumption
              exact comp_end F N off0 (k := nH) (by k_mem) ⟨rfl, strs_skipF hy he7 (by rw [hc]; decide)⟩
          · rintro ys nx ⟨rfl, hy⟩
            intro D7 h7 tk7 F N off
            rw [List.size_toArray, hq.length, List.take_length] at hy
            clear FF NN
            dsimp only
            simp only [LCg.Off1] at off
            have off7 := off
            (try k_fold)
            k_steps
            (rename Fr _ _ _ _ => FF); (rename News _ _ _ _ => NN)
            have hyl : ys.length ≤ 6 := by rw [strs_len hy]; exact Nat.le_trans (gets_len ws n _) hz
            refine LCg.CompSrc.ledger (by rfl) FF NN (k := ys.length) (by k_mem) (by rw [sizeLine_eq, List.size_toArray]; omega) ?_
            intro g8
            refine cr_U (fun i zs nx => nx = _ ∧ IntsAre zs (((((psT ws n ws.length).filter fun p => smallT p.1 == q).map (·.2)).take i).map numD)) ⟨rfl, .nil⟩ ?_ ?_
            · rintro kk zs nx v I2 oI2 C oC D8 m₂ h8 tk8 E' hk8 hvk ⟨rfl, hzs⟩ hC hx F N off ne
              obtain ⟨y8, t8, rfl, he8⟩ := strs_at hy (by simpa using hvk)
              obtain ⟨f1, f2⟩ := psT_nums hz hw hab (List.mem_of_getElem? he8)
              have off0 := off
              simp only [LCg.Off3] at off
              clear FF NN
              (try k_fold)
              k_steps
              exact comp_end F N off0 (k := ys.length) (by k_mem) ⟨rfl, ints_snoc_at hzs he8⟩
            · rintro zs nx ⟨rfl, hzs⟩
              intro D8 h8 tk8 F N off
              dsimp only
              rw [List.size_toArray, strs_len hy, List.take_length, gets_eq] at hzs
              clear FF NN
              simp only [LCg.Off1] at off
              have mA : MarkA := trivial
              (try k_fold)
              k_steps
              unfold STOP
              (rename Fr _ _ _ _ => FF); (rename News _ _ _ _ => NN)
              rename_i EE hEE lEE
              have w1 : @Ne Nat EE T := Nat.ne_of_gt lEE.2.2.2.2.2.1
              have w2 : @Ne Nat D8 T := Ne.symm off.2.2.2.2.1
              have w3 : @Ne Nat D7 T := Ne.symm off7.2.2.2.1
              have w5 : @Ne Nat _ T := Ne.symm o9.2.1
              have w6 : @Ne Nat I T := Ne.symm hn1
              have w7 : ∀ p ∈ (A, W.listOf vb.toArray nb) :: (H, instObj 223 Hd) :: (Hd, dictOf [⟨PyData.keyHash w.params (Str.ofString "_headers"), .str (Str.ofString "_headers") tH, .ref Hl⟩] 1) :: (Hl, W.listOf hv'.toArray nH) :: (L' + 1, oc) :: G5, p.1 ≠ T := by
                simp only [List.forall_mem_cons]
                exact ⟨hAT, Nat.ne_of_lt lT.2.1, Nat.ne_of_lt lT.2.2.1, Nat.ne_of_lt lT.2.2.2.1, Nat.ne_of_lt lT.2.2.2.2.1, ht4⟩
              refine app_any FF NN (Upd.tail w1 (Upd.tail w2 (Upd.tail w3 (Upd.tail ?w4 (Upd.tail w5 (Upd.tail w6 (Upd.head w7))))))) hvc ?_
              case w4 => k_ne
              intro hE2 FE NE
              (try dsimp only); (try k_fold)
              k_steps
              (rename Fr _ _ _ _ => FZ); (rename News _ _ _ _ => NZ)
              refine told_end NZ FZ hn1 hn2 hn3 hn4 hn5 hn6 hn7 (Nat.ne_of_gt lEE.2.2.2.2.1) (Ne.symm off.2.2.2.1) (Ne.symm o9.1) (fun z _ hz => (if_neg (not_in2 hz).2.1).trans ((if_neg (not_in2 hz).1).trans (if_neg (not_in2 hz).2.2))) ⟨?_, fun p hp => .tail _ (.tail _ (.tail _ (ht2 p hp))), ?_, ?_⟩
              · rw [told_snoc hts, ← strch_of rq3 q2 q3]
                exact told_dat ht1 q1 hzs
              · simp only [List.forall_mem_cons]
                exact ⟨Nat.ne_of_gt lEE.2.2.2.2.2.2.1, Ne.symm off.2.2.2.2.2.1, Ne.symm o9.2.2.1, ht3⟩
              · simp only [List.forall_mem_cons]
                exact ⟨w1, w2, w5, ht4⟩
      case wt =>
        clear lF' lN'
        rintro ⟨vb, G4, nb⟩ j v2 u2 h2 tk2 I2 o2 hj ⟨hs1, hs2, hs3⟩ hne' F2 N2
        dsimp only [kstB] at F2 N2 hs1 hs2 hs3 hne'
        obtain ⟨x, tx, rfl, he⟩ := strs_at hv hj
        have hem : x ∈ ws := List.mem_of_getElem? he
        have hx6 := hw x hem
        have hn7 := neN (hne' _ (.head _))
        have hm3 : ∀ p ∈ G4, p.1 ≠ I2 := fun p hp => hne' p (.tail _ (.tail _ (.tail _ (.tail _ (.tail _ hp)))))
        have hm4 := neN (hne' _ (.tail _ (.head _)))
        have hm5 := neN (hne' _ (.tail _ (.tail _ (.head _))))
        have hm6 := neN (hne' _ (.tail _ (.tail _ (.tail _ (.head _)))))
        have hm7 := neN (hne' _ (.tail _ (.tail _ (.tail _ (.tail _ (.head _))))))
        dsimp only at hn7 hm4 hm5 hm6 hm7
        have hnb : vb.length ≤ 1000 := by
          have e := hs1.length
          have e4 : (asks2 n ws j).length ≤ 6 := by
            unfold asks2
            rw [List.length_map]
            refine Nat.le_trans (List.length_filter_le _ _) ?_
            rw [List.length_take]; omega
          rw [List.length_append] at e
          have e2 := asks1_len n lg lg.length
          have e3 : lg.length * lg.length ≤ 6 * 6 := Nat.mul_le_mul hlg6 hlg6
          omega
        (try k_fold)
        k_steps
        · have hc : (x.length : Int) ≤ n := by assumption
          (rename News _ _ _ _ => NE)
          refine ask_end2 NE (by assumption) hn7 hm4 hm5 hm6 hm7 hm3 (by k_ne) (by kst_same) ?_
          refine ⟨?_, fun p hp => .tail _ (hs2 p hp), ?_⟩
          · unfold asks2
            rw [filt_snoc he, if_pos (by simpa using hc), ← List.append_assoc]
            exact (hs1.mono fun p hp => .tail _ hp).snoc (.head _) (.cons _ _ (.cons _ _ .nil))
          · intro p hp
            rcases List.mem_cons.mp hp with rfl | hp
            · k_ne
            · exact hs3 p hp
        · have hc : ¬ (x.length : Int) ≤ n := by assumption
          refine LpEnd.intro (vb, G4, nb) (by assumption) N2 (.head _) (fun p hp => .tail _ hp) hne' (by exact fun _ h => nomatch h) (by kst_same) ⟨?_, hs2, hs3⟩
          unfold asks2
          rw [filt_snoc he, if_neg (by simpa using hc), List.append_nil]
          exact hs1
    case kt =>
      clear lF' lN'
      rintro ⟨va, G3, na⟩ i v u h tk I o hi ⟨hr1, hr2, hr3⟩ hne F1 N1
      dsimp only [kstB] at F1 N1 hr1 hr2 hr3 hne
      obtain ⟨a1, n1, vs1, ts1, rfl, hm1, hs1, ht1⟩ := hy2.at hi
      obtain ⟨x, hx, rfl⟩ := map_at ht1
      have hm1' := hr2 _ hm1
      obtain ⟨ta, tb, rfl⟩ := two_strs hs1
      have hn1 := neN (hne _ (.head _))
      have hn2 := neN (hne _ (.tail _ (.head _)))
      have hn3 := neN (hne _ (.tail _ (.tail _ (.head _))))
      have hn4 := neN (hne _ (.tail _ (.tail _ (.tail _ (.head _)))))
      have hn5 := neN (hne _ (.tail _ (.tail _ (.tail _ (.tail _ (.head _))))))
      have hn6 : ∀ p ∈ G3, p.1 ≠ I := fun p hp => hne p (.tail _ (.tail _ (.tail _ (.tail _ (.tail _ hp)))))
      dsimp only at hn1 hn2 hn3 hn4 hn5
      (try k_fold)
      k_steps
      unfold STOP
      (rename Fr _ _ _ _ => lF'); (rename News _ _ _ _ => lN')
      refine' lp_list (σ := List Value × List (Addr × Obj) × Nat) (fun c => (I, o) :: (A, W.listOf c.1.toArray c.2.2) :: (H, instObj 223 Hd) :: (Hd, dictOf [⟨PyData.keyHash w.params (Str.ofString "_headers"), .str (Str.ofString "_headers") tH, .ref Hl⟩] 1) :: (Hl, W.listOf hv'.toArray nH) :: (L' + 1, oc) :: c.2.1) (fun _ => []) [] (fun j c => HL c.2.1 c.1 (asks1 n lg i ++ (lg.take j).map (ask2 n x)) ∧ (∀ p ∈ G3, p ∈ c.2.1) ∧ (∀ p ∈ c.2.1, p.1 ≠ A) ∧ ∀ p ∈ c.2.1, p.1 ≠ I) (va, G3, na) (by rfl) ⟨_, (lN' _ (.tail _ (.tail _ (.tail _ (.tail _ (.tail _ (.tail _ (hr2 _ hGD)))))))).1, rfl, _, rfl⟩ ?kx lF' lN' ?kd ?ke ?kt ?kz
      case kx => exact .inr ⟨_, fun i c hc => .tail _ (.tail _ (.tail _ (.tail _ (.tail _ (.tail _ (hc.2.1 _ (hr2 _ hGD)))))))⟩
      case kd => exact fun _ h => nomatch h
      case ke => exact ⟨by simpa using hr1, fun _ h => h, hr3, hn6⟩
      case kz =>
        rintro ⟨vb, G4, nb⟩ u2 h2 tk2 ⟨hs1, hs2, hs3, hs4⟩ F2 N2
        dsimp only [kstB] at F2 N2 hs1 hs2 hs3 hs4
        rw [hysl, List.take_length] at hs1
        (try k_fold)
        k_steps
        refine LpEnd.intro (vb, G4, nb) (by assumption) N2 (.head _) (fun p hp => .tail _ hp) ?_ (by exact fun _ h => nomatch h) (by kst_same) ⟨?_, fun p hp => hs2 p (hr2 p hp), hs3⟩
        · intro p hp
          simp only [List.mem_cons] at hp
          rcases hp with rfl | rfl | rfl | rfl | rfl | h
          · exact hn1
          · exact hn2
          · exact hn3
          · exact hn4
          · exact hn5
          · exact hs4 p h
        · rw [asks1_succ hx]
          exact hs1
      case kt =>
        clear lF' lN'
        rintro ⟨vb, G4, nb⟩ j v2 u2 h2 tk2 I2 o2 hj ⟨hs1, hs2, hs3, hs4⟩ hne' F2 N2
        dsimp only [kstB] at F2 N2 hs1 hs2 hs3 hs4 hne'
        obtain ⟨a2, n2, vs2, ts2, rfl, hm2, hq2, ht2⟩ := hy2.at hj
        obtain ⟨y, hy, rfl⟩ := map_at ht2
        have hm2' := hs2 _ (hr2 _ hm2)
        have hm1'' := hs2 _ hm1'
        obtain ⟨tc, td, rfl⟩ := two_strs hq2
        have hn7 := neN (hne' _ (.tail _ (.head _)))
        have hn8 := neN (hne' _ (.head _))
        have hm3 : ∀ p ∈ G4, p.1 ≠ I2 := fun p hp => hne' p (.tail _ (.tail _ (.tail _ (.tail _ (.tail _ (.tail _ hp))))))
        have hm4 := neN (hne' _ (.tail _ (.tail _ (.head _))))
        have hm5 := neN (hne' _ (.tail _ (.tail _ (.tail _ (.head _)))))
        have hm6 := neN (hne' _ (.tail _ (.tail _ (.tail _ (.tail _ (.head _))))))
        have hm7 := neN (hne' _ (.tail _ (.tail _ (.tail _ (.tail _ (.tail _ (.head _)))))))
        dsimp only at hn7 hn8 hm4 hm5 hm6 hm7
        have hxl := hA_len x n
        have hyl := hB_len y n
        have hx6 := hw x (hlgw x (List.mem_of_getElem? hx))
        have hy6 := hw y (hlgw y (List.mem_of_getElem? hy))
        have hnb : vb.length ≤ 1000 := by
          have e := hs1.length
          rw [List.length_append, List.length_map, List.length_take] at e
          have e2 := asks1_len n lg i
          have e3 : i * lg.length ≤ 6 * 6 := Nat.mul_le_mul (by have := (List.getElem?_eq_some_iff.mp hx).1; omega) hlg6
          omega
        clear hm1' hm1 hm2
        (try k_fold)
        k_steps
        (rename News _ _ _ _ => NE)
        refine ask_end NE (by assumption) hn8 hn7 hm4 hm5 hm6 hm7 hm3 (by k_ne) (by kst_same) ?_
        refine ⟨?_, fun p hp => .tail _ (hs2 p hp), ?_, ?_⟩
        · rw [List.take_add_one, hy, List.map_append, ← List.append_assoc]
          exact (hs1.mono fun p hp => .tail _ hp).snoc (.head _) (.cons _ _ (.cons _ _ .nil))
        · intro p hp
          rcases List.mem_cons.mp hp with rfl | hp
          · k_ne
          · exact hs3 p hp
        · intro p hp
          rcases List.mem_cons.mp hp with rfl | hp
          · k_ne
          · exact hs4 p hp
end Mine
end

section
open PySem PySem.W PySem.Calls PyProof.Rows
set_option maxRecDepth 100000
set_option maxHeartbeats 8000000
namespace Mine

local macro_rules | `(tactic| k_mem) => `(tactic| assumption)
local macro_rules | `(tactic| k_all) => `(tactic| assumption)


local macro_rules | `(tactic| k_ne) => `(tactic| (refine neN ?_; (try dsimp only); first | exact NeA.ne (by with_reducible assumption) | exact NeA.sym (by with_reducible assumption)))

theorem due_E {w : World} {dp un : Nat} {gd : Option (List Code)} {outer : List Env} {s : Shared} {Q E : Value → Shared → Prop} {l : Addr} {vs : List Value} {ws : List Str} {n : Int} {t2 : Tok}
    (S : Site w outer s.heap) (hdp : dp < 800) (hun : un < 8000) (hl : s.heap.IsList l vs.toArray) (hv : StrsAre vs ws) (hz : ws.length ≤ 6) (hw : ∀ y ∈ ws, y.length ≤ 6) (hab : ∀ y ∈ ws, AB y) (h1 : -1 ≤ n) (h6 : n ≤ 6)
    (k : ∀ D h' tk' vs' nr G, DatAll G vs' (dueT ws n) → (∀ p ∈ (D, W.listOf vs'.toArray nr) :: G, h'.get? p.1 = some p.2 ∧ s.heap.get? p.1 = none) → Ext s.heap h' → Q (.ref D) { s with heap := h', toks := tk' }) :
    wpAny (model PySem.Challenge.rw_pm0061_01.row.prog w) (TA dp un gd outer) (call (.ref 275) [.ref l, .int n t2]) Q E s := by
  k_with_none
  k_with "CompSrc" => refine stopI ?_
  k_with "CompSrcT" => refine stopI ?_
  k_with "call builtin:str.lower" => (k_here; ((with_reducible show wpAny _ _ (call (Value.builtin "str.lower") [Value.str _ _]) _ _ _); (refine' lo_abd ?zk1 ?zk2 ?_; (case zk1 => assumption); (case zk2 => assumption); k_whole; intro _ _)))
  k_with "subscriptTail Name Name ref int" => (k_here; (with_reducible show wpAny _ _ (subscriptTail _ _ (Value.ref _) (Value.int _ _)) _ _ _); (with_unfolding_all refine' item_strsB ?zk1 ?zk2 ?zk3 ?zk4 ?zk5 ?zk7 ?_ ?zk6; (case zk1 => is_list); (case zk2 => assumption); (case zk3 => omega); (case zk4 => omega); (case zk5 => omega); (case zk7 => assumption); (case zk6 => with_unfolding_all rfl); k_whole); intro _ _)
  k_with "call ref" => (k_here; (with_reducible show wpAny _ _ (call (Value.ref 270) [Value.str _ _, Value.int _ _, Value.int _ _, Value.str _ _, Value.str _ _]) _ _ _); k_dflt (refine' use_site (fun S9 up9 => fits_E S9 ?zk1 ?zk2 ?zk3 ?zka ?zkb ?zkc ?zkd ?zke ?zkg ?_) ?zk4 ?zk5 ?zk6 ?zk7 ?zk8 ?zkf ?zkk; (case zkf => exact rfl); (case zkk => exact rfl); (case zk1 => (simp only [depth_deeper, depth_in1, TA]; omega)); (case zk2 => (simp only [units_deeper, units_in1, TA]; omega)); (case zk3 => omega); (case zka => omega); (case zkb => omega); (case zkc => assumption); (case zkd => assumption); (case zke => assumption); (case zkg => assumption); (case zk4 => k_asm); (case zk5 => k_asm); (case zk6 => k_asm); (case zk7 => k_asm); (case zk8 => k_asm); (intro _ _ e9; obtain ⟨_, _⟩ := up9 _ e9; clear up9 S9 e9; (try dsimp only); (try k_fold))))
  k_with "call builtin:list.append" => ((with_reducible rename MarkA => m9); clear m9; (refine stopI ?_))
  k_with "exec Assign cons ListComp" => (k_here; (with_reducible show wpAny _ _ (exec (Stmt.Assign [Expr.Name _ _] (Expr.ListComp _ [⟨Expr.Name _ _, _, [_], 0⟩] _ _) _) _) _ _ _); k_dflt (refine LCt.Assign_ListComp_T (F₀ := by k_asm) (by rfl) (by with_unfolding_all rfl) (by with_unfolding_all rfl) (by decide) (by rfl) (by decide) (by rfl) (by rfl) (by rfl) ?_))
  k_with "eval ListComp" => (k_here; (with_reducible show wpAny _ _ (eval (Expr.ListComp _ [⟨Expr.Name _ _, _, [_], 0⟩] _ _) _) _ _ _); k_dflt (refine LCt.ListComp_T (F₀ := by k_asm) (by with_unfolding_all rfl) (by decide) (by rfl) (by decide) (by rfl) ?_))
  k_with "call builtin:len" => (k_here; (with_reducible show wpAny _ _ (call (Value.builtin "len") [Value.ref _]) _ _ _); k_dflt (refine' kst_len ?zk1 ?zk2 ?zk3 ?zk4 ?_; (case zk1 => k_asm); (case zk2 => k_mem); (case zk3 => assumption); (case zk4 => omega); k_whole))
  k_with "call type:range" => ((rename Fr _ _ _ _ => F'); (rename News _ _ _ _ => N'); (with_unfolding_all refine range1_rows F' N' ?_; intro _ _ _ _ _ _ _ _ _))
  have X0 := S.kin; revert X0; k_fill; intro _
  refine callE ?_
  refine' enterEC (binds := [(Str.ofString "words", .ref l), (Str.ofString "width", .int n t2)]) ?k1 ?k8 ?k6 ?k7 ?k9 ?kB ?kD ?_ ?c2 ?c3 ?c4; (case k1 => assumption); (case k6 => k_is); (case k7 => k_is); (case k8 => (simp only [recursionLimit]; omega)); (case k9 => first | exact BindsTo.of_eq rfl | exact binds_K (by k_in) rfl (by k_is) rfl rfl rfl); (case kB => exact rfl); (case kD => decide +kernel); (case c2 => exact rfl); (case c3 => exact rfl); (case c4 => exact rfl); intro p' lo' me' mg' mb' ba' A' L' h' tk' cells' B' X' T' F' N' Y'; k_cells Y'; (try simp only [List.cons_append, List.nil_append] at N'); (try dsimp only); (try k_fold)
  k_with "pyIter ref" => refine stopI ?_
  k_steps
  unfold STOP
  rename_i oOt oOn oBe oAh oSm oWo oWi dOt dOn dBe dAh dSm dWo dWi
  (rename Fr _ _ _ _ => FF); (rename News _ _ _ _ => NN)
  refine LCg.CompSrc.base (by rfl) FF NN hl (by rw [sizeLine_eq, List.size_toArray]; have := strs_len hv; omega) ?_
  intro g'
  refine cr_U (fun i ys nx => nx = _ ∧ StrsAre ys ((ws.take i).map smallT)) ⟨rfl, .nil⟩ ?_ ?_
  · rintro kk ys nx v I2 oI2 C oC D m₂ h tk E' hk hvk ⟨rfl, hy⟩ hC hx F N off ne
    obtain ⟨x, tx, rfl, he⟩ := strs_at hv (by simpa using hvk)
    have hem : x ∈ ws := List.mem_of_getElem? he
    have hx6 : x.length ≤ 100 := Nat.le_trans (hw x hem) (by decide)
    have hxa := (hab x hem).d
    clear FF NN
    (try k_fold)
    k_steps
    (rename Fr _ _ _ _ => FZ); (rename News _ _ _ _ => NZ)
    exact comp_endB FZ NZ off hl ⟨rfl, strs_snocM hy he⟩
  · rintro ys nx ⟨rfl, hy⟩
    intro D h tk F N off
    dsimp only
    rw [List.size_toArray, strs_len hv, List.take_length] at hy
    clear FF NN
    obtain ⟨fD1, fD2, fD3, fD4, fD5, fD6, fD7, _⟩ := offA_of off
    clear off
    (try k_fold)
    k_steps
    unfold STOP
    (rename Fr _ _ _ _ => FF); (rename News _ _ _ _ => NN)
    rename_i oSm2 dSm2 hx3 tkx hx2 hx1 oAh2 dAh2 hx0 oBe2 dBe2
    clear dBe dAh dSm
    obtain ⟨tA, dA⟩ : ∃ t, oAh2.data = Data.cell (some (Value.int (aheadN n) t)) := ⟨_, dAh2⟩
    obtain ⟨tB, dB⟩ : ∃ t, oBe2.data = Data.cell (some (Value.int (behindN n) t)) := ⟨_, dBe2⟩
    clear dAh2 dBe2
    change StrsAre ys (smalls ws) at hy
    have hyl := strs_len hy
    rw [smalls_len] at hyl
    refine LCt.CompSrcT.ledger (by rfl) FF NN (k := ys.length) (by k_mem) (by rw [sizeLine_eq, List.size_toArray]; omega) ?_
    intro g7
    refine cr_T (fun i zs nx => nx = _ ∧ StrsAre zs (((smalls ws).take i).filter fun (x : Str) => decide (n < (x.length : Int)))) ⟨rfl, .nil⟩ ?_ ?_
    · rintro kk zs nx v I2 oI2 C oC D7 m₂ h7 tk7 E' hk7 hvk ⟨rfl, hzs⟩ hC hx F N off ne
      obtain ⟨x, tx, rfl, he⟩ := strs_at hy (by simpa using hvk)
      have hx6 := smalls_mem hw (List.mem_of_getElem? he)
      clear FF NN
      (try k_fold)
      k_steps
      · have hc : n < (x.length : Int) := by assumption
        (rename Fr _ _ _ _ => FZ); (rename News _ _ _ _ => NZ)
        exact comp_end FZ NZ off (k := ys.length) (by k_mem) ⟨rfl, strs_snocT hzs he (by simpa using hc)⟩
      · have hc : ¬ n < (x.length : Int) := by assumption
        (rename Fr _ _ _ _ => FZ); (rename News _ _ _ _ => NZ)
        exact comp_end FZ NZ off (k := ys.length) (by k_mem) ⟨rfl, strs_skipT hzs he (by simpa using hc)⟩
    · rintro zs nx ⟨rfl, hzs⟩
      intro D7 h7 tk7 F N off
      dsimp only
      rw [List.size_toArray, hyl, ← smalls_len (ws := ws), List.take_length] at hzs
      change StrsAre zs (wideT ws n) at hzs
      clear FF NN
      obtain ⟨f70, f71, f72, f73, f74, f75, f76, f77, _⟩ := offA_of off
      clear off
      (try k_fold)
      k_steps
      (rename Fr _ _ _ _ => lF')
      refine For_invTF lF' ?_ (by intro _; rfl)
      k_steps
      unfold STOP
      (rename Fr _ _ _ _ => lF'); (rename News _ _ _ _ => lN')
      rename_i U hU0 lU hU1
      obtain ⟨lU1, lU2, lU3, lU4, lU5, lU6, lU7, lU8, lU9⟩ := lU
      have uu1 : NeA D7 U := Nat.ne_of_lt lU1
      have uu2 : NeA D U := Nat.ne_of_lt lU2
      have uu3 : NeA (L' + 1 + 1 + 1 + 1 + 1 + 1 + 1) U := Nat.ne_of_lt lU3
      have uu4 : NeA (L' + 1 + 1 + 1 + 1 + 1 + 1) U := Nat.ne_of_lt lU4
      have uu5 : NeA (L' + 1 + 1 + 1 + 1 + 1) U := Nat.ne_of_lt lU5
      have uu6 : NeA (L' + 1 + 1 + 1 + 1) U := Nat.ne_of_lt lU6
      have uu7 : NeA (L' + 1 + 1 + 1) U := Nat.ne_of_lt lU7
      have uu8 : NeA (L' + 1 + 1) U := Nat.ne_of_lt lU8
      have uu9 : NeA (L' + 1) U := Nat.ne_of_lt lU9
      clear lU1 lU2 lU3 lU4 lU5 lU6 lU7 lU8 lU9
      have hbd := ahead_bd h6
      obtain ⟨hb1, hb2, hb3, hb4⟩ := hbd
      have hsl := smalls_len (ws := ws)
      have hsm : ∀ x ∈ smalls ws, x.length ≤ 6 := fun x hx => smalls_mem hw hx
      have hzl := strs_len hzs
      have hwl := wideT_len (n := n) hz
      refine' lt_list (σ := List Value × List (Addr × Obj) × Nat × Obj × Obj) (fun c => (U, W.listOf c.1.toArray c.2.2.1) :: (D7, LCg.lst zs) :: (D, LCg.lst ys) :: (L' + 1 + 1 + 1 + 1 + 1 + 1 + 1, c.2.2.2.1) :: (L' + 1 + 1 + 1 + 1 + 1 + 1, c.2.2.2.2) :: (L' + 1 + 1 + 1 + 1 + 1, oBe2) :: (L' + 1 + 1 + 1 + 1, oAh2) :: (L' + 1 + 1 + 1, oSm2) :: (L' + 1 + 1, oWo) :: (L' + 1, oWi) :: c.2.1) (fun _ => []) [Str.ofString "hits"] (fun i c => DatAll c.2.1 c.1 (due1 ws n i) ∧ (∀ p ∈ c.2.1, p.1 ≠ U) ∧ (∀ p ∈ c.2.1, p.1 ≠ L' + 1 + 1 + 1 + 1 + 1 + 1 + 1) ∧ (∀ p ∈ c.2.1, p.1 ≠ L' + 1 + 1 + 1 + 1 + 1 + 1) ∧ (∀ p ∈ c.2.1, p.1 ≠ L' + 1 + 1) ∧ (∃ v, c.2.2.2.1.data = Data.cell v) ∧ ∃ v, c.2.2.2.2.data = Data.cell v) ([], [], 0, oOt, oOn) (by rfl) ⟨_, (lN' _ (.tail _ (.head _))).1, rfl, _, rfl⟩ ?yx lF' lN' ?yd ?ye ?yt ?yz
      case yx => exact .inr ⟨_, fun i c hc => .tail _ (.head _)⟩
      case yd => exact fun _ h => nomatch h
      case ye => exact ⟨.nil, by simp, by simp, by simp, by simp, ⟨_, dOt⟩, ⟨_, dOn⟩⟩
      case yz =>
        clear lF' lN'
        rintro ⟨vc, G, nc, ot, on⟩ u3 h3 tk3 ⟨ht1, ht2, ht3, ht4, ht5, ⟨vt, ht6⟩, ⟨vn, ht7⟩⟩ F3 N3
        dsimp only [kstB] at F3 N3 ht1 ht2 ht3 ht4 ht5 ht6 ht7
        rw [hzl] at ht1
        (try k_fold)
        k_steps
        (rename Fr _ _ _ _ => lF')
        refine For_invTF lF' ?_ (by intro _; rfl)
        k_steps
        unfold STOP
        (rename Fr _ _ _ _ => lF'); (rename News _ _ _ _ => lN')
        refine' lt_list (σ := List Value × List (Addr × Obj) × Nat × Obj) (fun c => (U, W.listOf c.1.toArray c.2.2.1) :: (D7, LCg.lst zs) :: (D, LCg.lst ys) :: (L' + 1 + 1 + 1 + 1 + 1 + 1 + 1, ot) :: (L' + 1 + 1 + 1 + 1 + 1 + 1, on) :: (L' + 1 + 1 + 1 + 1 + 1, oBe2) :: (L' + 1 + 1 + 1 + 1, oAh2) :: (L' + 1 + 1 + 1, oSm2) :: (L' + 1 + 1, c.2.2.2) :: (L' + 1, oWi) :: c.2.1) (fun _ => []) [Str.ofString "same"] (fun j c => DatAll c.2.1 c.1 (due1 ws n (wideT ws n).length ++ due2 ws n j) ∧ (∀ p ∈ c.2.1, p.1 ≠ U) ∧ (∀ p ∈ c.2.1, p.1 ≠ L' + 1 + 1) ∧ ∃ v, c.2.2.2.data = Data.cell v) (vc, G, nc, oWo) (by rfl) ⟨_, (lN' _ (.tail _ (.tail _ (.head _)))).1, rfl, _, rfl⟩ ?kx lF' lN' ?kd ?ke ?kt ?kz
        case kx => exact .inr ⟨_, fun i c hc => .tail _ (.tail _ (.head _))⟩
        case kd => exact fun _ h => nomatch h
        case ke => exact ⟨by simpa [due2] using ht1, ht2, ht5, ⟨_, dWo⟩⟩
        case kz =>
          clear lF' lN'
          rintro ⟨vd, G2, nd, ow2⟩ u4 h4 tk4 ⟨hs1, hs2, hs3, ⟨vt2, hs6⟩⟩ F4 N4
          dsimp only [kstB] at F4 N4 hs1 hs2 hs3 hs6
          rw [hyl] at hs1
          (try k_fold)
          k_steps
          refine k U _ _ _ nd _ hs1 ?_ (Fr.keep (by assumption))
          intro p hp
          rcases List.mem_cons.mp hp with rfl | hp
          · have e := N4 _ (.head _)
            exact ⟨e.1, e.2.2⟩
          · have e := N4 _ (.tail _ (.tail _ (.tail _ (.tail _ (.tail _ (.tail _ (.tail _ (.tail _ (.tail _ (.tail _ hp))))))))))
            exact ⟨e.1, e.2.2⟩
        case kt =>
          clear lF' lN'
          rintro ⟨vd, G2, nd, ow2⟩ j v2 u4 s4 h4 tk4 I2 o2 hj ⟨hs1, hs2, hs3, ⟨vt2, hs6⟩⟩ hne2 F4 N4
          dsimp only [kstB] at F4 N4 hs1 hs2 hs3 hs6 hne2
          obtain ⟨x, tx, rfl, he⟩ := strs_at hy hj
          have hx6 := smalls_mem hw (List.mem_of_getElem? he)
          obtain ⟨hm1, hm2, hm3, hm4, hm5, hm6, hm7, hm8, hm9, hm10, _⟩ := offA_ne hne2
          have hmG : ∀ p ∈ G2, p.1 ≠ I2 := fun p hp => hne2 p (.tail _ (.tail _ (.tail _ (.tail _ (.tail _ (.tail _ (.tail _ (.tail _ (.tail _ (.tail _ hp))))))))))
          dsimp only at hm1 hm2 hm3 hm4 hm5 hm6 hm7 hm8 hm9 hm10
          have hvd : vd.length ≤ 1000 := by
            have e := hs1.length
            rw [List.length_append] at e
            have e2 := due1_len ws n (wideT ws n).length
            have e3 : (wideT ws n).length * (wideT ws n).length ≤ 6 * 6 := Nat.mul_le_mul hwl hwl
            have e4 := due2_len ws n j
            omega
          (try k_fold)
          k_steps
          · have hc : (x.length : Int) ≤ n := by assumption
            unfold STOP
            (rename Fr _ _ _ _ => FF); (rename News _ _ _ _ => NN); (rename IsRange _ _ _ _ _ _ _ _ => RR)
            refine LCt.CompSrcT.range (by rfl) FF NN RR (small_one (by omega) (by omega) (by omega) (by omega)) (rangeSize_nat _ _) (by rw [sizeLine_eq]; omega) ?_
            intro g8
            refine cr_T (fun i qs nx => nx = _ ∧ IntsAre qs (((List.range i).filter fun j => (smalls ws).getD j Str.empty == x).map fun (j : Nat) => (j : Int))) ⟨rfl, .nil⟩ ?_ ?_
            · rintro kk qs nx v I3 oI3 C3 oC3 D8 m₃ h8 tk8 E' hk8 ⟨t8, hv8⟩ ⟨rfl, hqs⟩ hC hx F N off ne
              rw [Int.zero_add] at hv8
              subst hv8
              clear FF NN RR ne
              (try k_fold)
              k_steps
              · have hc2 : ((smalls ws).getD (kk : Int).toNat Str.empty == x) = true := by assumption
                (rename Fr _ _ _ _ => FZ); (rename News _ _ _ _ => NZ)
                exact comp_endT FZ NZ off ⟨rfl, ints_snocR hqs hc2⟩
              · have hc2 : ((smalls ws).getD (kk : Int).toNat Str.empty == x) = false := by assumption
                (rename Fr _ _ _ _ => FZ); (rename News _ _ _ _ => NZ)
                exact comp_endT FZ NZ off ⟨rfl, ints_skipR hqs (by rw [show ((smalls ws).getD kk Str.empty == x) = false from hc2]; decide)⟩
            · rintro qs nx ⟨rfl, hqs⟩
              intro D8 h8 tk8 F N off
              dsimp only
              change IntsAre qs (sameT ws x) at hqs
              clear FF NN RR
              obtain ⟨f80, f81, f82, f83, f84, f85, f86, f87, f88, f89, f8a, f8b⟩ := offA_of off
              clear off
              have mA : MarkA := trivial
              (try k_fold)
              k_steps
              unfold STOP
              (rename Fr _ _ _ _ => FF); (rename News _ _ _ _ => NN)
              rename_i EE hEE lEE
              obtain ⟨e1, e2, e3, e4, e5, e6, e7, e8, e9, e10, e11, e12, _⟩ := lEE
              (rename _ = Data.cell (some (Value.str x tx)) => dW2)
              refine app_any FF NN (Upd.tail (Nat.ne_of_gt e3) (Upd.tail f81.sym (Upd.tail hm1.sym (Upd.head ?w7)))) hvd ?_
              case w7 =>
                simp only [List.forall_mem_cons]
                exact ⟨uu1, uu2, uu3, uu4, uu5, uu6, uu7, uu8, uu9, hs2⟩
              intro hE2 FE NE
              (try dsimp only); (try k_fold)
              k_steps
              (rename Fr _ _ _ _ => FZ); (rename News _ _ _ _ => NZ)
              refine due_end2 NZ FZ hm1 hm2 hm3 hm4 hm5 hm6 hm7 hm8 hm9 hm10 hmG (Nat.ne_of_gt e2) f80.sym (fun z _ hz => (if_neg (not_in1 hz).1).trans (if_neg (not_in1 hz).2)) ⟨?_, ?_, ?_, _, dW2⟩
              · rw [due2_yes he hc, ← List.append_assoc]
                exact told_dat2 hs1 hqs
              · simp only [List.forall_mem_cons]
                exact ⟨Nat.ne_of_gt e3, f81.sym, hs2⟩
              · simp only [List.forall_mem_cons]
                exact ⟨Nat.ne_of_gt e11, f89.sym, hs3⟩
          · have hc : ¬ (x.length : Int) ≤ n := by assumption
            (rename Fr _ _ _ _ => FZ); (rename News _ _ _ _ => NZ)
            (rename _ = Data.cell (some (Value.str x tx)) => dW2)
            refine LtEnd.intro (vd, G2, nd, _) FZ NZ (.head _) (fun p hp => .tail _ hp) ?_ (by exact fun _ h => nomatch h) (fun z _ hz => if_neg (not_in1 hz).2) ⟨?_, hs2, hs3, _, dW2⟩
            · simp only [List.forall_mem_cons]
              exact ⟨hm1, hm2, hm3, hm4, hm5, hm6, hm7, hm8, hm9, hm10, hmG⟩
            · dsimp only
              rw [due2_no he hc]
              exact hs1
      case yt =>
        clear lF' lN'
        rintro ⟨vc, G, nc, ot, on⟩ i v u3 s3 h3 tk3 I o hi ⟨ht1, ht2, ht3, ht4, ht5, ⟨vt, ht6⟩, ⟨vn, ht7⟩⟩ hne F3 N3
        dsimp only [kstB] at F3 N3 ht1 ht2 ht3 ht4 ht5 ht6 ht7 hne
        obtain ⟨x, tx, rfl, he⟩ := strs_at hzs hi
        have hx6 := wideT_mem hw (List.mem_of_getElem? he)
        obtain ⟨hn1, hn2, hn3, hn4, hn5, hn6, hn7, hn8, hn9, hn10, _⟩ := offA_ne hne
        have hnG : ∀ p ∈ G, p.1 ≠ I := fun p hp => hne p (.tail _ (.tail _ (.tail _ (.tail _ (.tail _ (.tail _ (.tail _ (.tail _ (.tail _ (.tail _ hp))))))))))
        dsimp only at hn1 hn2 hn3 hn4 hn5 hn6 hn7 hn8 hn9 hn10
        (try k_fold)
        k_steps
        (rename Fr _ _ _ _ => lF')
        refine For_invTF lF' ?_ (by intro _; rfl)
        k_steps
        unfold STOP
        (rename Fr _ _ _ _ => lF'); (rename News _ _ _ _ => lN')
        rename_i hI1 oOn2 dOn2
        refine' lt_list (σ := List Value × List (Addr × Obj) × Nat × Obj) (fun c => (I, o) :: (U, W.listOf c.1.toArray c.2.2.1) :: (D7, LCg.lst zs) :: (D, LCg.lst ys) :: (L' + 1 + 1 + 1 + 1 + 1 + 1 + 1, c.2.2.2) :: (L' + 1 + 1 + 1 + 1 + 1 + 1, oOn2) :: (L' + 1 + 1 + 1 + 1 + 1, oBe2) :: (L' + 1 + 1 + 1 + 1, oAh2) :: (L' + 1 + 1 + 1, oSm2) :: (L' + 1 + 1, oWo) :: (L' + 1, oWi) :: c.2.1) (fun _ => []) [Str.ofString "hits"] (fun j c => DatAll c.2.1 c.1 (due1 ws n i ++ ((wideT ws n).take j).map (dueD ws n x)) ∧ (∀ p ∈ c.2.1, p.1 ≠ U) ∧ (∀ p ∈ c.2.1, p.1 ≠ L' + 1 + 1 + 1 + 1 + 1 + 1 + 1) ∧ (∀ p ∈ c.2.1, p.1 ≠ L' + 1 + 1 + 1 + 1 + 1 + 1) ∧ (∀ p ∈ c.2.1, p.1 ≠ L' + 1 + 1) ∧ (∀ p ∈ c.2.1, p.1 ≠ I) ∧ ∃ v, c.2.2.2.data = Data.cell v) (vc, G, nc, ot) (by rfl) ⟨_, (lN' _ (.tail _ (.tail _ (.head _)))).1, rfl, _, rfl⟩ ?kx lF' lN' ?kd ?ke ?kt ?kz
        case kx => exact .inr ⟨_, fun i c hc => .tail _ (.tail _ (.head _))⟩
        case kd => exact fun _ h => nomatch h
        case ke => exact ⟨by simpa using ht1, ht2, ht3, ht4, ht5, hnG, ⟨_, ht6⟩⟩
        case kz =>
          clear lF' lN'
          rintro ⟨vd, G2, nd, ot2⟩ u4 h4 tk4 ⟨hs1, hs2, hs3, hs4, hs5, hsI, ⟨vt2, hs6⟩⟩ F4 N4
          dsimp only [kstB] at F4 N4 hs1 hs2 hs3 hs4 hs5 hsI hs6
          rw [hzl, List.take_length, ← due1_succ he] at hs1
          (try k_fold)
          k_steps
          refine LtEnd.intro (vd, G2, nd, ot2, oOn2) (by assumption) N4 (.head _) (fun p hp => .tail _ hp) ?_ (by exact fun _ h => nomatch h) (fun z _ hz => (if_neg (not_in1 hz).2).trans (if_neg (not_in1 hz).2)) ⟨hs1, hs2, hs3, hs4, hs5, ⟨_, hs6⟩, ⟨_, dOn2⟩⟩
          simp only [List.forall_mem_cons]
          exact ⟨hn1, hn2, hn3, hn4, hn5, hn6, hn7, hn8, hn9, hn10, hsI⟩
        case kt =>
          clear lF' lN'
          rintro ⟨vd, G2, nd, ot2⟩ j v2 u4 s4 h4 tk4 I2 o2 hj ⟨hs1, hs2, hs3, hs4, hs5, hsI, ⟨vt2, hs6⟩⟩ hne2 F4 N4
          dsimp only [kstB] at F4 N4 hs1 hs2 hs3 hs4 hs5 hsI hs6 hne2
          obtain ⟨y, ty, rfl, hey⟩ := strs_at hzs hj
          have hy6 := wideT_mem hw (List.mem_of_getElem? hey)
          obtain ⟨hm0, hm1, hm2, hm3, hm4, hm5, hm6, hm7, hm8, hm9, hm10, _⟩ := offA_ne hne2
          have hmG : ∀ p ∈ G2, p.1 ≠ I2 := fun p hp => hne2 p (.tail _ (.tail _ (.tail _ (.tail _ (.tail _ (.tail _ (.tail _ (.tail _ (.tail _ (.tail _ (.tail _ hp)))))))))))
          dsimp only at hm0 hm1 hm2 hm3 hm4 hm5 hm6 hm7 hm8 hm9 hm10
          have hvd : vd.length ≤ 1000 := by
            have e := hs1.length
            rw [List.length_append, List.length_map, List.length_take] at e
            have e2 := due1_len ws n i
            have e3 : i * (wideT ws n).length ≤ 6 * 6 := Nat.mul_le_mul (by have := (List.getElem?_eq_some_iff.mp he).1; omega) hwl
            omega
          (try k_fold)
          k_steps
          (rename Fr _ _ _ _ => FF); (rename News _ _ _ _ => NN); (rename IsRange _ _ _ _ _ _ _ _ => RR)
          refine LCt.CompSrcT.range (by rfl) FF NN RR (small_one (by omega) (by omega) (by omega) (by omega)) (rangeSize_nat _ _) (by rw [sizeLine_eq]; omega) ?_
          intro g8
          refine cr_T (fun i qs nx => nx = _ ∧ IntsAre qs (((List.range i).filter fun j => fitsT ((smalls ws).getD j Str.empty) (aheadN n) (behindN n) x y).map fun (j : Nat) => (j : Int))) ⟨rfl, .nil⟩ ?_ ?_
          · rintro kk qs nx v I3 oI3 C3 oC3 D8 m₃ h8 tk8 E' hk8 ⟨t8, hv8⟩ ⟨rfl, hqs⟩ hC hx F N off ne
            rw [Int.zero_add] at hv8
            subst hv8
            clear FF NN RR ne
            (try k_fold)
            k_steps
            · have hc : fitsT ((smalls ws).getD (kk : Int).toNat Str.empty) (aheadN n) (behindN n) x y = true := by assumption
              (rename Fr _ _ _ _ => FZ); (rename News _ _ _ _ => NZ)
              exact comp_endT FZ NZ off ⟨rfl, ints_snocR hqs hc⟩
            · have hc : fitsT ((smalls ws).getD (kk : Int).toNat Str.empty) (aheadN n) (behindN n) x y = false := by assumption
              (rename Fr _ _ _ _ => FZ); (rename News _ _ _ _ => NZ)
              exact comp_endT FZ NZ off ⟨rfl, ints_skipR hqs (by rw [show fitsT ((smalls ws).getD kk Str.empty) (aheadN n) (behindN n) x y = false from hc]; decide)⟩
          · rintro qs nx ⟨rfl, hqs⟩
            intro D8 h8 tk8 F N off
            dsimp only
            change IntsAre qs (hitsT ws n x y) at hqs
            clear FF NN RR
            obtain ⟨f80, f81, f82, f83, f84, f85, f86, f87, f88, f89, f8a, f8b, f8c⟩ := offA_of off
            clear off
            (try k_fold)
            k_steps
            unfold STOP
            (rename Fr _ _ _ _ => FF); (rename News _ _ _ _ => NN)
            have hql := hqs.length
            have hql6 := hitsT_len (ws := ws) (n := n) (x := x) (y := y)
            refine LCt.CompSrcT.ledger (by rfl) FF NN (k := qs.length) (by k_mem) (by rw [sizeLine_eq, List.size_toArray]; omega) ?_
            intro g9
            refine cr_T (fun i rs nx => nx = _ ∧ IntsAre rs (((hitsT ws n x y).take i).filter (longI ws n))) ⟨rfl, .nil⟩ ?_ ?_
            · rintro kk rs nx v I3 oI3 C3 oC3 D9 m₃ h9 tk9 E' hk9 hvk ⟨rfl, hrs⟩ hC hx F N off ne
              obtain ⟨z, tz, rfl, hez⟩ := ints_at hqs (by simpa using hvk)
              obtain ⟨hz0, hz1⟩ := hitsT_bd (List.mem_of_getElem? hez)
              clear FF NN ne
              (try k_fold)
              k_steps
              · have hc : n < (((smalls ws).getD z.toNat Str.empty).length : Int) := by assumption
                (rename Fr _ _ _ _ => FZ); (rename News _ _ _ _ => NZ)
                exact comp_end FZ NZ off (k := qs.length) (by k_mem) ⟨rfl, ints_snocT hrs hez (decide_eq_true hc)⟩
              · have hc : ¬ n < (((smalls ws).getD z.toNat Str.empty).length : Int) := by assumption
                (rename Fr _ _ _ _ => FZ); (rename News _ _ _ _ => NZ)
                exact comp_end FZ NZ off (k := qs.length) (by k_mem) ⟨rfl, ints_skipT hrs hez (by rw [show longI ws n z = false from decide_eq_false hc]; decide)⟩
            · rintro rs nx ⟨rfl, hrs⟩
              intro D9 h9 tk9 F N off
              dsimp only
              rw [List.size_toArray, hql, List.take_length] at hrs
              clear FF NN
              obtain ⟨f90, f91, f92, f93, f94, f95, f96, f97, f98, f99, f9a, f9b, f9c, f9d⟩ := offA_of off
              have mA : MarkA := trivial
              (try k_fold)
              k_steps
              unfold STOP
              (rename Fr _ _ _ _ => FF); (rename News _ _ _ _ => NN)
              rename_i EE hEE lEE
              obtain ⟨e1, e2, e3, e4, e5, e6, e7, e8, e9, e10, e11, e12, e13, e14, _⟩ := lEE
              (rename _ = Data.cell (some (Value.str y ty)) => dOt2)
              refine app_any FF NN (Upd.tail (Nat.ne_of_gt e5) (Upd.tail f93.sym (Upd.tail f82.sym (Upd.tail hm1.sym (Upd.tail hn1.sym (Upd.head ?w7)))))) hvd ?_
              case w7 =>
                simp only [List.forall_mem_cons]
                exact ⟨uu1, uu2, uu3, uu4, uu5, uu6, uu7, uu8, uu9, hs2⟩
              intro hE2 FE NE
              (try dsimp only); (try k_fold)
              k_steps
              (rename Fr _ _ _ _ => FZ); (rename News _ _ _ _ => NZ)
              refine due_end NZ FZ hm0 hm1 hm2 hm3 hm4 hm5 hm6 hm7 hm8 hm9 hm10 hmG (Nat.ne_of_gt e3) f91.sym f80.sym (fun z _ hz => (if_neg (not_in1 hz).1).trans (if_neg (not_in1 hz).2)) ⟨?_, ?_, ?_, ?_, ?_, ?_, _, dOt2⟩
              · rw [List.take_add_one, hey, List.map_append, ← List.append_assoc]
                exact told_dat hs1 hqs hrs
              · simp only [List.forall_mem_cons]
                exact ⟨Nat.ne_of_gt e5, f93.sym, f82.sym, hs2⟩
              · simp only [List.forall_mem_cons]
                exact ⟨Nat.ne_of_gt e8, f96.sym, f85.sym, hs3⟩
              · simp only [List.forall_mem_cons]
                exact ⟨Nat.ne_of_gt e9, f97.sym, f86.sym, hs4⟩
              · simp only [List.forall_mem_cons]
                exact ⟨Nat.ne_of_gt e13, f9b.sym, f8a.sym, hs5⟩
              · simp only [List.forall_mem_cons]
                exact ⟨Nat.ne_of_gt e4, f92.sym, f81.sym, hsI⟩
end Mine
end

section
open PySem PySem.W PySem.Calls PyProof.Rows Builtin Builtin.Str
set_option maxRecDepth 100000
set_option maxHeartbeats 8000000
namespace Mine
theorem pre_iff : ∀ {key e : List Nat}, (∀ c ∈ e, c < 126) → ((¬ e < key ∧ e < key ++ [126]) ↔ key <+: e)
  | [], [], _ => by simp
  | [], c :: r, h => by
    have hc := h c (.head _)
    refine ⟨fun _ => List.nil_prefix, fun _ => ⟨List.not_lt_nil _, ?_⟩⟩
    exact List.cons_lt_cons_iff.mpr (.inl hc)
  | k :: ks, [], _ => by
    refine ⟨fun h => absurd (List.nil_lt_cons _ _) h.1, fun h => ?_⟩
    have := List.prefix_nil.mp h
    cases this
  | k :: ks, c :: r, h => by
    have ih := pre_iff (key := ks) (e := r) fun d hd => h d (.tail _ hd)
    rw [List.cons_append, List.cons_lt_cons_iff, List.cons_lt_cons_iff, List.cons_prefix_cons, ← ih]
    constructor
    · rintro ⟨h1, h2⟩
      have h3 : ¬ c < k := fun q => h1 (.inl q)
      rcases h2 with h2 | ⟨e, h2⟩
      · exact absurd h2 h3
      · exact ⟨e.symm, fun q => h1 (.inr ⟨e, q⟩), h2⟩
    · rintro ⟨rfl, h1, h2⟩
      exact ⟨fun q => q.elim (Nat.lt_irrefl _) fun q => h1 q.2, .inr ⟨rfl, h2⟩⟩
theorem inR_iff {key e : Str} (h : ∀ c ∈ e.cps.toList, c < 126) : inR key e = true ↔ key.cps.toList <+: e.cps.toList := by
  unfold inR
  rw [Bool.and_eq_true, decide_eq_true_eq, decide_eq_true_eq, cat_list, show (Str.ofString "~").cps.toList = [126] from by decide +kernel]
  exact pre_iff h
theorem sep_pre {c : Nat} : ∀ {S u P r : List Nat}, c ∉ S → c ∉ u → ((S ++ c :: P) <+: (u ++ c :: r) ↔ S = u ∧ P <+: r)
  | [], [], P, r, _, _ => by simp
  | [], d :: u, P, r, _, h => by
    have : ¬ c = d := fun e => h (e ▸ .head _)
    simp [List.cons_prefix_cons, this]
  | d :: S, [], P, r, h, _ => by
    have : ¬ d = c := fun e => h (e ▸ .head _)
    simp [List.cons_prefix_cons, this]
  | d :: S, e :: u, P, r, h1, h2 => by
    have ih := sep_pre (S := S) (u := u) (P := P) (r := r) (fun m => h1 (.tail _ m)) (fun m => h2 (.tail _ m))
    simp only [List.cons_append, List.cons_prefix_cons, ih, List.cons.injEq, and_assoc]
theorem pre_sep {c : Nat} : ∀ {P v t : List Nat}, c ∉ P → (P <+: v ++ c :: t ↔ P <+: v)
  | [], v, t, _ => by simp
  | d :: P, [], t, h => by
    have : ¬ d = c := fun e => h (e ▸ .head _)
    simp [List.cons_prefix_cons, this]
  | d :: P, e :: v, t, h => by
    have ih := pre_sep (P := P) (v := v) (t := t) fun m => h (.tail _ m)
    simp only [List.cons_append, List.cons_prefix_cons, ih]
def LL (l : List Nat) : Prop := ∀ c ∈ l, c = 97 ∨ c = 98
theorem LL.not {l : List Nat} (h : LL l) {c : Nat} (h1 : c ≠ 97) (h2 : c ≠ 98) : c ∉ l := fun m => by
  rcases h c m with e | e
  · exact h1 e
  · exact h2 e
theorem rot_iff {w S P t : List Nat} {a : Nat} (hw : LL w) (hS : LL S) (hP : LL P) (ha : a ≤ w.length) :
    ((S ++ 36 :: P) <+: (w.drop a ++ 36 :: (w.take a ++ 124 :: t))) ↔ (a = w.length - S.length ∧ (P.length + S.length ≤ w.length ∧ w.take P.length = P ∧ w.drop (w.length - S.length) = S)) := by
  rw [sep_pre (hS.not (by decide) (by decide)) (fun m => (hw.not (by decide) (by decide)) (List.mem_of_mem_drop m)), pre_sep (hP.not (by decide) (by decide))]
  constructor
  · rintro ⟨rfl, h⟩
    have e : w.length - (w.drop a).length = a := by rw [List.length_drop]; omega
    have hp := h.length_le
    rw [List.length_take] at hp
    refine ⟨e.symm, ?_, (List.prefix_iff_eq_take.mp (h.trans (List.take_prefix _ _))).symm, by rw [e]⟩
    rw [List.length_drop]; omega
  · rintro ⟨rfl, h1, h2, h3⟩
    refine ⟨h3.symm, List.prefix_take_iff.mpr ⟨?_, by omega⟩⟩
    have := List.take_prefix P.length w
    rwa [h2] at this
theorem same_iff {w f : List Nat} {a d : Nat} (hw : LL w) (hf : LL f) (ha : a ≤ w.length) :
    ((36 :: (f ++ [124])) <+: (w.drop a ++ 36 :: (w.take a ++ 124 :: [d]))) ↔ (a = w.length ∧ w = f) := by
  have e1 : (36 :: (f ++ [124])) = [] ++ 36 :: (f ++ [124]) := rfl
  rw [e1, sep_pre (by simp) (fun m => (hw.not (by decide) (by decide)) (List.mem_of_mem_drop m)), sep_pre (hf.not (by decide) (by decide)) (fun m => (hw.not (by decide) (by decide)) (List.mem_of_mem_take m))]
  constructor
  · rintro ⟨h1, h2, _⟩
    have h3 : a = w.length := by
      have := congrArg List.length h1
      rw [List.length_drop, List.length_nil] at this
      omega
    refine ⟨h3, ?_⟩
    rw [h3, List.take_length] at h2
    exact h2.symm
  · rintro ⟨rfl, rfl⟩
    refine ⟨by simp, by simp, List.nil_prefix⟩

theorem small_ll {x : Str} (h : AB x) : LL (smallT x).cps.toList := by
  rw [small_list]
  exact fun c hc => low_ab h c hc
theorem small_tl (x : Str) : (smallT x).cps.toList.length = x.length := smallT_len x
theorem entry_list {x : Str} {j a : Nat} (hj : j < 6) (ha : a ≤ x.length) : (entryT x j a).cps.toList = (smallT x).cps.toList.drop a ++ 36 :: ((smallT x).cps.toList.take a ++ 124 :: [48 + j]) := by
  unfold entryT
  have hl := small_tl x
  rw [digit_list j hj, cat_list, cat_list, cat_list, sl_from (by omega), sl_to (by omega), cat_list, show (Str.ofString "$").cps.toList = [36] from by decide +kernel, show (Str.ofString "|").cps.toList = [124] from by decide +kernel, Int.toNat_natCast, List.drop_append_of_le_length (by omega), List.take_append_of_le_length (by omega)]
  simp
theorem entry_lt {x : Str} {j a : Nat} (h : AB x) (hj : j < 6) (ha : a ≤ x.length) : ∀ c ∈ (entryT x j a).cps.toList, c < 126 := by
  intro c hc
  rw [entry_list hj ha] at hc
  simp only [List.mem_append, List.mem_cons, List.not_mem_nil, or_false] at hc
  have hw := small_ll h
  rcases hc with hc | rfl | hc | rfl | rfl
  · rcases hw c (List.mem_of_mem_drop hc) with rfl | rfl <;> decide
  · decide
  · rcases hw c (List.mem_of_mem_take hc) with rfl | rfl <;> decide
  · decide
  · omega
theorem filter_one {p : Nat → Bool} {a0 : Nat} {c : Bool} : ∀ N, (∀ a, a < N → (p a = true ↔ (a = a0 ∧ c = true))) → (List.range N).filter p = if a0 < N ∧ c = true then [a0] else []
  | 0, _ => by simp
  | N + 1, h => by
    rw [List.range_succ, List.filter_append, filter_one N fun a ha => h a (by omega)]
    have hN := h N (by omega)
    by_cases hp : p N = true
    · obtain ⟨rfl, hc⟩ := hN.mp hp
      simp [hp, hc]
    · have hn : ¬ (N = a0 ∧ c = true) := fun q => hp (hN.mpr q)
      simp only [List.filter_cons, hp, Bool.false_eq_true, if_false, List.filter_nil, List.append_nil]
      by_cases hc : c = true
      · have : ¬ N = a0 := fun q => hn ⟨q, hc⟩
        by_cases h1 : a0 < N
        · rw [if_pos ⟨h1, hc⟩, if_pos ⟨by omega, hc⟩]
        · rw [if_neg fun q => h1 q.1, if_neg fun q => by have := q.1; omega]
      · rw [if_neg fun q => hc q.2, if_neg fun q => hc q.2]
theorem ents_filter {x key : Str} {j a0 : Nat} {c : Bool} (hj : j < 6) (h0 : a0 < x.length + 1) (h : ∀ a, a < x.length + 1 → (inR key (entryT x j a) = true ↔ (a = a0 ∧ c = true))) :
    ((entsOf x j (x.length + 1)).filter (inR key)).map lastD = if c = true then [(j : Int)] else [] := by
  unfold entsOf
  rw [List.filter_map, filter_one (p := inR key ∘ entryT x j) (a0 := a0) (c := c) _ h]
  by_cases hc : c = true
  · rw [if_pos ⟨h0, hc⟩, if_pos hc, List.map_cons, List.map_cons, entryT_lastD hj]
    rfl
  · rw [if_neg fun q => hc q.2, if_neg hc]
    rfl
theorem flat_cond {f : Nat → List Int} {cond : Nat → Bool} : ∀ {l : List Nat}, (∀ j ∈ l, f j = if cond j = true then [(j : Int)] else []) → l.flatMap f = (l.filter cond).map fun (j : Nat) => (j : Int)
  | [], _ => rfl
  | j :: l, h => by
    rw [List.flatMap_cons, h j (.head _), flat_cond fun i hi => h i (.tail _ hi), List.filter_cons]
    by_cases hc : cond j = true
    · simp [hc]
    · simp [hc]
theorem range_sorted (m : Nat) (cond : Nat → Bool) : (((List.range m).filter cond).map fun (j : Nat) => (j : Int)).Pairwise (· ≤ ·) := by
  rw [List.pairwise_map]
  refine List.Pairwise.imp (fun {a b} h => ?_) (List.Pairwise.filter cond (List.pairwise_lt_range))
  omega
theorem strch_eq {ws : List Str} {key : Str} {cond : Nat → Bool} (h : ∀ j, j < ws.length → ((entsOf (ws.getD j Str.empty) j ((ws.getD j Str.empty).length + 1)).filter (inR key)).map lastD = if cond j = true then [(j : Int)] else []) :
    strchT ws key = ((List.range ws.length).filter cond).map fun (j : Nat) => (j : Int) := by
  unfold strchT
  have e : ((entries ws ws.length).filter (inR key)).map lastD = ((List.range ws.length).filter cond).map fun (j : Nat) => (j : Int) := by
    unfold entries
    rw [List.filter_flatMap, List.map_flatMap]
    exact flat_cond fun j hj => h j (List.mem_range.mp hj)
  rw [e]
  exact (sortI_of (List.Perm.refl _) (range_sorted _ _)).symm
end Mine
end

section
open PySem PySem.W PySem.Calls PyProof.Rows Builtin Builtin.Str
set_option maxRecDepth 100000
set_option maxHeartbeats 8000000
namespace Mine
theorem ahead_pre (n : Int) : aheadN n = preN n := by
  unfold aheadN preN
  by_cases h : n - 3 > 0
  · rw [if_pos h]
    have e := Int.fdiv_eq_ediv_of_nonneg (n - 3) (b := 2) (by decide)
    rw [e]
    split <;> omega
  · rw [if_neg h]
    have e := Int.fdiv_eq_ediv_of_nonneg (n - 3) (b := 2) (by decide)
    rw [e, if_neg (by omega)]
    rfl
theorem behind_post (n : Int) : behindN n = postN n := by
  unfold behindN postN
  rw [ahead_pre]
  have h0 : preN n = if (n - 3) / 2 > 0 then (n - 3) / 2 else 0 := by
    unfold preN
    rw [Int.fdiv_eq_ediv_of_nonneg (n - 3) (b := 2) (by decide)]
  rw [h0]
  split <;> split <;> split <;> omega
theorem pre_post {n : Int} {k : Nat} (h : n < (k : Int)) : preN n + postN n ≤ k := by
  have h0 : preN n = if (n - 3) / 2 > 0 then (n - 3) / 2 else 0 := by
    unfold preN
    rw [Int.fdiv_eq_ediv_of_nonneg (n - 3) (b := 2) (by decide)]
  unfold postN
  rw [h0]
  split <;> split <;> omega
theorem hA_list2 (x : Str) (n : Int) : (hA x n).cps.toList = (smallT x).cps.toList.take (preN n).toNat := by
  rw [hA_list, small_list, List.map_take]
theorem hB_list2 {x : Str} {n : Int} (h : n < (x.length : Int)) : (hB x n).cps.toList = (smallT x).cps.toList.drop ((x.length : Int) - postN n).toNat := by
  rw [hB_list h, small_list, List.map_drop]
theorem hA_ll {x : Str} (h : AB x) (n : Int) : LL (hA x n).cps.toList := by
  rw [hA_list2]
  exact fun c hc => small_ll h c (List.mem_of_mem_take hc)
theorem hB_ll {x : Str} (h : AB x) {n : Int} (hn : n < (x.length : Int)) : LL (hB x n).cps.toList := by
  rw [hB_list2 hn]
  exact fun c hc => small_ll h c (List.mem_of_mem_drop hc)
theorem str_beq {x y : Str} : (x == y) = true ↔ x.cps.toList = y.cps.toList := by
  rw [beq_iff_eq]
  exact ⟨fun e => e ▸ rfl, Str.ext_list⟩

theorem fits_iff {v x y : Str} {n : Int} (hx : n < (x.length : Int)) (hy : n < (y.length : Int)) :
    fitsT (smallT v) (aheadN n) (behindN n) (smallT x) (smallT y) = true ↔
      ((hA x n).cps.toList.length + (hB y n).cps.toList.length ≤ (smallT v).cps.toList.length ∧ (smallT v).cps.toList.take (hA x n).cps.toList.length = (hA x n).cps.toList ∧ (smallT v).cps.toList.drop ((smallT v).cps.toList.length - (hB y n).cps.toList.length) = (hB y n).cps.toList) := by
  have p0 := preN_nn n
  have q0 := postN_nn n
  have bx := pre_post hx
  have bY := pre_post hy
  have lx := small_tl x
  have ly := small_tl y
  have lv := small_tl v
  have la : (hA x n).cps.toList.length = (preN n).toNat := by rw [hA_list2, List.length_take]; omega
  have lb : (hB y n).cps.toList.length = (postN n).toNat := by rw [hB_list2 hy, List.length_drop]; omega
  rw [la, lb, hA_list2, hB_list2 hy, lv]
  unfold fitsT
  rw [ahead_pre, behind_post, smallT_len, smallT_len]
  by_cases hc : (v.length : Int) < preN n + postN n
  · rw [if_pos hc]
    constructor
    · intro h; cases h
    · rintro ⟨h, _⟩; omega
  · rw [if_neg hc, Bool.and_eq_true, str_beq, str_beq, sl_to p0, sl_to p0, sl_from (by omega), sl_from (by omega)]
    have e1 : ((v.length : Int) - postN n).toNat = v.length - (postN n).toNat := by omega
    rw [e1]
    constructor
    · rintro ⟨h1, h2⟩
      exact ⟨by omega, h1, h2⟩
    · rintro ⟨_, h1, h2⟩
      exact ⟨h1, h2⟩

theorem smalls_at {ws : List Str} {j : Nat} (hj : j < ws.length) : (smalls ws).getD j Str.empty = smallT (ws.getD j Str.empty) := by
  unfold smalls
  rw [List.getD_eq_getElem?_getD, List.getD_eq_getElem?_getD, List.getElem?_map, List.getElem?_eq_getElem hj]
  rfl

theorem strch_long {ws : List Str} {n : Int} {x y : Str} (hz : ws.length ≤ 6) (hab : ∀ z ∈ ws, AB z) (hx : x ∈ ws) (hy : y ∈ ws) (hxn : n < (x.length : Int)) (hyn : n < (y.length : Int)) :
    strchT ws (hB y n ++ Str.ofString "$" ++ hA x n) = hitsT ws n (smallT x) (smallT y) := by
  unfold hitsT
  refine strch_eq fun j hj => ?_
  have hw := AB.getD hab j
  rw [smalls_at hj]
  generalize ws.getD j Str.empty = v at hw
  have hi := fits_iff (v := v) hxn hyn
  have hlv := small_tl v
  refine ents_filter (a0 := (smallT v).cps.toList.length - (hB y n).cps.toList.length) (by omega) (by omega) fun a ha => ?_
  rw [inR_iff (entry_lt hw (by omega) (by omega)), entry_list (by omega) (by omega), cat_list, cat_list, show (Str.ofString "$").cps.toList = [36] from by decide +kernel, List.append_assoc]
  show ((hB y n).cps.toList ++ 36 :: (hA x n).cps.toList) <+: _ ↔ _
  rw [rot_iff (small_ll hw) (hB_ll (hab y hy) hyn) (hA_ll (hab x hx) n) (by omega), ← hi]

theorem strch_short {ws : List Str} {x : Str} (hz : ws.length ≤ 6) (hab : ∀ z ∈ ws, AB z) (hx : x ∈ ws) :
    strchT ws (Str.ofString "$" ++ smallT x ++ Str.ofString "|") = sameT ws (smallT x) := by
  unfold sameT
  refine strch_eq fun j hj => ?_
  have hw := AB.getD hab j
  rw [smalls_at hj]
  generalize ws.getD j Str.empty = v at hw
  have hlv := small_tl v
  refine ents_filter (a0 := v.length) (by omega) (by omega) fun a ha => ?_
  rw [inR_iff (entry_lt hw (by omega) (by omega)), entry_list (by omega) (by omega), cat_list, cat_list, show (Str.ofString "$").cps.toList = [36] from by decide +kernel, show (Str.ofString "|").cps.toList = [124] from by decide +kernel]
  show (36 :: ((smallT x).cps.toList ++ [124])) <+: _ ↔ _
  rw [same_iff (small_ll hw) (small_ll (hab x hx)) (by omega), str_beq, hlv]

theorem numD_digit {j : Nat} (hj : j < 6) : numD (Str.ofString (toString (j : Int))) = (j : Int) := by
  unfold numD
  rw [intText_digit j hj]
  rfl
theorem gets_eq2 {ws : List Str} {n : Int} {q : Str} (hz : ws.length ≤ 6) {cond : Nat → Bool} (h : ∀ j, j < ws.length → (smallT (cramT (ws.getD j Str.empty) n) == q) = cond j) :
    getsT ws n q = ((List.range ws.length).filter cond).map fun (j : Nat) => (j : Int) := by
  unfold getsT psT
  rw [List.filter_map, List.map_map]
  have e : (List.range ws.length).filter ((fun p : Str × Str => smallT p.1 == q) ∘ fun j => (cramT (ws.getD j Str.empty) n, Str.ofString (toString (j : Int)))) = (List.range ws.length).filter cond :=
    List.filter_congr fun j hj => h j (List.mem_range.mp hj)
  rw [e]
  refine List.map_congr_left fun j hj => ?_
  have := List.mem_range.mp (List.mem_filter.mp hj).1
  exact numD_digit (by omega)

theorem cram_long {v : Str} {n : Int} (h : n < (v.length : Int)) : (smallT (cramT v n)).cps.toList = (hA v n).cps.toList ++ 46 :: 46 :: 46 :: (hB v n).cps.toList := by
  have hp := postN_le h
  rw [small_list, hA_list, hB_list h]
  unfold cramT
  rw [if_pos h, cat_list, cat_list, sl_to (preN_nn n), sl_from (by omega), dots_list, List.map_append, List.map_append, List.append_assoc]
  rfl
theorem cram_short {v : Str} {n : Int} (h : ¬ n < (v.length : Int)) : cramT v n = v := by
  unfold cramT; rw [if_neg h]
theorem sep_eq {c : Nat} : ∀ {S u P r : List Nat}, c ∉ S → c ∉ u → ((S ++ c :: P) = (u ++ c :: r) ↔ S = u ∧ P = r)
  | [], [], P, r, _, _ => by simp
  | [], d :: u, P, r, _, h => by
    have : ¬ c = d := fun e => h (e ▸ .head _)
    simp [this]
  | d :: S, [], P, r, h, _ => by
    have : ¬ d = c := fun e => h (e ▸ .head _)
    simp [this]
  | d :: S, e :: u, P, r, h1, h2 => by
    have ih := sep_eq (S := S) (u := u) (P := P) (r := r) (fun m => h1 (.tail _ m)) (fun m => h2 (.tail _ m))
    simp only [List.cons_append, List.cons.injEq, ih, and_assoc]
theorem gets_long {ws : List Str} {n : Int} {x y : Str} (hz : ws.length ≤ 6) (hab : ∀ z ∈ ws, AB z) (hx : x ∈ ws) (hy : y ∈ ws) (hxn : n < (x.length : Int)) (hyn : n < (y.length : Int)) :
    getsT ws n (hA x n ++ Str.ofString "..." ++ hB y n) = (hitsT ws n (smallT x) (smallT y)).filter (longI ws n) := by
  unfold hitsT
  rw [List.filter_map, List.filter_filter]
  refine gets_eq2 hz fun j hj => ?_
  have hw := AB.getD hab j
  show _ = (decide (n < (((smalls ws).getD (j : Int).toNat Str.empty).length : Int)) && fitsT ((smalls ws).getD j Str.empty) (aheadN n) (behindN n) (smallT x) (smallT y))
  rw [Int.toNat_natCast, smalls_at hj, smallT_len]
  generalize ws.getD j Str.empty = v at hw
  have hi := fits_iff (v := v) hxn hyn
  have lx := small_tl x
  have ly := small_tl y
  have lv := small_tl v
  have p0 := preN_nn n
  have q0 := postN_nn n
  have bx := pre_post hxn
  have bY := pre_post hyn
  have la : (hA x n).cps.toList.length = (preN n).toNat := by rw [hA_list2, List.length_take]; omega
  have lb : (hB y n).cps.toList.length = (postN n).toNat := by rw [hB_list2 hyn, List.length_drop]; omega
  have eq : (hA x n ++ Str.ofString "..." ++ hB y n).cps.toList = (hA x n).cps.toList ++ 46 :: 46 :: 46 :: (hB y n).cps.toList := by
    rw [cat_list, cat_list, dots_list, List.append_assoc]; rfl
  rw [Bool.eq_iff_iff, Bool.and_eq_true, decide_eq_true_eq, hi, str_beq, eq]
  by_cases hv : n < (v.length : Int)
  · have bv := pre_post hv
    rw [cram_long hv, sep_eq ((hA_ll hw n).not (by decide) (by decide)) ((hA_ll (hab x hx) n).not (by decide) (by decide))]
    rw [la, lb, hA_list2 v, hB_list2 hv, lv]
    have e1 : ((v.length : Int) - postN n).toNat = v.length - (postN n).toNat := by omega
    rw [e1]
    constructor
    · rintro ⟨h1, h2⟩
      simp only [List.cons.injEq, true_and] at h2
      exact ⟨hv, by omega, h1, h2⟩
    · rintro ⟨_, _, h1, h2⟩
      exact ⟨h1, by rw [h2]⟩
  · constructor
    · intro h
      exfalso
      rw [cram_short hv] at h
      exact ((small_ll hw).not (c := 46) (by decide) (by decide)) (by rw [h]; simp)
    · rintro ⟨h, _⟩
      exact absurd h hv
theorem gets_short {ws : List Str} {n : Int} {x : Str} (hz : ws.length ≤ 6) (hab : ∀ z ∈ ws, AB z) (hx : x ∈ ws) (hxn : ¬ n < (x.length : Int)) :
    getsT ws n (smallT (cramT x n)) = sameT ws (smallT x) := by
  unfold sameT
  refine gets_eq2 hz fun j hj => ?_
  have hw := AB.getD hab j
  rw [smalls_at hj, cram_short hxn]
  generalize ws.getD j Str.empty = v at hw
  rw [Bool.eq_iff_iff, str_beq, str_beq]
  by_cases hv : n < (v.length : Int)
  · constructor
    · intro h
      exfalso
      rw [cram_long hv] at h
      exact ((small_ll (hab x hx)).not (c := 46) (by decide) (by decide)) (by rw [← h]; simp)
    · intro h
      exfalso
      have := congrArg List.length h
      rw [small_tl, small_tl] at this
      omega
  · rw [cram_short hv]
theorem wide_eq (ws : List Str) (n : Int) : wideT ws n = (longs ws n).map smallT := by
  unfold wideT longs smalls
  rw [List.filter_map]
  congr 1
  exact List.filter_congr fun x _ => by simp only [Function.comp, smallT_len]
theorem flat_congr {α β : Type} {f g : α → List β} : ∀ {l : List α}, (∀ x ∈ l, f x = g x) → l.flatMap f = l.flatMap g
  | [], _ => rfl
  | x :: l, h => by rw [List.flatMap_cons, List.flatMap_cons, h x (.head _), flat_congr fun y hy => h y (.tail _ hy)]
theorem plain {ws : List Str} {n : Int} (hz : ws.length ≤ 6) (hab : ∀ y ∈ ws, AB y) : (asksT ws n).map (toldD ws n) = dueT ws n := by
  unfold asksT dueT
  rw [List.map_append]
  congr 1
  · unfold asks1 due1
    rw [wide_eq, List.length_map, ← List.map_take, List.take_length, List.map_flatMap, List.flatMap_map]
    refine flat_congr fun x hx => ?_
    rw [List.map_map, List.map_map]
    refine List.map_congr_left fun y hy => ?_
    obtain ⟨hx1, hx2⟩ := longs_mem hx
    obtain ⟨hy1, hy2⟩ := longs_mem hy
    show datP (strchT ws (hB y n ++ Str.ofString "$" ++ hA x n)) (getsT ws n (hA x n ++ Str.ofString "..." ++ hB y n)) = dueD ws n (smallT x) (smallT y)
    rw [strch_long hz hab hx1 hy1 hx2 hy2, gets_long hz hab hx1 hy1 hx2 hy2]
    rfl
  · unfold asks2 due2 smalls
    rw [← List.map_take, List.take_length, List.filter_map, List.map_map, List.map_map]
    have e : ws.filter ((fun (x : Str) => decide ((x.length : Int) ≤ n)) ∘ smallT) = ws.filter fun (x : Str) => decide ((x.length : Int) ≤ n) :=
      List.filter_congr fun x _ => by simp only [Function.comp, smallT_len]
    rw [e]
    refine List.map_congr_left fun x hx => ?_
    obtain ⟨hx1, hx2⟩ := List.mem_filter.mp hx
    have hx3 : ¬ n < (x.length : Int) := by have := of_decide_eq_true hx2; omega
    show datP (strchT ws (Str.ofString "$" ++ smallT (cramT x n) ++ Str.ofString "|")) (getsT ws n (smallT (cramT x n))) = datP (sameT ws (smallT x)) (sameT ws (smallT x))
    rw [gets_short hz hab hx1 hx3, cram_short hx3, strch_short hz hab hx1]
end Mine
end

section
open PySem PySem.W PySem.Calls PyProof.Rows Builtin Builtin.Str
set_option maxRecDepth 100000
set_option maxHeartbeats 8000000
namespace Mine
theorem joined_list : ∀ ts : List Str, (Str.join (Str.ofString "") ts).cps.toList = ts.flatMap fun t => t.cps.toList
  | [] => rfl
  | [p] => by
    show p.cps.toList = _
    simp
  | p :: q :: r => by
    have ih := joined_list (q :: r)
    show (p ++ Str.ofString "" ++ Str.join (Str.ofString "") (q :: r)).cps.toList = _
    rw [cat_list, cat_list, ih, show (Str.ofString "").cps.toList = [] from by decide +kernel]
    simp
theorem wordT_list (x : Int) : (wordT x).cps.toList = ((List.range (x.fmod 7 - 0).toNat).map (signT x)).flatMap fun t => t.cps.toList := by
  unfold wordT
  show (glued _ _).cps.toList = _
  rw [StrLaws.glued_eq_join, joined_list]
theorem wordT_ab (x : Int) : AB (wordT x) := by
  intro c hc
  rw [wordT_list] at hc
  obtain ⟨y, hy, hc⟩ := List.mem_flatMap.mp hc
  obtain ⟨t, _, rfl⟩ := List.mem_map.mp hy
  rcases signT_ab x t with h | h | h | h <;> rw [h] at hc <;> simp at hc <;> simp [hc]
theorem flat_ones : ∀ {ts : List Str}, (∀ t ∈ ts, t.cps.toList.length ≤ 1) → (ts.flatMap fun t => t.cps.toList).length ≤ ts.length
  | [], _ => Nat.le_refl _
  | t :: r, h => by
    have h1 := h t (.head _)
    have h2 := flat_ones (ts := r) fun y hy => h y (.tail _ hy)
    rw [List.flatMap_cons, List.length_append, List.length_cons]
    omega
theorem wordT_len (x : Int) : (wordT x).length ≤ 6 := by
  have h := flat_ones (ts := (List.range (x.fmod 7 - 0).toNat).map (signT x)) fun t ht => wordT_fits x t ht
  rw [← wordT_list, List.length_map, List.length_range] at h
  have b2 := fmod_hi x (n := 7) (by decide)
  have : (wordT x).length = (wordT x).cps.toList.length := rfl
  omega
def wordsT (ns : List Int) : List Str := (ns.take 3 ++ [6445, 16155, 65]).map wordT
theorem wordsT_ok (ns : List Int) : (wordsT ns).length ≤ 6 ∧ (∀ y ∈ wordsT ns, y.length ≤ 6) ∧ ∀ y ∈ wordsT ns, AB y := by
  refine ⟨?_, ?_, ?_⟩
  · unfold wordsT
    rw [List.length_map, List.length_append, List.length_take]
    show min 3 ns.length + 3 ≤ 6
    omega
  · intro y hy
    obtain ⟨x, _, rfl⟩ := List.mem_map.mp hy
    exact wordT_len x
  · intro y hy
    obtain ⟨x, _, rfl⟩ := List.mem_map.mp hy
    exact wordT_ab x
theorem gen_words {ns : List Int} {vs : List Value} (h : StrsAre vs ((ns.take 3 ++ [6445, 16155, 65]).map wordT)) : ∃ ws : List Str, StrsAre vs ws ∧ ws.length ≤ 6 ∧ (∀ y ∈ ws, y.length ≤ 6) ∧ ∀ y ∈ ws, AB y := ⟨_, h, wordsT_ok ns⟩
theorem datP_ok (xs ys : List Int) : kqdOk 8 (datP xs ys) = true := by
  simp [datP, kqdOk]
theorem dueT_ok (ws : List Str) (n : Int) : ∀ d ∈ dueT ws n, kqdOk 8 d = true := by
  intro d hd
  rcases List.mem_append.mp hd with h | h
  · obtain ⟨x, _, h⟩ := List.mem_flatMap.mp h
    obtain ⟨y, _, rfl⟩ := List.mem_map.mp h
    exact datP_ok _ _
  · obtain ⟨x, _, rfl⟩ := List.mem_map.mp h
    exact datP_ok _ _
section
variable {prog : Program} {w : World} {A : Around} {E : Value → Shared → Prop} {s : Shared} {h₀ : Heap} {L a b : Addr} {news n₁ n₂ : List (Addr × Obj)} {oa ob : Obj} {xs ys : List Value} {ka kb : Nat} {ds es : List Dat} {Q : Value → Shared → Prop}
theorem kqd_same (N : News h₀ L s.heap news) (ma : (a, oa) ∈ news) (ca : oa.cls = .type "list") (da : oa.data = .seq xs.toArray ka) (Da : DatAll n₁ xs ds) (sa : ∀ p ∈ n₁, p ∈ news)
    (mb : (b, ob) ∈ news) (cb : ob.cls = .type "list") (db : ob.data = .seq ys.toArray kb) (Db : DatAll n₂ ys es) (sb : ∀ p ∈ n₂, p ∈ news)
    (hb : ∀ d ∈ es, kqdOk 8 d = true) (hu : A.units + 64 < cLine) (he : ds = es) (h : Q (.bool true) s) : wpAny (model prog w) A (compareOp .Eq (.ref a) (.ref b)) Q E s := by
  subst he
  exact kqd_eq N ma ca da Da sa mb cb db Db sb hb hb hu (by simpa using h)
end
theorem n_lo (x : Int) : -1 ≤ x.fmod 8 - 1 := by have := fmod_lo x (n := 8) (by decide); omega
theorem n_hi (x : Int) : x.fmod 8 - 1 ≤ 6 := by have := fmod_hi x (n := 8) (by decide); omega

theorem hb.tw11736439499738134414 : True := trivial
theorem hb.tw18041838484286470196 : True := trivial
theorem hb.tw14377691790011189915 : True := trivial
theorem hb.tw17027279212090870658 : True := trivial
theorem hb.tw9277531192990288173 : True := trivial
theorem hb.tw7476725329292642211 : True := trivial
theorem hb.tw10588688868994485803 : True := trivial
theorem hb.tw733746230593735386 : True := trivial
theorem hb.tw4776676302184891762 : True := trivial
theorem hb.tw813005561958266324 : True := trivial
theorem hb.tw15020677436310350740 : True := trivial
theorem hb.tw15950964635350741575 : True := trivial
theorem hb.tw6270168563343185866 : True := trivial
theorem hb.tw12247133997840723858 : True := trivial
theorem hb.tw9853107525599957443 : True := trivial
theorem hb.tw395279855241679139 : True := trivial
theorem hb.tw12036959769805452467 : True := trivial
theorem hb.tw16876034682251604337 : True := trivial
theorem hb.tw7989344899416977203 : True := trivial
theorem hb.tw9492196421942872894 : True := trivial
theorem hb.tw4213592710618564990 : True := trivial
theorem hb.tw7165655124037361185 : True := trivial
theorem hb.tw13396555740467395459 : True := trivial
theorem hb.tw1061804816568030539 : True := trivial
theorem hb.tw7750985511161225763 : True := trivial
theorem hb.tw2117318311174557327 : True := trivial
theorem hb.tw1953193887295291701 : True := trivial
theorem hb.tw18126591774081225347 : True := trivial
theorem hb.tw257191045802855649 : True := trivial
theorem hb.tw13055721993888893389 : True := trivial
theorem hb.tw14429128815401612776 : True := trivial
theorem hb.tw15794035801879923058 : True := trivial
theorem hb.tw3596310159368233588 : True := trivial
theorem hb.tw1764046936415238752 : True := trivial
theorem hb.tw12859595656268880484 : True := trivial
theorem hb.tw7518917622082197968 : True := trivial
theorem hb.tw15053292906212913523 : True := trivial
theorem hb.tw11437227826938941163 : True := trivial
theorem hb.tw13021939590026079633 : True := trivial
theorem hb.tw8210065545846973840 : True := trivial
theorem hb.tw14548844343597667106 : True := trivial
theorem hb.tw4714421683372031940 : True := trivial
theorem hb.tw2364827548088245762 : True := trivial
theorem hb.tw4557557996891670492 : True := trivial
theorem hb.tw9308611731271392222 : True := trivial
theorem hb.tw8634912915504822206 : True := trivial
theorem hb.tw594151180072355751 : True := trivial
theorem hb.tw17338080371295814778 : True := trivial
theorem hb.tw15966873702431179196 : True := trivial
theorem hb.tw17766454856967944073 : True := trivial
theorem hb.tw13600243837029403880 : True := trivial
theorem hb.tw15988270275322916504 : True := trivial
theorem hb.tw314109454714529415 : True := trivial
theorem hb.tw7807243089222360685 : True := trivial
theorem hb.tw4283826151422668509 : True := trivial
theorem hb.tw12409392276915303034 : True := trivial
theorem hb.tw5656088667841571683 : True := trivial
theorem hb.tw12584282497105844537 : True := trivial
theorem hb.tw2736589860655273667 : True := trivial
theorem hb.tw13800916453504979604 : True := trivial
theorem hb.tw3172808767448516786 : True := trivial
theorem hb.tw9071998559812787062 : True := trivial
theorem hb.tw2579579338080313613 : True := trivial
theorem hb.tw2415923741208884685 : True := trivial
theorem hb.tw14334294271086993125 : True := trivial
theorem hb.tw6770585230008638311 : True := trivial
theorem hb.tw12352714701654814212 : True := trivial
theorem hb.tw11074177678875381807 : True := trivial
theorem hb.tw4571261493799106089 : True := trivial
theorem hb.tw6705303037209751935 : True := trivial
theorem hb.tw12193634082989948894 : True := trivial
theorem hb.tw5703611117537389245 : True := trivial
theorem hb.tw11874798087927893281 : True := trivial
theorem hb.tw16037203927959150586 : True := trivial
theorem hb.tw17798511577313639689 : True := trivial
theorem hb.tw15127546292003641783 : True := trivial
theorem hb.tw434048210857482056 : True := trivial
theorem hb.tw10707176788403187964 : True := trivial
theorem hb.tw5036697499643756803 : True := trivial
theorem hb.tw8191368824227358695 : True := trivial
theorem hb.tw14638282454901122294 : True := trivial
theorem hb.tw5823560056031328099 : True := trivial
theorem hb.tw7833287440070139181 : True := trivial
theorem hb.tw2518177052859396741 : True := trivial
theorem hb.tw17342715139612901070 : True := trivial
theorem hb.tw1969902509560939936 : True := trivial
theorem hb.tw2342820256122668077 : True := trivial
theorem hb.tw7004158230546725173 : True := trivial
theorem hb.tw15158391292017437360 : True := trivial
theorem hb.tw14455494589795703971 : True := trivial
theorem hb.tw9524203038259593035 : True := trivial
theorem hb.tw5772307357688650742 : True := trivial
theorem hb.tw778029599055335488 : True := trivial
theorem hb.tw17459771714574866378 : True := trivial
theorem hb.tw1320875279591589426 : True := trivial
theorem hb.tw7152493185866156092 : True := trivial
theorem hb.tw10550215701826639385 : True := trivial
theorem hb.tw107118357855415809 : True := trivial
theorem hb.tw15563389406800622239 : True := trivial
theorem hb.tw8009974653810194157 : True := trivial
theorem hb.tw16388133156848682550 : True := trivial
theorem hb.tw15847156832384438793 : True := trivial
theorem hb.tw17679952059673894982 : True := trivial
theorem hb.tw2063308627028352132 : True := trivial
theorem hb.tw10459145110338527519 : True := trivial
theorem hb.tw11420104337287848445 : True := trivial
theorem hb.tw6967807696196823526 : True := trivial
theorem hb.tw17083493160541337974 : True := trivial
theorem hb.tw11965991274246940047 : True := trivial
theorem hb.tw8406103777288083844 : True := trivial
theorem hb.tw16160803587742494193 : True := trivial
theorem hb.tw3846693404886183412 : True := trivial
theorem hb.tw1206633123000591898 : True := trivial
theorem hb.tw5626401839531089355 : True := trivial
theorem hb.tw11007535482932408678 : True := trivial
theorem hb.tw2901249563896261781 : True := trivial
theorem hb.tw10468828875650560321 : True := trivial
theorem hb.tw16642831131108523247 : True := trivial
theorem hb.tw12065333039681874867 : True := trivial
theorem hb.tw8619163984536612577 : True := trivial
theorem hb.tw15273409591516131528 : True := trivial
theorem hb.tw8155454457173933303 : True := trivial
theorem hb.tw6435029090268442702 : True := trivial
set_option Elab.async true in
theorem hb : PySem.Challenge.rw_pm0061_01.Holds := by
  k_with_none
  w_on
  o_law
  (o_head (kHook heap [2, 3, 32, 34, 35, 37, 38, 39, 41, 42, 44, 45, 46, 48, 49, 51, 52, 53, 54, 55, 57, 58, 60, 61, 62, 63, 64, 66, 67, 69, 70, 71, 72, 73, 75, 76, 78, 79, 83, 84, 88, 89, 93, 94, 95, 96, 98, 99, 101, 102, 110, 111, 113, 114, 116, 117, 118, 120, 121, 123, 124, 125, 127, 128, 130, 131, 132, 134, 135, 137, 138, 139, 142, 143, 144, 146, 147, 149, 150, 151, 153, 154, 156, 157, 158, 161, 162, 163, 164, 166, 167, 169, 170, 171, 174, 175, 176, 179, 180, 181, 183, 184, 186, 187, 188, 190, 191, 193, 194, 195, 198, 199, 200, 202, 203, 205, 206, 207, 209, 210, 212, 213, 214, 216, 217, 219, 220, 221, 222, 223, 224, 225, 228, 231, 232, 233, 235, 236, 238, 239, 240, 242, 243, 245, 246, 247, 249, 250, 252, 253, 254, 257, 258, 259, 262, 263, 264, 266, 267, 269, 270, 271, 274, 275, 276, 278, 279, 281, 282] (fun _ => by kernel_rfl)))
  (case hw => w_witness2)
  k_with_none
  k_with "call ref" => (k_here; (with_reducible show wpAny _ _ (call (Value.ref 232) [Value.ref _]) _ _ _); (refine stopI ?_))
  k_with "call ref" => (k_here; (with_reducible show wpAny _ _ (call (Value.ref 263) _) _ _ _); (refine stopI ?_))
  k_with "call ref" => (k_here; (with_reducible show wpAny _ _ (call (Value.ref 275) _) _ _ _); (refine stopI ?_))
  k_with "compareOp Eq ref ref" => (k_here; (refine stopI ?_))
  k_go0
  (all_goals try k_fold)
  k_steps
  unfold STOP
  (rename Below _ _ _ _ => BB); (rename Fr _ _ _ _ => FF); (rename News _ _ _ _ => NN); (rename Frag.In _ _ => XX); (rename Top _ _ _ _ _ _ => TT); (rename Heap.IsList _ _ _ => hL); (rename IntsAre _ _ => hI); (rename ¬ _ < _ => hc)
  refine' use_new (fun S9 up9 => words_E S9 ?k1 ?k2 ?ka hI ?k3 ?_) BB FF XX TT NN ?kf ?kk
  case kf => exact rfl
  case kk => exact rfl
  case k1 => decide
  case k2 => decide
  case ka => exact hL.imp fun _ h => ⟨FF.keep _ _ h.1, h.2⟩
  case k3 => omega
  intro W9 h9 tk9 vs9 n9 q1 q4 q5 e9
  obtain ⟨F9, N9, _⟩ := up9 _ [(W9, W.listOf vs9.toArray n9)] e9 (fun p hp => by rw [List.mem_singleton.mp hp]; exact ⟨q5, q4⟩)
  clear up9 S9 e9 q4 q5 FF NN
  simp only [List.cons_append, List.nil_append] at N9
  obtain ⟨ws, hv, hz, hw, hab⟩ := gen_words q1
  clear q1
  (try dsimp only); (try k_fold)
  k_steps
  unfold STOP
  (rename Fr _ _ _ _ => FF); (rename News _ _ _ _ => NN)
  refine' use_new (fun S9 up9 => told_E S9 ?k1 ?k2 ?ka hv hz hw hab (n_lo _) (n_hi _) ?_) BB FF XX TT NN ?kf ?kk
  case kf => exact rfl
  case kk => exact rfl
  case k1 => decide
  case k2 => decide
  case ka => exact News.isList NN (.head _)
  intro T9 h9 tk9 vt9 nt9 GT dT qT e9
  obtain ⟨F9, N9, _⟩ := up9 _ _ e9 qT
  clear up9 S9 e9 qT FF NN
  (try dsimp only); (try k_fold)
  k_steps
  unfold STOP
  (rename Fr _ _ _ _ => FF); (rename News _ _ _ _ => NN)
  refine' use_new (fun S9 up9 => due_E S9 ?k1 ?k2 ?ka hv hz hw hab (n_lo _) (n_hi _) ?_) BB FF XX TT NN ?kf ?kk
  case kf => exact rfl
  case kk => exact rfl
  case k1 => decide
  case k2 => decide
  case ka => exact News.isList NN (List.mem_append_right _ (.head _))
  intro D9 h9 tk9 vd9 nd9 GD dD qD e9
  obtain ⟨F9, N9, _⟩ := up9 _ _ e9 qD
  clear up9 S9 e9 qD FF NN
  (try dsimp only); (try k_fold)
  k_steps
  unfold STOP
  (rename Fr _ _ _ _ => FF); (rename News _ _ _ _ => NN)
  refine kqd_same (n₁ := GT) (n₂ := GD) NN (ma := List.mem_append_right _ (List.mem_append_left _ (.head _))) rfl rfl dT (fun p hp => List.mem_append_right _ (List.mem_append_left _ (.tail _ hp))) (mb := List.mem_append_left _ (.head _)) rfl rfl dD (fun p hp => List.mem_append_left _ (.tail _ hp)) (dueT_ok _ _) ?_ (plain hz hab) ?_
  · ke_room
  (try dsimp only); (try k_fold)
  k_steps
  (all_goals (try k_data))
  all_goals w_report
end Mine
end

theorem PySem.Challenge.cw_pm0061_01_holds : PySem.Challenge.rw_pm0061_01.Holds := by
  exact Mine.hb
