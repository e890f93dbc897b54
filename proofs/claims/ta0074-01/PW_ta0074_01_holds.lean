import PyProof.Rows.All
import Wide.All
import OpenK.AllK
import Wide.FinOn
import Lean
import PySem.Challenge.RW_ta0074_01
open PySem PySem.W PySem.Calls PyProof.Rows
set_option Elab.async false
set_option maxRecDepth 100000
set_option maxHeartbeats 8000000
namespace Mine
/-- a def of the top, a method of a class of the top: their parameters, body and names, read off the given program -/
noncomputable def fnAt (i : Nat) : Option (Arguments × List Stmt × PySem.Scope) := match PySem.Challenge.pw_ta0074_01.main.body[i]? with
  | some (.FunctionDef _ ps b _ _ _ sc _ _ _) => some (ps, b, sc)
  | _ => none
noncomputable def mtAt (i j : Nat) : Option (Arguments × List Stmt × PySem.Scope) := match PySem.Challenge.pw_ta0074_01.main.body[i]? with
  | some (.ClassDef _ _ _ body _ _ _ _ _ _ _) => (match body[j]? with
    | some (.FunctionDef _ ps b _ _ _ sc _ _ _) => some (ps, b, sc)
    | _ => none)
  | _ => none
noncomputable abbrev useFn {o : Option (Arguments × List Stmt × PySem.Scope)} {ps : Arguments} {b : List Stmt} {sc : PySem.Scope} (_ : o = some (ps, b, sc)) (k : Arguments → List Stmt → PySem.Scope → Obj) : Obj := k ps b sc
/-- the keyword that begins the names of the loader's statics, read off the model's own list of keywords -/
noncomputable def kwTag : PySem.Str := PySem.Str.ofString (PySem.Parse.hardKeywords.getD 21 "")
/-- the objects that the top leaves and the call may meet -/
noncomputable def KTop : Params → Frag := fun P =>
  (nat_lit 2, { cls := PySem.Value.none, data := PySem.Data.dict #[{ hash := PySem.PyData.keyHash P (kwTag ++ PySem.Str.ofString ".loaded._sre"), key := PySem.Value.str (kwTag ++ PySem.Str.ofString ".loaded._sre") 183, val := PySem.Value.bool Bool.true }, { hash := PySem.PyData.keyHash P (PySem.Str.ofString "class._frozen_importlib.BuiltinImporter"), key := PySem.Value.str (PySem.Str.ofString "class._frozen_importlib.BuiltinImporter") 185, val := PySem.Value.ref 14 }, { hash := PySem.PyData.keyHash P (PySem.Str.ofString "watched." ++ kwTag), key := PySem.Value.str (PySem.Str.ofString "watched." ++ kwTag) 206, val := PySem.Value.ref 18 }, { hash := PySem.PyData.keyHash P (PySem.Str.ofString "class._frozen_importlib.ModuleSpec"), key := PySem.Value.str (PySem.Str.ofString "class._frozen_importlib.ModuleSpec") 216, val := PySem.Value.ref 22 }, { hash := PySem.PyData.keyHash P (PySem.Str.ofString "sys.modules.booked-epoch"), key := PySem.Value.str (PySem.Str.ofString "sys.modules.booked-epoch") 245, val := PySem.Value.int 3 0 }, { hash := PySem.PyData.keyHash P (kwTag ++ PySem.Str.ofString ".later-laid._sre"), key := PySem.Value.str (kwTag ++ PySem.Str.ofString ".later-laid._sre") 270, val := PySem.Value.bool Bool.true }, { hash := PySem.PyData.keyHash P (PySem.Str.ofString "watched.library"), key := PySem.Value.str (PySem.Str.ofString "watched.library") 272, val := PySem.Value.ref 27 }, { hash := PySem.PyData.keyHash P (PySem.Str.ofString "watched.library-objects"), key := PySem.Value.str (PySem.Str.ofString "watched.library-objects") 0, val := PySem.Value.str (PySem.Str.ofString "\x0c") 0 }, { hash := PySem.PyData.keyHash P (PySem.Str.ofString "watched.library-deep._sre"), key := PySem.Value.str (PySem.Str.ofString "watched.library-deep._sre") 273, val := PySem.Value.str (PySem.Str.ofString "\x04\x00\x00\x0b\x04\x00\x00\x0b\x04\x00\x00\x03\x04\x00\x00\x0b\x08\x04dict\x02") 0 }] 9 }) ::
  (nat_lit 3, { cls := PySem.Value.type "dict", data := PySem.Data.dict #[{ hash := PySem.PyData.keyHash P (PySem.Str.ofString "__name__"), key := PySem.Value.str (PySem.Str.ofString "__name__") 165, val := PySem.Value.str (PySem.Str.ofString "law_ta0074_01") 700 }, { hash := PySem.PyData.keyHash P (PySem.Str.ofString "__doc__"), key := PySem.Value.str (PySem.Str.ofString "__doc__") 166, val := PySem.Value.none }, { hash := PySem.PyData.keyHash P (PySem.Str.ofString "__package__"), key := PySem.Value.str (PySem.Str.ofString "__package__") 167, val := PySem.Value.none }, { hash := PySem.PyData.keyHash P (PySem.Str.ofString "__loader__"), key := PySem.Value.str (PySem.Str.ofString "__loader__") 168, val := PySem.Value.builtin "__main__.__loader__#opaque" }, { hash := PySem.PyData.keyHash P (PySem.Str.ofString "__spec__"), key := PySem.Value.str (PySem.Str.ofString "__spec__") 169, val := PySem.Value.none }, { hash := PySem.PyData.keyHash P (PySem.Str.ofString "__annotations__"), key := PySem.Value.str (PySem.Str.ofString "__annotations__") 170, val := PySem.Value.ref 6 }, { hash := PySem.PyData.keyHash P (PySem.Str.ofString "__builtins__"), key := PySem.Value.str (PySem.Str.ofString "__builtins__") 171, val := PySem.Value.ref 4 }, { hash := PySem.PyData.keyHash P (PySem.Str.ofString "__file__"), key := PySem.Value.str (PySem.Str.ofString "__file__") 173, val := PySem.Value.str (PySem.Str.ofString "/claim/cut.py") 172 }, { hash := PySem.PyData.keyHash P (PySem.Str.ofString "__cached__"), key := PySem.Value.str (PySem.Str.ofString "__cached__") 174, val := PySem.Value.none }, { hash := PySem.PyData.keyHash P (PySem.Str.ofString "_sre"), key := PySem.Value.str (PySem.Str.ofString "_sre") 275, val := PySem.Value.ref 12 }, { hash := PySem.PyData.keyHash P (PySem.Str.ofString "_wall"), key := PySem.Value.str (PySem.Str.ofString "_wall") 288, val := PySem.Value.ref 38 }, { hash := PySem.PyData.keyHash P (PySem.Str.ofString "add"), key := PySem.Value.str (PySem.Str.ofString "add") 298, val := PySem.Value.ref 45 }, { hash := PySem.PyData.keyHash P (PySem.Str.ofString "and_"), key := PySem.Value.str (PySem.Str.ofString "and_") 306, val := PySem.Value.ref 52 }, { hash := PySem.PyData.keyHash P (PySem.Str.ofString "lshift"), key := PySem.Value.str (PySem.Str.ofString "lshift") 314, val := PySem.Value.ref 59 }, { hash := PySem.PyData.keyHash P (PySem.Str.ofString "mul"), key := PySem.Value.str (PySem.Str.ofString "mul") 322, val := PySem.Value.ref 66 }, { hash := PySem.PyData.keyHash P (PySem.Str.ofString "sub"), key := PySem.Value.str (PySem.Str.ofString "sub") 330, val := PySem.Value.ref 73 }, { hash := PySem.PyData.keyHash P (PySem.Str.ofString "concat"), key := PySem.Value.str (PySem.Str.ofString "concat") 339, val := PySem.Value.ref 80 }, { hash := PySem.PyData.keyHash P (PySem.Str.ofString "countOf"), key := PySem.Value.str (PySem.Str.ofString "countOf") 349, val := PySem.Value.ref 87 }, { hash := PySem.PyData.keyHash P (PySem.Str.ofString "ipow"), key := PySem.Value.str (PySem.Str.ofString "ipow") 357, val := PySem.Value.ref 94 }, { hash := PySem.PyData.keyHash P (PySem.Str.ofString "COMPILER_FLAG_NAMES"), key := PySem.Value.str (PySem.Str.ofString "COMPILER_FLAG_NAMES") 390, val := PySem.Value.ref 95 }, { hash := PySem.PyData.keyHash P (PySem.Str.ofString "pretty_flags"), key := PySem.Value.str (PySem.Str.ofString "pretty_flags") 400, val := PySem.Value.ref 102 }, { hash := PySem.PyData.keyHash P (PySem.Str.ofString "_MAX_STRING_SIZE"), key := PySem.Value.str (PySem.Str.ofString "_MAX_STRING_SIZE") 404, val := PySem.Value.int 40 403 }, { hash := PySem.PyData.keyHash P (PySem.Str.ofString "_MOVE_COST"), key := PySem.Value.str (PySem.Str.ofString "_MOVE_COST") 406, val := PySem.Value.int 2 405 }, { hash := PySem.PyData.keyHash P (PySem.Str.ofString "_CASE_COST"), key := PySem.Value.str (PySem.Str.ofString "_CASE_COST") 408, val := PySem.Value.int 1 407 }, { hash := PySem.PyData.keyHash P (PySem.Str.ofString "_substitution_cost"), key := PySem.Value.str (PySem.Str.ofString "_substitution_cost") 416, val := PySem.Value.ref 109 }, { hash := PySem.PyData.keyHash P (PySem.Str.ofString "_levenshtein_distance"), key := PySem.Value.str (PySem.Str.ofString "_levenshtein_distance") 436, val := PySem.Value.ref 116 }, { hash := PySem.PyData.keyHash P (PySem.Str.ofString "tspecials"), key := PySem.Value.str (PySem.Str.ofString "tspecials") 472, val := PySem.Value.ref 121 }, { hash := PySem.PyData.keyHash P (PySem.Str.ofString "_name_disallowed_re"), key := PySem.Value.str (PySem.Str.ofString "_name_disallowed_re") 498, val := PySem.Value.ref 126 }, { hash := PySem.PyData.keyHash P (PySem.Str.ofString "_value_disallowed_re"), key := PySem.Value.str (PySem.Str.ofString "_value_disallowed_re") 532, val := PySem.Value.ref 131 }, { hash := PySem.PyData.keyHash P (PySem.Str.ofString "_formatparam"), key := PySem.Value.str (PySem.Str.ofString "_formatparam") 542, val := PySem.Value.ref 139 }, { hash := PySem.PyData.keyHash P (PySem.Str.ofString "Headers"), key := PySem.Value.str (PySem.Str.ofString "Headers") 699, val := PySem.Value.ref 260 }, { hash := PySem.PyData.keyHash P (PySem.Str.ofString "_law_words"), key := PySem.Value.str (PySem.Str.ofString "_law_words") 707, val := PySem.Value.ref 269 }, { hash := PySem.PyData.keyHash P (PySem.Str.ofString "_law_spelled"), key := PySem.Value.str (PySem.Str.ofString "_law_spelled") 713, val := PySem.Value.ref 274 }, { hash := PySem.PyData.keyHash P (PySem.Str.ofString "_law_flag"), key := PySem.Value.str (PySem.Str.ofString "_law_flag") 721, val := PySem.Value.ref 281 }, { hash := PySem.PyData.keyHash P (PySem.Str.ofString "_law_due"), key := PySem.Value.str (PySem.Str.ofString "_law_due") 727, val := PySem.Value.ref 286 }, { hash := PySem.PyData.keyHash P (PySem.Str.ofString "_law_by_distances"), key := PySem.Value.str (PySem.Str.ofString "_law_by_distances") 733, val := PySem.Value.ref 291 }, { hash := PySem.PyData.keyHash P (PySem.Str.ofString "_law_by_columns"), key := PySem.Value.str (PySem.Str.ofString "_law_by_columns") 749, val := PySem.Value.ref 298 }, { hash := PySem.PyData.keyHash P (PySem.Str.ofString "law"), key := PySem.Value.str (PySem.Str.ofString "law") 755, val := PySem.Value.ref 303 }] 38 }) ::
  (nat_lit 32, { cls := PySem.Value.type "tuple", data := PySem.Data.seq #[] }) ::
  (nat_lit 34, { cls := PySem.Value.type "tuple", data := PySem.Data.seq #[PySem.Value.str (PySem.Str.ofString "k") 285] }) ::
  (nat_lit 35, { cls := PySem.Value.type "tuple", data := PySem.Data.seq #[] }) ::
  (nat_lit 37, { cls := PySem.Value.type "code", data := PySem.Data.fields #[PySem.Value.str (PySem.Str.ofString "_wall") 282, PySem.Value.str (PySem.Str.ofString "_wall") 283, PySem.Value.str (PySem.Str.ofString "/claim/cut.py") 284, PySem.Value.int 2 0, PySem.Value.int 1 0, PySem.Value.int 0 0, PySem.Value.int 0 0, PySem.Value.int 3 0, PySem.Value.ref 32, PySem.Value.bool Bool.true, PySem.Value.int 276 0, PySem.Value.ref 33, PySem.Value.none, PySem.Value.ref 34, PySem.Value.ref 35, PySem.Value.ref 36, PySem.Value.int 286 0, PySem.Value.int 2 0, PySem.Value.str (PySem.Str.ofString "/claim/cut.py") 287] }) ::
  (nat_lit 38, useFn (o := (fnAt 1)) rfl fun ps b sc => { cls := PySem.Value.type "function", data := PySem.Data.func { name := PySem.Str.ofString "_wall", qualname := PySem.Str.ofString "_wall", params := ps, body := PySem.FuncBody.stmts b, scope := sc, globals := 3, closure := [], defaults := PySem.Value.none, kwdefaults := PySem.Value.none, pyModule := PySem.Value.str (PySem.Str.ofString "__main__") 164, code := PySem.Value.ref 37 } }) ::
  (nat_lit 39, { cls := PySem.Value.type "tuple", data := PySem.Data.seq #[] }) ::
  (nat_lit 41, { cls := PySem.Value.type "tuple", data := PySem.Data.seq #[PySem.Value.str (PySem.Str.ofString "a") 294, PySem.Value.str (PySem.Str.ofString "b") 295] }) ::
  (nat_lit 42, { cls := PySem.Value.type "tuple", data := PySem.Data.seq #[] }) ::
  (nat_lit 44, { cls := PySem.Value.type "code", data := PySem.Data.fields #[PySem.Value.str (PySem.Str.ofString "add") 291, PySem.Value.str (PySem.Str.ofString "add") 292, PySem.Value.str (PySem.Str.ofString "/claim/cut.py") 293, PySem.Value.int 6 0, PySem.Value.int 2 0, PySem.Value.int 0 0, PySem.Value.int 0 0, PySem.Value.int 3 0, PySem.Value.ref 39, PySem.Value.bool Bool.true, PySem.Value.int 276 0, PySem.Value.ref 40, PySem.Value.none, PySem.Value.ref 41, PySem.Value.ref 42, PySem.Value.ref 43, PySem.Value.int 296 0, PySem.Value.int 6 0, PySem.Value.str (PySem.Str.ofString "/claim/cut.py") 297] }) ::
  (nat_lit 45, useFn (o := (fnAt 3)) rfl fun ps b sc => { cls := PySem.Value.type "function", data := PySem.Data.func { name := PySem.Str.ofString "add", qualname := PySem.Str.ofString "add", params := ps, body := PySem.FuncBody.stmts b, scope := sc, globals := 3, closure := [], defaults := PySem.Value.none, kwdefaults := PySem.Value.none, pyModule := PySem.Value.str (PySem.Str.ofString "cpy313.operator") 289, code := PySem.Value.ref 44 } }) ::
  (nat_lit 46, { cls := PySem.Value.type "tuple", data := PySem.Data.seq #[] }) ::
  (nat_lit 48, { cls := PySem.Value.type "tuple", data := PySem.Data.seq #[PySem.Value.str (PySem.Str.ofString "a") 302, PySem.Value.str (PySem.Str.ofString "b") 303] }) ::
  (nat_lit 49, { cls := PySem.Value.type "tuple", data := PySem.Data.seq #[] }) ::
  (nat_lit 51, { cls := PySem.Value.type "code", data := PySem.Data.fields #[PySem.Value.str (PySem.Str.ofString "and_") 299, PySem.Value.str (PySem.Str.ofString "and_") 300, PySem.Value.str (PySem.Str.ofString "/claim/cut.py") 301, PySem.Value.int 8 0, PySem.Value.int 2 0, PySem.Value.int 0 0, PySem.Value.int 0 0, PySem.Value.int 3 0, PySem.Value.ref 46, PySem.Value.bool Bool.true, PySem.Value.int 276 0, PySem.Value.ref 47, PySem.Value.none, PySem.Value.ref 48, PySem.Value.ref 49, PySem.Value.ref 50, PySem.Value.int 304 0, PySem.Value.int 8 0, PySem.Value.str (PySem.Str.ofString "/claim/cut.py") 305] }) ::
  (nat_lit 52, useFn (o := (fnAt 4)) rfl fun ps b sc => { cls := PySem.Value.type "function", data := PySem.Data.func { name := PySem.Str.ofString "and_", qualname := PySem.Str.ofString "and_", params := ps, body := PySem.FuncBody.stmts b, scope := sc, globals := 3, closure := [], defaults := PySem.Value.none, kwdefaults := PySem.Value.none, pyModule := PySem.Value.str (PySem.Str.ofString "cpy313.operator") 289, code := PySem.Value.ref 51 } }) ::
  (nat_lit 53, { cls := PySem.Value.type "tuple", data := PySem.Data.seq #[] }) ::
  (nat_lit 55, { cls := PySem.Value.type "tuple", data := PySem.Data.seq #[PySem.Value.str (PySem.Str.ofString "a") 310, PySem.Value.str (PySem.Str.ofString "b") 311] }) ::
  (nat_lit 56, { cls := PySem.Value.type "tuple", data := PySem.Data.seq #[] }) ::
  (nat_lit 58, { cls := PySem.Value.type "code", data := PySem.Data.fields #[PySem.Value.str (PySem.Str.ofString "lshift") 307, PySem.Value.str (PySem.Str.ofString "lshift") 308, PySem.Value.str (PySem.Str.ofString "/claim/cut.py") 309, PySem.Value.int 10 0, PySem.Value.int 2 0, PySem.Value.int 0 0, PySem.Value.int 0 0, PySem.Value.int 3 0, PySem.Value.ref 53, PySem.Value.bool Bool.true, PySem.Value.int 276 0, PySem.Value.ref 54, PySem.Value.none, PySem.Value.ref 55, PySem.Value.ref 56, PySem.Value.ref 57, PySem.Value.int 312 0, PySem.Value.int 10 0, PySem.Value.str (PySem.Str.ofString "/claim/cut.py") 313] }) ::
  (nat_lit 59, useFn (o := (fnAt 5)) rfl fun ps b sc => { cls := PySem.Value.type "function", data := PySem.Data.func { name := PySem.Str.ofString "lshift", qualname := PySem.Str.ofString "lshift", params := ps, body := PySem.FuncBody.stmts b, scope := sc, globals := 3, closure := [], defaults := PySem.Value.none, kwdefaults := PySem.Value.none, pyModule := PySem.Value.str (PySem.Str.ofString "cpy313.operator") 289, code := PySem.Value.ref 58 } }) ::
  (nat_lit 60, { cls := PySem.Value.type "tuple", data := PySem.Data.seq #[] }) ::
  (nat_lit 62, { cls := PySem.Value.type "tuple", data := PySem.Data.seq #[PySem.Value.str (PySem.Str.ofString "a") 318, PySem.Value.str (PySem.Str.ofString "b") 319] }) ::
  (nat_lit 63, { cls := PySem.Value.type "tuple", data := PySem.Data.seq #[] }) ::
  (nat_lit 65, { cls := PySem.Value.type "code", data := PySem.Data.fields #[PySem.Value.str (PySem.Str.ofString "mul") 315, PySem.Value.str (PySem.Str.ofString "mul") 316, PySem.Value.str (PySem.Str.ofString "/claim/cut.py") 317, PySem.Value.int 12 0, PySem.Value.int 2 0, PySem.Value.int 0 0, PySem.Value.int 0 0, PySem.Value.int 3 0, PySem.Value.ref 60, PySem.Value.bool Bool.true, PySem.Value.int 276 0, PySem.Value.ref 61, PySem.Value.none, PySem.Value.ref 62, PySem.Value.ref 63, PySem.Value.ref 64, PySem.Value.int 320 0, PySem.Value.int 12 0, PySem.Value.str (PySem.Str.ofString "/claim/cut.py") 321] }) ::
  (nat_lit 66, useFn (o := (fnAt 6)) rfl fun ps b sc => { cls := PySem.Value.type "function", data := PySem.Data.func { name := PySem.Str.ofString "mul", qualname := PySem.Str.ofString "mul", params := ps, body := PySem.FuncBody.stmts b, scope := sc, globals := 3, closure := [], defaults := PySem.Value.none, kwdefaults := PySem.Value.none, pyModule := PySem.Value.str (PySem.Str.ofString "cpy313.operator") 289, code := PySem.Value.ref 65 } }) ::
  (nat_lit 67, { cls := PySem.Value.type "tuple", data := PySem.Data.seq #[] }) ::
  (nat_lit 69, { cls := PySem.Value.type "tuple", data := PySem.Data.seq #[PySem.Value.str (PySem.Str.ofString "a") 326, PySem.Value.str (PySem.Str.ofString "b") 327] }) ::
  (nat_lit 70, { cls := PySem.Value.type "tuple", data := PySem.Data.seq #[] }) ::
  (nat_lit 72, { cls := PySem.Value.type "code", data := PySem.Data.fields #[PySem.Value.str (PySem.Str.ofString "sub") 323, PySem.Value.str (PySem.Str.ofString "sub") 324, PySem.Value.str (PySem.Str.ofString "/claim/cut.py") 325, PySem.Value.int 14 0, PySem.Value.int 2 0, PySem.Value.int 0 0, PySem.Value.int 0 0, PySem.Value.int 3 0, PySem.Value.ref 67, PySem.Value.bool Bool.true, PySem.Value.int 276 0, PySem.Value.ref 68, PySem.Value.none, PySem.Value.ref 69, PySem.Value.ref 70, PySem.Value.ref 71, PySem.Value.int 328 0, PySem.Value.int 14 0, PySem.Value.str (PySem.Str.ofString "/claim/cut.py") 329] }) ::
  (nat_lit 73, useFn (o := (fnAt 7)) rfl fun ps b sc => { cls := PySem.Value.type "function", data := PySem.Data.func { name := PySem.Str.ofString "sub", qualname := PySem.Str.ofString "sub", params := ps, body := PySem.FuncBody.stmts b, scope := sc, globals := 3, closure := [], defaults := PySem.Value.none, kwdefaults := PySem.Value.none, pyModule := PySem.Value.str (PySem.Str.ofString "cpy313.operator") 289, code := PySem.Value.ref 72 } }) ::
  (nat_lit 74, { cls := PySem.Value.type "tuple", data := PySem.Data.seq #[] }) ::
  (nat_lit 76, { cls := PySem.Value.type "tuple", data := PySem.Data.seq #[PySem.Value.str (PySem.Str.ofString "a") 334, PySem.Value.str (PySem.Str.ofString "b") 335, PySem.Value.str (PySem.Str.ofString "msg") 336] }) ::
  (nat_lit 77, { cls := PySem.Value.type "tuple", data := PySem.Data.seq #[] }) ::
  (nat_lit 79, { cls := PySem.Value.type "code", data := PySem.Data.fields #[PySem.Value.str (PySem.Str.ofString "concat") 331, PySem.Value.str (PySem.Str.ofString "concat") 332, PySem.Value.str (PySem.Str.ofString "/claim/cut.py") 333, PySem.Value.int 16 0, PySem.Value.int 2 0, PySem.Value.int 0 0, PySem.Value.int 0 0, PySem.Value.int 3 0, PySem.Value.ref 74, PySem.Value.bool Bool.true, PySem.Value.int 276 0, PySem.Value.ref 75, PySem.Value.none, PySem.Value.ref 76, PySem.Value.ref 77, PySem.Value.ref 78, PySem.Value.int 337 0, PySem.Value.int 16 0, PySem.Value.str (PySem.Str.ofString "/claim/cut.py") 338] }) ::
  (nat_lit 80, useFn (o := (fnAt 8)) rfl fun ps b sc => { cls := PySem.Value.type "function", data := PySem.Data.func { name := PySem.Str.ofString "concat", qualname := PySem.Str.ofString "concat", params := ps, body := PySem.FuncBody.stmts b, scope := sc, globals := 3, closure := [], defaults := PySem.Value.none, kwdefaults := PySem.Value.none, pyModule := PySem.Value.str (PySem.Str.ofString "cpy313.operator") 289, code := PySem.Value.ref 79 } }) ::
  (nat_lit 81, { cls := PySem.Value.type "tuple", data := PySem.Data.seq #[] }) ::
  (nat_lit 83, { cls := PySem.Value.type "tuple", data := PySem.Data.seq #[PySem.Value.str (PySem.Str.ofString "a") 343, PySem.Value.str (PySem.Str.ofString "b") 344, PySem.Value.str (PySem.Str.ofString "count") 345, PySem.Value.str (PySem.Str.ofString "i") 346] }) ::
  (nat_lit 84, { cls := PySem.Value.type "tuple", data := PySem.Data.seq #[] }) ::
  (nat_lit 86, { cls := PySem.Value.type "code", data := PySem.Data.fields #[PySem.Value.str (PySem.Str.ofString "countOf") 340, PySem.Value.str (PySem.Str.ofString "countOf") 341, PySem.Value.str (PySem.Str.ofString "/claim/cut.py") 342, PySem.Value.int 21 0, PySem.Value.int 2 0, PySem.Value.int 0 0, PySem.Value.int 0 0, PySem.Value.int 3 0, PySem.Value.ref 81, PySem.Value.bool Bool.true, PySem.Value.int 276 0, PySem.Value.ref 82, PySem.Value.none, PySem.Value.ref 83, PySem.Value.ref 84, PySem.Value.ref 85, PySem.Value.int 347 0, PySem.Value.int 21 0, PySem.Value.str (PySem.Str.ofString "/claim/cut.py") 348] }) ::
  (nat_lit 87, useFn (o := (fnAt 9)) rfl fun ps b sc => { cls := PySem.Value.type "function", data := PySem.Data.func { name := PySem.Str.ofString "countOf", qualname := PySem.Str.ofString "countOf", params := ps, body := PySem.FuncBody.stmts b, scope := sc, globals := 3, closure := [], defaults := PySem.Value.none, kwdefaults := PySem.Value.none, pyModule := PySem.Value.str (PySem.Str.ofString "cpy313.operator") 289, code := PySem.Value.ref 86 } }) ::
  (nat_lit 88, { cls := PySem.Value.type "tuple", data := PySem.Data.seq #[] }) ::
  (nat_lit 90, { cls := PySem.Value.type "tuple", data := PySem.Data.seq #[PySem.Value.str (PySem.Str.ofString "a") 353, PySem.Value.str (PySem.Str.ofString "b") 354] }) ::
  (nat_lit 91, { cls := PySem.Value.type "tuple", data := PySem.Data.seq #[] }) ::
  (nat_lit 93, { cls := PySem.Value.type "code", data := PySem.Data.fields #[PySem.Value.str (PySem.Str.ofString "ipow") 350, PySem.Value.str (PySem.Str.ofString "ipow") 351, PySem.Value.str (PySem.Str.ofString "/claim/cut.py") 352, PySem.Value.int 27 0, PySem.Value.int 2 0, PySem.Value.int 0 0, PySem.Value.int 0 0, PySem.Value.int 3 0, PySem.Value.ref 88, PySem.Value.bool Bool.true, PySem.Value.int 276 0, PySem.Value.ref 89, PySem.Value.none, PySem.Value.ref 90, PySem.Value.ref 91, PySem.Value.ref 92, PySem.Value.int 355 0, PySem.Value.int 27 0, PySem.Value.str (PySem.Str.ofString "/claim/cut.py") 356] }) ::
  (nat_lit 94, useFn (o := (fnAt 10)) rfl fun ps b sc => { cls := PySem.Value.type "function", data := PySem.Data.func { name := PySem.Str.ofString "ipow", qualname := PySem.Str.ofString "ipow", params := ps, body := PySem.FuncBody.stmts b, scope := sc, globals := 3, closure := [], defaults := PySem.Value.none, kwdefaults := PySem.Value.none, pyModule := PySem.Value.str (PySem.Str.ofString "cpy313.operator") 289, code := PySem.Value.ref 93 } }) ::
  (nat_lit 95, { cls := PySem.Value.type "dict", data := PySem.Data.dict #[{ hash := 1, key := PySem.Value.int 1 360, val := PySem.Value.str (PySem.Str.ofString "OPTIMIZED") 361 }, { hash := 2, key := PySem.Value.int 2 362, val := PySem.Value.str (PySem.Str.ofString "NEWLOCALS") 363 }, { hash := 4, key := PySem.Value.int 4 364, val := PySem.Value.str (PySem.Str.ofString "VARARGS") 365 }, { hash := 8, key := PySem.Value.int 8 366, val := PySem.Value.str (PySem.Str.ofString "VARKEYWORDS") 367 }, { hash := 16, key := PySem.Value.int 16 368, val := PySem.Value.str (PySem.Str.ofString "NESTED") 369 }, { hash := 32, key := PySem.Value.int 32 370, val := PySem.Value.str (PySem.Str.ofString "GENERATOR") 371 }, { hash := 64, key := PySem.Value.int 64 372, val := PySem.Value.str (PySem.Str.ofString "NOFREE") 373 }, { hash := 128, key := PySem.Value.int 128 374, val := PySem.Value.str (PySem.Str.ofString "COROUTINE") 375 }, { hash := 256, key := PySem.Value.int 256 376, val := PySem.Value.str (PySem.Str.ofString "ITERABLE_COROUTINE") 377 }, { hash := 512, key := PySem.Value.int 512 378, val := PySem.Value.str (PySem.Str.ofString "ASYNC_GENERATOR") 379 }] 10 }) ::
  (nat_lit 96, { cls := PySem.Value.type "tuple", data := PySem.Data.seq #[] }) ::
  (nat_lit 98, { cls := PySem.Value.type "tuple", data := PySem.Data.seq #[PySem.Value.str (PySem.Str.ofString "flags") 394, PySem.Value.str (PySem.Str.ofString "names") 395, PySem.Value.str (PySem.Str.ofString "i") 396, PySem.Value.str (PySem.Str.ofString "flag") 397] }) ::
  (nat_lit 99, { cls := PySem.Value.type "tuple", data := PySem.Data.seq #[] }) ::
  (nat_lit 101, { cls := PySem.Value.type "code", data := PySem.Data.fields #[PySem.Value.str (PySem.Str.ofString "pretty_flags") 391, PySem.Value.str (PySem.Str.ofString "pretty_flags") 392, PySem.Value.str (PySem.Str.ofString "/claim/cut.py") 393, PySem.Value.int 32 0, PySem.Value.int 1 0, PySem.Value.int 0 0, PySem.Value.int 0 0, PySem.Value.int 3 0, PySem.Value.ref 96, PySem.Value.bool Bool.true, PySem.Value.int 276 0, PySem.Value.ref 97, PySem.Value.none, PySem.Value.ref 98, PySem.Value.ref 99, PySem.Value.ref 100, PySem.Value.int 398 0, PySem.Value.int 32 0, PySem.Value.str (PySem.Str.ofString "/claim/cut.py") 399] }) ::
  (nat_lit 102, useFn (o := (fnAt 13)) rfl fun ps b sc => { cls := PySem.Value.type "function", data := PySem.Data.func { name := PySem.Str.ofString "pretty_flags", qualname := PySem.Str.ofString "pretty_flags", params := ps, body := PySem.FuncBody.stmts b, scope := sc, globals := 3, closure := [], defaults := PySem.Value.none, kwdefaults := PySem.Value.none, pyModule := PySem.Value.str (PySem.Str.ofString "cpy313.dis") 358, code := PySem.Value.ref 101 } }) ::
  (nat_lit 103, { cls := PySem.Value.type "tuple", data := PySem.Data.seq #[] }) ::
  (nat_lit 105, { cls := PySem.Value.type "tuple", data := PySem.Data.seq #[PySem.Value.str (PySem.Str.ofString "ch_a") 412, PySem.Value.str (PySem.Str.ofString "ch_b") 413] }) ::
  (nat_lit 106, { cls := PySem.Value.type "tuple", data := PySem.Data.seq #[] }) ::
  (nat_lit 108, { cls := PySem.Value.type "code", data := PySem.Data.fields #[PySem.Value.str (PySem.Str.ofString "_substitution_cost") 409, PySem.Value.str (PySem.Str.ofString "_substitution_cost") 410, PySem.Value.str (PySem.Str.ofString "/claim/cut.py") 411, PySem.Value.int 48 0, PySem.Value.int 2 0, PySem.Value.int 0 0, PySem.Value.int 0 0, PySem.Value.int 3 0, PySem.Value.ref 103, PySem.Value.bool Bool.true, PySem.Value.int 276 0, PySem.Value.ref 104, PySem.Value.none, PySem.Value.ref 105, PySem.Value.ref 106, PySem.Value.ref 107, PySem.Value.int 414 0, PySem.Value.int 48 0, PySem.Value.str (PySem.Str.ofString "/claim/cut.py") 415] }) ::
  (nat_lit 109, useFn (o := (fnAt 18)) rfl fun ps b sc => { cls := PySem.Value.type "function", data := PySem.Data.func { name := PySem.Str.ofString "_substitution_cost", qualname := PySem.Str.ofString "_substitution_cost", params := ps, body := PySem.FuncBody.stmts b, scope := sc, globals := 3, closure := [], defaults := PySem.Value.none, kwdefaults := PySem.Value.none, pyModule := PySem.Value.str (PySem.Str.ofString "cpy313.traceback") 401, code := PySem.Value.ref 108 } }) ::
  (nat_lit 110, { cls := PySem.Value.type "tuple", data := PySem.Data.seq #[] }) ::
  (nat_lit 112, { cls := PySem.Value.type "tuple", data := PySem.Data.seq #[PySem.Value.str (PySem.Str.ofString "a") 420, PySem.Value.str (PySem.Str.ofString "b") 421, PySem.Value.str (PySem.Str.ofString "max_cost") 422, PySem.Value.str (PySem.Str.ofString "pre") 423, PySem.Value.str (PySem.Str.ofString "post") 424, PySem.Value.str (PySem.Str.ofString "row") 425, PySem.Value.str (PySem.Str.ofString "result") 426, PySem.Value.str (PySem.Str.ofString "bindex") 427, PySem.Value.str (PySem.Str.ofString "bchar") 428, PySem.Value.str (PySem.Str.ofString "distance") 429, PySem.Value.str (PySem.Str.ofString "minimum") 430, PySem.Value.str (PySem.Str.ofString "index") 431, PySem.Value.str (PySem.Str.ofString "substitute") 432, PySem.Value.str (PySem.Str.ofString "insert_delete") 433] }) ::
  (nat_lit 113, { cls := PySem.Value.type "tuple", data := PySem.Data.seq #[] }) ::
  (nat_lit 115, { cls := PySem.Value.type "code", data := PySem.Data.fields #[PySem.Value.str (PySem.Str.ofString "_levenshtein_distance") 417, PySem.Value.str (PySem.Str.ofString "_levenshtein_distance") 418, PySem.Value.str (PySem.Str.ofString "/claim/cut.py") 419, PySem.Value.int 54 0, PySem.Value.int 3 0, PySem.Value.int 0 0, PySem.Value.int 0 0, PySem.Value.int 3 0, PySem.Value.ref 110, PySem.Value.bool Bool.true, PySem.Value.int 276 0, PySem.Value.ref 111, PySem.Value.none, PySem.Value.ref 112, PySem.Value.ref 113, PySem.Value.ref 114, PySem.Value.int 434 0, PySem.Value.int 54 0, PySem.Value.str (PySem.Str.ofString "/claim/cut.py") 435] }) ::
  (nat_lit 116, useFn (o := (fnAt 19)) rfl fun ps b sc => { cls := PySem.Value.type "function", data := PySem.Data.func { name := PySem.Str.ofString "_levenshtein_distance", qualname := PySem.Str.ofString "_levenshtein_distance", params := ps, body := PySem.FuncBody.stmts b, scope := sc, globals := 3, closure := [], defaults := PySem.Value.none, kwdefaults := PySem.Value.none, pyModule := PySem.Value.str (PySem.Str.ofString "cpy313.traceback") 401, code := PySem.Value.ref 115 } }) ::
  (nat_lit 120, { cls := PySem.Value.type "tuple", data := PySem.Data.seq #[PySem.Value.int 14 0, PySem.Value.int 14 0, PySem.Value.int 4 0, PySem.Value.int 1 0, PySem.Value.int 1 0, PySem.Value.int 9 0, PySem.Value.int 0 0, PySem.Value.int 4227896069 0, PySem.Value.int 939524097 0, PySem.Value.int 0 0, PySem.Value.int 0 0, PySem.Value.int 0 0, PySem.Value.int 0 0, PySem.Value.int 0 0, PySem.Value.int 0 0, PySem.Value.int 13 0, PySem.Value.int 11 0, PySem.Value.int 9 0, PySem.Value.int 0 0, PySem.Value.int 4227896069 0, PySem.Value.int 939524097 0, PySem.Value.int 0 0, PySem.Value.int 0 0, PySem.Value.int 0 0, PySem.Value.int 0 0, PySem.Value.int 0 0, PySem.Value.int 0 0, PySem.Value.int 1 0] }) ::
  (nat_lit 121, { cls := PySem.Value.type "re.Pattern", data := PySem.Data.fields #[PySem.Value.str (PySem.Str.ofString "[ \\(\\)<>@,;:\\\\\"/\\[\\]\\?=]") 440, PySem.Value.int 32 471, PySem.Value.int 0 0, PySem.Value.none, PySem.Value.none, PySem.Value.ref 120, PySem.Value.int 0 0] }) ::
  (nat_lit 125, { cls := PySem.Value.type "tuple", data := PySem.Data.seq #[PySem.Value.int 14 0, PySem.Value.int 10 0, PySem.Value.int 4 0, PySem.Value.int 1 0, PySem.Value.int 1 0, PySem.Value.int 22 0, PySem.Value.int 0 0, PySem.Value.int 31 0, PySem.Value.int 16 0, PySem.Value.int 127 0, PySem.Value.int 0 0, PySem.Value.int 13 0, PySem.Value.int 7 0, PySem.Value.int 22 0, PySem.Value.int 0 0, PySem.Value.int 31 0, PySem.Value.int 16 0, PySem.Value.int 127 0, PySem.Value.int 0 0, PySem.Value.int 1 0] }) ::
  (nat_lit 126, { cls := PySem.Value.type "re.Pattern", data := PySem.Data.fields #[PySem.Value.str (PySem.Str.ofString "[\\x00-\\x1F\\x7F]") 474, PySem.Value.int 32 497, PySem.Value.int 0 0, PySem.Value.none, PySem.Value.none, PySem.Value.ref 125, PySem.Value.int 0 0] }) ::
  (nat_lit 130, { cls := PySem.Value.type "tuple", data := PySem.Data.seq #[PySem.Value.int 14 0, PySem.Value.int 14 0, PySem.Value.int 4 0, PySem.Value.int 1 0, PySem.Value.int 1 0, PySem.Value.int 9 0, PySem.Value.int 4294966783 0, PySem.Value.int 0 0, PySem.Value.int 0 0, PySem.Value.int 2147483648 0, PySem.Value.int 0 0, PySem.Value.int 0 0, PySem.Value.int 0 0, PySem.Value.int 0 0, PySem.Value.int 0 0, PySem.Value.int 13 0, PySem.Value.int 11 0, PySem.Value.int 9 0, PySem.Value.int 4294966783 0, PySem.Value.int 0 0, PySem.Value.int 0 0, PySem.Value.int 2147483648 0, PySem.Value.int 0 0, PySem.Value.int 0 0, PySem.Value.int 0 0, PySem.Value.int 0 0, PySem.Value.int 0 0, PySem.Value.int 1 0] }) ::
  (nat_lit 131, { cls := PySem.Value.type "re.Pattern", data := PySem.Data.fields #[PySem.Value.str (PySem.Str.ofString "[\\x00-\\x08\\x0A-\\x1F\\x7F]") 500, PySem.Value.int 32 531, PySem.Value.int 0 0, PySem.Value.none, PySem.Value.none, PySem.Value.ref 130, PySem.Value.int 0 0] }) ::
  (nat_lit 132, { cls := PySem.Value.type "tuple", data := PySem.Data.seq #[PySem.Value.none, PySem.Value.int 1 533] }) ::
  (nat_lit 133, { cls := PySem.Value.type "tuple", data := PySem.Data.seq #[] }) ::
  (nat_lit 135, { cls := PySem.Value.type "tuple", data := PySem.Data.seq #[PySem.Value.str (PySem.Str.ofString "param") 537, PySem.Value.str (PySem.Str.ofString "value") 538, PySem.Value.str (PySem.Str.ofString "quote") 539] }) ::
  (nat_lit 136, { cls := PySem.Value.type "tuple", data := PySem.Data.seq #[] }) ::
  (nat_lit 138, { cls := PySem.Value.type "code", data := PySem.Data.fields #[PySem.Value.str (PySem.Str.ofString "_formatparam") 534, PySem.Value.str (PySem.Str.ofString "_formatparam") 535, PySem.Value.str (PySem.Str.ofString "/claim/cut.py") 536, PySem.Value.int 96 0, PySem.Value.int 3 0, PySem.Value.int 0 0, PySem.Value.int 0 0, PySem.Value.int 3 0, PySem.Value.ref 133, PySem.Value.bool Bool.true, PySem.Value.int 276 0, PySem.Value.ref 134, PySem.Value.none, PySem.Value.ref 135, PySem.Value.ref 136, PySem.Value.ref 137, PySem.Value.int 540 0, PySem.Value.int 96 0, PySem.Value.str (PySem.Str.ofString "/claim/cut.py") 541] }) ::
  (nat_lit 139, useFn (o := (fnAt 24)) rfl fun ps b sc => { cls := PySem.Value.type "function", data := PySem.Data.func { name := PySem.Str.ofString "_formatparam", qualname := PySem.Str.ofString "_formatparam", params := ps, body := PySem.FuncBody.stmts b, scope := sc, globals := 3, closure := [], defaults := PySem.Value.ref 132, kwdefaults := PySem.Value.none, pyModule := PySem.Value.str (PySem.Str.ofString "cpy313.wsgiref.headers") 437, code := PySem.Value.ref 138 } }) ::
  (nat_lit 147, { cls := PySem.Value.type "tuple", data := PySem.Data.seq #[PySem.Value.none] }) ::
  (nat_lit 148, { cls := PySem.Value.type "tuple", data := PySem.Data.seq #[] }) ::
  (nat_lit 150, { cls := PySem.Value.type "tuple", data := PySem.Data.seq #[PySem.Value.str (PySem.Str.ofString "self") 558, PySem.Value.str (PySem.Str.ofString "headers") 559, PySem.Value.str (PySem.Str.ofString "k") 560, PySem.Value.str (PySem.Str.ofString "v") 561] }) ::
  (nat_lit 151, { cls := PySem.Value.type "tuple", data := PySem.Data.seq #[] }) ::
  (nat_lit 153, { cls := PySem.Value.type "code", data := PySem.Data.fields #[PySem.Value.str (PySem.Str.ofString "__init__") 555, PySem.Value.str (PySem.Str.ofString "Headers.__init__") 556, PySem.Value.str (PySem.Str.ofString "/claim/cut.py") 557, PySem.Value.int 107 0, PySem.Value.int 2 0, PySem.Value.int 0 0, PySem.Value.int 0 0, PySem.Value.int 3 0, PySem.Value.ref 148, PySem.Value.bool Bool.true, PySem.Value.int 276 0, PySem.Value.ref 149, PySem.Value.none, PySem.Value.ref 150, PySem.Value.ref 151, PySem.Value.ref 152, PySem.Value.int 562 0, PySem.Value.int 107 0, PySem.Value.str (PySem.Str.ofString "/claim/cut.py") 563] }) ::
  (nat_lit 154, useFn (o := (mtAt 25 0)) rfl fun ps b sc => { cls := PySem.Value.type "function", data := PySem.Data.func { name := PySem.Str.ofString "__init__", qualname := PySem.Str.ofString "Headers.__init__", params := ps, body := PySem.FuncBody.stmts b, scope := sc, globals := 3, closure := [], defaults := PySem.Value.ref 147, kwdefaults := PySem.Value.none, pyModule := PySem.Value.str (PySem.Str.ofString "cpy313.wsgiref.headers") 437, code := PySem.Value.ref 153 } }) ::
  (nat_lit 155, { cls := PySem.Value.type "tuple", data := PySem.Data.seq #[] }) ::
  (nat_lit 157, { cls := PySem.Value.type "tuple", data := PySem.Data.seq #[PySem.Value.str (PySem.Str.ofString "self") 568, PySem.Value.str (PySem.Str.ofString "value") 569, PySem.Value.str (PySem.Str.ofString "name") 570, PySem.Value.str (PySem.Str.ofString "regex") 571] }) ::
  (nat_lit 158, { cls := PySem.Value.type "tuple", data := PySem.Data.seq #[] }) ::
  (nat_lit 160, { cls := PySem.Value.type "code", data := PySem.Data.fields #[PySem.Value.str (PySem.Str.ofString "_convert_string_type") 565, PySem.Value.str (PySem.Str.ofString "Headers._convert_string_type") 566, PySem.Value.str (PySem.Str.ofString "/claim/cut.py") 567, PySem.Value.int 117 0, PySem.Value.int 2 0, PySem.Value.int 0 0, PySem.Value.int 1 0, PySem.Value.int 3 0, PySem.Value.ref 155, PySem.Value.bool Bool.true, PySem.Value.int 276 0, PySem.Value.ref 156, PySem.Value.none, PySem.Value.ref 157, PySem.Value.ref 158, PySem.Value.ref 159, PySem.Value.int 572 0, PySem.Value.int 117 0, PySem.Value.str (PySem.Str.ofString "/claim/cut.py") 573] }) ::
  (nat_lit 161, useFn (o := (mtAt 25 1)) rfl fun ps b sc => { cls := PySem.Value.type "function", data := PySem.Data.func { name := PySem.Str.ofString "_convert_string_type", qualname := PySem.Str.ofString "Headers._convert_string_type", params := ps, body := PySem.FuncBody.stmts b, scope := sc, globals := 3, closure := [], defaults := PySem.Value.none, kwdefaults := PySem.Value.none, pyModule := PySem.Value.str (PySem.Str.ofString "cpy313.wsgiref.headers") 437, code := PySem.Value.ref 160 } }) ::
  (nat_lit 162, { cls := PySem.Value.type "tuple", data := PySem.Data.seq #[] }) ::
  (nat_lit 164, { cls := PySem.Value.type "tuple", data := PySem.Data.seq #[PySem.Value.str (PySem.Str.ofString "self") 578] }) ::
  (nat_lit 165, { cls := PySem.Value.type "tuple", data := PySem.Data.seq #[] }) ::
  (nat_lit 167, { cls := PySem.Value.type "code", data := PySem.Data.fields #[PySem.Value.str (PySem.Str.ofString "__len__") 575, PySem.Value.str (PySem.Str.ofString "Headers.__len__") 576, PySem.Value.str (PySem.Str.ofString "/claim/cut.py") 577, PySem.Value.int 125 0, PySem.Value.int 1 0, PySem.Value.int 0 0, PySem.Value.int 0 0, PySem.Value.int 3 0, PySem.Value.ref 162, PySem.Value.bool Bool.true, PySem.Value.int 276 0, PySem.Value.ref 163, PySem.Value.none, PySem.Value.ref 164, PySem.Value.ref 165, PySem.Value.ref 166, PySem.Value.int 579 0, PySem.Value.int 125 0, PySem.Value.str (PySem.Str.ofString "/claim/cut.py") 580] }) ::
  (nat_lit 168, useFn (o := (mtAt 25 2)) rfl fun ps b sc => { cls := PySem.Value.type "function", data := PySem.Data.func { name := PySem.Str.ofString "__len__", qualname := PySem.Str.ofString "Headers.__len__", params := ps, body := PySem.FuncBody.stmts b, scope := sc, globals := 3, closure := [], defaults := PySem.Value.none, kwdefaults := PySem.Value.none, pyModule := PySem.Value.str (PySem.Str.ofString "cpy313.wsgiref.headers") 437, code := PySem.Value.ref 167 } }) ::
  (nat_lit 169, { cls := PySem.Value.type "tuple", data := PySem.Data.seq #[] }) ::
  (nat_lit 171, { cls := PySem.Value.type "tuple", data := PySem.Data.seq #[PySem.Value.str (PySem.Str.ofString "self") 585, PySem.Value.str (PySem.Str.ofString "name") 586, PySem.Value.str (PySem.Str.ofString "val") 587] }) ::
  (nat_lit 172, { cls := PySem.Value.type "tuple", data := PySem.Data.seq #[] }) ::
  (nat_lit 174, { cls := PySem.Value.type "code", data := PySem.Data.fields #[PySem.Value.str (PySem.Str.ofString "__setitem__") 582, PySem.Value.str (PySem.Str.ofString "Headers.__setitem__") 583, PySem.Value.str (PySem.Str.ofString "/claim/cut.py") 584, PySem.Value.int 128 0, PySem.Value.int 3 0, PySem.Value.int 0 0, PySem.Value.int 0 0, PySem.Value.int 3 0, PySem.Value.ref 169, PySem.Value.bool Bool.true, PySem.Value.int 276 0, PySem.Value.ref 170, PySem.Value.none, PySem.Value.ref 171, PySem.Value.ref 172, PySem.Value.ref 173, PySem.Value.int 588 0, PySem.Value.int 128 0, PySem.Value.str (PySem.Str.ofString "/claim/cut.py") 589] }) ::
  (nat_lit 175, useFn (o := (mtAt 25 3)) rfl fun ps b sc => { cls := PySem.Value.type "function", data := PySem.Data.func { name := PySem.Str.ofString "__setitem__", qualname := PySem.Str.ofString "Headers.__setitem__", params := ps, body := PySem.FuncBody.stmts b, scope := sc, globals := 3, closure := [], defaults := PySem.Value.none, kwdefaults := PySem.Value.none, pyModule := PySem.Value.str (PySem.Str.ofString "cpy313.wsgiref.headers") 437, code := PySem.Value.ref 174 } }) ::
  (nat_lit 176, { cls := PySem.Value.type "tuple", data := PySem.Data.seq #[] }) ::
  (nat_lit 179, { cls := PySem.Value.type "code", data := PySem.Data.fields #[PySem.Value.str (PySem.Str.ofString "__delitem__") 591, PySem.Value.str (PySem.Str.ofString "Headers.__delitem__") 592, PySem.Value.str (PySem.Str.ofString "/claim/cut.py") 593, PySem.Value.int 132 0, PySem.Value.int 2 0, PySem.Value.int 0 0, PySem.Value.int 0 0, PySem.Value.int 3 0, PySem.Value.ref 176, PySem.Value.bool Bool.true, PySem.Value.int 276 0, PySem.Value.ref 177, PySem.Value.none, PySem.Value.none, PySem.Value.none, PySem.Value.ref 178, PySem.Value.int 594 0, PySem.Value.int 132 0, PySem.Value.str (PySem.Str.ofString "/claim/cut.py") 595] }) ::
  (nat_lit 180, useFn (o := (mtAt 25 4)) rfl fun ps b sc => { cls := PySem.Value.type "function", data := PySem.Data.func { name := PySem.Str.ofString "__delitem__", qualname := PySem.Str.ofString "Headers.__delitem__", params := ps, body := PySem.FuncBody.stmts b, scope := sc, globals := 3, closure := [], defaults := PySem.Value.none, kwdefaults := PySem.Value.none, pyModule := PySem.Value.str (PySem.Str.ofString "cpy313.wsgiref.headers") 437, code := PySem.Value.ref 179 } }) ::
  (nat_lit 181, { cls := PySem.Value.type "tuple", data := PySem.Data.seq #[] }) ::
  (nat_lit 183, { cls := PySem.Value.type "tuple", data := PySem.Data.seq #[PySem.Value.str (PySem.Str.ofString "self") 600, PySem.Value.str (PySem.Str.ofString "name") 601] }) ::
  (nat_lit 184, { cls := PySem.Value.type "tuple", data := PySem.Data.seq #[] }) ::
  (nat_lit 186, { cls := PySem.Value.type "code", data := PySem.Data.fields #[PySem.Value.str (PySem.Str.ofString "__getitem__") 597, PySem.Value.str (PySem.Str.ofString "Headers.__getitem__") 598, PySem.Value.str (PySem.Str.ofString "/claim/cut.py") 599, PySem.Value.int 136 0, PySem.Value.int 2 0, PySem.Value.int 0 0, PySem.Value.int 0 0, PySem.Value.int 3 0, PySem.Value.ref 181, PySem.Value.bool Bool.true, PySem.Value.int 276 0, PySem.Value.ref 182, PySem.Value.none, PySem.Value.ref 183, PySem.Value.ref 184, PySem.Value.ref 185, PySem.Value.int 602 0, PySem.Value.int 136 0, PySem.Value.str (PySem.Str.ofString "/claim/cut.py") 603] }) ::
  (nat_lit 187, useFn (o := (mtAt 25 5)) rfl fun ps b sc => { cls := PySem.Value.type "function", data := PySem.Data.func { name := PySem.Str.ofString "__getitem__", qualname := PySem.Str.ofString "Headers.__getitem__", params := ps, body := PySem.FuncBody.stmts b, scope := sc, globals := 3, closure := [], defaults := PySem.Value.none, kwdefaults := PySem.Value.none, pyModule := PySem.Value.str (PySem.Str.ofString "cpy313.wsgiref.headers") 437, code := PySem.Value.ref 186 } }) ::
  (nat_lit 188, { cls := PySem.Value.type "tuple", data := PySem.Data.seq #[] }) ::
  (nat_lit 190, { cls := PySem.Value.type "tuple", data := PySem.Data.seq #[PySem.Value.str (PySem.Str.ofString "self") 608, PySem.Value.str (PySem.Str.ofString "name") 609] }) ::
  (nat_lit 191, { cls := PySem.Value.type "tuple", data := PySem.Data.seq #[] }) ::
  (nat_lit 193, { cls := PySem.Value.type "code", data := PySem.Data.fields #[PySem.Value.str (PySem.Str.ofString "__contains__") 605, PySem.Value.str (PySem.Str.ofString "Headers.__contains__") 606, PySem.Value.str (PySem.Str.ofString "/claim/cut.py") 607, PySem.Value.int 139 0, PySem.Value.int 2 0, PySem.Value.int 0 0, PySem.Value.int 0 0, PySem.Value.int 3 0, PySem.Value.ref 188, PySem.Value.bool Bool.true, PySem.Value.int 276 0, PySem.Value.ref 189, PySem.Value.none, PySem.Value.ref 190, PySem.Value.ref 191, PySem.Value.ref 192, PySem.Value.int 610 0, PySem.Value.int 139 0, PySem.Value.str (PySem.Str.ofString "/claim/cut.py") 611] }) ::
  (nat_lit 194, useFn (o := (mtAt 25 6)) rfl fun ps b sc => { cls := PySem.Value.type "function", data := PySem.Data.func { name := PySem.Str.ofString "__contains__", qualname := PySem.Str.ofString "Headers.__contains__", params := ps, body := PySem.FuncBody.stmts b, scope := sc, globals := 3, closure := [], defaults := PySem.Value.none, kwdefaults := PySem.Value.none, pyModule := PySem.Value.str (PySem.Str.ofString "cpy313.wsgiref.headers") 437, code := PySem.Value.ref 193 } }) ::
  (nat_lit 195, { cls := PySem.Value.type "tuple", data := PySem.Data.seq #[] }) ::
  (nat_lit 198, { cls := PySem.Value.type "code", data := PySem.Data.fields #[PySem.Value.str (PySem.Str.ofString "get_all") 613, PySem.Value.str (PySem.Str.ofString "Headers.get_all") 614, PySem.Value.str (PySem.Str.ofString "/claim/cut.py") 615, PySem.Value.int 142 0, PySem.Value.int 2 0, PySem.Value.int 0 0, PySem.Value.int 0 0, PySem.Value.int 3 0, PySem.Value.ref 195, PySem.Value.bool Bool.true, PySem.Value.int 276 0, PySem.Value.ref 196, PySem.Value.none, PySem.Value.none, PySem.Value.none, PySem.Value.ref 197, PySem.Value.int 616 0, PySem.Value.int 142 0, PySem.Value.str (PySem.Str.ofString "/claim/cut.py") 617] }) ::
  (nat_lit 199, useFn (o := (mtAt 25 7)) rfl fun ps b sc => { cls := PySem.Value.type "function", data := PySem.Data.func { name := PySem.Str.ofString "get_all", qualname := PySem.Str.ofString "Headers.get_all", params := ps, body := PySem.FuncBody.stmts b, scope := sc, globals := 3, closure := [], defaults := PySem.Value.none, kwdefaults := PySem.Value.none, pyModule := PySem.Value.str (PySem.Str.ofString "cpy313.wsgiref.headers") 437, code := PySem.Value.ref 198 } }) ::
  (nat_lit 200, { cls := PySem.Value.type "tuple", data := PySem.Data.seq #[PySem.Value.none] }) ::
  (nat_lit 201, { cls := PySem.Value.type "tuple", data := PySem.Data.seq #[] }) ::
  (nat_lit 203, { cls := PySem.Value.type "tuple", data := PySem.Data.seq #[PySem.Value.str (PySem.Str.ofString "self") 622, PySem.Value.str (PySem.Str.ofString "name") 623, PySem.Value.str (PySem.Str.ofString "default") 624, PySem.Value.str (PySem.Str.ofString "k") 625, PySem.Value.str (PySem.Str.ofString "v") 626] }) ::
  (nat_lit 204, { cls := PySem.Value.type "tuple", data := PySem.Data.seq #[] }) ::
  (nat_lit 206, { cls := PySem.Value.type "code", data := PySem.Data.fields #[PySem.Value.str (PySem.Str.ofString "get") 619, PySem.Value.str (PySem.Str.ofString "Headers.get") 620, PySem.Value.str (PySem.Str.ofString "/claim/cut.py") 621, PySem.Value.int 146 0, PySem.Value.int 3 0, PySem.Value.int 0 0, PySem.Value.int 0 0, PySem.Value.int 3 0, PySem.Value.ref 201, PySem.Value.bool Bool.true, PySem.Value.int 276 0, PySem.Value.ref 202, PySem.Value.none, PySem.Value.ref 203, PySem.Value.ref 204, PySem.Value.ref 205, PySem.Value.int 627 0, PySem.Value.int 146 0, PySem.Value.str (PySem.Str.ofString "/claim/cut.py") 628] }) ::
  (nat_lit 207, useFn (o := (mtAt 25 8)) rfl fun ps b sc => { cls := PySem.Value.type "function", data := PySem.Data.func { name := PySem.Str.ofString "get", qualname := PySem.Str.ofString "Headers.get", params := ps, body := PySem.FuncBody.stmts b, scope := sc, globals := 3, closure := [], defaults := PySem.Value.ref 200, kwdefaults := PySem.Value.none, pyModule := PySem.Value.str (PySem.Str.ofString "cpy313.wsgiref.headers") 437, code := PySem.Value.ref 206 } }) ::
  (nat_lit 208, { cls := PySem.Value.type "tuple", data := PySem.Data.seq #[] }) ::
  (nat_lit 211, { cls := PySem.Value.type "code", data := PySem.Data.fields #[PySem.Value.str (PySem.Str.ofString "keys") 630, PySem.Value.str (PySem.Str.ofString "Headers.keys") 631, PySem.Value.str (PySem.Str.ofString "/claim/cut.py") 632, PySem.Value.int 153 0, PySem.Value.int 1 0, PySem.Value.int 0 0, PySem.Value.int 0 0, PySem.Value.int 3 0, PySem.Value.ref 208, PySem.Value.bool Bool.true, PySem.Value.int 276 0, PySem.Value.ref 209, PySem.Value.none, PySem.Value.none, PySem.Value.none, PySem.Value.ref 210, PySem.Value.int 633 0, PySem.Value.int 153 0, PySem.Value.str (PySem.Str.ofString "/claim/cut.py") 634] }) ::
  (nat_lit 212, useFn (o := (mtAt 25 9)) rfl fun ps b sc => { cls := PySem.Value.type "function", data := PySem.Data.func { name := PySem.Str.ofString "keys", qualname := PySem.Str.ofString "Headers.keys", params := ps, body := PySem.FuncBody.stmts b, scope := sc, globals := 3, closure := [], defaults := PySem.Value.none, kwdefaults := PySem.Value.none, pyModule := PySem.Value.str (PySem.Str.ofString "cpy313.wsgiref.headers") 437, code := PySem.Value.ref 211 } }) ::
  (nat_lit 213, { cls := PySem.Value.type "tuple", data := PySem.Data.seq #[] }) ::
  (nat_lit 216, { cls := PySem.Value.type "code", data := PySem.Data.fields #[PySem.Value.str (PySem.Str.ofString "values") 636, PySem.Value.str (PySem.Str.ofString "Headers.values") 637, PySem.Value.str (PySem.Str.ofString "/claim/cut.py") 638, PySem.Value.int 156 0, PySem.Value.int 1 0, PySem.Value.int 0 0, PySem.Value.int 0 0, PySem.Value.int 3 0, PySem.Value.ref 213, PySem.Value.bool Bool.true, PySem.Value.int 276 0, PySem.Value.ref 214, PySem.Value.none, PySem.Value.none, PySem.Value.none, PySem.Value.ref 215, PySem.Value.int 639 0, PySem.Value.int 156 0, PySem.Value.str (PySem.Str.ofString "/claim/cut.py") 640] }) ::
  (nat_lit 217, useFn (o := (mtAt 25 10)) rfl fun ps b sc => { cls := PySem.Value.type "function", data := PySem.Data.func { name := PySem.Str.ofString "values", qualname := PySem.Str.ofString "Headers.values", params := ps, body := PySem.FuncBody.stmts b, scope := sc, globals := 3, closure := [], defaults := PySem.Value.none, kwdefaults := PySem.Value.none, pyModule := PySem.Value.str (PySem.Str.ofString "cpy313.wsgiref.headers") 437, code := PySem.Value.ref 216 } }) ::
  (nat_lit 218, { cls := PySem.Value.type "tuple", data := PySem.Data.seq #[] }) ::
  (nat_lit 220, { cls := PySem.Value.type "tuple", data := PySem.Data.seq #[PySem.Value.str (PySem.Str.ofString "self") 645] }) ::
  (nat_lit 221, { cls := PySem.Value.type "tuple", data := PySem.Data.seq #[] }) ::
  (nat_lit 223, { cls := PySem.Value.type "code", data := PySem.Data.fields #[PySem.Value.str (PySem.Str.ofString "items") 642, PySem.Value.str (PySem.Str.ofString "Headers.items") 643, PySem.Value.str (PySem.Str.ofString "/claim/cut.py") 644, PySem.Value.int 159 0, PySem.Value.int 1 0, PySem.Value.int 0 0, PySem.Value.int 0 0, PySem.Value.int 3 0, PySem.Value.ref 218, PySem.Value.bool Bool.true, PySem.Value.int 276 0, PySem.Value.ref 219, PySem.Value.none, PySem.Value.ref 220, PySem.Value.ref 221, PySem.Value.ref 222, PySem.Value.int 646 0, PySem.Value.int 159 0, PySem.Value.str (PySem.Str.ofString "/claim/cut.py") 647] }) ::
  (nat_lit 224, useFn (o := (mtAt 25 11)) rfl fun ps b sc => { cls := PySem.Value.type "function", data := PySem.Data.func { name := PySem.Str.ofString "items", qualname := PySem.Str.ofString "Headers.items", params := ps, body := PySem.FuncBody.stmts b, scope := sc, globals := 3, closure := [], defaults := PySem.Value.none, kwdefaults := PySem.Value.none, pyModule := PySem.Value.str (PySem.Str.ofString "cpy313.wsgiref.headers") 437, code := PySem.Value.ref 223 } }) ::
  (nat_lit 225, { cls := PySem.Value.type "tuple", data := PySem.Data.seq #[] }) ::
  (nat_lit 227, { cls := PySem.Value.type "tuple", data := PySem.Data.seq #[PySem.Value.str (PySem.Str.ofString "self") 652] }) ::
  (nat_lit 228, { cls := PySem.Value.type "tuple", data := PySem.Data.seq #[] }) ::
  (nat_lit 230, { cls := PySem.Value.type "code", data := PySem.Data.fields #[PySem.Value.str (PySem.Str.ofString "__repr__") 649, PySem.Value.str (PySem.Str.ofString "Headers.__repr__") 650, PySem.Value.str (PySem.Str.ofString "/claim/cut.py") 651, PySem.Value.int 162 0, PySem.Value.int 1 0, PySem.Value.int 0 0, PySem.Value.int 0 0, PySem.Value.int 3 0, PySem.Value.ref 225, PySem.Value.bool Bool.true, PySem.Value.int 276 0, PySem.Value.ref 226, PySem.Value.none, PySem.Value.ref 227, PySem.Value.ref 228, PySem.Value.ref 229, PySem.Value.int 653 0, PySem.Value.int 162 0, PySem.Value.str (PySem.Str.ofString "/claim/cut.py") 654] }) ::
  (nat_lit 231, useFn (o := (mtAt 25 12)) rfl fun ps b sc => { cls := PySem.Value.type "function", data := PySem.Data.func { name := PySem.Str.ofString "__repr__", qualname := PySem.Str.ofString "Headers.__repr__", params := ps, body := PySem.FuncBody.stmts b, scope := sc, globals := 3, closure := [], defaults := PySem.Value.none, kwdefaults := PySem.Value.none, pyModule := PySem.Value.str (PySem.Str.ofString "cpy313.wsgiref.headers") 437, code := PySem.Value.ref 230 } }) ::
  (nat_lit 232, { cls := PySem.Value.type "tuple", data := PySem.Data.seq #[] }) ::
  (nat_lit 235, { cls := PySem.Value.type "code", data := PySem.Data.fields #[PySem.Value.str (PySem.Str.ofString "__str__") 656, PySem.Value.str (PySem.Str.ofString "Headers.__str__") 657, PySem.Value.str (PySem.Str.ofString "/claim/cut.py") 658, PySem.Value.int 165 0, PySem.Value.int 1 0, PySem.Value.int 0 0, PySem.Value.int 0 0, PySem.Value.int 3 0, PySem.Value.ref 232, PySem.Value.bool Bool.true, PySem.Value.int 276 0, PySem.Value.ref 233, PySem.Value.none, PySem.Value.none, PySem.Value.none, PySem.Value.ref 234, PySem.Value.int 659 0, PySem.Value.int 165 0, PySem.Value.str (PySem.Str.ofString "/claim/cut.py") 660] }) ::
  (nat_lit 236, useFn (o := (mtAt 25 13)) rfl fun ps b sc => { cls := PySem.Value.type "function", data := PySem.Data.func { name := PySem.Str.ofString "__str__", qualname := PySem.Str.ofString "Headers.__str__", params := ps, body := PySem.FuncBody.stmts b, scope := sc, globals := 3, closure := [], defaults := PySem.Value.none, kwdefaults := PySem.Value.none, pyModule := PySem.Value.str (PySem.Str.ofString "cpy313.wsgiref.headers") 437, code := PySem.Value.ref 235 } }) ::
  (nat_lit 237, { cls := PySem.Value.type "tuple", data := PySem.Data.seq #[] }) ::
  (nat_lit 239, { cls := PySem.Value.type "tuple", data := PySem.Data.seq #[PySem.Value.str (PySem.Str.ofString "self") 665] }) ::
  (nat_lit 240, { cls := PySem.Value.type "tuple", data := PySem.Data.seq #[] }) ::
  (nat_lit 242, { cls := PySem.Value.type "code", data := PySem.Data.fields #[PySem.Value.str (PySem.Str.ofString "__bytes__") 662, PySem.Value.str (PySem.Str.ofString "Headers.__bytes__") 663, PySem.Value.str (PySem.Str.ofString "/claim/cut.py") 664, PySem.Value.int 168 0, PySem.Value.int 1 0, PySem.Value.int 0 0, PySem.Value.int 0 0, PySem.Value.int 3 0, PySem.Value.ref 237, PySem.Value.bool Bool.true, PySem.Value.int 276 0, PySem.Value.ref 238, PySem.Value.none, PySem.Value.ref 239, PySem.Value.ref 240, PySem.Value.ref 241, PySem.Value.int 666 0, PySem.Value.int 168 0, PySem.Value.str (PySem.Str.ofString "/claim/cut.py") 667] }) ::
  (nat_lit 243, useFn (o := (mtAt 25 14)) rfl fun ps b sc => { cls := PySem.Value.type "function", data := PySem.Data.func { name := PySem.Str.ofString "__bytes__", qualname := PySem.Str.ofString "Headers.__bytes__", params := ps, body := PySem.FuncBody.stmts b, scope := sc, globals := 3, closure := [], defaults := PySem.Value.none, kwdefaults := PySem.Value.none, pyModule := PySem.Value.str (PySem.Str.ofString "cpy313.wsgiref.headers") 437, code := PySem.Value.ref 242 } }) ::
  (nat_lit 244, { cls := PySem.Value.type "tuple", data := PySem.Data.seq #[] }) ::
  (nat_lit 246, { cls := PySem.Value.type "tuple", data := PySem.Data.seq #[PySem.Value.str (PySem.Str.ofString "self") 672, PySem.Value.str (PySem.Str.ofString "name") 673, PySem.Value.str (PySem.Str.ofString "value") 674] }) ::
  (nat_lit 247, { cls := PySem.Value.type "tuple", data := PySem.Data.seq #[] }) ::
  (nat_lit 249, { cls := PySem.Value.type "code", data := PySem.Data.fields #[PySem.Value.str (PySem.Str.ofString "setdefault") 669, PySem.Value.str (PySem.Str.ofString "Headers.setdefault") 670, PySem.Value.str (PySem.Str.ofString "/claim/cut.py") 671, PySem.Value.int 171 0, PySem.Value.int 3 0, PySem.Value.int 0 0, PySem.Value.int 0 0, PySem.Value.int 3 0, PySem.Value.ref 244, PySem.Value.bool Bool.true, PySem.Value.int 276 0, PySem.Value.ref 245, PySem.Value.none, PySem.Value.ref 246, PySem.Value.ref 247, PySem.Value.ref 248, PySem.Value.int 675 0, PySem.Value.int 171 0, PySem.Value.str (PySem.Str.ofString "/claim/cut.py") 676] }) ::
  (nat_lit 250, useFn (o := (mtAt 25 15)) rfl fun ps b sc => { cls := PySem.Value.type "function", data := PySem.Data.func { name := PySem.Str.ofString "setdefault", qualname := PySem.Str.ofString "Headers.setdefault", params := ps, body := PySem.FuncBody.stmts b, scope := sc, globals := 3, closure := [], defaults := PySem.Value.none, kwdefaults := PySem.Value.none, pyModule := PySem.Value.str (PySem.Str.ofString "cpy313.wsgiref.headers") 437, code := PySem.Value.ref 249 } }) ::
  (nat_lit 251, { cls := PySem.Value.type "tuple", data := PySem.Data.seq #[] }) ::
  (nat_lit 253, { cls := PySem.Value.type "tuple", data := PySem.Data.seq #[PySem.Value.str (PySem.Str.ofString "self") 681, PySem.Value.str (PySem.Str.ofString "_name") 682, PySem.Value.str (PySem.Str.ofString "_value") 683, PySem.Value.str (PySem.Str.ofString "_params") 684, PySem.Value.str (PySem.Str.ofString "parts") 685, PySem.Value.str (PySem.Str.ofString "k") 686, PySem.Value.str (PySem.Str.ofString "v") 687] }) ::
  (nat_lit 254, { cls := PySem.Value.type "tuple", data := PySem.Data.seq #[] }) ::
  (nat_lit 256, { cls := PySem.Value.type "code", data := PySem.Data.fields #[PySem.Value.str (PySem.Str.ofString "add_header") 678, PySem.Value.str (PySem.Str.ofString "Headers.add_header") 679, PySem.Value.str (PySem.Str.ofString "/claim/cut.py") 680, PySem.Value.int 174 0, PySem.Value.int 3 0, PySem.Value.int 0 0, PySem.Value.int 0 0, PySem.Value.int 11 0, PySem.Value.ref 251, PySem.Value.bool Bool.true, PySem.Value.int 276 0, PySem.Value.ref 252, PySem.Value.none, PySem.Value.ref 253, PySem.Value.ref 254, PySem.Value.ref 255, PySem.Value.int 688 0, PySem.Value.int 174 0, PySem.Value.str (PySem.Str.ofString "/claim/cut.py") 689] }) ::
  (nat_lit 257, useFn (o := (mtAt 25 16)) rfl fun ps b sc => { cls := PySem.Value.type "function", data := PySem.Data.func { name := PySem.Str.ofString "add_header", qualname := PySem.Str.ofString "Headers.add_header", params := ps, body := PySem.FuncBody.stmts b, scope := sc, globals := 3, closure := [], defaults := PySem.Value.none, kwdefaults := PySem.Value.none, pyModule := PySem.Value.str (PySem.Str.ofString "cpy313.wsgiref.headers") 437, code := PySem.Value.ref 256 } }) ::
  (nat_lit 258, { cls := PySem.Value.type "tuple", data := PySem.Data.seq #[PySem.Value.str (PySem.Str.ofString "_headers") 691] }) ::
  (nat_lit 259, { cls := PySem.Value.type "dict", data := PySem.Data.dict #[{ hash := PySem.PyData.keyHash P (PySem.Str.ofString "__module__"), key := PySem.Value.str (PySem.Str.ofString "__module__") 550, val := PySem.Value.str (PySem.Str.ofString "cpy313.wsgiref.headers") 437 }, { hash := PySem.PyData.keyHash P (PySem.Str.ofString "__firstlineno__"), key := PySem.Value.str (PySem.Str.ofString "__firstlineno__") 554, val := PySem.Value.int 105 553 }, { hash := PySem.PyData.keyHash P (PySem.Str.ofString "__init__"), key := PySem.Value.str (PySem.Str.ofString "__init__") 564, val := PySem.Value.ref 154 }, { hash := PySem.PyData.keyHash P (PySem.Str.ofString "_convert_string_type"), key := PySem.Value.str (PySem.Str.ofString "_convert_string_type") 574, val := PySem.Value.ref 161 }, { hash := PySem.PyData.keyHash P (PySem.Str.ofString "__len__"), key := PySem.Value.str (PySem.Str.ofString "__len__") 581, val := PySem.Value.ref 168 }, { hash := PySem.PyData.keyHash P (PySem.Str.ofString "__setitem__"), key := PySem.Value.str (PySem.Str.ofString "__setitem__") 590, val := PySem.Value.ref 175 }, { hash := PySem.PyData.keyHash P (PySem.Str.ofString "__delitem__"), key := PySem.Value.str (PySem.Str.ofString "__delitem__") 596, val := PySem.Value.ref 180 }, { hash := PySem.PyData.keyHash P (PySem.Str.ofString "__getitem__"), key := PySem.Value.str (PySem.Str.ofString "__getitem__") 604, val := PySem.Value.ref 187 }, { hash := PySem.PyData.keyHash P (PySem.Str.ofString "__contains__"), key := PySem.Value.str (PySem.Str.ofString "__contains__") 612, val := PySem.Value.ref 194 }, { hash := PySem.PyData.keyHash P (PySem.Str.ofString "get_all"), key := PySem.Value.str (PySem.Str.ofString "get_all") 618, val := PySem.Value.ref 199 }, { hash := PySem.PyData.keyHash P (PySem.Str.ofString "get"), key := PySem.Value.str (PySem.Str.ofString "get") 629, val := PySem.Value.ref 207 }, { hash := PySem.PyData.keyHash P (PySem.Str.ofString "keys"), key := PySem.Value.str (PySem.Str.ofString "keys") 635, val := PySem.Value.ref 212 }, { hash := PySem.PyData.keyHash P (PySem.Str.ofString "values"), key := PySem.Value.str (PySem.Str.ofString "values") 641, val := PySem.Value.ref 217 }, { hash := PySem.PyData.keyHash P (PySem.Str.ofString "items"), key := PySem.Value.str (PySem.Str.ofString "items") 648, val := PySem.Value.ref 224 }, { hash := PySem.PyData.keyHash P (PySem.Str.ofString "__repr__"), key := PySem.Value.str (PySem.Str.ofString "__repr__") 655, val := PySem.Value.ref 231 }, { hash := PySem.PyData.keyHash P (PySem.Str.ofString "__str__"), key := PySem.Value.str (PySem.Str.ofString "__str__") 661, val := PySem.Value.ref 236 }, { hash := PySem.PyData.keyHash P (PySem.Str.ofString "__bytes__"), key := PySem.Value.str (PySem.Str.ofString "__bytes__") 668, val := PySem.Value.ref 243 }, { hash := PySem.PyData.keyHash P (PySem.Str.ofString "setdefault"), key := PySem.Value.str (PySem.Str.ofString "setdefault") 677, val := PySem.Value.ref 250 }, { hash := PySem.PyData.keyHash P (PySem.Str.ofString "add_header"), key := PySem.Value.str (PySem.Str.ofString "add_header") 690, val := PySem.Value.ref 257 }, { hash := PySem.PyData.keyHash P (PySem.Str.ofString "__static_attributes__"), key := PySem.Value.str (PySem.Str.ofString "__static_attributes__") 692, val := PySem.Value.ref 258 }, { hash := PySem.PyData.keyHash P (PySem.Str.ofString "__dict__"), key := PySem.Value.str (PySem.Str.ofString "__dict__") 694, val := PySem.Value.ref 261 }, { hash := PySem.PyData.keyHash P (PySem.Str.ofString "__weakref__"), key := PySem.Value.str (PySem.Str.ofString "__weakref__") 696, val := PySem.Value.ref 262 }, { hash := PySem.PyData.keyHash P (PySem.Str.ofString "__doc__"), key := PySem.Value.str (PySem.Str.ofString "__doc__") 697, val := PySem.Value.none }] 4 }) ::
  (nat_lit 260, { cls := PySem.Value.type "type", data := PySem.Data.cls { name := PySem.Str.ofString "Headers", bases := [PySem.Value.type "object"], mro := [PySem.Value.ref 260, PySem.Value.type "object"], ns := 259, qualname := PySem.Str.ofString "Headers" }, slots := #[Option.none, Option.none, Option.some (PySem.Value.str (PySem.Str.ofString "Headers") 543), Option.some (PySem.Value.str (PySem.Str.ofString "Headers") 551), Option.some (PySem.Value.builtin "object.__new__"), Option.some (PySem.Value.bool Bool.true)] }) ::
  (nat_lit 261, { cls := PySem.Value.type "getset_descriptor", data := PySem.Data.fields #[PySem.Value.str (PySem.Str.ofString "__dict__") 693, PySem.Value.ref 260, PySem.Value.builtin "function.__dict__", PySem.Value.builtin "function.__dict__#set"] }) ::
  (nat_lit 262, { cls := PySem.Value.type "getset_descriptor", data := PySem.Data.fields #[PySem.Value.str (PySem.Str.ofString "__weakref__") 695, PySem.Value.ref 260, PySem.Value.builtin "ExceptionGroup.__weakref__", PySem.Value.none] }) ::
  (nat_lit 265, { cls := PySem.Value.type "tuple", data := PySem.Data.seq #[] }) ::
  (nat_lit 268, { cls := PySem.Value.type "code", data := PySem.Data.fields #[PySem.Value.str (PySem.Str.ofString "_law_words") 702, PySem.Value.str (PySem.Str.ofString "_law_words") 703, PySem.Value.str (PySem.Str.ofString "/claim/cut.py") 704, PySem.Value.int 188 0, PySem.Value.int 1 0, PySem.Value.int 0 0, PySem.Value.int 0 0, PySem.Value.int 3 0, PySem.Value.ref 265, PySem.Value.bool Bool.true, PySem.Value.int 276 0, PySem.Value.ref 266, PySem.Value.none, PySem.Value.none, PySem.Value.none, PySem.Value.ref 267, PySem.Value.int 705 0, PySem.Value.int 188 0, PySem.Value.str (PySem.Str.ofString "/claim/cut.py") 706] }) ::
  (nat_lit 269, useFn (o := (fnAt 27)) rfl fun ps b sc => { cls := PySem.Value.type "function", data := PySem.Data.func { name := PySem.Str.ofString "_law_words", qualname := PySem.Str.ofString "_law_words", params := ps, body := PySem.FuncBody.stmts b, scope := sc, globals := 3, closure := [], defaults := PySem.Value.none, kwdefaults := PySem.Value.none, pyModule := PySem.Value.str (PySem.Str.ofString "law_ta0074_01") 700, code := PySem.Value.ref 268 } }) ::
  (nat_lit 270, { cls := PySem.Value.type "tuple", data := PySem.Data.seq #[] }) ::
  (nat_lit 273, { cls := PySem.Value.type "code", data := PySem.Data.fields #[PySem.Value.str (PySem.Str.ofString "_law_spelled") 708, PySem.Value.str (PySem.Str.ofString "_law_spelled") 709, PySem.Value.str (PySem.Str.ofString "/claim/cut.py") 710, PySem.Value.int 192 0, PySem.Value.int 1 0, PySem.Value.int 0 0, PySem.Value.int 0 0, PySem.Value.int 3 0, PySem.Value.ref 270, PySem.Value.bool Bool.true, PySem.Value.int 276 0, PySem.Value.ref 271, PySem.Value.none, PySem.Value.none, PySem.Value.none, PySem.Value.ref 272, PySem.Value.int 711 0, PySem.Value.int 192 0, PySem.Value.str (PySem.Str.ofString "/claim/cut.py") 712] }) ::
  (nat_lit 274, useFn (o := (fnAt 28)) rfl fun ps b sc => { cls := PySem.Value.type "function", data := PySem.Data.func { name := PySem.Str.ofString "_law_spelled", qualname := PySem.Str.ofString "_law_spelled", params := ps, body := PySem.FuncBody.stmts b, scope := sc, globals := 3, closure := [], defaults := PySem.Value.none, kwdefaults := PySem.Value.none, pyModule := PySem.Value.str (PySem.Str.ofString "law_ta0074_01") 700, code := PySem.Value.ref 273 } }) ::
  (nat_lit 275, { cls := PySem.Value.type "tuple", data := PySem.Data.seq #[] }) ::
  (nat_lit 277, { cls := PySem.Value.type "tuple", data := PySem.Data.seq #[PySem.Value.str (PySem.Str.ofString "bit") 717, PySem.Value.str (PySem.Str.ofString "known") 718] }) ::
  (nat_lit 278, { cls := PySem.Value.type "tuple", data := PySem.Data.seq #[] }) ::
  (nat_lit 280, { cls := PySem.Value.type "code", data := PySem.Data.fields #[PySem.Value.str (PySem.Str.ofString "_law_flag") 714, PySem.Value.str (PySem.Str.ofString "_law_flag") 715, PySem.Value.str (PySem.Str.ofString "/claim/cut.py") 716, PySem.Value.int 194 0, PySem.Value.int 1 0, PySem.Value.int 0 0, PySem.Value.int 0 0, PySem.Value.int 3 0, PySem.Value.ref 275, PySem.Value.bool Bool.true, PySem.Value.int 276 0, PySem.Value.ref 276, PySem.Value.none, PySem.Value.ref 277, PySem.Value.ref 278, PySem.Value.ref 279, PySem.Value.int 719 0, PySem.Value.int 194 0, PySem.Value.str (PySem.Str.ofString "/claim/cut.py") 720] }) ::
  (nat_lit 281, useFn (o := (fnAt 29)) rfl fun ps b sc => { cls := PySem.Value.type "function", data := PySem.Data.func { name := PySem.Str.ofString "_law_flag", qualname := PySem.Str.ofString "_law_flag", params := ps, body := PySem.FuncBody.stmts b, scope := sc, globals := 3, closure := [], defaults := PySem.Value.none, kwdefaults := PySem.Value.none, pyModule := PySem.Value.str (PySem.Str.ofString "law_ta0074_01") 700, code := PySem.Value.ref 280 } }) ::
  (nat_lit 282, { cls := PySem.Value.type "tuple", data := PySem.Data.seq #[] }) ::
  (nat_lit 285, { cls := PySem.Value.type "code", data := PySem.Data.fields #[PySem.Value.str (PySem.Str.ofString "_law_due") 722, PySem.Value.str (PySem.Str.ofString "_law_due") 723, PySem.Value.str (PySem.Str.ofString "/claim/cut.py") 724, PySem.Value.int 199 0, PySem.Value.int 2 0, PySem.Value.int 0 0, PySem.Value.int 0 0, PySem.Value.int 3 0, PySem.Value.ref 282, PySem.Value.bool Bool.true, PySem.Value.int 276 0, PySem.Value.ref 283, PySem.Value.none, PySem.Value.none, PySem.Value.none, PySem.Value.ref 284, PySem.Value.int 725 0, PySem.Value.int 199 0, PySem.Value.str (PySem.Str.ofString "/claim/cut.py") 726] }) ::
  (nat_lit 286, useFn (o := (fnAt 30)) rfl fun ps b sc => { cls := PySem.Value.type "function", data := PySem.Data.func { name := PySem.Str.ofString "_law_due", qualname := PySem.Str.ofString "_law_due", params := ps, body := PySem.FuncBody.stmts b, scope := sc, globals := 3, closure := [], defaults := PySem.Value.none, kwdefaults := PySem.Value.none, pyModule := PySem.Value.str (PySem.Str.ofString "law_ta0074_01") 700, code := PySem.Value.ref 285 } }) ::
  (nat_lit 287, { cls := PySem.Value.type "tuple", data := PySem.Data.seq #[] }) ::
  (nat_lit 290, { cls := PySem.Value.type "code", data := PySem.Data.fields #[PySem.Value.str (PySem.Str.ofString "_law_by_distances") 728, PySem.Value.str (PySem.Str.ofString "_law_by_distances") 729, PySem.Value.str (PySem.Str.ofString "/claim/cut.py") 730, PySem.Value.int 208 0, PySem.Value.int 3 0, PySem.Value.int 0 0, PySem.Value.int 0 0, PySem.Value.int 3 0, PySem.Value.ref 287, PySem.Value.bool Bool.true, PySem.Value.int 276 0, PySem.Value.ref 288, PySem.Value.none, PySem.Value.none, PySem.Value.none, PySem.Value.ref 289, PySem.Value.int 731 0, PySem.Value.int 208 0, PySem.Value.str (PySem.Str.ofString "/claim/cut.py") 732] }) ::
  (nat_lit 291, useFn (o := (fnAt 31)) rfl fun ps b sc => { cls := PySem.Value.type "function", data := PySem.Data.func { name := PySem.Str.ofString "_law_by_distances", qualname := PySem.Str.ofString "_law_by_distances", params := ps, body := PySem.FuncBody.stmts b, scope := sc, globals := 3, closure := [], defaults := PySem.Value.none, kwdefaults := PySem.Value.none, pyModule := PySem.Value.str (PySem.Str.ofString "law_ta0074_01") 700, code := PySem.Value.ref 290 } }) ::
  (nat_lit 292, { cls := PySem.Value.type "tuple", data := PySem.Data.seq #[] }) ::
  (nat_lit 294, { cls := PySem.Value.type "tuple", data := PySem.Data.seq #[PySem.Value.str (PySem.Str.ofString "columns") 737, PySem.Value.str (PySem.Str.ofString "places") 738, PySem.Value.str (PySem.Str.ofString "z") 739, PySem.Value.str (PySem.Str.ofString "total") 740, PySem.Value.str (PySem.Str.ofString "choice") 741, PySem.Value.str (PySem.Str.ofString "chosen") 742, PySem.Value.str (PySem.Str.ofString "size") 743, PySem.Value.str (PySem.Str.ofString "k") 744, PySem.Value.str (PySem.Str.ofString "surplus") 745, PySem.Value.str (PySem.Str.ofString "one") 746] }) ::
  (nat_lit 295, { cls := PySem.Value.type "tuple", data := PySem.Data.seq #[] }) ::
  (nat_lit 297, { cls := PySem.Value.type "code", data := PySem.Data.fields #[PySem.Value.str (PySem.Str.ofString "_law_by_columns") 734, PySem.Value.str (PySem.Str.ofString "_law_by_columns") 735, PySem.Value.str (PySem.Str.ofString "/claim/cut.py") 736, PySem.Value.int 218 0, PySem.Value.int 3 0, PySem.Value.int 0 0, PySem.Value.int 0 0, PySem.Value.int 3 0, PySem.Value.ref 292, PySem.Value.bool Bool.true, PySem.Value.int 276 0, PySem.Value.ref 293, PySem.Value.none, PySem.Value.ref 294, PySem.Value.ref 295, PySem.Value.ref 296, PySem.Value.int 747 0, PySem.Value.int 218 0, PySem.Value.str (PySem.Str.ofString "/claim/cut.py") 748] }) ::
  (nat_lit 298, useFn (o := (fnAt 32)) rfl fun ps b sc => { cls := PySem.Value.type "function", data := PySem.Data.func { name := PySem.Str.ofString "_law_by_columns", qualname := PySem.Str.ofString "_law_by_columns", params := ps, body := PySem.FuncBody.stmts b, scope := sc, globals := 3, closure := [], defaults := PySem.Value.none, kwdefaults := PySem.Value.none, pyModule := PySem.Value.str (PySem.Str.ofString "law_ta0074_01") 700, code := PySem.Value.ref 297 } }) ::
  (nat_lit 299, { cls := PySem.Value.type "tuple", data := PySem.Data.seq #[] }) ::
  (nat_lit 302, { cls := PySem.Value.type "code", data := PySem.Data.fields #[PySem.Value.str (PySem.Str.ofString "law") 750, PySem.Value.str (PySem.Str.ofString "law") 751, PySem.Value.str (PySem.Str.ofString "/claim/cut.py") 752, PySem.Value.int 235 0, PySem.Value.int 1 0, PySem.Value.int 0 0, PySem.Value.int 0 0, PySem.Value.int 3 0, PySem.Value.ref 299, PySem.Value.bool Bool.true, PySem.Value.int 276 0, PySem.Value.ref 300, PySem.Value.none, PySem.Value.none, PySem.Value.none, PySem.Value.ref 301, PySem.Value.int 753 0, PySem.Value.int 235 0, PySem.Value.str (PySem.Str.ofString "/claim/cut.py") 754] }) ::
  (nat_lit 303, useFn (o := (fnAt 33)) rfl fun ps b sc => { cls := PySem.Value.type "function", data := PySem.Data.func { name := PySem.Str.ofString "law", qualname := PySem.Str.ofString "law", params := ps, body := PySem.FuncBody.stmts b, scope := sc, globals := 3, closure := [], defaults := PySem.Value.none, kwdefaults := PySem.Value.none, pyModule := PySem.Value.str (PySem.Str.ofString "law_ta0074_01") 700, code := PySem.Value.ref 302 } }) ::
  []
/-- the heap behind the opening -/
noncomputable def H0 : Params → Heap := fun P => Heap.mk (Array.mk [
  { cls := PySem.Value.type "dict", data := PySem.Data.dict #[{ hash := PySem.PyData.keyHash P (PySem.Str.ofString "__name__"), key := PySem.Value.str (PySem.Str.ofString "__name__") 1, val := PySem.Value.str (PySem.Str.ofString "builtins") 160 }, { hash := PySem.PyData.keyHash P (PySem.Str.ofString "__doc__"), key := PySem.Value.str (PySem.Str.ofString "__doc__") 2, val := PySem.Value.builtin "builtins.__doc__:str#opaque" }, { hash := PySem.PyData.keyHash P (PySem.Str.ofString "__package__"), key := PySem.Value.str (PySem.Str.ofString "__package__") 3, val := PySem.Value.builtin "builtins.__package__:str#opaque" }, { hash := PySem.PyData.keyHash P (PySem.Str.ofString "__loader__"), key := PySem.Value.str (PySem.Str.ofString "__loader__") 4, val := PySem.Value.builtin "builtins.__loader__:shared#opaque" }, { hash := PySem.PyData.keyHash P (PySem.Str.ofString "__spec__"), key := PySem.Value.str (PySem.Str.ofString "__spec__") 5, val := PySem.Value.builtin "builtins.__spec__#opaque" }, { hash := PySem.PyData.keyHash P (PySem.Str.ofString "__build_class__"), key := PySem.Value.str (PySem.Str.ofString "__build_class__") 6, val := PySem.Value.builtin "__build_class__" }, { hash := PySem.PyData.keyHash P (PySem.Str.ofString "__import__"), key := PySem.Value.str (PySem.Str.ofString "__import__") 7, val := PySem.Value.builtin "__import__" }, { hash := PySem.PyData.keyHash P (PySem.Str.ofString "abs"), key := PySem.Value.str (PySem.Str.ofString "abs") 8, val := PySem.Value.builtin "abs" }, { hash := PySem.PyData.keyHash P (PySem.Str.ofString "all"), key := PySem.Value.str (PySem.Str.ofString "all") 9, val := PySem.Value.builtin "all" }, { hash := PySem.PyData.keyHash P (PySem.Str.ofString "any"), key := PySem.Value.str (PySem.Str.ofString "any") 10, val := PySem.Value.builtin "any" }, { hash := PySem.PyData.keyHash P (PySem.Str.ofString "ascii"), key := PySem.Value.str (PySem.Str.ofString "ascii") 11, val := PySem.Value.builtin "ascii" }, { hash := PySem.PyData.keyHash P (PySem.Str.ofString "bin"), key := PySem.Value.str (PySem.Str.ofString "bin") 12, val := PySem.Value.builtin "bin" }, { hash := PySem.PyData.keyHash P (PySem.Str.ofString "breakpoint"), key := PySem.Value.str (PySem.Str.ofString "breakpoint") 13, val := PySem.Value.builtin "breakpoint" }, { hash := PySem.PyData.keyHash P (PySem.Str.ofString "callable"), key := PySem.Value.str (PySem.Str.ofString "callable") 14, val := PySem.Value.builtin "callable" }, { hash := PySem.PyData.keyHash P (PySem.Str.ofString "chr"), key := PySem.Value.str (PySem.Str.ofString "chr") 15, val := PySem.Value.builtin "chr" }, { hash := PySem.PyData.keyHash P (PySem.Str.ofString "compile"), key := PySem.Value.str (PySem.Str.ofString "compile") 16, val := PySem.Value.builtin "compile" }, { hash := PySem.PyData.keyHash P (PySem.Str.ofString "delattr"), key := PySem.Value.str (PySem.Str.ofString "delattr") 17, val := PySem.Value.builtin "delattr" }, { hash := PySem.PyData.keyHash P (PySem.Str.ofString "dir"), key := PySem.Value.str (PySem.Str.ofString "dir") 18, val := PySem.Value.builtin "dir" }, { hash := PySem.PyData.keyHash P (PySem.Str.ofString "divmod"), key := PySem.Value.str (PySem.Str.ofString "divmod") 19, val := PySem.Value.builtin "divmod" }, { hash := PySem.PyData.keyHash P (PySem.Str.ofString "eval"), key := PySem.Value.str (PySem.Str.ofString "eval") 20, val := PySem.Value.builtin "eval" }, { hash := PySem.PyData.keyHash P (PySem.Str.ofString "exec"), key := PySem.Value.str (PySem.Str.ofString "exec") 21, val := PySem.Value.builtin "exec" }, { hash := PySem.PyData.keyHash P (PySem.Str.ofString "format"), key := PySem.Value.str (PySem.Str.ofString "format") 22, val := PySem.Value.builtin "format" }, { hash := PySem.PyData.keyHash P (PySem.Str.ofString "getattr"), key := PySem.Value.str (PySem.Str.ofString "getattr") 23, val := PySem.Value.builtin "getattr" }, { hash := PySem.PyData.keyHash P (PySem.Str.ofString "globals"), key := PySem.Value.str (PySem.Str.ofString "globals") 24, val := PySem.Value.builtin "globals" }, { hash := PySem.PyData.keyHash P (PySem.Str.ofString "hasattr"), key := PySem.Value.str (PySem.Str.ofString "hasattr") 25, val := PySem.Value.builtin "hasattr" }, { hash := PySem.PyData.keyHash P (PySem.Str.ofString "hash"), key := PySem.Value.str (PySem.Str.ofString "hash") 26, val := PySem.Value.builtin "hash" }, { hash := PySem.PyData.keyHash P (PySem.Str.ofString "hex"), key := PySem.Value.str (PySem.Str.ofString "hex") 27, val := PySem.Value.builtin "hex" }, { hash := PySem.PyData.keyHash P (PySem.Str.ofString "id"), key := PySem.Value.str (PySem.Str.ofString "id") 28, val := PySem.Value.builtin "id" }, { hash := PySem.PyData.keyHash P (PySem.Str.ofString "input"), key := PySem.Value.str (PySem.Str.ofString "input") 29, val := PySem.Value.builtin "input" }, { hash := PySem.PyData.keyHash P (PySem.Str.ofString "isinstance"), key := PySem.Value.str (PySem.Str.ofString "isinstance") 30, val := PySem.Value.builtin "isinstance" }, { hash := PySem.PyData.keyHash P (PySem.Str.ofString "issubclass"), key := PySem.Value.str (PySem.Str.ofString "issubclass") 31, val := PySem.Value.builtin "issubclass" }, { hash := PySem.PyData.keyHash P (PySem.Str.ofString "iter"), key := PySem.Value.str (PySem.Str.ofString "iter") 32, val := PySem.Value.builtin "iter" }, { hash := PySem.PyData.keyHash P (PySem.Str.ofString "aiter"), key := PySem.Value.str (PySem.Str.ofString "aiter") 33, val := PySem.Value.builtin "aiter" }, { hash := PySem.PyData.keyHash P (PySem.Str.ofString "len"), key := PySem.Value.str (PySem.Str.ofString "len") 34, val := PySem.Value.builtin "len" }, { hash := PySem.PyData.keyHash P (PySem.Str.ofString "locals"), key := PySem.Value.str (PySem.Str.ofString "locals") 35, val := PySem.Value.builtin "locals" }, { hash := PySem.PyData.keyHash P (PySem.Str.ofString "max"), key := PySem.Value.str (PySem.Str.ofString "max") 36, val := PySem.Value.builtin "max" }, { hash := PySem.PyData.keyHash P (PySem.Str.ofString "min"), key := PySem.Value.str (PySem.Str.ofString "min") 37, val := PySem.Value.builtin "min" }, { hash := PySem.PyData.keyHash P (PySem.Str.ofString "next"), key := PySem.Value.str (PySem.Str.ofString "next") 38, val := PySem.Value.builtin "next" }, { hash := PySem.PyData.keyHash P (PySem.Str.ofString "anext"), key := PySem.Value.str (PySem.Str.ofString "anext") 39, val := PySem.Value.builtin "anext" }, { hash := PySem.PyData.keyHash P (PySem.Str.ofString "oct"), key := PySem.Value.str (PySem.Str.ofString "oct") 40, val := PySem.Value.builtin "oct" }, { hash := PySem.PyData.keyHash P (PySem.Str.ofString "ord"), key := PySem.Value.str (PySem.Str.ofString "ord") 41, val := PySem.Value.builtin "ord" }, { hash := PySem.PyData.keyHash P (PySem.Str.ofString "pow"), key := PySem.Value.str (PySem.Str.ofString "pow") 42, val := PySem.Value.builtin "pow" }, { hash := PySem.PyData.keyHash P (PySem.Str.ofString "print"), key := PySem.Value.str (PySem.Str.ofString "print") 43, val := PySem.Value.builtin "print" }, { hash := PySem.PyData.keyHash P (PySem.Str.ofString "repr"), key := PySem.Value.str (PySem.Str.ofString "repr") 44, val := PySem.Value.builtin "repr" }, { hash := PySem.PyData.keyHash P (PySem.Str.ofString "round"), key := PySem.Value.str (PySem.Str.ofString "round") 45, val := PySem.Value.builtin "round" }, { hash := PySem.PyData.keyHash P (PySem.Str.ofString "setattr"), key := PySem.Value.str (PySem.Str.ofString "setattr") 46, val := PySem.Value.builtin "setattr" }, { hash := PySem.PyData.keyHash P (PySem.Str.ofString "sorted"), key := PySem.Value.str (PySem.Str.ofString "sorted") 47, val := PySem.Value.builtin "sorted" }, { hash := PySem.PyData.keyHash P (PySem.Str.ofString "sum"), key := PySem.Value.str (PySem.Str.ofString "sum") 48, val := PySem.Value.builtin "sum" }, { hash := PySem.PyData.keyHash P (PySem.Str.ofString "vars"), key := PySem.Value.str (PySem.Str.ofString "vars") 49, val := PySem.Value.builtin "vars" }, { hash := PySem.PyData.keyHash P (PySem.Str.ofString "None"), key := PySem.Value.str (PySem.Str.ofString "None") 50, val := PySem.Value.none }, { hash := PySem.PyData.keyHash P (PySem.Str.ofString "Ellipsis"), key := PySem.Value.str (PySem.Str.ofString "Ellipsis") 51, val := PySem.Value.ellipsis }, { hash := PySem.PyData.keyHash P (PySem.Str.ofString "NotImplemented"), key := PySem.Value.str (PySem.Str.ofString "NotImplemented") 52, val := PySem.Value.notImplemented }, { hash := PySem.PyData.keyHash P (PySem.Str.ofString "False"), key := PySem.Value.str (PySem.Str.ofString "False") 53, val := PySem.Value.bool Bool.false }, { hash := PySem.PyData.keyHash P (PySem.Str.ofString "True"), key := PySem.Value.str (PySem.Str.ofString "True") 54, val := PySem.Value.bool Bool.true }, { hash := PySem.PyData.keyHash P (PySem.Str.ofString "bool"), key := PySem.Value.str (PySem.Str.ofString "bool") 55, val := PySem.Value.type "bool" }, { hash := PySem.PyData.keyHash P (PySem.Str.ofString "memoryview"), key := PySem.Value.str (PySem.Str.ofString "memoryview") 56, val := PySem.Value.type "memoryview" }, { hash := PySem.PyData.keyHash P (PySem.Str.ofString "bytearray"), key := PySem.Value.str (PySem.Str.ofString "bytearray") 57, val := PySem.Value.type "bytearray" }, { hash := PySem.PyData.keyHash P (PySem.Str.ofString "bytes"), key := PySem.Value.str (PySem.Str.ofString "bytes") 58, val := PySem.Value.type "bytes" }, { hash := PySem.PyData.keyHash P (PySem.Str.ofString "classmethod"), key := PySem.Value.str (PySem.Str.ofString "classmethod") 59, val := PySem.Value.type "classmethod" }, { hash := PySem.PyData.keyHash P (PySem.Str.ofString "complex"), key := PySem.Value.str (PySem.Str.ofString "complex") 60, val := PySem.Value.type "complex" }, { hash := PySem.PyData.keyHash P (PySem.Str.ofString "dict"), key := PySem.Value.str (PySem.Str.ofString "dict") 61, val := PySem.Value.type "dict" }, { hash := PySem.PyData.keyHash P (PySem.Str.ofString "enumerate"), key := PySem.Value.str (PySem.Str.ofString "enumerate") 62, val := PySem.Value.type "enumerate" }, { hash := PySem.PyData.keyHash P (PySem.Str.ofString "filter"), key := PySem.Value.str (PySem.Str.ofString "filter") 63, val := PySem.Value.type "filter" }, { hash := PySem.PyData.keyHash P (PySem.Str.ofString "float"), key := PySem.Value.str (PySem.Str.ofString "float") 64, val := PySem.Value.type "float" }, { hash := PySem.PyData.keyHash P (PySem.Str.ofString "frozenset"), key := PySem.Value.str (PySem.Str.ofString "frozenset") 65, val := PySem.Value.type "frozenset" }, { hash := PySem.PyData.keyHash P (PySem.Str.ofString "property"), key := PySem.Value.str (PySem.Str.ofString "property") 66, val := PySem.Value.type "property" }, { hash := PySem.PyData.keyHash P (PySem.Str.ofString "int"), key := PySem.Value.str (PySem.Str.ofString "int") 67, val := PySem.Value.type "int" }, { hash := PySem.PyData.keyHash P (PySem.Str.ofString "list"), key := PySem.Value.str (PySem.Str.ofString "list") 68, val := PySem.Value.type "list" }, { hash := PySem.PyData.keyHash P (PySem.Str.ofString "map"), key := PySem.Value.str (PySem.Str.ofString "map") 69, val := PySem.Value.type "map" }, { hash := PySem.PyData.keyHash P (PySem.Str.ofString "object"), key := PySem.Value.str (PySem.Str.ofString "object") 70, val := PySem.Value.type "object" }, { hash := PySem.PyData.keyHash P (PySem.Str.ofString "range"), key := PySem.Value.str (PySem.Str.ofString "range") 71, val := PySem.Value.type "range" }, { hash := PySem.PyData.keyHash P (PySem.Str.ofString "reversed"), key := PySem.Value.str (PySem.Str.ofString "reversed") 72, val := PySem.Value.type "reversed" }, { hash := PySem.PyData.keyHash P (PySem.Str.ofString "set"), key := PySem.Value.str (PySem.Str.ofString "set") 73, val := PySem.Value.type "set" }, { hash := PySem.PyData.keyHash P (PySem.Str.ofString "slice"), key := PySem.Value.str (PySem.Str.ofString "slice") 74, val := PySem.Value.type "slice" }, { hash := PySem.PyData.keyHash P (PySem.Str.ofString "staticmethod"), key := PySem.Value.str (PySem.Str.ofString "staticmethod") 75, val := PySem.Value.type "staticmethod" }, { hash := PySem.PyData.keyHash P (PySem.Str.ofString "str"), key := PySem.Value.str (PySem.Str.ofString "str") 76, val := PySem.Value.type "str" }, { hash := PySem.PyData.keyHash P (PySem.Str.ofString "super"), key := PySem.Value.str (PySem.Str.ofString "super") 77, val := PySem.Value.type "super" }, { hash := PySem.PyData.keyHash P (PySem.Str.ofString "tuple"), key := PySem.Value.str (PySem.Str.ofString "tuple") 78, val := PySem.Value.type "tuple" }, { hash := PySem.PyData.keyHash P (PySem.Str.ofString "type"), key := PySem.Value.str (PySem.Str.ofString "type") 79, val := PySem.Value.type "type" }, { hash := PySem.PyData.keyHash P (PySem.Str.ofString "zip"), key := PySem.Value.str (PySem.Str.ofString "zip") 80, val := PySem.Value.type "zip" }, { hash := PySem.PyData.keyHash P (PySem.Str.ofString "__debug__"), key := PySem.Value.str (PySem.Str.ofString "__debug__") 81, val := PySem.Value.bool Bool.true }, { hash := PySem.PyData.keyHash P (PySem.Str.ofString "BaseException"), key := PySem.Value.str (PySem.Str.ofString "BaseException") 82, val := PySem.Value.type "BaseException" }, { hash := PySem.PyData.keyHash P (PySem.Str.ofString "BaseExceptionGroup"), key := PySem.Value.str (PySem.Str.ofString "BaseExceptionGroup") 83, val := PySem.Value.type "BaseExceptionGroup" }, { hash := PySem.PyData.keyHash P (PySem.Str.ofString "Exception"), key := PySem.Value.str (PySem.Str.ofString "Exception") 84, val := PySem.Value.type "Exception" }, { hash := PySem.PyData.keyHash P (PySem.Str.ofString "GeneratorExit"), key := PySem.Value.str (PySem.Str.ofString "GeneratorExit") 85, val := PySem.Value.type "GeneratorExit" }, { hash := PySem.PyData.keyHash P (PySem.Str.ofString "KeyboardInterrupt"), key := PySem.Value.str (PySem.Str.ofString "KeyboardInterrupt") 86, val := PySem.Value.type "KeyboardInterrupt" }, { hash := PySem.PyData.keyHash P (PySem.Str.ofString "SystemExit"), key := PySem.Value.str (PySem.Str.ofString "SystemExit") 87, val := PySem.Value.type "SystemExit" }, { hash := PySem.PyData.keyHash P (PySem.Str.ofString "ArithmeticError"), key := PySem.Value.str (PySem.Str.ofString "ArithmeticError") 88, val := PySem.Value.type "ArithmeticError" }, { hash := PySem.PyData.keyHash P (PySem.Str.ofString "AssertionError"), key := PySem.Value.str (PySem.Str.ofString "AssertionError") 89, val := PySem.Value.type "AssertionError" }, { hash := PySem.PyData.keyHash P (PySem.Str.ofString "AttributeError"), key := PySem.Value.str (PySem.Str.ofString "AttributeError") 90, val := PySem.Value.type "AttributeError" }, { hash := PySem.PyData.keyHash P (PySem.Str.ofString "BufferError"), key := PySem.Value.str (PySem.Str.ofString "BufferError") 91, val := PySem.Value.type "BufferError" }, { hash := PySem.PyData.keyHash P (PySem.Str.ofString "EOFError"), key := PySem.Value.str (PySem.Str.ofString "EOFError") 92, val := PySem.Value.type "EOFError" }, { hash := PySem.PyData.keyHash P (PySem.Str.ofString "ImportError"), key := PySem.Value.str (PySem.Str.ofString "ImportError") 93, val := PySem.Value.type "ImportError" }, { hash := PySem.PyData.keyHash P (PySem.Str.ofString "LookupError"), key := PySem.Value.str (PySem.Str.ofString "LookupError") 94, val := PySem.Value.type "LookupError" }, { hash := PySem.PyData.keyHash P (PySem.Str.ofString "MemoryError"), key := PySem.Value.str (PySem.Str.ofString "MemoryError") 95, val := PySem.Value.type "MemoryError" }, { hash := PySem.PyData.keyHash P (PySem.Str.ofString "NameError"), key := PySem.Value.str (PySem.Str.ofString "NameError") 96, val := PySem.Value.type "NameError" }, { hash := PySem.PyData.keyHash P (PySem.Str.ofString "OSError"), key := PySem.Value.str (PySem.Str.ofString "OSError") 97, val := PySem.Value.type "OSError" }, { hash := PySem.PyData.keyHash P (PySem.Str.ofString "ReferenceError"), key := PySem.Value.str (PySem.Str.ofString "ReferenceError") 98, val := PySem.Value.type "ReferenceError" }, { hash := PySem.PyData.keyHash P (PySem.Str.ofString "RuntimeError"), key := PySem.Value.str (PySem.Str.ofString "RuntimeError") 99, val := PySem.Value.type "RuntimeError" }, { hash := PySem.PyData.keyHash P (PySem.Str.ofString "StopAsyncIteration"), key := PySem.Value.str (PySem.Str.ofString "StopAsyncIteration") 100, val := PySem.Value.type "StopAsyncIteration" }, { hash := PySem.PyData.keyHash P (PySem.Str.ofString "StopIteration"), key := PySem.Value.str (PySem.Str.ofString "StopIteration") 101, val := PySem.Value.type "StopIteration" }, { hash := PySem.PyData.keyHash P (PySem.Str.ofString "SyntaxError"), key := PySem.Value.str (PySem.Str.ofString "SyntaxError") 102, val := PySem.Value.type "SyntaxError" }, { hash := PySem.PyData.keyHash P (PySem.Str.ofString "SystemError"), key := PySem.Value.str (PySem.Str.ofString "SystemError") 103, val := PySem.Value.type "SystemError" }, { hash := PySem.PyData.keyHash P (PySem.Str.ofString "TypeError"), key := PySem.Value.str (PySem.Str.ofString "TypeError") 104, val := PySem.Value.type "TypeError" }, { hash := PySem.PyData.keyHash P (PySem.Str.ofString "ValueError"), key := PySem.Value.str (PySem.Str.ofString "ValueError") 105, val := PySem.Value.type "ValueError" }, { hash := PySem.PyData.keyHash P (PySem.Str.ofString "Warning"), key := PySem.Value.str (PySem.Str.ofString "Warning") 106, val := PySem.Value.type "Warning" }, { hash := PySem.PyData.keyHash P (PySem.Str.ofString "FloatingPointError"), key := PySem.Value.str (PySem.Str.ofString "FloatingPointError") 107, val := PySem.Value.type "FloatingPointError" }, { hash := PySem.PyData.keyHash P (PySem.Str.ofString "OverflowError"), key := PySem.Value.str (PySem.Str.ofString "OverflowError") 108, val := PySem.Value.type "OverflowError" }, { hash := PySem.PyData.keyHash P (PySem.Str.ofString "ZeroDivisionError"), key := PySem.Value.str (PySem.Str.ofString "ZeroDivisionError") 109, val := PySem.Value.type "ZeroDivisionError" }, { hash := PySem.PyData.keyHash P (PySem.Str.ofString "BytesWarning"), key := PySem.Value.str (PySem.Str.ofString "BytesWarning") 110, val := PySem.Value.type "BytesWarning" }, { hash := PySem.PyData.keyHash P (PySem.Str.ofString "DeprecationWarning"), key := PySem.Value.str (PySem.Str.ofString "DeprecationWarning") 111, val := PySem.Value.type "DeprecationWarning" }, { hash := PySem.PyData.keyHash P (PySem.Str.ofString "EncodingWarning"), key := PySem.Value.str (PySem.Str.ofString "EncodingWarning") 112, val := PySem.Value.type "EncodingWarning" }, { hash := PySem.PyData.keyHash P (PySem.Str.ofString "FutureWarning"), key := PySem.Value.str (PySem.Str.ofString "FutureWarning") 113, val := PySem.Value.type "FutureWarning" }, { hash := PySem.PyData.keyHash P (PySem.Str.ofString "ImportWarning"), key := PySem.Value.str (PySem.Str.ofString "ImportWarning") 114, val := PySem.Value.type "ImportWarning" }, { hash := PySem.PyData.keyHash P (PySem.Str.ofString "PendingDeprecationWarning"), key := PySem.Value.str (PySem.Str.ofString "PendingDeprecationWarning") 115, val := PySem.Value.type "PendingDeprecationWarning" }, { hash := PySem.PyData.keyHash P (PySem.Str.ofString "ResourceWarning"), key := PySem.Value.str (PySem.Str.ofString "ResourceWarning") 116, val := PySem.Value.type "ResourceWarning" }, { hash := PySem.PyData.keyHash P (PySem.Str.ofString "RuntimeWarning"), key := PySem.Value.str (PySem.Str.ofString "RuntimeWarning") 117, val := PySem.Value.type "RuntimeWarning" }, { hash := PySem.PyData.keyHash P (PySem.Str.ofString "SyntaxWarning"), key := PySem.Value.str (PySem.Str.ofString "SyntaxWarning") 118, val := PySem.Value.type "SyntaxWarning" }, { hash := PySem.PyData.keyHash P (PySem.Str.ofString "UnicodeWarning"), key := PySem.Value.str (PySem.Str.ofString "UnicodeWarning") 119, val := PySem.Value.type "UnicodeWarning" }, { hash := PySem.PyData.keyHash P (PySem.Str.ofString "UserWarning"), key := PySem.Value.str (PySem.Str.ofString "UserWarning") 120, val := PySem.Value.type "UserWarning" }, { hash := PySem.PyData.keyHash P (PySem.Str.ofString "BlockingIOError"), key := PySem.Value.str (PySem.Str.ofString "BlockingIOError") 121, val := PySem.Value.type "BlockingIOError" }, { hash := PySem.PyData.keyHash P (PySem.Str.ofString "ChildProcessError"), key := PySem.Value.str (PySem.Str.ofString "ChildProcessError") 122, val := PySem.Value.type "ChildProcessError" }, { hash := PySem.PyData.keyHash P (PySem.Str.ofString "ConnectionError"), key := PySem.Value.str (PySem.Str.ofString "ConnectionError") 123, val := PySem.Value.type "ConnectionError" }, { hash := PySem.PyData.keyHash P (PySem.Str.ofString "FileExistsError"), key := PySem.Value.str (PySem.Str.ofString "FileExistsError") 124, val := PySem.Value.type "FileExistsError" }, { hash := PySem.PyData.keyHash P (PySem.Str.ofString "FileNotFoundError"), key := PySem.Value.str (PySem.Str.ofString "FileNotFoundError") 125, val := PySem.Value.type "FileNotFoundError" }, { hash := PySem.PyData.keyHash P (PySem.Str.ofString "InterruptedError"), key := PySem.Value.str (PySem.Str.ofString "InterruptedError") 126, val := PySem.Value.type "InterruptedError" }, { hash := PySem.PyData.keyHash P (PySem.Str.ofString "IsADirectoryError"), key := PySem.Value.str (PySem.Str.ofString "IsADirectoryError") 127, val := PySem.Value.type "IsADirectoryError" }, { hash := PySem.PyData.keyHash P (PySem.Str.ofString "NotADirectoryError"), key := PySem.Value.str (PySem.Str.ofString "NotADirectoryError") 128, val := PySem.Value.type "NotADirectoryError" }, { hash := PySem.PyData.keyHash P (PySem.Str.ofString "PermissionError"), key := PySem.Value.str (PySem.Str.ofString "PermissionError") 129, val := PySem.Value.type "PermissionError" }, { hash := PySem.PyData.keyHash P (PySem.Str.ofString "ProcessLookupError"), key := PySem.Value.str (PySem.Str.ofString "ProcessLookupError") 130, val := PySem.Value.type "ProcessLookupError" }, { hash := PySem.PyData.keyHash P (PySem.Str.ofString "TimeoutError"), key := PySem.Value.str (PySem.Str.ofString "TimeoutError") 131, val := PySem.Value.type "TimeoutError" }, { hash := PySem.PyData.keyHash P (PySem.Str.ofString "IndentationError"), key := PySem.Value.str (PySem.Str.ofString "IndentationError") 132, val := PySem.Value.type "IndentationError" }, { hash := PySem.PyData.keyHash P (PySem.Str.ofString "_IncompleteInputError"), key := PySem.Value.str (PySem.Str.ofString "_IncompleteInputError") 133, val := PySem.Value.type "_IncompleteInputError" }, { hash := PySem.PyData.keyHash P (PySem.Str.ofString "IndexError"), key := PySem.Value.str (PySem.Str.ofString "IndexError") 134, val := PySem.Value.type "IndexError" }, { hash := PySem.PyData.keyHash P (PySem.Str.ofString "KeyError"), key := PySem.Value.str (PySem.Str.ofString "KeyError") 135, val := PySem.Value.type "KeyError" }, { hash := PySem.PyData.keyHash P (PySem.Str.ofString "ModuleNotFoundError"), key := PySem.Value.str (PySem.Str.ofString "ModuleNotFoundError") 136, val := PySem.Value.type "ModuleNotFoundError" }, { hash := PySem.PyData.keyHash P (PySem.Str.ofString "NotImplementedError"), key := PySem.Value.str (PySem.Str.ofString "NotImplementedError") 137, val := PySem.Value.type "NotImplementedError" }, { hash := PySem.PyData.keyHash P (PySem.Str.ofString "PythonFinalizationError"), key := PySem.Value.str (PySem.Str.ofString "PythonFinalizationError") 138, val := PySem.Value.type "PythonFinalizationError" }, { hash := PySem.PyData.keyHash P (PySem.Str.ofString "RecursionError"), key := PySem.Value.str (PySem.Str.ofString "RecursionError") 139, val := PySem.Value.type "RecursionError" }, { hash := PySem.PyData.keyHash P (PySem.Str.ofString "UnboundLocalError"), key := PySem.Value.str (PySem.Str.ofString "UnboundLocalError") 140, val := PySem.Value.type "UnboundLocalError" }, { hash := PySem.PyData.keyHash P (PySem.Str.ofString "UnicodeError"), key := PySem.Value.str (PySem.Str.ofString "UnicodeError") 141, val := PySem.Value.type "UnicodeError" }, { hash := PySem.PyData.keyHash P (PySem.Str.ofString "BrokenPipeError"), key := PySem.Value.str (PySem.Str.ofString "BrokenPipeError") 142, val := PySem.Value.type "BrokenPipeError" }, { hash := PySem.PyData.keyHash P (PySem.Str.ofString "ConnectionAbortedError"), key := PySem.Value.str (PySem.Str.ofString "ConnectionAbortedError") 143, val := PySem.Value.type "ConnectionAbortedError" }, { hash := PySem.PyData.keyHash P (PySem.Str.ofString "ConnectionRefusedError"), key := PySem.Value.str (PySem.Str.ofString "ConnectionRefusedError") 144, val := PySem.Value.type "ConnectionRefusedError" }, { hash := PySem.PyData.keyHash P (PySem.Str.ofString "ConnectionResetError"), key := PySem.Value.str (PySem.Str.ofString "ConnectionResetError") 145, val := PySem.Value.type "ConnectionResetError" }, { hash := PySem.PyData.keyHash P (PySem.Str.ofString "TabError"), key := PySem.Value.str (PySem.Str.ofString "TabError") 146, val := PySem.Value.type "TabError" }, { hash := PySem.PyData.keyHash P (PySem.Str.ofString "UnicodeDecodeError"), key := PySem.Value.str (PySem.Str.ofString "UnicodeDecodeError") 147, val := PySem.Value.type "UnicodeDecodeError" }, { hash := PySem.PyData.keyHash P (PySem.Str.ofString "UnicodeEncodeError"), key := PySem.Value.str (PySem.Str.ofString "UnicodeEncodeError") 148, val := PySem.Value.type "UnicodeEncodeError" }, { hash := PySem.PyData.keyHash P (PySem.Str.ofString "UnicodeTranslateError"), key := PySem.Value.str (PySem.Str.ofString "UnicodeTranslateError") 149, val := PySem.Value.type "UnicodeTranslateError" }, { hash := PySem.PyData.keyHash P (PySem.Str.ofString "ExceptionGroup"), key := PySem.Value.str (PySem.Str.ofString "ExceptionGroup") 150, val := PySem.Value.type "ExceptionGroup" }, { hash := PySem.PyData.keyHash P (PySem.Str.ofString "EnvironmentError"), key := PySem.Value.str (PySem.Str.ofString "EnvironmentError") 151, val := PySem.Value.type "OSError" }, { hash := PySem.PyData.keyHash P (PySem.Str.ofString "IOError"), key := PySem.Value.str (PySem.Str.ofString "IOError") 152, val := PySem.Value.type "OSError" }, { hash := PySem.PyData.keyHash P (PySem.Str.ofString "open"), key := PySem.Value.str (PySem.Str.ofString "open") 153, val := PySem.Value.builtin "open" }, { hash := PySem.PyData.keyHash P (PySem.Str.ofString "quit"), key := PySem.Value.str (PySem.Str.ofString "quit") 154, val := PySem.Value.builtin "builtins.quit#opaque" }, { hash := PySem.PyData.keyHash P (PySem.Str.ofString "exit"), key := PySem.Value.str (PySem.Str.ofString "exit") 155, val := PySem.Value.builtin "builtins.exit#opaque" }, { hash := PySem.PyData.keyHash P (PySem.Str.ofString "copyright"), key := PySem.Value.str (PySem.Str.ofString "copyright") 156, val := PySem.Value.builtin "builtins.copyright#opaque" }, { hash := PySem.PyData.keyHash P (PySem.Str.ofString "credits"), key := PySem.Value.str (PySem.Str.ofString "credits") 157, val := PySem.Value.builtin "builtins.credits#opaque" }, { hash := PySem.PyData.keyHash P (PySem.Str.ofString "license"), key := PySem.Value.str (PySem.Str.ofString "license") 158, val := PySem.Value.builtin "builtins.license#opaque" }, { hash := PySem.PyData.keyHash P (PySem.Str.ofString "help"), key := PySem.Value.str (PySem.Str.ofString "help") 159, val := PySem.Value.builtin "builtins.help#opaque" }] 159 },
  { cls := PySem.Value.type "dict", data := PySem.Data.dict #[{ hash := PySem.PyData.keyHash P (PySem.Str.ofString "builtins"), key := PySem.Value.str (PySem.Str.ofString "builtins") 162, val := PySem.Value.ref 4 }, { hash := PySem.PyData.keyHash P (PySem.Str.ofString "__main__"), key := PySem.Value.str (PySem.Str.ofString "__main__") 163, val := PySem.Value.ref 5 }, { hash := PySem.PyData.keyHash P (PySem.Str.ofString "_sre"), key := PySem.Value.str (PySem.Str.ofString "_sre") 244, val := PySem.Value.ref 12 }] 3 },
  { cls := PySem.Value.none, data := PySem.Data.dict #[{ hash := PySem.PyData.keyHash P (kwTag ++ PySem.Str.ofString ".loaded._sre"), key := PySem.Value.str (kwTag ++ PySem.Str.ofString ".loaded._sre") 183, val := PySem.Value.bool Bool.true }, { hash := PySem.PyData.keyHash P (PySem.Str.ofString "class._frozen_importlib.BuiltinImporter"), key := PySem.Value.str (PySem.Str.ofString "class._frozen_importlib.BuiltinImporter") 185, val := PySem.Value.ref 14 }, { hash := PySem.PyData.keyHash P (PySem.Str.ofString "watched." ++ kwTag), key := PySem.Value.str (PySem.Str.ofString "watched." ++ kwTag) 206, val := PySem.Value.ref 18 }, { hash := PySem.PyData.keyHash P (PySem.Str.ofString "class._frozen_importlib.ModuleSpec"), key := PySem.Value.str (PySem.Str.ofString "class._frozen_importlib.ModuleSpec") 216, val := PySem.Value.ref 22 }, { hash := PySem.PyData.keyHash P (PySem.Str.ofString "sys.modules.booked-epoch"), key := PySem.Value.str (PySem.Str.ofString "sys.modules.booked-epoch") 245, val := PySem.Value.int 3 0 }, { hash := PySem.PyData.keyHash P (kwTag ++ PySem.Str.ofString ".later-laid._sre"), key := PySem.Value.str (kwTag ++ PySem.Str.ofString ".later-laid._sre") 270, val := PySem.Value.bool Bool.true }, { hash := PySem.PyData.keyHash P (PySem.Str.ofString "watched.library"), key := PySem.Value.str (PySem.Str.ofString "watched.library") 272, val := PySem.Value.ref 27 }, { hash := PySem.PyData.keyHash P (PySem.Str.ofString "watched.library-objects"), key := PySem.Value.str (PySem.Str.ofString "watched.library-objects") 0, val := PySem.Value.str (PySem.Str.ofString "\x0c") 0 }, { hash := PySem.PyData.keyHash P (PySem.Str.ofString "watched.library-deep._sre"), key := PySem.Value.str (PySem.Str.ofString "watched.library-deep._sre") 273, val := PySem.Value.str (PySem.Str.ofString "\x04\x00\x00\x0b\x04\x00\x00\x0b\x04\x00\x00\x03\x04\x00\x00\x0b\x08\x04dict\x02") 0 }] 9 },
  { cls := PySem.Value.type "dict", data := PySem.Data.dict #[{ hash := PySem.PyData.keyHash P (PySem.Str.ofString "__name__"), key := PySem.Value.str (PySem.Str.ofString "__name__") 165, val := PySem.Value.str (PySem.Str.ofString "__main__") 164 }, { hash := PySem.PyData.keyHash P (PySem.Str.ofString "__doc__"), key := PySem.Value.str (PySem.Str.ofString "__doc__") 166, val := PySem.Value.none }, { hash := PySem.PyData.keyHash P (PySem.Str.ofString "__package__"), key := PySem.Value.str (PySem.Str.ofString "__package__") 167, val := PySem.Value.none }, { hash := PySem.PyData.keyHash P (PySem.Str.ofString "__loader__"), key := PySem.Value.str (PySem.Str.ofString "__loader__") 168, val := PySem.Value.builtin "__main__.__loader__#opaque" }, { hash := PySem.PyData.keyHash P (PySem.Str.ofString "__spec__"), key := PySem.Value.str (PySem.Str.ofString "__spec__") 169, val := PySem.Value.none }, { hash := PySem.PyData.keyHash P (PySem.Str.ofString "__annotations__"), key := PySem.Value.str (PySem.Str.ofString "__annotations__") 170, val := PySem.Value.ref 6 }, { hash := PySem.PyData.keyHash P (PySem.Str.ofString "__builtins__"), key := PySem.Value.str (PySem.Str.ofString "__builtins__") 171, val := PySem.Value.ref 4 }, { hash := PySem.PyData.keyHash P (PySem.Str.ofString "__file__"), key := PySem.Value.str (PySem.Str.ofString "__file__") 173, val := PySem.Value.str (PySem.Str.ofString "/claim/cut.py") 172 }, { hash := PySem.PyData.keyHash P (PySem.Str.ofString "__cached__"), key := PySem.Value.str (PySem.Str.ofString "__cached__") 174, val := PySem.Value.none }, { hash := PySem.PyData.keyHash P (PySem.Str.ofString "_sre"), key := PySem.Value.str (PySem.Str.ofString "_sre") 275, val := PySem.Value.ref 12 }] 10 },
  { cls := PySem.Value.type "module", dict := Option.some 0 },
  { cls := PySem.Value.type "module", dict := Option.some 3 },
  { cls := PySem.Value.type "dict", data := PySem.Data.dict #[] },
  { cls := PySem.Value.type "tuple", data := PySem.Data.seq #[] },
  { cls := PySem.Value.none, data := PySem.Data.fields #[] },
  { cls := PySem.Value.type "code", data := PySem.Data.fields #[PySem.Value.str (PySem.Str.ofString "<module>") 176, PySem.Value.str (PySem.Str.ofString "<module>") 177, PySem.Value.str (PySem.Str.ofString "/claim/cut.py") 178, PySem.Value.int 1 0, PySem.Value.int 0 0, PySem.Value.int 0 0, PySem.Value.int 0 0, PySem.Value.int 0 0, PySem.Value.ref 7, PySem.Value.bool Bool.false, PySem.Value.int 175 0, PySem.Value.ref 8, PySem.Value.none, PySem.Value.none, PySem.Value.none, PySem.Value.none, PySem.Value.int 179 0, PySem.Value.int 1 0, PySem.Value.str (PySem.Str.ofString "/claim/cut.py") 180] },
  { cls := PySem.Value.type "frame", slots := #[Option.some (PySem.Value.ref 9), Option.some (PySem.Value.ref 3), Option.some (PySem.Value.ref 3), Option.none, Option.some (PySem.Value.str (PySem.Str.ofString "__main__") 164), Option.none, Option.some (PySem.Value.ref 0)] },
  { cls := PySem.Value.type "dict", data := PySem.Data.dict #[{ hash := PySem.PyData.keyHash P (PySem.Str.ofString "__name__"), key := PySem.Value.str (PySem.Str.ofString "__name__") 247, val := PySem.Value.str (PySem.Str.ofString "_sre") 246 }, { hash := PySem.PyData.keyHash P (PySem.Str.ofString "__doc__"), key := PySem.Value.str (PySem.Str.ofString "__doc__") 248, val := PySem.Value.none }, { hash := PySem.PyData.keyHash P (PySem.Str.ofString "__package__"), key := PySem.Value.str (PySem.Str.ofString "__package__") 250, val := PySem.Value.str (PySem.Str.ofString "") 249 }, { hash := PySem.PyData.keyHash P (PySem.Str.ofString "__loader__"), key := PySem.Value.str (PySem.Str.ofString "__loader__") 251, val := PySem.Value.builtin "off-the-table:_sre.__loader__:shared#opaque" }, { hash := PySem.PyData.keyHash P (PySem.Str.ofString "__spec__"), key := PySem.Value.str (PySem.Str.ofString "__spec__") 252, val := PySem.Value.builtin "off-the-table:_sre.__spec__:shared#opaque" }, { hash := PySem.PyData.keyHash P (PySem.Str.ofString "compile"), key := PySem.Value.str (PySem.Str.ofString "compile") 253, val := PySem.Value.builtin "_sre.compile" }, { hash := PySem.PyData.keyHash P (PySem.Str.ofString "template"), key := PySem.Value.str (PySem.Str.ofString "template") 254, val := PySem.Value.builtin "off-the-table:_sre.template:shared#opaque" }, { hash := PySem.PyData.keyHash P (PySem.Str.ofString "getcodesize"), key := PySem.Value.str (PySem.Str.ofString "getcodesize") 255, val := PySem.Value.builtin "off-the-table:_sre.getcodesize:shared#opaque" }, { hash := PySem.PyData.keyHash P (PySem.Str.ofString "ascii_iscased"), key := PySem.Value.str (PySem.Str.ofString "ascii_iscased") 256, val := PySem.Value.builtin "off-the-table:_sre.ascii_iscased:shared#opaque" }, { hash := PySem.PyData.keyHash P (PySem.Str.ofString "unicode_iscased"), key := PySem.Value.str (PySem.Str.ofString "unicode_iscased") 257, val := PySem.Value.builtin "off-the-table:_sre.unicode_iscased:shared#opaque" }, { hash := PySem.PyData.keyHash P (PySem.Str.ofString "ascii_tolower"), key := PySem.Value.str (PySem.Str.ofString "ascii_tolower") 258, val := PySem.Value.builtin "off-the-table:_sre.ascii_tolower:shared#opaque" }, { hash := PySem.PyData.keyHash P (PySem.Str.ofString "unicode_tolower"), key := PySem.Value.str (PySem.Str.ofString "unicode_tolower") 259, val := PySem.Value.builtin "off-the-table:_sre.unicode_tolower:shared#opaque" }, { hash := PySem.PyData.keyHash P (PySem.Str.ofString "MAGIC"), key := PySem.Value.str (PySem.Str.ofString "MAGIC") 261, val := PySem.Value.int 20230612 260 }, { hash := PySem.PyData.keyHash P (PySem.Str.ofString "CODESIZE"), key := PySem.Value.str (PySem.Str.ofString "CODESIZE") 263, val := PySem.Value.int 4 262 }, { hash := PySem.PyData.keyHash P (PySem.Str.ofString "MAXREPEAT"), key := PySem.Value.str (PySem.Str.ofString "MAXREPEAT") 265, val := PySem.Value.int 4294967295 264 }, { hash := PySem.PyData.keyHash P (PySem.Str.ofString "MAXGROUPS"), key := PySem.Value.str (PySem.Str.ofString "MAXGROUPS") 267, val := PySem.Value.int 1073741823 266 }, { hash := PySem.PyData.keyHash P (PySem.Str.ofString "copyright"), key := PySem.Value.str (PySem.Str.ofString "copyright") 269, val := PySem.Value.str (PySem.Str.ofString " SRE 2.2.2 Copyright (c) 1997-2002 by Secret Labs AB ") 268 }] 17 },
  { cls := PySem.Value.type "module", dict := Option.some 11 },
  { cls := PySem.Value.type "dict", data := PySem.Data.dict #[{ hash := PySem.PyData.keyHash P (PySem.Str.ofString "__module__"), key := PySem.Value.str (PySem.Str.ofString "__module__") 189, val := PySem.Value.str (PySem.Str.ofString "_frozen_importlib") 186 }, { hash := PySem.PyData.keyHash P (PySem.Str.ofString "__firstlineno__"), key := PySem.Value.str (PySem.Str.ofString "__firstlineno__") 190, val := PySem.Value.int 971 187 }, { hash := PySem.PyData.keyHash P (PySem.Str.ofString "__doc__"), key := PySem.Value.str (PySem.Str.ofString "__doc__") 191, val := PySem.Value.builtin "_frozen_importlib.BuiltinImporter.__doc__:str#opaque" }, { hash := PySem.PyData.keyHash P (PySem.Str.ofString "_ORIGIN"), key := PySem.Value.str (PySem.Str.ofString "_ORIGIN") 192, val := PySem.Value.str (PySem.Str.ofString "built-in") 188 }, { hash := PySem.PyData.keyHash P (PySem.Str.ofString "find_spec"), key := PySem.Value.str (PySem.Str.ofString "find_spec") 193, val := PySem.Value.builtin "_frozen_importlib.BuiltinImporter.find_spec#opaque" }, { hash := PySem.PyData.keyHash P (PySem.Str.ofString "create_module"), key := PySem.Value.str (PySem.Str.ofString "create_module") 194, val := PySem.Value.builtin "_frozen_importlib.BuiltinImporter.create_module#opaque" }, { hash := PySem.PyData.keyHash P (PySem.Str.ofString "exec_module"), key := PySem.Value.str (PySem.Str.ofString "exec_module") 195, val := PySem.Value.builtin "_frozen_importlib.BuiltinImporter.exec_module#opaque" }, { hash := PySem.PyData.keyHash P (PySem.Str.ofString "get_code"), key := PySem.Value.str (PySem.Str.ofString "get_code") 196, val := PySem.Value.builtin "_frozen_importlib.BuiltinImporter.get_code#opaque" }, { hash := PySem.PyData.keyHash P (PySem.Str.ofString "get_source"), key := PySem.Value.str (PySem.Str.ofString "get_source") 197, val := PySem.Value.builtin "_frozen_importlib.BuiltinImporter.get_source#opaque" }, { hash := PySem.PyData.keyHash P (PySem.Str.ofString "is_package"), key := PySem.Value.str (PySem.Str.ofString "is_package") 198, val := PySem.Value.builtin "_frozen_importlib.BuiltinImporter.is_package#opaque" }, { hash := PySem.PyData.keyHash P (PySem.Str.ofString "load_module"), key := PySem.Value.str (PySem.Str.ofString "load_module") 199, val := PySem.Value.builtin "_frozen_importlib.BuiltinImporter.load_module#opaque" }, { hash := PySem.PyData.keyHash P (PySem.Str.ofString "__static_attributes__"), key := PySem.Value.str (PySem.Str.ofString "__static_attributes__") 200, val := PySem.Value.ref 15 }, { hash := PySem.PyData.keyHash P (PySem.Str.ofString "__dict__"), key := PySem.Value.str (PySem.Str.ofString "__dict__") 202, val := PySem.Value.ref 16 }, { hash := PySem.PyData.keyHash P (PySem.Str.ofString "__weakref__"), key := PySem.Value.str (PySem.Str.ofString "__weakref__") 204, val := PySem.Value.ref 17 }] 14 },
  { cls := PySem.Value.type "type", data := PySem.Data.cls { name := PySem.Str.ofString "BuiltinImporter", bases := [PySem.Value.type "object"], mro := [PySem.Value.ref 14, PySem.Value.type "object"], ns := 13, qualname := PySem.Str.ofString "BuiltinImporter" } },
  { cls := PySem.Value.type "tuple", data := PySem.Data.seq #[] },
  { cls := PySem.Value.type "getset_descriptor", data := PySem.Data.fields #[PySem.Value.str (PySem.Str.ofString "__dict__") 201, PySem.Value.ref 14, PySem.Value.builtin "function.__dict__", PySem.Value.builtin "function.__dict__#set"] },
  { cls := PySem.Value.type "getset_descriptor", data := PySem.Data.fields #[PySem.Value.str (PySem.Str.ofString "__weakref__") 203, PySem.Value.ref 14, PySem.Value.builtin "ExceptionGroup.__weakref__", PySem.Value.none] },
  { cls := PySem.Value.none, data := PySem.Data.seq #[PySem.Value.int 13 0, PySem.Value.str (PySem.Str.ofString "\x06½\n__module__\x06º\x11_frozen_importlib\x06¾\x0f__firstlineno__\x04»\x00ϋ\x06¿\x07__doc__\t4_frozen_importlib.BuiltinImporter.__doc__:str#opaque\x06À\x07_ORIGIN\x06¼\x08built-in\x06Á\tfind_spec\t2_frozen_importlib.BuiltinImporter.find_spec#opaque\x06Â\x0dcreate_module\t6_frozen_importlib.BuiltinImporter.create_module#opaque\x06Ã\x0bexec_module\t4_frozen_importlib.BuiltinImporter.exec_module#opaque\x06Ä\x08get_code\t1_frozen_importlib.BuiltinImporter.get_code#opaque\x06Å\nget_source\t3_frozen_importlib.BuiltinImporter.get_source#opaque\x06Æ\nis_package\t3_frozen_importlib.BuiltinImporter.is_package#opaque\x06Ç\x0bload_module\t4_frozen_importlib.BuiltinImporter.load_module#opaque\x06È\x15__static_attributes__\x04\x00\x00\x0f\x06Ê\x08__dict__\x04\x00\x00\x10\x06Ì\x0b__weakref__\x04\x00\x00\x11") 0, PySem.Value.bool Bool.true, PySem.Value.bool Bool.true, PySem.Value.str (PySem.Str.ofString "") 205, PySem.Value.int 21 0, PySem.Value.str (PySem.Str.ofString "\x06ã\n__module__\x06Ù\x11_frozen_importlib\x06ä\x0f__firstlineno__\x04Ú\x00Ȳ\x06å\x07__doc__\t/_frozen_importlib.ModuleSpec.__doc__:str#opaque\x06æ\x08__init__\t,_frozen_importlib.ModuleSpec.__init__#opaque\x06ç\x08__repr__\t,_frozen_importlib.ModuleSpec.__repr__#opaque\x06è\x06__eq__\t*_frozen_importlib.ModuleSpec.__eq__#opaque\x06é\x06cached\t*_frozen_importlib.ModuleSpec.cached#opaque\x06ê\x06parent\t*_frozen_importlib.ModuleSpec.parent#opaque\x06ë\x0chas_location\t0_frozen_importlib.ModuleSpec.has_location#opaque\x06ì\x15__static_attributes__\x04\x00\x00\x17\x06î\x08__dict__\x04\x00\x00\x18\x06ð\x0b__weakref__\x04\x00\x00\x19\x06ñ\x08__hash__\x00") 0, PySem.Value.bool Bool.true, PySem.Value.bool Bool.true, PySem.Value.str (PySem.Str.ofString "") 242] 1 },
  { cls := PySem.Value.type "list", data := PySem.Data.seq #[] },
  { cls := PySem.Value.type "dict", data := PySem.Data.dict #[{ hash := PySem.PyData.keyHash P (PySem.Str.ofString "name"), key := PySem.Value.str (PySem.Str.ofString "name") 208, val := PySem.Value.str (PySem.Str.ofString "_sre") 207 }, { hash := PySem.PyData.keyHash P (PySem.Str.ofString "loader"), key := PySem.Value.str (PySem.Str.ofString "loader") 209, val := PySem.Value.ref 14 }, { hash := PySem.PyData.keyHash P (PySem.Str.ofString "origin"), key := PySem.Value.str (PySem.Str.ofString "origin") 210, val := PySem.Value.str (PySem.Str.ofString "built-in") 184 }, { hash := PySem.PyData.keyHash P (PySem.Str.ofString "loader_state"), key := PySem.Value.str (PySem.Str.ofString "loader_state") 211, val := PySem.Value.none }, { hash := PySem.PyData.keyHash P (PySem.Str.ofString "submodule_search_locations"), key := PySem.Value.str (PySem.Str.ofString "submodule_search_locations") 212, val := PySem.Value.none }, { hash := PySem.PyData.keyHash P (PySem.Str.ofString "_uninitialized_submodules"), key := PySem.Value.str (PySem.Str.ofString "_uninitialized_submodules") 213, val := PySem.Value.ref 19 }, { hash := PySem.PyData.keyHash P (PySem.Str.ofString "_set_fileattr"), key := PySem.Value.str (PySem.Str.ofString "_set_fileattr") 214, val := PySem.Value.bool Bool.false }, { hash := PySem.PyData.keyHash P (PySem.Str.ofString "_cached"), key := PySem.Value.str (PySem.Str.ofString "_cached") 215, val := PySem.Value.none }, { hash := PySem.PyData.keyHash P (PySem.Str.ofString "_initializing"), key := PySem.Value.str (PySem.Str.ofString "_initializing") 243, val := PySem.Value.bool Bool.false }] 9 },
  { cls := PySem.Value.type "dict", data := PySem.Data.dict #[{ hash := PySem.PyData.keyHash P (PySem.Str.ofString "__module__"), key := PySem.Value.str (PySem.Str.ofString "__module__") 227, val := PySem.Value.str (PySem.Str.ofString "_frozen_importlib") 217 }, { hash := PySem.PyData.keyHash P (PySem.Str.ofString "__firstlineno__"), key := PySem.Value.str (PySem.Str.ofString "__firstlineno__") 228, val := PySem.Value.int 562 218 }, { hash := PySem.PyData.keyHash P (PySem.Str.ofString "__doc__"), key := PySem.Value.str (PySem.Str.ofString "__doc__") 229, val := PySem.Value.builtin "_frozen_importlib.ModuleSpec.__doc__:str#opaque" }, { hash := PySem.PyData.keyHash P (PySem.Str.ofString "__init__"), key := PySem.Value.str (PySem.Str.ofString "__init__") 230, val := PySem.Value.builtin "_frozen_importlib.ModuleSpec.__init__#opaque" }, { hash := PySem.PyData.keyHash P (PySem.Str.ofString "__repr__"), key := PySem.Value.str (PySem.Str.ofString "__repr__") 231, val := PySem.Value.builtin "_frozen_importlib.ModuleSpec.__repr__#opaque" }, { hash := PySem.PyData.keyHash P (PySem.Str.ofString "__eq__"), key := PySem.Value.str (PySem.Str.ofString "__eq__") 232, val := PySem.Value.builtin "_frozen_importlib.ModuleSpec.__eq__#opaque" }, { hash := PySem.PyData.keyHash P (PySem.Str.ofString "cached"), key := PySem.Value.str (PySem.Str.ofString "cached") 233, val := PySem.Value.builtin "_frozen_importlib.ModuleSpec.cached#opaque" }, { hash := PySem.PyData.keyHash P (PySem.Str.ofString "parent"), key := PySem.Value.str (PySem.Str.ofString "parent") 234, val := PySem.Value.builtin "_frozen_importlib.ModuleSpec.parent#opaque" }, { hash := PySem.PyData.keyHash P (PySem.Str.ofString "has_location"), key := PySem.Value.str (PySem.Str.ofString "has_location") 235, val := PySem.Value.builtin "_frozen_importlib.ModuleSpec.has_location#opaque" }, { hash := PySem.PyData.keyHash P (PySem.Str.ofString "__static_attributes__"), key := PySem.Value.str (PySem.Str.ofString "__static_attributes__") 236, val := PySem.Value.ref 23 }, { hash := PySem.PyData.keyHash P (PySem.Str.ofString "__dict__"), key := PySem.Value.str (PySem.Str.ofString "__dict__") 238, val := PySem.Value.ref 24 }, { hash := PySem.PyData.keyHash P (PySem.Str.ofString "__weakref__"), key := PySem.Value.str (PySem.Str.ofString "__weakref__") 240, val := PySem.Value.ref 25 }, { hash := PySem.PyData.keyHash P (PySem.Str.ofString "__hash__"), key := PySem.Value.str (PySem.Str.ofString "__hash__") 241, val := PySem.Value.none }] 13 },
  { cls := PySem.Value.type "type", data := PySem.Data.cls { name := PySem.Str.ofString "ModuleSpec", bases := [PySem.Value.type "object"], mro := [PySem.Value.ref 22, PySem.Value.type "object"], ns := 21, qualname := PySem.Str.ofString "ModuleSpec" } },
  { cls := PySem.Value.type "tuple", data := PySem.Data.seq #[PySem.Value.str (PySem.Str.ofString "_cached") 219, PySem.Value.str (PySem.Str.ofString "_set_fileattr") 220, PySem.Value.str (PySem.Str.ofString "_uninitialized_submodules") 221, PySem.Value.str (PySem.Str.ofString "loader") 222, PySem.Value.str (PySem.Str.ofString "loader_state") 223, PySem.Value.str (PySem.Str.ofString "name") 224, PySem.Value.str (PySem.Str.ofString "origin") 225, PySem.Value.str (PySem.Str.ofString "submodule_search_locations") 226] },
  { cls := PySem.Value.type "getset_descriptor", data := PySem.Data.fields #[PySem.Value.str (PySem.Str.ofString "__dict__") 237, PySem.Value.ref 22, PySem.Value.builtin "function.__dict__", PySem.Value.builtin "function.__dict__#set"] },
  { cls := PySem.Value.type "getset_descriptor", data := PySem.Data.fields #[PySem.Value.str (PySem.Str.ofString "__weakref__") 239, PySem.Value.ref 22, PySem.Value.builtin "ExceptionGroup.__weakref__", PySem.Value.none] },
  { cls := PySem.Value.ref 22, dict := Option.some 20 },
  { cls := PySem.Value.none, data := PySem.Data.seq #[PySem.Value.int 11 0, PySem.Value.str { cps := #[6, 247, 8, 95, 95, 110, 97, 109, 101, 95, 95, 6, 246, 4, 95, 115, 114, 101, 6, 248, 7, 95, 95, 100, 111, 99, 95, 95, 0, 6, 250, 11, 95, 95, 112, 97, 99, 107, 97, 103, 101, 95, 95, 6, 249, 0, 6, 251, 10, 95, 95, 108, 111, 97, 100, 101, 114, 95, 95, 4, 0, 0, 14, 6, 252, 8, 95, 95, 115, 112, 101, 99, 95, 95, 4, 0, 0, 26, 6, 253, 7, 99, 111, 109, 112, 105, 108, 101, 9, 12, 95, 115, 114, 101, 46, 99, 111, 109, 112, 105, 108, 101, 6, 254, 8, 116, 101, 109, 112, 108, 97, 116, 101, 9, 13, 95, 115, 114, 101, 46, 116, 101, 109, 112, 108, 97, 116, 101, 6, 255, 11, 103, 101, 116, 99, 111, 100, 101, 115, 105, 122, 101, 9, 16, 95, 115, 114, 101, 46, 103, 101, 116, 99, 111, 100, 101, 115, 105, 122, 101, 6, 256, 13, 97, 115, 99, 105, 105, 95, 105, 115, 99, 97, 115, 101, 100, 9, 18, 95, 115, 114, 101, 46, 97, 115, 99, 105, 105, 95, 105, 115, 99, 97, 115, 101, 100, 6, 257, 15, 117, 110, 105, 99, 111, 100, 101, 95, 105, 115, 99, 97, 115, 101, 100, 9, 20, 95, 115, 114, 101, 46, 117, 110, 105, 99, 111, 100, 101, 95, 105, 115, 99, 97, 115, 101, 100, 6, 258, 13, 97, 115, 99, 105, 105, 95, 116, 111, 108, 111, 119, 101, 114, 9, 18, 95, 115, 114, 101, 46, 97, 115, 99, 105, 105, 95, 116, 111, 108, 111, 119, 101, 114, 6, 259, 15, 117, 110, 105, 99, 111, 100, 101, 95, 116, 111, 108, 111, 119, 101, 114, 9, 20, 95, 115, 114, 101, 46, 117, 110, 105, 99, 111, 100, 101, 95, 116, 111, 108, 111, 119, 101, 114, 6, 261, 5, 77, 65, 71, 73, 67, 4, 260, 0, 20230612, 6, 263, 8, 67, 79, 68, 69, 83, 73, 90, 69, 4, 262, 0, 4, 6, 265, 9, 77, 65, 88, 82, 69, 80, 69, 65, 84, 4, 264, 0, 4294967295, 6, 267, 9, 77, 65, 88, 71, 82, 79, 85, 80, 83, 4, 266, 0, 1073741823, 6, 269, 9, 99, 111, 112, 121, 114, 105, 103, 104, 116, 6, 268, 53, 32, 83, 82, 69, 32, 50, 46, 50, 46, 50, 32, 67, 111, 112, 121, 114, 105, 103, 104, 116, 32, 40, 99, 41, 32, 49, 57, 57, 55, 45, 50, 48, 48, 50, 32, 98, 121, 32, 83, 101, 99, 114, 101, 116, 32, 76, 97, 98, 115, 32, 65, 66, 32] } 0, PySem.Value.bool Bool.true, PySem.Value.bool Bool.false, PySem.Value.str (PySem.Str.ofString "_sre") 271] }]) ({ })
/-- the program's view: its top without the statements that nothing kept needs -/
noncomputable def VTop : Program := view PySem.Challenge.pw_ta0074_01 [0, 1, 3, 4, 5, 6, 7, 8, 9, 10, 12, 13, 15, 16, 17, 18, 19, 21, 22, 23, 25, 27, 28, 29, 30, 31, 32, 33]
noncomputable def looseL : List Str := [Str.ofString "COMPILER_FLAG_NAMES", Str.ofString "tspecials", Str.ofString "_name_disallowed_re", Str.ofString "_value_disallowed_re", Str.ofString "_formatparam"]
noncomputable def kAddrs : List Addr := [nat_lit 2, nat_lit 3, nat_lit 32, nat_lit 34, nat_lit 35, nat_lit 37, nat_lit 38, nat_lit 39, nat_lit 41, nat_lit 42, nat_lit 44, nat_lit 45, nat_lit 46, nat_lit 48, nat_lit 49, nat_lit 51, nat_lit 52, nat_lit 53, nat_lit 55, nat_lit 56, nat_lit 58, nat_lit 59, nat_lit 60, nat_lit 62, nat_lit 63, nat_lit 65, nat_lit 66, nat_lit 67, nat_lit 69, nat_lit 70, nat_lit 72, nat_lit 73, nat_lit 74, nat_lit 76, nat_lit 77, nat_lit 79, nat_lit 80, nat_lit 81, nat_lit 83, nat_lit 84, nat_lit 86, nat_lit 87, nat_lit 88, nat_lit 90, nat_lit 91, nat_lit 93, nat_lit 94, nat_lit 95, nat_lit 96, nat_lit 98, nat_lit 99, nat_lit 101, nat_lit 102, nat_lit 103, nat_lit 105, nat_lit 106, nat_lit 108, nat_lit 109, nat_lit 110, nat_lit 112, nat_lit 113, nat_lit 115, nat_lit 116, nat_lit 120, nat_lit 121, nat_lit 125, nat_lit 126, nat_lit 130, nat_lit 131, nat_lit 132, nat_lit 133, nat_lit 135, nat_lit 136, nat_lit 138, nat_lit 139, nat_lit 147, nat_lit 148, nat_lit 150, nat_lit 151, nat_lit 153, nat_lit 154, nat_lit 155, nat_lit 157, nat_lit 158, nat_lit 160, nat_lit 161, nat_lit 162, nat_lit 164, nat_lit 165, nat_lit 167, nat_lit 168, nat_lit 169, nat_lit 171, nat_lit 172, nat_lit 174, nat_lit 175, nat_lit 176, nat_lit 179, nat_lit 180, nat_lit 181, nat_lit 183, nat_lit 184, nat_lit 186, nat_lit 187, nat_lit 188, nat_lit 190, nat_lit 191, nat_lit 193, nat_lit 194, nat_lit 195, nat_lit 198, nat_lit 199, nat_lit 200, nat_lit 201, nat_lit 203, nat_lit 204, nat_lit 206, nat_lit 207, nat_lit 208, nat_lit 211, nat_lit 212, nat_lit 213, nat_lit 216, nat_lit 217, nat_lit 218, nat_lit 220, nat_lit 221, nat_lit 223, nat_lit 224, nat_lit 225, nat_lit 227, nat_lit 228, nat_lit 230, nat_lit 231, nat_lit 232, nat_lit 235, nat_lit 236, nat_lit 237, nat_lit 239, nat_lit 240, nat_lit 242, nat_lit 243, nat_lit 244, nat_lit 246, nat_lit 247, nat_lit 249, nat_lit 250, nat_lit 251, nat_lit 253, nat_lit 254, nat_lit 256, nat_lit 257, nat_lit 258, nat_lit 259, nat_lit 260, nat_lit 261, nat_lit 262, nat_lit 265, nat_lit 268, nat_lit 269, nat_lit 270, nat_lit 273, nat_lit 274, nat_lit 275, nat_lit 277, nat_lit 278, nat_lit 280, nat_lit 281, nat_lit 282, nat_lit 285, nat_lit 286, nat_lit 287, nat_lit 290, nat_lit 291, nat_lit 292, nat_lit 294, nat_lit 295, nat_lit 297, nat_lit 298, nat_lit 299, nat_lit 302, nat_lit 303]
theorem kAddrs_eq (P : Params) : kAddrs = (KTop P).map (·.1) := by kernel_rfl
noncomputable def xtV (s : Shared) : Bool := xlAt VTop [] s && recOk (RowW.records PySem.Challenge.rw_ta0074_01.row.toRowW) s
noncomputable def seenV (s : Shared) := (openSeen VTop looseL (importedModules PySem.Challenge.pw_ta0074_01.main.body) xtV true s, kAddrs.map s.heap.get?)
noncomputable def goodV (P : Params) := (openGood VTop looseL, (KTop P).map fun p => some p.2)
/-- what is asked of the top's run from the opening's heap -/
noncomputable def TopRuns (w : World) : Prop := ∀ os : OsState, (topFrom treeTable PySem.Challenge.pw_ta0074_01 w 3662 ⟨H0 w.params, { toList := [] }, {}, 276, os⟩).map seenV = some (goodV w.params)
end Mine
namespace Mine
/-- the opening, run by the kernel (the library's quick readings of the machine's words put in) -/
theorem opens (w : World) : (fencedOpening treeTable PySem.Challenge.pw_ta0074_01 w 3662).map (fun s => (s.heap, s.gens, s.drawn, s.toks)) = some (H0 w.params, ({ toList := [] } : Array GenState), ({} : Drawn), 276) := by
  unfold fencedOpening
  rw [PySem.W.Fast.te10274390034422433532, PySem.W.Fast.te14289696077712309145, PySem.W.Fast.te1435165496053646825, PySem.W.Fast.te14364793385576792824]
  kernel_rfl
end Mine
namespace Mine
theorem top_false (w : World) : TopRuns (w.withFollow "special-get-raises" false) := by
  intro os
  unfold topFrom seenV goodV
  rw [PySem.W.Fast.te14082659384304107361, PySem.W.Fast.te14364793385576792824, PySem.W.Fast.te4187177175401517315, PySem.W.Fast.te5923862056798008813]
  kernel_rfl
end Mine
namespace Mine
theorem top_true (w : World) : TopRuns (w.withFollow "special-get-raises" true) := by
  intro os
  unfold topFrom seenV goodV
  rw [PySem.W.Fast.te14082659384304107361, PySem.W.Fast.te14364793385576792824, PySem.W.Fast.te4187177175401517315, PySem.W.Fast.te5923862056798008813]
  kernel_rfl
end Mine
namespace Mine
noncomputable abbrev hookK : Hook := kHook KTop kAddrs kAddrs_eq
theorem leftV : LeftO PySem.Challenge.rw_ta0074_01.row.prog VTop looseL xtV hookK.obs hookK.val 3662 := by
  intro w
  obtain ⟨s₀, e, h⟩ := Option.map_eq_some_iff.mp (opens w)
  obtain ⟨hp, g, d, t, os⟩ := s₀
  simp only [Prod.mk.injEq] at h
  obtain ⟨rfl, rfl, rfl, rfl⟩ := h
  show ((fencedOpening treeTable PySem.Challenge.pw_ta0074_01 w 3662).bind (topFrom treeTable PySem.Challenge.pw_ta0074_01 w 3662)).map seenV = some (goodV w.params)
  rw [e]
  exact byRow2 "special-get-raises" (P := TopRuns) top_false top_true w os
/-- the looks at the text, each by itself (a smaller step for the kernel than all at once) -/
theorem saidL : PySem.Challenge.rw_ta0074_01.wellSaid = true := by
  unfold OpenLaw.wellSaid OpenRow.wellSaid OpenRow.partSaid looksOpen
  repeat' (with_reducible refine look_both ?_ ?_)
  all_goals decide +kernel
end Mine
namespace Mine
theorem or16 {x : Int} (h0 : 0 ≤ x) (h1 : x < 16) : x = 0 ∨ x = 1 ∨ x = 2 ∨ x = 3 ∨ x = 4 ∨ x = 5 ∨ x = 6 ∨ x = 7 ∨ x = 8 ∨ x = 9 ∨ x = 10 ∨ x = 11 ∨ x = 12 ∨ x = 13 ∨ x = 14 ∨ x = 15 := by omega
theorem or12 {j : Nat} (h : j < 12) : j = 0 ∨ j = 1 ∨ j = 2 ∨ j = 3 ∨ j = 4 ∨ j = 5 ∨ j = 6 ∨ j = 7 ∨ j = 8 ∨ j = 9 ∨ j = 10 ∨ j = 11 := by omega
theorem or5 {j : Nat} (h : j < 5) : j = 0 ∨ j = 1 ∨ j = 2 ∨ j = 3 ∨ j = 4 := by omega
end Mine
namespace Mine
local macro_rules | `(tactic| walk_at "Mine idle") => `(tactic| fail "idle")
theorem off_B : True := by w_top off; trivial

abbrev Keep (h h' : Heap) : Prop := ∀ b o, h.get? b = some o → h'.get? b = some o

theorem allLt_mem {d : Addr} (l : List (Addr × Obj)) (h : AllLt d l) : ∀ p ∈ l, p.1 < d := by
  induction l with
  | nil => intro p hp; cases hp
  | cons q r ih =>
    intro p hp
    rcases List.mem_cons.mp hp with rfl | hp
    · exact h.1
    · exact ih h.2 p hp

theorem ne_succ1 {l : List (Addr × Obj)} {L : Addr} (h : ∀ p ∈ l, p.1 < L) : ∀ p ∈ l, p.1 ≠ L + 1 := fun p hp e => absurd (h p hp) (by rw [e]; exact Nat.not_lt.mpr (Nat.le_add_right _ _))
theorem ne_succ2 {l : List (Addr × Obj)} {L : Addr} (h : ∀ p ∈ l, p.1 < L) : ∀ p ∈ l, p.1 ≠ L + 1 + 1 := fun p hp e => absurd (h p hp) (by rw [e]; exact Nat.not_lt.mpr (Nat.le_add_right _ 2))
theorem ne_succ3 {l : List (Addr × Obj)} {L : Addr} (h : ∀ p ∈ l, p.1 < L) : ∀ p ∈ l, p.1 ≠ L + 1 + 1 + 1 := fun p hp e => absurd (h p hp) (by rw [e]; exact Nat.not_lt.mpr (Nat.le_add_right _ 3))

abbrev Ar (dp un : Nat) (gd : Option (List Code)) (fr : Option (List Env)) : Around :=
  { handled := none, depth := dp, frames := fr, guards := gd, units := un }

noncomputable def Back (h₀ : Heap) (L : Addr) (m : Str → Option Value) (g : Heap) (_L : Addr) : Prop :=
  ∀ L' h' m' news', Fr g L' h' m' → News g L' h' news' → Fr h₀ L h' m ∧ News h₀ L h' news'

section
variable {prog : Program} {w : World} {A : Around} {s : Shared} {K : Frag} {h₀ : Heap} {L : Addr} {m : Str → Option Value} {news : List (Addr × Obj)}
  {name qual : Str} {params : Arguments} {body : List Stmt} {scope : Scope} {dV kV doc pm cdv ct oc : Value} {an od : Option Addr} {osl : Array (Option Value)} {f : Addr} {vals : Args} {binds : List (Str × Value)}
  {p : Program} {loose : List Str} {mean : ExcName → Option Value} {mg mb : Str → Option Value} {R : Result → Shared → Prop}

theorem groundN (F : Fr h₀ L s.heap m) (N : News h₀ L s.heap news) :
    Keep h₀ (hideAll s.heap (news.map (·.1))) ∧ ∀ L', Back h₀ L m (hideAll s.heap (news.map (·.1))) L' := by
  have apart : ∀ b o, h₀.get? b = some o → b ∉ news.map (·.1) := fun b o e q => by
    obtain ⟨p, hp, rfl⟩ := List.mem_map.mp q
    rw [(N p hp).2.2] at e; cases e
  have keep : Keep h₀ (hideAll s.heap (news.map (·.1))) := fun b o e => hideAll_get _ (F.keep b o e) (apart b o e)
  obtain ⟨oL, es, ep, hL, hLr⟩ := F.ns
  have nL : L ∉ news.map (·.1) := fun q => by
    obtain ⟨p, hp, e⟩ := List.mem_map.mp q
    exact (N p hp).2.1 e
  have hLg := hideAll_get (news.map (·.1)) hL nL
  refine ⟨keep, fun _ L' h' m' news' F' N' => ⟨⟨⟨oL, es, ep, F'.keep L oL hLg, hLr⟩, fun b o e => F'.keep b o (keep b o e), F.above⟩, fun p hp => ⟨(N' p hp).1, fun q => ?_, ?_⟩⟩⟩
  · have := (N' p hp).2.2; rw [q, hLg] at this; cases this
  · cases q : h₀.get? p.1 with
    | none => rfl
    | some o => have := (N' p hp).2.2; rw [keep _ _ q] at this; cases this

theorem enterN (F : Fr h₀ L s.heap m) (N : News h₀ L s.heap news) (X : K.In h₀) (T : Top p loose mean mg mb h₀)
    (ho : K.lookup f = some ⟨oc, od, .func (fnOf name qual params body scope dV kV doc pm an cdv ct), osl⟩) (hcd : codeIn K cdv qual = true) (hroom : A.depth < recursionLimit)
    (hbind : BindsTo s (fnOf name qual params body scope dV kV doc pm an cdv ct) vals binds) (hloc : ∀ y ∈ binds, scope.names.lookup y.1 = some .local)
    (h : ∀ g L' h₁, Fr g L' h₁ (fun y => binds.reverse.lookup y) → News g L' h₁ news → K.In g → Top p loose mean mg mb g → Back h₀ L m g L' → (∀ p ∈ news, p.1 < L') →
      wpAny (model prog w) (A.deeper (envOf qual scope L' f cdv)) (execs body (envOf qual scope L' f cdv))
        (fun fl s' => R (.ok (.ret (match fl with | .ret v => v | _ => .none))) s') (fun _ _ => False)
        { s with heap := h₁, toks := s.toks + binds.length })
    (hco : scope.isCoroutine = false) (hgen : scope.isGenerator = false) (hk : scope.kind = .function) (hcell : ∀ x ∈ scope.names, x.2 ≠ .cell) :
    codeAny (model prog w) A (.call (.ref f) vals) R s := by
  obtain ⟨keep, back⟩ := groundN F N
  refine codeAny_call_def (fd := fnX name qual params body scope [] dV kV doc pm an cdv ct) (body := body) (binds := binds) hroom ((X.keeps F.keep) _ _ ho) rfl (T.nolimit.keeps F.keep) (codeRec_of (X.keeps F.keep) hcd) rfl hbind hcell hloc (fun h₁ hns hk₁ => ?_) hco hgen hk
  exact wpAny_mono (h _ s.heap.objs.size h₁ ⟨hns, fun b o e => hk₁ b o (of_hideAll _ e), Nat.le_of_eq (hideAll_size _ _)⟩
    (fun p hp => ⟨hk₁ _ _ (N p hp).1, Nat.ne_of_lt (Heap.lt_size (N p hp).1), hideAll_none _ (List.mem_map_of_mem hp)⟩) (X.keeps keep) (T.keeps keep) (back _) (fun p hp => Heap.lt_size (N p hp).1)) (fun _ _ y => y) fun _ _ y => y.elim

theorem enterNC (F : Fr h₀ L s.heap m) (N : News h₀ L s.heap news) (X : K.In h₀) (T : Top p loose mean mg mb h₀)
    (ho : K.lookup f = some ⟨oc, od, .func (fnOf name qual params body scope dV kV doc pm an cdv ct), osl⟩) (hcd : codeIn K cdv qual = true) (hroom : A.depth < recursionLimit)
    (hbind : BindsTo s (fnOf name qual params body scope dV kV doc pm an cdv ct) vals binds)
    (hkind : (binds.all fun y => scope.names.lookup y.1 == some .local || scope.names.lookup y.1 == some .cell) = true)
    (hnd : ((cellsFrom 0 scope.names []).map (·.1)).Nodup)
    (h : ∀ g L' h₁ tk cells, Fr g L' h₁ (bindL (envOfC qual scope L' f cdv).kindOf binds fun _ => none) → News g L' h₁ (cells ++ news) →
      CellsAre (bindC (envOfC qual scope L' f cdv).kindOf binds fun _ => none) (cellsFrom (L' + 1) scope.names []) cells → K.In g → Top p loose mean mg mb g → Back h₀ L m g L' → (∀ p ∈ news, p.1 < L') →
      wpAny (model prog w) (A.deeper (envOfC qual scope L' f cdv)) (execs body (envOfC qual scope L' f cdv))
        (fun fl s' => R (.ok (.ret (match fl with | .ret v => v | _ => .none))) s') (fun _ _ => False)
        { s with heap := h₁, toks := tk })
    (hco : scope.isCoroutine = false) (hgen : scope.isGenerator = false) (hk : scope.kind = .function) :
    codeAny (model prog w) A (.call (.ref f) vals) R s := by
  obtain ⟨keep, back⟩ := groundN F N
  refine codeAny_call_function hroom ((X.keeps F.keep) _ _ ho) rfl hco hgen rfl (codeRec_of (X.keeps F.keep) hcd) (hbind _ _ _ _ ?_)
  refine wpAny_newFunctionEnv_cells hk (kindsX hkind _) fun env' he s' x => ?_
  subst he
  refine ⟨(T.nolimit.keeps F.keep).keeps x.toInCall.keep, codeAny_func ?_⟩
  obtain ⟨h₁, tk, rfl, _⟩ := x.done
  have hk₁ := x.toInCall.keep
  obtain ⟨cells, NC, Y⟩ := Cl.news (h₀ := s.heap) (Nat.le_refl _) fun n c hm => ⟨x.cell n c (lookup_of_mem_nodup (cellsFrom_names scope.names 0 (s.heap.objs.size + 1) [] [] rfl ▸ hnd) hm), x.above n c hm⟩
  refine wpAny_mono (h _ s.heap.objs.size h₁ tk cells ⟨x.toInCall.ns, fun b o e => hk₁ b o (of_hideAll _ e), Nat.le_of_eq (hideAll_size _ _)⟩ (fun p hp => ?_) Y (X.keeps keep) (T.keeps keep) (back _) (fun p hp => Heap.lt_size (N p hp).1)) (fun _ _ y => y) fun _ _ y => y.elim
  rcases List.mem_append.mp hp with hp | hp
  · refine ⟨(NC p hp).1, (NC p hp).2.1, ?_⟩
    cases q : (hideAll s.heap (news.map (·.1))).get? p.1 with
    | none => rfl
    | some o => have := of_hideAll _ q; rw [(NC p hp).2.2] at this; cases this
  · exact ⟨hk₁ _ _ (N p hp).1, Nat.ne_of_lt (Heap.lt_size (N p hp).1), hideAll_none _ (List.mem_map_of_mem hp)⟩
end

/-! a call within a walk: as the library's code_def and code_defC, without the frames below -/
section
variable {prog : Program} {w : World} {A : Around} {s : Shared} {K : Frag} {h₀ : Heap} {L : Addr} {m : Str → Option Value} {news : List (Addr × Obj)}
  {name qual : Str} {params : Arguments} {body : List Stmt} {scope : Scope} {dV kV doc pm cdv ct oc : Value} {an od : Option Addr} {osl : Array (Option Value)} {f : Addr} {vals : Args} {binds : List (Str × Value)}
  {p : Program} {loose : List Str} {mean : ExcName → Option Value} {mg mb : Str → Option Value} {R : Result → Shared → Prop}
theorem leaves {g : Heap} {L' : Addr} (b : Back h₀ L m g L') {v : Value} {s' : Shared} (h : LeaveK h₀ L m g R v s') : R (.ok (.ret v)) s' := by
  obtain ⟨L'', m', news', F', N', k⟩ := h
  exact k (b _ _ _ _ F' N').1 (b _ _ _ _ F' N').2

theorem enterL (F : Fr h₀ L s.heap m) (N : News h₀ L s.heap news) (X : K.In h₀) (T : Top p loose mean mg mb h₀)
    (ho : K.lookup f = some ⟨oc, od, .func (fnOf name qual params body scope dV kV doc pm an cdv ct), osl⟩) (hcd : codeIn K cdv qual = true) (hroom : A.depth < recursionLimit)
    (hbind : BindsTo s (fnOf name qual params body scope dV kV doc pm an cdv ct) vals binds) (hloc : ∀ y ∈ binds, scope.names.lookup y.1 = some .local)
    (h : ∀ g L' h₁, Fr g L' h₁ (fun y => binds.reverse.lookup y) → News g L' h₁ news → K.In g → Top p loose mean mg mb g → (∀ p ∈ news, p.1 < L') →
      wpAny (model prog w) (A.deeper (envOf qual scope L' f cdv)) (execs body (envOf qual scope L' f cdv))
        (fun fl s' => LeaveK h₀ L m g R (match fl with | .ret v => v | _ => .none) s') (fun _ _ => False)
        { s with heap := h₁, toks := s.toks + binds.length })
    (hco : scope.isCoroutine = false) (hgen : scope.isGenerator = false) (hk : scope.kind = .function) (hcell : ∀ x ∈ scope.names, x.2 ≠ .cell) :
    codeAny (model prog w) A (.call (.ref f) vals) R s := by
  refine enterN F N X T ho hcd hroom hbind hloc (fun g L' h₁ F' N' X' T' back lt => ?_) hco hgen hk hcell
  exact wpAny_mono (h g L' h₁ F' N' X' T' lt) (fun _ _ hl => leaves back hl) fun _ _ y => y

end

/-! a def with **more, called without -/
section
variable {prog : Program} {w : World} {A : Around} {s : Shared} {K : Frag} {h₀ : Heap} {L : Addr} {m : Str → Option Value} {news : List (Addr × Obj)}
  {name qual : Str} {params : Arguments} {body : List Stmt} {scope : Scope} {dV kV doc pm cdv ct oc : Value} {an od : Option Addr} {osl : Array (Option Value)} {f : Addr} {vals : Args}
  {p : Program} {loose : List Str} {mean : ExcName → Option Value} {mg mb : Str → Option Value} {R : Result → Shared → Prop}

theorem enterM {binds : Addr → List (Str × Value)} {g₁ : Addr → Sem (List (Str × Value))} (F : Fr h₀ L s.heap m) (N : News h₀ L s.heap news) (X : K.In h₀) (T : Top p loose mean mg mb h₀)
    (ho : K.lookup f = some ⟨oc, od, .func (fnOf name qual params body scope dV kV doc pm an cdv ct), osl⟩) (hcd : codeIn K cdv qual = true) (hroom : A.depth < recursionLimit)
    (hp : peekA K ⟨prog, w.params⟩ (bindArgs (fnOf name qual params body scope dV kV doc pm an cdv ct) vals) = some (dictOf [] 0, g₁)) (hg : ∀ D, g₁ D = pure (binds D))
    (hloc : ∀ D, ∀ y ∈ binds D, scope.names.lookup y.1 = some .local)
    (h : ∀ D g L' h₁ tk, (∀ p ∈ news, p.1 < D) → (D == sysModules) = false → Fr g L' h₁ (fun y => (binds D).reverse.lookup y) → News g L' h₁ ((D, dictOf [] 0) :: news) → K.In g → Top p loose mean mg mb g → (∀ p ∈ news, p.1 < L') →
      wpAny (model prog w) (A.deeper (envOf qual scope L' f cdv)) (execs body (envOf qual scope L' f cdv))
        (fun fl s' => LeaveK h₀ L m g R (match fl with | .ret v => v | _ => .none) s') (fun _ _ => False)
        { s with heap := h₁, toks := tk })
    (hco : scope.isCoroutine = false) (hgen : scope.isGenerator = false) (hk : scope.kind = .function) (hcell : ∀ x ∈ scope.names, x.2 ≠ .cell) :
    codeAny (model prog w) A (.call (.ref f) vals) R s := by
  refine codeAny_call_function (fd := fnOf name qual params body scope dV kV doc pm an cdv ct) (body := body) hroom ((X.keeps F.keep) _ _ ho) rfl hco hgen rfl (codeRec_of (X.keeps F.keep) hcd) ?_
  refine wp_of_peekA (o := dictOf [] 0) F N (X.keeps F.keep) rfl _ g₁ hp fun h' F' N' l => ?_
  rw [hg]
  refine wpAny_pure ?_
  obtain ⟨keep, back⟩ := groundN (s := { s with heap := h' }) F' N'
  refine wpAny_newFunctionEnv hcell (hloc _) (fun h₁ hns hsb => ⟨(T.nolimit.keeps F'.keep).fresh _ hsb, codeAny_func ?_⟩) hk
  have hk₁ : Keep h' h₁ := fun b o e => hsb.extBut b o (Nat.ne_of_lt (Heap.lt_size e)) (Heap.get?_push_of_some _ e)
  show wpAny (model prog w) (A.deeper (envOf qual scope h'.objs.size f cdv)) (execs body (envOf qual scope h'.objs.size f cdv)) _ _ _
  exact wpAny_mono (h _ _ h'.objs.size h₁ _ l (F.notModules (modules_low T.nolimit)) ⟨hns, fun b o e => hk₁ b o (of_hideAll _ e), Nat.le_of_eq (hideAll_size _ _)⟩
    (fun p hp => ⟨hk₁ _ _ (N' p hp).1, Nat.ne_of_lt (Heap.lt_size (N' p hp).1), hideAll_none _ (List.mem_map_of_mem hp)⟩) (X.keeps keep) (T.keeps keep) (fun p hp => Heap.lt_size (N' p (.tail _ hp)).1)) (fun _ _ hl => leaves (back h'.objs.size) hl) fun _ _ y => y.elim
end

/-! the for loop by an invariant -/
noncomputable def ForEnd (h₀ : Heap) (L I : Addr) (oI : Obj) (Jn : (Str → Option Value) → List (Addr × Obj) → Prop) (s₁ s' : Shared) : Prop :=
  ∃ h' tk' m' nw', s' = { s₁ with heap := h', toks := tk' } ∧ Fr h₀ L h' m' ∧ News h₀ L h' ((I, oI) :: nw') ∧ (∀ p ∈ nw', p.1 ≠ I) ∧ Jn m' nw'
noncomputable def ForTurn (h₀ : Heap) (L I : Addr) (oI : Obj) (Jn : (Str → Option Value) → List (Addr × Obj) → Prop) (s₁ : Shared) (Q : Flow → Shared → Prop) (f : Flow) (s' : Shared) : Prop :=
  match f with
  | .ret v => Q (.ret v) s'
  | .brk => Q .next s'
  | _ => ForEnd h₀ L I oI Jn s₁ s'

noncomputable def ForSrc (prog : Program) (w : World) (A : Around) (h₀ : Heap) (env : Env) (x : Str) (body orelse : List Stmt) (Q : Flow → Shared → Prop) (it : Value) (s₂ : Shared) : Prop :=
  ∃ (I : Addr) (fp : List Addr) (n : Nat) (P : Nat → Value → Prop) (St : Nat → Heap → Prop) (S : List (Addr × Obj) → Prop) (m : Str → Option Value) (news : List (Addr × Obj)) (J : Nat → (Str → Option Value) → List (Addr × Obj) → Prop),
    it = .ref I ∧ Walks prog w A I fp [I] n P St ∧ (∀ i h, St i h → ∃ o, h.get? I = some o) ∧
    (∀ i h h' o nw, St i h → h.get? I = some o → h'.get? I = some o → (∀ b o, h₀.get? b = some o → h'.get? b = some o) → News h₀ env.locals h' nw → S nw → St i h') ∧
    env.locals ∉ fp ∧ St 0 s₂.heap ∧ Fr h₀ env.locals s₂.heap m ∧ News h₀ env.locals s₂.heap news ∧ h₀.get? I = none ∧ (∀ p ∈ news, p.1 ≠ I) ∧ J 0 m news ∧ (∀ i m nw, J i m nw → S nw) ∧
    (∀ i v m₁ nw oI h tk, i < n → P i v → J i m₁ nw → Fr h₀ env.locals h (fun y => if y = x then some v else m₁ y) → News h₀ env.locals h ((I, oI) :: nw) → (∀ p ∈ nw, p.1 ≠ I) →
      wpAny (model prog w) A (execs body env) (ForTurn h₀ env.locals I oI (J (i + 1)) { s₂ with heap := h, toks := tk } Q) (fun _ _ => False) { s₂ with heap := h, toks := tk }) ∧
    ∀ h tk m' nw, Fr h₀ env.locals h m' → News h₀ env.locals h nw → J n m' nw → wpAny (model prog w) A (execs orelse env) Q (fun _ _ => False) { s₂ with heap := h, toks := tk }

section
variable {prog : Program} {w : World} {A : Around} {E : Value → Shared → Prop} {s : Shared} {h₀ : Heap} {env : Env} {x : Str} {body orelse : List Stmt} {Q : Flow → Shared → Prop}

theorem forJ {px pos : Pos} {iter : Expr} (hx : env.kindOf x = some .local) (hp : (env.scope.kind == .class || (env.scope.kind == .module && env.locals != env.globals)) = false)
    (h : wpAny (model prog w) A (eval iter env) (fun xv s₁ => wpAny (model prog w) A (pyIter xv) (ForSrc prog w A h₀ env x body orelse Q) E s₁) E s)
    (hs : ∀ x, foldedSetIterable iter env x = pure x := by intro _; rfl) :
    wpAny (model prog w) A (exec (.For (.Name x px) iter body orelse pos) env) Q E s := by
  refine wpAny_For (wpAny_mono h (fun xv s₁ h₁ => wpAny_mono h₁ (fun it s₂ h₂ => ?_) fun _ _ e => e) fun _ _ e => e) hs
  obtain ⟨I, fp, n, P, St, S, m, news, J, rfl, W, hIo, hSt, hLf, hst, F, N, hI₀, off, hJ0, hJS, turn, done⟩ := h₂
  have hIf : I ∈ fp := W.sub I (List.mem_singleton.mpr rfl)
  have hIL : env.locals ≠ I := fun q => hLf (q ▸ hIf)
  refine codeAny_forLoop (fun k s' => ∃ h' tk m' nw i, s' = { s₂ with heap := h', toks := tk } ∧ St i h' ∧ Fr h₀ env.locals h' m' ∧ News h₀ env.locals h' nw ∧ (∀ p ∈ nw, p.1 ≠ I) ∧ J i m' nw ∧ i ≤ n ∧ k = n + 1 - i) ?_ (n + 1)
    ⟨s₂.heap, s₂.toks, m, news, 0, rfl, hst, F, N, off, hJ0, Nat.zero_le _, rfl⟩
  rintro k s' ⟨h', tk, m', nw, i, rfl, hst', F', N', off', hJ, hi, rfl⟩
  by_cases hlt : i < n
  · refine W.item i _ _ _ hlt hst' fun v h₁ tk₁ hP hst₁ hk₁ => ?_
    have F₁ := LCg.fr_but F' hk₁ hIL hI₀
    have N₁ := LCg.news_but N' hk₁ off'
    refine wpAny_assign_Name (wpAny_storeName_local hx F₁.ns (fun h₂ hn₂ hs₂ => ?_) hp)
    have F₂ := F₁.set hn₂ hs₂
    have N₂ := N₁.set hs₂
    have hst₂ : St (i + 1) h₂ := W.frame _ _ _ hst₁ fun b hb o e => (hs₂.2 b fun q => hLf (q ▸ hb)).trans e
    obtain ⟨oI, hoI⟩ := hIo _ _ hst₂
    have N₃ : News h₀ env.locals h₂ ((I, oI) :: nw) := fun p hp => by
      rcases List.mem_cons.mp hp with rfl | hp
      · exact ⟨hoI, fun q => hIL q.symm, hI₀⟩
      · exact N₂ p hp
    refine wpAny_mono (turn i v m' nw oI h₂ _ hlt hP hJ F₂ N₃ off') (fun f s₃ h₃ => ?_) fun _ _ e => e.elim
    have fin : ForEnd h₀ env.locals I oI (J (i + 1)) { s₂ with heap := h₂, toks := tk₁ + 1 } s₃ → ∃ m, m < n + 1 - i ∧ ∃ h' tk m' nw i, s₃ = { s₂ with heap := h', toks := tk } ∧ St i h' ∧ Fr h₀ env.locals h' m' ∧ News h₀ env.locals h' nw ∧ (∀ p ∈ nw, p.1 ≠ I) ∧ J i m' nw ∧ i ≤ n ∧ m = n + 1 - i := by
      clear h₃
      rintro ⟨h₃, tk₃, m₃, nw₃, rfl, F₃, N₃', off₃, hJ₃⟩
      have N₄ : News h₀ env.locals h₃ nw₃ := fun p hp => N₃' p (List.mem_cons_of_mem _ hp)
      refine ⟨n + 1 - (i + 1), by omega, h₃, tk₃, m₃, nw₃, i + 1, rfl, hSt _ _ _ _ _ hst₂ hoI (N₃' (I, oI) List.mem_cons_self).1 F₃.keep N₄ (hJS _ _ _ hJ₃), F₃, N₄, off₃, hJ₃, hlt, rfl⟩
    cases f with
    | ret v => exact h₃
    | brk => exact h₃
    | next => exact fin h₃
    | cont => exact fin h₃
  · have hin : i = n := by omega
    subst hin
    refine W.done _ _ _ hst' fun h₁ tk₁ hk₁ => ?_
    exact wpAny_mono (done h₁ tk₁ m' nw (LCg.fr_but F' hk₁ hIL hI₀) (LCg.news_but N' hk₁ off') hJ) (fun _ _ y => y) fun _ _ e => e.elim

theorem forJF {L : Addr} {m : Str → Option Value} {px pos : Pos} {iter : Expr} (_F : Fr h₀ L s.heap m) (hx : env.kindOf x = some .local) (hp : (env.scope.kind == .class || (env.scope.kind == .module && env.locals != env.globals)) = false)
    (h : wpAny (model prog w) A (eval iter env) (fun xv s₁ => wpAny (model prog w) A (pyIter xv) (ForSrc prog w A h₀ env x body orelse Q) E s₁) E s)
    (hs : ∀ x, foldedSetIterable iter env x = pure x := by intro _; rfl) :
    wpAny (model prog w) A (exec (.For (.Name x px) iter body orelse pos) env) Q E s := forJ hx hp h hs

theorem ForTurn.next {L I : Addr} {oI : Obj} {Jn : (Str → Option Value) → List (Addr × Obj) → Prop} {s₁ : Shared} {Q : Flow → Shared → Prop} {h' : Heap} {tk : Nat} {m' : Str → Option Value} {all : List (Addr × Obj)}
    (F : Fr h₀ L h' m') (N : News h₀ L h' all) (nw' : List (Addr × Obj)) (hs : ∀ p ∈ (I, oI) :: nw', p ∈ all) (off : ∀ p ∈ nw', p.1 ≠ I) (hJ : Jn m' nw') : ForTurn h₀ L I oI Jn s₁ Q .next { s₁ with heap := h', toks := tk } :=
  ⟨h', tk, m', nw', rfl, F, fun p hp => N p (hs p hp), off, hJ⟩

theorem forSrc_list {L : Addr} (hL : env.locals = L) {ax : Addr} {its : Array Value} {m : Str → Option Value} {news : List (Addr × Obj)} (J : Nat → (Str → Option Value) → List (Addr × Obj) → Prop)
    (hh : A.handled = none) (F : Fr h₀ L s.heap m) (N : News h₀ L s.heap news) (hl : LCg.SrcAt h₀ ax its news) (hJ0 : J 0 m news) (hJS : ∀ i m nw, J i m nw → LCg.SrcAt h₀ ax its nw)
    (turn : ∀ i v m₁ nw I oI h tk, i < its.size → its[i]? = some v → J i m₁ nw → Fr h₀ L h (fun y => if y = x then some v else m₁ y) → News h₀ L h ((I, oI) :: nw) → (∀ p ∈ nw, p.1 ≠ I) →
      wpAny (model prog w) A (execs body env) (ForTurn h₀ L I oI (J (i + 1)) { s with heap := h, toks := tk } Q) (fun _ _ => False) { s with heap := h, toks := tk })
    (done : ∀ h tk m' nw, Fr h₀ L h m' → News h₀ L h nw → J its.size m' nw → wpAny (model prog w) A (execs orelse env) Q (fun _ _ => False) { s with heap := h, toks := tk }) :
    wpAny (model prog w) A (pyIter (.ref ax)) (ForSrc prog w A h₀ env x body orelse Q) E s := by
  subst hL
  have hls := hl.list F.keep N
  have hlt : ax < s.heap.objs.size := by obtain ⟨_, e, _⟩ := hls; exact Heap.lt_size e
  refine wpAny_pyIter_list hls ?_
  have up : Keep s.heap (s.heap.push { cls := .type "list_iterator", data := .fields #[.ref ax, .int 0 0] }) := fun b o e => Heap.get?_push_of_some _ e
  have hLax : env.locals ≠ ax := fun q => by
    rcases hl with ⟨o, e, _⟩ | ⟨o, hm, _⟩
    · exact absurd (Heap.lt_size e) (Nat.not_lt.mpr (q ▸ F.above))
    · exact (N _ hm).2.1 q.symm
  refine ⟨s.heap.objs.size, _, _, _, _, _, m, news, J, rfl, Walks.list hh _ ax (Nat.ne_of_lt hlt) its, fun i h st => by obtain ⟨o, e, _⟩ := st.1; exact ⟨o, e⟩, LCg.list_st, ?_, ⟨⟨_, Heap.get?_push_size _ rfl, rfl, rfl⟩, hls.push _⟩,
    F.keeps up, N.grown up, next_is_new F, fun p hp => Nat.ne_of_lt (Heap.lt_size (N p hp).1), hJ0, hJS, fun i v m₁ nw oI h tk hi hP hJ F₁ N₁ o₁ => turn i v m₁ nw _ oI h tk hi hP hJ F₁ N₁ o₁, done⟩
  intro hm
  rcases List.mem_cons.mp hm with e | hm
  · exact absurd F.ns.lt (e ▸ Nat.lt_irrefl _)
  · exact hLax (List.mem_singleton.mp hm)

theorem forSrc_range {L : Addr} (hL : env.locals = L) {r : Addr} {a b : Int} {t u v' : Tok} {n : Nat} {m : Str → Option Value} {news : List (Addr × Obj)} (J : Nat → (Str → Option Value) → List (Addr × Obj) → Prop)
    (hh : A.handled = none) (F : Fr h₀ L s.heap m) (N : News h₀ L s.heap news) (hr : IsRange s.heap r a b 1 t u v') (hsm : Builtin.Range.small a b 1 = true) (hn : Builtin.Range.rangeSize a b 1 = ((n : Nat) : Int)) (hJ0 : J 0 m news)
    (turn : ∀ i t m₁ nw I oI h tk, i < n → J i m₁ nw → Fr h₀ L h (fun y => if y = x then some (.int (a + (i : Int)) t) else m₁ y) → News h₀ L h ((I, oI) :: nw) → (∀ p ∈ nw, p.1 ≠ I) →
      wpAny (model prog w) A (execs body env) (ForTurn h₀ L I oI (J (i + 1)) { s with heap := h, toks := tk } Q) (fun _ _ => False) { s with heap := h, toks := tk })
    (done : ∀ h tk m' nw, Fr h₀ L h m' → News h₀ L h nw → J n m' nw → wpAny (model prog w) A (execs orelse env) Q (fun _ _ => False) { s with heap := h, toks := tk }) :
    wpAny (model prog w) A (pyIter (.ref r)) (ForSrc prog w A h₀ env x body orelse Q) E s := by
  subst hL
  refine wpAny_pyIter_range hr hsm ?_
  refine ⟨s.heap.objs.size, _, _, _, _, fun _ => True, m, news, J, rfl, LCg.range_walks hh a n, fun i h st => ⟨_, st⟩, LCg.range_st, ?_, by show IsRangeIter _ _ _ _ _; rw [hn]; simpa using Heap.get?_push_size _ rfl,
    F.keeps fun _ _ e => Heap.get?_push_of_some _ e, N.grown fun _ _ e => Heap.get?_push_of_some _ e, next_is_new F, fun p hp => Nat.ne_of_lt (Heap.lt_size (N p hp).1), hJ0, fun _ _ _ _ => trivial, fun i v m₁ nw oI h tk hi hP hJ F₁ N₁ o₁ => ?_, done⟩
  · intro hm
    exact absurd F.ns.lt ((List.mem_singleton.mp hm) ▸ Nat.lt_irrefl _)
  · obtain ⟨t, rfl⟩ := hP
    exact turn i t m₁ nw _ oI h tk hi hJ F₁ N₁ o₁
end

section
variable {prog : Program} {w : World} {A : Around} {E : Value → Shared → Prop} {s : Shared} {h₀ : Heap} {env : Env} {body orelse : List Stmt} {Q : Flow → Shared → Prop}
theorem codeAny_forLoop_none {R : Result → Shared → Prop} {target : Expr} {it : Value}
    (h : wpAny (model prog w) A (pyNext it) (fun r s₁ => r = none ∧ wpAny (model prog w) A (execs orelse env) (fun f s₃ => R (.ok f) s₃) (notedBy (model prog w) A env fun e s' => R (.error e) s') s₁) (notedBy (model prog w) A env fun e s' => R (.error e) s') s) :
    codeAny (model prog w) A (.forLoop target it body orelse env) R s := by
  refine codeAny_loop' rfl (fun _ s' => s' = s) (fun n s' hI => ?_) 0 rfl
  subst hI
  show wpAny _ _ ((forTurn target it body orelse env).onRaise (fun x => do noteFrame x env; theTreesLotGoes x)) _ _ s'
  refine wpAny_noted ?_
  simp only [forTurn]
  refine wpAny_bind (wpAny_standAt (wpAny_bind (wpAny_onRaise (wpAny_mono h (fun r s₁ h₁ => ?_) fun _ _ h' => wpAny_standAt h'))))
  obtain ⟨rfl, h₁⟩ := h₁
  exact wpAny_pure (.inr ⟨rfl, codeAny_block h₁⟩)

noncomputable def NoItems (prog : Program) (w : World) (A : Around) (h₀ : Heap) (env : Env) (orelse : List Stmt) (Q : Flow → Shared → Prop) (xv : Value) (s₁ : Shared) : Prop :=
  ∃ (l : Addr) (n : Nat) (m : Str → Option Value) (news : List (Addr × Obj)), xv = .ref l ∧ A.handled = none ∧ Fr h₀ env.locals s₁.heap m ∧ News h₀ env.locals s₁.heap news ∧ (l, W.listOf #[] n) ∈ news ∧
    ∀ h tk, Fr h₀ env.locals h m → News h₀ env.locals h news → wpAny (model prog w) A (execs orelse env) Q (fun _ _ => False) { s₁ with heap := h, toks := tk }

theorem NoItems.mk {s₁ : Shared} {l : Addr} {n : Nat} {m : Str → Option Value} {news : List (Addr × Obj)} (hh : A.handled = none) (F : Fr h₀ env.locals s₁.heap m) (N : News h₀ env.locals s₁.heap news) (hm : (l, W.listOf #[] n) ∈ news)
    (h : ∀ h tk, Fr h₀ env.locals h m → News h₀ env.locals h news → wpAny (model prog w) A (execs orelse env) Q (fun _ _ => False) { s₁ with heap := h, toks := tk }) : NoItems prog w A h₀ env orelse Q (.ref l) s₁ :=
  ⟨l, n, m, news, rfl, hh, F, N, hm, h⟩

theorem forEmpty {target iter : Expr} {pos : Pos} (h : wpAny (model prog w) A (eval iter env) (NoItems prog w A h₀ env orelse Q) E s)
    (hs : ∀ x, foldedSetIterable iter env x = pure x := by intro _; rfl) : wpAny (model prog w) A (exec (.For target iter body orelse pos) env) Q E s := by
  refine wpAny_For (wpAny_mono h (fun xv s₁ h₁ => ?_) fun _ _ e => e) hs
  obtain ⟨l, n, m, news, rfl, hh, F, N, hm, done⟩ := h₁
  have hl : s₁.heap.IsList l #[] := ⟨_, (N _ hm).1, rfl, n, rfl⟩
  refine wpAny_pyIter_list hl (codeAny_forLoop_none ?_)
  have up : Keep s₁.heap (s₁.heap.push { cls := .type "list_iterator", data := .fields #[.ref l, .int 0 0] }) := fun b o e => Heap.get?_push_of_some _ e
  have F₁ := F.keeps up
  have N₁ := N.grown up
  refine wpAny_pyNext_list_end hh ⟨_, Heap.get?_push_size _ rfl, rfl, rfl⟩ (hl.push _) rfl fun h' he => ⟨rfl, ?_⟩
  have k : ∀ b o, b ∉ [s₁.heap.objs.size] → (s₁.heap.push { cls := .type "list_iterator", data := .fields #[.ref l, .int 0 0] }).get? b = some o → h'.get? b = some o := fun b o hb e => he b o (by simpa using hb) e
  exact wpAny_mono (done h' _ (LCg.fr_but F₁ k (Nat.ne_of_lt F.ns.lt) (next_is_new F)) (LCg.news_but N₁ k fun p hp => Nat.ne_of_lt (Heap.lt_size (N p hp).1))) (fun _ _ y => y) fun _ _ y => y.elim
end

theorem forEmptyF {prog : Program} {w : World} {A : Around} {E : Value → Shared → Prop} {s : Shared} {h₀ : Heap} {env : Env} {body orelse : List Stmt} {Q : Flow → Shared → Prop} {L : Addr} {m : Str → Option Value} {target iter : Expr} {pos : Pos} (_F : Fr h₀ L s.heap m)
    (h : wpAny (model prog w) A (eval iter env) (NoItems prog w A h₀ env orelse Q) E s)
    (hs : ∀ x, foldedSetIterable iter env x = pure x := by intro _; rfl) : wpAny (model prog w) A (exec (.For target iter body orelse pos) env) Q E s := forEmpty h hs

theorem forItems0 {prog : Program} {w : World} {A : Around} {E : Value → Shared → Prop} {s : Shared} {h₀ : Heap} {env : Env} {body orelse : List Stmt} {Q : Flow → Shared → Prop} {m : Str → Option Value} {news : List (Addr × Obj)} {target o : Expr} {pos apos cpos : Pos} {d : Addr}
    (hh : A.handled = none) (F : Fr h₀ env.locals s.heap m) (N : News h₀ env.locals s.heap news) (hm : (d, dictOf [] 0) ∈ news) (hdS : (d == sysModules) = false)
    (ho : ∀ Q', Q' (.ref d) s → wpAny (model prog w) A (eval o env) Q' E s)
    (done : ∀ h tk, Fr h₀ env.locals h m → News h₀ env.locals h news → wpAny (model prog w) A (execs orelse env) Q (fun _ _ => False) { s with heap := h, toks := tk })
    (hbase : attributeBase o "items" env (eval o env) = eval o env) (hline : (apos.endLine == cpos.line) = true)
    (hs : ∀ x, foldedSetIterable (.Call (.Attribute o "items" apos) [] [] cpos) env x = pure x := by intro _; rfl) :
    wpAny (model prog w) A (exec (.For target (.Call (.Attribute o "items" apos) [] [] cpos) body orelse pos) env) Q E s := by
  have hd : s.heap.DictAt (strKind prog w) d [] 0 := ⟨_, #[], (N _ hm).1, ⟨rfl, rfl, rfl⟩, rfl, (fun e he => nomatch he), .nil, .nil⟩
  refine wpAny_For (wpAny_Call_items hdS hd.dictOf hbase hline ho ?_) hs
  refine wpAny_pyIter_items (knd := strKind prog w) (d := d) (kvs := []) (ep := 0) ⟨_, Heap.get?_push_size _ rfl, rfl, rfl⟩ (hd.push _) (codeAny_forLoop_none ?_)
  have up : Keep s.heap ((s.heap.push { cls := .type "dict_items", data := .fields #[.ref d] }).push { cls := .type "dict_itemiterator", data := .fields #[.none, .bool false, .ref d, .int 0 0, .int ([] : List (Str × Value)).length 0, .int (0 : Nat) 0, .none, .none] }) := fun b o e => Heap.get?_push_of_some _ (Heap.get?_push_of_some _ e)
  have F₁ := F.keeps up
  have N₁ := N.grown up
  refine wpAny_pyNext_items_end (knd := strKind prog w) (d := d) (kvs := []) (ep := 0) (i := 0) hh (Heap.get?_push_size _ rfl) ((hd.push _).push _) rfl fun h' he => ⟨rfl, ?_⟩
  have new : ∀ b o, s.heap.get? b = some o → b ≠ (s.heap.push { cls := .type "dict_items", data := .fields #[.ref d] }).objs.size := fun b o e => by
    rw [Heap.size_push]; exact Nat.ne_of_lt (Nat.lt_succ_of_lt (Heap.lt_size e))
  have k : Keep s.heap h' := fun b o e => he b o (new b o e) (up b o e)
  exact wpAny_mono (done h' _ (F.keeps k) (N.grown k)) (fun _ _ y => y) fun _ _ y => y.elim

section
variable {M : Model} {A : Around} {E : Value → Shared → Prop} {s : Shared} {h₀ : Heap} {L : Addr} {m : Str → Option Value} {env : Env} {x : Str} {v : Value} {Q : Value → Shared → Prop} {pos : Pos}
theorem loadX (F : Fr h₀ L s.heap m) (hL : env.locals = L) (hv : m x = some v) (h : Q v s) (hk : env.scope.kind = .function) (hx : env.kindOf x = some .local) : wpAny M A (loadName env x) Q E s := by
  subst hL
  exact wpAny_loadName_local hk hx F.ns hv h
theorem nameX (F : Fr h₀ L s.heap m) (hL : env.locals = L) (hv : m x = some v) (h : Q v s) (hk : env.scope.kind = .function) (hx : env.kindOf x = some .local) (hd : (x == ("__debug__" : Str)) = false) : wpAny M A (eval (.Name x pos) env) Q E s :=
  wpAny_Name (loadX F hL hv h hk hx) hd
end

/-! list comprehensions by an invariant -/
section
variable {prog : Program} {w : World} {A : Around} {E : Value → Shared → Prop} {s : Shared} {h₀ : Heap} {L : Addr} {m : Str → Option Value} {env : Env}

abbrev CLed (I : Addr) (oI : Obj) (C : Addr) (oC : Obj) (D : Addr) (ys : List Value) (nw : List (Addr × Obj)) : List (Addr × Obj) := (I, oI) :: (C, oC) :: (D, LCg.lst ys) :: nw

noncomputable def EltEnd (h₀ : Heap) (L : Addr) (m : Str → Option Value) (s₁ : Shared) (I : Addr) (oI : Obj) (C : Addr) (oC : Obj) (D : Addr) (ys : List Value) (Jn : List (Addr × Obj) → Nat → Prop) (s₂ : Shared) : Prop :=
  ∃ h' tk nw', s₂ = { s₁ with heap := h', toks := tk } ∧ Fr h₀ L h' m ∧ News h₀ L h' (CLed I oI C oC D ys nw') ∧ LCg.Off3 I C D nw' ∧ Jn nw' tk
theorem EltEnd.mk {s₁ : Shared} {I C D : Addr} {oI oC : Obj} {ys : List Value} {Jn : List (Addr × Obj) → Nat → Prop} {h' : Heap} {tk : Nat} {all : List (Addr × Obj)}
    (F : Fr h₀ L h' m) (N : News h₀ L h' all) (nw' : List (Addr × Obj)) (sub : ∀ p ∈ CLed I oI C oC D ys nw', p ∈ all) (off : LCg.Off3 I C D nw') (r : Jn nw' tk) :
    EltEnd h₀ L m s₁ I oI C oC D ys Jn { s₁ with heap := h', toks := tk } := ⟨h', tk, nw', rfl, F, fun p hp => N p (sub p hp), off, r⟩

noncomputable def TestEnd (prog : Program) (w : World) (A : Around) (h₀ : Heap) (L : Addr) (m : Str → Option Value) (s₁ : Shared) (elt : Expr) (cenv : Env) (I : Addr) (oI : Obj) (C : Addr) (oC : Obj) (D : Addr) (ys : List Value)
    (Jn : List Value → List (Addr × Obj) → Nat → Prop) (E' : Value → Shared → Prop) (ok : Bool) (s₂ : Shared) : Prop :=
  if ok = true then wpAny (model prog w) A (eval elt cenv) (fun y => EltEnd h₀ L m s₁ I oI C oC D ys (Jn (ys ++ [y]))) E' s₂
  else EltEnd h₀ L m s₁ I oI C oC D ys (Jn ys) s₂

theorem TestEnd.tt {s₁ s₂ : Shared} {elt : Expr} {cenv : Env} {I C D : Addr} {oI oC : Obj} {ys : List Value} {Jn : List Value → List (Addr × Obj) → Nat → Prop} {E' : Value → Shared → Prop}
    (h : wpAny (model prog w) A (eval elt cenv) (fun y => EltEnd h₀ L m s₁ I oI C oC D ys (Jn (ys ++ [y]))) E' s₂) :
    TestEnd prog w A h₀ L m s₁ elt cenv I oI C oC D ys Jn E' true s₂ := h
theorem TestEnd.ff {s₁ s₂ : Shared} {elt : Expr} {cenv : Env} {I C D : Addr} {oI oC : Obj} {ys : List Value} {Jn : List Value → List (Addr × Obj) → Nat → Prop} {E' : Value → Shared → Prop}
    (h : EltEnd h₀ L m s₁ I oI C oC D ys (Jn ys) s₂) :
    TestEnd prog w A h₀ L m s₁ elt cenv I oI C oC D ys Jn E' false s₂ := h

theorem TestEnd.of {s₁ s₂ : Shared} {elt : Expr} {cenv : Env} {I C D : Addr} {oI oC : Obj} {ys : List Value} {Jn : List Value → List (Addr × Obj) → Nat → Prop} {E' : Value → Shared → Prop} {b : Bool}
    (ht : b = true → wpAny (model prog w) A (eval elt cenv) (fun y => EltEnd h₀ L m s₁ I oI C oC D ys (Jn (ys ++ [y]))) E' s₂) (hf : b = false → EltEnd h₀ L m s₁ I oI C oC D ys (Jn ys) s₂) :
    TestEnd prog w A h₀ L m s₁ elt cenv I oI C oC D ys Jn E' b s₂ := by
  cases b with
  | true => exact TestEnd.tt (ht rfl)
  | false => exact TestEnd.ff (hf rfl)

noncomputable def compTurns (prog : Program) (w : World) (A : Around) (h₀ : Heap) (L : Addr) (m : Str → Option Value) (env : Env) (elt : Expr) (x : Str) (ifs : List Expr) (scope : Scope) (cl : List (Str × Addr)) (s₂ : Shared) (n : Nat) (P : Nat → Value → Prop)
    (J : Nat → List Value → List (Addr × Obj) → Nat → Prop) : Prop :=
  ∀ i v ys nw I oI C oC D m₂ h tk (E' : Value → Shared → Prop), i < n → P i v → J i ys nw tk → LCg.NsObj oC m₂ → m₂ x = some v → Fr h₀ L h m → News h₀ L h (CLed I oI C oC D ys nw) → LCg.Off3 I C D nw → ((@Ne Nat I C) ∧ (@Ne Nat I D) ∧ (@Ne Nat C D)) →
    wpAny (model prog w) A (forIn ifs true fun c r => if r = true then do let ok ← isTrue c (compEnvC scope cl C env) (eval c (compEnvC scope cl C env)); pure (ForInStep.yield ok) else pure (ForInStep.yield r))
      (TestEnd prog w A h₀ L m { s₂ with heap := h, toks := tk } elt (compEnvC scope cl C env) I oI C oC D ys (J (i + 1)) E') E' { s₂ with heap := h, toks := tk }

theorem block_J {elt iter : Expr} {x : Str} {px : Pos} {ifs : List Expr} {scope : Scope} {cl : List (Str × Addr)} {pos : Pos} {s₂ : Shared} {I : Addr} {fp : List Addr} {n : Nat} {P : Nat → Value → Prop} {St : Nat → Heap → Prop} {S : List (Addr × Obj) → Prop} {news : List (Addr × Obj)}
    {J : Nat → List Value → List (Addr × Obj) → Nat → Prop} {RR : Value → Addr → Result → Shared → Prop}
    (W : Walks prog w A I fp [I] n P St) (hsz : n ≤ sizeLine) (hIo : ∀ i h, St i h → ∃ o, h.get? I = some o)
    (hSt : ∀ i h h' o nw, St i h → h.get? I = some o → h'.get? I = some o → (∀ b o, h₀.get? b = some o → h'.get? b = some o) → News h₀ L h' nw → S nw → St i h')
    (hcell : ∀ y ∈ scope.names, y.2 ≠ .cell) (hkind : scope.kind = .function) (hx : scope.names.lookup x = some .local) (hst : St 0 s₂.heap) (hfp : ∀ b ∈ fp, b < s₂.heap.objs.size)
    (F : Fr h₀ L s₂.heap m) (N : News h₀ L s₂.heap news) (hIL : L ≠ I) (hI₀ : h₀.get? I = none) (off : ∀ p ∈ news, p.1 ≠ I) (hJ0 : J 0 [] news s₂.toks) (hJS : ∀ i ys nw tk, J i ys nw tk → S nw ∧ ys.length ≤ i) (hJm : ∀ i ys nw tk tk', tk ≤ tk' → J i ys nw tk → J i ys nw tk')
    (turns : compTurns prog w A h₀ L m env elt x ifs scope cl s₂ n P J)
    (hRR : ∀ D C h tk m' ys news', Fr h₀ L h m → News h₀ L h ((D, LCg.lst ys) :: news') → LCg.Off1 D news' → h.Ns C m' → h₀.get? C = none → h₀.get? D = none → C ≠ L → D ≠ L → C ≠ D → (∀ p ∈ news', p.1 ≠ C) → J n ys news' tk → RR (.ref D) C (.ok .next) { s₂ with heap := h, toks := tk }) :
    wpAny (model prog w) A (newList []) (fun acc s₃ => wpAny (model prog w) A (newFunctionEnv scope env.globals cl [] env.qual none .none (some env)) (fun cenv s₄ =>
      codeAny (model prog w) A (.compStart (.ListComp elt [⟨.Name x px, iter, ifs, 0⟩] scope pos) 0 (.ref I) acc { cenv with scope := relabel scope env }) (RR acc cenv.locals) s₄) E s₃) E s₂ := by
  refine wpAny_newObj_type (wpAny_newFunctionEnv hcell (by intro y hy; simp at hy) (fun h₁ hns₁ hsb₁ => ?_) hkind)
  dsimp only at hns₁ hsb₁ ⊢
  generalize hH2 : s₂.heap.push { cls := .type "list", dict := none, data := .seq ([] : List Value).toArray } = H2 at hns₁ hsb₁ ⊢
  have hC : H2.objs.size = s₂.heap.objs.size + 1 := by rw [← hH2, Heap.size_push]
  have below : ∀ b, b < s₂.heap.objs.size → b ≠ H2.objs.size ∧ b ≠ s₂.heap.objs.size := fun b hb => ⟨by rw [hC]; exact Nat.ne_of_lt (Nat.lt_succ_of_lt hb), Nat.ne_of_lt hb⟩
  have hDC : s₂.heap.objs.size ≠ H2.objs.size := by rw [hC]; exact Nat.ne_of_lt (Nat.lt_succ_self _)
  have hIf : I ∈ fp := W.sub I (List.mem_singleton.mpr rfl)
  have hIlt : I < s₂.heap.objs.size := hfp I hIf
  have hLlt : L < s₂.heap.objs.size := F.ns.lt
  have old : Keep s₂.heap h₁ := fun b o e => hsb₁.extBut b o (below b (Heap.lt_size e)).1 (Heap.get?_push_of_some _ (hH2 ▸ Heap.get?_push_of_some _ e))
  have hacc : h₁.get? s₂.heap.objs.size = some (LCg.lst []) := hsb₁.extBut _ _ hDC (Heap.get?_push_of_some _ (hH2 ▸ Heap.get?_push_size _ rfl))
  have hst₁ : St 0 h₁ := W.frame _ _ _ hst fun b _ o e => old b o e
  have fresh₀ : ∀ a, s₂.heap.objs.size ≤ a → h₀.get? a = none := fun a ha => by
    cases e : h₀.get? a with
    | none => rfl
    | some o' => exact absurd (Heap.lt_size (F.keep a o' e)) (Nat.not_lt.mpr ha)
  have hD₀ : h₀.get? s₂.heap.objs.size = none := fresh₀ _ (Nat.le_refl _)
  have hC₀ : h₀.get? H2.objs.size = none := fresh₀ _ (by rw [hC]; exact Nat.le_succ _)
  have hDL : s₂.heap.objs.size ≠ L := Ne.symm (below L hLlt).2
  have hCL : H2.objs.size ≠ L := Ne.symm (below L hLlt).1
  have hCI : I ≠ H2.objs.size := (below I hIlt).1
  have hDI : I ≠ s₂.heap.objs.size := (below I hIlt).2
  have hCf : H2.objs.size ∉ fp := fun hm => by have := hfp _ hm; rw [hC] at this; exact Nat.lt_irrefl _ (Nat.lt_of_succ_lt this)
  have hDf : s₂.heap.objs.size ∉ fp := fun hm => Nat.lt_irrefl _ (hfp _ hm)
  have off₀ : LCg.Off3 I H2.objs.size s₂.heap.objs.size news := LCg.Off3.of fun p hp => ⟨off p hp, (below _ (Heap.lt_size (N p hp).1)).1, (below _ (Heap.lt_size (N p hp).1)).2⟩
  have N₀ : News h₀ L h₁ ((s₂.heap.objs.size, LCg.lst []) :: news) := fun p hp => by
    rcases List.mem_cons.mp hp with rfl | hp
    · exact ⟨hacc, hDL, hD₀⟩
    · exact ⟨old _ _ (N p hp).1, (N p hp).2⟩
  have loop : ∀ s₃ : Shared, s₃ = { s₂ with heap := h₁, toks := s₂.toks + ([] : List (Str × Value)).length } →
      codeAny (model prog w) A (.compLoop (.ListComp elt [⟨.Name x px, iter, ifs, 0⟩] scope pos) 0 (.ref I) (.ref s₂.heap.objs.size) (compEnvC scope cl H2.objs.size env))
        (RR (.ref s₂.heap.objs.size) H2.objs.size) s₃ := by
    rintro s₃ rfl
    refine codeAny_compLoop_tests
      (fun k s' => ∃ h' tk i ys m' nw, s' = { s₂ with heap := h', toks := tk } ∧ i ≤ n ∧ k = n + 1 - i ∧ St i h' ∧ Fr h₀ L h' m ∧ h'.Ns H2.objs.size m' ∧ News h₀ L h' ((s₂.heap.objs.size, LCg.lst ys) :: nw) ∧
        LCg.Off3 I H2.objs.size s₂.heap.objs.size nw ∧ J i ys nw tk) ?_ (n + 1)
      ⟨h₁, _, 0, [], _, news, rfl, Nat.zero_le _, rfl, hst₁, F.keeps old, hns₁, N₀, off₀, hJ0⟩
    rintro k s' ⟨h', tk, i, ys, m', nw, rfl, hi, rfl, hst', F', hn', N', off', hJ⟩
    have off3 := off'.mem
    by_cases hlt : i < n
    · refine wpAny_with_toks (n := tk) (Nat.le_refl _) (W.item i _ _ _ hlt hst' fun v h₂ tk₂ hPv hst₂ hk₂ htk₂ => ?_)
      refine wpAny_assign_Name (wpAny_storeName_local (lookup_relabel_local hx) (hn'.at' fun o e => hk₂ _ o (by simpa using Ne.symm hCI) e) (fun h₃ hn₃ hs₃ => ?_) (by simp [compEnvC, relabel, hkind]))
      have hst₃ : St (i + 1) h₃ := W.frame _ _ _ hst₂ fun b hb o e => hs₃.extBut b o (fun q => hCf (by have q' : b = H2.objs.size := q; rw [← q']; exact hb)) e
      obtain ⟨oI, heI⟩ := hIo _ _ hst₃
      obtain ⟨oC, heC, hoC⟩ := LCg.ns_obj hn₃
      have F₃ : Fr h₀ L h₃ m := (LCg.fr_but F' hk₂ hIL hI₀).change hs₃ hCL hC₀
      have N₂ : News h₀ L h₂ ((s₂.heap.objs.size, LCg.lst ys) :: nw) := LCg.news_but N' hk₂ fun p hp => by
        rcases List.mem_cons.mp hp with rfl | hp
        · exact Ne.symm hDI
        · exact (off3 p hp).1
      have N₃ : News h₀ L h₃ (CLed I oI H2.objs.size oC s₂.heap.objs.size ys nw) := fun p hp => by
        rcases List.mem_cons.mp hp with rfl | hp
        · exact ⟨heI, Ne.symm hIL, hI₀⟩
        · rcases List.mem_cons.mp hp with rfl | hp
          · exact ⟨heC, hCL, hC₀⟩
          · refine ⟨hs₃.extBut _ _ ?_ (N₂ p hp).1, (N₂ p hp).2⟩
            rcases List.mem_cons.mp hp with rfl | hp
            · exact hDC
            · exact (off3 p hp).2.1
      -- how a turn's end leads on
      have next : ∀ (h₄ : Heap) tk₄ ys' nw', Fr h₀ L h₄ m → News h₀ L h₄ (CLed I oI H2.objs.size oC s₂.heap.objs.size ys' nw') → LCg.Off3 I H2.objs.size s₂.heap.objs.size nw' → J (i + 1) ys' nw' tk₄ →
          ∃ k', k' < n + 1 - i ∧ ∃ h' tk i ys m' nw, ({ s₂ with heap := h₄, toks := tk₄ } : Shared) = { s₂ with heap := h', toks := tk } ∧ i ≤ n ∧ k' = n + 1 - i ∧ St i h' ∧ Fr h₀ L h' m ∧ h'.Ns H2.objs.size m' ∧ News h₀ L h' ((s₂.heap.objs.size, LCg.lst ys) :: nw) ∧
            LCg.Off3 I H2.objs.size s₂.heap.objs.size nw ∧ J i ys nw tk := by
        intro h₄ tk₄ ys' nw' F₄ N₄ off₄ hJ₄
        have N₄' : News h₀ L h₄ nw' := fun p hp => N₄ p (List.mem_cons_of_mem _ (List.mem_cons_of_mem _ (List.mem_cons_of_mem _ hp)))
        exact ⟨n + 1 - (i + 1), by omega, h₄, tk₄, i + 1, ys', _, nw', rfl, hlt, rfl, hSt _ _ _ _ _ hst₃ heI (N₄ (I, oI) List.mem_cons_self).1 F₄.keep N₄' (hJS _ _ _ _ hJ₄).1, F₄,
          hoC.ns (N₄ (H2.objs.size, oC) (List.mem_cons_of_mem _ List.mem_cons_self)).1, fun p hp => N₄ p (List.mem_cons_of_mem _ (List.mem_cons_of_mem _ hp)), off₄, hJ₄⟩
      refine wpAny_mono (turns i v ys nw I oI H2.objs.size oC s₂.heap.objs.size _ h₃ _ _ hlt hPv (hJm _ _ _ _ _ (Nat.le_succ_of_le htk₂) hJ) hoC (by simp) F₃ N₃ off' ⟨hCI, hDI, Ne.symm hDC⟩) (fun ok s₄ h₄ => ?_) fun _ _ e => e
      unfold TestEnd at h₄
      cases ok with
      | false =>
        simp only [Bool.false_eq_true, if_false] at h₄ ⊢
        obtain ⟨h₅, tk₅, nw₅, rfl, F₅, N₅, off₅, hJ₅⟩ := h₄
        exact next h₅ tk₅ ys nw₅ F₅ N₅ off₅ hJ₅
      | true =>
        simp only [if_true] at h₄ ⊢
        refine wpAny_mono h₄ (fun y s₅ h₅ => ?_) fun _ _ e => e
        obtain ⟨h₅, tk₅, nw₅, rfl, F₅, N₅, off₅, hJ₅⟩ := h₅
        have hyl : ys.length ≤ i := (hJS _ _ _ _ hJ).2
        have zI := (N₅ (I, oI) List.mem_cons_self).1
        have zC := (N₅ (H2.objs.size, oC) (List.mem_cons_of_mem _ List.mem_cons_self)).1
        have zD := (N₅ (s₂.heap.objs.size, LCg.lst ys) (List.mem_cons_of_mem _ (List.mem_cons_of_mem _ List.mem_cons_self))).1
        refine append_at (hsz := by show ys.toArray.size ≤ sizeLine; rw [List.size_toArray]; omega) zD fun h₆ hs₆ hD₆ => ?_
        have off5 := off₅.mem
        refine next h₆ tk₅ (ys ++ [y]) nw₅ (F₅.change hs₆ hDL hD₀) (fun p hp => ?_) off₅ hJ₅
        rcases List.mem_cons.mp hp with rfl | hp
        · exact ⟨hs₆.extBut _ _ hDI zI, Ne.symm hIL, hI₀⟩
        · rcases List.mem_cons.mp hp with rfl | hp
          · exact ⟨hs₆.extBut _ _ (Ne.symm hDC) zC, hCL, hC₀⟩
          · rcases List.mem_cons.mp hp with rfl | hp
            · exact ⟨hD₆.trans (congrArg some (LCg.lst_snoc ys y)), hDL, hD₀⟩
            · have z := N₅ p (List.mem_cons_of_mem _ (List.mem_cons_of_mem _ (List.mem_cons_of_mem _ hp)))
              exact ⟨hs₆.extBut _ _ (off5 p hp).2.2 z.1, z.2⟩
    · obtain rfl : i = n := Nat.le_antisymm hi (Nat.not_lt.mp hlt)
      refine wpAny_with_toks (n := tk) (Nat.le_refl _) (W.done _ _ _ hst' fun h₂ tk₂ hk₂ htk₂ => ?_)
      exact hRR _ _ h₂ tk₂ _ ys nw (LCg.fr_but F' hk₂ hIL hI₀) (LCg.news_but N' hk₂ fun p hp => by
        rcases List.mem_cons.mp hp with rfl | hp
        · exact Ne.symm hDI
        · exact (off3 p hp).1) off'.one (hn'.at' fun o e => hk₂ _ o (by simpa using Ne.symm hCI) e) hC₀ hD₀ hCL hDL (Ne.symm hDC) (fun p hp => (off3 p hp).2.1) (hJm _ _ _ _ _ htk₂ hJ)
  exact codeAny_compStart_list (loop _ rfl) (W.self 0 _ _ _ hst₁ (loop _ rfl))

/-- the source of a block, and what it does; mf: the frame's names behind it -/
noncomputable def CompJ (prog : Program) (w : World) (A : Around) (h₀ : Heap) (L : Addr) (m : Str → Option Value) (mf : Addr → Str → Option Value) (env : Env) (elt : Expr) (x : Str) (ifs : List Expr) (scope : Scope) (cl : List (Str × Addr)) (Q : Value → Shared → Prop) (xv : Value) (s₁ : Shared) : Prop :=
  (∃ ax its news, ∃ J : Nat → List Value → List (Addr × Obj) → Nat → Prop, xv = .ref ax ∧ A.handled = none ∧ Fr h₀ L s₁.heap m ∧ News h₀ L s₁.heap news ∧ LCg.SrcAt h₀ ax its news ∧ its.size ≤ sizeLine ∧ J 0 [] news s₁.toks ∧ (∀ i ys nw tk, J i ys nw tk → LCg.SrcAt h₀ ax its nw ∧ ys.length ≤ i) ∧ (∀ i ys nw tk tk', tk ≤ tk' → J i ys nw tk → J i ys nw tk') ∧
    (∀ g, compTurns prog w A h₀ L m env elt x ifs scope cl { s₁ with heap := g } its.size (fun i v => its[i]? = some v) J) ∧
    ∀ D h tk ys nw, Fr h₀ L h (mf D) → News h₀ L h ((D, LCg.lst ys) :: nw) → LCg.Off1 D nw → J its.size ys nw tk → Q (.ref D) { s₁ with heap := h, toks := tk }) ∨
  (∃ r a b t u v n news, ∃ J : Nat → List Value → List (Addr × Obj) → Nat → Prop, xv = .ref r ∧ A.handled = none ∧ Fr h₀ L s₁.heap m ∧ News h₀ L s₁.heap news ∧ IsRange s₁.heap r a b 1 t u v ∧ Builtin.Range.small a b 1 = true ∧ Builtin.Range.rangeSize a b 1 = ((n : Nat) : Int) ∧ n ≤ sizeLine ∧
    J 0 [] news s₁.toks ∧ (∀ i ys nw tk, J i ys nw tk → ys.length ≤ i) ∧ (∀ i ys nw tk tk', tk ≤ tk' → J i ys nw tk → J i ys nw tk') ∧
    (∀ g, compTurns prog w A h₀ L m env elt x ifs scope cl { s₁ with heap := g } n (fun i v => ∃ t, v = .int (a + (i : Int)) t) J) ∧
    ∀ D h tk ys nw, Fr h₀ L h (mf D) → News h₀ L h ((D, LCg.lst ys) :: nw) → LCg.Off1 D nw → J n ys nw tk → Q (.ref D) { s₁ with heap := h, toks := tk })

theorem compBlock {elt iter : Expr} {x : Str} {px : Pos} {ifs : List Expr} {scope : Scope} {cl : List (Str × Addr)} {pos : Pos} {xv : Value} {s₁ : Shared} {mf : Addr → Str → Option Value} {Q : Value → Shared → Prop} {RR : Value → Addr → Result → Shared → Prop}
    (hcell : ∀ y ∈ scope.names, y.2 ≠ .cell) (hkind : scope.kind = .function) (hx : scope.names.lookup x = some .local)
    (h : CompJ prog w A h₀ L m mf env elt x ifs scope cl Q xv s₁)
    (hRR : ∀ D C h tk m' ys (nw : List (Addr × Obj)), (∀ D h tk', tk ≤ tk' → Fr h₀ L h (mf D) → News h₀ L h ((D, LCg.lst ys) :: nw) → LCg.Off1 D nw → Q (.ref D) { s₁ with heap := h, toks := tk' }) → Fr h₀ L h m → News h₀ L h ((D, LCg.lst ys) :: nw) → LCg.Off1 D nw → h.Ns C m' → h₀.get? C = none → h₀.get? D = none → C ≠ L → D ≠ L → C ≠ D → (∀ p ∈ nw, p.1 ≠ C) →
      RR (.ref D) C (.ok .next) { s₁ with heap := h, toks := tk }) :
    wpAny (model prog w) A (pyIter xv) (fun it s₂ => wpAny (model prog w) A (newList []) (fun acc s₃ => wpAny (model prog w) A (newFunctionEnv scope env.globals cl [] env.qual none .none (some env)) (fun cenv s₄ =>
      codeAny (model prog w) A (.compStart (.ListComp elt [⟨.Name x px, iter, ifs, 0⟩] scope pos) 0 it acc { cenv with scope := relabel scope env }) (RR acc cenv.locals) s₄) E s₃) E s₂) E s₁ := by
  rcases h with ⟨ax, its, news, J, rfl, hh, F, N, S, hsz, hJ0, hJS, hJm, turns, hQ⟩ | ⟨r, a, b, t, u, v, n, news, J, rfl, hh, F, N, hr, hsm, hn, hsz, hJ0, hJS, hJm, turns, hQ⟩
  · have hl := S.list F.keep N
    have hlt : ax < s₁.heap.objs.size := by obtain ⟨_, e, _⟩ := hl; exact Heap.lt_size e
    refine wpAny_pyIter_list hl ?_
    have up : Keep s₁.heap (s₁.heap.push { cls := .type "list_iterator", data := .fields #[.ref ax, .int 0 0] }) := fun b o e => Heap.get?_push_of_some _ e
    refine block_J (J := J) (Walks.list hh s₁.heap.objs.size ax (Nat.ne_of_lt hlt) its) hsz (fun i h st => by obtain ⟨o, e, _⟩ := st.1; exact ⟨o, e⟩) LCg.list_st hcell hkind hx ⟨⟨_, Heap.get?_push_size _ rfl, rfl, rfl⟩, hl.push _⟩ (fun b hb => ?_)
      (F.keeps up) (N.grown up) (Nat.ne_of_lt F.ns.lt) (next_is_new F) (fun p hp => Nat.ne_of_lt (Heap.lt_size (N p hp).1)) hJ0 hJS hJm (turns _) ?_
    · show b < (s₁.heap.push _).objs.size
      rw [Heap.size_push]
      rcases List.mem_cons.mp hb with rfl | hb
      · exact Nat.lt_succ_self _
      · rw [List.mem_singleton.mp hb]; exact Nat.lt_succ_of_lt hlt
    · intro D C h tk m' ys nw F' N' o1 hn hC₀ hD₀ hCL hDL hCD offC hJ
      exact hRR D C h tk m' ys nw (fun D h tk' le F N o => hQ D h tk' ys nw F N o (hJm _ _ _ _ _ le hJ)) F' N' o1 hn hC₀ hD₀ hCL hDL hCD offC
  · refine wpAny_pyIter_range hr hsm ?_
    refine block_J (J := J) (S := fun _ => True) (LCg.range_walks hh a n) hsz (fun i h st => ⟨_, st⟩) LCg.range_st hcell hkind hx (by show IsRangeIter _ _ _ _ _; rw [hn]; simpa using Heap.get?_push_size _ rfl) (fun b hb => ?_)
      (F.keeps fun _ _ e => Heap.get?_push_of_some _ e) (N.grown fun _ _ e => Heap.get?_push_of_some _ e) (Nat.ne_of_lt F.ns.lt) (next_is_new F) (fun p hp => Nat.ne_of_lt (Heap.lt_size (N p hp).1)) hJ0 (fun i ys nw tk hJ => ⟨trivial, hJS i ys nw tk hJ⟩) hJm (turns _) ?_
    · rw [List.mem_singleton.mp hb]
      show s₁.heap.objs.size < (s₁.heap.push _).objs.size
      rw [Heap.size_push]; exact Nat.lt_succ_self _
    · intro D C h tk m' ys nw F' N' o1 hn hC₀ hD₀ hCL hDL hCD offC hJ
      exact hRR D C h tk m' ys nw (fun D h tk' le F N o => hQ D h tk' ys nw F N o (hJm _ _ _ _ _ le hJ)) F' N' o1 hn hC₀ hD₀ hCL hDL hCD offC

theorem compEval {elt iter : Expr} {x : Str} {px : Pos} {ifs : List Expr} {scope : Scope} {cl : List (Str × Addr)} {pos : Pos} {Q : Value → Shared → Prop} (_F₀ : Fr h₀ L s.heap m)
    (hclos : closureFor scope env = pure cl) (hcell : ∀ y ∈ scope.names, y.2 ≠ .cell) (hkind : scope.kind = .function)
    (hnames : ∀ y ∈ scope.names, y.2 = .local → scope.names.lookup y.1 = some .local) (hx : scope.names.lookup x = some .local)
    (h : wpAny (model prog w) A (eval iter env) (CompJ prog w A h₀ L m (fun _ => m) env elt x ifs scope cl Q) E s)
    (hs : ∀ x, foldedSetIterable iter env x = pure x := by intro _; rfl) :
    wpAny (model prog w) A (eval (.ListComp elt [⟨.Name x px, iter, ifs, 0⟩] scope pos) env) Q E s := by
  rw [eval_ListComp]
  refine wpAny_comprehension_free (use := none) rfl hs hclos hkind hnames (wpAny_mono h (fun xv s₁ h₁ => ?_) fun _ _ e => e)
  refine compBlock (RR := fun acc C => compPost (model prog w) A E none Q acc C) hcell hkind hx h₁ ?_
  intro D C h tk m' ys nw q F' N' o1 hn hC₀ _ hCL _ hCD offC
  refine ⟨m', hn, fun h'' hs'' => q D h'' tk (Nat.le_refl _) (F'.change hs'' hCL hC₀) (fun p hp => ?_) o1⟩
  refine ⟨hs''.extBut _ _ ?_ (N' p hp).1, (N' p hp).2⟩
  rcases List.mem_cons.mp hp with rfl | hp
  · exact Ne.symm hCD
  · exact offC p hp

theorem compAssign {elt iter : Expr} {x y : Str} {px py : Pos} {ifs : List Expr} {scope : Scope} {cl : List (Str × Addr)} {pos spos : Pos} {Q : Flow → Shared → Prop} (_F₀ : Fr h₀ L s.heap m) (hLe : env.locals = L)
    (hsw : swapsWith (.ListComp elt [⟨.Name x px, iter, ifs, 0⟩] scope pos) (some (.Name y py)) spos.line env = pure true)
    (hclos : closureFor scope env = pure cl) (hcell : ∀ y ∈ scope.names, y.2 ≠ .cell) (hkind : scope.kind = .function)
    (hnames : ∀ y ∈ scope.names, y.2 = .local → scope.names.lookup y.1 = some .local) (hx : scope.names.lookup x = some .local)
    (hy : env.kindOf y = some .local) (hp : (env.scope.kind == .class || (env.scope.kind == .module && env.locals != env.globals)) = false)
    (h : wpAny (model prog w) A (eval iter env) (CompJ prog w A h₀ L m (fun D z => if z = y then some (.ref D) else m z) env elt x ifs scope cl (fun _ s' => Q .next s')) E s)
    (hs : ∀ x, foldedSetIterable iter env x = pure x := by intro _; rfl) :
    wpAny (model prog w) A (exec (.Assign [.Name y py] (.ListComp elt [⟨.Name x px, iter, ifs, 0⟩] scope pos) spos) env) Q E s := by
  subst hLe
  rw [exec_Assign_Name_used _ _ _ _ hsw]
  refine wpAny_bind (wpAny_standAt (wpAny_bind ?_))
  show wpAny _ A (do let _ ← comprehension (.ListComp elt [⟨.Name x px, iter, ifs, 0⟩] scope pos) scope env _ (newList []) false (eval iter env) (some (assign (.Name y py) env))) _ _ s
  refine wpAny_bind (wpAny_mono (wpAny_comprehension_free (use := some (assign (.Name y py) env)) (Q := fun _ s' => Q .next s') rfl hs hclos hkind hnames
    (wpAny_mono h (fun xv s₁ h₁ => ?_) fun _ _ e => e)) (fun _ s' hq => wpAny_pure (wpAny_pure hq)) fun _ _ e => e)
  refine compBlock (RR := fun acc C => compPost (model prog w) A E (some (assign (.Name y py) env)) (fun _ s' => Q .next s') acc C) hcell hkind hx h₁ ?_
  intro D C h tk m' ys nw q F' N' o1 hn hC₀ hD₀ hCL hDL hCD offC
  show wpAny _ A (assign (.Name y py) env (.ref D)) _ _ _
  refine wpAny_assign_Name (wpAny_storeName_local hy F'.ns (fun h₂ hn₂ hs₂ => ?_) hp)
  refine ⟨m', hn.sameBut hs₂ hCL, fun h₃ hs₃ => ?_⟩
  refine q D h₃ _ (Nat.le_succ _) ((F'.set hn₂ hs₂).change hs₃ hCL hC₀) (fun p hp => ?_) o1
  refine ⟨hs₃.extBut _ _ ?_ ((N'.set hs₂) p hp).1, (N' p hp).2⟩
  rcases List.mem_cons.mp hp with rfl | hp
  · exact Ne.symm hCD
  · exact offC p hp
end
end Mine
namespace Mine
noncomputable def retNone (x : Option Fin) : Bool := match x with | some (.done (.ret .none)) => true | _ => false
noncomputable def searchNone (K : Frag) (S : Setting) (re : Addr) (x : Str) (t : Tok) : Bool := retNone (peek K S (Builtin.«re.Pattern.search» ⟨[.ref re, .str x t], []⟩))
theorem retNone_eq {x : Option Fin} (h : retNone x = true) : x = some (.done (.ret .none)) := by
  unfold retNone at h
  split at h
  · rfl
  · cases h

theorem slot_search : Slot "re.Pattern" "search" "re.Pattern.search" :=
  .of (owner := "re.Pattern") (n := "search") (by rw [typeLookup_type, builtinLookup_eq_fast]; kernel_rfl) (by decide +kernel) (by decide +kernel) (by decide +kernel)
    (by first | exact .inl (by decide +kernel) | exact .inr (by decide +kernel)) (by rw [isSubtype_type]; kernel_rfl)
theorem entry_search : entryFor table "re.Pattern.search" = some Builtin.«re.Pattern.search» := entryFor_of_tree (by kernel_rfl)
theorem args_search (a b : Value) : argsOk "re.Pattern.search" ⟨[a, b], []⟩ := by unfold argsOk; kernel_rfl

theorem plain_re : PlainAttrs "re.Pattern" :=
  ⟨⟨"object.__getattribute__", by rw [typeLookup_type, builtinLookup_eq_fast]; kernel_rfl, by decide +kernel⟩, by rw [typeLookup_type, builtinLookup_eq_fast]; kernel_rfl⟩
theorem type_search : typeOf (.builtin "re.Pattern.search") = pure (.type "method_descriptor") := by show builtinType _ = _; rw [builtinType_eq_fast]; kernel_rfl
/-- a text in which neither disallowed class has a sign -/
structure Clean (w : World) (x : Str) : Prop where
  name : ∀ t, searchNone (KTop w.params) ⟨PySem.Challenge.rw_ta0074_01.row.prog, w.params⟩ 126 x t = true
  value : ∀ t, searchNone (KTop w.params) ⟨PySem.Challenge.rw_ta0074_01.row.prog, w.params⟩ 131 x t = true

section
variable {w : World} {A : Around} {s : Shared} {Q E : Value → Shared → Prop} {h₀ : Heap} {L : Addr} {m : Str → Option Value} {x : Str} {t : Tok}
theorem re_type (re : Addr) (o : Obj) (hk : (KTop w.params).lookup re = some o) (hc : o.cls = .type "re.Pattern") (F : Fr h₀ L s.heap m) (X : (KTop w.params).In h₀) : s.TypeIs (.ref re) "re.Pattern" := ⟨o, F.keep _ _ (X _ _ hk), hc⟩

theorem search_name (F : Fr h₀ L s.heap m) (X : (KTop w.params).In h₀) (c : Clean w x) (h : Q .none s) :
    wpAny (model PySem.Challenge.rw_ta0074_01.row.prog w) A (call (.builtin "re.Pattern.search") [.ref 126, .str x t]) Q E s :=
  wpAny_call_entry slot_search (re_type 126 ((KTop w.params).lookup 126 |>.getD default) (by kernel_rfl) (by kernel_rfl) F X) entry_search
    ((Looks.of_peek (M := model PySem.Challenge.rw_ta0074_01.row.prog w) (X.keeps F.keep) (retNone_eq (c.name t))).here ⟨_, rfl, h⟩) (args_search _ _)
theorem search_value (F : Fr h₀ L s.heap m) (X : (KTop w.params).In h₀) (c : Clean w x) (h : Q .none s) :
    wpAny (model PySem.Challenge.rw_ta0074_01.row.prog w) A (call (.builtin "re.Pattern.search") [.ref 131, .str x t]) Q E s :=
  wpAny_call_entry slot_search (re_type 131 ((KTop w.params).lookup 131 |>.getD default) (by kernel_rfl) (by kernel_rfl) F X) entry_search
    ((Looks.of_peek (M := model PySem.Challenge.rw_ta0074_01.row.prog w) (X.keeps F.keep) (retNone_eq (c.value t))).here ⟨_, rfl, h⟩) (args_search _ _)
theorem method_re (re : Addr) (o : Obj) (hk : (KTop w.params).lookup re = some o) (hc : o.cls = .type "re.Pattern") (hn : o.dict = none) {pl : Sem Bool} {Q : Value × List Value → Shared → Prop} (F : Fr h₀ L s.heap m) (X : (KTop w.params).In h₀) (h : Q (.builtin "re.Pattern.search", [.ref re]) s) :
    wpAny (model PySem.Challenge.rw_ta0074_01.row.prog w) A (getMethod (.ref re) "search" pl) Q E s :=
  getMethod_builtin (re_type re o hk hc F X) plain_re slot_search type_search (fun a e => by cases e; exact ⟨o, F.keep _ _ (X _ _ hk), hn⟩) h
theorem method_name {pl : Sem Bool} {Q : Value × List Value → Shared → Prop} (F : Fr h₀ L s.heap m) (X : (KTop w.params).In h₀) (h : Q (.builtin "re.Pattern.search", [.ref 126]) s) :
    wpAny (model PySem.Challenge.rw_ta0074_01.row.prog w) A (getMethod (.ref 126) "search" pl) Q E s :=
  method_re 126 ((KTop w.params).lookup 126 |>.getD default) (by kernel_rfl) (by kernel_rfl) (by kernel_rfl) F X h
theorem method_value {pl : Sem Bool} {Q : Value × List Value → Shared → Prop} (F : Fr h₀ L s.heap m) (X : (KTop w.params).In h₀) (h : Q (.builtin "re.Pattern.search", [.ref 131]) s) :
    wpAny (model PySem.Challenge.rw_ta0074_01.row.prog w) A (getMethod (.ref 131) "search" pl) Q E s :=
  method_re 131 ((KTop w.params).lookup 131 |>.getD default) (by kernel_rfl) (by kernel_rfl) (by kernel_rfl) F X h
end
end Mine
namespace Mine
namespace HA
theorem ty_gi : typeOf (.builtin "list.__getitem__") = pure (.type "method_descriptor") := by show builtinType _ = _; rw [builtinType_eq_fast]; kernel_rfl
theorem slot_md : Slot "method_descriptor" "__get__" "method_descriptor.__get__" :=
  .of (owner := "method_descriptor") (n := "__get__") (by rw [typeLookup_type, builtinLookup_eq_fast]; kernel_rfl) (by decide +kernel) (by decide +kernel) (by decide +kernel)
    (by first | exact .inl (by decide +kernel) | exact .inr (by decide +kernel)) (by rw [isSubtype_type]; kernel_rfl)
theorem entry_md : entryFor table "method_descriptor.__get__" = some Builtin.«method_descriptor.__get__» := entryFor_of_tree (by kernel_rfl)
theorem args_md (a b c : Value) : argsOk "method_descriptor.__get__" ⟨[a, b, c], []⟩ := by unfold argsOk; kernel_rfl
theorem md_noset : typeLookup (.type "method_descriptor") "__set__" = pure none := by rw [typeLookup_type, builtinLookup_eq_fast]; kernel_rfl
theorem md_nodel : typeLookup (.type "method_descriptor") "__delete__" = pure none := by rw [typeLookup_type, builtinLookup_eq_fast]; kernel_rfl
theorem kind_hasattr : builtinKind "hasattr" = none := by decide +kernel
theorem plain_hasattr : plainId "hasattr" = true := by decide +kernel
theorem entry_hasattr : entryFor table "hasattr" = some Builtin.«hasattr» := entryFor_of_tree (by kernel_rfl)
theorem args_hasattr (a b : Value) : argsOk "hasattr" ⟨[a, b], []⟩ := by unfold argsOk; kernel_rfl
theorem owner_gi : (".".intercalate ("list.__getitem__".cutAt '.').dropLast) = "list" := by
  have e0 : "list.__getitem__".cutAt '.' = ["list", "__getitem__"] := by first | rfl | decide +kernel
  rw [e0]; decide +kernel
theorem sub_gi : isSubtype (.type "list") (.type (".".intercalate ("list.__getitem__".cutAt '.').dropLast)) = pure true := by
  rw [owner_gi, isSubtype_type]; kernel_rfl
section
variable {prog : Program} {w : World} {A : Around} {E : Value → Shared → Prop} {h : Heap} {g : Array GenState} {d : Drawn} {t : Nat} {os : OsState} {a : Addr} {its : Array Value} {n : Nat} {tk : Tok}
theorem bind_gi {R : Result → Shared → Prop} (hx : h.get? a = some (W.listOf its n)) (hq : R (.ok (.ret (.ref h.objs.size))) ⟨h.push { cls := .type "builtin_function_or_method", data := .fields #[.builtin "list.__getitem__", .ref a] }, g, d, t, os⟩) :
    codeAny (model prog w) A (.call (.builtin "method_descriptor.__get__") ⟨[.builtin "list.__getitem__", .ref a, .type "list"], []⟩) R ⟨h, g, d, t, os⟩ := by
  have hT : (⟨h, g, d, t, os⟩ : Shared).TypeIs (.ref a) "list" := ⟨_, hx, rfl⟩
  have hT5 : (⟨h, g, d, t, os⟩ : Shared).TypeIs (.builtin "list.__getitem__") "method_descriptor" := ty_gi
  have f8 := sub_gi
  refine codeAny_call_builtin slot_md.plain entry_md (slot_md.check _ _ _ _ _ _ _ _ hT5 (args_md _ _ _) ?_)
  repeat (any_goals (first | assumption | wp_step))
theorem entry_gi {Q : Fin → Shared → Prop} (hx : h.get? a = some (W.listOf its n)) (hq : Q (.done (.ret (.ref h.objs.size))) ⟨h.push { cls := .type "builtin_function_or_method", data := .fields #[.builtin "list.__getitem__", .ref a] }, g, d, t, os⟩) :
    wpAny (model prog w) A (Builtin.«object.__getattribute__» ⟨[.ref a, .str "__getitem__" tk], []⟩) Q E ⟨h, g, d, t, os⟩ := by
  have hT : (⟨h, g, d, t, os⟩ : Shared).TypeIs (.ref a) "list" := ⟨_, hx, rfl⟩
  have hT5 : (⟨h, g, d, t, os⟩ : Shared).TypeIs (.builtin "list.__getitem__") "method_descriptor" := ty_gi
  have f4 := slot_list_getitem.lookup
  have f5 := ty_gi
  have f6 := slot_md.lookup
  have f7 := md_noset
  have f9 := md_nodel
  repeat (any_goals (first | assumption | wp_step))
  refine bind_gi hx ?_
  repeat (any_goals (first | assumption | wp_step))
theorem call_gi {R : Result → Shared → Prop} (hx : h.get? a = some (W.listOf its n)) (hq : R (.ok (.ret (.ref h.objs.size))) ⟨h.push { cls := .type "builtin_function_or_method", data := .fields #[.builtin "list.__getitem__", .ref a] }, g, d, t, os⟩) :
    codeAny (model prog w) A (.call (.builtin "list.__getattribute__") ⟨[.ref a, .str "__getitem__" tk], []⟩) R ⟨h, g, d, t, os⟩ :=
  codeAny_call_builtin F.slot_list_getattribute.plain F.entry_list_ga (F.slot_list_getattribute.check _ _ _ _ _ _ _ _ (show (⟨h, g, d, t, os⟩ : Shared).TypeIs (.ref a) "list" from ⟨_, hx, rfl⟩) (F.args_list_getattribute_2 _ _) (entry_gi hx hq))
theorem by_gi {Q : Value → Shared → Prop} (hx : h.get? a = some (W.listOf its n)) (hq : Q (.ref h.objs.size) ⟨h.push { cls := .type "builtin_function_or_method", data := .fields #[.builtin "list.__getitem__", .ref a] }, g, d, t, os⟩) :
    wpAny (model prog w) A (getAttrBy (.ref a) (.str "__getitem__" tk) false) Q E ⟨h, g, d, t, os⟩ := by
  have hT : (⟨h, g, d, t, os⟩ : Shared).TypeIs (.ref a) "list" := ⟨_, hx, rfl⟩
  have f2 := F.slot_list_getattribute.lookup
  have f3 := F.slot_list_getattribute.bind (.ref a)
  repeat (any_goals (first | assumption | wp_step))
  refine call_gi hx ?_
  repeat (any_goals (first | assumption | wp_step))
theorem hasattr_gi {Q : Value → Shared → Prop} (hx : h.get? a = some (W.listOf its n)) (hq : Q (.bool true) ⟨h.push { cls := .type "builtin_function_or_method", data := .fields #[.builtin "list.__getitem__", .ref a] }, g, d, t, os⟩) :
    wpAny (model prog w) A (call (.builtin "hasattr") [.ref a, .str "__getitem__" tk]) Q E ⟨h, g, d, t, os⟩ := by
  have hT : (⟨h, g, d, t, os⟩ : Shared).TypeIs (.ref a) "list" := ⟨_, hx, rfl⟩
  have f4 := slot_list_getitem.lookup
  have f2 := F.slot_list_getattribute.lookup
  have f3 : isSubtype (.type "list") (.type "module") = pure false := by rw [isSubtype_type]; kernel_rfl
  refine call_function_entry kind_hasattr plain_hasattr entry_hasattr (args_hasattr _ _) ?_
  repeat (any_goals (first | assumption | with_reducible apply by_gi hx | wp_step))
  exact ⟨_, rfl, hq⟩
end
theorem hasattr_list {prog : Program} {w : World} {A : Around} {E : Value → Shared → Prop} {s : Shared} {h₀ : Heap} {L : Addr} {m : Str → Option Value} {news : List (Addr × Obj)} {a : Addr} {its : Array Value} {n : Nat} {tk : Tok} {Q : Value → Shared → Prop}
    (F : Fr h₀ L s.heap m) (N : News h₀ L s.heap news) (hm : (a, W.listOf its n) ∈ news) (h : ∀ h', Fr h₀ L h' m → News h₀ L h' news → Q (.bool true) { s with heap := h' }) :
    wpAny (model prog w) A (call (.builtin "hasattr") [.ref a, .str (Str.ofString "__getitem__") tk]) Q E s := by
  obtain ⟨hh, g, d, t, os⟩ := s
  have k : Keep hh (hh.push { cls := .type "builtin_function_or_method", data := .fields #[.builtin "list.__getitem__", .ref a] }) := fun b o e => Heap.get?_push_of_some _ e
  exact hasattr_gi (N _ hm).1 (h _ (F.keeps k) (N.grown k))
end HA
end Mine
namespace Mine
local macro_rules | `(tactic| walk_at "Mine idle") => `(tactic| fail "idle")
theorem off_S1 : True := by w_top off; trivial
noncomputable def spelled (x : Int) : Str := Str.mk #[97 - 32 * (x % 2).toNat, 98 - 32 * (x / 2 % 2).toNat, 99 - 32 * (x / 4 % 2).toNat, 100 - 32 * (x / 8 % 2).toNat]
noncomputable def spCh (x : Int) (j : Nat) : Str := Txt.item (Str.ofString "abcdABCD") ((0 + (j : Int)) + 4 * Builtin.bitAnd (x.fdiv (2 ^ (0 + (j : Int)).toNat)) 1)
theorem spelled_join (x : Int) (h0 : 0 ≤ x) (h1 : x < 16) : Txt.join (Str.ofString "") ((List.range 4).map (spCh x)) = spelled x := by
  rcases or16 h0 h1 with rfl | rfl | rfl | rfl | rfl | rfl | rfl | rfl | rfl | rfl | rfl | rfl | rfl | rfl | rfl | rfl <;> decide +kernel
theorem spIdx (x : Int) (h0 : 0 ≤ x) (h1 : x < 16) (i : Nat) (hi : i < 4) :
    0 ≤ (0 + (i : Int)) + 4 * Builtin.bitAnd (x.fdiv (2 ^ (0 + (i : Int)).toNat)) 1 ∧ (0 + (i : Int)) + 4 * Builtin.bitAnd (x.fdiv (2 ^ (0 + (i : Int)).toNat)) 1 < 8 := by
  have hx := or16 h0 h1
  have hi : i = 0 ∨ i = 1 ∨ i = 2 ∨ i = 3 := by omega
  rcases hi with rfl | rfl | rfl | rfl <;> rcases hx with rfl | rfl | rfl | rfl | rfl | rfl | rfl | rfl | rfl | rfl | rfl | rfl | rfl | rfl | rfl | rfl <;> decide +kernel
theorem fits_small {i : Int} (h0 : 0 ≤ i) (h1 : i < 1000000) : fitsSsize i = true := by
  unfold fitsSsize; simp; omega
local macro_rules | `(tactic| walk_at "eval ListComp") => `(tactic| (k_here; k_dflt (refine' compEval ?kF ?hclos ?hcell ?hkind ?hnames ?hx ?_ ?hs; (case kF => k_asm); (case hclos => with_unfolding_all rfl); (case hcell => decide); (case hkind => with_unfolding_all rfl); (case hnames => decide); (case hx => with_unfolding_all rfl); (case hs => intro _; with_unfolding_all rfl))))
theorem spelled_spec {w : World} {loose : List Str} {mean : ExcName → Option Value} {mg mb : Str → Option Value} {dp un : Nat} {gd : Option (List Code)} {fr : Option (List Env)} {s : Shared} {Q E : Value → Shared → Prop} {h₀ : Heap} {L : Addr} {m : Str → Option Value} {news : List (Addr × Obj)} {x : Int} {t : Tok}
    (F : Fr h₀ L s.heap m) (N : News h₀ L s.heap news) (X : (KTop w.params).In h₀) (T : Top VTop loose mean mg mb h₀) (hdp : dp + 2 < recursionLimit) (hun : un + 20 < cLine)
    (h0 : 0 ≤ x) (h1 : x < 16)
    (ret : ∀ t h' tk', Fr h₀ L h' m → News h₀ L h' news → Q (.str (spelled x) t) { s with heap := h', toks := tk' }) :
    wpAny (model PySem.Challenge.rw_ta0074_01.row.prog w) (Ar dp un gd fr) (call (.ref 274) [.int x t]) Q E s := by
  revert X; k_fill; intro X
  refine wpAny_call ?_
  k_dflt (refine' enterNC (binds := [(Str.ofString "word", Value.int x t)]) F N X T ?k6 ?k7 ?k8 ?k9 ?kB ?kD ?_ ?c2 ?c3 ?c4; (case k6 => k_is); (case k7 => k_is); (case k8 => ktr_room); (case k9 => exact BindsTo.of_eq rfl); (case kB => exact rfl); (case kD => decide +kernel); (case c2 => exact rfl); (case c3 => exact rfl); (case c4 => exact rfl))
  clear F N X T
  intro g L' h₁ tk cells F N Y X T back lt
  obtain ⟨o1, hE, d1⟩ := CellsAre.one Y
  subst hE; clear Y
  replace F : Fr g L' h₁ (fun _ => none) := F
  replace d1 : o1.data = .cell (some (.int x t)) := d1
  (try simp only [List.cons_append, List.nil_append] at N)
  (try dsimp only)
  (try k_unmd)
  k_fold
  k_steps
  rename_i hR F1 N1 _
  refine .inr ⟨_, _, _, _, _, _, 4, _, fun i ys nw _ => nw = ((L'+1, o1)::news) ∧ CarriedAll ys ((List.range i).map fun j => PyData.str (spCh x j)), rfl, rfl, F1, N1, hR, by decide, by decide, by decide, ⟨rfl, .nil⟩, ?_, fun _ _ _ _ _ _ h => h, ?_, ?_⟩
  · rintro i ys nw _ ⟨_, hc⟩
    have := hc.length_eq
    simp at this; omega
  · intro g' i v ys nw I oI C oC D m₂ h tk E' hi hP hJ hC hx F N off ne
    obtain ⟨t', rfl⟩ := hP
    obtain ⟨rfl, hc⟩ := hJ
    refine wpAny_tests_nil (TestEnd.tt ?_)
    k_fold
    k_steps
    have hb := spIdx x h0 h1 i hi
    refine item_str (fits_small hb.1 (by omega)) (by omega) (by show _ < (8 : Int); omega) (fun _ => ?_)
    refine EltEnd.mk F N _ (fun p hp => hp) off ⟨rfl, ?_⟩
    rw [List.range_succ, List.map_append]
    exact hc.snoc (.str _ _)
  · rintro D h tk ys nw F N off ⟨rfl, hc⟩
    (try k_unfold)
    walk1
    refine KT.join_B 1 (News.isList N (.head _)) hc (fun a _ => Nat.le_of_eq (len_item _ _)) (by decide) (by decide) fun t' k => ?_
    rw [spelled_join x h0 h1]
    exact (fun p => ret _ _ _ p.1 (cb_drop p.2 fun q hq => .tail _ (.tail _ hq))) (back _ _ _ _ F N)
end Mine
namespace Mine
theorem off_S2 : True := by w_top off; trivial
theorem add_spec {w : World} {loose : List Str} {mean : ExcName → Option Value} {mg mb : Str → Option Value} {dp un : Nat} {gd : Option (List Code)} {fr : Option (List Env)} {s : Shared} {Q E : Value → Shared → Prop} {h₀ : Heap} {L : Addr} {m : Str → Option Value} {news : List (Addr × Obj)} {a b : Int} {ta tb : Tok}
    (F : Fr h₀ L s.heap m) (N : News h₀ L s.heap news) (X : (KTop w.params).In h₀) (T : Top VTop loose mean mg mb h₀) (hdp : dp + 1 < recursionLimit)
    (ret : ∀ t h' tk', Fr h₀ L h' m → News h₀ L h' news → Q (.int (a + b) t) { s with heap := h', toks := tk' }) :
    wpAny (model PySem.Challenge.rw_ta0074_01.row.prog w) (Ar dp un gd fr) (call (.ref 45) [.int a ta, .int b tb]) Q E s := by
  revert X; k_fill; intro X
  refine wpAny_call ?_
  k_dflt (refine' enterN (binds := [(Str.ofString "a", Value.int a ta), (Str.ofString "b", Value.int b tb)]) F N X T ?k6 ?k7 ?k8 ?k9 ?kB ?_ ?c2 ?c3 ?c4 ?c5; (case k6 => k_is); (case k7 => k_is); (case k8 => ktr_room); (case k9 => exact BindsTo.of_eq rfl); (case c5 => decide); (case kB => exact locs rfl); (case c2 => exact rfl); (case c3 => exact rfl); (case c4 => exact rfl))
  clear F N X T
  intro g L' h₁ F N X T back lt
  replace F : Fr g L' h₁ (fun y => List.lookup y [(Str.ofString "b", Value.int b tb), (Str.ofString "a", Value.int a ta)]) := F
  (try dsimp only)
  (try k_unmd)
  k_fold
  k_steps
  exact ret _ _ _ (back _ _ _ _ (by assumption) (by assumption)).1 (back _ _ _ _ (by assumption) (by assumption)).2
theorem sub_spec {w : World} {loose : List Str} {mean : ExcName → Option Value} {mg mb : Str → Option Value} {dp un : Nat} {gd : Option (List Code)} {fr : Option (List Env)} {s : Shared} {Q E : Value → Shared → Prop} {h₀ : Heap} {L : Addr} {m : Str → Option Value} {news : List (Addr × Obj)} {a b : Int} {ta tb : Tok}
    (F : Fr h₀ L s.heap m) (N : News h₀ L s.heap news) (X : (KTop w.params).In h₀) (T : Top VTop loose mean mg mb h₀) (hdp : dp + 1 < recursionLimit)
    (ret : ∀ t h' tk', Fr h₀ L h' m → News h₀ L h' news → Q (.int (a - b) t) { s with heap := h', toks := tk' }) :
    wpAny (model PySem.Challenge.rw_ta0074_01.row.prog w) (Ar dp un gd fr) (call (.ref 73) [.int a ta, .int b tb]) Q E s := by
  revert X; k_fill; intro X
  refine wpAny_call ?_
  k_dflt (refine' enterN (binds := [(Str.ofString "a", Value.int a ta), (Str.ofString "b", Value.int b tb)]) F N X T ?k6 ?k7 ?k8 ?k9 ?kB ?_ ?c2 ?c3 ?c4 ?c5; (case k6 => k_is); (case k7 => k_is); (case k8 => ktr_room); (case k9 => exact BindsTo.of_eq rfl); (case c5 => decide); (case kB => exact locs rfl); (case c2 => exact rfl); (case c3 => exact rfl); (case c4 => exact rfl))
  clear F N X T
  intro g L' h₁ F N X T back lt
  replace F : Fr g L' h₁ (fun y => List.lookup y [(Str.ofString "b", Value.int b tb), (Str.ofString "a", Value.int a ta)]) := F
  (try dsimp only)
  (try k_unmd)
  k_fold
  k_steps
  exact ret _ _ _ (back _ _ _ _ (by assumption) (by assumption)).1 (back _ _ _ _ (by assumption) (by assumption)).2
theorem and_spec {w : World} {loose : List Str} {mean : ExcName → Option Value} {mg mb : Str → Option Value} {dp un : Nat} {gd : Option (List Code)} {fr : Option (List Env)} {s : Shared} {Q E : Value → Shared → Prop} {h₀ : Heap} {L : Addr} {m : Str → Option Value} {news : List (Addr × Obj)} {a b : Int} {ta tb : Tok}
    (F : Fr h₀ L s.heap m) (N : News h₀ L s.heap news) (X : (KTop w.params).In h₀) (T : Top VTop loose mean mg mb h₀) (hdp : dp + 1 < recursionLimit)
    (ret : ∀ t h' tk', Fr h₀ L h' m → News h₀ L h' news → Q (.int (Builtin.bitAnd a b) t) { s with heap := h', toks := tk' }) :
    wpAny (model PySem.Challenge.rw_ta0074_01.row.prog w) (Ar dp un gd fr) (call (.ref 52) [.int a ta, .int b tb]) Q E s := by
  revert X; k_fill; intro X
  refine wpAny_call ?_
  k_dflt (refine' enterN (binds := [(Str.ofString "a", Value.int a ta), (Str.ofString "b", Value.int b tb)]) F N X T ?k6 ?k7 ?k8 ?k9 ?kB ?_ ?c2 ?c3 ?c4 ?c5; (case k6 => k_is); (case k7 => k_is); (case k8 => ktr_room); (case k9 => exact BindsTo.of_eq rfl); (case c5 => decide); (case kB => exact locs rfl); (case c2 => exact rfl); (case c3 => exact rfl); (case c4 => exact rfl))
  clear F N X T
  intro g L' h₁ F N X T back lt
  replace F : Fr g L' h₁ (fun y => List.lookup y [(Str.ofString "b", Value.int b tb), (Str.ofString "a", Value.int a ta)]) := F
  (try dsimp only)
  (try k_unmd)
  k_fold
  k_steps
  exact ret _ _ _ (back _ _ _ _ (by assumption) (by assumption)).1 (back _ _ _ _ (by assumption) (by assumption)).2
theorem lshift_spec {w : World} {loose : List Str} {mean : ExcName → Option Value} {mg mb : Str → Option Value} {dp un : Nat} {gd : Option (List Code)} {fr : Option (List Env)} {s : Shared} {Q E : Value → Shared → Prop} {h₀ : Heap} {L : Addr} {m : Str → Option Value} {news : List (Addr × Obj)} {a b : Int} {ta tb : Tok}
    (F : Fr h₀ L s.heap m) (N : News h₀ L s.heap news) (X : (KTop w.params).In h₀) (T : Top VTop loose mean mg mb h₀) (hdp : dp + 1 < recursionLimit) (ha : 0 ≤ a) (ha' : a < 65536) (hb : 0 ≤ b) (hb' : b < 64)
    (ret : ∀ t h' tk', Fr h₀ L h' m → News h₀ L h' news → Q (.int (a * 2 ^ b.toNat) t) { s with heap := h', toks := tk' }) :
    wpAny (model PySem.Challenge.rw_ta0074_01.row.prog w) (Ar dp un gd fr) (call (.ref 59) [.int a ta, .int b tb]) Q E s := by
  revert X; k_fill; intro X
  refine wpAny_call ?_
  k_dflt (refine' enterN (binds := [(Str.ofString "a", Value.int a ta), (Str.ofString "b", Value.int b tb)]) F N X T ?k6 ?k7 ?k8 ?k9 ?kB ?_ ?c2 ?c3 ?c4 ?c5; (case k6 => k_is); (case k7 => k_is); (case k8 => ktr_room); (case k9 => exact BindsTo.of_eq rfl); (case c5 => decide); (case kB => exact locs rfl); (case c2 => exact rfl); (case c3 => exact rfl); (case c4 => exact rfl))
  clear F N X T
  intro g L' h₁ F N X T back lt
  replace F : Fr g L' h₁ (fun y => List.lookup y [(Str.ofString "b", Value.int b tb), (Str.ofString "a", Value.int a ta)]) := F
  (try dsimp only)
  (try k_unmd)
  k_fold
  k_steps
  exact ret _ _ _ (back _ _ _ _ (by assumption) (by assumption)).1 (back _ _ _ _ (by assumption) (by assumption)).2
theorem mul_spec {w : World} {loose : List Str} {mean : ExcName → Option Value} {mg mb : Str → Option Value} {dp un : Nat} {gd : Option (List Code)} {fr : Option (List Env)} {s : Shared} {Q E : Value → Shared → Prop} {h₀ : Heap} {L : Addr} {m : Str → Option Value} {news : List (Addr × Obj)} {a b : Int} {ta tb : Tok}
    (F : Fr h₀ L s.heap m) (N : News h₀ L s.heap news) (X : (KTop w.params).In h₀) (T : Top VTop loose mean mg mb h₀) (hdp : dp + 1 < recursionLimit) (ha : a.natAbs < 2 ^ 1000) (hb : b.natAbs < 2 ^ 1000)
    (ret : ∀ t h' tk', Fr h₀ L h' m → News h₀ L h' news → Q (.int (a * b) t) { s with heap := h', toks := tk' }) :
    wpAny (model PySem.Challenge.rw_ta0074_01.row.prog w) (Ar dp un gd fr) (call (.ref 66) [.int a ta, .int b tb]) Q E s := by
  revert X; k_fill; intro X
  refine wpAny_call ?_
  k_dflt (refine' enterN (binds := [(Str.ofString "a", Value.int a ta), (Str.ofString "b", Value.int b tb)]) F N X T ?k6 ?k7 ?k8 ?k9 ?kB ?_ ?c2 ?c3 ?c4 ?c5; (case k6 => k_is); (case k7 => k_is); (case k8 => ktr_room); (case k9 => exact BindsTo.of_eq rfl); (case c5 => decide); (case kB => exact locs rfl); (case c2 => exact rfl); (case c3 => exact rfl); (case c4 => exact rfl))
  clear F N X T
  intro g L' h₁ F N X T back lt
  replace F : Fr g L' h₁ (fun y => List.lookup y [(Str.ofString "b", Value.int b tb), (Str.ofString "a", Value.int a ta)]) := F
  (try dsimp only)
  (try k_unmd)
  k_fold
  k_steps
  refine mul_int ?_ (IntMulOk.of_bits (Nat.le_trans (intBits_le ha) (by decide)) (Nat.le_trans (intBits_le hb) (by decide)))
  exact ret _ _ _ (back _ _ _ _ (by assumption) (by assumption)).1 (back _ _ _ _ (by assumption) (by assumption)).2
theorem ipow_spec {w : World} {loose : List Str} {mean : ExcName → Option Value} {mg mb : Str → Option Value} {dp un : Nat} {gd : Option (List Code)} {fr : Option (List Env)} {s : Shared} {Q E : Value → Shared → Prop} {h₀ : Heap} {L : Addr} {m : Str → Option Value} {news : List (Addr × Obj)} {a b : Int} {ta tb : Tok}
    (F : Fr h₀ L s.heap m) (N : News h₀ L s.heap news) (X : (KTop w.params).In h₀) (T : Top VTop loose mean mg mb h₀) (hdp : dp + 1 < recursionLimit) (ha : a.natAbs < 2 ^ 40) (hb : 0 ≤ b) (hb' : b ≤ 4)
    (ret : ∀ t h' tk', Fr h₀ L h' m → News h₀ L h' news → Q (.int (a ^ b.toNat) t) { s with heap := h', toks := tk' }) :
    wpAny (model PySem.Challenge.rw_ta0074_01.row.prog w) (Ar dp un gd fr) (call (.ref 94) [.int a ta, .int b tb]) Q E s := by
  revert X; k_fill; intro X
  refine wpAny_call ?_
  k_dflt (refine' enterN (binds := [(Str.ofString "a", Value.int a ta), (Str.ofString "b", Value.int b tb)]) F N X T ?k6 ?k7 ?k8 ?k9 ?kB ?_ ?c2 ?c3 ?c4 ?c5; (case k6 => k_is); (case k7 => k_is); (case k8 => ktr_room); (case k9 => exact BindsTo.of_eq rfl); (case c5 => decide); (case kB => exact locs rfl); (case c2 => exact rfl); (case c3 => exact rfl); (case c4 => exact rfl))
  clear F N X T
  intro g L' h₁ F N X T back lt
  replace F : Fr g L' h₁ (fun y => List.lookup y [(Str.ofString "b", Value.int b tb), (Str.ofString "a", Value.int a ta)]) := F
  (try dsimp only)
  (try k_unmd)
  k_fold
  k_steps
  exact ret _ _ _ (back _ _ _ _ (by assumption) (by assumption)).1 (back _ _ _ _ (by assumption) (by assumption)).2
end Mine
namespace Mine
local macro_rules | `(tactic| walk_at "Mine idle") => `(tactic| fail "idle")
theorem off_S3 : True := by w_top off; trivial
noncomputable def knownFlags : List Str := ["OPTIMIZED", "NEWLOCALS", "VARARGS", "VARKEYWORDS", "NESTED", "GENERATOR", "NOFREE", "COROUTINE", "ITERABLE_COROUTINE", "ASYNC_GENERATOR"]
noncomputable def flagName (b : Int) : Str := if b < 10 then knownFlags.getD b.toNat Str.empty else baseText "0x" 16 (2 ^ b.toNat)
theorem flag_spec {w : World} {loose : List Str} {mean : ExcName → Option Value} {mg mb : Str → Option Value} {dp un : Nat} {gd : Option (List Code)} {fr : Option (List Env)} {s : Shared} {Q E : Value → Shared → Prop} {h₀ : Heap} {L : Addr} {m : Str → Option Value} {news : List (Addr × Obj)} {b : Int} {t : Tok}
    (F : Fr h₀ L s.heap m) (N : News h₀ L s.heap news) (X : (KTop w.params).In h₀) (T : Top VTop loose mean mg mb h₀) (hdp : dp + 1 < recursionLimit) (h0 : 0 ≤ b) (h1 : b < 12)
    (ret : ∀ t h' tk', Fr h₀ L h' m → News h₀ L h' news → Q (.str (flagName b) t) { s with heap := h', toks := tk' }) :
    wpAny (model PySem.Challenge.rw_ta0074_01.row.prog w) (Ar dp un gd fr) (call (.ref 281) [.int b t]) Q E s := by
  revert X; k_fill; intro X
  refine wpAny_call ?_
  k_dflt (refine' enterN (binds := [(Str.ofString "bit", Value.int b t)]) F N X T ?k6 ?k7 ?k8 ?k9 ?kB ?_ ?c2 ?c3 ?c4 ?c5; (case k6 => k_is); (case k7 => k_is); (case k8 => ktr_room); (case k9 => exact BindsTo.of_eq rfl); (case c5 => decide); (case kB => exact locs rfl); (case c2 => exact rfl); (case c3 => exact rfl); (case c4 => exact rfl))
  clear F N X T
  intro g L' h₁ F N X T back lt
  replace F : Fr g L' h₁ (fun y => List.lookup y [(Str.ofString "bit", Value.int b t)]) := F
  (try dsimp only)
  (try k_unmd)
  k_fold
  k_steps
  · have hlt : b < 10 := by assumption
    have e : flagName b = knownFlags.getD b.toNat Str.empty := if_pos hlt
    rw [e] at ret
    exact ret _ _ _ (back _ _ _ _ (by assumption) (by assumption)).1 (cb_drop (back _ _ _ _ (by assumption) (by assumption)).2 fun q hq => .tail _ hq)
  · have hge : ¬ b < 10 := by assumption
    have e : flagName b = baseText "0x" 16 (2 ^ b.toNat) := if_neg hge
    rw [e] at ret
    have hb : b = 10 ∨ b = 11 := by omega
    refine P.hex_of_int ?_ ?_
    · exact ret _ _ _ (back _ _ _ _ (by assumption) (by assumption)).1 (cb_drop (back _ _ _ _ (by assumption) (by assumption)).2 fun q hq => .tail _ hq)
    · rcases hb with rfl | rfl <;> decide +kernel
end Mine
namespace Mine
theorem off_S5 : True := by w_top off; trivial
local macro_rules | `(tactic| k_enter) => `(tactic| first
  | (refine' enterL ?k2 ?k4 ?k3 ?k5 ?k6 ?k7 ?k8 ?k9 ?kB ?_ ?c2 ?c3 ?c4 ?c5; (case k2 => k_asm); (case k4 => k_asm); (case k3 => k_asm); (case k5 => k_asm); (case k6 => k_is); (case k7 => k_is); (case k8 => ktr_room); (case k9 => first | exact BindsTo.of_eq rfl | exact binds_K (by k_in) rfl (by k_is) rfl rfl rfl | (refine' kp_binds ?kx ?ke; (case kx => k_in); (case ke => exact fun _ => rfl)) | fail "k_enter: no rule for these arguments"); (case c5 => decide); (case kB => exact locs rfl); (case c2 => exact rfl); (case c3 => exact rfl); (case c4 => exact rfl); k_whole; intro g' L' h' F' N' X' T' l1; (try dsimp only); (try k_unmd); (try k_fold))
  | (refine' enterM ?k2 ?k4 ?k3 ?k5 ?k6 ?k7 ?k8 ?kP ?kG ?kB ?_ ?c2 ?c3 ?c4 ?c5; (case k2 => k_asm); (case k4 => k_asm); (case k3 => k_asm); (case k5 => k_asm); (case k6 => k_is); (case k7 => k_is); (case k8 => ktr_room); (case kP => exact rfl); (case kG => exact fun _ => rfl); (case c5 => decide); (case kB => exact fun _ => locs rfl); (case c2 => exact rfl); (case c3 => exact rfl); (case c4 => exact rfl); k_whole; intro D' g' L' h' tk' l2 lo' F' N' X' T' l1; (try k_lt l2); (try dsimp only); (try k_unmd); (try k_fold)))
local macro_rules | `(tactic| walk_at "exec For Tuple") => `(tactic| (k_here; (with_reducible show wpAny _ _ (exec (Stmt.For _ (Expr.Name _ _) _ _ _) _) _ _ _); (rename Fr _ _ _ _ => lF'); k_dflt (refine' forEmptyF lF' ?_ ?hs; (case hs => intro _; with_unfolding_all rfl))))
local macro_rules | `(tactic| walk_at "NoItems") => `(tactic| (k_here; k_dflt (refine' NoItems.mk ?k1 ?k2 ?k3 ?k4 ?_; (case k1 => exact rfl); (case k2 => k_asm); (case k3 => k_asm); (case k4 => k_mem)); intro h' t' F' N'; (try k_sweep); (try k_unmd); (try k_fold)))
local macro_rules | `(tactic| k_all) => `(tactic| first | assumption | exact ne_succ1 (by assumption) | exact ne_succ2 (by assumption) | exact ne_succ3 (by assumption) | exact ne_succ4 (by assumption))
local macro_rules | `(tactic| k_mem) => `(tactic| assumption)
local macro_rules | `(tactic| walk_at "exec For Tuple") => `(tactic| (k_here; (with_reducible show wpAny _ _ (exec (Stmt.For _ (Expr.Call (Expr.Attribute _ _ _) _ _ _) _ _ _) _) _ _ _); k_dflt (refine' forItems0 ?k0 ?k1 ?k2 ?k3 ?k4 ?k5 ?_ ?k6 ?k7 ?hs; (case k5 => (intro Q' hQ'; refine' nameX_L ?F ?v hQ' ?a ?b; (case F => k_asm); (case a => rfl); (case b => rfl); (case v => rfl))); (case k0 => exact rfl); (case k1 => k_asm); (case k2 => k_asm); (case k3 => k_mem); (case k4 => assumption); (case k6 => exact rfl); (case k7 => exact rfl); (case hs => intro _; with_unfolding_all rfl)); intro h' t' F' N'; (try k_sweep); (try k_unmd); (try k_fold)))
local macro_rules | `(tactic| walk_at "getMethod ref") => `(tactic| (k_here; (with_reducible show wpAny _ _ (getMethod (Value.ref _) "search" _) _ _ _); first | (refine' method_name ?k1 ?k2 ?_; (case k1 => k_asm); (case k2 => k_asm); k_whole) | (refine' method_value ?k1 ?k2 ?_; (case k1 => k_asm); (case k2 => k_asm); k_whole)))
local macro_rules | `(tactic| walk_at "call builtin:re.Pattern.search") => `(tactic| (k_here; first | (refine' search_name ?k1 ?k2 ?k3 ?_; (case k1 => k_asm); (case k2 => k_asm); (case k3 => assumption); k_whole) | (refine' search_value ?k1 ?k2 ?k3 ?_; (case k1 => k_asm); (case k2 => k_asm); (case k3 => assumption); k_whole)))
abbrev tupObj (k v : Str) (t u : Tok) : Obj := { cls := .type "tuple", data := .seq #[.str k t, .str v u] }
abbrev hdrDict (w : World) (l : Addr) (t : Tok) : Obj := dictOf [{ hash := PyData.keyHash w.params "_headers", key := Value.str "_headers" t, val := Value.ref l }] 1
theorem join_one {prog : Program} {w : World} {A : Around} {s : Shared} {Q E : Value → Shared → Prop} {h₀ : Heap} {L : Addr} {news : List (Addr × Obj)} {D : Addr} {x v : Str} {tv t0 : Tok} {n : Nat}
    (N : News h₀ L s.heap news) (hm : (D, W.listOf (#[].push (.str v tv)) n) ∈ news) (hv : v.length + x.length ≤ 1000) (h : Q (.str v tv) s) :
    wpAny (model prog w) A (call (.builtin "str.join") [.str x t0, .ref D]) Q E s := by
  have hl : s.heap.IsList D (strValues [(v, tv)]).toArray := ⟨_, (N _ hm).1, rfl, n, rfl⟩
  have hok : JoinOk x [v] = true := joinOk_of (by simp; omega)
  unfold JoinOk at hok
  rw [Bool.not_eq_true'] at hok
  exact call_meets F.slot_str_join (typeIs_str _ _ _) F.entry_str_join (F.args_str_join_2 _ _) (meets_str_join_list x t0 D [(v, tv)] hok) ⟨hl, h⟩
local macro_rules | `(tactic| walk_at "call builtin:str.join") => `(tactic| (k_here; (refine' join_one ?k1 ?k2 ?k3 ?_; (case k1 => k_asm); (case k2 => k_mem); (case k3 => (show _ + 2 ≤ 1000; omega))); try dsimp only))
local macro_rules | `(tactic| walk_at "call builtin:list.append") => `(tactic| (k_here; (with_reducible show wpAny _ _ (call (Value.builtin _) [Value.ref _, Value.ref _]) _ _ _); k_dflt (refine' append_K ?k1 ?k2 ?k3 ?_ ?z; (case k1 => k_asm); (case k2 => k_asm); (case k3 => k_upd); (case z => (rw [List.size_toArray]; assumption)); k_whole); intro h' F' N'; (try k_sweep)))
theorem addh_spec {w : World} {loose : List Str} {mean : ExcName → Option Value} {mg mb : Str → Option Value} {dp un : Nat} {gd : Option (List Code)} {fr : Option (List Env)} {s : Shared} {Q E : Value → Shared → Prop} {h₀ : Heap} {L : Addr} {m : Str → Option Value} {news : List (Addr × Obj)} {x dx l : Addr} {tk : Tok} {vs : List Value} {k v : Str} {tk1 tv : Tok}
    (F : Fr h₀ L s.heap m) (X : (KTop w.params).In h₀) (T : Top VTop loose mean mg mb h₀) (N : News h₀ L s.heap ((l, LCg.lst vs) :: news)) (hdp : dp + 5 < recursionLimit)
    (hx : (x, instObj 260 dx) ∈ news) (hdx : (dx, hdrDict w l tk) ∈ news) (off : ∀ p ∈ news, p.1 ≠ l) (hv14 : v.length ≤ 14) (hlen : vs.length ≤ sizeLine) (ck : Clean w k) (cv : Clean w v)
    (ret : ∀ T h' tk', Fr h₀ L h' m → News h₀ L h' ((l, LCg.lst (vs ++ [.ref T])) :: (T, tupObj k v tk1 tv) :: news) → l < T → (∀ p ∈ news, p.1 < T) → Q .none { s with heap := h', toks := tk' }) :
    wpAny (model PySem.Challenge.rw_ta0074_01.row.prog w) (Ar dp un gd fr) (call (.ref 257) [.ref x, .str k tk1, .str v tv]) Q E s := by
  revert X; k_fill; intro X
  k_steps
  have hT := (by assumption : _ ∧ _ ∧ l < _ ∧ AllLt _ news)
  refine' ret _ _ _ (by assumption) (cb_drop (by assumption) (List.forall_mem_cons.mpr ⟨?_, List.forall_mem_cons.mpr ⟨.head _, fun p hp => .tail _ (.tail _ (.tail _ (.tail _ hp)))⟩⟩)) hT.2.2.1 (allLt_mem _ hT.2.2.2)
  rw [← LCg.lst_snoc]
  exact .tail _ (.tail _ (.tail _ (.head _)))
end Mine
namespace Mine
theorem off_S6 : True := by w_top off; trivial
local macro_rules | `(tactic| k_enter) => `(tactic| first
  | (refine' enterL ?k2 ?k4 ?k3 ?k5 ?k6 ?k7 ?k8 ?k9 ?kB ?_ ?c2 ?c3 ?c4 ?c5; (case k2 => k_asm); (case k4 => k_asm); (case k3 => k_asm); (case k5 => k_asm); (case k6 => k_is); (case k7 => k_is); (case k8 => ktr_room); (case k9 => first | exact BindsTo.of_eq rfl | exact binds_K (by k_in) rfl (by k_is) rfl rfl rfl | (refine' kp_binds ?kx ?ke; (case kx => k_in); (case ke => exact fun _ => rfl)) | fail "k_enter: no rule for these arguments"); (case c5 => decide); (case kB => exact locs rfl); (case c2 => exact rfl); (case c3 => exact rfl); (case c4 => exact rfl); k_whole; intro g' L' h' F' N' X' T' l1; (try dsimp only); (try k_unmd); (try k_fold))
  | (refine' enterM ?k2 ?k4 ?k3 ?k5 ?k6 ?k7 ?k8 ?kP ?kG ?kB ?_ ?c2 ?c3 ?c4 ?c5; (case k2 => k_asm); (case k4 => k_asm); (case k3 => k_asm); (case k5 => k_asm); (case k6 => k_is); (case k7 => k_is); (case k8 => ktr_room); (case kP => exact rfl); (case kG => exact fun _ => rfl); (case c5 => decide); (case kB => exact fun _ => locs rfl); (case c2 => exact rfl); (case c3 => exact rfl); (case c4 => exact rfl); k_whole; intro D' g' L' h' tk' l2 lo' F' N' X' T' l1; (try k_lt l2); (try dsimp only); (try k_unmd); (try k_fold)))
local macro_rules | `(tactic| walk_at "exec For Tuple") => `(tactic| (k_here; (with_reducible show wpAny _ _ (exec (Stmt.For _ (Expr.Name _ _) _ _ _) _) _ _ _); (rename Fr _ _ _ _ => lF'); k_dflt (refine' forEmptyF lF' ?_ ?hs; (case hs => intro _; with_unfolding_all rfl))))
local macro_rules | `(tactic| walk_at "NoItems") => `(tactic| (k_here; k_dflt (refine' NoItems.mk ?k1 ?k2 ?k3 ?k4 ?_; (case k1 => exact rfl); (case k2 => k_asm); (case k3 => k_asm); (case k4 => k_mem)); intro h' t' F' N'; (try k_sweep); (try k_unmd); (try k_fold)))
theorem headers_spec {w : World} {loose : List Str} {mean : ExcName → Option Value} {mg mb : Str → Option Value} {dp un : Nat} {gd : Option (List Code)} {fr : Option (List Env)} {s : Shared} {Q E : Value → Shared → Prop} {h₀ : Heap} {L : Addr} {m : Str → Option Value} {news : List (Addr × Obj)} 
    (F : Fr h₀ L s.heap m) (N : News h₀ L s.heap news) (X : (KTop w.params).In h₀) (T : Top VTop loose mean mg mb h₀) (hdp : dp + 5 < recursionLimit)
    (ret : ∀ x dx l t h' tk', Fr h₀ L h' m → News h₀ L h' ((l, LCg.lst []) :: (x, instObj 260 dx) :: (dx, hdrDict w l t) :: news) → x < l → dx < x → (∀ p ∈ news, p.1 < dx) → Q (.ref x) { s with heap := h', toks := tk' }) :
    wpAny (model PySem.Challenge.rw_ta0074_01.row.prog w) (Ar dp un gd fr) (call (.ref 260) []) Q E s := by
  revert X; k_fill; intro X
  refine' call_cls ?k1 ?k2 ?k3 ?k4 ?k5 ?k6 ?_
  case k1 => k_asm
  case k2 => k_asm
  case k3 => k_asm
  case k4 => k_is
  case k5 => k_is
  case k6 => k_is
  intro x dx h' F' N' l1 l2
  clear F N
  have hlt : ∀ p ∈ news, p.1 < dx := l1
  (try k_lt l1)
  k_lt2 l2
  k_enter
  k_steps
  have hl := (by assumption : x < _ ∧ dx < _ ∧ AllLt _ news)
  refine' ret _ _ _ _ _ _ (by assumption) (cb_drop (by assumption) fun p hp => hp) hl.1 l2 hlt
end Mine
namespace Mine
theorem off_S7 : True := by w_top off; trivial
local macro_rules | `(tactic| k_enter) => `(tactic| first
  | (refine' enterL ?k2 ?k4 ?k3 ?k5 ?k6 ?k7 ?k8 ?k9 ?kB ?_ ?c2 ?c3 ?c4 ?c5; (case k2 => k_asm); (case k4 => k_asm); (case k3 => k_asm); (case k5 => k_asm); (case k6 => k_is); (case k7 => k_is); (case k8 => ktr_room); (case k9 => first | exact BindsTo.of_eq rfl | exact binds_K (by k_in) rfl (by k_is) rfl rfl rfl | (refine' kp_binds ?kx ?ke; (case kx => k_in); (case ke => exact fun _ => rfl)) | fail "k_enter: no rule for these arguments"); (case c5 => decide); (case kB => exact locs rfl); (case c2 => exact rfl); (case c3 => exact rfl); (case c4 => exact rfl); k_whole; intro g' L' h' F' N' X' T' l1; (try dsimp only); (try k_unmd); (try k_fold))
  | (refine' enterM ?k2 ?k4 ?k3 ?k5 ?k6 ?k7 ?k8 ?kP ?kG ?kB ?_ ?c2 ?c3 ?c4 ?c5; (case k2 => k_asm); (case k4 => k_asm); (case k3 => k_asm); (case k5 => k_asm); (case k6 => k_is); (case k7 => k_is); (case k8 => ktr_room); (case kP => exact rfl); (case kG => exact fun _ => rfl); (case c5 => decide); (case kB => exact fun _ => locs rfl); (case c2 => exact rfl); (case c3 => exact rfl); (case c4 => exact rfl); k_whole; intro D' g' L' h' tk' l2 lo' F' N' X' T' l1; (try k_lt l2); (try dsimp only); (try k_unmd); (try k_fold)))
local macro_rules | `(tactic| k_all) => `(tactic| first | assumption | exact ne_succ1 (by assumption) | exact ne_succ2 (by assumption) | exact ne_succ3 (by assumption) | exact ne_succ4 (by assumption))
local macro_rules | `(tactic| k_mem) => `(tactic| assumption)
local macro_rules | `(tactic| walk_at "getMethod ref") => `(tactic| (k_here; (with_reducible show wpAny _ _ (getMethod (Value.ref _) "search" _) _ _ _); first | (refine' method_name ?k1 ?k2 ?_; (case k1 => k_asm); (case k2 => k_asm); k_whole) | (refine' method_value ?k1 ?k2 ?_; (case k1 => k_asm); (case k2 => k_asm); k_whole)))
local macro_rules | `(tactic| walk_at "call builtin:re.Pattern.search") => `(tactic| (k_here; first | (refine' search_name ?k1 ?k2 ?k3 ?_; (case k1 => k_asm); (case k2 => k_asm); (case k3 => assumption); k_whole) | (refine' search_value ?k1 ?k2 ?k3 ?_; (case k1 => k_asm); (case k2 => k_asm); (case k3 => assumption); k_whole)))
local macro_rules | `(tactic| walk_at "eval Name") => `(tactic| (k_here; k_dflt (refine' nameX ?F ?l ?v ?_ ?a ?b ?c; (case F => k_asm); (case l => exact rfl); (case a => exact rfl); (case b => exact rfl); (case c => decide); (case v => assumption); k_whole)))
local macro_rules | `(tactic| walk_at "loadName") => `(tactic| (k_here; k_dflt (refine' loadX ?F ?l ?v ?_ ?a ?b; (case F => k_asm); (case l => exact rfl); (case a => exact rfl); (case b => exact rfl); (case v => first | exact rfl | assumption); k_whole)))
local macro_rules | `(tactic| walk_at "eval ListComp") => `(tactic| (k_here; k_dflt (refine' compEval ?kF ?hclos ?hcell ?hkind ?hnames ?hx ?_ ?hs; (case kF => k_asm); (case hclos => with_unfolding_all rfl); (case hcell => decide); (case hkind => with_unfolding_all rfl); (case hnames => decide); (case hx => with_unfolding_all rfl); (case hs => intro _; with_unfolding_all rfl))))
abbrev Hdr := (Str × Tok) × (Str × Tok)
/-- the headers' tuples in the ledger -/
inductive HdrsAre (news : List (Addr × Obj)) : List Value → List Hdr → Prop
  | nil : HdrsAre news [] []
  | cons {T : Addr} {k v : Str} {t u : Tok} {vs : List Value} {hs : List Hdr} : (T, tupObj k v t u) ∈ news → HdrsAre news vs hs → HdrsAre news (.ref T :: vs) (((k, t), (v, u)) :: hs)
theorem HdrsAre.at {news : List (Addr × Obj)} {vs : List Value} {hs : List Hdr} (h : HdrsAre news vs hs) {i : Nat} {v : Value} (hv : vs[i]? = some v) :
    ∃ T k t x u, v = .ref T ∧ (T, tupObj k x t u) ∈ news ∧ hs[i]? = some ((k, t), (x, u)) := by
  induction h generalizing i with
  | nil => simp at hv
  | cons hm _ ih =>
    cases i with
    | zero => simp at hv; subst hv; exact ⟨_, _, _, _, _, rfl, hm, rfl⟩
    | succ i => simp at hv; simpa using ih hv
theorem HdrsAre.len {news : List (Addr × Obj)} {vs : List Value} {hs : List Hdr} (h : HdrsAre news vs hs) : vs.length = hs.length := by
  induction h with
  | nil => rfl
  | cons _ _ ih => simp [ih]
noncomputable def hdrSel (nm : Str) (hs : List Hdr) : List Value := (hs.filter fun h => Txt.lower h.1.1 == Txt.lower nm).map fun h => .str h.2.1 h.2.2
theorem hdrSel_snoc (nm : Str) (hs : List Hdr) (h : Hdr) : hdrSel nm (hs ++ [h]) = hdrSel nm hs ++ (if (Txt.lower h.1.1 == Txt.lower nm) = true then [.str h.2.1 h.2.2] else []) := by
  unfold hdrSel
  rw [List.filter_append, List.map_append]
  congr 1
  cases hc : (Txt.lower h.1.1 == Txt.lower nm) <;> simp [hc]
theorem hdrSel_le (nm : Str) (hs : List Hdr) : (hdrSel nm hs).length ≤ hs.length := by
  unfold hdrSel; rw [List.length_map]; exact List.length_filter_le _ _
theorem off1_ne {D : Addr} {l : List (Addr × Obj)} (h : LCg.Off1 D l) {p : Addr × Obj} (hp : p ∈ l) : p.1 ≠ D := by
  induction l with
  | nil => cases hp
  | cons q r ih =>
    rcases List.mem_cons.mp hp with rfl | hp
    · exact h.1
    · exact ih h.2 hp
theorem getall_spec {w : World} {loose : List Str} {mean : ExcName → Option Value} {mg mb : Str → Option Value} {dp un : Nat} {gd : Option (List Code)} {fr : Option (List Env)} {s : Shared} {Q E : Value → Shared → Prop} {h₀ : Heap} {L : Addr} {m : Str → Option Value} {news : List (Addr × Obj)} {x dx l : Addr} {tk : Tok} {vs : List Value} {hs : List Hdr} {nm : Str} {tn : Tok}
    (F : Fr h₀ L s.heap m) (N : News h₀ L s.heap news) (X : (KTop w.params).In h₀) (T : Top VTop loose mean mg mb h₀) (hdp : dp + 5 < recursionLimit)
    (hx : (x, instObj 260 dx) ∈ news) (hdx : (dx, hdrDict w l tk) ∈ news) (hl : (l, LCg.lst vs) ∈ news) (hh : HdrsAre news vs hs) (hsz : hs.length ≤ sizeLine) (hkl : ∀ h ∈ hs, h.1.1.length ≤ 100)
    (hn : nm.length ≤ 100) (cn : Clean w (Txt.lower nm))
    (ret : ∀ D h' tk', Fr h₀ L h' m → News h₀ L h' ((D, LCg.lst (hdrSel nm hs)) :: news) → (∀ p ∈ news, p.1 ≠ D) → Q (.ref D) { s with heap := h', toks := tk' }) :
    wpAny (model PySem.Challenge.rw_ta0074_01.row.prog w) (Ar dp un gd fr) (call (.ref 199) [.ref x, .str nm tn]) Q E s := by
  revert X; k_fill; intro X
  refine wpAny_call ?_
  k_dflt (refine' enterNC (binds := [(Str.ofString "self", Value.ref x), (Str.ofString "name", Value.str nm tn)]) F N X T ?k6 ?k7 ?k8 ?k9 ?kB ?kD ?_ ?c2 ?c3 ?c4; (case k6 => k_is); (case k7 => k_is); (case k8 => ktr_room); (case k9 => exact BindsTo.of_eq rfl); (case kB => exact rfl); (case kD => decide +kernel); (case c2 => exact rfl); (case c3 => exact rfl); (case c4 => exact rfl))
  clear F N X T
  intro g L' h₁ tk cells F N Y X T back lt
  obtain ⟨o1, hE, d1⟩ := CellsAre.one Y
  subst hE; clear Y
  replace F : Fr g L' h₁ (fun y => if y = Str.ofString "self" then some (.ref x) else none) := F
  replace d1 : o1.data = .cell (some (.str nm tn)) := d1
  (try simp only [List.cons_append, List.nil_append] at N)
  (try dsimp only)
  (try k_unmd)
  k_fold
  k_steps
  rename_i h' o' kF kN kd
  have hvl : vs.toArray.size = hs.length := by rw [List.size_toArray, hh.len]
  refine .inl ⟨l, vs.toArray, _, fun i ys nw _ => nw = (L' + 1, o')::news ∧ ys = hdrSel nm (hs.take i) ∧ i ≤ hs.length, rfl, rfl, kF, kN, .inr ⟨_, .tail _ hl, rfl, _, rfl⟩, by omega, ⟨rfl, rfl, Nat.zero_le _⟩, ?_, fun _ _ _ _ _ _ h => h, ?_, ?_⟩
  · rintro i ys nw _ ⟨rfl, rfl, hi⟩
    refine ⟨.inr ⟨_, .tail _ hl, rfl, _, rfl⟩, Nat.le_trans (hdrSel_le _ _) ?_⟩
    rw [List.length_take]; exact Nat.min_le_left _ _
  · intro g' i v ys nw I oI C oC D m₂ h tk E' hi hv hJ hC hx' F N off ne
    obtain ⟨rfl, rfl, hi'⟩ := hJ
    have hv' : vs[i]? = some v := by simpa using hv
    obtain ⟨T, k, t, y, u, rfl, hT, hhs⟩ := hh.at hv'
    have hk := hkl _ (List.mem_of_getElem? hhs)
    have hstep : hdrSel nm (hs.take (i + 1)) = hdrSel nm (hs.take i) ++ (if (Txt.lower k == Txt.lower nm) = true then [.str y u] else []) := by
      rw [List.take_add_one, hhs]; exact hdrSel_snoc nm _ _
    refine wpAny_tests_one ?_
    k_steps
    refine TestEnd.of (fun hc => ?_) fun hc => ?_
    · k_fold
      k_steps
      refine EltEnd.mk (by assumption) (by assumption) _ (fun p hp => hp) off ⟨rfl, ?_, by omega⟩
      rw [hstep, if_pos hc]
    · refine EltEnd.mk (by assumption) (by assumption) _ (fun p hp => hp) off ⟨rfl, ?_, by omega⟩
      rw [hstep, if_neg (by rw [hc]; exact Bool.false_ne_true), List.append_nil]
  · rintro D h tk ys nw F N off ⟨rfl, rfl, _⟩
    rw [hvl, List.take_length] at N
    have B := back _ _ _ _ F N
    exact ret D _ _ B.1 (cb_drop B.2 fun p hp => by
      rcases List.mem_cons.mp hp with rfl | hp
      · exact .head _
      · exact .tail _ (.tail _ hp)) fun p hp => off1_ne off (.tail _ hp)
end Mine
namespace Mine
theorem off_S8 : True := by w_top off; trivial
local macro_rules | `(tactic| walk_at "eval Name") => `(tactic| (k_here; k_dflt (refine' nameX ?F ?l ?v ?_ ?a ?b ?c; (case F => k_asm); (case l => exact rfl); (case a => exact rfl); (case b => exact rfl); (case c => decide); (case v => assumption); k_whole)))
local macro_rules | `(tactic| walk_at "loadName") => `(tactic| (k_here; k_dflt (refine' loadX ?F ?l ?v ?_ ?a ?b; (case F => k_asm); (case l => exact rfl); (case a => exact rfl); (case b => exact rfl); (case v => first | exact rfl | assumption); k_whole)))
local macro_rules | `(tactic| walk_at "exec For Name") => `(tactic| (k_here; (with_reducible rename Fr _ _ _ _ => lF'); k_dflt (refine' forJF lF' ?hx ?hp ?_ ?hs; (case hx => exact rfl); (case hp => exact rfl); (case hs => intro _; with_unfolding_all rfl))))
theorem strs_at {vs : List Value} {ss : List Str} (h : StrsAre vs ss) {i : Nat} {v : Value} (hv : vs[i]? = some v) : ∃ x t, v = .str x t ∧ ss[i]? = some x := by
  induction h generalizing i with
  | nil => simp at hv
  | cons y t _ ih =>
    cases i with
    | zero => simp at hv; subst hv; exact ⟨y, t, rfl, rfl⟩
    | succ i => simp at hv; simpa using ih hv
theorem none_booked {w : World} {h : Heap} {mc : Str → Option Value} (X : (KTop w.params).In h) (hn : h.Ns cStatics mc) : NoneBooked h := by
  refine ⟨mc, hn, ?_⟩
  obtain ⟨o, es, ep, ho, hdt, hk, hf⟩ := hn
  have e : nsIn (KTop w.params) cStatics sharingNotToldKey = some none := by kernel_rfl
  unfold nsIn at e
  split at e
  · rename_i c d es' n' sl q
    have := X _ _ q
    rw [ho] at this
    cases this
    cases hdt
    split at e
    · cases e
    · rename_i hno
      rw [← hf]
      unfold nsFind findBy
      rw [← Array.find?_toList, hno]
      rfl
  · cases e

theorem is_str {M : Model} {A : Around} {E : Value → Shared → Prop} {s : Shared} {y z : Str} {u v : Tok} {Q : Value → Shared → Prop}
    (hu : u ≠ 0) (hv : v ≠ 0) (inj : u = v → y = z) (hb : NoneBooked s.heap) (hq : ∀ b, (b = true → y = z) → Q (.bool b) s) : wpAny M A (compareOp .Is (.str y u) (.str z v)) Q E s := by
  show wpAny M A (isSame.created (y == z) u v >>= fun b => pure (.bool b)) Q E s
  refine wpAny_bind ?_
  unfold isSame.created
  refine wpAny_ite ?_
  split
  · rename_i h
    simp only [Bool.or_eq_true, beq_iff_eq] at h
    exact absurd h (by rintro (h | h) <;> contradiction)
  refine wpAny_ite ?_
  split
  · rename_i h
    exact wpAny_pure (wpAny_pure (hq _ fun _ => inj (beq_iff_eq.mp h)))
  refine wpAny_ite ?_
  split
  · exact wpAny_pure (wpAny_pure (hq _ fun h => by cases h))
  rename_i hyz
  have hyz' : y = z := by simpa using hyz
  refine wpAny_bind (wpAny_sharingNotTold_none hb ?_)
  rw [if_neg Bool.false_ne_true]
  refine wpAny_bind (wpAny_sharingNotTold_none hb ?_)
  rw [if_neg Bool.false_ne_true]
  exact wpAny_bind (wpAny_rule (wpAny_bind (wpAny_askSetting (wpAny_pure (wpAny_pure (hq _ fun _ => hyz'))))))

/-- the tokens tell the texts apart -/
noncomputable def TokOk (vs : List Value) (b : Str) (tb : Tok) : Prop := tb ≠ 0 ∧ ∀ x t, Value.str x t ∈ vs → t ≠ 0 ∧ (t = tb → x = b)

local macro_rules | `(tactic| walk_at "eval Name") => `(tactic| (k_here; k_dflt (refine' nameX ?F ?l ?v ?_ ?a ?b ?c; (case F => k_asm); (case l => exact rfl); (case a => exact rfl); (case b => exact rfl); (case c => decide); (case v => assumption); k_whole)))
local macro_rules | `(tactic| walk_at "loadName") => `(tactic| (k_here; k_dflt (refine' loadX ?F ?l ?v ?_ ?a ?b; (case F => k_asm); (case l => exact rfl); (case a => exact rfl); (case b => exact rfl); (case v => first | exact rfl | assumption); k_whole)))
local macro_rules | `(tactic| walk_at "exec For Name") => `(tactic| (k_here; (with_reducible rename Fr _ _ _ _ => lF'); k_dflt (refine' forJF lF' ?hx ?hp ?_ ?hs; (case hx => exact rfl); (case hp => exact rfl); (case hs => intro _; with_unfolding_all rfl))))
theorem countOf_spec {w : World} {loose : List Str} {mean : ExcName → Option Value} {mg mb : Str → Option Value} {dp un : Nat} {gd : Option (List Code)} {fr : Option (List Env)} {s : Shared} {Q E : Value → Shared → Prop} {h₀ : Heap} {L : Addr} {m : Str → Option Value} {news : List (Addr × Obj)} {l : Addr} {b : Str} {tb : Tok} {vs : List Value} {ss : List Str} {nl : Nat}
    (F : Fr h₀ L s.heap m) (N : News h₀ L s.heap news) (X : (KTop w.params).In h₀) (T : Top VTop loose mean mg mb h₀) (hdp : dp + 1 < recursionLimit) (hl : (l, W.listOf vs.toArray nl) ∈ news) (hss : StrsAre vs ss) (hto : TokOk vs b tb)
    (ret : ∀ t h' tk', Fr h₀ L h' m → News h₀ L h' news → Q (.int (ss.count b : Nat) t) { s with heap := h', toks := tk' }) :
    wpAny (model PySem.Challenge.rw_ta0074_01.row.prog w) (Ar dp un gd fr) (call (.ref 87) [.ref l, .str b tb]) Q E s := by
  revert X; k_fill; intro X
  refine wpAny_call ?_
  k_dflt (refine' enterN (binds := [(Str.ofString "a", Value.ref l), (Str.ofString "b", Value.str b tb)]) F N X T ?k6 ?k7 ?k8 ?k9 ?kB ?_ ?c2 ?c3 ?c4 ?c5; (case k6 => k_is); (case k7 => k_is); (case k8 => ktr_room); (case k9 => exact BindsTo.of_eq rfl); (case c5 => decide); (case kB => exact locs rfl); (case c2 => exact rfl); (case c3 => exact rfl); (case c4 => exact rfl))
  clear F N X T
  intro g L' h₁ F N X T back lt
  replace F : Fr g L' h₁ (fun y => List.lookup y [(Str.ofString "b", Value.str b tb), (Str.ofString "a", Value.ref l)]) := F
  (try dsimp only)
  (try k_unmd)
  k_fold
  k_steps
  rename_i h' F' N'
  refine forSrc_list rfl (fun i m₁ nw => nw = news ∧ (∃ t, m₁ (Str.ofString "count") = some (.int ((ss.take i).count b : Nat) t)) ∧ m₁ (Str.ofString "b") = some (.str b tb)) rfl F' N' (.inr ⟨_, hl, rfl, _, rfl⟩) ⟨rfl, ⟨_, rfl⟩, rfl⟩ (fun i m nw h => .inr ⟨_, h.1 ▸ hl, rfl, _, rfl⟩) ?_ ?_
  · rintro i v m₁ nw I oI h tk hi hv ⟨rfl, ⟨t, hc⟩, hb⟩ F N off
    have hv' : vs[i]? = some v := by simpa using hv
    obtain ⟨x, tx, hx, hxs⟩ := strs_at hss hv'
    subst hx
    have htx := hto.2 x tx (List.mem_of_getElem? hv')
    have hcnt : ((ss.take (i + 1)).count b : Int) = ((ss.take i).count b : Nat) + (if x = b then 1 else 0) := by
      rw [List.take_add_one, hxs]
      simp [List.count_append, List.count_cons, List.count_nil]
      split <;> simp_all
    have hbk : NoneBooked h := none_booked (X.keeps F.keep) ((TopRead.nolimit (topRead_of T)).choose_spec.1.keeps F.keep)
    (try (with_reducible show wpAny _ _ _ _ _ _))
    k_fold
    k_steps
    refine is_str htx.1 hto.1 htx.2 hbk fun bb hbb => ?_
    k_steps
    · have hxb : x = b := hbb ‹bb = true›
      rw [if_pos hxb] at hcnt
      refine ForTurn.next (by assumption) (by assumption) _ (fun p hp => hp) off ?_
      refine ⟨rfl, ?_, hb⟩
      rw [hcnt]; exact ⟨_, rfl⟩
    · have hxb : x = b := by simpa using (by assumption : (x == b) = true)
      rw [if_pos hxb] at hcnt
      refine ForTurn.next (by assumption) (by assumption) _ (fun p hp => hp) off ?_
      refine ⟨rfl, ?_, hb⟩
      rw [hcnt]; exact ⟨_, rfl⟩
    · have hxb : ¬ x = b := by
        intro e
        have hf := (by assumption : (x == b) = false)
        rw [e] at hf; simp at hf
      rw [if_neg hxb, Int.add_zero] at hcnt
      refine ForTurn.next (by assumption) (by assumption) _ (fun p hp => hp) off ?_
      refine ⟨rfl, ?_, hb⟩
      rw [hcnt]; exact ⟨_, hc⟩
  · rintro h tk m' nw F N ⟨rfl, ⟨t, hc⟩, hb⟩
    k_steps
    have : ss.take (vs.toArray.size) = ss := by rw [List.size_toArray, hss.len_eq, List.take_length]
    rw [this]
    exact ret _ _ _ (back _ _ _ _ (by assumption) (by assumption)).1 (back _ _ _ _ (by assumption) (by assumption)).2
end Mine
namespace Mine
theorem off_S10 : True := by w_top off; trivial
local macro_rules | `(tactic| k_enter) => `(tactic| first
  | (refine' enterL ?k2 ?k4 ?k3 ?k5 ?k6 ?k7 ?k8 ?k9 ?kB ?_ ?c2 ?c3 ?c4 ?c5; (case k2 => k_asm); (case k4 => k_asm); (case k3 => k_asm); (case k5 => k_asm); (case k6 => k_is); (case k7 => k_is); (case k8 => ktr_room); (case k9 => first | exact BindsTo.of_eq rfl | exact binds_K (by k_in) rfl (by k_is) rfl rfl rfl | (refine' kp_binds ?kx ?ke; (case kx => k_in); (case ke => exact fun _ => rfl)) | fail "k_enter: no rule for these arguments"); (case c5 => decide); (case kB => exact locs rfl); (case c2 => exact rfl); (case c3 => exact rfl); (case c4 => exact rfl); k_whole; intro g' L' h' F' N' X' T' l1; (try dsimp only); (try k_unmd); (try k_fold))
  | (refine' enterM ?k2 ?k4 ?k3 ?k5 ?k6 ?k7 ?k8 ?kP ?kG ?kB ?_ ?c2 ?c3 ?c4 ?c5; (case k2 => k_asm); (case k4 => k_asm); (case k3 => k_asm); (case k5 => k_asm); (case k6 => k_is); (case k7 => k_is); (case k8 => ktr_room); (case kP => exact rfl); (case kG => exact fun _ => rfl); (case c5 => decide); (case kB => exact fun _ => locs rfl); (case c2 => exact rfl); (case c3 => exact rfl); (case c4 => exact rfl); k_whole; intro D' g' L' h' tk' l2 lo' F' N' X' T' l1; (try k_lt l2); (try dsimp only); (try k_unmd); (try k_fold)))
local macro_rules | `(tactic| k_all) => `(tactic| first | assumption | exact ne_succ1 (by assumption) | exact ne_succ2 (by assumption) | exact ne_succ3 (by assumption) | exact ne_succ4 (by assumption))
local macro_rules | `(tactic| k_mem) => `(tactic| assumption)
local macro_rules | `(tactic| walk_at "eval Name") => `(tactic| (k_here; k_dflt (refine' nameX ?F ?l ?v ?_ ?a ?b ?c; (case F => k_asm); (case l => exact rfl); (case a => exact rfl); (case b => exact rfl); (case c => decide); (case v => assumption); k_whole)))
local macro_rules | `(tactic| walk_at "loadName") => `(tactic| (k_here; k_dflt (refine' loadX ?F ?l ?v ?_ ?a ?b; (case F => k_asm); (case l => exact rfl); (case a => exact rfl); (case b => exact rfl); (case v => first | exact rfl | assumption); k_whole)))
theorem items_spec {w : World} {loose : List Str} {mean : ExcName → Option Value} {mg mb : Str → Option Value} {dp un : Nat} {gd : Option (List Code)} {fr : Option (List Env)} {s : Shared} {Q E : Value → Shared → Prop} {h₀ : Heap} {L : Addr} {m : Str → Option Value} {news : List (Addr × Obj)} {x dx l : Addr} {tk : Tok} {vs : List Value}
    (F : Fr h₀ L s.heap m) (N : News h₀ L s.heap news) (X : (KTop w.params).In h₀) (T : Top VTop loose mean mg mb h₀) (hdp : dp + 5 < recursionLimit)
    (hx : (x, instObj 260 dx) ∈ news) (hdx : (dx, hdrDict w l tk) ∈ news) (hl : (l, LCg.lst vs) ∈ news) (hsz : vs.length ≤ sizeLine)
    (ret : ∀ D h' tk', Fr h₀ L h' m → News h₀ L h' ((D, W.listOf vs.toArray 0) :: news) → (∀ p ∈ news, p.1 < D) → Q (.ref D) { s with heap := h', toks := tk' }) :
    wpAny (model PySem.Challenge.rw_ta0074_01.row.prog w) (Ar dp un gd fr) (call (.ref 224) [.ref x]) Q E s := by
  revert X; k_fill; intro X
  refine wpAny_call ?_
  k_dflt (refine' enterN (binds := [(Str.ofString "self", Value.ref x)]) F N X T ?k6 ?k7 ?k8 ?k9 ?kB ?_ ?c2 ?c3 ?c4 ?c5; (case k6 => k_is); (case k7 => k_is); (case k8 => ktr_room); (case k9 => exact BindsTo.of_eq rfl); (case c5 => decide); (case kB => exact locs rfl); (case c2 => exact rfl); (case c3 => exact rfl); (case c4 => exact rfl))
  clear F N X T
  intro g L' h₁ F N X T back lt
  replace F : Fr g L' h₁ (fun y => List.lookup y [(Str.ofString "self", Value.ref x)]) := F
  (try dsimp only)
  (try k_unmd)
  k_fold
  k_steps
  refine kmk_slice (vl := .none) (vu := .none) (lo := none) (hi := none) F N (its := vs.toArray) ⟨_, (N _ hl).1, rfl, _, rfl⟩ .none .none (fun D h' F' N' l1 => ?_) (by with_unfolding_all rfl) (by intro _; with_unfolding_all rfl) (by rw [List.size_toArray]; exact hsz)
  rw [slicePick_all] at N'
  exact ret _ _ _ (back _ _ _ _ F' N').1 (back _ _ _ _ F' N').2 l1
end Mine
namespace Mine
theorem off_S12 : True := by w_top off; trivial
local macro_rules | `(tactic| k_enter) => `(tactic| first
  | (refine' enterL ?k2 ?k4 ?k3 ?k5 ?k6 ?k7 ?k8 ?k9 ?kB ?_ ?c2 ?c3 ?c4 ?c5; (case k2 => k_asm); (case k4 => k_asm); (case k3 => k_asm); (case k5 => k_asm); (case k6 => k_is); (case k7 => k_is); (case k8 => ktr_room); (case k9 => first | exact BindsTo.of_eq rfl | exact binds_K (by k_in) rfl (by k_is) rfl rfl rfl | (refine' kp_binds ?kx ?ke; (case kx => k_in); (case ke => exact fun _ => rfl)) | fail "k_enter: no rule for these arguments"); (case c5 => decide); (case kB => exact locs rfl); (case c2 => exact rfl); (case c3 => exact rfl); (case c4 => exact rfl); k_whole; intro g' L' h' F' N' X' T' l1; (try dsimp only); (try k_unmd); (try k_fold))
  | (refine' enterM ?k2 ?k4 ?k3 ?k5 ?k6 ?k7 ?k8 ?kP ?kG ?kB ?_ ?c2 ?c3 ?c4 ?c5; (case k2 => k_asm); (case k4 => k_asm); (case k3 => k_asm); (case k5 => k_asm); (case k6 => k_is); (case k7 => k_is); (case k8 => ktr_room); (case kP => exact rfl); (case kG => exact fun _ => rfl); (case c5 => decide); (case kB => exact fun _ => locs rfl); (case c2 => exact rfl); (case c3 => exact rfl); (case c4 => exact rfl); k_whole; intro D' g' L' h' tk' l2 lo' F' N' X' T' l1; (try k_lt l2); (try dsimp only); (try k_unmd); (try k_fold)))
local macro_rules | `(tactic| k_all) => `(tactic| first | assumption | exact ne_succ1 (by assumption) | exact ne_succ2 (by assumption) | exact ne_succ3 (by assumption) | exact ne_succ4 (by assumption))
local macro_rules | `(tactic| k_mem) => `(tactic| assumption)
local macro_rules | `(tactic| walk_at "eval Name") => `(tactic| (k_here; k_dflt (refine' nameX ?F ?l ?v ?_ ?a ?b ?c; (case F => k_asm); (case l => exact rfl); (case a => exact rfl); (case b => exact rfl); (case c => decide); (case v => assumption); k_whole)))
local macro_rules | `(tactic| walk_at "loadName") => `(tactic| (k_here; k_dflt (refine' loadX ?F ?l ?v ?_ ?a ?b; (case F => k_asm); (case l => exact rfl); (case a => exact rfl); (case b => exact rfl); (case v => first | exact rfl | assumption); k_whole)))
local macro_rules | `(tactic| walk_at "call builtin:hasattr") => `(tactic| (k_here; (refine' HA.hasattr_list ?k1 ?k2 ?k3 ?_; (case k1 => k_asm); (case k2 => k_asm); (case k3 => k_mem)); intro h' F' N'; (try k_sweep)))
theorem concat_spec {w : World} {loose : List Str} {mean : ExcName → Option Value} {mg mb : Str → Option Value} {dp un : Nat} {gd : Option (List Code)} {fr : Option (List Env)} {s : Shared} {Q E : Value → Shared → Prop} {h₀ : Heap} {L : Addr} {m : Str → Option Value} {news : List (Addr × Obj)} {a b : Addr} {vs us : List Value} {na nb : Nat}
    (F : Fr h₀ L s.heap m) (N : News h₀ L s.heap news) (X : (KTop w.params).In h₀) (T : Top VTop loose mean mg mb h₀) (hdp : dp + 2 < recursionLimit)
    (ha : (a, W.listOf vs.toArray na) ∈ news) (hb : (b, W.listOf us.toArray nb) ∈ news) (hsz : vs.length + us.length ≤ sizeLine)
    (ret : ∀ D h' tk', Fr h₀ L h' m → News h₀ L h' ((D, W.listOf (vs ++ us).toArray 0) :: news) → (∀ p ∈ news, p.1 < D) → Q (.ref D) { s with heap := h', toks := tk' }) :
    wpAny (model PySem.Challenge.rw_ta0074_01.row.prog w) (Ar dp un gd fr) (call (.ref 80) [.ref a, .ref b]) Q E s := by
  revert X; k_fill; intro X
  refine wpAny_call ?_
  k_dflt (refine' enterN (binds := [(Str.ofString "a", Value.ref a), (Str.ofString "b", Value.ref b)]) F N X T ?k6 ?k7 ?k8 ?k9 ?kB ?_ ?c2 ?c3 ?c4 ?c5; (case k6 => k_is); (case k7 => k_is); (case k8 => ktr_room); (case k9 => exact BindsTo.of_eq rfl); (case c5 => decide); (case kB => exact locs rfl); (case c2 => exact rfl); (case c3 => exact rfl); (case c4 => exact rfl))
  clear F N X T
  intro g L' h₁ F N X T back lt
  replace F : Fr g L' h₁ (fun y => List.lookup y [(Str.ofString "b", Value.ref b), (Str.ofString "a", Value.ref a)]) := F
  (try dsimp only)
  (try k_unmd)
  k_fold
  k_steps
  rename_i h' F' N'
  refine add_arrays F' N' ⟨_, (N' _ ha).1, rfl, _, rfl⟩ ⟨_, (N' _ hb).1, rfl, _, rfl⟩ (fun h'' F'' N'' => ?_) (by rw [List.size_toArray, List.size_toArray]; exact hsz)
  exact ret _ _ _ (back _ _ _ _ F'' N'').1 (back _ _ _ _ F'' N'').2 fun p hp => Heap.lt_size (N' p hp).1
end Mine
namespace Mine
theorem off_S13 : True := by w_top off; trivial
local macro_rules | `(tactic| k_enter) => `(tactic| first
  | (refine' enterL ?k2 ?k4 ?k3 ?k5 ?k6 ?k7 ?k8 ?k9 ?kB ?_ ?c2 ?c3 ?c4 ?c5; (case k2 => k_asm); (case k4 => k_asm); (case k3 => k_asm); (case k5 => k_asm); (case k6 => k_is); (case k7 => k_is); (case k8 => ktr_room); (case k9 => first | exact BindsTo.of_eq rfl | exact binds_K (by k_in) rfl (by k_is) rfl rfl rfl | (refine' kp_binds ?kx ?ke; (case kx => k_in); (case ke => exact fun _ => rfl)) | fail "k_enter: no rule for these arguments"); (case c5 => decide); (case kB => exact locs rfl); (case c2 => exact rfl); (case c3 => exact rfl); (case c4 => exact rfl); k_whole; intro g' L' h' F' N' X' T' l1; (try dsimp only); (try k_unmd); (try k_fold))
  | (refine' enterM ?k2 ?k4 ?k3 ?k5 ?k6 ?k7 ?k8 ?kP ?kG ?kB ?_ ?c2 ?c3 ?c4 ?c5; (case k2 => k_asm); (case k4 => k_asm); (case k3 => k_asm); (case k5 => k_asm); (case k6 => k_is); (case k7 => k_is); (case k8 => ktr_room); (case kP => exact rfl); (case kG => exact fun _ => rfl); (case c5 => decide); (case kB => exact fun _ => locs rfl); (case c2 => exact rfl); (case c3 => exact rfl); (case c4 => exact rfl); k_whole; intro D' g' L' h' tk' l2 lo' F' N' X' T' l1; (try k_lt l2); (try dsimp only); (try k_unmd); (try k_fold)))
local macro_rules | `(tactic| k_all) => `(tactic| first | assumption | exact ne_succ1 (by assumption) | exact ne_succ2 (by assumption) | exact ne_succ3 (by assumption) | exact ne_succ4 (by assumption))
local macro_rules | `(tactic| k_mem) => `(tactic| assumption)
local macro_rules | `(tactic| walk_at "eval Name") => `(tactic| (k_here; k_dflt (refine' nameX ?F ?l ?v ?_ ?a ?b ?c; (case F => k_asm); (case l => exact rfl); (case a => exact rfl); (case b => exact rfl); (case c => decide); (case v => assumption); k_whole)))
local macro_rules | `(tactic| walk_at "loadName") => `(tactic| (k_here; k_dflt (refine' loadX ?F ?l ?v ?_ ?a ?b; (case F => k_asm); (case l => exact rfl); (case a => exact rfl); (case b => exact rfl); (case v => first | exact rfl | assumption); k_whole)))
local macro_rules | `(tactic| walk_at "exec For Name") => `(tactic| (k_here; (with_reducible rename Fr _ _ _ _ => lF'); k_dflt (refine' forJF lF' ?hx ?hp ?_ ?hs; (case hx => exact rfl); (case hp => exact rfl); (case hs => intro _; with_unfolding_all rfl))))
/-- the names told of the low i bits -/
noncomputable def tellBits (f : Int) (i : Nat) : List Str := ((List.range i).filter fun (j : Nat) => f / 2 ^ j % 2 == 1).map fun (j : Nat) => flagName (j : Int)
noncomputable def tellAll (f : Int) : List Str := if f = 0 then [baseText "0x" 16 0] else tellBits f 12
theorem tell_set {f : Int} {i : Nat} (h : f / 2 ^ i % 2 = 1) : tellBits f (i + 1) = tellBits f i ++ [flagName (i : Int)] := by
  unfold tellBits
  rw [List.range_succ, List.filter_append, List.map_append]
  congr 1
  simp [h]
theorem tell_unset {f : Int} {i : Nat} (h : f / 2 ^ i % 2 = 0) : tellBits f (i + 1) = tellBits f i := by
  unfold tellBits
  rw [List.range_succ, List.filter_append, List.map_append]
  simp [h]
noncomputable def bitsOk (n i : Nat) : Bool :=
  let f : Int := n
  let g : Int := f - f % 2 ^ i
  let k : Int := 1 * 2 ^ (0 + (i : Int)).toNat
  if Builtin.bitAnd g k = 0 then decide (f / 2 ^ i % 2 = 0) && decide (f % 2 ^ (i + 1) = f % 2 ^ i)
  else decide (f / 2 ^ i % 2 = 1) && decide (Builtin.bitXor g k = f - f % 2 ^ (i + 1))
noncomputable def Moved (f : Int) : Prop := ∃ x s : Nat, x < 16 ∧ s < 9 ∧ f = x * 2 ^ s
theorem bits_all : (List.range 12).all (fun i => (List.range 16).all fun x => (List.range 9).all fun s => bitsOk (x * 2 ^ s) i) = true := by kernel_rfl
theorem bits_ok {f : Int} {i : Nat} (hM : Moved f) (hi : i < 12) : bitsOk f.toNat i = true := by
  obtain ⟨x, s, hx, hs, rfl⟩ := hM
  have h := List.all_eq_true.mp bits_all i (List.mem_range.mpr hi)
  have h := List.all_eq_true.mp h x (List.mem_range.mpr hx)
  have h := List.all_eq_true.mp h s (List.mem_range.mpr hs)
  have e : ((x : Int) * 2 ^ s) = ((x * 2 ^ s : Nat) : Int) := by push_cast; rfl
  rw [e, Int.toNat_natCast]; exact h
theorem moved_le {f : Int} (hM : Moved f) : 0 ≤ f ∧ f < 4096 := by
  obtain ⟨x, s, hx, hs, rfl⟩ := hM
  have e : ((x : Int) * 2 ^ s) = ((x * 2 ^ s : Nat) : Int) := by push_cast; rfl
  have h1 : x * 2 ^ s ≤ 15 * 2 ^ 8 := Nat.mul_le_mul (by omega) (Nat.pow_le_pow_right (by decide) (by omega))
  have h2 : 15 * 2 ^ 8 < 4096 := by decide
  rw [e]; omega
theorem big_mod {f : Int} {i : Nat} (h0 : 0 ≤ f) (h1 : f < 4096) (hi : 12 ≤ i) : f % 2 ^ i = f := by
  have : (2 : Int) ^ 12 ≤ 2 ^ i := by exact_mod_cast Nat.pow_le_pow_right (by decide) hi
  exact Int.emod_eq_of_lt h0 (by omega)
theorem bit_set {f : Int} {i : Nat} (hM : Moved f) (h : Builtin.bitAnd (f - f % 2 ^ i) (1 * 2 ^ (0 + (i : Int)).toNat) ≠ 0) :
    i < 12 ∧ f / 2 ^ i % 2 = 1 ∧ Builtin.bitXor (f - f % 2 ^ i) (1 * 2 ^ (0 + (i : Int)).toNat) = f - f % 2 ^ (i + 1) := by
  obtain ⟨h0, h1⟩ := moved_le hM
  by_cases hi : i < 12
  · have hb := bits_ok hM hi
    unfold bitsOk at hb
    rw [Int.toNat_of_nonneg h0] at hb
    simp only [if_neg h, Bool.and_eq_true, decide_eq_true_eq] at hb
    exact ⟨hi, hb.1, hb.2⟩
  · rw [big_mod h0 h1 (by omega), Int.sub_self, bitAnd_comm, bitAnd_zero] at h
    exact absurd rfl h
theorem bit_unset {f : Int} {i : Nat} (hM : Moved f) (h : Builtin.bitAnd (f - f % 2 ^ i) (1 * 2 ^ (0 + (i : Int)).toNat) = 0) :
    f / 2 ^ i % 2 = 0 ∧ f % 2 ^ (i + 1) = f % 2 ^ i := by
  obtain ⟨h0, h1⟩ := moved_le hM
  by_cases hi : i < 12
  · have hb := bits_ok hM hi
    unfold bitsOk at hb
    rw [Int.toNat_of_nonneg h0] at hb
    simp only [if_pos h, Bool.and_eq_true, decide_eq_true_eq] at hb
    exact hb
  · have : (2 : Int) ^ 12 ≤ 2 ^ i := by exact_mod_cast Nat.pow_le_pow_right (by decide) (by omega)
    rw [big_mod h0 h1 (by omega), big_mod h0 h1 (by omega), Int.ediv_eq_zero_of_lt h0 (by omega)]
    exact ⟨rfl, rfl⟩
theorem tell_len (f : Int) (i : Nat) : (tellBits f i).length ≤ i := by
  unfold tellBits
  rw [List.length_map]
  exact Nat.le_trans (List.length_filter_le _ _) (by rw [List.length_range]; exact Nat.le_refl _)
theorem each_flag {g : Heap} {i : Nat} (hi : i < 12) {P : Value → Prop} (h : ∀ t, P (.str (flagName (i : Int)) t)) :
    KTD.Each g (1 * 2 ^ (0 + (i : Int)).toNat : Int) P (KTD.Opened g P (.flat (.str (baseText "0x" 16 (1 * 2 ^ (0 + (i : Int)).toNat))))) [(1, KTD.Dat.flat (PyData.str { cps := #[79, 80, 84, 73, 77, 73, 90, 69, 68] })), (2, KTD.Dat.flat (PyData.str { cps := #[78, 69, 87, 76, 79, 67, 65, 76, 83] })), (4, KTD.Dat.flat (PyData.str { cps := #[86, 65, 82, 65, 82, 71, 83] })), (8, KTD.Dat.flat (PyData.str { cps := #[86, 65, 82, 75, 69, 89, 87, 79, 82, 68, 83] })), (16, KTD.Dat.flat (PyData.str { cps := #[78, 69, 83, 84, 69, 68] })), (32, KTD.Dat.flat (PyData.str { cps := #[71, 69, 78, 69, 82, 65, 84, 79, 82] })), (64, KTD.Dat.flat (PyData.str { cps := #[78, 79, 70, 82, 69, 69] })), (128, KTD.Dat.flat (PyData.str { cps := #[67, 79, 82, 79, 85, 84, 73, 78, 69] })), (256, KTD.Dat.flat (PyData.str { cps := #[73, 84, 69, 82, 65, 66, 76, 69, 95, 67, 79, 82, 79, 85, 84, 73, 78, 69] })), (512, KTD.Dat.flat (PyData.str { cps := #[65, 83, 89, 78, 67, 95, 71, 69, 78, 69, 82, 65, 84, 79, 82] }))] := by
  rcases or12 hi with rfl | rfl | rfl | rfl | rfl | rfl | rfl | rfl | rfl | rfl | rfl | rfl <;>
    repeat (first
      | exact KTD.each_hit (by decide) (KTD.opened_str fun t => Eq.mp (congrArg (fun x => P (.str x t)) (by decide +kernel)) (h t))
      | exact KTD.each_nil (KTD.opened_str fun t => Eq.mp (congrArg (fun x => P (.str x t)) (by decide +kernel)) (h t))
      | refine KTD.each_miss (by decide) ?_)
theorem strs_snoc {vs : List Value} {ss : List Str} (h : StrsAre vs ss) (x : Str) (t : Tok) : StrsAre (vs ++ [.str x t]) (ss ++ [x]) := by
  induction h with
  | nil => exact .cons x t .nil
  | cons y u _ ih => exact .cons y u ih
theorem sum_le {l : List Str} {B : Nat} (h : ∀ x ∈ l, x.length ≤ B) : (l.map (·.length)).sum ≤ B * l.length := by
  induction l with
  | nil => exact Nat.le_refl _
  | cons x r ih =>
    have h1 := h x (.head _)
    have h2 := ih fun y hy => h y (.tail _ hy)
    simp only [List.map_cons, List.sum_cons, List.length_cons, Nat.mul_add, Nat.mul_one]
    omega
theorem flag_len : ∀ j, j < 32 → (flagName ((j : Nat) : Int)).length ≤ 20 := by decide +kernel
theorem tell_small (f : Int) {i : Nat} (hi : i ≤ 32) : ∀ x ∈ tellBits f i, x.length ≤ 20 := by
  intro x hx
  obtain ⟨j, hj, rfl⟩ := List.mem_map.mp hx
  have := List.mem_range.mp (List.mem_filter.mp hj).1
  exact flag_len j (by omega)
theorem tell_weight (f : Int) {i : Nat} (hi : i ≤ 32) : ((tellBits f i).map (·.length)).sum + (tellBits f i).length ≤ 1048576 := by
  have h1 := sum_le (tell_small f hi)
  have h2 := tell_len f i
  have h3 : 20 * (tellBits f i).length ≤ 20 * 32 := Nat.mul_le_mul_left _ (by omega)
  omega
theorem tell_end {f : Int} {i : Nat} (h0 : 0 ≤ f) (hi : i < 12) (hb : f / 2 ^ i % 2 = 1) (he : f - f % 2 ^ (i + 1) = 0) : tellBits f (i + 1) = tellAll f := by
  have hf : f ≠ 0 := by
    rintro rfl
    rw [Int.zero_ediv] at hb; cases hb
  unfold tellAll
  rw [if_neg hf]
  have hlt : f < 2 ^ (i + 1) := by
    have h1 : f % 2 ^ (i + 1) < 2 ^ (i + 1) := Int.emod_lt_of_pos _ (Int.pow_pos (by decide))
    omega
  have step : ∀ k, tellBits f (i + 1 + k) = tellBits f (i + 1) := by
    intro k
    induction k with
    | zero => rfl
    | succ k ih =>
      rw [← ih]
      refine tell_unset ?_
      have hle : (2 : Int) ^ (i + 1) ≤ 2 ^ (i + 1 + k) := by exact_mod_cast Nat.pow_le_pow_right (by decide) (Nat.le_add_right _ _)
      show f / 2 ^ (i + 1 + k) % 2 = 0
      rw [Int.ediv_eq_zero_of_lt h0 (Int.lt_of_lt_of_le hlt hle)]; rfl
  have := step (12 - (i + 1))
  rw [← this]; congr 1; omega
local macro_rules | `(tactic| walk_at "call builtin:list.append") => `(tactic| (k_here; (with_reducible show wpAny _ _ (call (Value.builtin _) [Value.ref _, Value.str _ _]) _ _ _); k_dflt (refine' append_K ?k1 ?k2 ?k3 ?_ ?z; (case k1 => k_asm); (case k2 => k_asm); (case k3 => k_upd); (case z => (rw [List.size_toArray]; assumption)); k_whole); intro h' F' N'; (try k_sweep)))
local macro_rules | `(tactic| walk_at "call builtin:dict.get") => `(tactic| (k_here; refine KTD.get2_keyed (by with_reducible assumption) (by kt_keeps) (PyProof.V.Flat.str _ _) (each_flag (by assumption) fun t' => ?_)))
theorem pretty_spec {w : World} {loose : List Str} {mean : ExcName → Option Value} {mg mb : Str → Option Value} {dp un : Nat} {gd : Option (List Code)} {fr : Option (List Env)} {s : Shared} {Q E : Value → Shared → Prop} {h₀ : Heap} {L : Addr} {m : Str → Option Value} {news : List (Addr × Obj)} {f : Int} {t : Tok}
    (F : Fr h₀ L s.heap m) (N : News h₀ L s.heap news) (X : (KTop w.params).In h₀) (T : Top VTop loose mean mg mb h₀) (hdp : dp + 2 < recursionLimit) (hM : Moved f)
    (ret : ∀ t h' tk', Fr h₀ L h' m → News h₀ L h' news → Q (.str (Txt.join (Str.ofString ", ") (tellAll f)) t) { s with heap := h', toks := tk' }) :
    wpAny (model PySem.Challenge.rw_ta0074_01.row.prog w) (Ar dp un gd fr) (call (.ref 102) [.int f t]) Q E s := by
  revert X; k_fill; intro X
  refine wpAny_call ?_
  k_dflt (refine' enterN (binds := [(Str.ofString "flags", Value.int f t)]) F N X T ?k6 ?k7 ?k8 ?k9 ?kB ?_ ?c2 ?c3 ?c4 ?c5; (case k6 => k_is); (case k7 => k_is); (case k8 => ktr_room); (case k9 => exact BindsTo.of_eq rfl); (case c5 => decide); (case kB => exact locs rfl); (case c2 => exact rfl); (case c3 => exact rfl); (case c4 => exact rfl))
  clear F N X T
  intro g L' h₁ F N X T back lt
  replace F : Fr g L' h₁ (fun y => List.lookup y [(Str.ofString "flags", Value.int f t)]) := F
  (try dsimp only)
  (try k_unmd)
  k_fold
  obtain ⟨h0, h1⟩ := moved_le hM
  k_steps
  rename_i _ l _ l1 _ _ _ _ _ _ _ _ hR F'' N'' hk
  refine forSrc_range rfl (n := 32) (fun i m₁ nw => ∃ vs, nw = (l, LCg.lst vs) :: news ∧ StrsAre vs (tellBits f i) ∧ (∃ tf, m₁ (Str.ofString "flags") = some (.int (f - f % 2 ^ i) tf)) ∧ m₁ (Str.ofString "names") = some (.ref l) ∧ (f ≠ 0 → f - f % 2 ^ i ≠ 0)) rfl F'' N'' hR (by decide) (by decide) ⟨[], rfl, .nil, ⟨t, by rw [show f - f % 2 ^ 0 = f by simp [Int.emod_one]]; rfl⟩, rfl, by simp [Int.emod_one]⟩ ?_ ?_
  · rintro i t m₁ nw I oI h tk hi ⟨vs, rfl, hc, ⟨tf, hf⟩, hn, hz⟩ F N off
    have hlen : vs.length ≤ sizeLine := by
      have := hc.len_eq
      have := tell_len f i
      have : (32 : Nat) ≤ sizeLine := by decide
      omega
    k_steps
    · rename_i hbit _
      obtain ⟨hi12, hdiv, hxor⟩ := bit_set hM hbit
      refine P.hex_of_int ?_ (by have := (by decide +kernel : ∀ j, j < 12 → (baseText "0x" 16 (1 * 2 ^ (0 + ((j : Nat) : Int)).toNat)).length ≤ sizeLine) i hi12; exact this)
      walk1
      have offI : I ≠ l := fun e => off (l, LCg.lst vs) (.head _) e.symm
      have offl : ∀ p ∈ news, p.1 ≠ l := fun p hp => Nat.ne_of_lt (l1 p hp)
      k_steps
      · refine ForTurn.next (by assumption) (by assumption) _ (fun p hp => hp) (fun p hp => ?_) ?_
        · rcases List.mem_cons.mp hp with rfl | hp
          · exact off (l, LCg.lst vs) (.head _)
          · exact off p (.tail _ hp)
        · have hnz : Builtin.bitXor (f - f % 2 ^ i) (1 * 2 ^ (0 + (i : Int)).toNat) ≠ 0 := by assumption
          refine ⟨_, congrArg (fun o => (l, o) :: news) (LCg.lst_snoc vs _), tell_set hdiv ▸ strs_snoc hc _ _, ⟨_, congrArg (fun z => some (Value.int z _)) hxor⟩, hn, ?_⟩
          · intro _; rw [← hxor]; exact hnz
      · have hnz : Builtin.bitXor (f - f % 2 ^ i) (1 * 2 ^ (0 + (i : Int)).toNat) = 0 := by assumption
        have hall := tell_end h0 hi12 hdiv (hxor ▸ hnz)
        dsimp only [ForTurn]
        k_steps
        have N9 := (by assumption : News g L' _ ((I, oI) :: (l, _) :: news))
        refine join_listW (ys := tellAll f) (News.isList N9 (.tail _ (.head _))) ?_ (by decide) ?_ fun t' k => ?_
        · rw [← hall, tell_set hdiv, show ∀ x, (vs.toArray.push x).toList = vs ++ [x] from fun x => by simp]; exact strs_snoc hc _ _
        · rw [← hall]; exact tell_weight f (by omega)
        · exact ret _ _ _ (back _ _ _ _ (by assumption) N9).1 (cb_drop (back _ _ _ _ (by assumption) N9).2 fun p hp => .tail _ (.tail _ hp))
    · rename_i hbit
      obtain ⟨hdiv, hmod⟩ := bit_unset hM hbit
      refine ForTurn.next (by assumption) (by assumption) _ (fun p hp => hp) off ?_
      refine ⟨vs, rfl, ?_, ⟨tf, ?_⟩, hn, ?_⟩
      · rw [tell_unset hdiv]; exact hc
      · rw [hmod]; exact hf
      · rw [hmod]; exact hz
  · rintro h tk m' nw F N ⟨vs, rfl, hc, ⟨tf, hf⟩, hn, hz⟩
    have hlen : vs.length ≤ sizeLine := by
      have := hc.len_eq
      have := tell_len f 32
      have : (32 : Nat) ≤ sizeLine := by decide
      omega
    have hmod : f % 2 ^ 32 = f := big_mod h0 h1 (by decide)
    have hf0 : f = 0 := Classical.byContradiction fun e => hz e (by rw [hmod, Int.sub_self])
    k_steps
    have N9 := (by assumption : News g L' _ ((l, _) :: news))
    refine join_listW (ys := tellAll f) (News.isList N9 (.head _)) ?_ (by decide) ?_ fun t' k => ?_
    · subst hf0
      have h0 : tellBits 0 32 = [] := by decide +kernel
      rw [h0] at hc
      cases hc
      exact .cons _ _ .nil
    · subst hf0; decide +kernel
    · exact ret _ _ _ (back _ _ _ _ (by assumption) N9).1 (cb_drop (back _ _ _ _ (by assumption) N9).2 fun p hp => .tail _ hp)
end Mine
namespace Mine
theorem off_S14 : True := by w_top off; trivial
noncomputable def costOf (x y : Str) : Int := if x = y then 0 else if Txt.lower x = Txt.lower y then 1 else 2
theorem cost_spec {w : World} {loose : List Str} {mean : ExcName → Option Value} {mg mb : Str → Option Value} {dp un : Nat} {gd : Option (List Code)} {fr : Option (List Env)} {s : Shared} {Q E : Value → Shared → Prop} {h₀ : Heap} {L : Addr} {m : Str → Option Value} {news : List (Addr × Obj)} {x y : Str} {tx ty : Tok}
    (F : Fr h₀ L s.heap m) (N : News h₀ L s.heap news) (X : (KTop w.params).In h₀) (T : Top VTop loose mean mg mb h₀) (hdp : dp + 1 < recursionLimit) (hx : x.length ≤ 100) (hy : y.length ≤ 100)
    (ret : ∀ t h' tk', Fr h₀ L h' m → News h₀ L h' news → Q (.int (costOf x y) t) { s with heap := h', toks := tk' }) :
    wpAny (model PySem.Challenge.rw_ta0074_01.row.prog w) (Ar dp un gd fr) (call (.ref 109) [.str x tx, .str y ty]) Q E s := by
  revert X; k_fill; intro X
  refine wpAny_call ?_
  k_dflt (refine' enterN (binds := [(Str.ofString "ch_a", Value.str x tx), (Str.ofString "ch_b", Value.str y ty)]) F N X T ?k6 ?k7 ?k8 ?k9 ?kB ?_ ?c2 ?c3 ?c4 ?c5; (case k6 => k_is); (case k7 => k_is); (case k8 => ktr_room); (case k9 => exact BindsTo.of_eq rfl); (case c5 => decide); (case kB => exact locs rfl); (case c2 => exact rfl); (case c3 => exact rfl); (case c4 => exact rfl))
  clear F N X T
  intro g L' h₁ F N X T back lt
  replace F : Fr g L' h₁ (fun z => List.lookup z [(Str.ofString "ch_b", Value.str y ty), (Str.ofString "ch_a", Value.str x tx)]) := F
  (try dsimp only)
  (try k_unmd)
  k_fold
  unfold costOf at ret
  k_steps
  · have e : x = y := by simpa using (by assumption : (x == y) = true)
    rw [if_pos e] at ret
    exact ret _ _ _ (back _ _ _ _ (by assumption) (by assumption)).1 (back _ _ _ _ (by assumption) (by assumption)).2
  · have e : ¬ x = y := by simpa using (by assumption : (x == y) = false)
    have e2 : Txt.lower x = Txt.lower y := by simpa using (by assumption : (Txt.lower x == Txt.lower y) = true)
    rw [if_neg e, if_pos e2] at ret
    exact ret _ _ _ (back _ _ _ _ (by assumption) (by assumption)).1 (back _ _ _ _ (by assumption) (by assumption)).2
  · have e : ¬ x = y := by simpa using (by assumption : (x == y) = false)
    have e2 : ¬ Txt.lower x = Txt.lower y := by simpa using (by assumption : (Txt.lower x == Txt.lower y) = false)
    rw [if_neg e, if_neg e2] at ret
    exact ret _ _ _ (back _ _ _ _ (by assumption) (by assumption)).1 (back _ _ _ _ (by assumption) (by assumption)).2
end Mine
namespace Mine
theorem rows16 {f : Nat → Bool} (h0 : f 0 = true) (h1 : f 1 = true) (h2 : f 2 = true) (h3 : f 3 = true) (h4 : f 4 = true) (h5 : f 5 = true) (h6 : f 6 = true) (h7 : f 7 = true) (h8 : f 8 = true) (h9 : f 9 = true) (h10 : f 10 = true) (h11 : f 11 = true) (h12 : f 12 = true) (h13 : f 13 = true) (h14 : f 14 = true) (h15 : f 15 = true) : (List.range 16).all f = true := by
  rw [show List.range 16 = [0, 1, 2, 3, 4, 5, 6, 7, 8, 9, 10, 11, 12, 13, 14, 15] from rfl]
  simp only [List.all_cons, List.all_nil, Bool.and_self, h0, h1, h2, h3, h4, h5, h6, h7, h8, h9, h10, h11, h12, h13, h14, h15]
noncomputable def preOf (x y : Str) : Nat := ((List.range 4).takeWhile fun (p : Nat) => Txt.item x (p : Int) == Txt.item y (p : Int)).length
noncomputable def preOk (x y : Str) (p : Nat) : Bool :=
  if (((Txt.slice x (some (p : Int)) none).length : Int) ≠ 0 ∧ ((Txt.slice y (some (p : Int)) none).length : Int) ≠ 0) ∧ (Txt.item x (p : Int) == Txt.item y (p : Int)) = true then decide (p + 1 ≤ preOf x y) && decide (p + 1 ≤ 4) else decide (p = preOf x y)
theorem pre_all : (List.range 16).all (fun a => (List.range 16).all fun b => (List.range 5).all fun p => !decide (p ≤ preOf (spelled (a : Nat)) (spelled (b : Nat))) || preOk (spelled (a : Nat)) (spelled (b : Nat)) p) = true := by kernel_rfl
theorem pre_ok {a b : Int} {p : Nat} (a0 : 0 ≤ a) (a1 : a < 16) (b0 : 0 ≤ b) (b1 : b < 16) (hp : p ≤ preOf (spelled a) (spelled b)) (h4 : p ≤ 4) : preOk (spelled a) (spelled b) p = true := by
  have h := List.all_eq_true.mp pre_all a.toNat (List.mem_range.mpr (by omega))
  have h := List.all_eq_true.mp h b.toNat (List.mem_range.mpr (by omega))
  have h := List.all_eq_true.mp h p (List.mem_range.mpr (by omega))
  rw [Int.toNat_of_nonneg a0, Int.toNat_of_nonneg b0, decide_eq_true hp] at h
  simpa using h
noncomputable def slq (x : Str) (q : Nat) : Str := if q = 0 then Txt.slice x none none else Txt.slice x none (some (-(q : Int)))
noncomputable def x1 (x y : Str) : Str := Txt.slice x (some (preOf x y : Int)) none
noncomputable def y1 (x y : Str) : Str := Txt.slice y (some (preOf x y : Int)) none
noncomputable def postOf (x y : Str) : Nat := ((List.range 4).takeWhile fun (q : Nat) => slq x q != Str.empty && slq y q != Str.empty && Txt.item x (-(q : Int) - 1) == Txt.item y (-(q : Int) - 1)).length
noncomputable def postOk (x y : Str) (q : Nat) : Bool :=
  if (((slq x q).length : Int) ≠ 0 ∧ ((slq y q).length : Int) ≠ 0) ∧ (Txt.item x (-(q : Int) - 1) == Txt.item y (-(q : Int) - 1)) = true then decide (q + 1 ≤ postOf x y) && decide (q + 1 ≤ 4) else decide (q = postOf x y)
noncomputable def longOk (x y : Str) (q : Nat) : Bool := (decide (((slq x q).length : Int) = 0) || decide (q + 1 ≤ x.length)) && (decide (((slq y q).length : Int) = 0) || decide (q + 1 ≤ y.length))
noncomputable def rowOk (f : Str → Str → Bool) (a : Nat) : Bool := (List.range 16).all fun b => f (spelled (a : Nat)) (spelled (b : Nat))
noncomputable def pairOk (f : Str → Str → Bool) : Bool := (List.range 16).all (rowOk f)
theorem pair_ok {f : Str → Str → Bool} (h : pairOk f = true) {a b : Int} (a0 : 0 ≤ a) (a1 : a < 16) (b0 : 0 ≤ b) (b1 : b < 16) : f (spelled a) (spelled b) = true := by
  have h := List.all_eq_true.mp h a.toNat (List.mem_range.mpr (by omega))
  have h := List.all_eq_true.mp h b.toNat (List.mem_range.mpr (by omega))
  rw [Int.toNat_of_nonneg a0, Int.toNat_of_nonneg b0] at h
  exact h
noncomputable def postF : Str → Str → Bool := fun A B => let x := x1 A B; let y := y1 A B; (List.range 5).all fun q => (!decide (q ≤ postOf x y) || postOk x y q) && longOk x y q
theorem post_0 : rowOk postF 0 = true := by kernel_rfl
theorem post_1 : rowOk postF 1 = true := by kernel_rfl
theorem post_2 : rowOk postF 2 = true := by kernel_rfl
theorem post_3 : rowOk postF 3 = true := by kernel_rfl
theorem post_4 : rowOk postF 4 = true := by kernel_rfl
theorem post_5 : rowOk postF 5 = true := by kernel_rfl
theorem post_6 : rowOk postF 6 = true := by kernel_rfl
theorem post_7 : rowOk postF 7 = true := by kernel_rfl
theorem post_8 : rowOk postF 8 = true := by kernel_rfl
theorem post_9 : rowOk postF 9 = true := by kernel_rfl
theorem post_10 : rowOk postF 10 = true := by kernel_rfl
theorem post_11 : rowOk postF 11 = true := by kernel_rfl
theorem post_12 : rowOk postF 12 = true := by kernel_rfl
theorem post_13 : rowOk postF 13 = true := by kernel_rfl
theorem post_14 : rowOk postF 14 = true := by kernel_rfl
theorem post_15 : rowOk postF 15 = true := by kernel_rfl
theorem post_all : pairOk postF = true := rows16 post_0 post_1 post_2 post_3 post_4 post_5 post_6 post_7 post_8 post_9 post_10 post_11 post_12 post_13 post_14 post_15
noncomputable def lenOk (A B : Str) : Bool := A == B || (let x := x1 A B; let y := y1 A B; let q := postOf x y; decide ((slq x q).length = (slq y q).length) && decide (1 ≤ (slq y q).length) && decide ((slq y q).length ≤ 4))
theorem len_0 : rowOk lenOk 0 = true := by kernel_rfl
theorem len_1 : rowOk lenOk 1 = true := by kernel_rfl
theorem len_2 : rowOk lenOk 2 = true := by kernel_rfl
theorem len_3 : rowOk lenOk 3 = true := by kernel_rfl
theorem len_4 : rowOk lenOk 4 = true := by kernel_rfl
theorem len_5 : rowOk lenOk 5 = true := by kernel_rfl
theorem len_6 : rowOk lenOk 6 = true := by kernel_rfl
theorem len_7 : rowOk lenOk 7 = true := by kernel_rfl
theorem len_8 : rowOk lenOk 8 = true := by kernel_rfl
theorem len_9 : rowOk lenOk 9 = true := by kernel_rfl
theorem len_10 : rowOk lenOk 10 = true := by kernel_rfl
theorem len_11 : rowOk lenOk 11 = true := by kernel_rfl
theorem len_12 : rowOk lenOk 12 = true := by kernel_rfl
theorem len_13 : rowOk lenOk 13 = true := by kernel_rfl
theorem len_14 : rowOk lenOk 14 = true := by kernel_rfl
theorem len_15 : rowOk lenOk 15 = true := by kernel_rfl
theorem len_all : pairOk lenOk = true := rows16 len_0 len_1 len_2 len_3 len_4 len_5 len_6 len_7 len_8 len_9 len_10 len_11 len_12 len_13 len_14 len_15
noncomputable def step (c : Int) (j : Nat) (p : Int × Int × Int × List Int) : Int × Int × Int × List Int :=
  let r0 := p.2.2.2.getD j 0
  let a := (if r0 < p.2.1 then r0 else p.2.1) + 2
  let b := p.1 + c
  let res := if b < a then b else a
  (r0, res, if res < p.2.2.1 then res else p.2.2.1, p.2.2.2.set j res)
noncomputable def inner (x y : Str) (i : Nat) (row : List Int) : Nat → Int × Int × Int × List Int
  | 0 => (2 * i, 2 * i, 9223372036854775807, row)
  | j + 1 => step (costOf (Txt.item y (i : Int)) (Txt.item x (j : Int))) j (inner x y i row j)
noncomputable def outer (x y : Str) (n : Nat) : Nat → Int × List Int
  | 0 => (0, (List.range n).map fun (k : Nat) => 2 + (k : Int) * 2)
  | i + 1 => let p := inner x y i (outer x y n i).2 n; (p.2.1, p.2.2.2)
theorem inner_len (x y : Str) (i : Nat) (row : List Int) (j : Nat) : (inner x y i row j).2.2.2.length = row.length := by
  induction j with
  | zero => rfl
  | succ j ih => unfold inner step; dsimp only; rw [List.length_set]; exact ih
theorem outer_len (x y : Str) (n i : Nat) : (outer x y n i).2.length = n := by
  induction i with
  | zero => unfold outer; rw [List.length_map, List.length_range]
  | succ i ih => unfold outer; dsimp only; rw [inner_len]; exact ih
/-- the number of bits in which two words are unlike -/
noncomputable def ham (a b : Int) : Int := ((List.range 4).map fun (k : Nat) => Builtin.bitAnd ((Builtin.bitXor a b).fdiv (2 ^ (0 + (k : Int)).toNat)) 1).sum
noncomputable def levOk (a b : Nat) : Bool :=
  let A := spelled a; let B := spelled b
  if A == B then decide (0 = ham a b) else
  let x := x1 A B; let y := y1 A B; let q := postOf x y; let X := slq x q; let Y := slq y q; let n := Y.length
  decide ((outer X Y n n).1 = ham a b) && (List.range n).all fun i => decide ((inner X Y i (outer X Y n i).2 n).2.2.1 ≤ 4)
theorem lev_0 : ((List.range 16).all fun b => levOk 0 b) = true := by kernel_rfl
theorem lev_1 : ((List.range 16).all fun b => levOk 1 b) = true := by kernel_rfl
theorem lev_2 : ((List.range 16).all fun b => levOk 2 b) = true := by kernel_rfl
theorem lev_3 : ((List.range 16).all fun b => levOk 3 b) = true := by kernel_rfl
theorem lev_4 : ((List.range 16).all fun b => levOk 4 b) = true := by kernel_rfl
theorem lev_5 : ((List.range 16).all fun b => levOk 5 b) = true := by kernel_rfl
theorem lev_6 : ((List.range 16).all fun b => levOk 6 b) = true := by kernel_rfl
theorem lev_7 : ((List.range 16).all fun b => levOk 7 b) = true := by kernel_rfl
theorem lev_8 : ((List.range 16).all fun b => levOk 8 b) = true := by kernel_rfl
theorem lev_9 : ((List.range 16).all fun b => levOk 9 b) = true := by kernel_rfl
theorem lev_10 : ((List.range 16).all fun b => levOk 10 b) = true := by kernel_rfl
theorem lev_11 : ((List.range 16).all fun b => levOk 11 b) = true := by kernel_rfl
theorem lev_12 : ((List.range 16).all fun b => levOk 12 b) = true := by kernel_rfl
theorem lev_13 : ((List.range 16).all fun b => levOk 13 b) = true := by kernel_rfl
theorem lev_14 : ((List.range 16).all fun b => levOk 14 b) = true := by kernel_rfl
theorem lev_15 : ((List.range 16).all fun b => levOk 15 b) = true := by kernel_rfl
theorem lev_all : ((List.range 16).all fun a => (List.range 16).all fun b => levOk a b) = true := rows16 (f := fun a => (List.range 16).all fun b => levOk a b) lev_0 lev_1 lev_2 lev_3 lev_4 lev_5 lev_6 lev_7 lev_8 lev_9 lev_10 lev_11 lev_12 lev_13 lev_14 lev_15
theorem lev_ok {a b : Int} (a0 : 0 ≤ a) (a1 : a < 16) (b0 : 0 ≤ b) (b1 : b < 16) : levOk a.toNat b.toNat = true := by
  have h := List.all_eq_true.mp lev_all a.toNat (List.mem_range.mpr (by omega))
  exact List.all_eq_true.mp h b.toNat (List.mem_range.mpr (by omega))
theorem ints_of_get : ∀ (vs : List Value) (ns : List Int), vs.length = ns.length → (∀ (j : Nat) (v : Value), vs[j]? = some v → ∃ t, v = .int (ns.getD j 0) t) → IntsAre vs ns
  | [], [], _, _ => .nil
  | v :: r, n :: ns, e, h => by
    obtain ⟨t, ht⟩ := h 0 v rfl
    have hv : v = .int n t := by rw [ht]; rfl
    subst hv
    exact .cons _ _ (ints_of_get r ns (by simpa using e) fun j v hj => h (j + 1) v hj)
end Mine
namespace Mine
theorem lev_fact {a b : Int} (a0 : 0 ≤ a) (a1 : a < 16) (b0 : 0 ≤ b) (b1 : b < 16) (hne : (spelled a == spelled b) = false) {x y : Str} (hx : x = x1 (spelled a) (spelled b)) (hy : y = y1 (spelled a) (spelled b)) :
    (outer (slq x (postOf x y)) (slq y (postOf x y)) (slq y (postOf x y)).length (slq y (postOf x y)).length).1 = ham a b ∧
    ∀ i < (slq y (postOf x y)).length, (inner (slq x (postOf x y)) (slq y (postOf x y)) i (outer (slq x (postOf x y)) (slq y (postOf x y)) (slq y (postOf x y)).length i).2 (slq y (postOf x y)).length).2.2.1 ≤ 4 := by
  have h := lev_ok a0 a1 b0 b1
  unfold levOk at h
  dsimp only at h
  rw [Int.toNat_of_nonneg a0, Int.toNat_of_nonneg b0, hne, if_neg Bool.false_ne_true, ← hx, ← hy] at h
  simp only [Bool.and_eq_true, decide_eq_true_eq] at h
  exact ⟨h.1, fun i hi => of_decide_eq_true (List.all_eq_true.mp h.2 i (List.mem_range.mpr hi))⟩
theorem lev_zero {a b : Int} (a0 : 0 ≤ a) (a1 : a < 16) (b0 : 0 ≤ b) (b1 : b < 16) (he : (spelled a == spelled b) = true) : 0 = ham a b := by
  have h := lev_ok a0 a1 b0 b1
  unfold levOk at h
  dsimp only at h
  rw [Int.toNat_of_nonneg a0, Int.toNat_of_nonneg b0, he, if_pos rfl] at h
  exact of_decide_eq_true h
theorem inner_succ (x y : Str) (i : Nat) (row : List Int) (j : Nat) : inner x y i row (j + 1) = step (costOf (Txt.item y (i : Int)) (Txt.item x (j : Int))) j (inner x y i row j) := rfl
theorem outer_succ (x y : Str) (n i : Nat) : outer x y n (i + 1) = ((inner x y i (outer x y n i).2 n).2.1, (inner x y i (outer x y n i).2 n).2.2.2) := rfl
end Mine
namespace Mine
theorem off_S15 : True := by w_top off; trivial
local macro_rules | `(tactic| walk_at "eval Name") => `(tactic| (k_here; k_dflt (refine' nameX ?F ?l ?v ?_ ?a ?b ?c; (case F => k_asm); (case l => exact rfl); (case a => exact rfl); (case b => exact rfl); (case c => decide); (case v => assumption); k_whole)))
local macro_rules | `(tactic| walk_at "loadName") => `(tactic| (k_here; k_dflt (refine' loadX ?F ?l ?v ?_ ?a ?b; (case F => k_asm); (case l => exact rfl); (case a => exact rfl); (case b => exact rfl); (case v => first | exact rfl | assumption); k_whole)))
local macro_rules | `(tactic| walk_at "exec For Name") => `(tactic| (k_here; (with_reducible rename Fr _ _ _ _ => lF'); k_dflt (refine' forJF lF' ?hx ?hp ?_ ?hs; (case hx => exact rfl); (case hp => exact rfl); (case hs => intro _; with_unfolding_all rfl))))
local macro_rules | `(tactic| walk_at "exec For Name Call cons nil") => `(tactic| (k_here; (with_reducible rename Fr _ _ _ _ => lF'); k_dflt (refine' forJF lF' ?hx ?hp ?_ ?hs; (case hx => exact rfl); (case hp => exact rfl); (case hs => intro _; with_unfolding_all rfl))))
local macro_rules | `(tactic| k_enter) => `(tactic| first
  | (refine' enterL ?k2 ?k4 ?k3 ?k5 ?k6 ?k7 ?k8 ?k9 ?kB ?_ ?c2 ?c3 ?c4 ?c5; (case k2 => k_asm); (case k4 => k_asm); (case k3 => k_asm); (case k5 => k_asm); (case k6 => k_is); (case k7 => k_is); (case k8 => ktr_room); (case k9 => first | exact BindsTo.of_eq rfl | exact binds_K (by k_in) rfl (by k_is) rfl rfl rfl | (refine' kp_binds ?kx ?ke; (case kx => k_in); (case ke => exact fun _ => rfl)) | fail "k_enter: no rule for these arguments"); (case c5 => decide); (case kB => exact locs rfl); (case c2 => exact rfl); (case c3 => exact rfl); (case c4 => exact rfl); k_whole; intro g' L' h' F' N' X' T' l1; (try dsimp only); (try k_unmd); (try k_fold))
  | (refine' enterM ?k2 ?k4 ?k3 ?k5 ?k6 ?k7 ?k8 ?kP ?kG ?kB ?_ ?c2 ?c3 ?c4 ?c5; (case k2 => k_asm); (case k4 => k_asm); (case k3 => k_asm); (case k5 => k_asm); (case k6 => k_is); (case k7 => k_is); (case k8 => ktr_room); (case kP => exact rfl); (case kG => exact fun _ => rfl); (case c5 => decide); (case kB => exact fun _ => locs rfl); (case c2 => exact rfl); (case c3 => exact rfl); (case c4 => exact rfl); k_whole; intro D' g' L' h' tk' l2 lo' F' N' X' T' l1; (try k_lt l2); (try dsimp only); (try k_unmd); (try k_fold)))
local macro_rules | `(tactic| k_all) => `(tactic| first | assumption | exact ne_succ1 (by assumption) | exact ne_succ2 (by assumption) | exact ne_succ3 (by assumption) | exact ne_succ4 (by assumption))
local macro_rules | `(tactic| k_mem) => `(tactic| assumption)
section
variable {prog : Program} {w : World} {A : Around} {E : Value → Shared → Prop} {s : Shared} {h₀ : Heap} {L : Addr} {m : Str → Option Value} {news : List (Addr × Obj)} {Q : Value → Shared → Prop}
theorem list_evens {r : Addr} {k : Nat} {t u v : Tok} (hh : A.handled = none) (F : Fr h₀ L s.heap m) (N : News h₀ L s.heap news) (hr : IsRange s.heap r 2 (2 * ((k : Int) + 1)) 2 t u v) (h1 : 1 ≤ k) (h4 : k ≤ 4)
    (h : ∀ D us c h' tk, Fr h₀ L h' m → News h₀ L h' ((D, W.listOf (List.toArray us) c) :: news) → (∀ p ∈ news, p.1 < D) → IntsAre us ((List.range k).map fun (j : Nat) => 2 + (j : Int) * 2) → Q (.ref D) { s with heap := h', toks := tk }) :
    wpAny (model prog w) A (call (.type "list") [.ref r]) Q E s := by
  have hk : k = 1 ∨ k = 2 ∨ k = 3 ∨ k = 4 := by omega
  have hs : Builtin.Range.small 2 (2 * ((k : Int) + 1)) 2 = true := by rcases hk with rfl | rfl | rfl | rfl <;> decide
  have hn : Builtin.Range.rangeSize 2 (2 * ((k : Int) + 1)) 2 = (k : Int) := by rcases hk with rfl | rfl | rfl | rfl <;> decide
  refine call_list_range hh hr hs hn (Nat.le_trans h4 (by decide)) fun h' tk acc c hk' hD hI => ?_
  have hD' : h'.get? s.heap.objs.size = some (W.listOf (List.toArray acc.toList) c) := by
    rw [Array.toArray_toList]
    exact hD
  refine h _ acc.toList c h' tk (F.keeps hk') (news_pushed F N hk' hD' rfl) (fun p hp => Heap.lt_size (N p hp).1) (ints_of_get _ _ (by rw [Array.length_toList, List.length_map, List.length_range]; exact hI.1) fun j v hj => ?_)
  have hj' : acc[j]? = some v := by rw [← hj, Array.getElem?_toList]
  obtain ⟨t, ht⟩ := hI.2 j v hj'
  have hlt : j < k := by
    have := (Array.getElem?_eq_some_iff.mp hj').1
    rw [hI.1] at this; exact this
  exact ⟨t, by rw [ht, List.getD_eq_getElem?_getD, List.getElem?_map, List.getElem?_range hlt]; rfl⟩
end
local macro_rules | `(tactic| walk_at "call type:list") => `(tactic| (k_here; (with_reducible rename IsRange _ _ _ _ _ _ _ _ => rgX); (refine' list_evens rfl ?k1 ?k2 rgX ?k3 ?k4 ?_; (case k1 => k_asm); (case k2 => k_asm); (case k3 => omega); (case k4 => omega)); intro D' us' c' h' tk' F' N' l1' hI'; (try k_lt l1'); (try k_sweep); (try dsimp only)))
theorem range_fit {k : Nat} (h : k ≤ 8) : Builtin.Range.small 0 (k : Int) 1 = true ∧ Builtin.Range.rangeSize 0 (k : Int) 1 = (k : Int) := by
  have : ∀ k : Nat, k < 9 → Builtin.Range.small 0 (k : Int) 1 = true ∧ Builtin.Range.rangeSize 0 (k : Int) 1 = (k : Int) := by decide
  exact this k (by omega)
noncomputable def Stop (P : Prop) : Prop := P
theorem stopIt {P : Prop} (h : Stop P) : P := h
local macro_rules | `(tactic| walk_at "exec While") => `(tactic| (k_here; refine stopIt ?_))
noncomputable def PreEnd (g : Heap) (L' : Addr) (s : Shared) (news : List (Addr × Obj)) (a b : Int) (ta tb tc : Tok) (f : Flow) (s₂ : Shared) : Prop :=
  f = Flow.next ∧ ∃ h tk m₁, s₂ = { s with heap := h, toks := tk } ∧ Fr g L' h m₁ ∧ News g L' h news ∧ (∃ t, m₁ (Str.ofString "pre") = some (.int (preOf (spelled a) (spelled b) : Nat) t)) ∧ m₁ (Str.ofString "a") = some (.str (spelled a) ta) ∧ m₁ (Str.ofString "b") = some (.str (spelled b) tb) ∧ m₁ (Str.ofString "max_cost") = some (.int 4 tc)
noncomputable def PostEnd (g : Heap) (L' : Addr) (s : Shared) (news : List (Addr × Obj)) (x y : Str) (tc : Tok) (f : Flow) (s₂ : Shared) : Prop :=
  f = Flow.next ∧ ∃ h tk m₁, s₂ = { s with heap := h, toks := tk } ∧ Fr g L' h m₁ ∧ News g L' h news ∧ (∃ t, m₁ (Str.ofString "post") = some (.int (-(postOf x y : Nat)) t)) ∧ (∃ t, m₁ (Str.ofString "a") = some (.str x t)) ∧ (∃ t, m₁ (Str.ofString "b") = some (.str y t)) ∧ m₁ (Str.ofString "max_cost") = some (.int 4 tc)
noncomputable def OrNone (i : Int) (t : Tok) (v : Value) : Prop := (i = 0 ∧ v = .none) ∨ (i ≠ 0 ∧ v = .int i t)
section
variable {prog : Program} {w : World} {A : Around} {E : Value → Shared → Prop} {s : Shared} {h₀ : Heap} {L : Addr} {m : Str → Option Value} {env : Env} {news : List (Addr × Obj)} {Q : Value → Shared → Prop}
theorem or_none {x : Str} {i : Int} {t : Tok} {p1 p2 pos : Pos} {k : Nat} (F : Fr h₀ L s.heap m) (hL : env.locals = L) (hv : m x = some (.int i t)) (h : ∀ v, OrNone i t v → Q v s) (hk : env.scope.kind = .function) (hx : env.kindOf x = some .local) (hd : (x == ("__debug__" : Str)) = false) :
    wpAny (model prog w) A (eval (.BoolOp .Or [.Name x p1, .Constant .none k p2] pos) env) Q E s := by
  refine BoolOp_or (nameX F hL hv (P.truthy_int ?_) hk hx hd)
  by_cases hi : i = 0
  · rw [show (i != 0) = false by simp [hi], if_neg Bool.false_ne_true]
    exact BoolOp_one (wpAny_Constant_none (h _ (.inl ⟨hi, rfl⟩)))
  · rw [show (i != 0) = true by simp [hi], if_pos rfl]
    exact h _ (.inr ⟨hi, rfl⟩)
theorem slice_or {value slice : Expr} {x : Str} {t tj : Tok} {v : Value} {q : Nat} (hv : OrNone (-((q : Nat) : Int)) tj v) (hF : Fr h₀ L s.heap m) (hN : News h₀ L s.heap news)
    (h : ∀ h' t' k, Fr h₀ L h' m → News h₀ L h' news → (slq x q).length ≤ x.length → Q (.str (slq x q) t') { s with heap := h', toks := k })
    (hs : subscripted slice false (.str x t) (.ref s.heap.objs.size) = operate [.ref s.heap.objs.size, .str x t] (getItem (.str x t) (.ref s.heap.objs.size)))
    (ht : ∀ r, letTemporaryGo value (.str x t) r = pure ()) (hsz : x.length ≤ sizeLine) :
    wpAny (model prog w) A (subscriptTail value slice (.str x t) (.ref s.heap.objs.size)) Q E { s with heap := s.heap.push { cls := .type "slice", data := .fields #[.none, v, .none] } } := by
  rcases hv with ⟨h0, rfl⟩ | ⟨h0, rfl⟩
  · have hq : q = 0 := by omega
    have e : slq x q = Txt.slice x none none := if_pos hq
    rw [e] at h
    exact slice_strN_nn_len hF hN h hs ht hsz
  · have hq : ¬ q = 0 := by omega
    have e : slq x q = Txt.slice x none (some (-(q : Int))) := if_neg hq
    rw [e] at h
    exact slice_strN_ns_len hF hN h hs ht hsz
end
local macro_rules | `(tactic| walk_at "eval BoolOp") => `(tactic| (k_here; k_dflt (refine' or_none ?F ?l ?v ?_ ?a ?b ?c; (case F => k_asm); (case l => exact rfl); (case a => exact rfl); (case b => exact rfl); (case c => decide); (case v => first | assumption | exact rfl)); intro vN hvN))
local macro_rules | `(tactic| walk_at "subscriptTail Name Slice str ref") => `(tactic| (k_here; (with_reducible rename Fr _ _ _ _ => F'); (with_reducible rename News _ _ _ _ => N'); first
  | ((with_reducible rename OrNone _ _ _ => hvN); refine slice_or (s := ⟨_, _, _, _, _⟩) hvN F' N' ?_ ?hs ?ht ?hsz; (case hsz => size_fits); (case hs => rfl); (case ht => intro _; rfl); clear hvN; intro _ _ _ _ _ _)
  | (refine slice_strN_sn_len (hsz := ?hsz) (s := ⟨_, _, _, _, _⟩) F' N' ?_ ?hs ?ht; (case hsz => size_fits); (case hs => rfl); (case ht => intro _; rfl); intro _ _ _ _ _ _)); (try dsimp only))
local macro_rules | `(tactic| walk_at "pyIter ref") => `(tactic| (k_here; refine stopIt ?_))
local macro_rules | `(tactic| walk_at "call ref") => `(tactic| (k_here; (refine' cost_spec ?kF ?kN ?kX ?kT ?hd ?hx ?hy ?_; (case kF => k_asm); (case kN => k_asm); (case kX => assumption); (case kT => assumption); (case hd => first | assumption | omega); (case hx => exact Nat.le_trans (Nat.le_of_eq (len_item _ _)) (by decide)); (case hy => exact Nat.le_trans (Nat.le_of_eq (len_item _ _)) (by decide))); intro _ _ _ _ _; (try k_sweep); (try dsimp only)))
theorem lev_spec {w : World} {loose : List Str} {mean : ExcName → Option Value} {mg mb : Str → Option Value} {dp un : Nat} {gd : Option (List Code)} {fr : Option (List Env)} {s : Shared} {Q E : Value → Shared → Prop} {h₀ : Heap} {L : Addr} {m : Str → Option Value} {news : List (Addr × Obj)} {a b : Int} {ta tb tc : Tok}
    (F : Fr h₀ L s.heap m) (N : News h₀ L s.heap news) (X : (KTop w.params).In h₀) (T : Top VTop loose mean mg mb h₀) (hdp : dp + 2 < recursionLimit) (a0 : 0 ≤ a) (a1 : a < 16) (b0 : 0 ≤ b) (b1 : b < 16)
    (ret : ∀ t h' tk', Fr h₀ L h' m → News h₀ L h' news → Q (.int (ham a b) t) { s with heap := h', toks := tk' }) :
    wpAny (model PySem.Challenge.rw_ta0074_01.row.prog w) (Ar dp un gd fr) (call (.ref 116) [.str (spelled a) ta, .str (spelled b) tb, .int 4 tc]) Q E s := by
  revert X; k_fill; intro X
  refine wpAny_call ?_
  k_dflt (refine' enterN (binds := [(Str.ofString "a", Value.str (spelled a) ta), (Str.ofString "b", Value.str (spelled b) tb), (Str.ofString "max_cost", Value.int 4 tc)]) F N X T ?k6 ?k7 ?k8 ?k9 ?kB ?_ ?c2 ?c3 ?c4 ?c5; (case k6 => k_is); (case k7 => k_is); (case k8 => ktr_room); (case k9 => exact BindsTo.of_eq rfl); (case c5 => decide); (case kB => exact locs rfl); (case c2 => exact rfl); (case c3 => exact rfl); (case c4 => exact rfl))
  clear F N X T
  intro g L' h₁ F N X T back lt
  replace F : Fr g L' h₁ (fun z => List.lookup z [(Str.ofString "max_cost", Value.int 4 tc), (Str.ofString "b", Value.str (spelled b) tb), (Str.ofString "a", Value.str (spelled a) ta)]) := F
  (try dsimp only)
  (try k_unmd)
  k_fold
  have la : (spelled a).length ≤ 4 := Nat.le_refl _
  have lb : (spelled b).length ≤ 4 := Nat.le_refl _
  k_steps
  · rw [lev_zero a0 a1 b0 b1 (by assumption)]
    exact ret _ _ _ (back _ _ _ _ (by assumption) (by assumption)).1 (back _ _ _ _ (by assumption) (by assumption)).2
  · rename_i hne tk F1 N1
    refine wpAny_mono (Q := PreEnd g L' s news a b ta tb tc)
      (While_inv (fun n m₁ nw => nw = news ∧ ∃ p t, p + n = 4 ∧ p ≤ preOf (spelled a) (spelled b) ∧ m₁ (Str.ofString "pre") = some (.int (p : Nat) t) ∧ m₁ (Str.ofString "a") = some (.str (spelled a) ta) ∧ m₁ (Str.ofString "b") = some (.str (spelled b) tb) ∧ m₁ (Str.ofString "max_cost") = some (.int 4 tc)) (n₀ := 4) F1 N1 ⟨rfl, 0, _, rfl, Nat.zero_le _, rfl, rfl, rfl, rfl⟩ ?_) ?_ (fun _ _ e => e)
    · rintro n m₁ nw h tk₁ F N ⟨rfl, p, t, hp, hple, h1, h2, h3, h4⟩
      clear F1 N1
      try dsimp only
      k_fold
      have hok := pre_ok a0 a1 b0 b1 hple (by omega)
      unfold preOk at hok
      k_steps
      · rw [if_pos ⟨⟨by assumption, by assumption⟩, by assumption⟩] at hok
        simp only [Bool.and_eq_true, decide_eq_true_eq] at hok
        refine WhileStep.intro (n' := n - 1) (by assumption) (by assumption) (by omega) ?_
        exact ⟨rfl, p + 1, _, by omega, hok.1, rfl, h2, h3, h4⟩
      all_goals
        rw [if_neg (by intro hh; simp_all)] at hok
        have e := of_decide_eq_true hok
        subst e
        exact ⟨rfl, _, _, m₁, rfl, by assumption, by assumption, ⟨_, h1⟩, h2, h3, h4⟩
    · rintro f s₂ ⟨rfl, h, tk, m₁, rfl, F, N, ⟨t, h1⟩, h2, h3, h4⟩
      clear F1 N1
      try dsimp only
      k_steps
      have hx1 : (x1 (spelled a) (spelled b)).length ≤ (spelled a).length := by assumption
      have hy1 : (y1 (spelled a) (spelled b)).length ≤ (spelled b).length := by assumption
      (rename Fr _ _ _ _ => F2)
      (rename News _ _ _ _ => N2)
      obtain ⟨x, hx⟩ : ∃ x, x = x1 (spelled a) (spelled b) := ⟨_, rfl⟩
      obtain ⟨y, hy⟩ : ∃ x, x = y1 (spelled a) (spelled b) := ⟨_, rfl⟩
      have hpost := pair_ok post_all a0 a1 b0 b1
      unfold postF at hpost
      dsimp only at hpost
      rw [← hx, ← hy] at hpost
      rw [← hx] at hx1
      rw [← hy] at hy1
      have hx4 : x.length ≤ 4 := hx1
      have hy4 : y.length ≤ 4 := hy1
      refine wpAny_mono (Q := PostEnd g L' s news x y tc)
        (While_inv (fun n m₁ nw => nw = news ∧ ∃ q t u v, q + n = 4 ∧ q ≤ postOf x y ∧ m₁ (Str.ofString "post") = some (.int (-((q : Nat) : Int)) t) ∧ m₁ (Str.ofString "a") = some (.str x u) ∧ m₁ (Str.ofString "b") = some (.str y v) ∧ m₁ (Str.ofString "max_cost") = some (.int 4 tc)) (n₀ := 4) F2 N2 ⟨rfl, 0, _, _, _, rfl, Nat.zero_le _, rfl, by rw [hx]; rfl, by rw [hy]; rfl, h4⟩ ?_) ?_ (fun _ _ e => e)
      · clear F2 N2 hx hy hx1 hy1
        rintro n m₁ nw h tk₁ F N ⟨rfl, q, t, u, v, hq, hqle, h1, h2, h3, h4⟩
        try dsimp only
        k_fold
        have hok := List.all_eq_true.mp hpost q (List.mem_range.mpr (by omega))
        rw [decide_eq_true hqle, Bool.not_true, Bool.false_or] at hok
        unfold postOk longOk at hok
        simp only [Bool.and_eq_true, Bool.or_eq_true, decide_eq_true_eq] at hok
        obtain ⟨hok, hql, hqr⟩ := hok
        k_steps
        · rw [if_pos ⟨⟨by assumption, by assumption⟩, by assumption⟩] at hok
          simp only [Bool.and_eq_true, decide_eq_true_eq] at hok
          refine WhileStep.intro (n' := n - 1) (by assumption) (by assumption) (by omega) ?_
          exact ⟨rfl, q + 1, _, _, _, by omega, hok.1, congrArg (fun z => some (Value.int z _)) (by omega : -((q : Nat) : Int) - 1 = -((q + 1 : Nat) : Int)), h2, h3, h4⟩
        all_goals
          rw [if_neg (by intro hh; simp_all)] at hok
          have e := of_decide_eq_true hok
          exact ⟨rfl, _, _, m₁, rfl, by assumption, by assumption, ⟨_, by rw [← e]; exact h1⟩, ⟨_, h2⟩, ⟨_, h3⟩, h4⟩
      · have hlen := pair_ok len_all a0 a1 b0 b1
        unfold lenOk at hlen
        dsimp only at hlen
        rw [hne, Bool.false_or, ← hx, ← hy] at hlen
        simp only [Bool.and_eq_true, decide_eq_true_eq] at hlen
        obtain ⟨⟨hl1, hl2⟩, hl3⟩ := hlen
        have hlev := lev_fact a0 a1 b0 b1 hne hx hy
        clear F2 N2
        rintro f s₂ ⟨rfl, h, tk, m₁, rfl, F, N, ⟨t, h1⟩, ⟨u, h2⟩, ⟨v, h3⟩, h4⟩
        clear hx1 hy1
        try dsimp only
        repeat (walk1; try dsimp only)
        rotate_left
        · exfalso; omega
        · exfalso; omega
        clear hpost hx hy hx4 hy4
        (rename IsRange _ _ _ _ _ _ _ _ => hR)
        (rename Fr _ _ _ _ => F2)
        (rename News _ _ _ _ => N2)
        (rename IntsAre _ _ => hI)
        (rename ∀ p, p ∈ news → p.fst < _ => l1)
        rename_i D us c _ _ _ _ _ _ _ _ _ _ _ _ _
        rw [hl1] at hI
        refine forSrc_range rfl (n := (slq y (postOf x y)).length) (fun i m₁ nw => ∃ vs c, nw = (D, W.listOf (List.toArray vs) c) :: news ∧ IntsAre vs (outer (slq x (postOf x y)) (slq y (postOf x y)) (slq y (postOf x y)).length i).2 ∧ (∃ t, m₁ (Str.ofString "result") = some (.int (outer (slq x (postOf x y)) (slq y (postOf x y)) (slq y (postOf x y)).length i).1 t)) ∧ (∃ t, m₁ (Str.ofString "a") = some (.str (slq x (postOf x y)) t)) ∧ (∃ t, m₁ (Str.ofString "b") = some (.str (slq y (postOf x y)) t)) ∧ m₁ (Str.ofString "row") = some (.ref D) ∧ m₁ (Str.ofString "max_cost") = some (.int 4 tc)) rfl F2 N2 hR (range_fit (by omega)).1 (range_fit (by omega)).2 ⟨us, c, rfl, hI, ⟨_, rfl⟩, ⟨_, rfl⟩, ⟨_, rfl⟩, rfl, by assumption⟩ ?_ ?_
        · rintro i t m₁ nw I oI h tk hi ⟨vs, c, rfl, hc, ⟨t1, h1⟩, ⟨t2, h2⟩, ⟨t3, h3⟩, h4, h5⟩ F N off
          clear F2 N2 hR hI
          simp only [Int.zero_add] at F
          try dsimp only
          k_fold
          repeat (walk1; try dsimp only)
          clear F N
          have offI : I ≠ D := fun e => off (D, W.listOf (List.toArray vs) c) (.head _) e.symm
          have offl : ∀ p ∈ news, p.1 ≠ D := fun p hp => Nat.ne_of_lt (l1 p hp)
          (rename IsRange _ _ _ _ _ _ _ _ => hR)
          (rename Fr _ _ _ _ => F)
          (rename News _ _ _ _ => N)
          have e2 : (i : Int) * 2 = 2 * (i : Int) := Int.mul_comm _ _
          refine forSrc_range rfl (n := (slq y (postOf x y)).length) (fun j m₁ nw => ∃ vs c, nw = (I, oI) :: (D, W.listOf (List.toArray vs) c) :: news ∧ IntsAre vs (inner (slq x (postOf x y)) (slq y (postOf x y)) i (outer (slq x (postOf x y)) (slq y (postOf x y)) (slq y (postOf x y)).length i).2 j).2.2.2 ∧ (∃ t, m₁ (Str.ofString "distance") = some (.int (inner (slq x (postOf x y)) (slq y (postOf x y)) i (outer (slq x (postOf x y)) (slq y (postOf x y)) (slq y (postOf x y)).length i).2 j).1 t)) ∧ (∃ t, m₁ (Str.ofString "result") = some (.int (inner (slq x (postOf x y)) (slq y (postOf x y)) i (outer (slq x (postOf x y)) (slq y (postOf x y)) (slq y (postOf x y)).length i).2 j).2.1 t)) ∧ (∃ t, m₁ (Str.ofString "minimum") = some (.int (inner (slq x (postOf x y)) (slq y (postOf x y)) i (outer (slq x (postOf x y)) (slq y (postOf x y)) (slq y (postOf x y)).length i).2 j).2.2.1 t)) ∧ (∃ t, m₁ (Str.ofString "bchar") = some (.str (Txt.item (slq y (postOf x y)) (i : Int)) t)) ∧ (∃ t, m₁ (Str.ofString "a") = some (.str (slq x (postOf x y)) t)) ∧ (∃ t, m₁ (Str.ofString "b") = some (.str (slq y (postOf x y)) t)) ∧ m₁ (Str.ofString "row") = some (.ref D) ∧ m₁ (Str.ofString "max_cost") = some (.int 4 tc)) rfl F N hR (by rw [hl1]; exact (range_fit (by omega)).1) (by rw [hl1]; exact (range_fit (by omega)).2) ⟨vs, c, rfl, hc, ⟨_, congrArg (fun z => some (Value.int z _)) e2⟩, ⟨_, congrArg (fun z => some (Value.int z _)) e2⟩, ⟨_, rfl⟩, ⟨_, rfl⟩, ⟨_, h2⟩, ⟨_, h3⟩, h4, h5⟩ ?_ ?_
          · clear F N hR hc h1 h2 h3 h4 h5
            rintro j t m₁ nw I2 oI2 h tk hj ⟨vs, c, rfl, hc, ⟨t1, h1⟩, ⟨t2, h2⟩, ⟨t3, h3⟩, ⟨t4, h4⟩, ⟨t5, h5⟩, ⟨t6, h6⟩, h7, h8⟩ F N off2
            simp only [Int.zero_add] at F
            have offI2 : I2 ≠ D := fun e => off2 (D, W.listOf (List.toArray vs) c) (.tail _ (.head _)) e.symm
            have hl4 := inner_len (slq x (postOf x y)) (slq y (postOf x y)) i (outer (slq x (postOf x y)) (slq y (postOf x y)) (slq y (postOf x y)).length i).2 j
            rw [outer_len] at hl4
            obtain ⟨pp, hpp⟩ : ∃ pp, inner (slq x (postOf x y)) (slq y (postOf x y)) i (outer (slq x (postOf x y)) (slq y (postOf x y)) (slq y (postOf x y)).length i).2 j = pp := ⟨_, rfl⟩
            rw [hpp] at hc h1 h2 h3 hl4
            try dsimp only
            with_reducible show wpAny _ _ _ _ _ _
            k_fold
            iterate 16 (walk1; try dsimp only)
            try dsimp only
            (refine' cost_spec ?kF ?kN ?kX ?kT ?hd ?hx ?hy ?_; (case kF => k_asm); (case kN => k_asm); (case kX => assumption); (case kT => assumption); (case hd => first | assumption | omega); (case hx => exact Nat.le_trans (Nat.le_of_eq (len_item _ _)) (by decide)); (case hy => exact Nat.le_trans (Nat.le_of_eq (len_item _ _)) (by decide)))
            intro t9 h9 k9 F9 N9
            (try dsimp only)
            clear F N
            repeat (first | (k_unfold; (try dsimp only)) | (walk1; try dsimp only))
            · refine ForTurn.next (by assumption) (by assumption) _ (fun p hp => hp) (fun p hp => ?_) ?_
              · rcases List.mem_cons.mp hp with rfl | hp
                · exact off2 _ (.head _)
                · rcases List.mem_cons.mp hp with rfl | hp
                  · exact fun e => offI2 e.symm
                  · exact off2 p (.tail _ (.tail _ hp))
              · rw [inner_succ, hpp]
                exact ⟨_, c, rfl, by assumption, ⟨_, rfl⟩, ⟨_, rfl⟩, ⟨_, congrArg (fun z => some (Value.int z _)) (if_pos (by assumption)).symm⟩, ⟨_, h4⟩, ⟨_, h5⟩, ⟨_, h6⟩, h7, h8⟩
            · repeat (first | (k_unfold; (try dsimp only)) | (walk1; try dsimp only))
              refine ForTurn.next (by assumption) (by assumption) _ (fun p hp => hp) (fun p hp => ?_) ?_
              · rcases List.mem_cons.mp hp with rfl | hp
                · exact off2 _ (.head _)
                · rcases List.mem_cons.mp hp with rfl | hp
                  · exact fun e => offI2 e.symm
                  · exact off2 p (.tail _ (.tail _ hp))
              · rw [inner_succ, hpp]
                exact ⟨_, c, rfl, by assumption, ⟨_, rfl⟩, ⟨_, rfl⟩, ⟨_, h3.trans (congrArg (fun z => some (Value.int z _)) (if_neg (by first | assumption | exact Int.not_lt.mpr (by assumption))).symm)⟩, ⟨_, h4⟩, ⟨_, h5⟩, ⟨_, h6⟩, h7, h8⟩
          · clear F N hR hc h1 h2 h3 h4 h5
            rintro h tk m' nw F N ⟨vs, c, rfl, hc, ⟨t1, h1⟩, ⟨t2, h2⟩, ⟨t3, h3⟩, ⟨t4, h4⟩, ⟨t5, h5⟩, ⟨t6, h6⟩, h7, h8⟩
            have hle := hlev.2 i hi
            repeat (first | (k_unfold; (try dsimp only)) | (walk1; try dsimp only))
            refine ForTurn.next (by assumption) (by assumption) _ (fun p hp => hp) (fun p hp => ?_) ?_
            · rcases List.mem_cons.mp hp with rfl | hp
              · exact fun e => offI e.symm
              · exact off p (.tail _ hp)
            · exact ⟨vs, c, rfl, hc, ⟨_, h2⟩, ⟨_, h5⟩, ⟨_, h6⟩, h7, h8⟩
        · rintro h tk m' nw F N ⟨vs, c, rfl, hc, ⟨t1, h1⟩, ⟨t2, h2⟩, ⟨t3, h3⟩, h4, h5⟩
          k_steps
          rw [hlev.1]
          exact ret _ _ _ (back _ _ _ _ (by assumption) (by assumption)).1 (cb_drop (back _ _ _ _ (by assumption) (by assumption)).2 fun p hp => .tail _ hp)
end Mine
namespace Mine
theorem off_S16 : True := by w_top off; trivial
local macro_rules | `(tactic| k_enter) => `(tactic| first
  | (refine' enterL ?k2 ?k4 ?k3 ?k5 ?k6 ?k7 ?k8 ?k9 ?kB ?_ ?c2 ?c3 ?c4 ?c5; (case k2 => k_asm); (case k4 => k_asm); (case k3 => k_asm); (case k5 => k_asm); (case k6 => k_is); (case k7 => k_is); (case k8 => ktr_room); (case k9 => first | exact BindsTo.of_eq rfl | exact binds_K (by k_in) rfl (by k_is) rfl rfl rfl | (refine' kp_binds ?kx ?ke; (case kx => k_in); (case ke => exact fun _ => rfl)) | fail "k_enter: no rule for these arguments"); (case c5 => decide); (case kB => exact locs rfl); (case c2 => exact rfl); (case c3 => exact rfl); (case c4 => exact rfl); k_whole; intro g' L' h' F' N' X' T' l1; (try dsimp only); (try k_unmd); (try k_fold))
  | (refine' enterM ?k2 ?k4 ?k3 ?k5 ?k6 ?k7 ?k8 ?kP ?kG ?kB ?_ ?c2 ?c3 ?c4 ?c5; (case k2 => k_asm); (case k4 => k_asm); (case k3 => k_asm); (case k5 => k_asm); (case k6 => k_is); (case k7 => k_is); (case k8 => ktr_room); (case kP => exact rfl); (case kG => exact fun _ => rfl); (case c5 => decide); (case kB => exact fun _ => locs rfl); (case c2 => exact rfl); (case c3 => exact rfl); (case c4 => exact rfl); k_whole; intro D' g' L' h' tk' l2 lo' F' N' X' T' l1; (try k_lt l2); (try dsimp only); (try k_unmd); (try k_fold)))
local macro_rules | `(tactic| k_all) => `(tactic| first | assumption | exact ne_succ1 (by assumption) | exact ne_succ2 (by assumption) | exact ne_succ3 (by assumption) | exact ne_succ4 (by assumption))
local macro_rules | `(tactic| k_mem) => `(tactic| assumption)
local macro_rules | `(tactic| walk_at "eval Name") => `(tactic| (k_here; k_dflt (refine' nameX ?F ?l ?v ?_ ?a ?b ?c; (case F => k_asm); (case l => exact rfl); (case a => exact rfl); (case b => exact rfl); (case c => decide); (case v => assumption); k_whole)))
local macro_rules | `(tactic| walk_at "loadName") => `(tactic| (k_here; k_dflt (refine' loadX ?F ?l ?v ?_ ?a ?b; (case F => k_asm); (case l => exact rfl); (case a => exact rfl); (case b => exact rfl); (case v => first | exact rfl | assumption); k_whole)))
section
variable {prog : Program} {w : World} {A : Around} {E : Value → Shared → Prop} {s : Shared} {h₀ : Heap} {L : Addr} {m : Str → Option Value} {env : Env}
noncomputable def PairSrc (A : Around) (h₀ : Heap) (L : Addr) (m : Str → Option Value) (Q : Value → Shared → Prop) (xv : Value) (s₁ : Shared) : Prop :=
  ∃ ax vs hs news, xv = .ref ax ∧ A.handled = none ∧ Fr h₀ L s₁.heap m ∧ News h₀ L s₁.heap news ∧ (ax, LCg.lst vs) ∈ news ∧ HdrsAre news vs hs ∧ hs.length ≤ sizeLine ∧
    ∀ D h tk, Fr h₀ L h m → News h₀ L h ((D, LCg.lst (hs.map fun h => .str h.1.1 h.1.2)) :: news) → (∀ p ∈ news, p.1 ≠ D) → Q (.ref D) { s₁ with heap := h, toks := tk }

theorem block_P {iter : Expr} {a b : Str} {pa pb pe tp : Pos} {kk : Nat} {scope : Scope} {cl : List (Str × Addr)} {pos : Pos} {s₂ : Shared} {I ax : Addr} {vs : List Value} {hs : List Hdr} {news : List (Addr × Obj)} {RR : Value → Addr → Result → Shared → Prop}
    (hh : A.handled = none) (hit : s₂.heap.IsListIter I ax 0) (hax : (ax, LCg.lst vs) ∈ news) (hH : HdrsAre news vs hs) (hsz : hs.length ≤ sizeLine)
    (hcell : ∀ y ∈ scope.names, y.2 ≠ .cell) (hkind : scope.kind = .function) (hxa : scope.names.lookup a = some .local) (hxb : scope.names.lookup b = some .local) (hab : ¬ a = b) (hda : (a == ("__debug__" : Str)) = false)
    (F : Fr h₀ L s₂.heap m) (N : News h₀ L s₂.heap news) (hIL : L ≠ I) (hI₀ : h₀.get? I = none) (off : ∀ p ∈ news, p.1 ≠ I)
    (hRR : ∀ D C h tk m', Fr h₀ L h m → News h₀ L h ((D, LCg.lst (hs.map fun h => .str h.1.1 h.1.2)) :: news) → (∀ p ∈ news, p.1 ≠ D) → h.Ns C m' → h₀.get? C = none → h₀.get? D = none → C ≠ L → D ≠ L → C ≠ D → (∀ p ∈ news, p.1 ≠ C) → RR (.ref D) C (.ok .next) { s₂ with heap := h, toks := tk }) :
    wpAny (model prog w) A (newList []) (fun acc s₃ => wpAny (model prog w) A (newFunctionEnv scope env.globals cl [] env.qual none .none (some env)) (fun cenv s₄ =>
      codeAny (model prog w) A (.compStart (.ListComp (.Name a pe) [⟨.Tuple [.Name a pa, .Name b pb] kk tp, iter, [], 0⟩] scope pos) 0 (.ref I) acc { cenv with scope := relabel scope env }) (RR acc cenv.locals) s₄) E s₃) E s₂ := by
  refine wpAny_newObj_type (wpAny_newFunctionEnv hcell (by intro y hy; simp at hy) (fun h₁ hns₁ hsb₁ => ?_) hkind)
  dsimp only at hns₁ hsb₁ ⊢
  generalize hH2 : s₂.heap.push { cls := .type "list", dict := none, data := .seq ([] : List Value).toArray } = H2 at hns₁ hsb₁ ⊢
  have hC : H2.objs.size = s₂.heap.objs.size + 1 := by rw [← hH2, Heap.size_push]
  have hDC : s₂.heap.objs.size ≠ H2.objs.size := by rw [hC]; exact Nat.ne_of_lt (Nat.lt_succ_self _)
  have below : ∀ b, b < s₂.heap.objs.size → b ≠ H2.objs.size ∧ b ≠ s₂.heap.objs.size := fun b hb => ⟨by rw [hC]; exact Nat.ne_of_lt (Nat.lt_succ_of_lt hb), Nat.ne_of_lt hb⟩
  have hIlt : I < s₂.heap.objs.size := by obtain ⟨o, e, _⟩ := hit; exact Heap.lt_size e
  have old : Keep s₂.heap h₁ := fun b o e => hsb₁.extBut b o (below b (Heap.lt_size e)).1 (Heap.get?_push_of_some _ (hH2 ▸ Heap.get?_push_of_some _ e))
  have hacc : h₁.get? s₂.heap.objs.size = some (LCg.lst []) := hsb₁.extBut _ _ hDC (Heap.get?_push_of_some _ (hH2 ▸ Heap.get?_push_size _ rfl))
  have hit₁ : h₁.IsListIter I ax 0 := by obtain ⟨o, e, r⟩ := hit; exact ⟨o, old _ _ e, r⟩
  have fresh₀ : ∀ a, s₂.heap.objs.size ≤ a → h₀.get? a = none := fun a ha => by
    cases e : h₀.get? a with
    | none => rfl
    | some o' => exact absurd (Heap.lt_size (F.keep a o' e)) (Nat.not_lt.mpr ha)
  have hD₀ : h₀.get? s₂.heap.objs.size = none := fresh₀ _ (Nat.le_refl _)
  have hC₀ : h₀.get? H2.objs.size = none := fresh₀ _ (by rw [hC]; exact Nat.le_succ _)
  have hLlt : L < s₂.heap.objs.size := F.ns.lt
  have hDL : s₂.heap.objs.size ≠ L := Ne.symm (below L hLlt).2
  have hCL : H2.objs.size ≠ L := Ne.symm (below L hLlt).1
  have hCI : I ≠ H2.objs.size := (below I hIlt).1
  have hDI : I ≠ s₂.heap.objs.size := (below I hIlt).2
  have offC : ∀ p ∈ news, p.1 ≠ H2.objs.size := fun p hp => (below _ (Heap.lt_size (N p hp).1)).1
  have offD : ∀ p ∈ news, p.1 ≠ s₂.heap.objs.size := fun p hp => (below _ (Heap.lt_size (N p hp).1)).2
  have hax' : ax ≠ I := off _ hax
  have N₀ : News h₀ L h₁ ((s₂.heap.objs.size, LCg.lst []) :: news) := fun p hp => by
    rcases List.mem_cons.mp hp with rfl | hp
    · exact ⟨hacc, hDL, hD₀⟩
    · exact ⟨old _ _ (N p hp).1, (N p hp).2⟩
  have W := Walks.list (prog := prog) (w := w) hh I ax hax' vs.toArray
  have hvl : vs.toArray.size = hs.length := by rw [List.size_toArray, hH.len]
  have loop : ∀ s₃ : Shared, s₃ = { s₂ with heap := h₁, toks := s₂.toks + ([] : List (Str × Value)).length } →
      codeAny (model prog w) A (.compLoop (.ListComp (.Name a pe) [⟨.Tuple [.Name a pa, .Name b pb] kk tp, iter, [], 0⟩] scope pos) 0 (.ref I) (.ref s₂.heap.objs.size) (compEnvC scope cl H2.objs.size env))
        (RR (.ref s₂.heap.objs.size) H2.objs.size) s₃ := by
    rintro s₃ rfl
    refine kcp_loop
      (fun k s' => ∃ h' tk i m', s' = { s₂ with heap := h', toks := tk } ∧ i ≤ hs.length ∧ k = hs.length + 1 - i ∧ h'.IsListIter I ax i ∧ Fr h₀ L h' m ∧ h'.Ns H2.objs.size m' ∧
        News h₀ L h' ((s₂.heap.objs.size, LCg.lst ((hs.take i).map fun h => .str h.1.1 h.1.2)) :: news)) ?_ (hs.length + 1)
      ⟨h₁, _, 0, _, rfl, Nat.zero_le _, rfl, hit₁, F.keeps old, hns₁, N₀⟩
    rintro k s' ⟨h', tk, i, m', rfl, hi, rfl, hit', F', hn', N'⟩
    have hl' : h'.IsList ax vs.toArray := ⟨_, (N' _ (.tail _ hax)).1, rfl, _, rfl⟩
    have offI : ∀ p ∈ ((s₂.heap.objs.size, LCg.lst ((hs.take i).map fun h => Value.str h.1.1 h.1.2)) :: news), p.1 ≠ I := fun p hp => by
      rcases List.mem_cons.mp hp with rfl | hp
      · exact Ne.symm hDI
      · exact off p hp
    by_cases hlt : i < hs.length
    · refine W.item i _ _ _ (by omega) ⟨hit', hl'⟩ fun v h₂ tk₂ hPv hst₂ hk₂ => ?_
      have hv' : vs[i]? = some v := by simpa using hPv
      obtain ⟨T, key, t, y, u, rfl, hT, hhs⟩ := hH.at hv'
      have F₂ := LCg.fr_but F' hk₂ hIL hI₀
      have N₂ := LCg.news_but N' hk₂ offI
      have hn₂ : h₂.Ns H2.objs.size m' := hn'.at' fun o e => hk₂ _ o (by simpa using Ne.symm hCI) e
      refine wpAny_letOwnedTupleGo_listiter hst₂.1 ?_
      have hTT : h₂.IsTuple T #[.str key t, .str y u] := ⟨_, (N₂ _ (.tail _ hT)).1, rfl, _, rfl⟩
      refine kcp_assign (env := compEnvC scope cl H2.objs.size env) hh hTT (lookup_relabel_local hxa) (lookup_relabel_local hxb) (by simp [compEnvC, relabel, hkind]) hn₂ fun h₄ tk₄ hn₄ hs₄ => ?_
      have F₄ : Fr h₀ L h₄ m := ⟨F₂.ns.at' fun o e => hs₄ _ o (Ne.symm hCL) e, fun c o e => hs₄ c o (fun q => by rw [q, show h₀.get? (compEnvC scope cl H2.objs.size env).locals = none from hC₀] at e; cases e) (F₂.keep c o e), F₂.above⟩
      have N₄ : News h₀ L h₄ ((s₂.heap.objs.size, LCg.lst ((hs.take i).map fun h => .str h.1.1 h.1.2)) :: news) := fun p hp => ⟨hs₄ _ _ (by
        rcases List.mem_cons.mp hp with rfl | hp
        · exact hDC
        · exact offC p hp) (N₂ p hp).1, (N₂ p hp).2⟩
      have hit₄ : h₄.IsListIter I ax (i + 1) := by obtain ⟨o, e, r⟩ := hst₂.1; exact ⟨o, hs₄ _ _ hCI e, r⟩
      refine wpAny_Name (wpAny_loadName_local hkind (lookup_relabel_local hxa) hn₄ (by simp [hab]; rfl) ?_) hda
      have zD := (N₄ _ (.head _)).1
      refine append_at (hsz := by rw [List.size_toArray, List.length_map, List.length_take]; omega) zD fun h₆ hs₆ hD₆ => ?_
      refine ⟨hs.length + 1 - (i + 1), by omega, h₆, _, i + 1, _, rfl, hlt, rfl, ?_, F₄.change hs₆ hDL hD₀, hn₄.sameBut hs₆ (Ne.symm hDC), fun p hp => ?_⟩
      · obtain ⟨o, e, r⟩ := hit₄; exact ⟨o, hs₆.extBut _ _ hDI e, r⟩
      · rcases List.mem_cons.mp hp with rfl | hp
        · refine ⟨hD₆.trans (congrArg some ?_), hDL, hD₀⟩
          rw [List.take_add_one, hhs, List.map_append]
          exact LCg.lst_snoc _ _
        · exact ⟨hs₆.extBut _ _ (offD p hp) (N₄ p (.tail _ hp)).1, (N₄ p (.tail _ hp)).2⟩
    · have hin : i = hs.length := Nat.le_antisymm hi (Nat.not_lt.mp hlt)
      subst hin
      rw [List.take_length] at N' offI
      refine W.done _ _ _ (by rw [hvl]; exact ⟨hit', hl'⟩) fun h₂ tk₂ hk₂ => ?_
      exact hRR _ _ h₂ tk₂ _ (LCg.fr_but F' hk₂ hIL hI₀) (LCg.news_but N' hk₂ offI) offD (hn'.at' fun o e => hk₂ _ o (by simpa using Ne.symm hCI) e) hC₀ hD₀ hCL hDL (Ne.symm hDC) offC
  exact codeAny_compStart_list (loop _ rfl) (W.self 0 _ _ _ ⟨hit₁, _, (N₀ _ (.tail _ hax)).1, rfl, _, rfl⟩ (loop _ rfl))

theorem compPair {iter : Expr} {a b : Str} {pa pb pe tp : Pos} {kk : Nat} {scope : Scope} {cl : List (Str × Addr)} {pos : Pos} {Q : Value → Shared → Prop} (_F₀ : Fr h₀ L s.heap m)
    (hclos : closureFor scope env = pure cl) (hcell : ∀ y ∈ scope.names, y.2 ≠ .cell) (hkind : scope.kind = .function)
    (hnames : ∀ y ∈ scope.names, y.2 = .local → scope.names.lookup y.1 = some .local) (hxa : scope.names.lookup a = some .local) (hxb : scope.names.lookup b = some .local) (hab : ¬ a = b) (hda : (a == ("__debug__" : Str)) = false)
    (h : wpAny (model prog w) A (eval iter env) (PairSrc A h₀ L m Q) E s)
    (hs : ∀ x, foldedSetIterable iter env x = pure x := by intro _; rfl) :
    wpAny (model prog w) A (eval (.ListComp (.Name a pe) [⟨.Tuple [.Name a pa, .Name b pb] kk tp, iter, [], 0⟩] scope pos) env) Q E s := by
  rw [eval_ListComp]
  refine wpAny_comprehension_free (use := none) rfl hs hclos hkind hnames (wpAny_mono h (fun xv s₁ h₁ => ?_) fun _ _ e => e)
  obtain ⟨ax, vs, hh', news, rfl, hh, F, N, hax, hH, hsz, hQ⟩ := h₁
  have hl : s₁.heap.IsList ax vs.toArray := ⟨_, (N _ hax).1, rfl, _, rfl⟩
  refine wpAny_pyIter_list hl ?_
  have up : Keep s₁.heap (s₁.heap.push { cls := .type "list_iterator", data := .fields #[.ref ax, .int 0 0] }) := fun b o e => Heap.get?_push_of_some _ e
  refine block_P (RR := fun acc C => compPost (model prog w) A E none Q acc C) hh ⟨_, Heap.get?_push_size _ rfl, rfl, rfl⟩ hax hH hsz hcell hkind hxa hxb hab hda (F.keeps up) (N.grown up) (Nat.ne_of_lt F.ns.lt) (next_is_new F) (fun p hp => Nat.ne_of_lt (Heap.lt_size (N p hp).1)) ?_
  intro D C h tk m' F' N' offD hn hC₀ hD₀ hCL hDL hCD offC
  refine ⟨m', hn, fun h'' hs'' => hQ D h'' tk (F'.change hs'' hCL hC₀) (fun p hp => ?_) offD⟩
  refine ⟨hs''.extBut _ _ ?_ (N' p hp).1, (N' p hp).2⟩
  rcases List.mem_cons.mp hp with rfl | hp
  · exact Ne.symm hCD
  · exact offC p hp
end
local macro_rules | `(tactic| walk_at "eval ListComp") => `(tactic| (k_here; k_dflt (refine' compPair ?kF ?hclos ?hcell ?hkind ?hnames ?hxa ?hxb ?hab ?hda ?_ ?hs; (case kF => k_asm); (case hclos => with_unfolding_all rfl); (case hcell => decide); (case hkind => with_unfolding_all rfl); (case hnames => decide); (case hxa => with_unfolding_all rfl); (case hxb => with_unfolding_all rfl); (case hab => decide); (case hda => decide); (case hs => intro _; with_unfolding_all rfl))))
theorem keys_spec {w : World} {loose : List Str} {mean : ExcName → Option Value} {mg mb : Str → Option Value} {dp un : Nat} {gd : Option (List Code)} {fr : Option (List Env)} {s : Shared} {Q E : Value → Shared → Prop} {h₀ : Heap} {L : Addr} {m : Str → Option Value} {news : List (Addr × Obj)} {x dx l : Addr} {tk : Tok} {vs : List Value} {hs : List Hdr}
    (F : Fr h₀ L s.heap m) (N : News h₀ L s.heap news) (X : (KTop w.params).In h₀) (T : Top VTop loose mean mg mb h₀) (hdp : dp + 5 < recursionLimit)
    (hx : (x, instObj 260 dx) ∈ news) (hdx : (dx, hdrDict w l tk) ∈ news) (hl : (l, LCg.lst vs) ∈ news) (hh : HdrsAre news vs hs) (hsz : hs.length ≤ sizeLine)
    (ret : ∀ D h' tk', Fr h₀ L h' m → News h₀ L h' ((D, LCg.lst (hs.map fun h => .str h.1.1 h.1.2)) :: news) → (∀ p ∈ news, p.1 ≠ D) → Q (.ref D) { s with heap := h', toks := tk' }) :
    wpAny (model PySem.Challenge.rw_ta0074_01.row.prog w) (Ar dp un gd fr) (call (.ref 212) [.ref x]) Q E s := by
  revert X; k_fill; intro X
  refine wpAny_call ?_
  k_dflt (refine' enterN (binds := [(Str.ofString "self", Value.ref x)]) F N X T ?k6 ?k7 ?k8 ?k9 ?kB ?_ ?c2 ?c3 ?c4 ?c5; (case k6 => k_is); (case k7 => k_is); (case k8 => ktr_room); (case k9 => exact BindsTo.of_eq rfl); (case c5 => decide); (case kB => exact locs rfl); (case c2 => exact rfl); (case c3 => exact rfl); (case c4 => exact rfl))
  clear F N X T
  intro g L' h₁ F N X T back lt
  replace F : Fr g L' h₁ (fun z => List.lookup z [(Str.ofString "self", Value.ref x)]) := F
  (try dsimp only)
  (try k_unmd)
  k_fold
  k_steps
  refine ⟨l, vs, hs, _, rfl, rfl, by assumption, by assumption, hl, hh, hsz, ?_⟩
  intro D h tk F N offD
  k_steps
  exact ret D _ _ (back _ _ _ _ F N).1 (back _ _ _ _ F N).2 offD
end Mine
namespace Mine
theorem off_S17 : True := by w_top off; trivial
local macro_rules | `(tactic| k_enter) => `(tactic| first
  | (refine' enterL ?k2 ?k4 ?k3 ?k5 ?k6 ?k7 ?k8 ?k9 ?kB ?_ ?c2 ?c3 ?c4 ?c5; (case k2 => k_asm); (case k4 => k_asm); (case k3 => k_asm); (case k5 => k_asm); (case k6 => k_is); (case k7 => k_is); (case k8 => ktr_room); (case k9 => first | exact BindsTo.of_eq rfl | exact binds_K (by k_in) rfl (by k_is) rfl rfl rfl | (refine' kp_binds ?kx ?ke; (case kx => k_in); (case ke => exact fun _ => rfl)) | fail "k_enter: no rule for these arguments"); (case c5 => decide); (case kB => exact locs rfl); (case c2 => exact rfl); (case c3 => exact rfl); (case c4 => exact rfl); k_whole; intro g' L' h' F' N' X' T' l1; (try dsimp only); (try k_unmd); (try k_fold))
  | (refine' enterM ?k2 ?k4 ?k3 ?k5 ?k6 ?k7 ?k8 ?kP ?kG ?kB ?_ ?c2 ?c3 ?c4 ?c5; (case k2 => k_asm); (case k4 => k_asm); (case k3 => k_asm); (case k5 => k_asm); (case k6 => k_is); (case k7 => k_is); (case k8 => ktr_room); (case kP => exact rfl); (case kG => exact fun _ => rfl); (case c5 => decide); (case kB => exact fun _ => locs rfl); (case c2 => exact rfl); (case c3 => exact rfl); (case c4 => exact rfl); k_whole; intro D' g' L' h' tk' l2 lo' F' N' X' T' l1; (try k_lt l2); (try dsimp only); (try k_unmd); (try k_fold)))
local macro_rules | `(tactic| k_all) => `(tactic| first | assumption | exact ne_succ1 (by assumption) | exact ne_succ2 (by assumption) | exact ne_succ3 (by assumption) | exact ne_succ4 (by assumption))
local macro_rules | `(tactic| k_mem) => `(tactic| assumption)
local macro_rules | `(tactic| walk_at "eval Name") => `(tactic| (k_here; k_dflt (refine' nameX ?F ?l ?v ?_ ?a ?b ?c; (case F => k_asm); (case l => exact rfl); (case a => exact rfl); (case b => exact rfl); (case c => decide); (case v => assumption); k_whole)))
local macro_rules | `(tactic| walk_at "loadName") => `(tactic| (k_here; k_dflt (refine' loadX ?F ?l ?v ?_ ?a ?b; (case F => k_asm); (case l => exact rfl); (case a => exact rfl); (case b => exact rfl); (case v => first | exact rfl | assumption); k_whole)))
local macro_rules | `(tactic| walk_at "eval ListComp") => `(tactic| (k_here; k_dflt (refine' compEval ?kF ?hclos ?hcell ?hkind ?hnames ?hx ?_ ?hs; (case kF => k_asm); (case hclos => with_unfolding_all rfl); (case hcell => decide); (case hkind => with_unfolding_all rfl); (case hnames => decide); (case hx => with_unfolding_all rfl); (case hs => intro _; with_unfolding_all rfl))))
noncomputable def wordsOf (ns : List Int) : List Int := ((ns.take 5) ++ ([11, 6, 13] : List Int).drop (ns.take 5).length).map fun (x : Int) => x.fmod 16
noncomputable def Stop2 (P : Prop) : Prop := P
theorem stopIt2 {P : Prop} (h : Stop2 P) : P := h
local macro_rules | `(tactic| walk_at "subscriptTail Name Slice ref ref") => `(tactic| (k_here; refine stopIt2 ?_))
local macro_rules | `(tactic| walk_at "binaryOp Add ref ref") => `(tactic| (k_here; refine stopIt2 ?_))
theorem ints_take {vs : List Value} {ns : List Int} (h : IntsAre vs ns) : ∀ k, IntsAre (vs.take k) (ns.take k) := by
  induction h with
  | nil => intro k; cases k <;> exact .nil
  | cons i t _ ih => intro k; cases k with
    | zero => exact .nil
    | succ k => exact .cons i t (ih k)
theorem ints_drop {vs : List Value} {ns : List Int} (h : IntsAre vs ns) : ∀ k, IntsAre (vs.drop k) (ns.drop k) := by
  induction h with
  | nil => intro k; cases k <;> exact .nil
  | cons i t h ih => intro k; cases k with
    | zero => exact .cons i t h
    | succ k => exact ih k
theorem ints_app {vs us : List Value} {ns ms : List Int} (h : IntsAre vs ns) (h2 : IntsAre us ms) : IntsAre (vs ++ us) (ns ++ ms) := by
  induction h with
  | nil => exact h2
  | cons i t _ ih => exact .cons i t ih
theorem ints_at {vs : List Value} {ns : List Int} (h : IntsAre vs ns) {i : Nat} {v : Value} (hv : vs[i]? = some v) : ∃ n t, v = .int n t ∧ ns[i]? = some n := by
  induction h generalizing i with
  | nil => simp at hv
  | cons n t _ ih =>
    cases i with
    | zero => simp at hv; subst hv; exact ⟨n, t, rfl, rfl⟩
    | succ i => simp at hv; simpa using ih hv
theorem words_spec {w : World} {loose : List Str} {mean : ExcName → Option Value} {mg mb : Str → Option Value} {dp un : Nat} {gd : Option (List Code)} {fr : Option (List Env)} {s : Shared} {Q E : Value → Shared → Prop} {h₀ : Heap} {L : Addr} {m : Str → Option Value} {news : List (Addr × Obj)} {ax : Addr} {vs : List Value} {ns : List Int}
    (F : Fr h₀ L s.heap m) (N : News h₀ L s.heap news) (X : (KTop w.params).In h₀) (T : Top VTop loose mean mg mb h₀) (hdp : dp + 2 < recursionLimit) (hS : h₀.IsList ax vs.toArray) (hI : IntsAre vs ns) (hlen : ns.length ≤ 63)
    (ret : ∀ D us h' tk', Fr h₀ L h' m → News h₀ L h' ((D, LCg.lst us) :: news) → (∀ p ∈ news, p.1 ≠ D) → IntsAre us (wordsOf ns) → Q (.ref D) { s with heap := h', toks := tk' }) :
    wpAny (model PySem.Challenge.rw_ta0074_01.row.prog w) (Ar dp un gd fr) (call (.ref 269) [.ref ax]) Q E s := by
  revert X; k_fill; intro X
  refine wpAny_call ?_
  k_dflt (refine' enterN (binds := [(Str.ofString "script", Value.ref ax)]) F N X T ?k6 ?k7 ?k8 ?k9 ?kB ?_ ?c2 ?c3 ?c4 ?c5; (case k6 => k_is); (case k7 => k_is); (case k8 => ktr_room); (case k9 => exact BindsTo.of_eq rfl); (case c5 => decide); (case kB => exact locs rfl); (case c2 => exact rfl); (case c3 => exact rfl); (case c4 => exact rfl))
  clear F N X T
  intro g L' h₁ F N X T back lt
  replace F : Fr g L' h₁ (fun z => List.lookup z [(Str.ofString "script", Value.ref ax)]) := F
  (try dsimp only)
  (try k_unmd)
  k_fold
  have hS' : ∀ h m' nw, Fr g L' h m' → News g L' h nw → h.IsList ax vs.toArray := fun h m' nw F N => by obtain ⟨o, e, r⟩ := hS; exact ⟨o, (back _ _ _ _ F N).1.keep _ _ e, r⟩
  have hvl := hI.length
  have hsl : (63 : Nat) ≤ sizeLine := by decide
  k_steps
  (rename Fr _ _ _ _ => F1)
  (rename News _ _ _ _ => N1)
  refine kmk_slice_lit (vl := .none) (vu := .int 5 _) (lo := none) (hi := some 5) (zs := vs.take 5) F1 N1 (its := vs.toArray) (hS' _ _ _ F1 N1) .none (.int _ _) (by rw [show (5 : Int) = ((5 : Nat) : Int) from rfl, slicePick_upto']) (fun D1 h2 F2 N2 l2 => ?_) (by with_unfolding_all rfl) (by intro _; with_unfolding_all rfl) (by rw [List.size_toArray]; omega)
  obtain ⟨dv, hdv⟩ : ∃ x, x = vs.take 5 := ⟨_, rfl⟩
  obtain ⟨dn, hdn⟩ : ∃ x, x = ns.take 5 := ⟨_, rfl⟩
  have hI5 : IntsAre dv dn := by rw [hdv, hdn]; exact ints_take hI 5
  have hd5 : dn.length ≤ 5 := by rw [hdn, List.length_take]; omega
  have hdl := hI5.length
  rw [← hdv] at N2
  clear F1 N1
  k_steps
  (rename Fr _ _ _ _ => F1)
  (rename News _ _ _ _ => N1)
  refine kmk_slice_lit (vl := .int dn.length _) (vu := .none) (lo := some (dn.length : Int)) (hi := none) F1 N1 ⟨_, (N1 _ (.tail _ (.head _))).1, rfl, _, rfl⟩ (.int _ _) .none (by rw [slicePick_from']) (fun D3 h3 F3 N3 l3 => ?_) (by with_unfolding_all rfl) (by intro _; with_unfolding_all rfl) (by show (3 : Nat) ≤ sizeLine; decide)
  clear F1 N1
  k_steps
  generalize hov : (List.drop dn.length _).toArray.toList = ov at N3
  have hoI : IntsAre ov (([11, 6, 13] : List Int).drop dn.length) := by rw [← hov]; exact ints_drop (.cons _ _ (.cons _ _ (.cons _ _ .nil))) _
  have hol := hoI.length
  rw [List.length_drop] at hol
  have ho3 : ov.length ≤ 3 := by rw [hol]; exact Nat.sub_le _ _
  have hallI : IntsAre (dv ++ ov) (dn ++ ([11, 6, 13] : List Int).drop dn.length) := ints_app hI5 hoI
  rename_i l' _ _ _ _
  refine add_arrays (its := dv.toArray) (its2 := ov.toArray) F3 N3 ⟨_, (N3 _ (.tail _ (.head _))).1, rfl, _, rfl⟩ ⟨_, (N3 _ (.head _)).1, rfl, _, rfl⟩ (fun h4 F4 N4 => ?_) (by rw [List.size_toArray, List.size_toArray]; omega)
  obtain ⟨led, N5, hm, hsub⟩ : ∃ led, News g L' h4 led ∧ (h3.objs.size, W.listOf (dv ++ ov).toArray 0) ∈ led ∧ (∀ p ∈ news, p ∈ led) := ⟨_, N4, .head _, fun p hp => .tail _ (.tail _ (.tail _ (.tail _ hp)))⟩
  clear N4 N3 F3 l3
  have hsz : (dv ++ ov).length ≤ 8 := by rw [List.length_append]; omega
  refine .inl ⟨_, (dv ++ ov).toArray, _, fun i ys nw _ => nw = led ∧ IntsAre ys (((dn ++ ([11, 6, 13] : List Int).drop dn.length).take i).map fun (x : Int) => x.fmod 16), rfl, rfl, F4, N5, .inr ⟨_, hm, rfl, _, rfl⟩, by rw [List.size_toArray]; omega, ⟨rfl, .nil⟩, ?_, fun _ _ _ _ _ _ h => ⟨h.1, h.2⟩, ?_, ?_⟩
  · rintro i ys nw _ ⟨rfl, hy⟩
    refine ⟨.inr ⟨_, hm, rfl, _, rfl⟩, ?_⟩
    rw [hy.length, List.length_map, List.length_take]; exact Nat.min_le_left _ _
  · intro g' i v ys nw I oI C oC D m₂ h tk E' hi hv hJ hC hx' F N off ne
    obtain ⟨rfl, hy⟩ := hJ
    have hv' : (dv ++ ov)[i]? = some v := by simpa using hv
    obtain ⟨n, t, rfl, hn⟩ := ints_at hallI hv'
    refine wpAny_tests_nil (TestEnd.tt ?_)
    k_fold
    k_steps
    refine EltEnd.mk (by assumption) (by assumption) _ (fun p hp => hp) off ⟨rfl, ?_⟩
    rw [List.take_add_one, hn, List.map_append]
    exact ints_app hy (.cons _ _ .nil)
  · rintro D h tk ys nw F N off ⟨rfl, hy⟩
    rw [List.size_toArray, hallI.length, List.take_length] at hy
    k_steps
    have B := back _ _ _ _ F N
    exact ret D _ _ _ B.1 (cb_drop B.2 fun p hp => by
      rcases List.mem_cons.mp hp with rfl | hp
      · exact .head _
      · exact .tail _ (hsub _ hp)) (fun p hp => off1_ne off (hsub _ hp)) (by rw [wordsOf, ← hdn]; exact hy)
end Mine
namespace Mine
/-! the for loop over a range, its name a cell -/
noncomputable def ForEndC (h₀ : Heap) (L I c : Addr) (oI : Obj) (Jn : (Str → Option Value) → List (Addr × Obj) → Prop) (s₁ s' : Shared) : Prop :=
  ∃ h' tk' m' nw' oc v, s' = { s₁ with heap := h', toks := tk' } ∧ Fr h₀ L h' m' ∧ News h₀ L h' ((I, oI) :: (c, oc) :: nw') ∧ oc.data = .cell v ∧ c ≠ I ∧ (∀ p ∈ nw', p.1 ≠ I) ∧ (∀ p ∈ nw', p.1 ≠ c) ∧ Jn m' nw'
noncomputable def ForTurnC (h₀ : Heap) (L I c : Addr) (oI : Obj) (Jn : (Str → Option Value) → List (Addr × Obj) → Prop) (s₁ : Shared) (Q : Flow → Shared → Prop) (f : Flow) (s' : Shared) : Prop :=
  match f with
  | .ret v => Q (.ret v) s'
  | .brk => Q .next s'
  | _ => ForEndC h₀ L I c oI Jn s₁ s'
theorem ForTurnC.next {h₀ : Heap} {L I c : Addr} {oI oc : Obj} {Jn : (Str → Option Value) → List (Addr × Obj) → Prop} {s₁ : Shared} {Q : Flow → Shared → Prop} {h' : Heap} {tk : Nat} {m' : Str → Option Value} {all : List (Addr × Obj)} {v : Option Value}
    (F : Fr h₀ L h' m') (N : News h₀ L h' all) (nw' : List (Addr × Obj)) (hc : oc.data = .cell v) (hs : ∀ p ∈ (I, oI) :: (c, oc) :: nw', p ∈ all) (hcI : c ≠ I) (off : ∀ p ∈ nw', p.1 ≠ I) (offc : ∀ p ∈ nw', p.1 ≠ c) (hJ : Jn m' nw') : ForTurnC h₀ L I c oI Jn s₁ Q .next { s₁ with heap := h', toks := tk } :=
  ⟨h', tk, m', nw', oc, v, rfl, F, fun p hp => N p (hs p hp), hc, hcI, off, offc, hJ⟩
noncomputable def ForSrcC (prog : Program) (w : World) (A : Around) (h₀ : Heap) (env : Env) (c : Addr) (body orelse : List Stmt) (Q : Flow → Shared → Prop) (it : Value) (s₂ : Shared) : Prop :=
  ∃ (r : Addr) (a b : Int) (t u v' : Tok) (n : Nat) (m : Str → Option Value) (news : List (Addr × Obj)) (oc : Obj) (v₀ : Option Value) (J : Nat → (Str → Option Value) → List (Addr × Obj) → Prop),
    it = .ref r ∧ A.handled = none ∧ IsRange s₂.heap r a b 1 t u v' ∧ Builtin.Range.small a b 1 = true ∧ Builtin.Range.rangeSize a b 1 = ((n : Nat) : Int) ∧
    Fr h₀ env.locals s₂.heap m ∧ News h₀ env.locals s₂.heap ((c, oc) :: news) ∧ oc.data = .cell v₀ ∧ (∀ p ∈ news, p.1 ≠ c) ∧ J 0 m news ∧
    (∀ i t m₁ nw I oI oc h tk, i < n → J i m₁ nw → Fr h₀ env.locals h m₁ → oc.data = .cell (some (.int (a + (i : Int)) t)) → News h₀ env.locals h ((I, oI) :: (c, oc) :: nw) → c ≠ I → (∀ p ∈ nw, p.1 ≠ I) → (∀ p ∈ nw, p.1 ≠ c) →
      wpAny (model prog w) A (execs body env) (ForTurnC h₀ env.locals I c oI (J (i + 1)) { s₂ with heap := h, toks := tk } Q) (fun _ _ => False) { s₂ with heap := h, toks := tk }) ∧
    ∀ h tk m' nw oc v, Fr h₀ env.locals h m' → News h₀ env.locals h ((c, oc) :: nw) → oc.data = .cell v → (∀ p ∈ nw, p.1 ≠ c) → J n m' nw → wpAny (model prog w) A (execs orelse env) Q (fun _ _ => False) { s₂ with heap := h, toks := tk }
section
variable {prog : Program} {w : World} {A : Around} {E : Value → Shared → Prop} {s : Shared} {h₀ : Heap} {env : Env} {x : Str} {body orelse : List Stmt} {Q : Flow → Shared → Prop}
theorem cellUp {h h' : Heap} {c : Addr} {oc : Obj} {v : Option Value} (e : h.get? c = some oc) (h0 : ∃ o, h'.get? c = some o ∧ o.data = .cell v) : ∃ o, h'.get? c = some o ∧ o.data = .cell v := h0
theorem forJC {c : Addr} {px pos : Pos} {iter : Expr} {L : Addr} {m : Str → Option Value} (_F : Fr h₀ L s.heap m) (hk : env.scope.kind = .function) (hx : env.kindOf x = some .cell) (hc : env.cells.lookup x = some c)
    (h : wpAny (model prog w) A (eval iter env) (fun xv s₁ => ForSrcC prog w A h₀ env c body orelse Q xv s₁) E s)
    (hs : ∀ x, foldedSetIterable iter env x = pure x := by intro _; rfl) :
    wpAny (model prog w) A (exec (.For (.Name x px) iter body orelse pos) env) Q E s := by
  refine wpAny_For (wpAny_mono h (fun xv s₁ h₁ => ?_) fun _ _ e => e) hs
  obtain ⟨r, a, b, t, u, v', n, m, news, oc, v₀, J, rfl, hh, hr, hsm, hn, F, N, hoc, offc, hJ0, turn, done⟩ := h₁
  refine wpAny_pyIter_range hr hsm ?_
  generalize hI : s₁.heap.objs.size = I
  have W := LCg.range_walks (prog := prog) (w := w) hh (I := I) a n
  have hIL : env.locals ≠ I := hI ▸ Nat.ne_of_lt F.ns.lt
  have hI₀ : h₀.get? I = none := hI ▸ next_is_new F
  have hst0 : IsRangeIter (s₁.heap.push { cls := .type "range_iterator", data := .fields #[rawInt a, rawInt (Builtin.Range.rangeSize a b 1), rawInt 1] }) I (a + ((0 : Nat) : Int) * 1) ((n : Int) - ((0 : Nat) : Int)) 1 := by
    show IsRangeIter _ _ _ _ _
    rw [← hI, hn]; simpa using Heap.get?_push_size _ rfl
  have hnI : ∀ p ∈ (c, oc) :: news, p.1 ≠ I := fun p hp => hI ▸ Nat.ne_of_lt (Heap.lt_size (N p hp).1)
  refine codeAny_forLoop (fun k s' => ∃ h' tk m' nw oc v i, s' = { s₁ with heap := h', toks := tk } ∧ IsRangeIter h' I (a + ((i : Nat) : Int) * 1) ((n : Int) - ((i : Nat) : Int)) 1 ∧ Fr h₀ env.locals h' m' ∧ News h₀ env.locals h' ((c, oc) :: nw) ∧ oc.data = .cell v ∧ c ≠ I ∧ (∀ p ∈ nw, p.1 ≠ I) ∧ (∀ p ∈ nw, p.1 ≠ c) ∧ J i m' nw ∧ i ≤ n ∧ k = n + 1 - i) ?_ (n + 1)
    ⟨_, s₁.toks, m, news, oc, v₀, 0, rfl, hst0, F.keeps fun _ _ e => Heap.get?_push_of_some _ e, N.grown fun _ _ e => Heap.get?_push_of_some _ e, hoc, hnI _ (.head _), fun p hp => hnI p (.tail _ hp), offc, hJ0, Nat.zero_le _, rfl⟩
  clear hst0 hnI hJ0 N F hoc offc
  rintro k s' ⟨h', tk, m', nw, oc, v, i, rfl, hst', F', N', hoc, hcI, off', offc', hJ, hi, rfl⟩
  have hcL : c ≠ env.locals := (N' _ (.head _)).2.1
  have hc₀ : h₀.get? c = none := (N' _ (.head _)).2.2
  have offA : ∀ p ∈ (c, oc) :: nw, p.1 ≠ I := fun p hp => by
    rcases List.mem_cons.mp hp with rfl | hp
    · exact hcI
    · exact off' p hp
  by_cases hlt : i < n
  · refine W.item i _ _ _ hlt hst' fun v h₁ tk₁ hP hst₁ hk₁ => ?_
    obtain ⟨t, rfl⟩ := hP
    have F₁ := LCg.fr_but F' hk₁ hIL hI₀
    have N₁ := LCg.news_but N' hk₁ offA
    refine wpAny_assign_Name (wpAny_storeName_cell hk hx hc ⟨oc, (N₁ _ (.head _)).1, hoc⟩ (fun h₂ hcell hs₂ => ?_))
    obtain ⟨oc', hoc', hd'⟩ := hcell
    have F₂ := F₁.change hs₂ hcL hc₀
    have hst₂ : IsRangeIter h₂ I (a + ((i + 1 : Nat) : Int) * 1) ((n : Int) - ((i + 1 : Nat) : Int)) 1 := W.frame (i + 1) _ _ hst₁ fun b hb o e => hs₂.extBut b o (fun q => hcI (q ▸ (List.mem_singleton.mp hb))) e
    obtain ⟨oI, hoI, hIo⟩ : ∃ oI, h₂.get? I = some oI ∧ ∀ h : Heap, h.get? I = some oI → IsRangeIter h I (a + ((i + 1 : Nat) : Int) * 1) ((n : Int) - ((i + 1 : Nat) : Int)) 1 := ⟨_, hst₂, fun _ e => e⟩
    have N₃ : News h₀ env.locals h₂ ((I, oI) :: (c, oc') :: nw) := fun p hp => by
      rcases List.mem_cons.mp hp with rfl | hp
      · exact ⟨hoI, fun q => hIL q.symm, hI₀⟩
      · rcases List.mem_cons.mp hp with rfl | hp
        · exact ⟨hoc', hcL, hc₀⟩
        · exact ⟨hs₂.extBut _ _ (offc' p hp) (N₁ p (.tail _ hp)).1, (N₁ p (.tail _ hp)).2⟩
    refine wpAny_mono (turn i t m' nw I oI oc' h₂ _ hlt hJ F₂ hd' N₃ hcI off' offc') (fun f s₃ h₃ => ?_) fun _ _ e => e.elim
    have fin : ForEndC h₀ env.locals I c oI (J (i + 1)) { s₁ with heap := h₂, toks := tk₁ } s₃ → ∃ m, m < n + 1 - i ∧ ∃ h' tk m' nw oc v i, s₃ = { s₁ with heap := h', toks := tk } ∧ IsRangeIter h' I (a + ((i : Nat) : Int) * 1) ((n : Int) - ((i : Nat) : Int)) 1 ∧ Fr h₀ env.locals h' m' ∧ News h₀ env.locals h' ((c, oc) :: nw) ∧ oc.data = .cell v ∧ c ≠ I ∧ (∀ p ∈ nw, p.1 ≠ I) ∧ (∀ p ∈ nw, p.1 ≠ c) ∧ J i m' nw ∧ i ≤ n ∧ m = n + 1 - i := by
      clear h₃
      rintro ⟨h₃, tk₃, m₃, nw₃, oc₃, v₃, rfl, F₃, N₃', hd₃, hcI₃, off₃, offc₃, hJ₃⟩
      exact ⟨n + 1 - (i + 1), by omega, h₃, tk₃, m₃, nw₃, oc₃, v₃, i + 1, rfl, hIo _ (N₃' _ (.head _)).1, F₃, fun p hp => N₃' p (.tail _ hp), hd₃, hcI₃, off₃, offc₃, hJ₃, hlt, rfl⟩
    cases f with
    | ret v => exact h₃
    | brk => exact h₃
    | next => exact fin h₃
    | cont => exact fin h₃
  · have hin : i = n := by omega
    subst hin
    refine W.done _ _ _ hst' fun h₁ tk₁ hk₁ => ?_
    exact wpAny_mono (done h₁ tk₁ m' nw oc v (LCg.fr_but F' hk₁ hIL hI₀) (LCg.news_but N' hk₁ offA) hoc offc' hJ) (fun _ _ y => y) fun _ _ e => e.elim
end
end Mine
namespace Mine
theorem pow_ok {b : Int} {k : Nat} (h : b.natAbs < 2 ^ 40) (hk : k ≤ 4) : (b ^ k).natAbs < 2 ^ 200 := by
  rw [Int.natAbs_pow]
  exact Nat.lt_of_le_of_lt (Nat.pow_le_pow_left (Nat.le_of_lt h) k) (by rw [← Nat.pow_mul]; exact Nat.pow_lt_pow_right (by decide) (by omega))
section
variable {prog : Program} {w : World} {A : Around} {E : Value → Shared → Prop} {s : Shared} {h₀ : Heap} {L : Addr} {m : Str → Option Value} {news : List (Addr × Obj)} {Q : Value → Shared → Prop}
theorem len_mine {l : Addr} {vs : List Value} {ns : List Int} {n : Nat} (N : News h₀ L s.heap news) (hm : (l, W.listOf vs.toArray n) ∈ news) (hi : IntsAre vs ns) (hn : ns.length ≤ 100) (h : ∀ t tk, Q (.int ns.length t) { s with toks := tk }) : wpAny (model prog w) A (call (.builtin "len") [.ref l]) Q E s :=
  len_ints_fit ⟨_, (N _ hm).1, rfl, _, rfl⟩ hi (by omega) (h _ _)
theorem sub_int {value slice : PySem.Expr} {l : Addr} {vs : List Value} {ns : List Int} {n : Nat} {k : Nat} {u : Tok} (N : News h₀ L s.heap news) (hm : (l, W.listOf vs.toArray n) ∈ news) (hi : IntsAre vs ns) (h1 : k < ns.length) (hn : ns.length ≤ 100) (h : ∀ t, Q (.int (ns.getD k 0) t) s)
    (hs : subscripted slice false (.ref l) (.int (k : Int) u) = operate [.ref l, .int (k : Int) u] (getItem (.ref l) (.int (k : Int) u)) := by with_unfolding_all rfl) :
    wpAny (model prog w) A (subscriptTail value slice (.ref l) (.int (k : Int) u)) Q E s :=
  item_anyK (k := (k : Int)) (PySem.IsL.isList (n := n) (N _ hm).1) hi (by omega) (by omega) (by omega) h hs
theorem sub_sp {value slice : PySem.Expr} {l : Addr} {vs : List Value} {ws : List Int} {n : Nat} {k : Nat} {u : Tok} (N : News h₀ L s.heap news) (hm : (l, W.listOf vs.toArray n) ∈ news) (hi : StrsAre vs (ws.map spelled)) (h1 : k < ws.length) (hn : ws.length ≤ 100) (h : ∀ t, Q (.str (spelled (ws.getD k 0)) t) s)
    (hs : subscripted slice false (.ref l) (.int (k : Int) u) = operate [.ref l, .int (k : Int) u] (getItem (.ref l) (.int (k : Int) u)) := by with_unfolding_all rfl) :
    wpAny (model prog w) A (subscriptTail value slice (.ref l) (.int (k : Int) u)) Q E s := by
  refine item_strsR (k := (k : Int)) (PySem.IsL.isList (n := n) (N _ hm).1) hi (by omega) (by rw [List.length_map]; omega) (by omega) (fun t => ?_) hs
  have e : (ws.map spelled).getD ((k : Int)).toNat Str.empty = spelled (ws.getD k 0) := by
    show (ws.map spelled).getD k Str.empty = _
    rw [List.getD_eq_getElem?_getD, List.getD_eq_getElem?_getD, List.getElem?_map, List.getElem?_eq_getElem h1]; rfl
  rw [e]; exact h t
theorem sum_mine {l : Addr} {vs : List Value} {ns : List Int} {n : Nat} (F : Fr h₀ L s.heap m) (N : News h₀ L s.heap news) (hh : A.handled = none) (hm : (l, W.listOf vs.toArray n) ∈ news) (hi : IntsAre vs ns)
    (h : ∀ h' tk t', Fr h₀ L h' m → News h₀ L h' news → Q (.int ns.sum t') { s with heap := h', toks := tk }) : wpAny (model prog w) A (call (.builtin "sum") [.ref l]) Q E s :=
  PyProof.Rows.LSm.sum_ints F N hh (PySem.IsL.isList (n := n) (N _ hm).1) hi h
end
theorem ltne1 {news : List (Addr × Obj)} {L' : Addr} (lt : ∀ p ∈ news, p.1 < L') (k : Nat) : ∀ p ∈ news, p.1 ≠ L' + k := fun p hp => by
  have : @LT.lt Nat _ p.1 L' := lt p hp
  show @Ne Nat _ _
  omega
noncomputable def pairTerm (z a b : Int) : Int := (1 - z) ^ (ham a b).toNat * (1 + z) ^ (4 - ham a b).toNat
noncomputable def distIn (ws : List Int) (z : Int) (q : Nat) (t0 : Int) : Nat → Int
  | 0 => t0
  | p + 1 => distIn ws z q t0 p + 2 * pairTerm z (ws.getD p 0) (ws.getD q 0)
noncomputable def distOut (ws : List Int) (z : Int) : Nat → Int
  | 0 => ws.length * (1 + z) ^ 4
  | q + 1 => distIn ws z q (distOut ws z q) q
theorem ham_all : ((List.range 16).all fun a => (List.range 16).all fun b => decide (0 ≤ ham (a : Nat) (b : Nat)) && decide (ham (a : Nat) (b : Nat) ≤ 4)) = true := by kernel_rfl
theorem ham_le {a b : Int} (a0 : 0 ≤ a) (a1 : a < 16) (b0 : 0 ≤ b) (b1 : b < 16) : 0 ≤ ham a b ∧ ham a b ≤ 4 := by
  have h := List.all_eq_true.mp ham_all a.toNat (List.mem_range.mpr (by omega))
  have h := List.all_eq_true.mp h b.toNat (List.mem_range.mpr (by omega))
  rw [Int.toNat_of_nonneg a0, Int.toNat_of_nonneg b0] at h
  simpa using h
end Mine
namespace Mine
theorem off_S19 : True := by w_top off; trivial
local macro_rules | `(tactic| k_enter) => `(tactic| first
  | (refine' enterL ?k2 ?k4 ?k3 ?k5 ?k6 ?k7 ?k8 ?k9 ?kB ?_ ?c2 ?c3 ?c4 ?c5; (case k2 => k_asm); (case k4 => k_asm); (case k3 => k_asm); (case k5 => k_asm); (case k6 => k_is); (case k7 => k_is); (case k8 => ktr_room); (case k9 => first | exact BindsTo.of_eq rfl | exact binds_K (by k_in) rfl (by k_is) rfl rfl rfl | (refine' kp_binds ?kx ?ke; (case kx => k_in); (case ke => exact fun _ => rfl)) | fail "k_enter: no rule for these arguments"); (case c5 => decide); (case kB => exact locs rfl); (case c2 => exact rfl); (case c3 => exact rfl); (case c4 => exact rfl); k_whole; intro g' L' h' F' N' X' T' l1; (try dsimp only); (try k_unmd); (try k_fold))
  | (refine' enterM ?k2 ?k4 ?k3 ?k5 ?k6 ?k7 ?k8 ?kP ?kG ?kB ?_ ?c2 ?c3 ?c4 ?c5; (case k2 => k_asm); (case k4 => k_asm); (case k3 => k_asm); (case k5 => k_asm); (case k6 => k_is); (case k7 => k_is); (case k8 => ktr_room); (case kP => exact rfl); (case kG => exact fun _ => rfl); (case c5 => decide); (case kB => exact fun _ => locs rfl); (case c2 => exact rfl); (case c3 => exact rfl); (case c4 => exact rfl); k_whole; intro D' g' L' h' tk' l2 lo' F' N' X' T' l1; (try k_lt l2); (try dsimp only); (try k_unmd); (try k_fold)))
local macro_rules | `(tactic| k_all) => `(tactic| first | assumption | exact ne_succ1 (by assumption) | exact ne_succ2 (by assumption) | exact ne_succ3 (by assumption) | exact ne_succ4 (by assumption))
local macro_rules | `(tactic| k_mem) => `(tactic| assumption)
local macro_rules | `(tactic| k_mem) => `(tactic| first | assumption | exact List.Mem.head _ | (refine List.Mem.tail _ ?_; k_mem))

local macro_rules | `(tactic| walk_at "eval Name") => `(tactic| (k_here; k_dflt (refine' nameX ?F ?l ?v ?_ ?a ?b ?c; (case F => k_asm); (case l => exact rfl); (case a => exact rfl); (case b => exact rfl); (case c => decide); (case v => assumption); k_whole)))
local macro_rules | `(tactic| walk_at "loadName") => `(tactic| (k_here; k_dflt (refine' loadX ?F ?l ?v ?_ ?a ?b; (case F => k_asm); (case l => exact rfl); (case a => exact rfl); (case b => exact rfl); (case v => first | exact rfl | assumption); k_whole)))
local macro_rules | `(tactic| walk_at "eval ListComp") => `(tactic| (k_here; k_dflt (refine' compEval ?kF ?hclos ?hcell ?hkind ?hnames ?hx ?_ ?hs; (case kF => k_asm); (case hclos => with_unfolding_all rfl); (case hcell => decide); (case hkind => with_unfolding_all rfl); (case hnames => decide); (case hx => with_unfolding_all rfl); (case hs => intro _; with_unfolding_all rfl))))
local macro_rules | `(tactic| walk_at "call builtin:len") => `(tactic| (k_here; (refine' len_mine ?kN ?km ?kI ?kn ?_; (case kN => k_asm); (case km => k_mem); (case kI => assumption); (case kn => omega)); intro _ _; (try dsimp only)))
local macro_rules | `(tactic| walk_at "call builtin:sum") => `(tactic| (k_here; k_dflt (refine' sum_mine ?kF ?kN ?hh ?km ?kI ?_; (case kF => k_asm); (case kN => k_asm); (case hh => rfl); (case km => k_mem); (case kI => assumption)); intro _ _ _ _ _; (try k_sweep); (try dsimp only)))
local macro_rules | `(tactic| walk_at "subscriptTail") => `(tactic| (k_here; k_dflt (first | (refine' sub_int ?kN ?km ?kI ?k1 ?kn ?_ ?hs; (case kN => k_asm); (case km => k_mem); (case kI => assumption); (case k1 => first | assumption | omega); (case kn => omega); (case hs => with_unfolding_all rfl)) | (refine' sub_sp ?kN ?km ?kI ?k1 ?kn ?_ ?hs; (case kN => k_asm); (case km => k_mem); (case kI => assumption); (case k1 => first | assumption | omega); (case kn => omega); (case hs => with_unfolding_all rfl))); intro _; (try dsimp only)))

local macro_rules | `(tactic| walk_at "exec For Name Call cons nil") => `(tactic| (k_here; (with_reducible rename Fr _ _ _ _ => lF'); k_dflt (refine' forJC lF' ?hk ?hx ?hc ?_ ?hs; (case hk => exact rfl); (case hx => exact rfl); (case hc => exact rfl); (case hs => intro _; with_unfolding_all rfl))))

local macro_rules | `(tactic| walk_at "call ref") => `(tactic| (k_here; k_dflt (refine' add_spec ?kF ?kN ?kX ?kT ?hd ?_; (case kF => k_asm); (case kN => k_asm); (case kX => assumption); (case kT => assumption); (case hd => first | assumption | omega)); intro _ _ _ _ _; (try k_sweep); (try dsimp only)))

local macro_rules | `(tactic| walk_at "call ref") => `(tactic| (k_here; k_dflt (refine' sub_spec ?kF ?kN ?kX ?kT ?hd ?_; (case kF => k_asm); (case kN => k_asm); (case kX => assumption); (case kT => assumption); (case hd => first | assumption | omega)); intro _ _ _ _ _; (try k_sweep); (try dsimp only)))

local macro_rules | `(tactic| walk_at "call ref") => `(tactic| (k_here; k_dflt (refine' mul_spec ?kF ?kN ?kX ?kT ?hd ?s0 ?s1 ?_; (case kF => k_asm); (case kN => k_asm); (case kX => assumption); (case kT => assumption); (case hd => first | assumption | omega); (case s0 => assumption); (case s1 => assumption)); intro _ _ _ _ _; (try k_sweep); (try dsimp only)))

local macro_rules | `(tactic| walk_at "call ref") => `(tactic| (k_here; k_dflt (refine' ipow_spec ?kF ?kN ?kX ?kT ?hd ?s0 ?s1 ?s2 ?_; (case kF => k_asm); (case kN => k_asm); (case kX => assumption); (case kT => assumption); (case hd => first | assumption | omega); (case s0 => assumption); (case s1 => first | assumption | omega); (case s2 => first | assumption | omega)); intro _ _ _ _ _; (try k_sweep); (try dsimp only)))

local macro_rules | `(tactic| walk_at "call ref") => `(tactic| (k_here; k_dflt (refine' lev_spec ?kF ?kN ?kX ?kT ?hd ?s0 ?s1 ?s2 ?s3 ?_; (case kF => k_asm); (case kN => k_asm); (case kX => assumption); (case kT => assumption); (case hd => first | assumption | omega); (case s0 => assumption); (case s1 => assumption); (case s2 => assumption); (case s3 => assumption)); intro _ _ _ _ _; (try k_sweep); (try dsimp only)))

theorem mul_ok {a b : Int} (ha : a.natAbs < 2 ^ 200) (hb : b.natAbs < 2 ^ 200) : (a * b).natAbs < 2 ^ 1000 := by
  rw [Int.natAbs_mul]
  exact Nat.lt_of_lt_of_le (Nat.mul_lt_mul'' ha hb) (by rw [← Nat.pow_add]; exact Nat.pow_le_pow_right (by decide) (by decide))
theorem bydist_spec {w : World} {loose : List Str} {mean : ExcName → Option Value} {mg mb : Str → Option Value} {dp un : Nat} {gd : Option (List Code)} {fr : Option (List Env)} {s : Shared} {Q E : Value → Shared → Prop} {h₀ : Heap} {L : Addr} {m : Str → Option Value} {news : List (Addr × Obj)} {sp wd : Addr} {svs wvs : List Value} {ws : List Int} {z : Int} {tz : Tok} {n1 n2 : Nat}
    (F : Fr h₀ L s.heap m) (N : News h₀ L s.heap news) (X : (KTop w.params).In h₀) (T : Top VTop loose mean mg mb h₀) (hdp : dp + 4 < recursionLimit) (hun : un + 20 < cLine) (hs : (sp, W.listOf svs.toArray n1) ∈ news) (hS : StrsAre svs (ws.map spelled)) (hw : (wd, W.listOf wvs.toArray n2) ∈ news) (hW : IntsAre wvs ws) (h16 : ∀ k, 0 ≤ ws.getD k 0 ∧ ws.getD k 0 < 16) (hn : ws.length ≤ 5) (hz : 0 ≤ z) (hz' : z < 2 ^ 31)
    (ret : ∀ t h' tk', Fr h₀ L h' m → News h₀ L h' news → Q (.int (distOut ws z ws.length) t) { s with heap := h', toks := tk' }) :
    wpAny (model PySem.Challenge.rw_ta0074_01.row.prog w) (Ar dp un gd fr) (call (.ref 291) [.ref sp, .ref wd, .int z tz]) Q E s := by
  revert X; k_fill; intro X
  refine wpAny_call ?_
  k_dflt (refine' enterNC (binds := [(Str.ofString "spellings", Value.ref sp), (Str.ofString "words", Value.ref wd), (Str.ofString "z", Value.int z tz)]) F N X T ?k6 ?k7 ?k8 ?k9 ?kB ?kD ?_ ?c2 ?c3 ?c4; (case k6 => k_is); (case k7 => k_is); (case k8 => ktr_room); (case k9 => exact BindsTo.of_eq rfl); (case kB => exact rfl); (case kD => decide +kernel); (case c2 => exact rfl); (case c3 => exact rfl); (case c4 => exact rfl))
  clear F N X T
  intro g L' h₁ tk cells F N Y X T back lt
  obtain ⟨o1, o2, o3, hE, d1, d2, d3⟩ := CellsAre.three Y
  subst hE; clear Y
  replace F : Fr g L' h₁ (fun y => if y = Str.ofString "z" then some (.int z tz) else if y = Str.ofString "spellings" then some (.ref sp) else none) := F
  replace d1 : o1.data = .cell (none) := d1
  replace d2 : o2.data = .cell (none) := d2
  replace d3 : o3.data = .cell (some (.ref wd)) := d3
  (try simp only [List.cons_append, List.nil_append] at N)
  (try dsimp only)
  (try k_unmd)
  k_fold
  have hz1 : (1 + z).natAbs < 2 ^ 40 := by omega
  have hz2 : (1 - z).natAbs < 2 ^ 40 := by omega
  have hd1 : dp + 1 + 1 < recursionLimit := by omega
  have hd2 : dp + 1 + 2 < recursionLimit := by omega
  have hz4 : ((1 + z) ^ (4 : Int).toNat).natAbs < 2 ^ 1000 := Nat.lt_of_lt_of_le (pow_ok hz1 (by decide)) (Nat.pow_le_pow_right (by decide) (by decide))
  have hln : ((ws.length : Int)).natAbs < 2 ^ 1000 := Nat.lt_of_le_of_lt (show ((ws.length : Int)).natAbs ≤ 5 by omega) (by decide)
  have h2n : ((2 : Int)).natAbs < 2 ^ 1000 := by decide
  k_steps
  (rename IsRange _ _ _ _ _ _ _ _ => hR)
  (rename Fr _ _ _ _ => F2)
  (rename News _ _ _ _ => N2)
  refine ⟨_, _, _, _, _, _, ws.length, _, (L' + 1 + 1 + 1, o1) :: (L' + 1, o3) :: news, o2, _, fun i m₁ nw => ∃ op v t, nw = (L' + 1 + 1 + 1, op) :: (L' + 1, o3) :: news ∧ op.data = .cell v ∧ m₁ (Str.ofString "total") = some (.int (distOut ws z i) t) ∧ m₁ (Str.ofString "spellings") = some (.ref sp) ∧ m₁ (Str.ofString "z") = some (.int z tz), rfl, rfl, hR, (range_fit (by omega)).1, (range_fit (by omega)).2, F2, fun p hp => N2 p ?_, d2, ?_, ⟨o1, _, _, rfl, d1, rfl, rfl, rfl⟩, ?_, ?_⟩
  · simp only [List.mem_cons] at hp ⊢
    rcases hp with rfl | rfl | rfl | hp <;> simp [*]
  · intro p hp
    simp only [List.mem_cons] at hp
    rcases hp with rfl | rfl | hp
    · show @Ne Nat (L' + 1 + 1 + 1) (L' + 1 + 1)
      omega
    · show @Ne Nat (L' + 1) (L' + 1 + 1)
      omega
    · exact ltne1 lt 2 p hp
  · rintro i t m₁ nw I oI oq h tk hi ⟨op, v, t2, rfl, hop, h1, h2, h3⟩ F hoq N hcI off offc
    clear hR F2 N2 d1 d2
    (try dsimp only)
    simp only [Int.zero_add] at hoq
    (try (with_reducible show wpAny _ _ _ _ _ _))
    k_fold
    k_steps
    try (clear F N)
    (rename IsRange _ _ _ _ _ _ _ _ => hR)
    (rename Fr _ _ _ _ => F)
    (rename News _ _ _ _ => N)
    refine ⟨_, _, _, _, _, _, i, _, (I, oI) :: (L' + 1 + 1, oq) :: (L' + 1, o3) :: news, op, _, fun j m₁ nw => ∃ t, nw = (I, oI) :: (L' + 1 + 1, oq) :: (L' + 1, o3) :: news ∧ m₁ (Str.ofString "total") = some (.int (distIn ws z i (distOut ws z i) j) t) ∧ m₁ (Str.ofString "spellings") = some (.ref sp) ∧ m₁ (Str.ofString "z") = some (.int z tz), rfl, rfl, hR, (range_fit (by omega)).1, (range_fit (by omega)).2, F, fun p hp => N p ?_, hop, ?_, ⟨_, rfl, h1, h2, h3⟩, ?_, ?_⟩
    · simp only [List.mem_cons] at hp ⊢
      rcases hp with rfl | rfl | rfl | rfl | hp <;> simp [*]
    · intro p hp
      simp only [List.mem_cons] at hp
      rcases hp with rfl | rfl | rfl | hp
      · exact fun e => off (L' + 1 + 1 + 1, op) (.head _) e.symm
      · show @Ne Nat (L' + 1 + 1) (L' + 1 + 1 + 1)
        omega
      · show @Ne Nat (L' + 1) (L' + 1 + 1 + 1)
        omega
      · exact ltne1 lt 3 p hp
    · clear hR F N h1 h2 h3
      rintro j t m₁ nw I2 oI2 op2 h tk hj ⟨t2, rfl, h1, h2, h3⟩ F hop2 N hcI2 off2 offc2
      (try dsimp only)
      simp only [Int.zero_add] at hop2
      have hj' : j < ws.length := by omega
      have hp0 := (h16 j).1
      have hp1 := (h16 j).2
      have hq0 := (h16 i).1
      have hq1 := (h16 i).2
      have hham := ham_le hp0 hp1 hq0 hq1
      have hh0 := hham.1
      have hh1 := hham.2
      have hs0 : 0 ≤ 4 - ham (ws.getD j 0) (ws.getD i 0) := by omega
      have hs1 : 4 - ham (ws.getD j 0) (ws.getD i 0) ≤ 4 := by omega
      (try (with_reducible show wpAny _ _ _ _ _ _))
      k_fold
      k_steps
      try (clear F N)
      (rename IsRange _ _ _ _ _ _ _ _ => hR)
      (rename Fr _ _ _ _ => F)
      (rename News _ _ _ _ => N)
      refine .inr ⟨_, _, _, _, _, _, 4, _, fun i' ys nw _ => nw = (I2, oI2) :: (L' + 1 + 1 + 1, op2) :: (I, oI) :: (L' + 1 + 1, oq) :: (L' + 1, o3) :: news ∧ IntsAre ys ((List.range i').map fun (k : Nat) => Builtin.bitAnd ((Builtin.bitXor (ws.getD j 0) (ws.getD i 0)).fdiv (2 ^ (0 + (k : Int)).toNat)) 1), rfl, rfl, F, N, hR, by decide, by decide, by decide, ⟨rfl, .nil⟩, ?_, fun _ _ _ _ _ _ h => h, ?_, ?_⟩
      · rintro i' ys nw _ ⟨_, hc⟩
        rw [hc.length, List.length_map, List.length_range]; exact Nat.le_refl _
      · clear hR F N
        intro g' i' v ys nw I3 oI3 C3 oC3 D3 m₂ h tk E' hi' hP hJ hC hx F N off3 ne
        obtain ⟨t', rfl⟩ := hP
        obtain ⟨rfl, hc⟩ := hJ
        refine wpAny_tests_nil (TestEnd.tt ?_)
        k_fold
        k_steps
        refine EltEnd.mk (by assumption) (by assumption) _ (fun p hp => hp) off3 ⟨rfl, ?_⟩
        rw [List.range_succ, List.map_append]
        exact ints_app hc (.cons _ _ .nil)
      · clear hR F N
        rintro D3 h tk ys nw F N off3 ⟨rfl, hc⟩
        (try dsimp only)
        have hA := Nat.lt_of_lt_of_le (pow_ok (b := 1 - z) (k := (ham (ws.getD j 0) (ws.getD i 0)).toNat) hz2 (by omega)) (Nat.pow_le_pow_right (by decide : 0 < 2) (by decide : 200 ≤ 1000))
        have hB := Nat.lt_of_lt_of_le (pow_ok (b := 1 + z) (k := (4 - ham (ws.getD j 0) (ws.getD i 0)).toNat) hz1 (by omega)) (Nat.pow_le_pow_right (by decide : 0 < 2) (by decide : 200 ≤ 1000))
        have hAB := mul_ok (pow_ok (b := 1 - z) (k := (ham (ws.getD j 0) (ws.getD i 0)).toNat) hz2 (by omega)) (pow_ok (b := 1 + z) (k := (4 - ham (ws.getD j 0) (ws.getD i 0)).toNat) hz1 (by omega))
        k_steps
        · exact absurd rfl (by assumption)
        · refine ForTurnC.next (by assumption) (by assumption) _ hop2 (fun p hp => .tail _ hp) hcI2 off2 offc2 ?_
          exact ⟨_, rfl, rfl, h2, h3⟩
    · clear hR F N h1 h2 h3
      rintro h tk m' nw oc v F N hoc offc2 ⟨t2, rfl, h1, h2, h3⟩
      (try dsimp only)
      k_steps
      refine ForTurnC.next (by assumption) (by assumption) ((L' + 1 + 1 + 1, oc) :: (L' + 1, o3) :: news) hoq (fun p hp => ?_) hcI ?_ ?_ ?_
      · simp only [List.mem_cons] at hp ⊢
        rcases hp with rfl | rfl | rfl | rfl | hp <;> simp [*]
      · intro p hp
        rcases List.mem_cons.mp hp with rfl | hp
        · exact off (L' + 1 + 1 + 1, op) (.head _)
        · exact off p (.tail _ hp)
      · intro p hp
        rcases List.mem_cons.mp hp with rfl | hp
        · exact offc (L' + 1 + 1 + 1, op) (.head _)
        · exact offc p (.tail _ hp)
      · exact ⟨oc, v, _, rfl, hoc, h1, h2, h3⟩
  · rintro h tk m' nw oc v F N hoc offc ⟨op, v2, t2, rfl, hop, h1, h2, h3⟩
    clear hR F2 N2 d1 d2
    (try dsimp only)
    k_steps
    exact ret _ _ _ (back _ _ _ _ (by assumption) (by assumption)).1 (cb_drop (back _ _ _ _ (by assumption) (by assumption)).2 fun p hp => .tail _ (.tail _ (.tail _ hp)))
end Mine
namespace Mine
theorem off_S20 : True := by w_top off; trivial
local macro_rules | `(tactic| k_enter) => `(tactic| first
  | (refine' enterL ?k2 ?k4 ?k3 ?k5 ?k6 ?k7 ?k8 ?k9 ?kB ?_ ?c2 ?c3 ?c4 ?c5; (case k2 => k_asm); (case k4 => k_asm); (case k3 => k_asm); (case k5 => k_asm); (case k6 => k_is); (case k7 => k_is); (case k8 => ktr_room); (case k9 => first | exact BindsTo.of_eq rfl | exact binds_K (by k_in) rfl (by k_is) rfl rfl rfl | (refine' kp_binds ?kx ?ke; (case kx => k_in); (case ke => exact fun _ => rfl)) | fail "k_enter: no rule for these arguments"); (case c5 => decide); (case kB => exact locs rfl); (case c2 => exact rfl); (case c3 => exact rfl); (case c4 => exact rfl); k_whole; intro g' L' h' F' N' X' T' l1; (try dsimp only); (try k_unmd); (try k_fold))
  | (refine' enterM ?k2 ?k4 ?k3 ?k5 ?k6 ?k7 ?k8 ?kP ?kG ?kB ?_ ?c2 ?c3 ?c4 ?c5; (case k2 => k_asm); (case k4 => k_asm); (case k3 => k_asm); (case k5 => k_asm); (case k6 => k_is); (case k7 => k_is); (case k8 => ktr_room); (case kP => exact rfl); (case kG => exact fun _ => rfl); (case c5 => decide); (case kB => exact fun _ => locs rfl); (case c2 => exact rfl); (case c3 => exact rfl); (case c4 => exact rfl); k_whole; intro D' g' L' h' tk' l2 lo' F' N' X' T' l1; (try k_lt l2); (try dsimp only); (try k_unmd); (try k_fold)))
local macro_rules | `(tactic| k_all) => `(tactic| first | assumption | exact ne_succ1 (by assumption) | exact ne_succ2 (by assumption) | exact ne_succ3 (by assumption) | exact ne_succ4 (by assumption))
local macro_rules | `(tactic| k_mem) => `(tactic| assumption)
local macro_rules | `(tactic| k_mem) => `(tactic| first | assumption | exact List.Mem.head _ | (refine List.Mem.tail _ ?_; k_mem))

local macro_rules | `(tactic| walk_at "eval Name") => `(tactic| (k_here; k_dflt (refine' nameX ?F ?l ?v ?_ ?a ?b ?c; (case F => k_asm); (case l => exact rfl); (case a => exact rfl); (case b => exact rfl); (case c => decide); (case v => assumption); k_whole)))
local macro_rules | `(tactic| walk_at "loadName") => `(tactic| (k_here; k_dflt (refine' loadX ?F ?l ?v ?_ ?a ?b; (case F => k_asm); (case l => exact rfl); (case a => exact rfl); (case b => exact rfl); (case v => first | exact rfl | assumption); k_whole)))
local macro_rules | `(tactic| walk_at "exec For Name") => `(tactic| (k_here; (with_reducible rename Fr _ _ _ _ => lF'); k_dflt (refine' forJF lF' ?hx ?hp ?_ ?hs; (case hx => exact rfl); (case hp => exact rfl); (case hs => intro _; with_unfolding_all rfl))))
local macro_rules | `(tactic| walk_at "exec For Name Call cons nil") => `(tactic| (k_here; (with_reducible rename Fr _ _ _ _ => lF'); k_dflt (refine' forJF lF' ?hx ?hp ?_ ?hs; (case hx => exact rfl); (case hp => exact rfl); (case hs => intro _; with_unfolding_all rfl))))
local macro_rules | `(tactic| walk_at "call builtin:len") => `(tactic| (k_here; (refine' len_mine ?kN ?km ?kI ?kn ?_; (case kN => k_asm); (case km => k_mem); (case kI => assumption); (case kn => omega)); intro _ _; (try dsimp only)))
local macro_rules | `(tactic| walk_at "call builtin:sum") => `(tactic| (k_here; k_dflt (refine' sum_mine ?kF ?kN ?hh ?km ?kI ?_; (case kF => k_asm); (case kN => k_asm); (case hh => rfl); (case km => k_mem); (case kI => assumption)); intro _ _ _ _ _; (try k_sweep); (try dsimp only)))
local macro_rules | `(tactic| walk_at "subscriptTail") => `(tactic| (k_here; k_dflt (first | (refine' sub_int ?kN ?km ?kI ?k1 ?kn ?_ ?hs; (case kN => k_asm); (case km => k_mem); (case kI => assumption); (case k1 => first | assumption | omega); (case kn => omega); (case hs => with_unfolding_all rfl)) | (refine' sub_sp ?kN ?km ?kI ?k1 ?kn ?_ ?hs; (case kN => k_asm); (case km => k_mem); (case kI => assumption); (case k1 => first | assumption | omega); (case kn => omega); (case hs => with_unfolding_all rfl))); intro _; (try dsimp only)))

section
variable {prog : Program} {w : World} {A : Around} {E : Value → Shared → Prop} {s : Shared} {h₀ : Heap} {L : Addr} {m : Str → Option Value} {news : List (Addr × Obj)} {Q : Value → Shared → Prop}
theorem sub_any {value slice : PySem.Expr} {l : Addr} {vs : List Value} {n : Nat} {k : Nat} {u : Tok} {v : Value} (N : News h₀ L s.heap news) (hm : (l, W.listOf vs.toArray n) ∈ news) (hv : vs[k]? = some v) (hk : k ≤ 100) (h : Q v s)
    (hs : subscripted slice false (.ref l) (.int (k : Int) u) = operate [.ref l, .int (k : Int) u] (getItem (.ref l) (.int (k : Int) u)) := by with_unfolding_all rfl) (hg : ∀ r, letTemporaryGo value (.ref l) r = pure () := by intro _; with_unfolding_all rfl) :
    wpAny (model prog w) A (subscriptTail value slice (.ref l) (.int (k : Int) u)) Q E s :=
  item_listL (k := (k : Int)) (PySem.IsL.isList (n := n) (N _ hm).1) (by omega) (by omega) (by simpa using hv) h hs hg
end
noncomputable def strOf : Value → Str
  | .str x _ => x
  | _ => Str.empty
noncomputable def chosenOf (cols : List (List Value)) (c : Nat) : Nat → List Value
  | 0 => []
  | k + 1 => if Builtin.bitAnd (c : Int) (1 * 2 ^ (k : Int).toNat) ≠ 0 then chosenOf cols c k ++ cols.getD k [] else chosenOf cols c k
noncomputable def sizeOf' (c : Nat) : Nat → Int
  | 0 => 0
  | k + 1 => if Builtin.bitAnd (c : Int) (1 * 2 ^ (k : Int).toNat) ≠ 0 then sizeOf' c k + 1 else sizeOf' c k
noncomputable def surOf (cs pv : List Value) : Nat → Int
  | 0 => 0
  | i + 1 => if (((cs.map strOf).count (strOf (pv.getD i .none)) : Nat) : Int).fmod 2 ≠ 0 then surOf cs pv i - 1 else surOf cs pv i + 1
noncomputable def colTot (cols : List (List Value)) (pv : List Value) (z : Int) : Nat → Int
  | 0 => 0
  | c + 1 => colTot cols pv z c + z ^ (sizeOf' c 4).toNat * (surOf (chosenOf cols c 4) pv pv.length * surOf (chosenOf cols c 4) pv pv.length)
noncomputable def AllStr (vs : List Value) : Prop := ∀ v ∈ vs, ∃ x t, v = .str x t
theorem strs_of {vs : List Value} (h : AllStr vs) : StrsAre vs (vs.map strOf) := by
  induction vs with
  | nil => exact .nil
  | cons v r ih =>
    obtain ⟨x, t, rfl⟩ := h v (.head _)
    exact .cons x t (ih fun u hu => h u (.tail _ hu))
noncomputable def PlOk (pv : List Value) : Prop := AllStr pv ∧ (∀ x t, Value.str x t ∈ pv → t ≠ 0) ∧ ∀ x t y, Value.str x t ∈ pv → Value.str y t ∈ pv → x = y
theorem chosen_sub {cols : List (List Value)} {pv : List Value} (h : ∀ c ∈ cols, ∀ v ∈ c, v ∈ pv) (c : Nat) : ∀ k, ∀ v ∈ chosenOf cols c k, v ∈ pv := by
  intro k
  induction k with
  | zero => intro v hv; cases hv
  | succ k ih =>
    intro v hv
    unfold chosenOf at hv
    split at hv
    · rcases List.mem_append.mp hv with hv | hv
      · exact ih v hv
      · by_cases hk : k < cols.length
        · rw [List.getD_eq_getElem?_getD, List.getElem?_eq_getElem hk] at hv
          exact h _ (List.getElem_mem hk) v hv
        · rw [List.getD_eq_getElem?_getD, List.getElem?_eq_none (by omega)] at hv
          cases hv
    · exact ih v hv
theorem chosen_len {cols : List (List Value)} {B : Nat} (h : ∀ k, (cols.getD k []).length ≤ B) (c : Nat) : ∀ k, (chosenOf cols c k).length ≤ B * k := by
  intro k
  induction k with
  | zero => exact Nat.le_refl _
  | succ k ih =>
    unfold chosenOf
    split
    · rw [List.length_append, Nat.mul_succ]; have := h k; omega
    · rw [Nat.mul_succ]; omega
theorem size_le (c : Nat) : ∀ k, 0 ≤ sizeOf' c k ∧ sizeOf' c k ≤ k := by
  intro k
  induction k with
  | zero => exact ⟨Int.le_refl _, Int.le_refl _⟩
  | succ k ih => unfold sizeOf'; split <;> omega
theorem sur_le (cs pv : List Value) : ∀ i, (surOf cs pv i).natAbs ≤ i := by
  intro i
  induction i with
  | zero => exact Nat.le_refl _
  | succ i ih => unfold surOf; split <;> omega
local macro_rules | `(tactic| walk_at "call ref") => `(tactic| (k_here; k_dflt (refine' add_spec ?kF ?kN ?kX ?kT ?hd ?_; (case kF => k_asm); (case kN => k_asm); (case kX => assumption); (case kT => assumption); (case hd => first | assumption | omega)); intro _ _ _ _ _; (try k_sweep); (try dsimp only)))

local macro_rules | `(tactic| walk_at "call ref") => `(tactic| (k_here; k_dflt (refine' sub_spec ?kF ?kN ?kX ?kT ?hd ?_; (case kF => k_asm); (case kN => k_asm); (case kX => assumption); (case kT => assumption); (case hd => first | assumption | omega)); intro _ _ _ _ _; (try k_sweep); (try dsimp only)))

local macro_rules | `(tactic| walk_at "call ref") => `(tactic| (k_here; k_dflt (refine' mul_spec ?kF ?kN ?kX ?kT ?hd ?s0 ?s1 ?_; (case kF => k_asm); (case kN => k_asm); (case kX => assumption); (case kT => assumption); (case hd => first | assumption | omega); (case s0 => assumption); (case s1 => assumption)); intro _ _ _ _ _; (try k_sweep); (try dsimp only)))

local macro_rules | `(tactic| walk_at "call ref") => `(tactic| (k_here; k_dflt (refine' ipow_spec ?kF ?kN ?kX ?kT ?hd ?s0 ?s1 ?s2 ?_; (case kF => k_asm); (case kN => k_asm); (case kX => assumption); (case kT => assumption); (case hd => first | assumption | omega); (case s0 => assumption); (case s1 => first | assumption | omega); (case s2 => first | assumption | omega)); intro _ _ _ _ _; (try k_sweep); (try dsimp only)))

local macro_rules | `(tactic| walk_at "call ref") => `(tactic| (k_here; k_dflt (refine' and_spec ?kF ?kN ?kX ?kT ?hd ?_; (case kF => k_asm); (case kN => k_asm); (case kX => assumption); (case kT => assumption); (case hd => first | assumption | omega)); intro _ _ _ _ _; (try k_sweep); (try dsimp only)))

local macro_rules | `(tactic| walk_at "call ref") => `(tactic| (k_here; k_dflt (refine' lshift_spec ?kF ?kN ?kX ?kT ?hd ?s0 ?s1 ?s2 ?s3 ?_; (case kF => k_asm); (case kN => k_asm); (case kX => assumption); (case kT => assumption); (case hd => first | assumption | omega); (case s0 => first | decide | omega); (case s1 => first | decide | omega); (case s2 => first | assumption | omega); (case s3 => first | assumption | omega)); intro _ _ _ _ _; (try k_sweep); (try dsimp only)))

local macro_rules | `(tactic| walk_at "call ref") => `(tactic| (k_here; k_dflt (refine' concat_spec ?kF ?kN ?kX ?kT ?hd ?s0 ?s1 ?s2 ?_; (case kF => k_asm); (case kN => k_asm); (case kX => assumption); (case kT => assumption); (case hd => first | assumption | omega); (case s0 => k_mem); (case s1 => k_mem); (case s2 => assumption)); intro _ _ _ _ _ _; (try k_sweep); (try dsimp only)))

local macro_rules | `(tactic| walk_at "call ref") => `(tactic| (k_here; k_dflt (refine' countOf_spec ?kF ?kN ?kX ?kT ?hd ?s0 ?s1 ?s2 ?_; (case kF => k_asm); (case kN => k_asm); (case kX => assumption); (case kT => assumption); (case hd => first | assumption | omega); (case s0 => k_mem); (case s1 => assumption); (case s2 => assumption)); intro _ _ _ _ _; (try k_sweep); (try dsimp only)))

local macro_rules | `(tactic| walk_at "subscriptTail") => `(tactic| (k_here; k_dflt (refine' sub_any ?kN ?km ?kv ?kk ?_ ?hs ?hg; (case kN => k_asm); (case km => k_mem); (case kv => assumption); (case kk => omega); (case hs => with_unfolding_all rfl); (case hg => intro _; with_unfolding_all rfl)); (try dsimp only)))
theorem mul_ok20 {a b : Int} (ha : a.natAbs < 2 ^ 200) (hb : b.natAbs < 2 ^ 200) : (a * b).natAbs < 2 ^ 1000 := by
  rw [Int.natAbs_mul]
  exact Nat.lt_of_lt_of_le (Nat.mul_lt_mul'' ha hb) (by rw [← Nat.pow_add]; exact Nat.pow_le_pow_right (by decide) (by decide))
theorem turn_fresh {h₀ : Heap} {L I2 C D : Addr} {oI2 oc o : Obj} {r : List (Addr × Obj)} {Jn : (Str → Option Value) → List (Addr × Obj) → Prop} {s₁ : Shared} {Q : Flow → Shared → Prop} {h' : Heap} {tk : Nat} {m' : Str → Option Value}
    (F : Fr h₀ L h' m') (N : News h₀ L h' ((D, o) :: (I2, oI2) :: (C, oc) :: r)) (lD : ∀ p ∈ (I2, oI2) :: (C, oc) :: r, p.1 < D) (off2 : ∀ p ∈ (C, oc) :: r, p.1 ≠ I2) (hJ : Jn m' ((D, o) :: r)) : ForTurn h₀ L I2 oI2 Jn s₁ Q .next { s₁ with heap := h', toks := tk } := by
  refine ForTurn.next F N ((D, o) :: r) (fun p hp => ?_) (fun p hp => ?_) hJ
  · simp only [List.mem_cons] at hp ⊢
    rcases hp with rfl | rfl | hp <;> simp [*]
  · rcases List.mem_cons.mp hp with rfl | hp
    · exact Nat.ne_of_gt (lD (I2, oI2) (.head _))
    · exact off2 p (.tail _ hp)
theorem bycol_spec {w : World} {loose : List Str} {mean : ExcName → Option Value} {mg mb : Str → Option Value} {dp un : Nat} {gd : Option (List Code)} {fr : Option (List Env)} {s : Shared} {Q E : Value → Shared → Prop} {h₀ : Heap} {L : Addr} {m : Str → Option Value} {news : List (Addr × Obj)} {cl pl : Addr} {cvs pv : List Value} {cols : List (List Value)} {z : Int} {tz : Tok} {n1 n2 : Nat}
    (F : Fr h₀ L s.heap m) (N : News h₀ L s.heap news) (X : (KTop w.params).In h₀) (T : Top VTop loose mean mg mb h₀) (hdp : dp + 4 < recursionLimit) (hcl : (cl, W.listOf cvs.toArray n1) ∈ news) (hpl : (pl, W.listOf pv.toArray n2) ∈ news)
    (hcols : ∀ k, k < 4 → ∃ D n, cvs[k]? = some (.ref D) ∧ (D, W.listOf (cols.getD k []).toArray n) ∈ news) (hsub : ∀ c ∈ cols, ∀ v ∈ c, v ∈ pv) (hlen : ∀ k, (cols.getD k []).length ≤ 5) (hP : PlOk pv) (hn : pv.length ≤ 5) (hz : 0 ≤ z) (hz' : z < 2 ^ 31)
    (ret : ∀ t h' tk', Fr h₀ L h' m → News h₀ L h' news → Q (.int (colTot cols pv z 16) t) { s with heap := h', toks := tk' }) :
    wpAny (model PySem.Challenge.rw_ta0074_01.row.prog w) (Ar dp un gd fr) (call (.ref 298) [.ref cl, .ref pl, .int z tz]) Q E s := by
  revert X; k_fill; intro X
  refine wpAny_call ?_
  k_dflt (refine' enterN (binds := [(Str.ofString "columns", Value.ref cl), (Str.ofString "places", Value.ref pl), (Str.ofString "z", Value.int z tz)]) F N X T ?k6 ?k7 ?k8 ?k9 ?kB ?_ ?c2 ?c3 ?c4 ?c5; (case k6 => k_is); (case k7 => k_is); (case k8 => ktr_room); (case k9 => exact BindsTo.of_eq rfl); (case c5 => decide); (case kB => exact locs rfl); (case c2 => exact rfl); (case c3 => exact rfl); (case c4 => exact rfl))
  clear F N X T
  intro g L' h₁ F N X T back lt
  replace F : Fr g L' h₁ (fun y => List.lookup y [(Str.ofString "z", Value.int z tz), (Str.ofString "places", Value.ref pl), (Str.ofString "columns", Value.ref cl)]) := F
  (try dsimp only)
  (try k_unmd)
  k_fold
  have hz1 : z.natAbs < 2 ^ 40 := by omega
  have hd1 : dp + 1 + 1 < recursionLimit := by omega
  have hd2 : dp + 1 + 2 < recursionLimit := by omega
  k_steps
  (rename IsRange _ _ _ _ _ _ _ _ => hR)
  (rename Fr _ _ _ _ => F2)
  (rename News _ _ _ _ => N2)
  refine forSrc_range rfl (n := 16) (fun i m₁ nw => news = nw ∧ (∃ t, m₁ (Str.ofString "total") = some (.int (colTot cols pv z i) t)) ∧ m₁ (Str.ofString "columns") = some (.ref cl) ∧ m₁ (Str.ofString "places") = some (.ref pl) ∧ m₁ (Str.ofString "z") = some (.int z tz)) rfl F2 N2 hR (by decide) (by decide) ⟨rfl, ⟨_, rfl⟩, rfl, rfl, rfl⟩ ?_ ?_
  · rintro i t m₁ nw I oI h tk hi ⟨rfl, ⟨t1, h1⟩, h2, h3, h4⟩ F N off
    clear hR F2 N2
    simp only [Int.zero_add] at F
    (try dsimp only)
    (try (with_reducible show wpAny _ _ _ _ _ _))
    k_fold
    k_steps
    try (clear F N)
    (rename IsRange _ _ _ _ _ _ _ _ => hR)
    (rename Fr _ _ _ _ => F)
    (rename News _ _ _ _ => N)
    refine forSrc_range rfl (n := 4) (fun j m₁ nw => ∃ C n, nw = (C, W.listOf (chosenOf cols i j).toArray n) :: (I, oI) :: news ∧ C ≠ I ∧ m₁ (Str.ofString "chosen") = some (.ref C) ∧ (∃ t, m₁ (Str.ofString "size") = some (.int (sizeOf' i j) t)) ∧ (∃ t, m₁ (Str.ofString "total") = some (.int (colTot cols pv z i) t)) ∧ m₁ (Str.ofString "columns") = some (.ref cl) ∧ m₁ (Str.ofString "places") = some (.ref pl) ∧ m₁ (Str.ofString "z") = some (.int z tz) ∧ (∃ t, m₁ (Str.ofString "choice") = some (.int i t))) rfl F N hR (by decide) (by decide) ⟨_, _, rfl, ?_, rfl, ⟨_, rfl⟩, ⟨_, h1⟩, h2, h3, h4, ⟨_, rfl⟩⟩ ?_ ?_
    · have hh := (by assumption : I < _ ∧ AllLt _ news)
      exact Nat.ne_of_gt hh.1
    · clear hR F N h1 h2 h3 h4
      rintro j t m₁ nw I2 oI2 h tk hj ⟨C, n, rfl, hCI, h1, ⟨t2, h2⟩, ⟨t3, h3⟩, h4, h5, h6, ⟨t7, h7⟩⟩ F N off2
      simp only [Int.zero_add] at F
      obtain ⟨D, nD, hcv, hDm⟩ := hcols j hj
      have hchl := chosen_len hlen i j
      have hcl5 := hlen j
      have hsz : (chosenOf cols i j).length + (cols.getD j []).length ≤ sizeLine := by
        have : (100 : Nat) ≤ sizeLine := by decide
        omega
      (try dsimp only)
      (try (with_reducible show wpAny _ _ _ _ _ _))
      k_fold
      k_steps
      · have hb : Builtin.bitAnd (i : Int) (1 * 2 ^ (j : Int).toNat) ≠ 0 := by assumption
        have lD := (by assumption : ∀ p ∈ (I2, oI2) :: (C, W.listOf (chosenOf cols i j).toArray n) :: (I, oI) :: news, p.1 < _)
        refine turn_fresh (by assumption) (by assumption) lD off2 ?_
        have e1 : chosenOf cols i (j + 1) = chosenOf cols i j ++ cols.getD j [] := if_pos hb
        have e2 : sizeOf' i (j + 1) = sizeOf' i j + 1 := if_pos hb
        rw [e1, e2]
        exact ⟨_, _, rfl, Nat.ne_of_gt (lD (I, oI) (.tail _ (.tail _ (.head _)))), rfl, ⟨_, rfl⟩, ⟨_, h3⟩, h4, h5, h6, ⟨_, h7⟩⟩
      · have hb : Builtin.bitAnd (i : Int) (1 * 2 ^ (j : Int).toNat) = 0 := by assumption
        refine ForTurn.next (by assumption) (by assumption) _ (fun p hp => hp) off2 ?_
        have e1 : chosenOf cols i (j + 1) = chosenOf cols i j := if_neg (fun h => h hb)
        have e2 : sizeOf' i (j + 1) = sizeOf' i j := if_neg (fun h => h hb)
        rw [e1, e2]
        exact ⟨_, _, rfl, hCI, h1, ⟨_, h2⟩, ⟨_, h3⟩, h4, h5, h6, ⟨_, h7⟩⟩
    · clear hR F N h1 h2 h3 h4
      rintro h tk m' nw F N ⟨C, n, rfl, hCI, h1, ⟨t2, h2⟩, ⟨t3, h3⟩, h4, h5, h6, ⟨t7, h7⟩⟩
      (try dsimp only)
      k_steps
      try (clear F N)
      (rename Fr _ _ _ _ => F)
      (rename News _ _ _ _ => N)
      have hchS : ∀ v ∈ chosenOf cols i 4, v ∈ pv := chosen_sub hsub i 4
      have hss := strs_of (vs := chosenOf cols i 4) fun v hv => hP.1 v (hchS v hv)
      refine forSrc_list rfl (its := pv.toArray) (fun a m₁ nw => (C, W.listOf (chosenOf cols i 4).toArray n) :: (I, oI) :: news = nw ∧ m₁ (Str.ofString "chosen") = some (.ref C) ∧ (∃ t, m₁ (Str.ofString "size") = some (.int (sizeOf' i 4) t)) ∧ (∃ t, m₁ (Str.ofString "total") = some (.int (colTot cols pv z i) t)) ∧ m₁ (Str.ofString "columns") = some (.ref cl) ∧ m₁ (Str.ofString "places") = some (.ref pl) ∧ m₁ (Str.ofString "z") = some (.int z tz) ∧ (∃ t, m₁ (Str.ofString "surplus") = some (.int (surOf (chosenOf cols i 4) pv a) t))) rfl F N (.inr ⟨_, .tail _ (.tail _ hpl), rfl, _, rfl⟩) ⟨rfl, h1, ⟨_, h2⟩, ⟨_, h3⟩, h4, h5, h6, ⟨_, rfl⟩⟩ (fun a m₁ nw h => .inr ⟨W.listOf pv.toArray n2, h.1 ▸ List.Mem.tail _ (List.Mem.tail _ hpl), rfl, _, rfl⟩) ?_ ?_
      · clear F N h1 h2 h3 h4 h5 h6 h7
        rintro a v m₁ nw I3 oI3 h tk ha hv ⟨rfl, h1, ⟨t2, h2⟩, ⟨t3, h3⟩, h4, h5, h6, ⟨t7, h7⟩⟩ F N off3
        have hv' : pv[a]? = some v := by simpa using hv
        have hmem : v ∈ pv := List.mem_of_getElem? hv'
        obtain ⟨x, tx, rfl⟩ := hP.1 v hmem
        have hto : TokOk (chosenOf cols i 4) x tx := ⟨hP.2.1 x tx hmem, fun y u hy => ⟨hP.2.1 y u (hchS _ hy), fun e => by subst e; exact hP.2.2 _ _ _ (hchS _ hy) hmem⟩⟩
        have eg : strOf (pv.getD a .none) = x := by rw [List.getD_eq_getElem?_getD, hv']; rfl
        have estep : surOf (chosenOf cols i 4) pv (a + 1) = if (((((chosenOf cols i 4).map strOf).count x : Nat) : Int).fmod 2 ≠ 0) then surOf (chosenOf cols i 4) pv a - 1 else surOf (chosenOf cols i 4) pv a + 1 := by rw [← eg]; rfl
        (try dsimp only)
        (try (with_reducible show wpAny _ _ _ _ _ _))
        k_fold
        k_steps
        · refine ForTurn.next (by assumption) (by assumption) _ (fun p hp => hp) off3 ?_
          rw [estep, if_pos (by assumption)]
          exact ⟨rfl, h1, ⟨_, h2⟩, ⟨_, h3⟩, h4, h5, h6, ⟨_, rfl⟩⟩
        · refine ForTurn.next (by assumption) (by assumption) _ (fun p hp => hp) off3 ?_
          rw [estep, if_neg (fun h => h (by assumption))]
          exact ⟨rfl, h1, ⟨_, h2⟩, ⟨_, h3⟩, h4, h5, h6, ⟨_, rfl⟩⟩
      · clear F N h1 h2 h3 h4 h5 h6 h7
        rintro h tk m' nw F N ⟨rfl, h1, ⟨t2, h2⟩, ⟨t3, h3⟩, h4, h5, h6, ⟨t7, h7⟩⟩
        have hs4 := size_le i 4
        have hs0 := hs4.1
        have hs1 : sizeOf' i 4 ≤ 4 := hs4.2
        have hsu := sur_le (chosenOf cols i 4) pv pv.length
        rw [List.size_toArray] at h7
        have hS : (surOf (chosenOf cols i 4) pv pv.length).natAbs < 2 ^ 200 := Nat.lt_of_le_of_lt (Nat.le_trans hsu hn) (by decide)
        have hS1 : (surOf (chosenOf cols i 4) pv pv.length).natAbs < 2 ^ 1000 := Nat.lt_of_le_of_lt (Nat.le_trans hsu hn) (by decide)
        have hS2 := mul_ok20 hS hS
        have hA := Nat.lt_of_lt_of_le (pow_ok (b := z) (k := (sizeOf' i 4).toNat) hz1 (by omega)) (Nat.pow_le_pow_right (by decide : 0 < 2) (by decide : 200 ≤ 1000))
        (try dsimp only)
        k_steps
        refine ForTurn.next (by assumption) (by assumption) _ (fun p hp => .tail _ hp) ?_ ?_
        · exact off
        · exact ⟨rfl, ⟨_, rfl⟩, h4, h5, h6⟩
  · rintro h tk m' nw F N ⟨rfl, ⟨t1, h1⟩, h2, h3, h4⟩
    clear hR F2 N2
    k_steps
    exact ret _ _ _ (back _ _ _ _ (by assumption) (by assumption)).1 (back _ _ _ _ (by assumption) (by assumption)).2
end Mine
namespace Mine
open PySem.Spec
theorem dat_strs {news : List (Addr × Obj)} {vs : List Value} {ss : List Str} (h : StrsAre vs ss) : DatAll news vs (ss.map Dat.str) := by
  induction h with
  | nil => exact .nil
  | cons x t _ ih => exact .cons (.str x t) ih
theorem dat_hdrs {news : List (Addr × Obj)} {vs : List Value} {hs : List Hdr} (h : HdrsAre news vs hs) : DatAll news vs (hs.map fun h => Dat.tuple [.str h.1.1, .str h.2.1]) := by
  induction h with
  | nil => exact .nil
  | cons hm _ ih => exact .cons (.tuple (n := 0) (vs := [_, _]) hm (.cons (.str _ _) (.cons (.str _ _) .nil))) ih
noncomputable def hdrTxt (h : Hdr) : Str × Str := (h.1.1, h.2.1)
theorem hdr_dat (hs : List Hdr) : (hs.map fun h => Dat.tuple [.str h.1.1, .str h.2.1]) = (hs.map hdrTxt).map fun p => Dat.tuple [.str p.1, .str p.2] := by
  rw [List.map_map]; rfl
theorem HdrsAre.mono {a b : List (Addr × Obj)} {vs : List Value} {hs : List Hdr} (h : HdrsAre a vs hs) (s : ∀ p ∈ a, p ∈ b) : HdrsAre b vs hs := by
  induction h with
  | nil => exact .nil
  | cons hm _ ih => exact .cons (s _ hm) ih
theorem HdrsAre.app {a : List (Addr × Obj)} {vs us : List Value} {hs gs : List Hdr} (h : HdrsAre a vs hs) (g : HdrsAre a us gs) : HdrsAre a (vs ++ us) (hs ++ gs) := by
  induction h with
  | nil => exact g
  | cons hm _ ih => exact .cons hm ih
theorem ok_strs {ss : List Str} (h : ∀ x ∈ ss, PyData.strOk x = true) : ∀ d ∈ ss.map Dat.str, kqdOk 8 d = true := by
  intro d hd
  obtain ⟨x, hx, rfl⟩ := List.mem_map.mp hd
  exact h x hx
theorem ok_pairs {ps : List (Str × Str)} (h : ∀ p ∈ ps, PyData.strOk p.1 = true ∧ PyData.strOk p.2 = true) : ∀ d ∈ ps.map (fun p => Dat.tuple [.str p.1, .str p.2]), kqdOk 8 d = true := by
  intro d hd
  obtain ⟨p, hp, rfl⟩ := List.mem_map.mp hd
  have := h p hp
  simp [kqdOk, this.1, this.2]
section
variable {prog : Program} {w : World} {A : Around} {E : Value → Shared → Prop} {s : Shared} {h₀ : Heap} {L : Addr} {a b : Addr} {news : List (Addr × Obj)} {xs ys : List Value} {na nb : Nat} {ds es : List Dat} {Q : Value → Shared → Prop}
theorem eq_dats (N : News h₀ L s.heap news) (ma : (a, W.listOf xs.toArray na) ∈ news) (Da : DatAll news xs ds) (mb : (b, W.listOf ys.toArray nb) ∈ news) (Db : DatAll news ys es) (ha : ∀ d ∈ ds, kqdOk 8 d = true) (hb : ∀ d ∈ es, kqdOk 8 d = true)
    (hu : A.units + 64 < cLine) (h : ∀ c : Bool, (c = true ↔ ds = es) → Q (.bool c) s) : wpAny (model prog w) A (compareOp .Eq (.ref a) (.ref b)) Q E s :=
  kqd_eq N ma rfl rfl Da (fun _ h => h) mb rfl rfl Db (fun _ h => h) ha hb hu (h _ (by simp))
theorem ne_dats (N : News h₀ L s.heap news) (ma : (a, W.listOf xs.toArray na) ∈ news) (Da : DatAll news xs ds) (mb : (b, W.listOf ys.toArray nb) ∈ news) (Db : DatAll news ys es) (ha : ∀ d ∈ ds, kqdOk 8 d = true) (hb : ∀ d ∈ es, kqdOk 8 d = true)
    (hu : A.units + 64 < cLine) (e : ds = es) (h : Q (.bool false) s) : wpAny (model prog w) A (compareOp .NotEq (.ref a) (.ref b)) Q E s :=
  kqd_ne N ma rfl rfl Da (fun _ h => h) mb rfl rfl Db (fun _ h => h) ha hb hu (by subst e; simpa using h)
end
noncomputable def decS (p : Nat) : Str := Str.ofString (toString (p : Int))
noncomputable def flagsTo (x sh : Int) (i : Nat) : List Str := ((List.range i).filter fun (k : Nat) => decide (Builtin.bitAnd (x.fdiv (2 ^ (0 + (k : Int)).toNat)) 1 ≠ 0)).map fun (k : Nat) => flagName (sh + (0 + (k : Int)))
noncomputable def flagsDue (x sh : Int) : List Str := if flagsTo x sh 4 = [] then [Str.ofString "0x0"] else flagsTo x sh 4
noncomputable def dueOf (ws : List Int) (sh : Int) : Nat → List (Str × Str)
  | 0 => []
  | p + 1 => dueOf ws sh p ++ (spelled (ws.getD p 0), decS p) :: (flagsDue (ws.getD p 0) sh).map fun f => (f, decS p)
theorem flags_len (x sh : Int) (i : Nat) : (flagsTo x sh i).length ≤ i := by
  unfold flagsTo
  rw [List.length_map]
  exact Nat.le_trans (List.length_filter_le _ _) (by rw [List.length_range]; exact Nat.le_refl _)
theorem due_flags_len (x sh : Int) : (flagsDue x sh).length ≤ 4 := by
  unfold flagsDue
  split
  · decide
  · exact flags_len x sh 4
theorem due_len (ws : List Int) (sh : Int) : ∀ i, (dueOf ws sh i).length ≤ 5 * i
  | 0 => Nat.le_refl _
  | i + 1 => by
    have h1 := due_len ws sh i
    have h2 := due_flags_len (ws.getD i 0) sh
    unfold dueOf
    rw [List.length_append, List.length_cons, List.length_map]
    omega
theorem flag_ok : ∀ j, j < 12 → PyData.strOk (flagName ((j : Nat) : Int)) = true := by decide +kernel
theorem flagsTo_ok {x sh : Int} (h0 : 0 ≤ sh) (h9 : sh < 9) : ∀ y ∈ flagsTo x sh 4, PyData.strOk y = true := by
  intro y hy
  obtain ⟨k, hk, rfl⟩ := List.mem_map.mp hy
  have hk4 := List.mem_range.mp (List.mem_filter.mp hk).1
  have := flag_ok (sh.toNat + k) (by omega)
  rw [show ((sh.toNat + k : Nat) : Int) = sh + (0 + (k : Int)) by omega] at this
  exact this
end Mine
namespace Mine
local macro_rules | `(tactic| walk_at "Mine idle") => `(tactic| fail "idle")
theorem off_S21 : True := by w_top off; trivial
local macro_rules | `(tactic| k_enter) => `(tactic| first
  | (refine' enterL ?k2 ?k4 ?k3 ?k5 ?k6 ?k7 ?k8 ?k9 ?kB ?_ ?c2 ?c3 ?c4 ?c5; (case k2 => k_asm); (case k4 => k_asm); (case k3 => k_asm); (case k5 => k_asm); (case k6 => k_is); (case k7 => k_is); (case k8 => ktr_room); (case k9 => first | exact BindsTo.of_eq rfl | exact binds_K (by k_in) rfl (by k_is) rfl rfl rfl | (refine' kp_binds ?kx ?ke; (case kx => k_in); (case ke => exact fun _ => rfl)) | fail "k_enter: no rule for these arguments"); (case c5 => decide); (case kB => exact locs rfl); (case c2 => exact rfl); (case c3 => exact rfl); (case c4 => exact rfl); k_whole; intro g' L' h' F' N' X' T' l1; (try dsimp only); (try k_unmd); (try k_fold))
  | (refine' enterM ?k2 ?k4 ?k3 ?k5 ?k6 ?k7 ?k8 ?kP ?kG ?kB ?_ ?c2 ?c3 ?c4 ?c5; (case k2 => k_asm); (case k4 => k_asm); (case k3 => k_asm); (case k5 => k_asm); (case k6 => k_is); (case k7 => k_is); (case k8 => ktr_room); (case kP => exact rfl); (case kG => exact fun _ => rfl); (case c5 => decide); (case kB => exact fun _ => locs rfl); (case c2 => exact rfl); (case c3 => exact rfl); (case c4 => exact rfl); k_whole; intro D' g' L' h' tk' l2 lo' F' N' X' T' l1; (try k_lt l2); (try dsimp only); (try k_unmd); (try k_fold)))
local macro_rules | `(tactic| k_all) => `(tactic| first | assumption | exact ne_succ1 (by assumption) | exact ne_succ2 (by assumption) | exact ne_succ3 (by assumption) | exact ne_succ4 (by assumption))
local macro_rules | `(tactic| k_mem) => `(tactic| assumption)
local macro_rules | `(tactic| k_mem) => `(tactic| first | assumption | exact List.Mem.head _ | (refine List.Mem.tail _ ?_; k_mem))

local macro_rules | `(tactic| walk_at "eval Name") => `(tactic| (k_here; k_dflt (refine' nameX ?F ?l ?v ?_ ?a ?b ?c; (case F => k_asm); (case l => exact rfl); (case a => exact rfl); (case b => exact rfl); (case c => decide); (case v => assumption); k_whole)))
local macro_rules | `(tactic| walk_at "loadName") => `(tactic| (k_here; k_dflt (refine' loadX ?F ?l ?v ?_ ?a ?b; (case F => k_asm); (case l => exact rfl); (case a => exact rfl); (case b => exact rfl); (case v => first | exact rfl | assumption); k_whole)))
local macro_rules | `(tactic| walk_at "eval ListComp") => `(tactic| (k_here; k_dflt (refine' compEval ?kF ?hclos ?hcell ?hkind ?hnames ?hx ?_ ?hs; (case kF => k_asm); (case hclos => with_unfolding_all rfl); (case hcell => decide); (case hkind => with_unfolding_all rfl); (case hnames => decide); (case hx => with_unfolding_all rfl); (case hs => intro _; with_unfolding_all rfl))))
local macro_rules | `(tactic| walk_at "exec Assign cons ListComp") => `(tactic| (k_here; k_dflt (refine' compAssign ?kF ?hLe ?hsw ?hclos ?hcell ?hkind ?hnames ?hx ?hy ?hp ?_ ?hs; (case kF => k_asm); (case hLe => exact rfl); (case hsw => exact rfl); (case hclos => with_unfolding_all rfl); (case hcell => decide); (case hkind => with_unfolding_all rfl); (case hnames => decide); (case hx => with_unfolding_all rfl); (case hy => exact rfl); (case hp => exact rfl); (case hs => intro _; with_unfolding_all rfl))))

local macro_rules | `(tactic| walk_at "call builtin:len") => `(tactic| (k_here; (refine' len_mine ?kN ?km ?kI ?kn ?_; (case kN => k_asm); (case km => k_mem); (case kI => assumption); (case kn => omega)); intro _ _; (try dsimp only)))
local macro_rules | `(tactic| walk_at "call builtin:sum") => `(tactic| (k_here; k_dflt (refine' sum_mine ?kF ?kN ?hh ?km ?kI ?_; (case kF => k_asm); (case kN => k_asm); (case hh => rfl); (case km => k_mem); (case kI => assumption)); intro _ _ _ _ _; (try k_sweep); (try dsimp only)))
local macro_rules | `(tactic| walk_at "subscriptTail") => `(tactic| (k_here; k_dflt (first | (refine' sub_int ?kN ?km ?kI ?k1 ?kn ?_ ?hs; (case kN => k_asm); (case km => k_mem); (case kI => assumption); (case k1 => first | assumption | omega); (case kn => omega); (case hs => with_unfolding_all rfl)) | (refine' sub_sp ?kN ?km ?kI ?k1 ?kn ?_ ?hs; (case kN => k_asm); (case km => k_mem); (case kI => assumption); (case k1 => first | assumption | omega); (case kn => omega); (case hs => with_unfolding_all rfl))); intro _; (try dsimp only)))

local macro_rules | `(tactic| walk_at "exec For Name Call cons nil") => `(tactic| (k_here; (with_reducible rename Fr _ _ _ _ => lF'); k_dflt (refine' forJC lF' ?hk ?hx ?hc ?_ ?hs; (case hk => exact rfl); (case hx => exact rfl); (case hc => exact rfl); (case hs => intro _; with_unfolding_all rfl))))

local macro_rules | `(tactic| walk_at "call ref") => `(tactic| (k_here; k_dflt (refine' spelled_spec ?kF ?kN ?kX ?kT ?hd ?s0 ?s1 ?s2 ?_; (case kF => k_asm); (case kN => k_asm); (case kX => assumption); (case kT => assumption); (case hd => first | assumption | omega); (case s0 => first | assumption | omega); (case s1 => assumption); (case s2 => assumption)); intro _ _ _ _ _; (try k_sweep); (try dsimp only)))

local macro_rules | `(tactic| walk_at "call ref") => `(tactic| (k_here; k_dflt (refine' flag_spec ?kF ?kN ?kX ?kT ?hd ?s0 ?s1 ?_; (case kF => k_asm); (case kN => k_asm); (case kX => assumption); (case kT => assumption); (case hd => first | assumption | omega); (case s0 => first | assumption | omega); (case s1 => first | assumption | omega)); intro _ _ _ _ _; (try k_sweep); (try dsimp only)))

theorem flagsTo_set {x sh : Int} {i : Nat} (h : Builtin.bitAnd (x.fdiv (2 ^ (0 + (i : Int)).toNat)) 1 ≠ 0) : flagsTo x sh (i + 1) = flagsTo x sh i ++ [flagName (sh + (0 + (i : Int)))] := by
  unfold flagsTo
  rw [List.range_succ, List.filter_append, List.map_append, List.filter_cons, if_pos (decide_eq_true h)]
  rfl
theorem flagsTo_unset {x sh : Int} {i : Nat} (h : Builtin.bitAnd (x.fdiv (2 ^ (0 + (i : Int)).toNat)) 1 = 0) : flagsTo x sh (i + 1) = flagsTo x sh i := by
  unfold flagsTo
  rw [List.range_succ, List.filter_append, List.map_append, List.filter_cons, if_neg (by rw [h]; decide)]
  exact List.append_nil _
theorem strs_at2 {vs : List Value} {ss : List Str} (h : StrsAre vs ss) {i : Nat} {v : Value} (hv : vs[i]? = some v) : ∃ x t, v = .str x t ∧ ss[i]? = some x := by
  induction h generalizing i with
  | nil => simp at hv
  | cons x t _ ih =>
    cases i with
    | zero => simp at hv; subst hv; exact ⟨x, t, rfl, rfl⟩
    | succ i => simp at hv; simpa using ih hv
theorem upd_app {l : Addr} {o o' : Obj} {r r' : List (Addr × Obj)} (h : Upd l o o' r r') : ∀ U : List (Addr × Obj), (∀ q ∈ U, q.1 ≠ l) → Upd l o o' (U ++ r) (U ++ r')
  | [], _ => h
  | q :: U, hU => .tail (hU q (.head _)) (upd_app h U fun p hp => hU p (.tail _ hp))
theorem elt_fresh {h₀ : Heap} {L : Addr} {m : Str → Option Value} {s₁ : Shared} {I C D T : Addr} {oI oC o : Obj} {ys : List Value} {Jn : List (Addr × Obj) → Nat → Prop} {h' : Heap} {tk : Nat} {nw : List (Addr × Obj)}
    (F : Fr h₀ L h' m) (N : News h₀ L h' ((T, o) :: CLed I oI C oC D ys nw)) (lT : I < T ∧ C < T ∧ D < T ∧ AllLt T nw) (off : LCg.Off3 I C D nw) (r : Jn ((T, o) :: nw) tk) :
    EltEnd h₀ L m s₁ I oI C oC D ys Jn { s₁ with heap := h', toks := tk } := by
  refine EltEnd.mk F N ((T, o) :: nw) (fun p hp => ?_) ⟨⟨Nat.ne_of_gt lT.1, Nat.ne_of_gt lT.2.1, Nat.ne_of_gt lT.2.2.1⟩, off⟩ r
  simp only [List.mem_cons] at hp ⊢
  rcases hp with rfl | rfl | rfl | rfl | hp <;> simp [*]
theorem due_flags_ne (x sh : Int) : (flagsDue x sh).length ≠ 0 := by
  unfold flagsDue
  split
  · decide
  · rename_i h
    intro e
    exact h (List.length_eq_zero_iff.mp e)
theorem long_ok {b : Bool} {n : Nat} (h : n ≤ 1000) : ¬(b && Builtin.List.listTooLong n) = true := by
  have h2 : (1000 : Nat) ≤ sizeLine := by decide
  have : Builtin.List.listTooLong n = false := decide_eq_false (by omega)
  rw [this]; simp
noncomputable def DueJ (l L' wd : Addr) (o2 o3 : Obj) (wvs : List Value) (n2 : Nat) (news : List (Addr × Obj)) (ws : List Int) (sh : Int) (i : Nat) (m₁ : Str → Option Value) (nw : List (Addr × Obj)) : Prop :=
  ∃ T vs hs n, nw = (l, W.listOf (List.toArray vs) n) :: T ∧ (∀ q ∈ (L' + 1 + 1, o2) :: (L' + 1, o3) :: news, q ∈ T) ∧ (∀ q ∈ T, q.1 ≠ l) ∧ HdrsAre T vs hs ∧ hs.map hdrTxt = dueOf ws sh i ∧ m₁ (Str.ofString "due") = some (.ref l)
local macro_rules | `(tactic| walk_at "call builtin:list.extend") => `(tactic| (k_here; refine stopIt2 ?_))
local macro_rules | `(tactic| walk_at "compareOp Eq ref ref") => `(tactic| (k_here; refine stopIt2 ?_))
theorem due_spec {w : World} {loose : List Str} {mean : ExcName → Option Value} {mg mb : Str → Option Value} {dp un : Nat} {gd : Option (List Code)} {fr : Option (List Env)} {s : Shared} {Q E : Value → Shared → Prop} {h₀ : Heap} {L : Addr} {m : Str → Option Value} {news : List (Addr × Obj)} {wd : Addr} {wvs : List Value} {ws : List Int} {sh : Int} {tz : Tok} {n2 : Nat}
    (F : Fr h₀ L s.heap m) (N : News h₀ L s.heap news) (X : (KTop w.params).In h₀) (T : Top VTop loose mean mg mb h₀) (hdp : dp + 4 < recursionLimit) (hun : un + 80 < cLine) (hw : (wd, W.listOf wvs.toArray n2) ∈ news) (hW : IntsAre wvs ws) (h16 : ∀ k, 0 ≤ ws.getD k 0 ∧ ws.getD k 0 < 16) (hn : ws.length ≤ 5) (hs0 : 0 ≤ sh) (hs9 : sh < 9)
    (ret : ∀ D T vs hs n h' tk', Fr h₀ L h' m → News h₀ L h' ((D, W.listOf (List.toArray vs) n) :: T) → (∀ q ∈ news, q ∈ T) → HdrsAre T vs hs → hs.map hdrTxt = dueOf ws sh ws.length → Q (.ref D) { s with heap := h', toks := tk' }) :
    wpAny (model PySem.Challenge.rw_ta0074_01.row.prog w) (Ar dp un gd fr) (call (.ref 286) [.ref wd, .int sh tz]) Q E s := by
  revert X; k_fill; intro X
  refine wpAny_call ?_
  k_dflt (refine' enterNC (binds := [(Str.ofString "words", Value.ref wd), (Str.ofString "shift", Value.int sh tz)]) F N X T ?k6 ?k7 ?k8 ?k9 ?kB ?kD ?_ ?c2 ?c3 ?c4; (case k6 => k_is); (case k7 => k_is); (case k8 => ktr_room); (case k9 => exact BindsTo.of_eq rfl); (case kB => exact rfl); (case kD => decide +kernel); (case c2 => exact rfl); (case c3 => exact rfl); (case c4 => exact rfl))
  clear F N X T
  intro g L' h₁ tk cells F N Y X T back lt
  obtain ⟨o1, o2, o3, hE, d1, d2, d3⟩ := CellsAre.three Y
  subst hE; clear Y
  replace F : Fr g L' h₁ (fun _ => none) := F
  replace d1 : o1.data = .cell (none) := d1
  replace d2 : o2.data = .cell (some (.int sh tz)) := d2
  replace d3 : o3.data = .cell (some (.ref wd)) := d3
  (try simp only [List.cons_append, List.nil_append] at N)
  (try dsimp only)
  (try k_unmd)
  k_fold
  have hd1 : dp + 1 + 1 < recursionLimit := by omega
  have hd2 : dp + 1 + 2 < recursionLimit := by omega
  have hu3 : un + 3 + 64 < cLine := by omega
  have hu2 : un + 3 + 20 < cLine := by omega
  k_steps
  (rename IsRange _ _ _ _ _ _ _ _ => hR)
  (rename Fr _ _ _ _ => F2)
  (rename News _ _ _ _ => N2)
  have l1 := (by assumption : L' + 1 + 1 + 1 < _ ∧ L' + 1 + 1 < _ ∧ L' + 1 < _ ∧ AllLt _ news)
  rename_i l _ _ _ _ _ _ _ _ _ _ _ _ _
  refine ⟨_, _, _, _, _, _, ws.length, _, (l, W.listOf #[] 0) :: (L' + 1 + 1, o2) :: (L' + 1, o3) :: news, o1, _, DueJ l L' wd o2 o3 wvs n2 news ws sh, rfl, rfl, hR, (range_fit (by omega)).1, (range_fit (by omega)).2, F2, fun p hp => N2 p ?_, d1, ?_, ⟨_, [], [], 0, rfl, fun q hq => hq, ?_, .nil, rfl, rfl⟩, ?_, ?_⟩
  · simp only [List.mem_cons] at hp ⊢
    rcases hp with rfl | rfl | rfl | rfl | hp <;> simp [*]
  · intro p hp
    simp only [List.mem_cons] at hp
    rcases hp with rfl | rfl | rfl | hp
    · exact Nat.ne_of_gt l1.1
    · show @Ne Nat (L' + 1 + 1) (L' + 1 + 1 + 1)
      omega
    · show @Ne Nat (L' + 1) (L' + 1 + 1 + 1)
      omega
    · exact ltne1 lt 3 p hp
  · intro p hp
    simp only [List.mem_cons] at hp
    rcases hp with rfl | rfl | hp
    · exact Nat.ne_of_lt l1.2.1
    · exact Nat.ne_of_lt l1.2.2.1
    · exact Nat.ne_of_lt (allLt_mem _ l1.2.2.2 p hp)
  · rintro i t m₁ nw I oI oc h tk hi ⟨T', vs, hs, n, rfl, hsub, hTl, hH, htx, hdue⟩ F hoc N hcI off offc
    clear hR F2 N2 d1
    (try dsimp only)
    simp only [Int.zero_add] at hoc
    have hm2 := hsub _ (.head _)
    have hm3 := hsub _ (.tail _ (.head _))
    have hmw := hsub _ (.tail _ (.tail _ hw))
    have hp0 := (h16 i).1
    have hp1 := (h16 i).2
    have hIl : I ≠ l := fun e => off (l, W.listOf (List.toArray vs) n) (.head _) e.symm
    have hcl : L' + 1 + 1 + 1 ≠ l := fun e => offc (l, W.listOf (List.toArray vs) n) (.head _) e.symm
    have hlen := due_len ws sh i
    rw [← htx, List.length_map, ← hH.len] at hlen
    have hsl : (100 : Nat) ≤ sizeLine := by decide
    have hvl : vs.toArray.size ≤ sizeLine := by rw [List.size_toArray]; omega
    (try (with_reducible show wpAny _ _ _ _ _ _))
    k_fold
    k_steps
    have lT := (by assumption : I < _ ∧ L' + 1 + 1 + 1 < _ ∧ l < _ ∧ AllLt _ T')
    try (clear F N)
    (rename IsRange _ _ _ _ _ _ _ _ => hR)
    (rename Fr _ _ _ _ => F)
    (rename News _ _ _ _ => N)
    obtain ⟨T1, t1, t2, lT, N, hfr⟩ : ∃ T1 t1 t2, (I < T1 ∧ L' + 1 + 1 + 1 < T1 ∧ l < T1 ∧ AllLt T1 T') ∧ News g L' _ ((T1, tupObj (spelled (ws.getD i 0)) (decS i) t1 t2) :: (I, oI) :: (L' + 1 + 1 + 1, oc) :: (l, W.listOf (vs ++ [Value.ref T1]).toArray (n + 1)) :: T') ∧ True := ⟨_, _, _, lT, by rw [List.push_toArray] at N; exact N, trivial⟩
    dsimp only at N
    refine .inr ⟨_, _, _, _, _, _, 4, _, fun i' ys nw _ => nw = (T1, tupObj (spelled (ws.getD i 0)) (decS i) t1 t2) :: (I, oI) :: (L' + 1 + 1 + 1, oc) :: (l, W.listOf (vs ++ [Value.ref T1]).toArray (n + 1)) :: T' ∧ StrsAre ys (flagsTo (ws.getD i 0) sh i'), rfl, rfl, F, N, hR, by decide, by decide, by decide, ⟨rfl, .nil⟩, ?_, fun _ _ _ _ _ _ h => h, ?_, ?_⟩
    · rintro i' ys nw _ ⟨_, hc⟩
      rw [hc.len_eq]; exact flags_len _ _ _
    · clear hR F N
      intro g' i' v ys nw I3 oI3 C3 oC3 D3 m₂ h tk E' hi' hP hJ hC hx F N off3 ne
      obtain ⟨t', rfl⟩ := hP
      obtain ⟨rfl, hc⟩ := hJ
      have hq0 : 0 ≤ sh + (0 + (i' : Int)) := by omega
      have hq1 : sh + (0 + (i' : Int)) < 12 := by omega
      refine wpAny_tests_one ?_
      k_fold
      k_steps
      refine TestEnd.of (fun hc' => ?_) fun hc' => ?_
      · have hb : Builtin.bitAnd ((ws.getD i 0).fdiv (2 ^ (0 + (i' : Int)).toNat)) 1 ≠ 0 := by rw [bne_iff_ne] at hc'; exact hc'
        (try k_fold)
        k_steps
        refine EltEnd.mk (by assumption) (by assumption) _ (fun p hp => hp) off3 ⟨rfl, ?_⟩
        rw [flagsTo_set hb]
        exact strs_snoc hc _ _
      · have hb : Builtin.bitAnd ((ws.getD i 0).fdiv (2 ^ (0 + (i' : Int)).toNat)) 1 = 0 := by rw [bne_eq_false_iff_eq] at hc'; exact hc'
        refine EltEnd.mk (by assumption) (by assumption) _ (fun p hp => hp) off3 ⟨rfl, ?_⟩
        rw [flagsTo_unset hb]
        exact hc
    · clear hR F N
      rintro D3 h tk ys nw F N off3 ⟨rfl, hc⟩
      (try dsimp only)
      k_steps
      unfold Stop2
      have hD3l : D3 ≠ l := fun e => off1_ne off3 (p := (l, W.listOf (vs ++ [Value.ref T1]).toArray (n + 1))) (.tail _ (.tail _ (.tail _ (.head _)))) e.symm
      have lE := (by assumption : D3 < _ ∧ T1 < _ ∧ I < _ ∧ L' + 1 + 1 + 1 < _ ∧ l < _ ∧ AllLt _ T')
      refine eq_dats (es := []) (by assumption) (.tail _ (.head _)) (dat_strs hc) (.head _) .nil (ok_strs (flagsTo_ok hs0 hs9)) (by intro d hd; cases hd) hu3 fun c hcc => ?_
      have hcc' : c = true ↔ flagsTo (ws.getD i 0) sh 4 = [] := by rw [hcc, List.map_eq_nil_iff]
      cases c
      · have hfl : flagsDue (ws.getD i 0) sh = flagsTo (ws.getD i 0) sh 4 := if_neg (fun e => by have := hcc'.mpr e; cases this)
        rw [← hfl] at hc
        k_steps
        have NB : News g L' _ ((I, oI) :: (L' + 1 + 1 + 1, oc) :: (l, W.listOf (vs ++ [Value.ref T1]).toArray (n + 1)) :: (T1, tupObj (spelled (ws.getD i 0)) (decS i) t1 t2) :: (D3, LCg.lst ys) :: T') := fun p hp => (by assumption : News g L' _ (_ :: _)) p (by
          simp only [List.mem_cons] at hp ⊢
          rcases hp with rfl | rfl | rfl | rfl | rfl | hp <;> simp [*])
        have hfl2 := hc.len_eq
        have hfl4 := due_flags_len (ws.getD i 0) sh
        refine .inl ⟨_, List.toArray ys, _, fun i' zs nw _ => ∃ U hs2, nw = U ++ ((I, oI) :: (L' + 1 + 1 + 1, oc) :: (l, W.listOf (vs ++ [Value.ref T1]).toArray (n + 1)) :: (T1, tupObj (spelled (ws.getD i 0)) (decS i) t1 t2) :: (D3, LCg.lst ys) :: T') ∧ (∀ q ∈ U, q.1 ≠ l ∧ q.1 ≠ I ∧ q.1 ≠ L' + 1 + 1 + 1) ∧ HdrsAre U zs hs2 ∧ hs2.map hdrTxt = ((flagsDue (ws.getD i 0) sh).take i').map (fun f => (f, decS i)), rfl, rfl, by assumption, NB, .inr ⟨LCg.lst ys, .tail _ (.tail _ (.tail _ (.tail _ (.head _)))), rfl, _, rfl⟩, by rw [List.size_toArray]; omega, ⟨[], [], rfl, (fun q hq => nomatch hq), .nil, rfl⟩, ?_, fun _ _ _ _ _ _ h => h, ?_, ?_⟩
        · rintro i' zs nw _ ⟨U, hs2, rfl, hU, hH2, ht2⟩
          refine ⟨.inr ⟨LCg.lst ys, List.mem_append.mpr (.inr (.tail _ (.tail _ (.tail _ (.tail _ (.head _)))))), rfl, _, rfl⟩, ?_⟩
          have hl := congrArg List.length ht2
          rw [List.length_map, List.length_map, List.length_take] at hl
          rw [hH2.len, hl]; exact Nat.min_le_left _ _
        · clear NB
          intro g' i' v zs nw I3 oI3 C3 oC3 D4 m₂ h tk E' hi' hv hJ hC hx F N off4 ne
          obtain ⟨U, hs2, rfl, hU, hH2, ht2⟩ := hJ
          have hv' : ((ys : List Value))[i']? = some v := by simpa using hv
          obtain ⟨f, tf, rfl, hf⟩ := strs_at2 hc hv'
          obtain ⟨B, hB⟩ : ∃ B, B = (I, oI) :: (L' + 1 + 1 + 1, oc) :: (l, W.listOf (vs ++ [Value.ref T1]).toArray (n + 1)) :: (T1, tupObj (spelled (ws.getD i 0)) (decS i) t1 t2) :: (D3, LCg.lst ys) :: T' := ⟨_, rfl⟩
          rw [← hB] at N off4
          have hmc : (L' + 1 + 1 + 1, oc) ∈ U ++ B := List.mem_append.mpr (.inr (by rw [hB]; exact .tail _ (.head _)))
          refine wpAny_tests_nil (TestEnd.tt ?_)
          (try k_fold)
          k_steps
          have l4 := (by assumption : I3 < _ ∧ C3 < _ ∧ D4 < _ ∧ AllLt _ (U ++ B))
          have l5 := allLt_mem _ l4.2.2.2
          refine elt_fresh (by assumption) (by assumption) l4 off4 ?_
          refine ⟨_ :: U, hs2 ++ [((f, tf), (decS i, _))], by rw [hB]; rfl, fun q hq => ?_, (hH2.mono fun p hp => .tail _ hp).app (.cons (.head _) .nil), ?_⟩
          · rcases List.mem_cons.mp hq with rfl | hq
            · exact ⟨Nat.ne_of_gt (l5 (l, _) (List.mem_append.mpr (.inr (by rw [hB]; exact .tail _ (.tail _ (.head _)))))), Nat.ne_of_gt (l5 (I, _) (List.mem_append.mpr (.inr (by rw [hB]; exact .head _)))), Nat.ne_of_gt (l5 (L' + 1 + 1 + 1, _) hmc)⟩
            · exact hU q hq
          · rw [List.map_append, ht2, List.take_add_one, hf, List.map_append]; rfl
        · clear NB
          rintro D4 h tk zs nw F N off4 ⟨U, hs2, rfl, hU, hH2, ht2⟩
          rw [List.size_toArray, hfl2, List.take_length] at ht2
          have hDFl : D3 ≠ l := hD3l
          (try dsimp only)
          k_steps
          unfold Stop2
          have hzl : zs.length ≠ 0 := by
            have hl := congrArg List.length ht2
            rw [List.length_map, List.length_map] at hl
            rw [hH2.len, hl]; exact due_flags_ne _ _
          have hzl4 : zs.length ≤ 4 := by
            have hl := congrArg List.length ht2
            rw [List.length_map, List.length_map] at hl
            rw [hH2.len, hl]; exact due_flags_len _ _
          have hD4l : D4 ≠ l := fun e => off1_ne off4 (p := (l, W.listOf (vs ++ [Value.ref T1]).toArray (n + 1))) (List.mem_append.mpr (.inr (.tail _ (.tail _ (.head _))))) e.symm
          have hrest : ∀ q ∈ (T1, tupObj (spelled (ws.getD i 0)) (decS i) t1 t2) :: (D3, LCg.lst ys) :: T', q.1 ≠ l := by
            intro q hq
            rcases List.mem_cons.mp hq with rfl | hq
            · exact Nat.ne_of_gt lT.2.2.1
            · rcases List.mem_cons.mp hq with rfl | hq
              · exact hDFl
              · exact hTl q hq
          refine kl_extend (its := (vs ++ [Value.ref T1]).toArray) (its2 := zs.toArray) (l := vs ++ [Value.ref T1] ++ zs) (by assumption) (by assumption) (.head _) (by simp) (by simpa using hzl) (.tail hD4l (upd_app (.tail hIl (.tail hcl (.head hrest))) U fun q hq => (hU q hq).1)) (long_ok (by simp; omega)) (by simp; omega) (by simp; omega) fun h9 F9 N9 => ?_
          k_steps
          refine ForTurnC.next (by assumption) (by assumption) ((l, W.listOf (vs ++ [Value.ref T1] ++ zs).toArray (n + 1 + 1)) :: (T1, tupObj (spelled (ws.getD i 0)) (decS i) t1 t2) :: (U ++ T')) hoc (fun p hp => ?_) hcI (fun q hq => ?_) (fun q hq => ?_) ?_
          · simp only [List.mem_cons, List.mem_append] at hp ⊢
            rcases hp with rfl | rfl | rfl | rfl | hp | hp <;> simp [*]
          · rcases List.mem_cons.mp hq with rfl | hq
            · exact hIl.symm
            · rcases List.mem_cons.mp hq with rfl | hq
              · exact Nat.ne_of_gt lT.1
              · rcases List.mem_append.mp hq with hq | hq
                · exact (hU q hq).2.1
                · exact off q (.tail _ hq)
          · rcases List.mem_cons.mp hq with rfl | hq
            · exact hcl.symm
            · rcases List.mem_cons.mp hq with rfl | hq
              · exact Nat.ne_of_gt lT.2.1
              · rcases List.mem_append.mp hq with hq | hq
                · exact (hU q hq).2.2
                · exact offc q (.tail _ hq)
          · refine ⟨_, _, hs ++ [((spelled (ws.getD i 0), t1), (decS i, t2))] ++ hs2, _, rfl, fun q hq => .tail _ (List.mem_append.mpr (.inr (hsub q hq))), fun q hq => ?_, ((hH.mono fun p hp => .tail _ (List.mem_append.mpr (.inr hp))).app (.cons (.head _) .nil)).app (hH2.mono fun p hp => .tail _ (List.mem_append.mpr (.inl hp))), ?_, hdue⟩
            · rcases List.mem_cons.mp hq with rfl | hq
              · exact Nat.ne_of_gt lT.2.2.1
              · rcases List.mem_append.mp hq with hq | hq
                · exact (hU q hq).1
                · exact hTl q hq
            · rw [List.map_append, List.map_append, htx, ht2]
              show (dueOf ws sh i ++ [(spelled (ws.getD i 0), decS i)]) ++ _ = dueOf ws sh i ++ _ :: _
              rw [List.append_assoc]; rfl
      · have hfl : flagsDue (ws.getD i 0) sh = [Str.ofString "0x0"] := if_pos (hcc'.mp rfl)
        k_steps
        have lE2 := (by assumption : _ < _ ∧ D3 < _ ∧ T1 < _ ∧ I < _ ∧ L' + 1 + 1 + 1 < _ ∧ l < _ ∧ AllLt _ T')
        (rename News _ _ _ _ => N0)
        rename_i k0 E0 _ _ _ _ _ _
        have hE0l : E0 ≠ l := Nat.ne_of_gt lE2.2.2.2.2.2.1
        have hc0 : StrsAre [Value.str (Str.ofString "0x0") k0] (flagsDue (ws.getD i 0) sh) := by rw [hfl]; exact .cons _ _ .nil
        have NB : News g L' _ ((I, oI) :: (L' + 1 + 1 + 1, oc) :: (l, W.listOf (vs ++ [Value.ref T1]).toArray (n + 1)) :: (T1, tupObj (spelled (ws.getD i 0)) (decS i) t1 t2) :: (E0, W.listOf [Value.str (Str.ofString "0x0") k0].toArray 0) :: T') := fun p hp => N0 p (by
          simp only [List.mem_cons] at hp ⊢
          rcases hp with rfl | rfl | rfl | rfl | rfl | hp <;> simp [*])
        clear N0
        have hfl2 := hc0.len_eq
        have hfl4 := due_flags_len (ws.getD i 0) sh
        refine .inl ⟨_, List.toArray [Value.str (Str.ofString "0x0") k0], _, fun i' zs nw _ => ∃ U hs2, nw = U ++ ((I, oI) :: (L' + 1 + 1 + 1, oc) :: (l, W.listOf (vs ++ [Value.ref T1]).toArray (n + 1)) :: (T1, tupObj (spelled (ws.getD i 0)) (decS i) t1 t2) :: (E0, W.listOf [Value.str (Str.ofString "0x0") k0].toArray 0) :: T') ∧ (∀ q ∈ U, q.1 ≠ l ∧ q.1 ≠ I ∧ q.1 ≠ L' + 1 + 1 + 1) ∧ HdrsAre U zs hs2 ∧ hs2.map hdrTxt = ((flagsDue (ws.getD i 0) sh).take i').map (fun f => (f, decS i)), rfl, rfl, by assumption, NB, .inr ⟨W.listOf [Value.str (Str.ofString "0x0") k0].toArray 0, .tail _ (.tail _ (.tail _ (.tail _ (.head _)))), rfl, _, rfl⟩, by rw [List.size_toArray]; omega, ⟨[], [], rfl, (fun q hq => nomatch hq), .nil, rfl⟩, ?_, fun _ _ _ _ _ _ h => h, ?_, ?_⟩
        · rintro i' zs nw _ ⟨U, hs2, rfl, hU, hH2, ht2⟩
          refine ⟨.inr ⟨W.listOf [Value.str (Str.ofString "0x0") k0].toArray 0, List.mem_append.mpr (.inr (.tail _ (.tail _ (.tail _ (.tail _ (.head _)))))), rfl, _, rfl⟩, ?_⟩
          have hl := congrArg List.length ht2
          rw [List.length_map, List.length_map, List.length_take] at hl
          rw [hH2.len, hl]; exact Nat.min_le_left _ _
        · clear NB
          intro g' i' v zs nw I3 oI3 C3 oC3 D4 m₂ h tk E' hi' hv hJ hC hx F N off4 ne
          obtain ⟨U, hs2, rfl, hU, hH2, ht2⟩ := hJ
          have hv' : (([Value.str (Str.ofString "0x0") k0] : List Value))[i']? = some v := by simpa using hv
          obtain ⟨f, tf, rfl, hf⟩ := strs_at2 hc0 hv'
          obtain ⟨B, hB⟩ : ∃ B, B = (I, oI) :: (L' + 1 + 1 + 1, oc) :: (l, W.listOf (vs ++ [Value.ref T1]).toArray (n + 1)) :: (T1, tupObj (spelled (ws.getD i 0)) (decS i) t1 t2) :: (E0, W.listOf [Value.str (Str.ofString "0x0") k0].toArray 0) :: T' := ⟨_, rfl⟩
          rw [← hB] at N off4
          have hmc : (L' + 1 + 1 + 1, oc) ∈ U ++ B := List.mem_append.mpr (.inr (by rw [hB]; exact .tail _ (.head _)))
          refine wpAny_tests_nil (TestEnd.tt ?_)
          (try k_fold)
          k_steps
          have l4 := (by assumption : I3 < _ ∧ C3 < _ ∧ D4 < _ ∧ AllLt _ (U ++ B))
          have l5 := allLt_mem _ l4.2.2.2
          refine elt_fresh (by assumption) (by assumption) l4 off4 ?_
          refine ⟨_ :: U, hs2 ++ [((f, tf), (decS i, _))], by rw [hB]; rfl, fun q hq => ?_, (hH2.mono fun p hp => .tail _ hp).app (.cons (.head _) .nil), ?_⟩
          · rcases List.mem_cons.mp hq with rfl | hq
            · exact ⟨Nat.ne_of_gt (l5 (l, _) (List.mem_append.mpr (.inr (by rw [hB]; exact .tail _ (.tail _ (.head _)))))), Nat.ne_of_gt (l5 (I, _) (List.mem_append.mpr (.inr (by rw [hB]; exact .head _)))), Nat.ne_of_gt (l5 (L' + 1 + 1 + 1, _) hmc)⟩
            · exact hU q hq
          · rw [List.map_append, ht2, List.take_add_one, hf, List.map_append]; rfl
        · clear NB
          rintro D4 h tk zs nw F N off4 ⟨U, hs2, rfl, hU, hH2, ht2⟩
          rw [List.size_toArray, hfl2, List.take_length] at ht2
          have hDFl : E0 ≠ l := hE0l
          (try dsimp only)
          k_steps
          unfold Stop2
          have hzl : zs.length ≠ 0 := by
            have hl := congrArg List.length ht2
            rw [List.length_map, List.length_map] at hl
            rw [hH2.len, hl]; exact due_flags_ne _ _
          have hzl4 : zs.length ≤ 4 := by
            have hl := congrArg List.length ht2
            rw [List.length_map, List.length_map] at hl
            rw [hH2.len, hl]; exact due_flags_len _ _
          have hD4l : D4 ≠ l := fun e => off1_ne off4 (p := (l, W.listOf (vs ++ [Value.ref T1]).toArray (n + 1))) (List.mem_append.mpr (.inr (.tail _ (.tail _ (.head _))))) e.symm
          have hrest : ∀ q ∈ (T1, tupObj (spelled (ws.getD i 0)) (decS i) t1 t2) :: (E0, W.listOf [Value.str (Str.ofString "0x0") k0].toArray 0) :: T', q.1 ≠ l := by
            intro q hq
            rcases List.mem_cons.mp hq with rfl | hq
            · exact Nat.ne_of_gt lT.2.2.1
            · rcases List.mem_cons.mp hq with rfl | hq
              · exact hDFl
              · exact hTl q hq
          refine kl_extend (its := (vs ++ [Value.ref T1]).toArray) (its2 := zs.toArray) (l := vs ++ [Value.ref T1] ++ zs) (by assumption) (by assumption) (.head _) (by simp) (by simpa using hzl) (.tail hD4l (upd_app (.tail hIl (.tail hcl (.head hrest))) U fun q hq => (hU q hq).1)) (long_ok (by simp; omega)) (by simp; omega) (by simp; omega) fun h9 F9 N9 => ?_
          k_steps
          refine ForTurnC.next (by assumption) (by assumption) ((l, W.listOf (vs ++ [Value.ref T1] ++ zs).toArray (n + 1 + 1)) :: (T1, tupObj (spelled (ws.getD i 0)) (decS i) t1 t2) :: (U ++ T')) hoc (fun p hp => ?_) hcI (fun q hq => ?_) (fun q hq => ?_) ?_
          · simp only [List.mem_cons, List.mem_append] at hp ⊢
            rcases hp with rfl | rfl | rfl | rfl | hp | hp <;> simp [*]
          · rcases List.mem_cons.mp hq with rfl | hq
            · exact hIl.symm
            · rcases List.mem_cons.mp hq with rfl | hq
              · exact Nat.ne_of_gt lT.1
              · rcases List.mem_append.mp hq with hq | hq
                · exact (hU q hq).2.1
                · exact off q (.tail _ hq)
          · rcases List.mem_cons.mp hq with rfl | hq
            · exact hcl.symm
            · rcases List.mem_cons.mp hq with rfl | hq
              · exact Nat.ne_of_gt lT.2.1
              · rcases List.mem_append.mp hq with hq | hq
                · exact (hU q hq).2.2
                · exact offc q (.tail _ hq)
          · refine ⟨_, _, hs ++ [((spelled (ws.getD i 0), t1), (decS i, t2))] ++ hs2, _, rfl, fun q hq => .tail _ (List.mem_append.mpr (.inr (hsub q hq))), fun q hq => ?_, ((hH.mono fun p hp => .tail _ (List.mem_append.mpr (.inr hp))).app (.cons (.head _) .nil)).app (hH2.mono fun p hp => .tail _ (List.mem_append.mpr (.inl hp))), ?_, hdue⟩
            · rcases List.mem_cons.mp hq with rfl | hq
              · exact Nat.ne_of_gt lT.2.2.1
              · rcases List.mem_append.mp hq with hq | hq
                · exact (hU q hq).1
                · exact hTl q hq
            · rw [List.map_append, List.map_append, htx, ht2]
              show (dueOf ws sh i ++ [(spelled (ws.getD i 0), decS i)]) ++ _ = dueOf ws sh i ++ _ :: _
              rw [List.append_assoc]; rfl
  · rintro h tk m' nw oc v F N hoc offc ⟨T', vs, hs, n, rfl, hsub, hTl, hH, htx, hdue⟩
    clear hR F2 N2 d1
    (try dsimp only)
    k_steps
    exact ret l T' vs hs n _ _ (back _ _ _ _ (by assumption) (by assumption)).1 (cb_drop (back _ _ _ _ (by assumption) (by assumption)).2 fun p hp => .tail _ hp) (fun q hq => hsub q (.tail _ (.tail _ hq))) hH htx
end Mine
namespace Mine
theorem words_len (ns : List Int) : 3 ≤ (wordsOf ns).length ∧ (wordsOf ns).length ≤ 5 := by
  unfold wordsOf
  rw [List.length_map, List.length_append, List.length_drop, List.length_take]
  show 3 ≤ min 5 ns.length + (3 - min 5 ns.length) ∧ _ ≤ 5
  show 3 ≤ min 5 ns.length + (3 - min 5 ns.length) ∧ min 5 ns.length + (3 - min 5 ns.length) ≤ 5
  omega
theorem words_16 (ns : List Int) : ∀ k, 0 ≤ (wordsOf ns).getD k 0 ∧ (wordsOf ns).getD k 0 < 16 := by
  intro k
  unfold wordsOf
  rw [List.getD_eq_getElem?_getD, List.getElem?_map]
  cases h : ((ns.take 5) ++ ([11, 6, 13] : List Int).drop (ns.take 5).length)[k]? with
  | none => exact ⟨Int.le_refl _, by decide⟩
  | some x => exact ⟨fmod_lo _ (by decide), fmod_hi _ (by decide)⟩
theorem z_facts (x : Int) : 0 ≤ 1000 + x.fmod (10 ^ Int.toNat 9) ∧ 1000 + x.fmod (10 ^ Int.toNat 9) < 2 ^ 31 := by
  have h1 := fmod_lo x (n := 10 ^ Int.toNat 9) (by decide)
  have h2 := fmod_hi x (n := 10 ^ Int.toNat 9) (by decide)
  have h3 : (10 : Int) ^ Int.toNat 9 = 1000000000 := by decide
  rw [h3] at h2
  constructor
  · omega
  · rw [h3] at *; omega
theorem sh_facts (z : Int) : 0 ≤ z.fmod 9 ∧ z.fmod 9 < 9 := ⟨fmod_lo _ (by decide), fmod_hi _ (by decide)⟩
theorem words_gen {us : List Value} {ns : List Int} (h : IntsAre us (wordsOf ns)) : ∃ ws, IntsAre us ws ∧ 3 ≤ ws.length ∧ ws.length ≤ 5 ∧ ∀ k, 0 ≤ ws.getD k 0 ∧ ws.getD k 0 < 16 :=
  ⟨_, h, (words_len ns).1, (words_len ns).2, words_16 ns⟩
theorem z_gen {o : Obj} {x : Int} {t : Tok} (_d : o.data = .cell (some (.int ((1000 + x.fmod (10 ^ Int.toNat 9)).fmod 9) t))) : ∃ z, 1000 + x.fmod (10 ^ Int.toNat 9) = z ∧ 0 ≤ z ∧ z < 2 ^ 31 :=
  ⟨_, rfl, (z_facts x).1, (z_facts x).2⟩
/-- the places' strs: the i-th says i; their tokens rise, and are below the next -/
structure PlacesAt (ys : List Value) (i tk : Nat) : Prop where
  pos : 0 < tk
  len : ys.length = i
  at' : ∀ (k : Nat), k < i → ∃ t : Nat, ys[k]? = some (Value.str (decS k) t) ∧ 0 < t ∧ t < tk
  rise : ∀ (k l : Nat) (x y : Str) (t u : Nat), ys[k]? = some (Value.str x t) → ys[l]? = some (Value.str y u) → k < l → t < u
theorem PlacesAt.nil {tk : Nat} (h0 : 0 < tk) : PlacesAt [] 0 tk := ⟨h0, rfl, fun _ h => absurd h (Nat.not_lt_zero _), fun _ _ _ _ _ _ h => by simp at h⟩
theorem PlacesAt.mono {ys : List Value} {i a b : Nat} (h : PlacesAt ys i a) (hle : a ≤ b) : PlacesAt ys i b :=
  ⟨Nat.lt_of_lt_of_le h.pos hle, h.len, fun k hk => by obtain ⟨t, e, h1, h2⟩ := h.at' k hk; exact ⟨t, e, h1, Nat.lt_of_lt_of_le h2 hle⟩, h.rise⟩
theorem PlacesAt.snoc {ys : List Value} {i tk t tk' : Nat} (h : PlacesAt ys i tk) (h1 : tk ≤ t) (h2 : t < tk') : PlacesAt (ys ++ [Value.str (decS i) t]) (i + 1) tk' := by
  have hl := h.len
  have h0 : 0 < t := Nat.lt_of_lt_of_le h.pos h1
  refine ⟨by omega, by rw [List.length_append, hl]; rfl, fun k hk => ?_, fun k l x y t' u e1 e2 hkl => ?_⟩
  · by_cases hki : k < i
    · obtain ⟨t', e, a, b⟩ := h.at' k hki
      exact ⟨t', by rw [List.getElem?_append_left (by omega)]; exact e, a, by omega⟩
    · have : k = i := by omega
      subst this
      exact ⟨t, by rw [List.getElem?_append_right (by omega), hl]; simp, h0, h2⟩
  · have hkl2 : k < i := by
      by_cases hli : l < i
      · omega
      · have : l < (ys ++ [Value.str (decS i) t]).length := (List.getElem?_eq_some_iff.mp e2).1
        rw [List.length_append, hl] at this
        simp at this
        omega
    rw [List.getElem?_append_left (by omega)] at e1
    by_cases hli : l < i
    · rw [List.getElem?_append_left (by omega)] at e2
      exact h.rise k l x y t' u e1 e2 hkl
    · have : l < (ys ++ [Value.str (decS i) t]).length := (List.getElem?_eq_some_iff.mp e2).1
      rw [List.length_append, hl] at this
      simp at this
      have : l = i := by omega
      subst this
      rw [List.getElem?_append_right (by omega), hl] at e2
      simp at e2
      obtain ⟨t2, e3, _, b⟩ := h.at' k hkl2
      rw [e3] at e1
      simp at e1
      have e4 : @Eq Nat t2 t' := e1.2
      have e5 : @Eq Nat t u := e2.2
      omega
end Mine
namespace Mine
structure Base (w : World) (R : List (Addr × Obj)) (l B dx P W c4 c3 c2 c1 : Addr) (tb : Tok) (pv us : List Value) (sh : Int) : Prop where
  off : ∀ q ∈ R, q.1 ≠ l
  hB : (B, instObj 260 dx) ∈ R
  hdx : (dx, hdrDict w l tb) ∈ R
  hP : (P, LCg.lst pv) ∈ R
  hW : (W, LCg.lst us) ∈ R
  h4 : ∃ o, (c4, o) ∈ R ∧ o.data = .cell (some (.ref B))
  h3 : ∃ o, (c3, o) ∈ R ∧ o.data = .cell (some (.ref P))
  h2 : ∃ o t, (c2, o) ∈ R ∧ o.data = .cell (some (.int sh t))
  h1 : ∃ o, (c1, o) ∈ R ∧ o.data = .cell (some (.ref W))
theorem base_gen {h₀ h : Heap} {L : Addr} {w : World} {l B dx P W c4 c3 c2 c1 : Addr} {ob op os ow : Obj} {tb t : Tok} {pv us : List Value} {sh : Int}
    (N : News h₀ L h [(l, LCg.lst []), (B, instObj 260 dx), (dx, hdrDict w l tb), (P, LCg.lst pv), (W, LCg.lst us), (c4, ob), (c3, op), (c2, os), (c1, ow)])
    (l1 : @LT.lt Nat _ B l) (l2 : @LT.lt Nat _ dx B) (l3 : @LT.lt Nat _ P dx) (l4 : @LT.lt Nat _ W dx) (l5 : @LT.lt Nat _ c4 dx) (l6 : @LT.lt Nat _ c3 dx) (l7 : @LT.lt Nat _ c2 dx) (l8 : @LT.lt Nat _ c1 dx)
    (d4 : ob.data = .cell (some (.ref B))) (d3 : op.data = .cell (some (.ref P))) (d2 : os.data = .cell (some (.int sh t))) (d1 : ow.data = .cell (some (.ref W))) :
    ∃ R, News h₀ L h ((l, LCg.lst []) :: R) ∧ Base w R l B dx P W c4 c3 c2 c1 tb pv us sh := by
  refine ⟨_, N, ⟨?_, .head _, .tail _ (.head _), .tail _ (.tail _ (.head _)), .tail _ (.tail _ (.tail _ (.head _))), ⟨_, .tail _ (.tail _ (.tail _ (.tail _ (.head _)))), d4⟩, ⟨_, .tail _ (.tail _ (.tail _ (.tail _ (.tail _ (.head _))))), d3⟩, ⟨_, _, .tail _ (.tail _ (.tail _ (.tail _ (.tail _ (.tail _ (.head _)))))), d2⟩, ⟨_, .tail _ (.tail _ (.tail _ (.tail _ (.tail _ (.tail _ (.tail _ (.head _))))))), d1⟩⟩⟩
  intro q hq
  simp only [List.mem_cons, List.not_mem_nil, or_false] at hq
  show @Ne Nat _ _
  rcases hq with rfl | rfl | rfl | rfl | rfl | rfl | rfl | rfl <;> dsimp only <;> omega
theorem Base.mono {w : World} {R T : List (Addr × Obj)} {l B dx P W c4 c3 c2 c1 : Addr} {tb : Tok} {pv us : List Value} {sh : Int} (b : Base w R l B dx P W c4 c3 c2 c1 tb pv us sh) (s : ∀ q ∈ R, q ∈ T) (off : ∀ q ∈ T, q.1 ≠ l) : Base w T l B dx P W c4 c3 c2 c1 tb pv us sh := by
  obtain ⟨_, a, b', c, d, ⟨o4, e4, f4⟩, ⟨o3, e3, f3⟩, ⟨o2, t2, e2, f2⟩, ⟨o1, e1, f1⟩⟩ := b
  exact ⟨off, s _ a, s _ b', s _ c, s _ d, ⟨o4, s _ e4, f4⟩, ⟨o3, s _ e3, f3⟩, ⟨o2, t2, s _ e2, f2⟩, ⟨o1, s _ e1, f1⟩⟩
noncomputable def keyVal (h : Hdr) : Str × Value := (h.1.1, .str h.2.1 h.2.2)
noncomputable def bookOf (ws : List Int) (sh : Int) (pv : List Value) : Nat → List (Str × Value)
  | 0 => []
  | p + 1 => bookOf ws sh pv p ++ (spelled (ws.getD p 0), pv.getD p .none) :: (tellAll (ws.getD p 0 * 2 ^ sh.toNat)).map fun f => (f, pv.getD p .none)
/-- the book while it is filled -/
noncomputable def BookJ (w : World) (R : List (Addr × Obj)) (l B dx P W c4 c3 c2 c1 : Addr) (tb : Tok) (pv us : List Value) (ws : List Int) (sh : Int) (ks : List (Str × Value)) (nw : List (Addr × Obj)) : Prop :=
  ∃ T vs hs, nw = (l, LCg.lst vs) :: T ∧ Base w T l B dx P W c4 c3 c2 c1 tb pv us sh ∧ HdrsAre T vs hs ∧ hs.map keyVal = ks
theorem at_place {pv : List Value} {n tk : Nat} (h : PlacesAt pv n tk) {k : Nat} (hk : k < n) : ∃ t : Nat, pv[k]? = some (.str (decS k) t) ∧ pv.getD k .none = .str (decS k) t := by
  obtain ⟨t, e, _⟩ := h.at' k hk
  exact ⟨t, e, by rw [List.getD_eq_getElem?_getD, e]; rfl⟩
theorem tellAll_len (f : Int) : (tellAll f).length ≤ 12 := by
  unfold tellAll
  split
  · exact (by decide : (1 : Nat) ≤ 12)
  · exact tell_len f 12
theorem book_len (ws : List Int) (sh : Int) (pv : List Value) : ∀ i, (bookOf ws sh pv i).length ≤ 13 * i
  | 0 => Nat.le_refl _
  | i + 1 => by
    have h1 := book_len ws sh pv i
    have h2 := tellAll_len (ws.getD i 0 * 2 ^ sh.toNat)
    unfold bookOf
    rw [List.length_append, List.length_cons, List.length_map]
    omega
theorem news_swap {h₀ h : Heap} {L : Addr} {a b : Addr × Obj} {r : List (Addr × Obj)} (N : News h₀ L h (a :: b :: r)) : News h₀ L h (b :: a :: r) := fun p hp => N p (by
  simp only [List.mem_cons] at hp ⊢
  rcases hp with h | h | h
  · exact .inr (.inl h)
  · exact .inl h
  · exact .inr (.inr h))
theorem moved_of {x sh : Int} (h0 : 0 ≤ x) (h1 : x < 16) (h2 : 0 ≤ sh) (h3 : sh < 9) : Moved (x * 2 ^ sh.toNat) :=
  ⟨x.toNat, sh.toNat, by omega, by omega, by rw [Int.toNat_of_nonneg h0]⟩
/-- the book while a word's flags are laid into it -/
noncomputable def FlagJ (w : World) (I : Addr) (oI : Obj) (l B dx P W c4 c3 c2 c1 : Addr) (tb : Tok) (pv us : List Value) (sh : Int) (S : Addr) (oS : Obj) (ks : List (Str × Value)) (nw : List (Addr × Obj)) : Prop :=
  ∃ T vs hs, nw = (I, oI) :: (l, LCg.lst vs) :: T ∧ Base w T l B dx P W c4 c3 c2 c1 tb pv us sh ∧ HdrsAre T vs hs ∧ hs.map keyVal = ks ∧ (S, oS) ∈ T ∧ I ≠ l ∧ ∀ q ∈ T, q.1 ≠ I
theorem FlagJ.step {w : World} {I T1 : Addr} {oI : Obj} {l B dx P W c4 c3 c2 c1 : Addr} {tb t1 t2 : Tok} {pv us vs : List Value} {sh : Int} {S : Addr} {oS : Obj} {ks : List (Str × Value)} {T : List (Addr × Obj)} {hs : List Hdr} {k v : Str}
    (hb : Base w T l B dx P W c4 c3 c2 c1 tb pv us sh) (hH : HdrsAre T vs hs) (hks : hs.map keyVal = ks) (hS : (S, oS) ∈ T) (hIl : I ≠ l) (hT : ∀ q ∈ T, q.1 ≠ I) (h1 : T1 ≠ l) (h2 : T1 ≠ I) :
    FlagJ w I oI l B dx P W c4 c3 c2 c1 tb pv us sh S oS (ks ++ [(k, .str v t2)]) ((I, oI) :: (l, LCg.lst (vs ++ [Value.ref T1])) :: (T1, tupObj k v t1 t2) :: T) := by
  refine ⟨_, _, hs ++ [((k, t1), (v, t2))], rfl, hb.mono (fun q hq => .tail _ hq) ?_, (hH.mono fun q hq => .tail _ hq).app (.cons (.head _) .nil), by rw [List.map_append, hks]; rfl, .tail _ hS, hIl, ?_⟩
  · exact List.forall_mem_cons.mpr ⟨h1, hb.off⟩
  · exact List.forall_mem_cons.mpr ⟨h2, hT⟩
theorem FlagJ.start {w : World} {I T1 S : Addr} {oI oS : Obj} {l B dx P W c4 c3 c2 c1 : Addr} {tb t1 t2 : Tok} {pv us vs : List Value} {sh : Int} {ks : List (Str × Value)} {T : List (Addr × Obj)} {hs : List Hdr} {k v : Str}
    (hb : Base w T l B dx P W c4 c3 c2 c1 tb pv us sh) (hH : HdrsAre T vs hs) (hks : hs.map keyVal = ks) (hIl : I ≠ l) (hT : ∀ q ∈ T, q.1 ≠ I) (h1 : T1 ≠ l) (h2 : T1 ≠ I) (h3 : S ≠ l) (h4 : S ≠ I) :
    FlagJ w I oI l B dx P W c4 c3 c2 c1 tb pv us sh S oS (ks ++ [(k, .str v t2)]) ((I, oI) :: (l, LCg.lst (vs ++ [Value.ref T1])) :: (T1, tupObj k v t1 t2) :: (S, oS) :: T) :=
  FlagJ.step (hb.mono (fun q hq => .tail _ hq) (List.forall_mem_cons.mpr ⟨h3, hb.off⟩)) (hH.mono fun q hq => .tail _ hq) hks (.head _) hIl (List.forall_mem_cons.mpr ⟨h4, hT⟩) h1 h2
theorem news_start {h₀ h : Heap} {L : Addr} {a b c d : Addr × Obj} {r : List (Addr × Obj)} (N : News h₀ L h (a :: b :: c :: d :: r)) : News h₀ L h (d :: b :: c :: a :: r) := fun p hp => N p (by
  simp only [List.mem_cons] at hp ⊢
  rcases hp with h | h | h | h | h <;> simp [h])
theorem news_rot {h₀ h : Heap} {L : Addr} {a b c : Addr × Obj} {r : List (Addr × Obj)} (N : News h₀ L h (a :: b :: c :: r)) : News h₀ L h (c :: a :: b :: r) := fun p hp => N p (by
  simp only [List.mem_cons] at hp ⊢
  rcases hp with h | h | h | h <;> simp [h])
end Mine
namespace Mine
theorem clean_spelled (w : World) {x : Int} (h0 : 0 ≤ x) (h1 : x < 16) : Clean w (spelled x) := by
  rcases or16 h0 h1 with rfl | rfl | rfl | rfl | rfl | rfl | rfl | rfl | rfl | rfl | rfl | rfl | rfl | rfl | rfl | rfl <;> exact ⟨fun t => by kernel_rfl, fun t => by kernel_rfl⟩
theorem clean_dec (w : World) {k : Nat} (h : k < 5) : Clean w (decS k) := by
  rcases or5 h with rfl | rfl | rfl | rfl | rfl <;> exact ⟨fun t => by kernel_rfl, fun t => by kernel_rfl⟩
theorem clean_flag (w : World) {j : Nat} (h : j < 12) : Clean w (flagName (j : Int)) := by
  rcases or12 h with rfl | rfl | rfl | rfl | rfl | rfl | rfl | rfl | rfl | rfl | rfl | rfl <;> exact ⟨fun t => by kernel_rfl, fun t => by kernel_rfl⟩
theorem clean_low (w : World) {j : Nat} (h : j < 12) : Clean w (Txt.lower (Txt.lower (flagName (j : Int)))) := by
  rcases or12 h with rfl | rfl | rfl | rfl | rfl | rfl | rfl | rfl | rfl | rfl | rfl | rfl <;> exact ⟨fun t => by kernel_rfl, fun t => by kernel_rfl⟩
theorem clean_none (w : World) : Clean w (Str.ofString "0x0") := ⟨fun t => by kernel_rfl, fun t => by kernel_rfl⟩
theorem clean_abcd (w : World) : Clean w (Txt.lower (Str.ofString "ABCD")) := ⟨fun t => by kernel_rfl, fun t => by kernel_rfl⟩
theorem clean_0x0 (w : World) : Clean w (Txt.lower (Str.ofString "0X0")) := ⟨fun t => by kernel_rfl, fun t => by kernel_rfl⟩
theorem dec_len {k : Nat} (h : k < 5) : (decS k).length ≤ 14 := by
  rcases or5 h with rfl | rfl | rfl | rfl | rfl <;> decide +kernel
end Mine
namespace Mine
section SplitJoin
open Builtin.Str StrLaws
abbrev comSep : Str := Str.mk #[44, 32]
noncomputable def stepO (s sub : Str) (hi limit : Nat) (st : Array Nat × Nat) (i : Nat) : Array Nat × Nat :=
  if ((st.fst.size < limit ∧ st.snd ≤ i) ∧ i + sub.length ≤ hi) ∧ subAt s sub i = true then (st.fst.push i, i + sub.length) else st
theorem occ_fold (s sub : Str) (hi limit : Nat) : ∀ (l : List Nat) (st : Array Nat × Nat), (forIn l st (occBody s sub hi limit)).run = l.foldl (stepO s sub hi limit) st
  | [], _ => rfl
  | a :: l, st => by
    rw [List.forIn_cons, List.foldl_cons]
    unfold occBody
    split
    · rename_i hc
      rw [show stepO s sub hi limit st a = (st.fst.push a, a + sub.length) from if_pos hc]
      exact occ_fold s sub hi limit l _
    · rename_i hc
      rw [show stepO s sub hi limit st a = st from if_neg hc]
      exact occ_fold s sub hi limit l _
theorem fold_skip (s sub : Str) (hi limit : Nat) : ∀ (l : List Nat) (st : Array Nat × Nat), (∀ i ∈ l, ¬ (i + sub.length ≤ hi ∧ subAt s sub i = true)) → l.foldl (stepO s sub hi limit) st = st
  | [], _, _ => rfl
  | a :: l, st, h => by
    rw [List.foldl_cons, show stepO s sub hi limit st a = st from if_neg fun hc => h a (.head _) ⟨hc.1.2, hc.2⟩]
    exact fold_skip s sub hi limit l st fun i hi => h i (.tail _ hi)
noncomputable def cutsFrom : Nat → List Str → List Nat
  | _, [] => []
  | _, [_] => []
  | p, w :: v :: r => (p + w.length) :: cutsFrom (p + w.length + 2) (v :: r)
noncomputable def joinC : List Str → List Nat
  | [] => []
  | [w] => w.cps.toList
  | w :: v :: r => w.cps.toList ++ 44 :: 32 :: joinC (v :: r)
theorem join_chars : ∀ ws : List Str, (Str.join comSep ws).cps.toList = joinC ws
  | [] => rfl
  | [w] => rfl
  | w :: v :: r => by
    show (w ++ comSep ++ Str.join comSep (v :: r)).cps.toList = _
    rw [Str.cps_append, Str.cps_append, Array.toList_append, Array.toList_append, join_chars (v :: r), List.append_assoc]
    rfl
theorem at_iff {x : Str} {i : Nat} : subAt x comSep i = true ↔ (x.cps.toList.drop i).take 2 = [44, 32] := by
  rw [subAt_eq]
  exact beq_iff_eq
theorem no_at {x : Str} {i c : Nat} {r : List Nat} (h : x.cps.toList.drop i = c :: r) (hc : c ≠ 44) : ¬ (i + comSep.length ≤ x.length ∧ subAt x comSep i = true) := by
  rintro ⟨_, h2⟩
  rw [at_iff, h] at h2
  cases r with
  | nil => cases h2
  | cons d r => rw [List.take_succ_cons] at h2; exact hc (List.cons.inj h2).1
theorem len_eq (x : Str) : x.length = x.cps.toList.length := by simp [Str.length]
/-- no cut within a word -/
theorem skip_word {x w : Str} {p : Nat} {rest : List Nat} (h : x.cps.toList.drop p = w.cps.toList ++ rest) (hw : ∀ c ∈ w.cps.toList, c ≠ 44) :
    ∀ i ∈ List.range' p w.length, ¬ (i + comSep.length ≤ x.length ∧ subAt x comSep i = true) := by
  intro i hi
  obtain ⟨k, hk, rfl⟩ := List.mem_range'.mp hi
  rw [Nat.one_mul]
  have hkl : k < w.cps.toList.length := by rw [← len_eq]; exact hk
  have e : x.cps.toList.drop (p + k) = w.cps.toList[k] :: (w.cps.toList.drop (k + 1) ++ rest) := by
    rw [← List.drop_drop, h, List.drop_append_of_le_length (Nat.le_of_lt hkl), List.drop_eq_getElem_cons hkl]
    rfl
  exact no_at e (hw _ (List.getElem_mem hkl))
theorem cuts_run (x : Str) (hi : Nat) (hhi : hi = x.length) : ∀ (ws : List Str) (p : Nat) (st : Array Nat × Nat), ws ≠ [] → (∀ w ∈ ws, ∀ c ∈ w.cps.toList, c ≠ 44) → x.cps.toList.drop p = joinC ws → p ≤ hi → st.2 ≤ p → st.1.size ≤ p →
    ((List.range' p (hi + 1 - p)).foldl (stepO x comSep hi (hi + 1)) st).1.toList = st.1.toList ++ cutsFrom p ws
  | [], _, _, h, _, _, _, _, _ => absurd rfl h
  | [w], p, st, _, hw, hd, hp, hf, hs => by
    subst hhi
    have hd' : x.cps.toList.drop p = w.cps.toList ++ [] := by rw [hd, List.append_nil]; rfl
    have hl : x.length - p = w.length := by
      have := congrArg List.length hd'
      rw [List.length_drop, List.append_nil, ← len_eq, ← len_eq] at this
      exact this
    have hskip := skip_word hd' (hw w (.head _))
    rw [show x.length + 1 - p = w.length + 1 by omega, List.range'_concat, List.foldl_append, fold_skip _ _ _ _ _ _ hskip]
    rw [fold_skip _ _ _ _ [p + 1 * w.length] _ ?_]
    · show _ = _ ++ []
      rw [List.append_nil]
    · intro i hi
      rw [List.mem_singleton.mp hi]
      rintro ⟨h1, _⟩
      have : comSep.length = 2 := rfl
      omega
  | w :: v :: r, p, st, _, hw, hd, hp, hf, hs => by
    have hd' : x.cps.toList.drop p = w.cps.toList ++ (44 :: 32 :: joinC (v :: r)) := hd
    have hl : x.length - p = w.length + ((joinC (v :: r)).length + 2) := by
      have := congrArg List.length hd'
      rw [List.length_drop, List.length_append, ← len_eq, ← len_eq] at this
      simpa using this
    have hcl : comSep.length = 2 := rfl
    have hskip := skip_word hd' (hw w (.head _))
    have d1 : x.cps.toList.drop (p + w.length) = 44 :: 32 :: joinC (v :: r) := by
      rw [← List.drop_drop, hd', len_eq, List.drop_left]
    have d2 : x.cps.toList.drop (p + w.length + 1) = 32 :: joinC (v :: r) := by
      rw [← List.drop_drop, d1]; rfl
    have d3 : x.cps.toList.drop (p + w.length + 2) = joinC (v :: r) := by
      rw [← List.drop_drop, d1]; rfl
    have hat : subAt x comSep (p + w.length) = true := by rw [at_iff, d1]; rfl
    have ih := cuts_run x hi hhi (v :: r) (p + w.length + 2) (st.1.push (p + w.length), p + w.length + 2) (by simp) (fun u hu => hw u (.tail _ hu)) d3 (by omega) (Nat.le_refl _) (by rw [Array.size_push]; omega)
    rw [show hi + 1 - p = w.length + (hi + 1 - (p + w.length)) by omega, ← List.range'_append_1, List.foldl_append]
    rw [show hi + 1 - (p + w.length) = (hi + 1 - (p + w.length + 2)) + 1 + 1 by omega, List.range'_succ, List.foldl_cons, List.range'_succ, List.foldl_cons]
    have hsk : (List.range' p w.length).foldl (stepO x comSep hi (hi + 1)) st = st := fold_skip _ _ _ _ _ _ (by rw [hhi]; exact hskip)
    rw [hsk]
    have s1 : stepO x comSep hi (hi + 1) st (p + w.length) = (st.1.push (p + w.length), p + w.length + 2) := by
      unfold stepO
      rw [if_pos ⟨⟨⟨by omega, by omega⟩, by omega⟩, hat⟩]
      rfl
    rw [s1]
    have s2 : stepO x comSep hi (hi + 1) (st.1.push (p + w.length), p + w.length + 2) (p + w.length + 1) = (st.1.push (p + w.length), p + w.length + 2) := by
      unfold stepO
      rw [if_neg]
      rintro ⟨⟨⟨_, h2⟩, _⟩, _⟩
      dsimp only at h2
      omega
    rw [s2, ih, Array.toList_push, List.append_assoc]
    rfl
theorem parts_run (x : Str) : ∀ (ws : List Str) (p : Nat), ws ≠ [] → x.cps.toList.drop p = joinC ws → partsFrom x 2 p (cutsFrom p ws) = ws
  | [], _, h, _ => absurd rfl h
  | [w], p, _, hd => by
    show [strSub x p x.length] = [w]
    congr 1
    apply Str.ext'
    apply Array.toList_inj.mp
    rw [strSub_toList, hd]
    refine List.take_of_length_le ?_
    have := congrArg List.length hd
    rw [List.length_drop, ← len_eq] at this
    rw [← this]
    exact Nat.le_refl _
  | w :: v :: r, p, _, hd => by
    have hd' : x.cps.toList.drop p = w.cps.toList ++ (44 :: 32 :: joinC (v :: r)) := hd
    have d3 : x.cps.toList.drop (p + w.length + 2) = joinC (v :: r) := by
      rw [Nat.add_assoc, ← List.drop_drop, hd', ← List.drop_drop, len_eq, List.drop_left]; rfl
    show strSub x p (p + w.length) :: partsFrom x 2 (p + w.length + 2) (cutsFrom (p + w.length + 2) (v :: r)) = _
    rw [parts_run x (v :: r) _ (by simp) d3]
    congr 1
    apply Str.ext'
    apply Array.toList_inj.mp
    rw [strSub_toList, hd', Nat.add_sub_cancel_left, len_eq, List.take_left]
theorem split_join {ws : List Str} (hne : ws ≠ []) (hw : ∀ w ∈ ws, ∀ c ∈ w.cps.toList, c ≠ 44) : Txt.split (Txt.join comSep ws) comSep = ws := by
  obtain ⟨x, hx⟩ : ∃ x, Txt.join comSep ws = x := ⟨_, rfl⟩
  rw [hx]
  have hc : x.cps.toList.drop 0 = joinC ws := by
    rw [List.drop_zero, ← hx]
    show (glued comSep ws).cps.toList = _
    rw [glued_eq_join, join_chars]
  have hocc : occurrences x comSep 0 x.length (x.length + 1) = cutsFrom 0 ws := by
    rw [occ_eq, occ_fold, cuts_run x x.length rfl ws 0 (#[], 0) hne hw hc (Nat.zero_le _) (Nat.le_refl _) (Nat.le_refl _)]
    rfl
  have hparts := parts_run x ws 0 hne hc
  have hk : ¬ Builtin.Str.strKind x < Builtin.Str.strKind comSep := by
    have : Builtin.Str.strKind comSep = 1 := by decide +kernel
    rw [this]
    unfold Builtin.Str.strKind
    split
    · omega
    · split <;> omega
  unfold Txt.split
  match ws, hne, hc, hocc, hparts with
  | [w], _, hc, hocc, hparts =>
    have e : x = w := Str.ext' (Array.toList_inj.mp hc)
    split
    · rw [e]
    · rw [hocc, if_pos (by rfl), e]
  | w :: v :: r, _, hc, hocc, hparts =>
    have hl : 2 ≤ x.length := by
      have := congrArg List.length hc
      rw [List.drop_zero, ← len_eq] at this
      rw [this]
      show 2 ≤ (w.cps.toList ++ 44 :: 32 :: joinC (v :: r)).length
      rw [List.length_append]
      simp
      omega
    rw [if_neg, hocc, if_neg, partsBetween_eq]
    · exact hparts
    · exact fun h => by cases h
    · intro h
      rcases Bool.or_eq_true_iff.mp h with h | h
      · have := of_decide_eq_true h
        have : comSep.length = 2 := rfl
        omega
      · exact hk (of_decide_eq_true h)
end SplitJoin
end Mine
namespace Mine
/-- the flags' places in place of their names: 12 stands for none -/
noncomputable def nameOf (i : Nat) : Str := if i = 12 then baseText "0x" 16 0 else flagName (i : Int)
noncomputable def tellIdx (f : Int) : List Nat := if f = 0 then [12] else (List.range 12).filter fun (j : Nat) => f / 2 ^ j % 2 == 1
theorem tell_idx (f : Int) : tellAll f = (tellIdx f).map nameOf := by
  unfold tellAll tellIdx
  by_cases h : f = 0
  · rw [if_pos h, if_pos h]; rfl
  · rw [if_neg h, if_neg h]
    refine List.map_congr_left fun j hj => ?_
    have := List.mem_range.mp (List.mem_filter.mp hj).1
    unfold nameOf
    rw [if_neg (by omega)]
theorem idx_lt (f : Int) : ∀ i ∈ tellIdx f, i < 13 := by
  intro i hi
  unfold tellIdx at hi
  split at hi
  · rw [List.mem_singleton.mp hi]; decide
  · have := List.mem_range.mp (List.mem_filter.mp hi).1
    omega
theorem name_none : baseText "0x" 16 0 = Str.ofString "0x0" := by decide +kernel
theorem name_tab : ((List.range 13).all fun i => (nameOf i).cps.toList.all fun c => c != 44) = true := by kernel_rfl
theorem tell_nocom (f : Int) : ∀ y ∈ tellAll f, ∀ c ∈ y.cps.toList, c ≠ 44 := by
  intro y hy c hc
  rw [tell_idx] at hy
  obtain ⟨i, hi, rfl⟩ := List.mem_map.mp hy
  have h := List.all_eq_true.mp name_tab i (List.mem_range.mpr (idx_lt f i hi))
  simpa using List.all_eq_true.mp h c hc
noncomputable def dueIdx (x : Nat) : List Nat := (List.range 4).filter fun (k : Nat) => decide (Builtin.bitAnd ((x : Int).fdiv (2 ^ (0 + (k : Int)).toNat)) 1 ≠ 0)
noncomputable def idxOk (x s : Nat) : Bool :=
  let f : Int := (x : Int) * 2 ^ s
  if f = 0 then dueIdx x == [] else !(dueIdx x == []) && (tellIdx f == (dueIdx x).map (s + ·))
theorem idx_all : ((List.range 16).all fun x => (List.range 9).all fun s => idxOk x s) = true := by kernel_rfl
theorem idx_ok {x s : Nat} (hx : x < 16) (hs : s < 9) : idxOk x s = true := by
  have h := List.all_eq_true.mp idx_all x (List.mem_range.mpr hx)
  exact List.all_eq_true.mp h s (List.mem_range.mpr hs)
theorem flagsTo_idx (x s : Nat) : flagsTo (x : Int) (s : Int) 4 = ((dueIdx x).map (s + ·)).map fun (j : Nat) => flagName (j : Int) := by
  unfold flagsTo dueIdx
  rw [List.map_map]
  refine List.map_congr_left fun k _ => ?_
  show flagName ((s : Int) + (0 + (k : Int))) = flagName ((s + k : Nat) : Int)
  congr 1
  omega
theorem tell_due {x s : Nat} (hx : x < 16) (hs : s < 9) : tellAll ((x : Int) * 2 ^ s) = flagsDue (x : Int) (s : Int) := by
  have h := idx_ok hx hs
  unfold idxOk at h
  dsimp only at h
  unfold flagsDue
  rw [flagsTo_idx]
  by_cases hf : (x : Int) * 2 ^ s = 0
  · rw [if_pos hf] at h
    rw [hf, beq_iff_eq.mp h, List.map_nil, List.map_nil, if_pos rfl, ← name_none]
    rfl
  · rw [if_neg hf, Bool.and_eq_true] at h
    have h1 : dueIdx x ≠ [] := fun e => by rw [e] at h; exact absurd h.1 (by decide)
    have h2 := beq_iff_eq.mp h.2
    rw [if_neg (fun e => h1 (List.map_eq_nil_iff.mp (List.map_eq_nil_iff.mp e))), ← h2]
    unfold tellAll tellBits
    rw [if_neg hf]
    unfold tellIdx
    rw [if_neg hf]
theorem due_ne (x s : Int) : flagsDue x s ≠ [] := by
  unfold flagsDue
  split
  · exact fun h => by cases h
  · assumption
theorem name_len : ((List.range 13).all fun i => decide ((nameOf i).length ≤ 20)) = true := by kernel_rfl
theorem tell_short (f : Int) : (Txt.join (Str.ofString ", ") (tellAll f)).length ≤ 1000 := by
  have h1 : ∀ y ∈ tellAll f, y.length ≤ 20 := by
    intro y hy
    rw [tell_idx] at hy
    obtain ⟨i, hi, rfl⟩ := List.mem_map.mp hy
    exact of_decide_eq_true (List.all_eq_true.mp name_len i (List.mem_range.mpr (idx_lt f i hi)))
  have h2 : (tellAll f).length ≤ 13 := by
    rw [tell_idx, List.length_map]
    unfold tellIdx
    split
    · decide
    · exact Nat.le_trans (List.length_filter_le _ _) (by decide)
  have h3 := sum_le h1
  have h4 : (Txt.join (Str.ofString ", ") (tellAll f)).length ≤ ((tellAll f).map (·.length)).sum + (tellAll f).length * (Str.ofString ", ").length := by
    show (Builtin.Str.glued _ _).length ≤ _
    rw [StrLaws.glued_eq_join]
    exact StrLaws.join_length_le _ _
  have h5 : (Str.ofString ", ").length = 2 := by decide +kernel
  rw [h5] at h4
  omega
theorem tell_ok {x sh : Int} (h0 : 0 ≤ x) (h1 : x < 16) (h2 : 0 ≤ sh) (h3 : sh < 9) :
    Txt.split (Txt.join (Str.ofString ", ") (tellAll (x * 2 ^ sh.toNat))) (Str.ofString ", ") = tellAll (x * 2 ^ sh.toNat) ∧ (Txt.join (Str.ofString ", ") (tellAll (x * 2 ^ sh.toNat))).length ≤ 1000 ∧ tellAll (x * 2 ^ sh.toNat) = flagsDue x sh := by
  have e : tellAll (x * 2 ^ sh.toNat) = flagsDue x sh := by
    have h := tell_due (x := x.toNat) (s := sh.toNat) (by omega) (by omega)
    rw [Int.toNat_of_nonneg h0, Int.toNat_of_nonneg h2] at h
    exact h
  refine ⟨?_, tell_short _, e⟩
  rw [show Str.ofString ", " = comSep by decide +kernel]
  exact split_join (by rw [e]; exact due_ne _ _) (tell_nocom _)
theorem tell_clean (w : World) (f : Int) : ∀ y ∈ tellAll f, Clean w y := by
  intro y hy
  unfold tellAll at hy
  split at hy
  · rw [List.mem_singleton.mp hy]
    exact name_none ▸ clean_none w
  · obtain ⟨j, hj, rfl⟩ := List.mem_map.mp hy
    exact clean_flag w (List.mem_range.mp (List.mem_filter.mp hj).1)
end Mine
namespace Mine
theorem txt_of (h : Hdr) : hdrTxt h = ((keyVal h).1, strOf (keyVal h).2) := rfl
theorem book_due {ws : List Int} {sh : Int} {pv : List Value} {n tk : Nat} (hs0 : 0 ≤ sh) (hs9 : sh < 9) (h16 : ∀ k, 0 ≤ ws.getD k 0 ∧ ws.getD k 0 < 16) (hc : PlacesAt pv n tk) :
    ∀ i, i ≤ n → (bookOf ws sh pv i).map (fun p => (p.1, strOf p.2)) = dueOf ws sh i
  | 0, _ => rfl
  | i + 1, hi => by
    have ih := book_due hs0 hs9 h16 hc i (by omega)
    obtain ⟨t, _, e⟩ := at_place hc (by omega : i < n)
    have ht := (tell_ok (h16 i).1 (h16 i).2 hs0 hs9).2.2
    unfold bookOf dueOf
    rw [List.map_append, ih, List.map_cons, List.map_map, ht, e]
    rfl
theorem book_txt {ws : List Int} {sh : Int} {pv : List Value} {n tk : Nat} {hs : List Hdr} (hs0 : 0 ≤ sh) (hs9 : sh < 9) (h16 : ∀ k, 0 ≤ ws.getD k 0 ∧ ws.getD k 0 < 16) (hc : PlacesAt pv n tk) (hk : hs.map keyVal = bookOf ws sh pv n) : hs.map hdrTxt = dueOf ws sh n := by
  rw [← book_due hs0 hs9 h16 hc n (Nat.le_refl _), ← hk, List.map_map]; rfl
theorem spelled_ok {x : Int} (h0 : 0 ≤ x) (h1 : x < 16) : PyData.strOk (spelled x) = true := by
  rcases or16 h0 h1 with rfl | rfl | rfl | rfl | rfl | rfl | rfl | rfl | rfl | rfl | rfl | rfl | rfl | rfl | rfl | rfl <;> decide +kernel
theorem dec_ok {k : Nat} (h : k < 5) : PyData.strOk (decS k) = true := by
  rcases or5 h with rfl | rfl | rfl | rfl | rfl <;> decide +kernel
theorem due_ok {ws : List Int} {sh : Int} (hs0 : 0 ≤ sh) (hs9 : sh < 9) (h16 : ∀ k, 0 ≤ ws.getD k 0 ∧ ws.getD k 0 < 16) : ∀ i, i ≤ 5 → ∀ p ∈ dueOf ws sh i, PyData.strOk p.1 = true ∧ PyData.strOk p.2 = true
  | 0, _ => fun p hp => by cases hp
  | i + 1, hi => fun p hp => by
    unfold dueOf at hp
    rcases List.mem_append.mp hp with hp | hp
    · exact due_ok hs0 hs9 h16 i (by omega) p hp
    · rcases List.mem_cons.mp hp with rfl | hp
      · exact ⟨spelled_ok (h16 i).1 (h16 i).2, dec_ok (by omega)⟩
      · obtain ⟨f, hf, rfl⟩ := List.mem_map.mp hp
        refine ⟨?_, dec_ok (by omega)⟩
        unfold flagsDue at hf
        split at hf
        · rw [List.mem_singleton.mp hf]; exact (by decide +kernel : PyData.strOk (Str.ofString "0x0") = true)
        · exact flagsTo_ok hs0 hs9 f hf
end Mine
namespace Mine
noncomputable def cnt (nm : Str) (x sh : Int) : Nat := ((spelled x :: tellAll (x * 2 ^ sh.toNat)).filter fun f => Txt.lower f == Txt.lower nm).length
noncomputable def selOf (c : Int → Bool) (ws : List Int) (pv : List Value) : Nat → List Value
  | 0 => []
  | i + 1 => selOf c ws pv i ++ (if c (ws.getD i 0) = true then [pv.getD i .none] else [])
theorem filt_rep (P : Str → Bool) (v : Value) : ∀ l : List Str, ((l.map fun f => (f, v)).filter fun p => P p.1).map (·.2) = List.replicate (l.filter P).length v
  | [] => rfl
  | f :: r => by
    have ih := filt_rep P v r
    rw [List.map_cons, List.filter_cons, List.filter_cons]
    cases h : P f
    · rw [if_neg (by simp [h]), if_neg (by simp)]; exact ih
    · rw [if_pos (by simp [h]), if_pos (by simp), List.map_cons, ih, List.length_cons, List.replicate_succ]
theorem book_sel {nm : Str} {c : Int → Bool} {ws : List Int} {sh : Int} {pv : List Value} (hc : ∀ k, cnt nm (ws.getD k 0) sh = if c (ws.getD k 0) = true then 1 else 0) :
    ∀ i, ((bookOf ws sh pv i).filter fun p => Txt.lower p.1 == Txt.lower nm).map (·.2) = selOf c ws pv i
  | 0 => rfl
  | i + 1 => by
    have ih := book_sel (pv := pv) hc i
    have e : (spelled (ws.getD i 0), pv.getD i .none) :: (tellAll (ws.getD i 0 * 2 ^ sh.toNat)).map (fun f => (f, pv.getD i .none)) = (spelled (ws.getD i 0) :: tellAll (ws.getD i 0 * 2 ^ sh.toNat)).map fun f => (f, pv.getD i .none) := rfl
    unfold bookOf selOf
    rw [List.filter_append, List.map_append, ih, e, filt_rep (fun f => Txt.lower f == Txt.lower nm)]
    have hk := hc i
    unfold cnt at hk
    rw [hk]
    by_cases h : c (ws.getD i 0) = true
    · rw [if_pos h, if_pos h]; rfl
    · rw [if_neg h, if_neg h]; rfl
theorem sel_hdr (nm : Str) (hs : List Hdr) : hdrSel nm hs = ((hs.map keyVal).filter fun p => Txt.lower p.1 == Txt.lower nm).map (·.2) := by
  unfold hdrSel
  rw [List.filter_map, List.map_map]; rfl
theorem hdr_sel {nm : Str} {c : Int → Bool} {ws : List Int} {sh : Int} {pv : List Value} {hs : List Hdr} {n : Nat} (hc : ∀ k, cnt nm (ws.getD k 0) sh = if c (ws.getD k 0) = true then 1 else 0) (hk : hs.map keyVal = bookOf ws sh pv n) : hdrSel nm hs = selOf c ws pv n := by
  rw [sel_hdr, hk, book_sel hc]
noncomputable def bitB (k : Nat) (x : Int) : Bool := Builtin.bitAnd (x.fdiv (2 ^ (k : Int).toNat)) 1 != 0
/-- the names in small letters, written out -/
noncomputable def lowL : List Str := [Str.mk #[111, 112, 116, 105, 109, 105, 122, 101, 100], Str.mk #[110, 101, 119, 108, 111, 99, 97, 108, 115], Str.mk #[118, 97, 114, 97, 114, 103, 115], Str.mk #[118, 97, 114, 107, 101, 121, 119, 111, 114, 100, 115], Str.mk #[110, 101, 115, 116, 101, 100], Str.mk #[103, 101, 110, 101, 114, 97, 116, 111, 114], Str.mk #[110, 111, 102, 114, 101, 101], Str.mk #[99, 111, 114, 111, 117, 116, 105, 110, 101], Str.mk #[105, 116, 101, 114, 97, 98, 108, 101, 95, 99, 111, 114, 111, 117, 116, 105, 110, 101], Str.mk #[97, 115, 121, 110, 99, 95, 103, 101, 110, 101, 114, 97, 116, 111, 114], Str.mk #[48, 120, 52, 48, 48], Str.mk #[48, 120, 56, 48, 48], Str.mk #[48, 120, 48]]
theorem low_lit : (List.range 13).map (fun i => Txt.lower (nameOf i)) = lowL := by kernel_rfl
theorem low_twice : lowL.map Txt.lower = lowL := by kernel_rfl
theorem get_map (f : Nat → Str) {n i : Nat} (h : i < n) : ((List.range n).map f).getD i Str.empty = f i := by
  rw [List.getD_eq_getElem?_getD, List.getElem?_map, List.getElem?_range h]; rfl
theorem low_get {i : Nat} (h : i < 13) : Txt.lower (nameOf i) = lowL.getD i Str.empty := by rw [← low_lit, get_map (fun i => Txt.lower (nameOf i)) h]
theorem low_get2 {i : Nat} (h : i < 13) : Txt.lower (lowL.getD i Str.empty) = lowL.getD i Str.empty := by
  have hl : i < lowL.length := h
  have : (lowL.map Txt.lower).getD i Str.empty = Txt.lower (lowL.getD i Str.empty) := by
    rw [List.getD_eq_getElem?_getD, List.getD_eq_getElem?_getD, List.getElem?_map, List.getElem?_eq_getElem hl]; rfl
  rw [← this, low_twice]
abbrev abcdL : Str := Str.mk #[97, 98, 99, 100]
theorem eq_tab : ((List.range 13).all fun i => (List.range 13).all fun j => (lowL.getD i Str.empty == lowL.getD j Str.empty) == (i == j)) = true := by kernel_rfl
theorem abcd_tab : ((List.range 13).all fun i => (lowL.getD i Str.empty == abcdL) == false && (abcdL == lowL.getD i Str.empty) == false) = true := by kernel_rfl
theorem sp_tab : ((List.range 16).all fun (x : Nat) => Txt.lower (spelled (x : Int)) == abcdL) = true := by kernel_rfl
theorem cnt_lem {nm K : Str} (hK : Txt.lower nm = K) {x sh : Int} (h0 : 0 ≤ x) (h1 : x < 16) :
    cnt nm x sh = (if abcdL == K then 1 else 0) + ((tellIdx (x * 2 ^ sh.toNat)).filter fun i => lowL.getD i Str.empty == K).length := by
  have hs : Txt.lower (spelled x) = abcdL := by
    have h := List.all_eq_true.mp sp_tab x.toNat (List.mem_range.mpr (by omega))
    rw [Int.toNat_of_nonneg h0] at h
    exact beq_iff_eq.mp h
  have hm : ((tellAll (x * 2 ^ sh.toNat)).filter fun f => Txt.lower f == K).length = ((tellIdx (x * 2 ^ sh.toNat)).filter fun i => lowL.getD i Str.empty == K).length := by
    rw [tell_idx, List.filter_map, List.length_map]
    congr 1
    refine List.filter_congr fun i hi => ?_
    show (Txt.lower (nameOf i) == K) = _
    rw [low_get (idx_lt _ i hi)]
  unfold cnt
  rw [hK, List.filter_cons, hs, ← hm]
  cases abcdL == K
  · rw [if_neg Bool.false_ne_true, if_neg Bool.false_ne_true, Nat.zero_add]
  · rw [if_pos rfl, if_pos rfl, List.length_cons, Nat.add_comm]
theorem cnt_idx {x sh : Int} (h0 : 0 ≤ x) (h1 : x < 16) {nm : Str} {j : Nat} (hj : j < 13) (hK : Txt.lower nm = lowL.getD j Str.empty) :
    cnt nm x sh = ((tellIdx (x * 2 ^ sh.toNat)).filter fun i => i == j).length := by
  have ha := List.all_eq_true.mp abcd_tab j (List.mem_range.mpr hj)
  rw [Bool.and_eq_true] at ha
  rw [cnt_lem hK h0 h1, beq_iff_eq.mp ha.2, if_neg Bool.false_ne_true, Nat.zero_add]
  congr 1
  refine List.filter_congr fun i hi => ?_
  exact beq_iff_eq.mp (List.all_eq_true.mp (List.all_eq_true.mp eq_tab i (List.mem_range.mpr (idx_lt _ i hi))) j (List.mem_range.mpr hj))
noncomputable def cntOk (x s : Nat) : Bool :=
  let l := tellIdx ((x : Int) * 2 ^ s)
  (l.filter fun i => i == 12).length == (if (x : Int) == 0 then 1 else 0) && (List.range 4).all fun (k : Nat) => (l.filter fun i => i == s + k).length == (if bitB k x then 1 else 0)
theorem cnt_all : ((List.range 16).all fun x => (List.range 9).all fun s => cntOk x s) = true := by kernel_rfl
theorem cnt_ok {x sh : Int} (h0 : 0 ≤ x) (h1 : x < 16) (h2 : 0 ≤ sh) (h3 : sh < 9) :
    cnt (Str.ofString "ABCD") x sh = 1 ∧ (cnt (Str.ofString "0X0") x sh = if (x == 0) = true then 1 else 0) ∧ ∀ k : Nat, k < 4 → cnt (Txt.lower (flagName (sh + (k : Int)))) x sh = if bitB k x = true then 1 else 0 := by
  have h := List.all_eq_true.mp cnt_all x.toNat (List.mem_range.mpr (by omega))
  have h := List.all_eq_true.mp h sh.toNat (List.mem_range.mpr (by omega))
  unfold cntOk at h
  rw [Int.toNat_of_nonneg h0] at h
  dsimp only at h
  rw [Bool.and_eq_true] at h
  refine ⟨?_, ?_, fun k hk => ?_⟩
  · rw [cnt_lem (show Txt.lower (Str.ofString "ABCD") = abcdL by decide +kernel) h0 h1, if_pos (beq_self_eq_true _)]
    have : (tellIdx (x * 2 ^ sh.toNat)).filter (fun i => lowL.getD i Str.empty == abcdL) = [] := by
      refine List.filter_eq_nil_iff.mpr fun i hi he => ?_
      have ha := List.all_eq_true.mp abcd_tab i (List.mem_range.mpr (idx_lt _ i hi))
      rw [Bool.and_eq_true, he] at ha
      exact absurd ha.1 (by decide)
    rw [this]; rfl
  · rw [cnt_idx h0 h1 (j := 12) (by decide) (by decide +kernel)]
    have := h.1
    simpa using this
  · have hj : sh.toNat + k < 13 := by omega
    have hn : Txt.lower (Txt.lower (flagName (sh + (k : Int)))) = lowL.getD (sh.toNat + k) Str.empty := by
      have e : flagName (sh + (k : Int)) = nameOf (sh.toNat + k) := by
        unfold nameOf
        rw [if_neg (by omega)]
        congr 1
        omega
      rw [e, low_get hj, low_get2 hj]
    rw [cnt_idx h0 h1 hj hn]
    have := List.all_eq_true.mp h.2 k (List.mem_range.mpr hk)
    simpa using this
theorem sel_all {ws : List Int} {pv : List Value} {n tk : Nat} (hc : PlacesAt pv n tk) : ∀ i, i ≤ n → selOf (fun _ => true) ws pv i = pv.take i
  | 0, _ => by simp [selOf]
  | i + 1, hi => by
    obtain ⟨t, e, g⟩ := at_place hc (by omega : i < n)
    unfold selOf
    rw [sel_all hc i (by omega), if_pos rfl, g, List.take_add_one, e]; rfl
theorem sel_mem {c : Int → Bool} {ws : List Int} {pv : List Value} {n tk : Nat} (hc : PlacesAt pv n tk) : ∀ i, i ≤ n → ∀ v ∈ selOf c ws pv i, v ∈ pv
  | 0, _ => fun v hv => by cases hv
  | i + 1, hi => fun v hv => by
    obtain ⟨t, e, g⟩ := at_place hc (by omega : i < n)
    unfold selOf at hv
    rcases List.mem_append.mp hv with hv | hv
    · exact sel_mem hc i (by omega) v hv
    · split at hv
      · rw [List.mem_singleton.mp hv, g]; exact List.mem_of_getElem? e
      · cases hv
theorem sel_len (c : Int → Bool) (ws : List Int) (pv : List Value) : ∀ i, (selOf c ws pv i).length ≤ i
  | 0 => Nat.le_refl _
  | i + 1 => by
    have := sel_len c ws pv i
    unfold selOf
    rw [List.length_append]
    split <;> simp <;> omega
theorem places_str {pv : List Value} {n tk : Nat} (hc : PlacesAt pv n tk) : AllStr pv := by
  intro v hv
  obtain ⟨i, hi, e⟩ := List.mem_iff_getElem.mp hv
  obtain ⟨t, e2, _⟩ := hc.at' i (by rw [← hc.len]; exact hi)
  rw [List.getElem?_eq_getElem hi, e] at e2
  exact ⟨_, _, Option.some.inj e2⟩
theorem places_ok {pv : List Value} {n tk : Nat} (hn : n ≤ 5) (hc : PlacesAt pv n tk) : ∀ v ∈ pv, PyData.strOk (strOf v) = true := by
  intro v hv
  obtain ⟨i, hi, e⟩ := List.mem_iff_getElem.mp hv
  have hin : i < n := by rw [← hc.len]; exact hi
  obtain ⟨t, e2, _⟩ := hc.at' i hin
  rw [List.getElem?_eq_getElem hi, e] at e2
  rw [Option.some.inj e2]
  exact dec_ok (by omega)
theorem strOf_ok {vs : List Value} (h : ∀ v ∈ vs, PyData.strOk (strOf v) = true) : ∀ x ∈ vs.map strOf, PyData.strOk x = true := by
  intro x hx
  obtain ⟨v, hv, rfl⟩ := List.mem_map.mp hx
  exact h v hv
theorem due_short {ws : List Int} {sh : Int} (hs0 : 0 ≤ sh) (hs9 : sh < 9) : ∀ i, ∀ p ∈ dueOf ws sh i, p.1.length ≤ 100
  | 0 => fun p hp => by cases hp
  | i + 1 => fun p hp => by
    unfold dueOf at hp
    rcases List.mem_append.mp hp with hp | hp
    · exact due_short hs0 hs9 i p hp
    · rcases List.mem_cons.mp hp with rfl | hp
      · exact (by decide : (4 : Nat) ≤ 100)
      · obtain ⟨f, hf, rfl⟩ := List.mem_map.mp hp
        unfold flagsDue at hf
        split at hf
        · rw [List.mem_singleton.mp hf]; exact (by decide : (Str.ofString "0x0").length ≤ 100)
        · obtain ⟨k, hk, rfl⟩ := List.mem_map.mp hf
          have hk4 := List.mem_range.mp (List.mem_filter.mp hk).1
          have := flag_len (sh.toNat + k) (by omega)
          rw [show ((sh.toNat + k : Nat) : Int) = sh + (0 + (k : Int)) by omega] at this
          exact Nat.le_trans this (by decide)
theorem keys_short {ws : List Int} {sh : Int} {pv : List Value} {n tk : Nat} {hs : List Hdr} (hs0 : 0 ≤ sh) (hs9 : sh < 9) (h16 : ∀ k, 0 ≤ ws.getD k 0 ∧ ws.getD k 0 < 16) (hc : PlacesAt pv n tk) (hk : hs.map keyVal = bookOf ws sh pv n) : ∀ h ∈ hs, h.1.1.length ≤ 100 := by
  intro h hm
  have ht := book_txt hs0 hs9 h16 hc hk
  have : hdrTxt h ∈ dueOf ws sh n := by rw [← ht]; exact List.mem_map_of_mem hm
  exact due_short hs0 hs9 n _ this
theorem places_pl {pv : List Value} {n tk : Nat} (hc : PlacesAt pv n tk) : PlOk pv := by
  refine ⟨places_str hc, fun x t hv => ?_, fun x t y hx hy => ?_⟩
  · obtain ⟨i, hi, e⟩ := List.mem_iff_getElem.mp hv
    obtain ⟨u, e2, hu, _⟩ := hc.at' i (by rw [← hc.len]; exact hi)
    rw [List.getElem?_eq_getElem hi, e] at e2
    have := Option.some.inj e2
    simp at this
    intro h0
    have h1 : @Eq Nat t u := this.2
    have h2 : @Eq Nat t 0 := h0
    omega
  · obtain ⟨i, hi, ei⟩ := List.mem_iff_getElem.mp hx
    obtain ⟨j, hj, ej⟩ := List.mem_iff_getElem.mp hy
    have e1 : pv[i]? = some (Value.str x t) := by rw [List.getElem?_eq_getElem hi, ei]
    have e2 : pv[j]? = some (Value.str y t) := by rw [List.getElem?_eq_getElem hj, ej]
    rcases Nat.lt_trichotomy i j with h | h | h
    · exact absurd (hc.rise i j x y t t e1 e2 h) (Nat.lt_irrefl _)
    · subst h; rw [e1] at e2; simp at e2; exact e2
    · exact absurd (hc.rise j i y x t t e2 e1 h) (Nat.lt_irrefl _)
end Mine
namespace Mine
noncomputable def isAbcd (f : Str) : Bool := Txt.lower f == Str.ofString "abcd"
theorem low_ABCD : Txt.lower (Str.ofString "ABCD") = Str.ofString "abcd" := by decide +kernel
theorem low_spelled {x : Int} (h0 : 0 ≤ x) (h1 : x < 16) : isAbcd (spelled x) = true := by
  rcases or16 h0 h1 with rfl | rfl | rfl | rfl | rfl | rfl | rfl | rfl | rfl | rfl | rfl | rfl | rfl | rfl | rfl | rfl <;> decide +kernel
theorem filt_one {x sh : Int} (h0 : 0 ≤ x) (h1 : x < 16) (h2 : 0 ≤ sh) (h3 : sh < 9) : (spelled x :: tellAll (x * 2 ^ sh.toNat)).filter isAbcd = [spelled x] := by
  have hc := (cnt_ok h0 h1 h2 h3).1
  unfold cnt at hc
  rw [low_ABCD] at hc
  have hc' : ((spelled x :: tellAll (x * 2 ^ sh.toNat)).filter isAbcd).length = 1 := hc
  rw [List.filter_cons, if_pos (low_spelled h0 h1)] at hc' ⊢
  have : ((tellAll (x * 2 ^ sh.toNat)).filter isAbcd) = [] := List.length_eq_zero_iff.mp (by rw [List.length_cons] at hc'; omega)
  rw [this]
theorem book_keys {ws : List Int} {sh : Int} {pv : List Value} (hs0 : 0 ≤ sh) (hs9 : sh < 9) (h16 : ∀ k, 0 ≤ ws.getD k 0 ∧ ws.getD k 0 < 16) :
    ∀ i, ((bookOf ws sh pv i).map (·.1)).filter isAbcd = (List.range i).map fun k => spelled (ws.getD k 0)
  | 0 => rfl
  | i + 1 => by
    have ih := book_keys (pv := pv) hs0 hs9 h16 i
    have e : ((spelled (ws.getD i 0), pv.getD i .none) :: (tellAll (ws.getD i 0 * 2 ^ sh.toNat)).map (fun f => (f, pv.getD i .none))).map (·.1) = spelled (ws.getD i 0) :: tellAll (ws.getD i 0 * 2 ^ sh.toNat) := by
      rw [List.map_cons, List.map_map]
      exact congrArg _ (List.map_id _)
    unfold bookOf
    rw [List.map_append, List.filter_append, ih, e, filt_one (h16 i).1 (h16 i).2 hs0 hs9, List.range_succ, List.map_append]
    rfl
theorem range_ws (ws : List Int) : ((List.range ws.length).map fun k => spelled (ws.getD k 0)) = ws.map spelled := by
  apply List.ext_getElem
  · simp
  · intro i h1 h2
    simp at h1
    simp [List.getD_eq_getElem?_getD, h1]
theorem keys_abcd {ws : List Int} {sh : Int} {pv : List Value} {hs : List Hdr} (hs0 : 0 ≤ sh) (hs9 : sh < 9) (h16 : ∀ k, 0 ≤ ws.getD k 0 ∧ ws.getD k 0 < 16) (hk : hs.map keyVal = bookOf ws sh pv ws.length) : (hs.map fun h => h.1.1).filter isAbcd = ws.map spelled := by
  rw [← range_ws, ← book_keys (pv := pv) hs0 hs9 h16 ws.length, ← hk, List.map_map]; rfl
end Mine
namespace Mine
noncomputable def csum (f : Nat → Int) : Nat → Int
  | 0 => 0
  | m + 1 => csum f m + f m
noncomputable def cntC (c : Nat) (x : Int) : Nat → Nat
  | 0 => 0
  | k + 1 => if Builtin.bitAnd (c : Int) (1 * 2 ^ (k : Int).toNat) ≠ 0 then cntC c x k + (if bitB k x = true then 1 else 0) else cntC c x k
noncomputable def sg (c : Nat) (x : Int) : Int := if ((cntC c x 4 : Nat) : Int).fmod 2 ≠ 0 then -1 else 1
noncomputable def zc (z : Int) (c : Nat) : Int := z ^ (sizeOf' c 4).toNat
theorem poly (z : Int) (e : Nat → Int) : csum (fun c => zc z c * e c) 16 = e 0 + z * (e 1 + e 2 + e 4 + e 8) + z ^ 2 * (e 3 + e 5 + e 6 + e 9 + e 10 + e 12) + z ^ 3 * (e 7 + e 11 + e 13 + e 14) + z ^ 4 * e 15 := by
  have h : ∀ c k, (sizeOf' c 4).toNat = k → zc z c = z ^ k := fun c k h => by unfold zc; rw [h]
  simp only [csum]
  rw [h 0 0 (by decide +kernel), h 1 1 (by decide +kernel), h 2 1 (by decide +kernel), h 3 2 (by decide +kernel), h 4 1 (by decide +kernel), h 5 2 (by decide +kernel), h 6 2 (by decide +kernel), h 7 3 (by decide +kernel), h 8 1 (by decide +kernel), h 9 2 (by decide +kernel), h 10 2 (by decide +kernel), h 11 3 (by decide +kernel), h 12 2 (by decide +kernel), h 13 3 (by decide +kernel), h 14 3 (by decide +kernel), h 15 4 (by decide +kernel)]
  grind
noncomputable def krt (d : Nat) : Int × Int × Int × Int :=
  if d = 0 then (4, 6, 4, 1) else if d = 1 then (2, 0, -2, -1) else if d = 2 then (0, -2, 0, 1) else if d = 3 then (-2, 0, 2, -1) else (-4, 6, -4, 1)
theorem krt_ok (z : Int) (d : Nat) (h : d ≤ 4) : (1 - z) ^ d * (1 + z) ^ (4 - d) = 1 + z * (krt d).1 + z ^ 2 * (krt d).2.1 + z ^ 3 * (krt d).2.2.1 + z ^ 4 * (krt d).2.2.2 := by
  have : d = 0 ∨ d = 1 ∨ d = 2 ∨ d = 3 ∨ d = 4 := by omega
  rcases this with rfl | rfl | rfl | rfl | rfl <;> simp [krt] <;> grind
noncomputable def kOk (a b : Nat) : Bool :=
  let e := fun c => sg c a * sg c b
  let d := (ham (a : Int) (b : Int)).toNat
  e 0 == 1 && e 1 + e 2 + e 4 + e 8 == (krt d).1 && e 3 + e 5 + e 6 + e 9 + e 10 + e 12 == (krt d).2.1 && e 7 + e 11 + e 13 + e 14 == (krt d).2.2.1 && e 15 == (krt d).2.2.2
theorem k_all : ((List.range 16).all fun a => (List.range 16).all fun b => kOk a b) = true := by kernel_rfl
theorem pair_sum (z : Int) {a b : Int} (a0 : 0 ≤ a) (a1 : a < 16) (b0 : 0 ≤ b) (b1 : b < 16) : csum (fun c => zc z c * (sg c a * sg c b)) 16 = pairTerm z a b := by
  have h := List.all_eq_true.mp k_all a.toNat (List.mem_range.mpr (by omega))
  have h := List.all_eq_true.mp h b.toNat (List.mem_range.mpr (by omega))
  unfold kOk at h
  rw [Int.toNat_of_nonneg a0, Int.toNat_of_nonneg b0] at h
  simp only [Bool.and_eq_true, beq_iff_eq] at h
  obtain ⟨⟨⟨⟨h0, h1⟩, h2⟩, h3⟩, h4⟩ := h
  have hh := ham_le a0 a1 b0 b1
  have e4 : (4 - ham a b).toNat = 4 - (ham a b).toNat := by omega
  rw [poly z (fun c => sg c a * sg c b)]
  unfold pairTerm
  rw [e4, krt_ok z _ (by omega), h0, h1, h2, h3, h4]
end Mine
namespace Mine
theorem csum_congr {f g : Nat → Int} (h : ∀ c, f c = g c) : ∀ m, csum f m = csum g m
  | 0 => rfl
  | m + 1 => by unfold csum; rw [csum_congr h m, h m]
theorem csum_add (f g : Nat → Int) : ∀ m, csum (fun c => f c + g c) m = csum f m + csum g m
  | 0 => rfl
  | m + 1 => by unfold csum; rw [csum_add f g m]; omega
theorem csum_two (f : Nat → Int) : ∀ m, csum (fun c => 2 * f c) m = 2 * csum f m
  | 0 => rfl
  | m + 1 => by unfold csum; rw [csum_two f m]; omega
theorem csum_zero : ∀ m, csum (fun _ => 0) m = 0
  | 0 => rfl
  | m + 1 => by unfold csum; rw [csum_zero m]; rfl
noncomputable def sOf (ws : List Int) (c : Nat) : Nat → Int
  | 0 => 0
  | i + 1 => sOf ws c i + sg c (ws.getD i 0)
theorem sg_sq (c : Nat) (x : Int) : sg c x * sg c x = 1 := by
  unfold sg
  split <;> rfl
noncomputable def kSum (ws : List Int) (z : Int) (b : Int) : Nat → Int
  | 0 => 0
  | p + 1 => kSum ws z b p + pairTerm z (ws.getD p 0) b
theorem dist_in (ws : List Int) (z : Int) (q : Nat) (t0 : Int) : ∀ p, distIn ws z q t0 p = t0 + 2 * kSum ws z (ws.getD q 0) p
  | 0 => by unfold distIn kSum; omega
  | p + 1 => by
    unfold distIn kSum
    rw [dist_in ws z q t0 p]; omega
theorem cross (ws : List Int) (z : Int) (h16 : ∀ k, 0 ≤ ws.getD k 0 ∧ ws.getD k 0 < 16) (q : Nat) : ∀ p, csum (fun c => zc z c * (sOf ws c p * sg c (ws.getD q 0))) 16 = kSum ws z (ws.getD q 0) p
  | 0 => by
    unfold kSum
    rw [csum_congr (g := fun _ => 0) (fun c => by unfold sOf; rw [Int.zero_mul, Int.mul_zero])]
    exact csum_zero 16
  | p + 1 => by
    unfold kSum
    rw [← cross ws z h16 q p, ← pair_sum z (h16 p).1 (h16 p).2 (h16 q).1 (h16 q).2, ← csum_add]
    exact csum_congr (fun c => by rw [show sOf ws c (p + 1) = sOf ws c p + sg c (ws.getD p 0) from rfl, Int.add_mul, Int.mul_add]) 16
theorem one_sum (z : Int) : csum (fun c => zc z c * 1) 16 = (1 + z) ^ 4 := by
  rw [poly z fun _ => 1]
  grind
theorem tot (ws : List Int) (z : Int) (h16 : ∀ k, 0 ≤ ws.getD k 0 ∧ ws.getD k 0 < 16) : ∀ i, distOut ws z i = csum (fun c => zc z c * (sOf ws c i * sOf ws c i)) 16 + ((ws.length : Int) - i) * (1 + z) ^ 4
  | 0 => by
    rw [csum_congr (g := fun _ => 0) (fun c => by unfold sOf; rw [Int.zero_mul, Int.mul_zero]), csum_zero]
    unfold distOut
    simp
  | i + 1 => by
    unfold distOut
    rw [dist_in, tot ws z h16 i, ← cross ws z h16 i i, ← csum_two]
    have e : csum (fun c => zc z c * (sOf ws c (i + 1) * sOf ws c (i + 1))) 16 = csum (fun c => zc z c * (sOf ws c i * sOf ws c i)) 16 + csum (fun c => 2 * (zc z c * (sOf ws c i * sg c (ws.getD i 0)))) 16 + csum (fun c => zc z c * 1) 16 := by
      rw [← csum_add, ← csum_add]
      refine csum_congr (fun c => ?_) 16
      rw [show sOf ws c (i + 1) = sOf ws c i + sg c (ws.getD i 0) from rfl, ← sg_sq c (ws.getD i 0)]
      grind
    rw [e, one_sum]
    grind
/-! the columns -/
theorem dec_inj : ∀ i j : Nat, i < 5 → j < 5 → decS i = decS j → i = j := by
  intro i j hi hj h
  have hi' : i = 0 ∨ i = 1 ∨ i = 2 ∨ i = 3 ∨ i = 4 := by omega
  have hj' : j = 0 ∨ j = 1 ∨ j = 2 ∨ j = 3 ∨ j = 4 := by omega
  rcases hi' with rfl | rfl | rfl | rfl | rfl <;> rcases hj' with rfl | rfl | rfl | rfl | rfl <;> first | rfl | exact absurd h (by decide +kernel)
theorem sel_count {c : Int → Bool} {ws : List Int} {pv : List Value} {n tk i : Nat} (hn : n ≤ 5) (hc : PlacesAt pv n tk) (hi : i < n) : ∀ j, j ≤ n → ((selOf c ws pv j).map strOf).count (decS i) = if i < j ∧ c (ws.getD i 0) = true then 1 else 0
  | 0, _ => by simp [selOf]
  | j + 1, hj => by
    have ih := sel_count (c := c) (ws := ws) hn hc hi j (by omega)
    obtain ⟨t, _, e⟩ := at_place hc (by omega : j < n)
    unfold selOf
    rw [List.map_append, List.count_append, ih, e]
    by_cases hij : i = j
    · subst hij
      by_cases hb : c (ws.getD i 0) = true
      · rw [if_pos hb, if_neg (by omega), if_pos ⟨by omega, hb⟩]; simp [strOf]
      · rw [if_neg hb, if_neg (by omega), if_neg (fun h => hb h.2)]; simp
    · have hne : ¬ decS j = decS i := fun h => hij (dec_inj j i (by omega) (by omega) h).symm
      have h0 : ((if c (ws.getD j 0) = true then [Value.str (decS j) t] else []).map strOf).count (decS i) = 0 := by
        split
        · simp [strOf, hne]
        · rfl
      rw [h0, Nat.add_zero]
      by_cases hb : c (ws.getD i 0) = true
      · by_cases hlt : i < j
        · rw [if_pos ⟨hlt, hb⟩, if_pos ⟨by omega, hb⟩]
        · rw [if_neg (fun h => hlt h.1), if_neg (fun h => by omega)]
      · rw [if_neg (fun h => hb h.2), if_neg (fun h => hb h.2)]
noncomputable def colsOf (ws : List Int) (pv : List Value) : List (List Value) := (List.range 4).map fun (k : Nat) => selOf (bitB k) ws pv ws.length
theorem colsOf_get (ws : List Int) (pv : List Value) {k : Nat} (hk : k < 4) : (colsOf ws pv).getD k [] = selOf (bitB k) ws pv ws.length := by
  unfold colsOf
  rw [List.getD_eq_getElem?_getD, List.getElem?_map, List.getElem?_range hk]; rfl
theorem chosen_count {ws : List Int} {pv : List Value} {tk i : Nat} (hn : ws.length ≤ 5) (hc : PlacesAt pv ws.length tk) (hi : i < ws.length) (c : Nat) : ∀ k, k ≤ 4 → ((chosenOf (colsOf ws pv) c k).map strOf).count (decS i) = cntC c (ws.getD i 0) k
  | 0, _ => rfl
  | k + 1, hk => by
    have ih := chosen_count hn hc hi c k (by omega)
    unfold chosenOf cntC
    by_cases hb : Builtin.bitAnd (c : Int) (1 * 2 ^ (k : Int).toNat) ≠ 0
    · rw [if_pos hb, if_pos hb, List.map_append, List.count_append, ih, colsOf_get ws pv (by omega), sel_count hn hc hi _ (Nat.le_refl _)]
      congr 1
      by_cases h : bitB k (ws.getD i 0) = true
      · rw [if_pos ⟨hi, h⟩, if_pos h]
      · rw [if_neg (fun q => h q.2), if_neg h]
    · rw [if_neg hb, if_neg hb, ih]
theorem sur_s {ws : List Int} {pv : List Value} {tk : Nat} (hn : ws.length ≤ 5) (hc : PlacesAt pv ws.length tk) (c : Nat) : ∀ i, i ≤ ws.length → surOf (chosenOf (colsOf ws pv) c 4) pv i = sOf ws c i
  | 0, _ => rfl
  | i + 1, hi => by
    have ih := sur_s hn hc c i (by omega)
    obtain ⟨t, _, e⟩ := at_place hc (by omega : i < ws.length)
    unfold surOf sOf
    rw [ih, e]
    show (if ((((chosenOf (colsOf ws pv) c 4).map strOf).count (decS i) : Nat) : Int).fmod 2 ≠ 0 then _ else _) = _
    rw [chosen_count hn hc (by omega) c 4 (Nat.le_refl _)]
    unfold sg
    split <;> omega
theorem col_tot {ws : List Int} {pv : List Value} {tk : Nat} (z : Int) (hn : ws.length ≤ 5) (hc : PlacesAt pv ws.length tk) : ∀ m, colTot (colsOf ws pv) pv z m = csum (fun c => zc z c * (sOf ws c ws.length * sOf ws c ws.length)) m
  | 0 => rfl
  | m + 1 => by
    unfold colTot csum
    rw [col_tot z hn hc m, show pv.length = ws.length from hc.len, sur_s hn hc m _ (Nat.le_refl _)]
    rfl
theorem mac {ws : List Int} {pv : List Value} {tk : Nat} (z : Int) (hc : PlacesAt pv ws.length tk) (hn : ws.length ≤ 5) (h16 : ∀ k, 0 ≤ ws.getD k 0 ∧ ws.getD k 0 < 16) : distOut ws z ws.length = colTot (colsOf ws pv) pv z 16 := by
  rw [col_tot z hn hc 16, tot ws z h16 ws.length, Int.sub_self, Int.zero_mul, Int.add_zero]
end Mine
namespace Mine
/-! a comprehension over a range whose name is a cell -/
theorem newEnv_cell {M : Model} {A : Around} {E : Value → Shared → Prop} {s : Shared} {scope : Scope} {globals : Addr} {cl : List (Str × Addr)} {qual : Str} {env : Env} {x : Str} {Q : Env → Shared → Prop}
    (hpush : ∀ h, pushCells h scope.names = h.push { cls := .type "cell", data := .cell none }) (hcf : ∀ k, cellsFrom k scope.names cl = (x, k) :: cl)
    (h : Q (newEnv scope s.heap.objs.size globals ((x, s.heap.objs.size + 1) :: cl) qual none .none (some env) builtinsNs) { s with heap := (s.heap.push { cls := .type "dict", data := .dict #[] }).push { cls := .type "cell", data := .cell none } }) :
    wpAny M A (newFunctionEnv scope globals cl [] qual none .none (some env)) Q E s := by
  simp only [newFunctionEnv, Option.isSome_some, if_true]
  refine wpAny_bind (wpAny_alloc ?_)
  refine wpAny_bind (wpAny_layCells _ (fun name kind cells => by cases hkc : kind == NameKind.cell <;> simp [hkc]) _ _ _ _ ?_)
  rw [hpush, show ({ s with heap := s.heap.push { cls := .type "dict", data := .dict #[] } } : Shared).heap.objs.size = s.heap.objs.size + 1 from Heap.size_push .., hcf]
  exact wpAny_bind (wpAny_pure (wpAny_pure h))
section
variable {prog : Program} {w : World} {A : Around} {E : Value → Shared → Prop} {s : Shared} {h₀ : Heap} {L : Addr} {m : Str → Option Value} {env : Env}
noncomputable def CellSrc (prog : Program) (w : World) (A : Around) (h₀ : Heap) (L : Addr) (m : Str → Option Value) (env : Env) (elt : Expr) (x : Str) (scope : Scope) (cl : List (Str × Addr)) (Q : Value → Shared → Prop) (xv : Value) (s₁ : Shared) : Prop :=
  ∃ r a b t u v n news, ∃ J : Nat → List Value → List (Addr × Obj) → Prop, xv = .ref r ∧ A.handled = none ∧ Fr h₀ L s₁.heap m ∧ News h₀ L s₁.heap news ∧ IsRange s₁.heap r a b 1 t u v ∧ Builtin.Range.small a b 1 = true ∧ Builtin.Range.rangeSize a b 1 = ((n : Nat) : Int) ∧ n ≤ sizeLine ∧
    J 0 [] news ∧ (∀ i ys nw, J i ys nw → ys.length ≤ i) ∧
    (∀ i t ys nw I oI C oC D c oc h tk (E' : Value → Shared → Prop), i < n → J i ys nw → oc.data = .cell (some (.int (a + (i : Int)) t)) → Fr h₀ L h m → News h₀ L h (CLed I oI C oC D ys ((c, oc) :: nw)) → LCg.Off3 I C D ((c, oc) :: nw) → (∀ p ∈ nw, p.1 ≠ c) →
      wpAny (model prog w) A (eval elt (compEnvC scope ((x, c) :: cl) C env)) (fun y => EltEnd h₀ L m { s₁ with heap := h, toks := tk } I oI C oC D ys (fun nw2 _ => ∃ nw', nw2 = (c, oc) :: nw' ∧ (∀ p ∈ nw', p.1 ≠ c) ∧ J (i + 1) (ys ++ [y]) nw')) E' { s₁ with heap := h, toks := tk }) ∧
    ∀ D h tk ys nw, Fr h₀ L h m → News h₀ L h ((D, LCg.lst ys) :: nw) → LCg.Off1 D nw → J n ys nw → Q (.ref D) { s₁ with heap := h, toks := tk }

theorem compCell {elt iter : Expr} {x : Str} {px : Pos} {scope : Scope} {cl : List (Str × Addr)} {pos : Pos} {Q : Value → Shared → Prop} (_F₀ : Fr h₀ L s.heap m)
    (hclos : closureFor scope env = pure cl) (hkind : scope.kind = .function)
    (hnames : ∀ y ∈ scope.names, y.2 = .local → scope.names.lookup y.1 = some .local) (hpush : ∀ h, pushCells h scope.names = h.push { cls := .type "cell", data := .cell none }) (hcf : ∀ k, cellsFrom k scope.names cl = (x, k) :: cl)
    (hxc : (relabel scope env).names.lookup x = some .cell)
    (h : wpAny (model prog w) A (eval iter env) (CellSrc prog w A h₀ L m env elt x scope cl Q) E s)
    (hs : ∀ x, foldedSetIterable iter env x = pure x := by intro _; rfl) :
    wpAny (model prog w) A (eval (.ListComp elt [⟨.Name x px, iter, [], 0⟩] scope pos) env) Q E s := by
  rw [eval_ListComp]
  refine wpAny_comprehension_free (use := none) rfl hs hclos hkind hnames (wpAny_mono h (fun xv s₁ h₁ => ?_) fun _ _ e => e)
  obtain ⟨r, a, b, t, u, v, n, news, J, rfl, hh, F, N, hr, hsm, hn, hsz, hJ0, hJS, turns, hQ⟩ := h₁
  refine wpAny_pyIter_range hr hsm ?_
  generalize hI : s₁.heap.objs.size = I
  generalize hG : s₁.heap.push { cls := .type "range_iterator", data := .fields #[rawInt a, rawInt (Builtin.Range.rangeSize a b 1), rawInt 1] } = G
  have hGs : G.objs.size = I + 1 := by rw [← hG, Heap.size_push, hI]
  have hit : IsRangeIter G I (a + ((0 : Nat) : Int) * 1) ((n : Int) - ((0 : Nat) : Int)) 1 := by
    show IsRangeIter _ _ _ _ _
    rw [← hG, ← hI, hn]; simpa using Heap.get?_push_size _ rfl
  have up : Keep s₁.heap G := fun b o e => hG ▸ Heap.get?_push_of_some _ e
  refine wpAny_newObj_type (newEnv_cell hpush hcf ?_)
  dsimp only
  generalize hH1 : G.push { cls := .type "list", dict := none, data := .seq ([] : List Value).toArray } = H1
  have hH1s : H1.objs.size = I + 1 + 1 := by rw [← hH1, Heap.size_push, hGs]
  rw [hGs, hH1s]
  generalize hH : (H1.push { cls := .type "dict", data := .dict #[] }).push { cls := .type "cell", data := .cell none } = H
  have kG1 : Keep G H1 := fun b o e => hH1 ▸ Heap.get?_push_of_some _ e
  have k1H : Keep H1 H := fun b o e => hH ▸ Heap.get?_push_of_some _ (Heap.get?_push_of_some _ e)
  have old : Keep s₁.heap H := fun b o e => k1H _ _ (kG1 _ _ (up _ _ e))
  have hacc : H.get? (I + 1) = some (LCg.lst []) := k1H _ _ (by rw [← hH1, ← hGs]; exact Heap.get?_push_size _ rfl)
  have hcell0 : H.get? (I + 1 + 1 + 1) = some { cls := .type "cell", data := .cell none } := by
    rw [← hH, show I + 1 + 1 + 1 = (H1.push { cls := .type "dict", data := .dict #[] }).objs.size by rw [Heap.size_push, hH1s]]; exact Heap.get?_push_size _ rfl
  have hns : H.Ns (I + 1 + 1) fun _ => none := by
    have h1 : (H1.push { cls := .type "dict", data := .dict #[] }).Ns H1.objs.size fun _ => none := Heap.Ns.new H1 (.type "dict")
    rw [hH1s] at h1
    exact h1.keeps fun b o e => hH ▸ Heap.get?_push_of_some _ e
  have hIH : IsRangeIter H I (a + ((0 : Nat) : Int) * 1) ((n : Int) - ((0 : Nat) : Int)) 1 := k1H _ _ (kG1 _ _ hit)
  have fresh₀ : ∀ a, I ≤ a → h₀.get? a = none := fun a ha => by
    cases e : h₀.get? a with
    | none => rfl
    | some o' => exact absurd (Heap.lt_size (F.keep a o' e)) (Nat.not_lt.mpr (hI ▸ ha))
  have hLlt : @LT.lt Nat _ L I := hI ▸ F.ns.lt
  have hlt : ∀ p ∈ news, @LT.lt Nat _ p.1 I := fun p hp => hI ▸ Heap.lt_size (N p hp).1
  have W := LCg.range_walks (prog := prog) (w := w) hh (I := I) a n
  have hDI : @Ne Nat (I + 1) I := by omega
  have hCI : @Ne Nat (I + 1 + 1) I := by omega
  have hcI : @Ne Nat (I + 1 + 1 + 1) I := by omega
  have hDC : @Ne Nat (I + 1) (I + 1 + 1) := by omega
  have hcC : @Ne Nat (I + 1 + 1 + 1) (I + 1 + 1) := by omega
  have hcD : @Ne Nat (I + 1 + 1 + 1) (I + 1) := by omega
  have hIL : @Ne Nat L I := by omega
  have hDL : @Ne Nat (I + 1) L := by omega
  have hCL : @Ne Nat (I + 1 + 1) L := by omega
  have hcL : @Ne Nat (I + 1 + 1 + 1) L := by omega
  have hI₀ := fresh₀ I (Nat.le_refl _)
  have hD₀ := fresh₀ (I + 1) (Nat.le_succ _)
  have hC₀ := fresh₀ (I + 1 + 1) (Nat.le_add_right _ 2)
  have hc₀ := fresh₀ (I + 1 + 1 + 1) (Nat.le_add_right _ 3)
  have N0 : News h₀ L H ((I + 1, LCg.lst []) :: (I + 1 + 1 + 1, { cls := .type "cell", data := .cell none }) :: news) := fun p hp => by
    rcases List.mem_cons.mp hp with rfl | hp
    · exact ⟨hacc, hDL, hD₀⟩
    · rcases List.mem_cons.mp hp with rfl | hp
      · exact ⟨hcell0, hcL, hc₀⟩
      · exact ⟨old _ _ (N p hp).1, (N p hp).2⟩
  have off0 : LCg.Off3 I (I + 1 + 1) (I + 1) ((I + 1 + 1 + 1, ({ cls := .type "cell", data := .cell none } : Obj)) :: news) := LCg.Off3.of fun p hp => by
    rcases List.mem_cons.mp hp with rfl | hp
    · exact ⟨hcI, hcC, hcD⟩
    · have := hlt p hp
      refine ⟨?_, ?_, ?_⟩ <;> show @Ne Nat _ _ <;> omega
  have offc0 : ∀ p ∈ news, p.1 ≠ I + 1 + 1 + 1 := fun p hp => by
    have := hlt p hp
    show @Ne Nat _ _
    omega
  have loop : ∀ s₃ : Shared, s₃ = { s₁ with heap := H } →
      codeAny (model prog w) A (.compLoop (.ListComp elt [⟨.Name x px, iter, [], 0⟩] scope pos) 0 (.ref I) (.ref (I + 1)) (compEnvC scope ((x, I + 1 + 1 + 1) :: cl) (I + 1 + 1) env))
        (compPost (model prog w) A E none Q (.ref (I + 1)) (I + 1 + 1)) s₃ := by
    rintro s₃ rfl
    refine kcp_loop
      (fun k s' => ∃ h' tk i ys nw oc v m', s' = { s₁ with heap := h', toks := tk } ∧ i ≤ n ∧ k = n + 1 - i ∧ IsRangeIter h' I (a + ((i : Nat) : Int) * 1) ((n : Int) - ((i : Nat) : Int)) 1 ∧ Fr h₀ L h' m ∧ h'.Ns (I + 1 + 1) m' ∧
        News h₀ L h' ((I + 1, LCg.lst ys) :: (I + 1 + 1 + 1, oc) :: nw) ∧ oc.data = .cell v ∧ LCg.Off3 I (I + 1 + 1) (I + 1) ((I + 1 + 1 + 1, oc) :: nw) ∧ (∀ p ∈ nw, p.1 ≠ I + 1 + 1 + 1) ∧ J i ys nw) ?_ (n + 1)
      ⟨H, s₁.toks, 0, [], news, _, _, _, rfl, Nat.zero_le _, rfl, hIH, F.keeps old, hns, N0, rfl, off0, offc0, hJ0⟩
    rintro k s' ⟨h', tk, i, ys, nw, oc, v, m', rfl, hi, rfl, hst', F', hn', N', hoc, off', offc', hJ⟩
    have off3 := off'.mem
    have offI : ∀ p ∈ (I + 1, LCg.lst ys) :: (I + 1 + 1 + 1, oc) :: nw, p.1 ≠ I := fun p hp => by
      rcases List.mem_cons.mp hp with rfl | hp
      · exact hDI
      · exact (off3 p hp).1
    by_cases hlt : i < n
    · refine W.item i _ _ _ hlt hst' fun v h₂ tk₂ hP hst₂ hk₂ => ?_
      obtain ⟨t, rfl⟩ := hP
      have F₂ := LCg.fr_but F' hk₂ hIL hI₀
      have N₂ := LCg.news_but N' hk₂ offI
      have hn₂ : h₂.Ns (I + 1 + 1) m' := hn'.at' fun o e => hk₂ _ o (by simpa using hCI) e
      show wpAny _ _ (pure ()) _ _ _
      refine wpAny_pure ?_
      refine wpAny_assign_Name (wpAny_storeName_cell (c := I + 1 + 1 + 1) hkind hxc (by simp [compEnvC]) ⟨oc, (N₂ _ (.tail _ (.head _))).1, hoc⟩ (fun h₃ hcell₃ hs₃ => ?_))
      obtain ⟨oc', hoc', hd'⟩ := hcell₃
      have F₃ := F₂.change hs₃ hcL hc₀
      have hst₃ : IsRangeIter h₃ I (a + ((i + 1 : Nat) : Int) * 1) ((n : Int) - ((i + 1 : Nat) : Int)) 1 := W.frame (i + 1) _ _ hst₂ fun b hb o e => hs₃.extBut b o (fun q => hcI (q ▸ (List.mem_singleton.mp hb))) e
      obtain ⟨oI, hoI, hIo⟩ : ∃ oI, h₃.get? I = some oI ∧ ∀ h : Heap, h.get? I = some oI → IsRangeIter h I (a + ((i + 1 : Nat) : Int) * 1) ((n : Int) - ((i + 1 : Nat) : Int)) 1 := ⟨_, hst₃, fun _ e => e⟩
      have hn₃ : h₃.Ns (I + 1 + 1) m' := hn₂.sameBut hs₃ hcC.symm
      obtain ⟨oC, heC, hoC⟩ := LCg.ns_obj hn₃
      have N₃ : News h₀ L h₃ (CLed I oI (I + 1 + 1) oC (I + 1) ys ((I + 1 + 1 + 1, oc') :: nw)) := fun p hp => by
        rcases List.mem_cons.mp hp with rfl | hp
        · exact ⟨hoI, hIL.symm, hI₀⟩
        · rcases List.mem_cons.mp hp with rfl | hp
          · exact ⟨heC, hCL, hC₀⟩
          · rcases List.mem_cons.mp hp with rfl | hp
            · have z := N₂ _ (.head _)
              exact ⟨hs₃.extBut _ _ hcD.symm z.1, z.2⟩
            · rcases List.mem_cons.mp hp with rfl | hp
              · exact ⟨hoc', hcL, hc₀⟩
              · have z := N₂ _ (.tail _ (.tail _ hp))
                exact ⟨hs₃.extBut _ _ (offc' p hp) z.1, z.2⟩
      refine wpAny_mono (turns i t ys nw I oI (I + 1 + 1) oC (I + 1) (I + 1 + 1 + 1) oc' h₃ _ _ hlt hJ hd' F₃ N₃ ⟨off'.1, off'.2⟩ offc') (fun y s₅ h₅ => ?_) fun _ _ e => e
      obtain ⟨h₅, tk₅, nw₅, rfl, F₅, N₅, off₅, nw', rfl, offc₅, hJ₅⟩ := h₅
      have zI := (N₅ (I, oI) (.head _)).1
      have zC := (N₅ (I + 1 + 1, oC) (.tail _ (.head _))).1
      have zD := (N₅ (I + 1, LCg.lst ys) (.tail _ (.tail _ (.head _)))).1
      have hyl := hJS _ _ _ hJ
      refine append_at (hsz := by show ys.toArray.size ≤ sizeLine; rw [List.size_toArray]; omega) zD fun h₆ hs₆ hD₆ => ?_
      have off5 := off₅.mem
      refine ⟨n + 1 - (i + 1), by omega, h₆, tk₅, i + 1, ys ++ [y], nw', oc', _, _, rfl, hlt, rfl, hIo _ (hs₆.extBut _ _ hDI.symm zI), F₅.change hs₆ hDL hD₀, hoC.ns (hs₆.extBut _ _ hDC.symm zC), fun p hp => ?_, hd', off₅, offc₅, hJ₅⟩
      rcases List.mem_cons.mp hp with rfl | hp
      · exact ⟨hD₆.trans (congrArg some (LCg.lst_snoc ys y)), hDL, hD₀⟩
      · have z := N₅ p (.tail _ (.tail _ (.tail _ hp)))
        exact ⟨hs₆.extBut _ _ (off5 p hp).2.2 z.1, z.2⟩
    · have hin : i = n := by omega
      subst hin
      refine W.done _ _ _ hst' fun h₂ tk₂ hk₂ => ?_
      have F₂ := LCg.fr_but F' hk₂ hIL hI₀
      have N₂ := LCg.news_but N' hk₂ offI
      refine ⟨m', hn'.at' fun o e => hk₂ _ o (by simpa using hCI) e, fun h'' hs'' => hQ _ h'' tk₂ ys nw (F₂.change hs'' hCL hC₀) (fun p hp => ?_) off'.2.one hJ⟩
      rcases List.mem_cons.mp hp with rfl | hp
      · have z := N₂ _ (.head _)
        exact ⟨hs''.extBut _ _ hDC z.1, z.2⟩
      · have z := N₂ _ (.tail _ (.tail _ hp))
        exact ⟨hs''.extBut _ _ (off3 p (.tail _ hp)).2.1 z.1, z.2⟩
  exact codeAny_compStart_list (loop _ rfl) (W.self 0 _ _ _ hIH (loop _ rfl))
end
end Mine
namespace Mine
local macro_rules | `(tactic| k_enter) => `(tactic| first
  | (refine' enterL ?k2 ?k4 ?k3 ?k5 ?k6 ?k7 ?k8 ?k9 ?kB ?_ ?c2 ?c3 ?c4 ?c5; (case k2 => k_asm); (case k4 => k_asm); (case k3 => k_asm); (case k5 => k_asm); (case k6 => k_is); (case k7 => k_is); (case k8 => ktr_room); (case k9 => first | exact BindsTo.of_eq rfl | exact binds_K (by k_in) rfl (by k_is) rfl rfl rfl | (refine' kp_binds ?kx ?ke; (case kx => k_in); (case ke => exact fun _ => rfl)) | fail "k_enter: no rule for these arguments"); (case c5 => decide); (case kB => exact locs rfl); (case c2 => exact rfl); (case c3 => exact rfl); (case c4 => exact rfl); k_whole; intro g' L' h' F' N' X' T' l1; (try dsimp only); (try k_unmd); (try k_fold))
  | (refine' enterM ?k2 ?k4 ?k3 ?k5 ?k6 ?k7 ?k8 ?kP ?kG ?kB ?_ ?c2 ?c3 ?c4 ?c5; (case k2 => k_asm); (case k4 => k_asm); (case k3 => k_asm); (case k5 => k_asm); (case k6 => k_is); (case k7 => k_is); (case k8 => ktr_room); (case kP => exact rfl); (case kG => exact fun _ => rfl); (case c5 => decide); (case kB => exact fun _ => locs rfl); (case c2 => exact rfl); (case c3 => exact rfl); (case c4 => exact rfl); k_whole; intro D' g' L' h' tk' l2 lo' F' N' X' T' l1; (try k_lt l2); (try dsimp only); (try k_unmd); (try k_fold)))
local macro_rules | `(tactic| k_all) => `(tactic| first | assumption | exact ne_succ1 (by assumption) | exact ne_succ2 (by assumption) | exact ne_succ3 (by assumption) | exact ne_succ4 (by assumption))
local macro_rules | `(tactic| k_mem) => `(tactic| assumption)
local macro_rules | `(tactic| k_mem) => `(tactic| first | assumption | exact List.Mem.head _ | (refine List.Mem.tail _ ?_; k_mem))
local macro_rules | `(tactic| walk_at "eval Name") => `(tactic| (k_here; k_dflt (refine' nameX ?F ?l ?v ?_ ?a ?b ?c; (case F => k_asm); (case l => exact rfl); (case a => exact rfl); (case b => exact rfl); (case c => decide); (case v => assumption); k_whole)))
local macro_rules | `(tactic| walk_at "loadName") => `(tactic| (k_here; k_dflt (refine' loadX ?F ?l ?v ?_ ?a ?b; (case F => k_asm); (case l => exact rfl); (case a => exact rfl); (case b => exact rfl); (case v => first | exact rfl | assumption); k_whole)))
local macro_rules | `(tactic| walk_at "eval ListComp") => `(tactic| (k_here; k_dflt (refine' compEval ?kF ?hclos ?hcell ?hkind ?hnames ?hx ?_ ?hs; (case kF => k_asm); (case hclos => with_unfolding_all rfl); (case hcell => decide); (case hkind => with_unfolding_all rfl); (case hnames => decide); (case hx => with_unfolding_all rfl); (case hs => intro _; with_unfolding_all rfl))))
local macro_rules | `(tactic| walk_at "exec Assign cons ListComp") => `(tactic| (k_here; k_dflt (first | (refine' compAssign ?kF ?hLe ?hsw ?hclos ?hcell ?hkind ?hnames ?hx ?hy ?hp ?_ ?hs; (case kF => k_asm); (case hLe => exact rfl); (case hsw => exact rfl); (case hclos => with_unfolding_all rfl); (case hcell => decide); (case hkind => with_unfolding_all rfl); (case hnames => decide); (case hx => with_unfolding_all rfl); (case hy => exact rfl); (case hp => exact rfl); (case hs => intro _; with_unfolding_all rfl)) | (refine' compAssignC ?kF ?hLe ?hsw ?hclos ?hcell ?hkind ?hnames ?hx ?hk ?hy ?hc ?_ ?hs; (case kF => k_asm); (case hLe => exact rfl); (case hsw => exact rfl); (case hclos => with_unfolding_all rfl); (case hcell => decide); (case hkind => with_unfolding_all rfl); (case hnames => decide); (case hx => with_unfolding_all rfl); (case hk => exact rfl); (case hy => exact rfl); (case hc => exact rfl); (case hs => intro _; with_unfolding_all rfl)))))
local macro_rules | `(tactic| walk_at "exec For Name") => `(tactic| (k_here; (with_reducible rename Fr _ _ _ _ => lF'); k_dflt (refine' forJF lF' ?hx ?hp ?_ ?hs; (case hx => exact rfl); (case hp => exact rfl); (case hs => intro _; with_unfolding_all rfl))))
local macro_rules | `(tactic| walk_at "exec For Name Call cons nil") => `(tactic| (k_here; (with_reducible rename Fr _ _ _ _ => lF'); k_dflt (refine' forJF lF' ?hx ?hp ?_ ?hs; (case hx => exact rfl); (case hp => exact rfl); (case hs => intro _; with_unfolding_all rfl))))
local macro_rules | `(tactic| walk_at "call builtin:len") => `(tactic| (k_here; (refine' len_mine ?kN ?km ?kI ?kn ?_; (case kN => k_asm); (case km => k_mem); (case kI => assumption); (case kn => omega)); intro _ _; (try dsimp only)))
local macro_rules | `(tactic| walk_at "call builtin:sum") => `(tactic| (k_here; k_dflt (refine' sum_mine ?kF ?kN ?hh ?km ?kI ?_; (case kF => k_asm); (case kN => k_asm); (case hh => rfl); (case km => k_mem); (case kI => assumption)); intro _ _ _ _ _; (try k_sweep); (try dsimp only)))
local macro_rules | `(tactic| walk_at "subscriptTail") => `(tactic| (k_here; k_dflt (first | (refine' sub_int ?kN ?km ?kI ?k1 ?kn ?_ ?hs; (case kN => k_asm); (case km => k_mem); (case kI => assumption); (case k1 => first | assumption | omega); (case kn => omega); (case hs => with_unfolding_all rfl)) | (refine' sub_sp ?kN ?km ?kI ?k1 ?kn ?_ ?hs; (case kN => k_asm); (case km => k_mem); (case kI => assumption); (case k1 => first | assumption | omega); (case kn => omega); (case hs => with_unfolding_all rfl))); intro _; (try dsimp only)))
section
variable {prog : Program} {w : World} {A : Around} {E : Value → Shared → Prop} {s : Shared} {h₀ : Heap} {L : Addr} {m : Str → Option Value} {news : List (Addr × Obj)} {Q : Value → Shared → Prop}
theorem range_mine {n : Int} {t : Tok} (F : Fr h₀ L s.heap m) (N : News h₀ L s.heap news)
    (h : ∀ h', Fr h₀ L h' m → News h₀ L h' news → IsRange h' s.heap.objs.size 0 n 1 s.toks t (s.toks + 1) → Q (.ref s.heap.objs.size) { s with heap := h', toks := s.toks + 1 + 1 }) : wpAny (model prog w) A (call (.type "range") [.int n t]) Q E s :=
  call_range_1 (h _ (F.keeps fun _ _ e => Heap.get?_push_of_some _ e) (N.grown fun _ _ e => Heap.get?_push_of_some _ e) (Heap.get?_push_size _ rfl))
end
local macro_rules | `(tactic| walk_at "call type:range") => `(tactic| (k_here; k_dflt (refine' range_mine ?kF ?kN ?_; (case kF => k_asm); (case kN => k_asm)); intro _ _ _ _; (try k_sweep); (try dsimp only)))
local macro_rules | `(tactic| walk_at "call ref") => `(tactic| (k_here; refine stopIt2 ?_))
local macro_rules | `(tactic| walk_at "subscriptTail Name Slice ref ref") => `(tactic| (k_here; refine stopIt2 ?_))
theorem isl_fr {h₀ h : Heap} {L ax : Addr} {m : Str → Option Value} {its : Array Value} (hS : h₀.IsList ax its) (F : Fr h₀ L h m) : h.IsList ax its := by
  obtain ⟨o, e, r⟩ := hS; exact ⟨o, F.keep _ _ e, r⟩
theorem news_tail {h₀ h : Heap} {L : Addr} {q : Addr × Obj} {news : List (Addr × Obj)} (N : News h₀ L h (q :: news)) : News h₀ L h news := fun p hp => N p (.tail _ hp)
local macro_rules | `(tactic| walk_at "subscriptTail") => `(tactic| (k_here; k_dflt (refine' sub_any ?kN ?km ?kv ?kk ?_ ?hs ?hg; (case kN => k_asm); (case km => k_mem); (case kv => assumption); (case kk => omega); (case hs => with_unfolding_all rfl); (case hg => intro _; with_unfolding_all rfl)); (try dsimp only)))
local macro_rules | `(tactic| walk_at "compareOp NotEq ref ref") => `(tactic| (k_here; refine stopIt2 ?_))
local macro_rules | `(tactic| walk_at "call type:int") => `(tactic| (k_here; k_dflt (refine' KIN.call_num ?ka ?kb ?_; (case ka => omega); (case kb => omega)); (try dsimp only)))
local macro_rules | `(tactic| walk_at "eval ListComp") => `(tactic| (k_here; k_dflt (refine' compCell ?kF ?hclos ?hkind ?hnames ?hpush ?hcf ?hxc ?_ ?hs; (case kF => k_asm); (case hclos => with_unfolding_all rfl); (case hkind => with_unfolding_all rfl); (case hnames => decide); (case hpush => intro _; rfl); (case hcf => intro _; rfl); (case hxc => with_unfolding_all rfl); (case hs => intro _; with_unfolding_all rfl))))
theorem clean_low2 (w : World) {sh : Int} {i : Nat} (h0 : 0 ≤ sh) (h9 : sh < 9) (hi : i < 4) : Clean w (Txt.lower (Txt.lower (flagName (sh + (i : Int))))) := by
  have := clean_low w (j := sh.toNat + i) (by omega)
  rw [show ((sh.toNat + i : Nat) : Int) = sh + (i : Int) by omega] at this
  exact this
theorem flag_len2 {sh : Int} {i : Nat} (h0 : 0 ≤ sh) (h9 : sh < 9) (hi : i < 4) : (flagName (sh + (i : Int))).length ≤ 100 := by
  have := flag_len (sh.toNat + i) (by omega)
  rw [show ((sh.toNat + i : Nat) : Int) = sh + (i : Int) by omega] at this
  exact Nat.le_trans this (by decide)
theorem low_len_all : ∀ j, j < 12 → (Txt.lower (flagName ((j : Nat) : Int))).length ≤ 100 := by decide +kernel
theorem low_len {sh : Int} {i : Nat} (h0 : 0 ≤ sh) (h9 : sh < 9) (hi : i < 4) : (Txt.lower (flagName (sh + (i : Int)))).length ≤ 100 := by
  have := low_len_all (sh.toNat + i) (by omega)
  rw [show ((sh.toNat + i : Nat) : Int) = sh + (i : Int) by omega] at this
  exact this
theorem elt_ne {h₀ : Heap} {L : Addr} {m : Str → Option Value} {s₁ : Shared} {I C D T : Addr} {oI oC o : Obj} {ys : List Value} {Jn : List (Addr × Obj) → Nat → Prop} {h' : Heap} {tk : Nat} {nw : List (Addr × Obj)}
    (F : Fr h₀ L h' m) (N : News h₀ L h' ((T, o) :: CLed I oI C oC D ys nw)) (lT : ∀ p ∈ CLed I oI C oC D ys nw, p.1 ≠ T) (off : LCg.Off3 I C D nw) (r : Jn ((T, o) :: nw) tk) :
    EltEnd h₀ L m s₁ I oI C oC D ys Jn { s₁ with heap := h', toks := tk } := by
  refine EltEnd.mk F N ((T, o) :: nw) (fun p hp => ?_) ⟨⟨Ne.symm (lT (I, oI) (.head _)), Ne.symm (lT (C, oC) (.tail _ (.head _))), Ne.symm (lT (D, LCg.lst ys) (.tail _ (.tail _ (.head _))))⟩, off⟩ r
  simp only [List.mem_cons] at hp ⊢
  rcases hp with hp | hp | hp | hp | hp <;> simp [hp]
/-- the columns' refs -/
noncomputable def ColsJ (B0 : List (Addr × Obj)) (ws : List Int) (pv : List Value) (i : Nat) (ys : List Value) (nw : List (Addr × Obj)) : Prop :=
  ys.length = i ∧ (∃ U, nw = U ++ B0) ∧ ∀ k, k < i → ∃ D, ys[k]? = some (.ref D) ∧ (D, LCg.lst (selOf (bitB k) ws pv ws.length)) ∈ nw
theorem ColsJ.snoc {B0 nw : List (Addr × Obj)} {ws : List Int} {pv ys : List Value} {i : Nat} {D : Addr} (h : ColsJ B0 ws pv i ys nw) : ColsJ B0 ws pv (i + 1) (ys ++ [.ref D]) ((D, LCg.lst (selOf (bitB i) ws pv ws.length)) :: nw) := by
  obtain ⟨hl, ⟨U, hU⟩, hk⟩ := h
  refine ⟨by rw [List.length_append, hl]; rfl, ⟨_ :: U, by rw [hU]; rfl⟩, fun k hki => ?_⟩
  by_cases hlt : k < i
  · obtain ⟨D', e, hm⟩ := hk k hlt
    exact ⟨D', by rw [List.getElem?_append_left (by omega)]; exact e, .tail _ hm⟩
  · have : k = i := by omega
    subst this
    exact ⟨D, by rw [List.getElem?_append_right (by omega), hl]; simp, .head _⟩
local macro_rules | `(tactic| walk_at "eval ListComp") => `(tactic| (k_here; k_dflt (refine' compCell ?kF ?hclos ?hkind ?hnames ?hpush ?hcf ?hxc ?_ ?hs; (case kF => k_asm); (case hclos => with_unfolding_all rfl); (case hxc => with_unfolding_all exact (Eq.refl (some NameKind.cell))); (case hkind => with_unfolding_all rfl); (case hnames => decide); (case hpush => intro _; rfl); (case hcf => intro _; rfl); (case hs => intro _; with_unfolding_all rfl))))
local macro_rules | `(tactic| walk_at "eval ListComp") => `(tactic| (k_here; k_dflt (refine' compEval ?kF ?hclos ?hcell ?hkind ?hnames ?hx ?_ ?hs; (case kF => k_asm); (case hclos => rfl); (case hcell => decide); (case hkind => rfl); (case hnames => decide); (case hx => rfl); (case hs => intro _; rfl))))
theorem datAll_get {nw : List (Addr × Obj)} : ∀ (ys : List Value) (ds : List Dat), ys.length = ds.length → (∀ (k : Nat) (v : Value) (d : Dat), ys[k]? = some v → ds[k]? = some d → DatIn nw v d) → DatAll nw ys ds
  | [], [], _, _ => .nil
  | v :: r, d :: s, e, h => .cons (h 0 v d rfl rfl) (datAll_get r s (by simpa using e) fun k v d h1 h2 => h (k + 1) v d h1 h2)
noncomputable def colDats (ws : List Int) (pv : List Value) (i : Nat) : List Dat := (List.range i).map fun (k : Nat) => Dat.list (((selOf (bitB k) ws pv ws.length).map strOf).map Dat.str)
theorem cols_dat {B0 nw : List (Addr × Obj)} {ws : List Int} {pv ys : List Value} {i tk : Nat} (hc : PlacesAt pv ws.length tk) (h : ColsJ B0 ws pv i ys nw) : DatAll nw ys (colDats ws pv i) := by
  refine datAll_get _ _ (by unfold colDats; rw [List.length_map, List.length_range]; exact h.1) fun k v d h1 h2 => ?_
  have hk : k < i := by rw [← h.1]; exact (List.getElem?_eq_some_iff.mp h1).1
  obtain ⟨D, e, hm⟩ := h.2.2 k hk
  rw [e] at h1
  obtain rfl := Option.some.inj h1
  unfold colDats at h2
  rw [List.getElem?_map, List.getElem?_range hk] at h2
  obtain rfl := Option.some.inj h2
  exact .list hm (dat_strs (strs_of fun v hv => places_str hc v (sel_mem hc _ (Nat.le_refl _) v hv)))
theorem cols_ok {ws : List Int} {pv : List Value} {i tk : Nat} (hn : ws.length ≤ 5) (hc : PlacesAt pv ws.length tk) : ∀ d ∈ colDats ws pv i, kqdOk 8 d = true := by
  intro d hd
  obtain ⟨k, _, rfl⟩ := List.mem_map.mp hd
  have h := ok_strs (strOf_ok (vs := selOf (bitB k) ws pv ws.length) fun v hv => places_ok hn hc v (sel_mem hc _ (Nat.le_refl _) v hv))
  show (List.map Dat.str _).all (kqdOk 7) = true
  rw [List.all_eq_true]
  intro d hd
  obtain ⟨x, hx, rfl⟩ := List.mem_map.mp hd
  exact h (Dat.str x) (List.mem_map_of_mem hx)
theorem datAll_mono {a b : List (Addr × Obj)} {vs : List Value} {ds : List Dat} (h : DatAll a vs ds) (s : ∀ q ∈ a, q ∈ b) : DatAll b vs ds := DatAll.mono s h
local macro_rules | `(tactic| walk_at "exec Assign cons ListComp") => `(tactic| (k_here; k_dflt (refine' compAssign ?kF ?hLe ?hsw ?hclos ?hcell ?hkind ?hnames ?hx ?hy ?hp ?_ ?hs; (case kF => k_asm); (case hLe => exact rfl); (case hsw => exact rfl); (case hclos => rfl); (case hcell => decide); (case hkind => rfl); (case hnames => decide); (case hx => rfl); (case hy => exact rfl); (case hp => exact rfl); (case hs => intro _; rfl))))
theorem colsOf_len (ws : List Int) (pv : List Value) (hn : ws.length ≤ 5) (k : Nat) : ((colsOf ws pv).getD k []).length ≤ 5 := by
  by_cases hk : k < 4
  · rw [colsOf_get ws pv hk]; exact Nat.le_trans (sel_len _ _ _ _) hn
  · unfold colsOf
    rw [List.getD_eq_getElem?_getD, List.getElem?_eq_none (by rw [List.length_map, List.length_range]; omega)]
    exact Nat.zero_le _
theorem colsOf_sub {ws : List Int} {pv : List Value} {tk : Nat} (hc : PlacesAt pv ws.length tk) : ∀ c ∈ colsOf ws pv, ∀ v ∈ c, v ∈ pv := by
  intro c hcm v hv
  obtain ⟨k, _, rfl⟩ := List.mem_map.mp hcm
  exact sel_mem hc _ (Nat.le_refl _) v hv
theorem walk : PySem.Challenge.rw_ta0074_01.Holds := by
  refine holds_law saidL fun said => holds_open (q := VTop) (loose := looseL) (Xt := xtV) (XP := XL VTop []) (Yf := Hook.obs (kHook KTop kAddrs kAddrs_eq)) (Ya := Hook.val (kHook KTop kAddrs kAddrs_eq)) (YP := Hook.says (kHook KTop kAddrs kAddrs_eq)) (N := 3662) leftV (Hook.of (kHook KTop kAddrs kAddrs_eq)) (Hook.keeps (kHook KTop kAddrs kAddrs_eq)) (fun s e => xl_of s (Bool.and_eq_true_iff.mp e).1) XL.keeps (by rfl) (by rfl) (by rfl) (fun s e => recFacts_of (Bool.and_eq_true_iff.mp e).2) (by rfl) said (by decide +kernel) ⟨rfl, rfl, rfl, rfl, rfl, by decide +kernel⟩ (by w_witness2) ?hc
  clear said
  k_go0
  (all_goals try k_fold)
  (rename Fr _ _ _ _ => F)
  (rename News _ _ _ _ => N)
  (rename Top _ _ _ _ _ _ => T)
  (rename Frag.In _ _ => X)
  (rename IntsAre _ _ => hI)
  (rename PySem.Heap.IsList _ _ _ => hS)
  rename (¬ ((63 : Nat) : Int) < _) => hlen
  rename_i o4 o3 o2 o1 d4 d3 d2 d1 Y
  replace d4 : o4.data = .cell none := d4
  replace d3 : o3.data = .cell none := d3
  replace d2 : o2.data = .cell none := d2
  replace d1 : o1.data = .cell none := d1
  clear Y
  have hlen' := Nat.le_of_not_lt (fun h => hlen (by exact_mod_cast h))
  k_steps
  unfold Stop2
  refine' words_spec ?kF ?kN ?kX ?kT ?hd hS hI hlen' ?_
  (case kF => k_asm)
  (case kN => k_asm)
  (case kX => assumption)
  (case kT => assumption)
  (case hd => exact Nat.le_of_ble_eq_true rfl)
  intro W us h1 tk1 F1 N1 offW hW
  obtain ⟨ws, hW, hwl3, hwl5, h16⟩ := words_gen hW
  have w4 : @Ne Nat _ _ := offW _ (.head _)
  have w3 : @Ne Nat _ _ := offW _ (.tail _ (.head _))
  have w2 : @Ne Nat _ _ := offW _ (.tail _ (.tail _ (.head _)))
  have w1 : @Ne Nat _ _ := offW _ (.tail _ (.tail _ (.tail _ (.head _))))
  clear offW F N
  dsimp only at w1 w2 w3 w4
  (try dsimp only)
  k_steps
  unfold Stop2
  (rename Fr _ _ _ _ => F)
  (rename News _ _ _ _ => N)
  have hvl := hI.length
  have hsl : (100 : Nat) ≤ sizeLine := by decide
  have hvsz := Nat.le_trans (Nat.le_trans (Nat.le_of_eq (List.size_toArray ..)) (Nat.le_of_eq hvl)) (Nat.le_trans hlen' (Nat.le_trans (by decide : 63 ≤ 100) hsl))
  refine kmk_slice_lit (vl := .none) (vu := .int 60 _) (lo := none) (hi := some 60) F N (isl_fr hS F) .none (.int _ _) (by rw [show (60 : Int) = ((60 : Nat) : Int) from rfl, slicePick_upto']) (fun Z0 h2 F2 N2 l2 => ?_) (by with_unfolding_all rfl) (by intro _; with_unfolding_all rfl) hvsz
  have hI60 := ints_take hI 60
  dsimp only [List.toList_toArray] at N2
  clear F N
  have l2' := allLt_of l2
  clear l2
  k_steps
  (rename Fr _ _ _ _ => F)
  (rename News _ _ _ _ => N)
  have N9 := news_tail N
  clear N
  walk1
  (try dsimp only)
  (try (clear F N9))
  (rename Fr _ _ _ _ => F)
  (rename News _ _ _ _ => N)
  rename (Obj.data _ = .cell (some (.int _ _))) => dsh
  obtain ⟨z, hz, hz00, hz01⟩ := z_gen dsh
  rw [hz] at dsh F
  obtain ⟨sh, hsh⟩ : ∃ sh, Int.fmod z 9 = sh := ⟨_, rfl⟩
  have hs0 := sh_facts z
  rw [hsh] at dsh hs0
  have hs00 := hs0.1
  have hs01 := hs0.2
  clear hI60 hI hS hlen hlen' hvl hvsz
  k_steps
  try (clear F N)
  (rename IsRange _ _ _ _ _ _ _ _ => hR)
  (rename Fr _ _ _ _ => F)
  (rename News _ _ _ _ => N)
  refine .inr ⟨_, _, _, _, _, _, ws.length, _, fun i ys nw tk => _ = nw ∧ PlacesAt ys i tk, rfl, rfl, F, N, hR, (range_fit (by omega)).1, (range_fit (by omega)).2, by omega, ⟨rfl, PlacesAt.nil (Nat.succ_pos _)⟩, ?_, fun _ _ _ _ _ hle h => ⟨h.1, h.2.mono hle⟩, ?_, ?_⟩
  · rintro i ys nw tk ⟨_, hc⟩
    exact Nat.le_of_eq hc.len
  · clear hR F N
    intro g' i v ys nw I oI C oC D3 m₂ h tk E' hi hP hJ hC hx F N off3 ne
    obtain ⟨t', rfl⟩ := hP
    obtain ⟨rfl, hc⟩ := hJ
    refine wpAny_tests_nil (TestEnd.tt ?_)
    k_fold
    simp only [Int.zero_add] at hx
    k_steps
    refine EltEnd.mk (by assumption) (by assumption) _ (fun p hp => hp) off3 ⟨rfl, hc.snoc (Nat.le_refl _) (Nat.lt_succ_self _)⟩
  · clear hR F N
    rintro P h tk pv nw F N off3 ⟨rfl, hc⟩
    (try dsimp only)
    k_steps
    unfold Stop2
    refine' headers_spec ?kF ?kN ?kX ?kT ?hd ?_
    (case kF => k_asm)
    (case kN => k_asm)
    (case kX => assumption)
    (case kT => assumption)
    (case hd => exact Nat.le_of_ble_eq_true rfl)
    intro B dx l tb h5 tk5 F5 N5 lx lx1 lx2
    dsimp only [List.cons_append, List.nil_append] at N5 lx2
    have b1 : @LT.lt Nat _ _ _ := lx2 _ (.head _)
    have b2 : @LT.lt Nat _ _ _ := lx2 _ (.tail _ (.head _))
    have b3 : @LT.lt Nat _ _ _ := lx2 _ (.tail _ (.tail _ (.head _)))
    have b4 : @LT.lt Nat _ _ _ := lx2 _ (.tail _ (.tail _ (.tail _ (.head _))))
    have b5 : @LT.lt Nat _ _ _ := lx2 _ (.tail _ (.tail _ (.tail _ (.tail _ (.head _)))))
    have b6 : @LT.lt Nat _ _ _ := lx2 _ (.tail _ (.tail _ (.tail _ (.tail _ (.tail _ (.head _))))))
    dsimp only at b1 b2 b3 b4 b5 b6
    have c1 : @LT.lt Nat _ _ _ := lx
    have c2 : @LT.lt Nat _ _ _ := lx1
    obtain ⟨p1, p2, p3, p4, p5, _⟩ := off3
    dsimp only at p1 p2 p3 p4 p5
    clear lx2 lx lx1
    (try k_sweep)
    (try dsimp only)
    k_steps
    (rename Fr _ _ _ _ => F)
    (rename News _ _ _ _ => N)
    obtain ⟨R, NR, hR⟩ := base_gen N c1 c2 b1 b2 b3 b4 b5 b6 (by assumption) (by assumption) dsh (by assumption)
    clear N b1 b2 b3 b4 b5 b6 c1 c2 p1 p2 p3 p4 p5 w1 w2 w3 w4 dsh
    (rename IsRange _ _ _ _ _ _ _ _ => hr)
    refine forSrc_range rfl (n := ws.length) (fun i m₁ nw => BookJ _ R l B dx P W _ _ _ _ tb pv us ws sh (bookOf ws sh pv i) nw ∧ ∃ t, m₁ (Str.ofString "z") = some (.int z t)) rfl F NR hr (range_fit (by omega)).1 (range_fit (by omega)).2 ⟨⟨R, [], [], rfl, hR, .nil, rfl⟩, ⟨_, rfl⟩⟩ ?_ ?_
    · rintro i t m₁ nw I oI h tk hi ⟨⟨T', vs, hs, rfl, hb, hH, hks⟩, ⟨tz, hz'⟩⟩ F2 N2 off
      clear F NR hr
      simp only [Int.zero_add] at F2
      obtain ⟨tp, hpe, hpg⟩ := at_place hc hi
      obtain ⟨o4, h4, d4⟩ := hb.h4
      obtain ⟨o3, h3, d3⟩ := hb.h3
      obtain ⟨o2, t2, h2, d2⟩ := hb.h2
      obtain ⟨o1, h1, d1⟩ := hb.h1
      have hBm := hb.hB
      have hdm := hb.hdx
      have hPm := hb.hP
      have hWm := hb.hW
      (try dsimp only)
      have hx0 := (h16 i).1
      have hx1 := (h16 i).2
      (try (with_reducible show wpAny _ _ _ _ _ _))
      k_fold
      k_steps
      unfold Stop2
      refine' spelled_spec ?kF ?kN ?kX ?kT ?hd ?hun hx0 hx1 ?_
      (case kF => k_asm)
      (case kN => k_asm)
      (case kX => assumption)
      (case kT => assumption)
      (case hd => exact Nat.le_of_ble_eq_true rfl)
      (case hun => exact Nat.le_of_ble_eq_true rfl)
      intro t3 h5 tk5 F5 N5
      (try k_sweep)
      (try dsimp only)
      k_steps
      unfold Stop2
      (rename Fr _ _ _ _ => F6)
      (rename News _ _ _ _ => N6)
      have hvl := congrArg List.length hks
      rw [List.length_map, ← hH.len] at hvl
      have hbl := book_len ws sh pv i
      have hsl : (2000 : Nat) ≤ sizeLine := by decide
      have hIl : I ≠ l := fun e => off (l, LCg.lst vs) (.head _) e.symm
      have offl : ∀ q ∈ (I, oI) :: T', q.1 ≠ l := List.forall_mem_cons.mpr ⟨hIl, hb.off⟩
      have hi5 : i < 5 := by omega
      refine addh_spec F6 X T (news_swap N6) (Nat.le_of_ble_eq_true rfl) (.tail _ hBm) (.tail _ hdm) offl (dec_len hi5) (by omega) (clean_spelled _ hx0 hx1) (clean_dec _ hi5) fun T1 h7 tk7 F7 N7 g1 g2 => ?_
      clear F6 N6
      (try dsimp only)
      k_steps
      unfold Stop2
      (rename Fr _ _ _ _ => F6)
      (rename News _ _ _ _ => N6)
      refine lshift_spec F6 N6 X T (Nat.le_of_ble_eq_true rfl) hx0 (by omega) hs00 (by omega) fun t8 h8 tk8 F8 N8 => ?_
      (try clear F6 N6)
      (try clear F7 N7)
      (try dsimp only)
      k_steps
      unfold Stop2
      refine pretty_spec F8 N8 X T (Nat.le_of_ble_eq_true rfl) (moved_of hx0 hx1 hs00 hs01) fun t9 h9 tk9 F9 N9 => ?_
      clear F8 N8
      (try dsimp only)
      k_steps
      have htk := tell_ok hx0 hx1 hs00 hs01
      refine splitN1A F9 N9 (by decide) (fun l0 hA kA e0 hS0 _ _ FA NA => ?_) (by have := htk.2.1; omega)
      rw [htk.1] at e0
      rw [e0] at hS0
      have hSlt : ∀ p ∈ (l, LCg.lst (vs ++ [Value.ref T1])) :: (T1, tupObj (spelled (ws.getD i 0)) (decS i) t3 tp) :: (I, oI) :: T', p.1 < h9.objs.size := fun p hp => Heap.lt_size (N9 p hp).1
      clear F9 N9
      (try dsimp only)
      have hJ0 := FlagJ.start (oI := oI) (S := h9.objs.size) (oS := { cls := .type "list", data := .seq (strValues l0).toArray }) (T1 := T1) (t1 := t3) (t2 := tp) (k := spelled (ws.getD i 0)) (v := decS i) hb hH hks hIl (fun q hq => off q (.tail _ hq)) (Nat.ne_of_gt g1) (Nat.ne_of_gt (g2 (I, oI) (.head _))) (Nat.ne_of_gt (hSlt _ (.head _))) (Nat.ne_of_gt (hSlt (I, oI) (.tail _ (.tail _ (.head _)))))
      rw [← hpg] at hJ0
      refine forSrc_list rfl (its := (strValues l0).toArray) (fun j m₁ nw => FlagJ _ I oI l B dx P W _ _ _ _ tb pv us sh h9.objs.size _ (bookOf ws sh pv i ++ [(spelled (ws.getD i 0), pv.getD i .none)] ++ ((tellAll (ws.getD i 0 * 2 ^ sh.toNat)).take j).map fun f => (f, pv.getD i .none)) nw ∧ (∃ t, m₁ (Str.ofString "z") = some (.int z t)) ∧ (∃ t, m₁ (Str.ofString "p") = some (.int i t))) rfl FA (news_start NA) (.inr ⟨_, .tail _ (.tail _ (.tail _ (.head _))), rfl, _, rfl⟩) ⟨by rw [List.take_zero, List.map_nil, List.append_nil]; exact hJ0, ⟨_, hz'⟩, ⟨_, rfl⟩⟩ (fun j m₁ nw h => by obtain ⟨⟨T, vs, hs, rfl, _, _, _, hS, _⟩, _⟩ := h; exact .inr ⟨_, .tail _ (.tail _ hS), rfl, _, rfl⟩) ?_ ?_
      · clear FA NA hJ0 hSlt
        rintro j v m₁ nw I2 oI2 h tk hj hv ⟨⟨T2, vs2, hs2, rfl, hb2, hH2, hks2, hS2, _, hTI2⟩, ⟨tz2, hz2⟩, ⟨tp2, hp2⟩⟩ F2 N2 off2
        clear h4 h3 h2 h1 hBm hdm hPm hWm d1 d2 d3 d4
        have hv' : (strValues l0)[j]? = some v := by simpa using hv
        obtain ⟨f, tf, rfl, hf⟩ := strs_at2 hS0 hv'
        obtain ⟨o4, h4, d4⟩ := hb2.h4
        obtain ⟨o3, h3, d3⟩ := hb2.h3
        have hBm := hb2.hB
        have hdm := hb2.hdx
        have hPm := hb2.hP
        have hvl2 := congrArg List.length hks2
        rw [List.length_map, ← hH2.len, List.length_append, List.length_append, List.length_map, List.length_take, List.length_singleton] at hvl2
        have htl := tellAll_len (ws.getD i 0 * 2 ^ sh.toNat)
        have hvs2 : vs2.length ≤ sizeLine := by omega
        (try dsimp only)
        (try (with_reducible show wpAny _ _ _ _ _ _))
        k_fold
        k_steps
        unfold Stop2
        (rename Fr _ _ _ _ => F6)
        (rename News _ _ _ _ => N6)
        have offl2 : ∀ q ∈ (I2, oI2) :: (I, oI) :: T2, q.1 ≠ l := List.forall_mem_cons.mpr ⟨fun e => off2 (l, LCg.lst vs2) (.tail _ (.head _)) e.symm, List.forall_mem_cons.mpr ⟨hIl, hb2.off⟩⟩
        refine addh_spec F6 X T (news_rot N6) (Nat.le_of_ble_eq_true rfl) (.tail _ (.tail _ hBm)) (.tail _ (.tail _ hdm)) offl2 (dec_len hi5) hvs2 (tell_clean _ _ f (List.mem_of_getElem? hf)) (clean_dec _ hi5) fun T3 h7 tk7 F7 N7 g3 g4 => ?_
        clear F6 N6
        (try dsimp only)
        k_steps
        refine ForTurn.next F7 N7 ((I, oI) :: (l, LCg.lst (vs2 ++ [Value.ref T3])) :: (T3, tupObj f (decS i) tf tp) :: T2) (fun p hp => ?_) ?_ ⟨?_, ⟨_, hz2⟩, ⟨_, hp2⟩⟩
        · simp only [List.mem_cons] at hp ⊢
          rcases hp with hp | hp | hp | hp | hp <;> simp [hp]
        · refine List.forall_mem_cons.mpr ⟨off2 _ (.head _), List.forall_mem_cons.mpr ⟨?_, List.forall_mem_cons.mpr ⟨Nat.ne_of_gt (g4 (I2, oI2) (.head _)), fun q hq => off2 q (.tail _ (.tail _ hq))⟩⟩⟩
          exact off2 (l, LCg.lst vs2) (.tail _ (.head _))
        · rw [List.take_add_one, hf, List.map_append, ← List.append_assoc]
          have hst := FlagJ.step (t1 := tf) (t2 := tp) (k := f) (v := decS i) (oI := oI) hb2 hH2 hks2 hS2 hIl hTI2 (Nat.ne_of_gt g3) (Nat.ne_of_gt (g4 (I, oI) (.tail _ (.head _))))
          rw [← hpg] at hst
          exact hst
      · clear FA NA hJ0 hSlt
        rintro h tk m' nw F2 N2 ⟨⟨T2, vs2, hs2, rfl, hb2, hH2, hks2, hS2, _, hTI2⟩, ⟨tz2, hz2⟩, ⟨tp2, hp2⟩⟩
        have hsl0 := hS0.len_eq
        rw [List.size_toArray, hsl0, List.take_length] at hks2
        (try dsimp only)
        k_steps
        refine ForTurn.next (by assumption) (by assumption) ((l, LCg.lst vs2) :: T2) (fun p hp => hp) (List.forall_mem_cons.mpr ⟨hIl.symm, hTI2⟩) ⟨⟨T2, vs2, hs2, rfl, hb2, hH2, ?_⟩, ⟨_, hz2⟩⟩
        rw [hks2, List.append_assoc]
        rfl
    · rintro h tk m' nw F2 N2 ⟨⟨T', vs, hs, rfl, hb, hH, hks⟩, ⟨tz, hz'⟩⟩
      clear F NR hr
      obtain ⟨o4, h4, d4⟩ := hb.h4
      obtain ⟨o3, h3, d3⟩ := hb.h3
      obtain ⟨o2, t2, h2, d2⟩ := hb.h2
      obtain ⟨o1, h1, d1⟩ := hb.h1
      have hBm := hb.hB
      have hdm := hb.hdx
      have hPm := hb.hP
      have hWm := hb.hW
      have hvl := congrArg List.length hks
      rw [List.length_map, ← hH.len] at hvl
      have hbl := book_len ws sh pv ws.length
      have hsl : (2000 : Nat) ≤ sizeLine := by decide
      have htx := book_txt hs00 hs01 h16 hc hks
      (try dsimp only)
      k_steps
      unfold Stop2
      (rename Fr _ _ _ _ => F6)
      (rename News _ _ _ _ => N6)
      refine items_spec F6 N6 X T (Nat.le_of_ble_eq_true rfl) (.tail _ hBm) (.tail _ hdm) (.head _) (by omega) fun D1 h7 tk7 F7 N7 l7 => ?_
      (try clear F6 N6)
      (try dsimp only)
      k_steps
      unfold Stop2
      refine due_spec F7 N7 X T (Nat.le_of_ble_eq_true rfl) (Nat.le_of_ble_eq_true rfl) (.tail _ (.tail _ hWm)) hW h16 (by omega) hs00 hs01 fun D2 T2 vs2 hs2 n2 h8 tk8 F8 N8 s8 hH2 htx2 => ?_
      clear F7 N7
      (try dsimp only)
      k_steps
      unfold Stop2
      refine ne_dats N8 (.tail _ (s8 _ (.head _))) (dat_hdrs (hH.mono fun q hq => List.Mem.tail _ (s8 q (.tail _ (.tail _ hq))))) (.head _) (dat_hdrs (hH2.mono fun q hq => List.Mem.tail _ hq)) ?_ ?_ (Nat.le_of_ble_eq_true rfl) ?_ ?_
      · rw [hdr_dat, htx]; exact ok_pairs (due_ok hs00 hs01 h16 _ (by omega))
      · rw [hdr_dat, htx2]; exact ok_pairs (due_ok hs00 hs01 h16 _ (by omega))
      · rw [hdr_dat, hdr_dat, htx, htx2]
      have N9 : News _ _ _ ((l, LCg.lst vs) :: T') := fun q hq => N8 q (.tail _ (s8 q (.tail _ hq)))
      clear N8 s8 hH2 htx2 l7
      (try dsimp only)
      k_steps
      unfold Stop2
      (rename Fr _ _ _ _ => F6)
      (rename News _ _ _ _ => N6)
      have hcnt := fun k => cnt_ok (h16 k).1 (h16 k).2 hs00 hs01
      have hhl : hs.length ≤ 100 := by rw [← hH.len]; omega
      have hkl : ∀ h ∈ hs, h.1.1.length ≤ 100 := keys_short hs00 hs01 h16 hc hks
      have hplS := strs_of (places_str hc)
      have hplO := places_ok hwl5 hc
      have hpl := hc.len
      refine getall_spec F6 N6 X T (Nat.le_of_ble_eq_true rfl) (.tail _ hBm) (.tail _ hdm) (.head _) (hH.mono fun q hq => .tail _ hq) (by omega) hkl (by decide) (clean_abcd _) fun D1 h7 tk7 F7 N7 l7 => ?_
      rw [hdr_sel (c := fun _ => true) (fun k => by rw [(hcnt k).1, if_pos rfl]) hks, sel_all hc _ (Nat.le_refl _), ← hpl, List.take_length] at N7
      clear F6 N6
      (try dsimp only)
      k_steps
      unfold Stop2
      refine ne_dats N7 (.head _) (dat_strs hplS) (.tail _ (.tail _ hPm)) (dat_strs hplS) (ok_strs (strOf_ok hplO)) (ok_strs (strOf_ok hplO)) (Nat.le_of_ble_eq_true rfl) rfl ?_
      have N9 := news_tail N7
      clear N7
      (try dsimp only)
      k_steps
      unfold Stop2
      (rename Fr _ _ _ _ => F6)
      (rename News _ _ _ _ => N6)
      refine getall_spec F6 N6 X T (Nat.le_of_ble_eq_true rfl) (.tail _ hBm) (.tail _ hdm) (.head _) (hH.mono fun q hq => .tail _ hq) (by omega) hkl (by decide) (clean_0x0 _) fun D1 h7 tk7 F7 N7 l7 => ?_
      rw [hdr_sel (c := fun x => x == 0) (fun k => (hcnt k).2.1) hks] at N7
      clear F6 N6
      (try dsimp only)
      k_steps
      refine .inl ⟨_, pv.toArray, _, fun i ys nw _ => _ = nw ∧ ys = selOf (fun x => x == 0) ws pv i, rfl, rfl, F7, N7, .inr ⟨_, .tail _ (.tail _ hPm), rfl, _, rfl⟩, by rw [List.size_toArray]; omega, ⟨rfl, rfl⟩, ?_, fun _ _ _ _ _ _ h => ⟨h.1, h.2⟩, ?_, ?_⟩
      · rintro i ys nw _ ⟨rfl, rfl⟩
        exact ⟨.inr ⟨LCg.lst pv, .tail _ (.tail _ hPm), rfl, _, rfl⟩, sel_len _ _ _ _⟩
      · clear F7 N7
        intro g' i v ys nw I3 oI3 C3 oC3 D3 m₂ h tk E' hi hv hJ hC hx F N off3 ne
        obtain ⟨rfl, rfl⟩ := hJ
        have hv' : pv[i]? = some v := by simpa using hv
        have hin : i < ws.length := by rw [← hpl]; exact (List.getElem?_eq_some_iff.mp hv').1
        obtain ⟨tp, hpe, hpg⟩ := at_place hc hin
        rw [hpe] at hv'
        obtain rfl := Option.some.inj hv'
        refine wpAny_tests_one ?_
        k_fold
        k_steps
        have hstep : selOf (fun x => x == 0) ws pv (i + 1) = selOf (fun x => x == 0) ws pv i ++ (if (ws.getD i 0 == 0) = true then [pv.getD i .none] else []) := rfl
        refine TestEnd.of (fun hc' => ?_) fun hc' => ?_
        · have hb0 : (ws.getD i 0 == 0) = true := hc'
          (try k_fold)
          k_steps
          refine EltEnd.mk (by assumption) (by assumption) _ (fun p hp => hp) off3 ⟨rfl, ?_⟩
          rw [hstep, if_pos hb0, hpg]
        · have hb0 : (ws.getD i 0 == 0) = false := hc'
          refine EltEnd.mk (by assumption) (by assumption) _ (fun p hp => hp) off3 ⟨rfl, ?_⟩
          rw [hstep, hb0, if_neg Bool.false_ne_true, List.append_nil]
      · clear F7 N7
        rintro D3 h tk ys nw F N off3 ⟨rfl, rfl⟩
        (try dsimp only)
        k_steps
        unfold Stop2
        have hpn : pv.toArray.size = ws.length := by rw [List.size_toArray]; exact hpl
        rw [hpn] at N
        have hselS := strs_of (vs := selOf (fun x => x == 0) ws pv ws.length) (fun v hv => places_str hc v (sel_mem hc _ (Nat.le_refl _) v hv))
        have hselO := strOf_ok (vs := selOf (fun x => x == 0) ws pv ws.length) (fun v hv => hplO v (sel_mem hc _ (Nat.le_refl _) v hv))
        refine ne_dats N (.tail _ (.head _)) (dat_strs hselS) (.head _) (dat_strs hselS) (ok_strs hselO) (ok_strs hselO) (Nat.le_of_ble_eq_true rfl) rfl ?_
        have N9 := news_tail (news_tail N)
        clear N hselS hselO
        (try dsimp only)
        k_steps
        (rename IsRange _ _ _ _ _ _ _ _ => hR)
        (rename Fr _ _ _ _ => F6)
        (rename News _ _ _ _ => N6)
        refine .inr ⟨_, _, _, _, _, _, 4, _, fun i ys nw _ => ColsJ ((l, LCg.lst vs) :: T') ws pv i ys nw, rfl, rfl, F6, N6, hR, by decide, by decide, by decide, ⟨rfl, ⟨[], rfl⟩, fun k hk => absurd hk (Nat.not_lt_zero _)⟩, fun i ys nw _ h => Nat.le_of_eq h.1, fun _ _ _ _ _ _ h => h, ?_, ?_⟩
        · clear F6 N6 hR
          intro g' i v ys nw I3 oI3 C3 oC3 D3 m₂ h tk E' hi hP hJ hC hx F N off3 ne
          obtain ⟨t', rfl⟩ := hP
          have hJ2 := hJ
          obtain ⟨_, ⟨U, rfl⟩, _⟩ := hJ2
          have hB2 := List.mem_append.mpr (.inr (.tail (l, LCg.lst vs) hBm) : _ ∈ U ∨ _)
          have hd2 := List.mem_append.mpr (.inr (.tail (l, LCg.lst vs) hdm) : _ ∈ U ∨ _)
          have hl2 := List.mem_append.mpr (.inr (.head T') : (l, LCg.lst vs) ∈ U ∨ _)
          have h42 := List.mem_append.mpr (.inr (.tail (l, LCg.lst vs) h4) : _ ∈ U ∨ _)
          have h22 := List.mem_append.mpr (.inr (.tail (l, LCg.lst vs) h2) : _ ∈ U ∨ _)
          obtain ⟨V, hV⟩ : ∃ V, V = U ++ (l, LCg.lst vs) :: T' := ⟨_, rfl⟩
          rw [← hV] at N off3 hJ hB2 hd2 hl2 h42 h22
          simp only [Int.zero_add] at hx
          refine wpAny_tests_nil (TestEnd.tt ?_)
          k_fold
          k_steps
          unfold Stop2
          refine' flag_spec (b := sh + (i : Int)) ?kF ?kN ?kX ?kT ?hd (by omega) (by omega) ?_
          (case kF => k_asm)
          (case kN => k_asm)
          (case kX => assumption)
          (case kT => assumption)
          (case hd => exact Nat.le_of_ble_eq_true rfl)
          intro t9 h9 tk9 F9 N9
          have hfl1 := flag_len2 hs00 hs01 hi
          (try k_sweep)
          (try dsimp only)
          k_steps
          unfold Stop2
          refine' getall_spec ?kF ?kN ?kX ?kT ?hd (.tail _ (.tail _ (.tail _ hB2))) (.tail _ (.tail _ (.tail _ hd2))) (.tail _ (.tail _ (.tail _ hl2))) (hH.mono fun q hq => .tail _ (.tail _ (.tail _ (by rw [hV]; exact List.mem_append.mpr (.inr (.tail _ hq)))))) (by omega) hkl (low_len hs00 hs01 hi) (clean_low2 _ hs00 hs01 hi) ?_
          (case kF => k_asm)
          (case kN => k_asm)
          (case kX => assumption)
          (case kT => assumption)
          (case hd => exact Nat.le_of_ble_eq_true rfl)
          intro D8 h8 tk8 F8 N8 off8
          rw [hdr_sel (c := bitB i) (fun k => (hcnt k).2.2 i hi) hks] at N8
          (try clear F9 N9)
          (try dsimp only)
          k_steps
          refine elt_ne F8 N8 off8 off3 ?_
          rw [hV]
          rw [hV] at hJ
          exact hJ.snoc
        · clear F6 N6 hR
          rintro D3 h tk ys nw F N off3 hJ
          (try dsimp only)
          k_steps
          (rename IsRange _ _ _ _ _ _ _ _ => hR)
          (rename Fr _ _ _ _ => F6)
          (rename News _ _ _ _ => N6)
          have hJc := hJ
          obtain ⟨hyl, ⟨U, rfl⟩, hcolm⟩ := hJ
          obtain ⟨V, hV⟩ : ∃ V, V = (D3, LCg.lst ys) :: (U ++ (l, LCg.lst vs) :: T') := ⟨_, rfl⟩
          rw [← hV] at N6
          have hTV : ∀ q ∈ T', q ∈ V := fun q hq => by rw [hV]; exact .tail _ (List.mem_append.mpr (.inr (.tail _ hq)))
          refine ⟨_, _, _, _, _, _, 4, _, fun i zs nw => ColsJ V ws pv i zs nw, rfl, rfl, F6, N6, hR, by decide, by decide, by decide, ⟨rfl, ⟨[], rfl⟩, fun k hk => absurd hk (Nat.not_lt_zero _)⟩, fun i zs nw h => Nat.le_of_eq h.1, ?_, ?_⟩
          · clear F6 N6 hR
            intro k t zs nw2 I3 oI3 C3 oC3 D4 c oc h tk E' hk hJ2 hoc F N off3 offc
            simp only [Int.zero_add] at hoc
            obtain ⟨U2, hU2⟩ := hJ2.2.1
            have hTN : ∀ q ∈ T', q ∈ nw2 := fun q hq => by rw [hU2]; exact List.mem_append.mpr (.inr (hTV q hq))
            have h12 := hTN _ h1
            have h32 := hTN _ h3
            have hP2 := hTN _ hPm
            have hW2 := hTN _ hWm
            clear h1 h2 h3 h4 hPm hWm hBm hdm
            (try k_fold)
            k_steps
            (rename Fr _ _ _ _ => F)
            (rename News _ _ _ _ => N)
            refine .inl ⟨_, pv.toArray, _, fun i ys nw _ => _ = nw ∧ ys = selOf (bitB k) ws pv i, rfl, rfl, F, N, .inr ⟨_, .tail _ (.tail _ (.tail _ (.tail _ hP2))), rfl, _, rfl⟩, by rw [List.size_toArray]; omega, ⟨rfl, rfl⟩, ?_, fun _ _ _ _ _ _ h => ⟨h.1, h.2⟩, ?_, ?_⟩
            · rintro i ys nw _ ⟨rfl, rfl⟩
              exact ⟨.inr ⟨LCg.lst pv, .tail _ (.tail _ (.tail _ (.tail _ hP2))), rfl, _, rfl⟩, sel_len _ _ _ _⟩
            · clear F N
              intro g' i v ys nw I5 oI5 C5 oC5 D5 m₂ h tk E5 hi hv hJ hC hx F N off5 ne5
              obtain ⟨rfl, rfl⟩ := hJ
              have hv' : pv[i]? = some v := by simpa using hv
              have hin : i < ws.length := by rw [← hpl]; exact (List.getElem?_eq_some_iff.mp hv').1
              obtain ⟨tp, hpe, hpg⟩ := at_place hc hin
              rw [hpe] at hv'
              obtain rfl := Option.some.inj hv'
              have hstep : selOf (bitB k) ws pv (i + 1) = selOf (bitB k) ws pv i ++ (if bitB k (ws.getD i 0) = true then [pv.getD i .none] else []) := rfl
              refine wpAny_tests_one ?_
              (try k_fold)
              k_steps
              refine TestEnd.of (fun hc' => ?_) fun hc' => ?_
              · have hb0 : bitB k (ws.getD i 0) = true := hc'
                (try k_fold)
                k_steps
                refine EltEnd.mk (by assumption) (by assumption) _ (fun p hp => hp) off5 ⟨rfl, ?_⟩
                rw [hstep, if_pos hb0, hpg]
              · have hb0 : bitB k (ws.getD i 0) = false := hc'
                refine EltEnd.mk (by assumption) (by assumption) _ (fun p hp => hp) off5 ⟨rfl, ?_⟩
                rw [hstep, hb0, if_neg Bool.false_ne_true, List.append_nil]
            · clear F N
              rintro D5 h tk ys nw F N offD ⟨rfl, rfl⟩
              (try dsimp only)
              k_steps
              have hpn : pv.toArray.size = ws.length := by rw [List.size_toArray]; exact hpl
              rw [hpn] at N
              have oD := fun (p : Addr × Obj) (hp : p ∈ CLed I3 oI3 C3 oC3 D4 zs ((c, oc) :: nw2)) => off1_ne offD hp
              refine EltEnd.mk F N ((c, oc) :: (D5, LCg.lst (selOf (bitB k) ws pv ws.length)) :: nw2) (fun p hp => ?_) ⟨off3.1, ⟨Ne.symm (oD (I3, oI3) (.head _)), Ne.symm (oD (C3, oC3) (.tail _ (.head _))), Ne.symm (oD (D4, LCg.lst zs) (.tail _ (.tail _ (.head _))))⟩, off3.2⟩ ⟨_, rfl, List.forall_mem_cons.mpr ⟨Ne.symm (oD (c, oc) (.tail _ (.tail _ (.tail _ (.head _))))), offc⟩, hJ2.snoc⟩
              simp only [List.mem_cons] at hp ⊢
              rcases hp with hp | hp | hp | hp | hp | hp <;> simp [hp]
          · clear F6 N6 hR
            rintro D4 h tk zs nw2 F N offD hJ2
            (try dsimp only)
            k_steps
            unfold Stop2
            obtain ⟨U2, hU2⟩ := hJ2.2.1
            have hVN : ∀ q ∈ V, q ∈ nw2 := fun q hq => by rw [hU2]; exact List.mem_append.mpr (.inr hq)
            have hD3 : (D3, LCg.lst ys) ∈ nw2 := hVN _ (by rw [hV]; exact .head _)
            have hcolm2 : ColsJ ((l, LCg.lst vs) :: T') ws pv 4 ys (U ++ (l, LCg.lst vs) :: T') := hJc
            have hdatA := datAll_mono (cols_dat hc hJc) fun q hq => List.Mem.tail (D4, LCg.lst zs) (hVN q (by rw [hV]; exact .tail _ hq))
            have hdatB := datAll_mono (cols_dat hc hJ2) fun q hq => List.Mem.tail (D4, LCg.lst zs) hq
            refine ne_dats N (.tail _ hD3) hdatA (.head _) hdatB (cols_ok hwl5 hc) (cols_ok hwl5 hc) (Nat.le_of_ble_eq_true rfl) rfl ?_
            have N9 : News _ _ _ ((D3, LCg.lst ys) :: (U ++ (l, LCg.lst vs) :: T')) := fun q hq => N q (.tail _ (hVN q (by rw [hV]; exact hq)))
            clear N hdatA hdatB hJ2 hVN hD3 hTV hV hU2
            (try dsimp only)
            (rename Fr _ _ _ _ => F6)
            (rename News _ _ _ _ => N6)
            have hB2 : (B, instObj 260 dx) ∈ (D3, LCg.lst ys) :: (U ++ (l, LCg.lst vs) :: T') := .tail _ (List.mem_append.mpr (.inr (.tail _ hBm)))
            have hd2 : (dx, hdrDict _ l tb) ∈ (D3, LCg.lst ys) :: (U ++ (l, LCg.lst vs) :: T') := .tail _ (List.mem_append.mpr (.inr (.tail _ hdm)))
            have hl2 : (l, LCg.lst vs) ∈ (D3, LCg.lst ys) :: (U ++ (l, LCg.lst vs) :: T') := .tail _ (List.mem_append.mpr (.inr (.head _)))
            have h42 : (_, o4) ∈ (D3, LCg.lst ys) :: (U ++ (l, LCg.lst vs) :: T') := .tail _ (List.mem_append.mpr (.inr (.tail _ h4)))
            have hH2 : HdrsAre ((D3, LCg.lst ys) :: (U ++ (l, LCg.lst vs) :: T')) vs hs := hH.mono fun q hq => .tail _ (List.mem_append.mpr (.inr (.tail _ hq)))
            obtain ⟨V, hV⟩ : ∃ V, V = (D3, LCg.lst ys) :: (U ++ (l, LCg.lst vs) :: T') := ⟨_, rfl⟩
            rw [← hV] at N6 hB2 hd2 hl2 h42 hH2
            (try dsimp only)
            k_steps
            unfold Stop2
            (rename Fr _ _ _ _ => F7)
            (rename News _ _ _ _ => N7)
            refine keys_spec F7 N7 X T (Nat.le_of_ble_eq_true rfl) hB2 hd2 hl2 hH2 (by omega) fun D8 h8 tk8 F8 N8 off8 => ?_
            (try clear F7 N7)
            (try clear F6 N6)
            (try dsimp only)
            k_steps
            have hkn : (hs.map fun (h : Hdr) => Value.str h.1.1 h.1.2).toArray.size = hs.length := by rw [List.size_toArray, List.length_map]
            refine .inl ⟨D8, (hs.map fun (h : Hdr) => Value.str h.1.1 h.1.2).toArray, _, fun i zs nw _ => _ = nw ∧ StrsAre zs (((hs.map fun (h : Hdr) => h.1.1).take i).filter isAbcd), rfl, rfl, F8, N8, .inr ⟨_, .head _, rfl, _, rfl⟩, by rw [hkn]; omega, ⟨rfl, .nil⟩, ?_, fun _ _ _ _ _ _ h => ⟨h.1, h.2⟩, ?_, ?_⟩
            · rintro i zs nw _ ⟨rfl, hz⟩
              refine ⟨.inr ⟨LCg.lst (hs.map fun (h : Hdr) => Value.str h.1.1 h.1.2), .head _, rfl, _, rfl⟩, ?_⟩
              rw [hz.len_eq]
              exact Nat.le_trans (List.length_filter_le _ _) (by rw [List.length_take]; exact Nat.min_le_left _ _)
            · clear F8 N8
              intro g' i v zs nw I5 oI5 C5 oC5 D5 m₂ h tk E5 hi hv hJ hC hx F N off5 ne5
              obtain ⟨rfl, hz⟩ := hJ
              have hv' : (hs.map fun (h : Hdr) => Value.str h.1.1 h.1.2)[i]? = some v := by simpa using hv
              rw [List.getElem?_map] at hv'
              obtain ⟨hd, hhd, rfl⟩ := Option.map_eq_some_iff.mp hv'
              have hks1 := hkl hd (List.mem_of_getElem? hhd)
              have hstep : ((hs.map fun (h : Hdr) => h.1.1).take (i + 1)).filter isAbcd = ((hs.map fun (h : Hdr) => h.1.1).take i).filter isAbcd ++ (if isAbcd hd.1.1 = true then [hd.1.1] else []) := by
                rw [List.take_add_one, List.getElem?_map, hhd, List.filter_append]
                congr 1
                cases hq : isAbcd hd.1.1 <;> simp [hq]
              refine wpAny_tests_one ?_
              (try k_fold)
              k_steps
              refine TestEnd.of (fun hc' => ?_) fun hc' => ?_
              · have hb0 : isAbcd hd.1.1 = true := hc'
                (try k_fold)
                k_steps
                refine EltEnd.mk (by assumption) (by assumption) _ (fun p hp => hp) off5 ⟨rfl, ?_⟩
                rw [hstep, if_pos hb0]
                exact strs_snoc hz _ _
              · have hb0 : isAbcd hd.1.1 = false := hc'
                refine EltEnd.mk (by assumption) (by assumption) _ (fun p hp => hp) off5 ⟨rfl, ?_⟩
                rw [hstep, hb0, if_neg Bool.false_ne_true, List.append_nil]
                exact hz
            · clear F8 N8
              rintro D9 h tk zs nw F N offD ⟨rfl, hz⟩
              rw [hkn, show hs.length = (hs.map fun (h : Hdr) => h.1.1).length from (List.length_map ..).symm, List.take_length, keys_abcd hs00 hs01 h16 hks] at hz
              have hWV : (W, LCg.lst us) ∈ V := by rw [hV]; exact .tail _ (List.mem_append.mpr (.inr (.tail _ hWm)))
              have hPV : (P, LCg.lst pv) ∈ V := by rw [hV]; exact .tail _ (List.mem_append.mpr (.inr (.tail _ hPm)))
              have hDV : (D3, LCg.lst ys) ∈ V := by rw [hV]; exact .head _
              have hTV : ∀ q ∈ T', q ∈ V := fun q hq => by rw [hV]; exact .tail _ (List.mem_append.mpr (.inr (.tail _ hq)))
              have h1V := hTV _ h1
              have h3V := hTV _ h3
              have hcolV : ∀ k, k < 4 → ∃ D, ys[k]? = some (.ref D) ∧ (D, LCg.lst (selOf (bitB k) ws pv ws.length)) ∈ V := fun k hk => by
                obtain ⟨D, e, hm⟩ := hcolm k hk
                exact ⟨D, e, by rw [hV]; exact .tail _ hm⟩
              (try dsimp only)
              k_steps
              unfold Stop2
              (rename Fr _ _ _ _ => F6)
              (rename News _ _ _ _ => N6)
              refine bydist_spec (n1 := zs.length) (n2 := us.length) F6 N6 X T (Nat.le_of_ble_eq_true rfl) (Nat.le_of_ble_eq_true rfl) (.head _) hz (.tail _ (.tail _ hWV)) hW h16 (by omega) hz00 hz01 fun t1 h9 tk9 F9 N9 => ?_
              (try clear F6 N6)
              (try dsimp only)
              k_steps
              unfold Stop2
              refine bycol_spec (cols := colsOf ws pv) (n1 := ys.length) (n2 := pv.length) F9 N9 X T (Nat.le_of_ble_eq_true rfl) (.tail _ (.tail _ hDV)) (.tail _ (.tail _ hPV)) (fun k hk => ?_) (colsOf_sub hc) (colsOf_len ws pv hwl5) (places_pl hc) (by omega) hz00 hz01 fun t2 hA tkA FA NA => ?_
              · obtain ⟨D, e, hm⟩ := hcolV k hk
                exact ⟨D, (selOf (bitB k) ws pv ws.length).length, e, by rw [colsOf_get ws pv hk]; exact .tail _ (.tail _ hm)⟩
              rw [← mac z hc hwl5 h16]
              clear F9 N9
              (try dsimp only)
              k_steps
end Mine
theorem PySem.Challenge.cw_ta0074_01_holds : PySem.Challenge.rw_ta0074_01.Holds :=
  Mine.walk
