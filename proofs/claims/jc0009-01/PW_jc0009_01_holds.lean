import PyProof.Rows.All
import Wide.All
import OpenK.AllK
import Wide.FinOn
import PyProof.Draws
import PyProof.Rows.CellsNews
import KE.KTurnsAny
import KE.KPairComp
import PyProof.DictCompW
import PyProof.TupleIter
import PySem.Challenge.RW_jc0009_01
set_option Elab.async false
set_option linter.all false
section
open PySem PySem.W PyProof.Rows
set_option maxRecDepth 100000
set_option maxHeartbeats 8000000
namespace Mine
/-! what the top leaves: the objects of the heap; a def's parts are read from the program -/
noncomputable def hS : List Stmt → Stmt
  | a :: _ => a
  | [] => .Pass default
noncomputable def tS : List Stmt → List Stmt
  | _ :: r => r
  | [] => []
noncomputable def nS : Nat → List Stmt → Stmt
  | 0, l => hS l
  | n + 1, l => nS n (tS l)
noncomputable def pS : Stmt → Arguments
  | .FunctionDef _ a .. => a
  | _ => default
noncomputable def bS : Stmt → List Stmt
  | .FunctionDef _ _ b .. => b
  | .ClassDef _ _ _ b .. => b
  | _ => []
noncomputable def sS : Stmt → Scope
  | .FunctionDef _ _ _ _ _ _ s .. => s
  | _ => default
noncomputable def isFS : Stmt → Bool
  | .Assign [.Name x _] _ _ => x != Str.ofString "__name__"
  | _ => true
noncomputable def hd.heap_39 : Params → Frag := by
  refine (?f : (pS (nS 1 PySem.Challenge.pw_jc0009_01.main.body)) = ?x0 → (bS (nS 1 PySem.Challenge.pw_jc0009_01.main.body)) = ?x1 → (sS (nS 1 PySem.Challenge.pw_jc0009_01.main.body)) = ?x2 → (pS (nS 0 (bS (nS 3 PySem.Challenge.pw_jc0009_01.main.body)))) = ?x3 → (bS (nS 0 (bS (nS 3 PySem.Challenge.pw_jc0009_01.main.body)))) = ?x4 → (sS (nS 0 (bS (nS 3 PySem.Challenge.pw_jc0009_01.main.body)))) = ?x5 → (pS (nS 1 (bS (nS 3 PySem.Challenge.pw_jc0009_01.main.body)))) = ?x6 → (bS (nS 1 (bS (nS 3 PySem.Challenge.pw_jc0009_01.main.body)))) = ?x7 → (sS (nS 1 (bS (nS 3 PySem.Challenge.pw_jc0009_01.main.body)))) = ?x8 → (pS (nS 4 PySem.Challenge.pw_jc0009_01.main.body)) = ?x9 → (bS (nS 4 PySem.Challenge.pw_jc0009_01.main.body)) = ?x10 → (sS (nS 4 PySem.Challenge.pw_jc0009_01.main.body)) = ?x11 → (pS (nS 9 PySem.Challenge.pw_jc0009_01.main.body)) = ?x12 → (bS (nS 9 PySem.Challenge.pw_jc0009_01.main.body)) = ?x13 → (sS (nS 9 PySem.Challenge.pw_jc0009_01.main.body)) = ?x14 → (pS (nS 10 PySem.Challenge.pw_jc0009_01.main.body)) = ?x15 → (bS (nS 10 PySem.Challenge.pw_jc0009_01.main.body)) = ?x16 → (sS (nS 10 PySem.Challenge.pw_jc0009_01.main.body)) = ?x17 → (pS (nS 12 PySem.Challenge.pw_jc0009_01.main.body)) = ?x18 → (bS (nS 12 PySem.Challenge.pw_jc0009_01.main.body)) = ?x19 → (sS (nS 12 PySem.Challenge.pw_jc0009_01.main.body)) = ?x20 → (pS (nS 13 PySem.Challenge.pw_jc0009_01.main.body)) = ?x21 → (bS (nS 13 PySem.Challenge.pw_jc0009_01.main.body)) = ?x22 → (sS (nS 13 PySem.Challenge.pw_jc0009_01.main.body)) = ?x23 → (pS (nS 14 PySem.Challenge.pw_jc0009_01.main.body)) = ?x24 → (bS (nS 14 PySem.Challenge.pw_jc0009_01.main.body)) = ?x25 → (sS (nS 14 PySem.Challenge.pw_jc0009_01.main.body)) = ?x26 → (pS (nS 15 PySem.Challenge.pw_jc0009_01.main.body)) = ?x27 → (bS (nS 15 PySem.Challenge.pw_jc0009_01.main.body)) = ?x28 → (sS (nS 15 PySem.Challenge.pw_jc0009_01.main.body)) = ?x29 → (pS (nS 16 PySem.Challenge.pw_jc0009_01.main.body)) = ?x30 → (bS (nS 16 PySem.Challenge.pw_jc0009_01.main.body)) = ?x31 → (sS (nS 16 PySem.Challenge.pw_jc0009_01.main.body)) = ?x32 → (pS (nS 17 PySem.Challenge.pw_jc0009_01.main.body)) = ?x33 → (bS (nS 17 PySem.Challenge.pw_jc0009_01.main.body)) = ?x34 → (sS (nS 17 PySem.Challenge.pw_jc0009_01.main.body)) = ?x35 → (pS (nS 18 PySem.Challenge.pw_jc0009_01.main.body)) = ?x36 → (bS (nS 18 PySem.Challenge.pw_jc0009_01.main.body)) = ?x37 → (sS (nS 18 PySem.Challenge.pw_jc0009_01.main.body)) = ?x38 → (pS (nS 19 PySem.Challenge.pw_jc0009_01.main.body)) = ?x39 → (bS (nS 19 PySem.Challenge.pw_jc0009_01.main.body)) = ?x40 → (sS (nS 19 PySem.Challenge.pw_jc0009_01.main.body)) = ?x41 → (pS (nS 20 PySem.Challenge.pw_jc0009_01.main.body)) = ?x42 → (bS (nS 20 PySem.Challenge.pw_jc0009_01.main.body)) = ?x43 → (sS (nS 20 PySem.Challenge.pw_jc0009_01.main.body)) = ?x44 → (pS (nS 21 PySem.Challenge.pw_jc0009_01.main.body)) = ?x45 → (bS (nS 21 PySem.Challenge.pw_jc0009_01.main.body)) = ?x46 → (sS (nS 21 PySem.Challenge.pw_jc0009_01.main.body)) = ?x47 → (pS (nS 22 PySem.Challenge.pw_jc0009_01.main.body)) = ?x48 → (bS (nS 22 PySem.Challenge.pw_jc0009_01.main.body)) = ?x49 → (sS (nS 22 PySem.Challenge.pw_jc0009_01.main.body)) = ?x50 → (pS (nS 23 PySem.Challenge.pw_jc0009_01.main.body)) = ?x51 → (bS (nS 23 PySem.Challenge.pw_jc0009_01.main.body)) = ?x52 → (sS (nS 23 PySem.Challenge.pw_jc0009_01.main.body)) = ?x53 → Params → Frag) ?h0 ?h1 ?h2 ?h3 ?h4 ?h5 ?h6 ?h7 ?h8 ?h9 ?h10 ?h11 ?h12 ?h13 ?h14 ?h15 ?h16 ?h17 ?h18 ?h19 ?h20 ?h21 ?h22 ?h23 ?h24 ?h25 ?h26 ?h27 ?h28 ?h29 ?h30 ?h31 ?h32 ?h33 ?h34 ?h35 ?h36 ?h37 ?h38 ?h39 ?h40 ?h41 ?h42 ?h43 ?h44 ?h45 ?h46 ?h47 ?h48 ?h49 ?h50 ?h51 ?h52 ?h53
  case f => exact fun _ _ _ _ _ _ _ _ _ _ _ _ _ _ _ _ _ _ _ _ _ _ _ _ _ _ _ _ _ _ _ _ _ _ _ _ _ _ _ _ _ _ _ _ _ _ _ _ _ _ _ _ _ _ => fun P => (    (nat_lit 2, ({ cls := Value.none, data := Data.dict #[] } : Obj)) ::
    (nat_lit 3, ({ cls := Value.type "dict", data := Data.dict #[{ hash := PyData.keyHash P (Str.ofString "__name__"), key := Value.str (Str.ofString "__name__") 165, val := Value.str (Str.ofString "law_jc0009_01") 290 }, { hash := PyData.keyHash P (Str.ofString "__doc__"), key := Value.str (Str.ofString "__doc__") 166, val := Value.none }, { hash := PyData.keyHash P (Str.ofString "__package__"), key := Value.str (Str.ofString "__package__") 167, val := Value.none }, { hash := PyData.keyHash P (Str.ofString "__loader__"), key := Value.str (Str.ofString "__loader__") 168, val := Value.builtin "__main__.__loader__#opaque" }, { hash := PyData.keyHash P (Str.ofString "__spec__"), key := Value.str (Str.ofString "__spec__") 169, val := Value.none }, { hash := PyData.keyHash P (Str.ofString "__annotations__"), key := Value.str (Str.ofString "__annotations__") 170, val := Value.ref 6 }, { hash := PyData.keyHash P (Str.ofString "__builtins__"), key := Value.str (Str.ofString "__builtins__") 171, val := Value.ref 4 }, { hash := PyData.keyHash P (Str.ofString "__file__"), key := Value.str (Str.ofString "__file__") 173, val := Value.str (Str.ofString "/claim/cut.py") 172 }, { hash := PyData.keyHash P (Str.ofString "__cached__"), key := Value.str (Str.ofString "__cached__") 174, val := Value.none }, { hash := PyData.keyHash P (Str.ofString "_strip_padding"), key := Value.str (Str.ofString "_strip_padding") 198, val := Value.ref 21 }, { hash := PyData.keyHash P (Str.ofString "TupleComp"), key := Value.str (Str.ofString "TupleComp") 242, val := Value.ref 45 }, { hash := PyData.keyHash P (Str.ofString "add_callers"), key := Value.str (Str.ofString "add_callers") 253, val := Value.ref 56 }, { hash := PyData.keyHash P (Str.ofString "_MAX_STRING_SIZE"), key := Value.str (Str.ofString "_MAX_STRING_SIZE") 257, val := Value.int 40 256 }, { hash := PyData.keyHash P (Str.ofString "_MOVE_COST"), key := Value.str (Str.ofString "_MOVE_COST") 259, val := Value.int 2 258 }, { hash := PyData.keyHash P (Str.ofString "_CASE_COST"), key := Value.str (Str.ofString "_CASE_COST") 261, val := Value.int 1 260 }, { hash := PyData.keyHash P (Str.ofString "_substitution_cost"), key := Value.str (Str.ofString "_substitution_cost") 269, val := Value.ref 63 }, { hash := PyData.keyHash P (Str.ofString "_levenshtein_distance"), key := Value.str (Str.ofString "_levenshtein_distance") 289, val := Value.ref 70 }, { hash := PyData.keyHash P (Str.ofString "_law_cells"), key := Value.str (Str.ofString "_law_cells") 300, val := Value.ref 77 }, { hash := PyData.keyHash P (Str.ofString "_law_line"), key := Value.str (Str.ofString "_law_line") 309, val := Value.ref 84 }, { hash := PyData.keyHash P (Str.ofString "_law_lines"), key := Value.str (Str.ofString "_law_lines") 315, val := Value.ref 89 }, { hash := PyData.keyHash P (Str.ofString "_law_end"), key := Value.str (Str.ofString "_law_end") 326, val := Value.ref 96 }, { hash := PyData.keyHash P (Str.ofString "_law_moved"), key := Value.str (Str.ofString "_law_moved") 342, val := Value.ref 103 }, { hash := PyData.keyHash P (Str.ofString "_law_weights"), key := Value.str (Str.ofString "_law_weights") 348, val := Value.ref 108 }, { hash := PyData.keyHash P (Str.ofString "_law_fronts"), key := Value.str (Str.ofString "_law_fronts") 354, val := Value.ref 113 }, { hash := PyData.keyHash P (Str.ofString "_law_apart"), key := Value.str (Str.ofString "_law_apart") 365, val := Value.ref 120 }, { hash := PyData.keyHash P (Str.ofString "_law_judged"), key := Value.str (Str.ofString "_law_judged") 371, val := Value.ref 125 }, { hash := PyData.keyHash P (Str.ofString "_law_products"), key := Value.str (Str.ofString "_law_products") 377, val := Value.ref 130 }, { hash := PyData.keyHash P (Str.ofString "_law_less"), key := Value.str (Str.ofString "_law_less") 383, val := Value.ref 135 }, { hash := PyData.keyHash P (Str.ofString "law"), key := Value.str (Str.ofString "law") 389, val := Value.ref 140 }] 29 } : Obj)) ::
    (nat_lit 6, ({ cls := Value.type "dict", data := Data.dict #[] } : Obj)) ::
    (nat_lit 15, ({ cls := Value.type "tuple", data := Data.seq #[] } : Obj)) ::
    (nat_lit 17, ({ cls := Value.type "tuple", data := Data.seq #[Value.str (Str.ofString "s") 192, Value.str (Str.ofString "amount") 193, Value.str (Str.ofString "lpos") 194, Value.str (Str.ofString "rpos") 195] } : Obj)) ::
    (nat_lit 18, ({ cls := Value.type "tuple", data := Data.seq #[] } : Obj)) ::
    (nat_lit 20, ({ cls := Value.type "code", data := Data.fields #[Value.str (Str.ofString "_strip_padding") 189, Value.str (Str.ofString "_strip_padding") 190, Value.str (Str.ofString "/claim/cut.py") 191, Value.int 2 0, Value.int 2 0, Value.int 0 0, Value.int 0 0, Value.int 3 0, Value.ref 15, Value.bool true, Value.int 181 0, Value.ref 16, Value.none, Value.ref 17, Value.ref 18, Value.ref 19, Value.int 196 0, Value.int 2 0, Value.str (Str.ofString "/claim/cut.py") 197] } : Obj)) ::
    (nat_lit 21, ({ cls := Value.type "function", data := Data.func { name := Str.ofString "_strip_padding", qualname := Str.ofString "_strip_padding", params := ?x0, body := FuncBody.stmts ?x1, scope := ?x2, globals := 3, closure := [], defaults := Value.none, kwdefaults := Value.none, pyModule := Value.str (Str.ofString "cpy313.locale") 187, code := Value.ref 20 } } : Obj)) ::
    (nat_lit 29, ({ cls := Value.type "tuple", data := Data.seq #[] } : Obj)) ::
    (nat_lit 31, ({ cls := Value.type "tuple", data := Data.seq #[Value.str (Str.ofString "self") 216, Value.str (Str.ofString "comp_select_list") 217] } : Obj)) ::
    (nat_lit 32, ({ cls := Value.type "tuple", data := Data.seq #[] } : Obj)) ::
    (nat_lit 34, ({ cls := Value.type "code", data := Data.fields #[Value.str (Str.ofString "__init__") 213, Value.str (Str.ofString "TupleComp.__init__") 214, Value.str (Str.ofString "/claim/cut.py") 215, Value.int 15 0, Value.int 2 0, Value.int 0 0, Value.int 0 0, Value.int 3 0, Value.ref 29, Value.bool true, Value.int 181 0, Value.ref 30, Value.none, Value.ref 31, Value.ref 32, Value.ref 33, Value.int 218 0, Value.int 15 0, Value.str (Str.ofString "/claim/cut.py") 219] } : Obj)) ::
    (nat_lit 35, ({ cls := Value.type "function", data := Data.func { name := Str.ofString "__init__", qualname := Str.ofString "TupleComp.__init__", params := ?x3, body := FuncBody.stmts ?x4, scope := ?x5, globals := 3, closure := [], defaults := Value.none, kwdefaults := Value.none, pyModule := Value.str (Str.ofString "cpy313.pstats") 199, code := Value.ref 34 } } : Obj)) ::
    (nat_lit 36, ({ cls := Value.type "tuple", data := Data.seq #[] } : Obj)) ::
    (nat_lit 38, ({ cls := Value.type "tuple", data := Data.seq #[Value.str (Str.ofString "self") 224, Value.str (Str.ofString "left") 225, Value.str (Str.ofString "right") 226, Value.str (Str.ofString "index") 227, Value.str (Str.ofString "direction") 228, Value.str (Str.ofString "l") 229, Value.str (Str.ofString "r") 230] } : Obj)) ::
    (nat_lit 39, ({ cls := Value.type "tuple", data := Data.seq #[] } : Obj)) ::
    (nat_lit 41, ({ cls := Value.type "code", data := Data.fields #[Value.str (Str.ofString "compare") 221, Value.str (Str.ofString "TupleComp.compare") 222, Value.str (Str.ofString "/claim/cut.py") 223, Value.int 18 0, Value.int 3 0, Value.int 0 0, Value.int 0 0, Value.int 3 0, Value.ref 36, Value.bool true, Value.int 181 0, Value.ref 37, Value.none, Value.ref 38, Value.ref 39, Value.ref 40, Value.int 231 0, Value.int 18 0, Value.str (Str.ofString "/claim/cut.py") 232] } : Obj)) ::
    (nat_lit 42, ({ cls := Value.type "function", data := Data.func { name := Str.ofString "compare", qualname := Str.ofString "TupleComp.compare", params := ?x6, body := FuncBody.stmts ?x7, scope := ?x8, globals := 3, closure := [], defaults := Value.none, kwdefaults := Value.none, pyModule := Value.str (Str.ofString "cpy313.pstats") 199, code := Value.ref 41 } } : Obj)) ::
    (nat_lit 43, ({ cls := Value.type "tuple", data := Data.seq #[Value.str (Str.ofString "comp_select_list") 234] } : Obj)) ::
    (nat_lit 44, ({ cls := Value.type "dict", data := Data.dict #[{ hash := PyData.keyHash P (Str.ofString "__module__"), key := Value.str (Str.ofString "__module__") 208, val := Value.str (Str.ofString "cpy313.pstats") 199 }, { hash := PyData.keyHash P (Str.ofString "__firstlineno__"), key := Value.str (Str.ofString "__firstlineno__") 212, val := Value.int 13 211 }, { hash := PyData.keyHash P (Str.ofString "__init__"), key := Value.str (Str.ofString "__init__") 220, val := Value.ref 35 }, { hash := PyData.keyHash P (Str.ofString "compare"), key := Value.str (Str.ofString "compare") 233, val := Value.ref 42 }, { hash := PyData.keyHash P (Str.ofString "__static_attributes__"), key := Value.str (Str.ofString "__static_attributes__") 235, val := Value.ref 43 }, { hash := PyData.keyHash P (Str.ofString "__dict__"), key := Value.str (Str.ofString "__dict__") 237, val := Value.ref 46 }, { hash := PyData.keyHash P (Str.ofString "__weakref__"), key := Value.str (Str.ofString "__weakref__") 239, val := Value.ref 47 }, { hash := PyData.keyHash P (Str.ofString "__doc__"), key := Value.str (Str.ofString "__doc__") 240, val := Value.none }] 4 } : Obj)) ::
    (nat_lit 45, ({ cls := Value.type "type", data := Data.cls { name := Str.ofString "TupleComp", bases := [Value.type "object"], mro := [Value.ref 45, Value.type "object"], ns := 44, qualname := Str.ofString "TupleComp" }, slots := #[none, none, some (Value.str (Str.ofString "TupleComp") 201), some (Value.str (Str.ofString "TupleComp") 209), some (Value.builtin "object.__new__"), some (Value.bool true)] } : Obj)) ::
    (nat_lit 46, ({ cls := Value.type "getset_descriptor", data := Data.fields #[Value.str (Str.ofString "__dict__") 236, Value.ref 45, Value.builtin "function.__dict__", Value.builtin "function.__dict__#set"] } : Obj)) ::
    (nat_lit 47, ({ cls := Value.type "getset_descriptor", data := Data.fields #[Value.str (Str.ofString "__weakref__") 238, Value.ref 45, Value.builtin "ExceptionGroup.__weakref__", Value.none] } : Obj)) ::
    (nat_lit 50, ({ cls := Value.type "tuple", data := Data.seq #[] } : Obj)) ::
    (nat_lit 52, ({ cls := Value.type "tuple", data := Data.seq #[Value.str (Str.ofString "target") 246, Value.str (Str.ofString "source") 247, Value.str (Str.ofString "new_callers") 248, Value.str (Str.ofString "func") 249, Value.str (Str.ofString "caller") 250] } : Obj)) ::
    (nat_lit 53, ({ cls := Value.type "tuple", data := Data.seq #[] } : Obj)) ::
    (nat_lit 55, ({ cls := Value.type "code", data := Data.fields #[Value.str (Str.ofString "add_callers") 243, Value.str (Str.ofString "add_callers") 244, Value.str (Str.ofString "/claim/cut.py") 245, Value.int 27 0, Value.int 2 0, Value.int 0 0, Value.int 0 0, Value.int 3 0, Value.ref 50, Value.bool true, Value.int 181 0, Value.ref 51, Value.none, Value.ref 52, Value.ref 53, Value.ref 54, Value.int 251 0, Value.int 27 0, Value.str (Str.ofString "/claim/cut.py") 252] } : Obj)) ::
    (nat_lit 56, ({ cls := Value.type "function", data := Data.func { name := Str.ofString "add_callers", qualname := Str.ofString "add_callers", params := ?x9, body := FuncBody.stmts ?x10, scope := ?x11, globals := 3, closure := [], defaults := Value.none, kwdefaults := Value.none, pyModule := Value.str (Str.ofString "cpy313.pstats") 199, code := Value.ref 55 } } : Obj)) ::
    (nat_lit 57, ({ cls := Value.type "tuple", data := Data.seq #[] } : Obj)) ::
    (nat_lit 59, ({ cls := Value.type "tuple", data := Data.seq #[Value.str (Str.ofString "ch_a") 265, Value.str (Str.ofString "ch_b") 266] } : Obj)) ::
    (nat_lit 60, ({ cls := Value.type "tuple", data := Data.seq #[] } : Obj)) ::
    (nat_lit 62, ({ cls := Value.type "code", data := Data.fields #[Value.str (Str.ofString "_substitution_cost") 262, Value.str (Str.ofString "_substitution_cost") 263, Value.str (Str.ofString "/claim/cut.py") 264, Value.int 44 0, Value.int 2 0, Value.int 0 0, Value.int 0 0, Value.int 3 0, Value.ref 57, Value.bool true, Value.int 181 0, Value.ref 58, Value.none, Value.ref 59, Value.ref 60, Value.ref 61, Value.int 267 0, Value.int 44 0, Value.str (Str.ofString "/claim/cut.py") 268] } : Obj)) ::
    (nat_lit 63, ({ cls := Value.type "function", data := Data.func { name := Str.ofString "_substitution_cost", qualname := Str.ofString "_substitution_cost", params := ?x12, body := FuncBody.stmts ?x13, scope := ?x14, globals := 3, closure := [], defaults := Value.none, kwdefaults := Value.none, pyModule := Value.str (Str.ofString "cpy313.traceback") 254, code := Value.ref 62 } } : Obj)) ::
    (nat_lit 64, ({ cls := Value.type "tuple", data := Data.seq #[] } : Obj)) ::
    (nat_lit 66, ({ cls := Value.type "tuple", data := Data.seq #[Value.str (Str.ofString "a") 273, Value.str (Str.ofString "b") 274, Value.str (Str.ofString "max_cost") 275, Value.str (Str.ofString "pre") 276, Value.str (Str.ofString "post") 277, Value.str (Str.ofString "row") 278, Value.str (Str.ofString "result") 279, Value.str (Str.ofString "bindex") 280, Value.str (Str.ofString "bchar") 281, Value.str (Str.ofString "distance") 282, Value.str (Str.ofString "minimum") 283, Value.str (Str.ofString "index") 284, Value.str (Str.ofString "substitute") 285, Value.str (Str.ofString "insert_delete") 286] } : Obj)) ::
    (nat_lit 67, ({ cls := Value.type "tuple", data := Data.seq #[] } : Obj)) ::
    (nat_lit 69, ({ cls := Value.type "code", data := Data.fields #[Value.str (Str.ofString "_levenshtein_distance") 270, Value.str (Str.ofString "_levenshtein_distance") 271, Value.str (Str.ofString "/claim/cut.py") 272, Value.int 50 0, Value.int 3 0, Value.int 0 0, Value.int 0 0, Value.int 3 0, Value.ref 64, Value.bool true, Value.int 181 0, Value.ref 65, Value.none, Value.ref 66, Value.ref 67, Value.ref 68, Value.int 287 0, Value.int 50 0, Value.str (Str.ofString "/claim/cut.py") 288] } : Obj)) ::
    (nat_lit 70, ({ cls := Value.type "function", data := Data.func { name := Str.ofString "_levenshtein_distance", qualname := Str.ofString "_levenshtein_distance", params := ?x15, body := FuncBody.stmts ?x16, scope := ?x17, globals := 3, closure := [], defaults := Value.none, kwdefaults := Value.none, pyModule := Value.str (Str.ofString "cpy313.traceback") 254, code := Value.ref 69 } } : Obj)) ::
    (nat_lit 71, ({ cls := Value.type "tuple", data := Data.seq #[] } : Obj)) ::
    (nat_lit 73, ({ cls := Value.type "tuple", data := Data.seq #[Value.str (Str.ofString "script") 295, Value.str (Str.ofString "cells") 296, Value.str (Str.ofString "k") 297] } : Obj)) ::
    (nat_lit 74, ({ cls := Value.type "tuple", data := Data.seq #[] } : Obj)) ::
    (nat_lit 76, ({ cls := Value.type "code", data := Data.fields #[Value.str (Str.ofString "_law_cells") 292, Value.str (Str.ofString "_law_cells") 293, Value.str (Str.ofString "/claim/cut.py") 294, Value.int 89 0, Value.int 1 0, Value.int 0 0, Value.int 0 0, Value.int 3 0, Value.ref 71, Value.bool true, Value.int 181 0, Value.ref 72, Value.none, Value.ref 73, Value.ref 74, Value.ref 75, Value.int 298 0, Value.int 89 0, Value.str (Str.ofString "/claim/cut.py") 299] } : Obj)) ::
    (nat_lit 77, ({ cls := Value.type "function", data := Data.func { name := Str.ofString "_law_cells", qualname := Str.ofString "_law_cells", params := ?x18, body := FuncBody.stmts ?x19, scope := ?x20, globals := 3, closure := [], defaults := Value.none, kwdefaults := Value.none, pyModule := Value.str (Str.ofString "law_jc0009_01") 290, code := Value.ref 76 } } : Obj)) ::
    (nat_lit 78, ({ cls := Value.type "tuple", data := Data.seq #[] } : Obj)) ::
    (nat_lit 80, ({ cls := Value.type "tuple", data := Data.seq #[Value.str (Str.ofString "blanks") 304, Value.str (Str.ofString "letter") 305, Value.str (Str.ofString "behind") 306] } : Obj)) ::
    (nat_lit 81, ({ cls := Value.type "tuple", data := Data.seq #[] } : Obj)) ::
    (nat_lit 83, ({ cls := Value.type "code", data := Data.fields #[Value.str (Str.ofString "_law_line") 301, Value.str (Str.ofString "_law_line") 302, Value.str (Str.ofString "/claim/cut.py") 303, Value.int 94 0, Value.int 2 0, Value.int 0 0, Value.int 0 0, Value.int 3 0, Value.ref 78, Value.bool true, Value.int 181 0, Value.ref 79, Value.none, Value.ref 80, Value.ref 81, Value.ref 82, Value.int 307 0, Value.int 94 0, Value.str (Str.ofString "/claim/cut.py") 308] } : Obj)) ::
    (nat_lit 84, ({ cls := Value.type "function", data := Data.func { name := Str.ofString "_law_line", qualname := Str.ofString "_law_line", params := ?x21, body := FuncBody.stmts ?x22, scope := ?x23, globals := 3, closure := [], defaults := Value.none, kwdefaults := Value.none, pyModule := Value.str (Str.ofString "law_jc0009_01") 290, code := Value.ref 83 } } : Obj)) ::
    (nat_lit 85, ({ cls := Value.type "tuple", data := Data.seq #[] } : Obj)) ::
    (nat_lit 88, ({ cls := Value.type "code", data := Data.fields #[Value.str (Str.ofString "_law_lines") 310, Value.str (Str.ofString "_law_lines") 311, Value.str (Str.ofString "/claim/cut.py") 312, Value.int 97 0, Value.int 1 0, Value.int 0 0, Value.int 0 0, Value.int 3 0, Value.ref 85, Value.bool true, Value.int 181 0, Value.ref 86, Value.none, Value.none, Value.none, Value.ref 87, Value.int 313 0, Value.int 97 0, Value.str (Str.ofString "/claim/cut.py") 314] } : Obj)) ::
    (nat_lit 89, ({ cls := Value.type "function", data := Data.func { name := Str.ofString "_law_lines", qualname := Str.ofString "_law_lines", params := ?x24, body := FuncBody.stmts ?x25, scope := ?x26, globals := 3, closure := [], defaults := Value.none, kwdefaults := Value.none, pyModule := Value.str (Str.ofString "law_jc0009_01") 290, code := Value.ref 88 } } : Obj)) ::
    (nat_lit 90, ({ cls := Value.type "tuple", data := Data.seq #[] } : Obj)) ::
    (nat_lit 92, ({ cls := Value.type "tuple", data := Data.seq #[Value.str (Str.ofString "start") 319, Value.str (Str.ofString "moves") 320, Value.str (Str.ofString "row") 321, Value.str (Str.ofString "x") 322, Value.str (Str.ofString "taken") 323] } : Obj)) ::
    (nat_lit 93, ({ cls := Value.type "tuple", data := Data.seq #[] } : Obj)) ::
    (nat_lit 95, ({ cls := Value.type "code", data := Data.fields #[Value.str (Str.ofString "_law_end") 316, Value.str (Str.ofString "_law_end") 317, Value.str (Str.ofString "/claim/cut.py") 318, Value.int 99 0, Value.int 2 0, Value.int 0 0, Value.int 0 0, Value.int 3 0, Value.ref 90, Value.bool true, Value.int 181 0, Value.ref 91, Value.none, Value.ref 92, Value.ref 93, Value.ref 94, Value.int 324 0, Value.int 99 0, Value.str (Str.ofString "/claim/cut.py") 325] } : Obj)) ::
    (nat_lit 96, ({ cls := Value.type "function", data := Data.func { name := Str.ofString "_law_end", qualname := Str.ofString "_law_end", params := ?x27, body := FuncBody.stmts ?x28, scope := ?x29, globals := 3, closure := [], defaults := Value.none, kwdefaults := Value.none, pyModule := Value.str (Str.ofString "law_jc0009_01") 290, code := Value.ref 95 } } : Obj)) ::
    (nat_lit 97, ({ cls := Value.type "tuple", data := Data.seq #[] } : Obj)) ::
    (nat_lit 99, ({ cls := Value.type "tuple", data := Data.seq #[Value.str (Str.ofString "lines") 330, Value.str (Str.ofString "moves") 331, Value.str (Str.ofString "rows") 332, Value.str (Str.ofString "x") 333, Value.str (Str.ofString "source") 334, Value.str (Str.ofString "goal") 335, Value.str (Str.ofString "amount") 336, Value.str (Str.ofString "left") 337, Value.str (Str.ofString "came") 338, Value.str (Str.ofString "odd") 339] } : Obj)) ::
    (nat_lit 100, ({ cls := Value.type "tuple", data := Data.seq #[] } : Obj)) ::
    (nat_lit 102, ({ cls := Value.type "code", data := Data.fields #[Value.str (Str.ofString "_law_moved") 327, Value.str (Str.ofString "_law_moved") 328, Value.str (Str.ofString "/claim/cut.py") 329, Value.int 106 0, Value.int 2 0, Value.int 0 0, Value.int 0 0, Value.int 3 0, Value.ref 97, Value.bool true, Value.int 181 0, Value.ref 98, Value.none, Value.ref 99, Value.ref 100, Value.ref 101, Value.int 340 0, Value.int 106 0, Value.str (Str.ofString "/claim/cut.py") 341] } : Obj)) ::
    (nat_lit 103, ({ cls := Value.type "function", data := Data.func { name := Str.ofString "_law_moved", qualname := Str.ofString "_law_moved", params := ?x30, body := FuncBody.stmts ?x31, scope := ?x32, globals := 3, closure := [], defaults := Value.none, kwdefaults := Value.none, pyModule := Value.str (Str.ofString "law_jc0009_01") 290, code := Value.ref 102 } } : Obj)) ::
    (nat_lit 104, ({ cls := Value.type "tuple", data := Data.seq #[] } : Obj)) ::
    (nat_lit 107, ({ cls := Value.type "code", data := Data.fields #[Value.str (Str.ofString "_law_weights") 343, Value.str (Str.ofString "_law_weights") 344, Value.str (Str.ofString "/claim/cut.py") 345, Value.int 117 0, Value.int 1 0, Value.int 0 0, Value.int 0 0, Value.int 3 0, Value.ref 104, Value.bool true, Value.int 181 0, Value.ref 105, Value.none, Value.none, Value.none, Value.ref 106, Value.int 346 0, Value.int 117 0, Value.str (Str.ofString "/claim/cut.py") 347] } : Obj)) ::
    (nat_lit 108, ({ cls := Value.type "function", data := Data.func { name := Str.ofString "_law_weights", qualname := Str.ofString "_law_weights", params := ?x33, body := FuncBody.stmts ?x34, scope := ?x35, globals := 3, closure := [], defaults := Value.none, kwdefaults := Value.none, pyModule := Value.str (Str.ofString "law_jc0009_01") 290, code := Value.ref 107 } } : Obj)) ::
    (nat_lit 109, ({ cls := Value.type "tuple", data := Data.seq #[] } : Obj)) ::
    (nat_lit 112, ({ cls := Value.type "code", data := Data.fields #[Value.str (Str.ofString "_law_fronts") 349, Value.str (Str.ofString "_law_fronts") 350, Value.str (Str.ofString "/claim/cut.py") 351, Value.int 119 0, Value.int 2 0, Value.int 0 0, Value.int 0 0, Value.int 3 0, Value.ref 109, Value.bool true, Value.int 181 0, Value.ref 110, Value.none, Value.none, Value.none, Value.ref 111, Value.int 352 0, Value.int 119 0, Value.str (Str.ofString "/claim/cut.py") 353] } : Obj)) ::
    (nat_lit 113, ({ cls := Value.type "function", data := Data.func { name := Str.ofString "_law_fronts", qualname := Str.ofString "_law_fronts", params := ?x36, body := FuncBody.stmts ?x37, scope := ?x38, globals := 3, closure := [], defaults := Value.none, kwdefaults := Value.none, pyModule := Value.str (Str.ofString "law_jc0009_01") 290, code := Value.ref 112 } } : Obj)) ::
    (nat_lit 114, ({ cls := Value.type "tuple", data := Data.seq #[] } : Obj)) ::
    (nat_lit 116, ({ cls := Value.type "tuple", data := Data.seq #[Value.str (Str.ofString "lines") 358, Value.str (Str.ofString "apart") 359, Value.str (Str.ofString "k") 360, Value.str (Str.ofString "j") 361, Value.str (Str.ofString "far") 362] } : Obj)) ::
    (nat_lit 117, ({ cls := Value.type "tuple", data := Data.seq #[] } : Obj)) ::
    (nat_lit 119, ({ cls := Value.type "code", data := Data.fields #[Value.str (Str.ofString "_law_apart") 355, Value.str (Str.ofString "_law_apart") 356, Value.str (Str.ofString "/claim/cut.py") 357, Value.int 131 0, Value.int 1 0, Value.int 0 0, Value.int 0 0, Value.int 3 0, Value.ref 114, Value.bool true, Value.int 181 0, Value.ref 115, Value.none, Value.ref 116, Value.ref 117, Value.ref 118, Value.int 363 0, Value.int 131 0, Value.str (Str.ofString "/claim/cut.py") 364] } : Obj)) ::
    (nat_lit 120, ({ cls := Value.type "function", data := Data.func { name := Str.ofString "_law_apart", qualname := Str.ofString "_law_apart", params := ?x39, body := FuncBody.stmts ?x40, scope := ?x41, globals := 3, closure := [], defaults := Value.none, kwdefaults := Value.none, pyModule := Value.str (Str.ofString "law_jc0009_01") 290, code := Value.ref 119 } } : Obj)) ::
    (nat_lit 121, ({ cls := Value.type "tuple", data := Data.seq #[] } : Obj)) ::
    (nat_lit 124, ({ cls := Value.type "code", data := Data.fields #[Value.str (Str.ofString "_law_judged") 366, Value.str (Str.ofString "_law_judged") 367, Value.str (Str.ofString "/claim/cut.py") 368, Value.int 140 0, Value.int 3 0, Value.int 0 0, Value.int 0 0, Value.int 3 0, Value.ref 121, Value.bool true, Value.int 181 0, Value.ref 122, Value.none, Value.none, Value.none, Value.ref 123, Value.int 369 0, Value.int 140 0, Value.str (Str.ofString "/claim/cut.py") 370] } : Obj)) ::
    (nat_lit 125, ({ cls := Value.type "function", data := Data.func { name := Str.ofString "_law_judged", qualname := Str.ofString "_law_judged", params := ?x42, body := FuncBody.stmts ?x43, scope := ?x44, globals := 3, closure := [], defaults := Value.none, kwdefaults := Value.none, pyModule := Value.str (Str.ofString "law_jc0009_01") 290, code := Value.ref 124 } } : Obj)) ::
    (nat_lit 126, ({ cls := Value.type "tuple", data := Data.seq #[] } : Obj)) ::
    (nat_lit 129, ({ cls := Value.type "code", data := Data.fields #[Value.str (Str.ofString "_law_products") 372, Value.str (Str.ofString "_law_products") 373, Value.str (Str.ofString "/claim/cut.py") 374, Value.int 151 0, Value.int 2 0, Value.int 0 0, Value.int 0 0, Value.int 3 0, Value.ref 126, Value.bool true, Value.int 181 0, Value.ref 127, Value.none, Value.none, Value.none, Value.ref 128, Value.int 375 0, Value.int 151 0, Value.str (Str.ofString "/claim/cut.py") 376] } : Obj)) ::
    (nat_lit 130, ({ cls := Value.type "function", data := Data.func { name := Str.ofString "_law_products", qualname := Str.ofString "_law_products", params := ?x45, body := FuncBody.stmts ?x46, scope := ?x47, globals := 3, closure := [], defaults := Value.none, kwdefaults := Value.none, pyModule := Value.str (Str.ofString "law_jc0009_01") 290, code := Value.ref 129 } } : Obj)) ::
    (nat_lit 131, ({ cls := Value.type "tuple", data := Data.seq #[] } : Obj)) ::
    (nat_lit 134, ({ cls := Value.type "code", data := Data.fields #[Value.str (Str.ofString "_law_less") 378, Value.str (Str.ofString "_law_less") 379, Value.str (Str.ofString "/claim/cut.py") 380, Value.int 164 0, Value.int 1 0, Value.int 0 0, Value.int 0 0, Value.int 3 0, Value.ref 131, Value.bool true, Value.int 181 0, Value.ref 132, Value.none, Value.none, Value.none, Value.ref 133, Value.int 381 0, Value.int 164 0, Value.str (Str.ofString "/claim/cut.py") 382] } : Obj)) ::
    (nat_lit 135, ({ cls := Value.type "function", data := Data.func { name := Str.ofString "_law_less", qualname := Str.ofString "_law_less", params := ?x48, body := FuncBody.stmts ?x49, scope := ?x50, globals := 3, closure := [], defaults := Value.none, kwdefaults := Value.none, pyModule := Value.str (Str.ofString "law_jc0009_01") 290, code := Value.ref 134 } } : Obj)) ::
    (nat_lit 136, ({ cls := Value.type "tuple", data := Data.seq #[] } : Obj)) ::
    (nat_lit 139, ({ cls := Value.type "code", data := Data.fields #[Value.str (Str.ofString "law") 384, Value.str (Str.ofString "law") 385, Value.str (Str.ofString "/claim/cut.py") 386, Value.int 166 0, Value.int 1 0, Value.int 0 0, Value.int 0 0, Value.int 3 0, Value.ref 136, Value.bool true, Value.int 181 0, Value.ref 137, Value.none, Value.none, Value.none, Value.ref 138, Value.int 387 0, Value.int 166 0, Value.str (Str.ofString "/claim/cut.py") 388] } : Obj)) ::
    (nat_lit 140, ({ cls := Value.type "function", data := Data.func { name := Str.ofString "law", qualname := Str.ofString "law", params := ?x51, body := FuncBody.stmts ?x52, scope := ?x53, globals := 3, closure := [], defaults := Value.none, kwdefaults := Value.none, pyModule := Value.str (Str.ofString "law_jc0009_01") 290, code := Value.ref 139 } } : Obj)) :: [])
  case h0 => dsimp only [nS, hS, tS, pS, bS, sS, PySem.Challenge.pw_jc0009_01]; exact rfl
  case h1 => dsimp only [nS, hS, tS, pS, bS, sS, PySem.Challenge.pw_jc0009_01]; exact rfl
  case h2 => dsimp only [nS, hS, tS, pS, bS, sS, PySem.Challenge.pw_jc0009_01]; exact rfl
  case h3 => dsimp only [nS, hS, tS, pS, bS, sS, PySem.Challenge.pw_jc0009_01]; exact rfl
  case h4 => dsimp only [nS, hS, tS, pS, bS, sS, PySem.Challenge.pw_jc0009_01]; exact rfl
  case h5 => dsimp only [nS, hS, tS, pS, bS, sS, PySem.Challenge.pw_jc0009_01]; exact rfl
  case h6 => dsimp only [nS, hS, tS, pS, bS, sS, PySem.Challenge.pw_jc0009_01]; exact rfl
  case h7 => dsimp only [nS, hS, tS, pS, bS, sS, PySem.Challenge.pw_jc0009_01]; exact rfl
  case h8 => dsimp only [nS, hS, tS, pS, bS, sS, PySem.Challenge.pw_jc0009_01]; exact rfl
  case h9 => dsimp only [nS, hS, tS, pS, bS, sS, PySem.Challenge.pw_jc0009_01]; exact rfl
  case h10 => dsimp only [nS, hS, tS, pS, bS, sS, PySem.Challenge.pw_jc0009_01]; exact rfl
  case h11 => dsimp only [nS, hS, tS, pS, bS, sS, PySem.Challenge.pw_jc0009_01]; exact rfl
  case h12 => dsimp only [nS, hS, tS, pS, bS, sS, PySem.Challenge.pw_jc0009_01]; exact rfl
  case h13 => dsimp only [nS, hS, tS, pS, bS, sS, PySem.Challenge.pw_jc0009_01]; exact rfl
  case h14 => dsimp only [nS, hS, tS, pS, bS, sS, PySem.Challenge.pw_jc0009_01]; exact rfl
  case h15 => dsimp only [nS, hS, tS, pS, bS, sS, PySem.Challenge.pw_jc0009_01]; exact rfl
  case h16 => dsimp only [nS, hS, tS, pS, bS, sS, PySem.Challenge.pw_jc0009_01]; exact rfl
  case h17 => dsimp only [nS, hS, tS, pS, bS, sS, PySem.Challenge.pw_jc0009_01]; exact rfl
  case h18 => dsimp only [nS, hS, tS, pS, bS, sS, PySem.Challenge.pw_jc0009_01]; exact rfl
  case h19 => dsimp only [nS, hS, tS, pS, bS, sS, PySem.Challenge.pw_jc0009_01]; exact rfl
  case h20 => dsimp only [nS, hS, tS, pS, bS, sS, PySem.Challenge.pw_jc0009_01]; exact rfl
  case h21 => dsimp only [nS, hS, tS, pS, bS, sS, PySem.Challenge.pw_jc0009_01]; exact rfl
  case h22 => dsimp only [nS, hS, tS, pS, bS, sS, PySem.Challenge.pw_jc0009_01]; exact rfl
  case h23 => dsimp only [nS, hS, tS, pS, bS, sS, PySem.Challenge.pw_jc0009_01]; exact rfl
  case h24 => dsimp only [nS, hS, tS, pS, bS, sS, PySem.Challenge.pw_jc0009_01]; exact rfl
  case h25 => dsimp only [nS, hS, tS, pS, bS, sS, PySem.Challenge.pw_jc0009_01]; exact rfl
  case h26 => dsimp only [nS, hS, tS, pS, bS, sS, PySem.Challenge.pw_jc0009_01]; exact rfl
  case h27 => dsimp only [nS, hS, tS, pS, bS, sS, PySem.Challenge.pw_jc0009_01]; exact rfl
  case h28 => dsimp only [nS, hS, tS, pS, bS, sS, PySem.Challenge.pw_jc0009_01]; exact rfl
  case h29 => dsimp only [nS, hS, tS, pS, bS, sS, PySem.Challenge.pw_jc0009_01]; exact rfl
  case h30 => dsimp only [nS, hS, tS, pS, bS, sS, PySem.Challenge.pw_jc0009_01]; exact rfl
  case h31 => dsimp only [nS, hS, tS, pS, bS, sS, PySem.Challenge.pw_jc0009_01]; exact rfl
  case h32 => dsimp only [nS, hS, tS, pS, bS, sS, PySem.Challenge.pw_jc0009_01]; exact rfl
  case h33 => dsimp only [nS, hS, tS, pS, bS, sS, PySem.Challenge.pw_jc0009_01]; exact rfl
  case h34 => dsimp only [nS, hS, tS, pS, bS, sS, PySem.Challenge.pw_jc0009_01]; exact rfl
  case h35 => dsimp only [nS, hS, tS, pS, bS, sS, PySem.Challenge.pw_jc0009_01]; exact rfl
  case h36 => dsimp only [nS, hS, tS, pS, bS, sS, PySem.Challenge.pw_jc0009_01]; exact rfl
  case h37 => dsimp only [nS, hS, tS, pS, bS, sS, PySem.Challenge.pw_jc0009_01]; exact rfl
  case h38 => dsimp only [nS, hS, tS, pS, bS, sS, PySem.Challenge.pw_jc0009_01]; exact rfl
  case h39 => dsimp only [nS, hS, tS, pS, bS, sS, PySem.Challenge.pw_jc0009_01]; exact rfl
  case h40 => dsimp only [nS, hS, tS, pS, bS, sS, PySem.Challenge.pw_jc0009_01]; exact rfl
  case h41 => dsimp only [nS, hS, tS, pS, bS, sS, PySem.Challenge.pw_jc0009_01]; exact rfl
  case h42 => dsimp only [nS, hS, tS, pS, bS, sS, PySem.Challenge.pw_jc0009_01]; exact rfl
  case h43 => dsimp only [nS, hS, tS, pS, bS, sS, PySem.Challenge.pw_jc0009_01]; exact rfl
  case h44 => dsimp only [nS, hS, tS, pS, bS, sS, PySem.Challenge.pw_jc0009_01]; exact rfl
  case h45 => dsimp only [nS, hS, tS, pS, bS, sS, PySem.Challenge.pw_jc0009_01]; exact rfl
  case h46 => dsimp only [nS, hS, tS, pS, bS, sS, PySem.Challenge.pw_jc0009_01]; exact rfl
  case h47 => dsimp only [nS, hS, tS, pS, bS, sS, PySem.Challenge.pw_jc0009_01]; exact rfl
  case h48 => dsimp only [nS, hS, tS, pS, bS, sS, PySem.Challenge.pw_jc0009_01]; exact rfl
  case h49 => dsimp only [nS, hS, tS, pS, bS, sS, PySem.Challenge.pw_jc0009_01]; exact rfl
  case h50 => dsimp only [nS, hS, tS, pS, bS, sS, PySem.Challenge.pw_jc0009_01]; exact rfl
  case h51 => dsimp only [nS, hS, tS, pS, bS, sS, PySem.Challenge.pw_jc0009_01]; exact rfl
  case h52 => dsimp only [nS, hS, tS, pS, bS, sS, PySem.Challenge.pw_jc0009_01]; exact rfl
  case h53 => dsimp only [nS, hS, tS, pS, bS, sS, PySem.Challenge.pw_jc0009_01]; exact rfl
noncomputable def hd.view_39 : Program := { PySem.Challenge.pw_jc0009_01 with main := { PySem.Challenge.pw_jc0009_01.main with body := PySem.Challenge.pw_jc0009_01.main.body.filter isFS } }
noncomputable def asK : List Addr := [2, 3, 6, 15, 17, 18, 20, 21, 29, 31, 32, 34, 35, 36, 38, 39, 41, 42, 43, 44, 45, 46, 47, 50, 52, 53, 55, 56, 57, 59, 60, 62, 63, 64, 66, 67, 69, 70, 71, 73, 74, 76, 77, 78, 80, 81, 83, 84, 85, 88, 89, 90, 92, 93, 95, 96, 97, 99, 100, 102, 103, 104, 107, 108, 109, 112, 113, 114, 116, 117, 119, 120, 121, 124, 125, 126, 129, 130, 131, 134, 135, 136, 139, 140]
theorem hd.keys (P : Params) : asK = (hd.heap_39 P).map (·.1) := by kernel_rfl
noncomputable def hd.hook : Hook := kHook hd.heap_39 asK hd.keys
theorem hd.left : LeftO PySem.Challenge.rw_jc0009_01.row.prog hd.view_39 [] (fun s => xlAt hd.view_39 [] s && recOk (RowW.records PySem.Challenge.rw_jc0009_01.row.toRowW) s) (Hook.obs hd.hook) (Hook.val hd.hook) 1740 := by
  intro w
  kernel_rfl
theorem hd.said : PySem.Challenge.rw_jc0009_01.wellSaid = true := by kernel_rfl
/-- the head: what is left is the walk of the law's body -/
theorem hd {d : DefRec} {kwd : List (Str × Expr)} (hdef : defOf hd.view_39 (Str.ofString "law") = some (d, kwd)) (hp : PySem.Challenge.pw_jc0009_01.theDef (Str.ofString "law") = some (d.params, d.body, d.scope)) (hk : kwWritten? d.params.kwonlyargs d.params.kw_defaults = some kwd)
    (call : WalkO hd.view_39 [] (XL hd.view_39 []) hd.hook.says PySem.Challenge.rw_jc0009_01.row.toRowW d kwd fun f vs => PySem.call f vs) : PySem.Challenge.rw_jc0009_01.Holds :=
  holds_law hd.said fun said => holds_open hd.left (Hook.of hd.hook) (Hook.keeps hd.hook) (fun s e => xl_of s (Bool.and_eq_true_iff.mp e).1) XL.keeps hdef hp hk (fun s e => recFacts_of (Bool.and_eq_true_iff.mp e).2) rfl said (by kernel_rfl) ⟨rfl, rfl, rfl, rfl, rfl, by decide +kernel⟩ (by w_witness2) call
end Mine
end
section
open PySem PySem.W PyProof.Rows PySem.Calls PySem.Spec
set_option maxRecDepth 100000
set_option maxHeartbeats 8000000
namespace Mine
/-- a top without defs: what the walk reads of the top stands in hd.heap_39 -/
noncomputable def pE : Program := { hd.view_39 with main := { hd.view_39.main with body := [.Import [{ name := Str.ofString "sys", asname := none, pos := default }] default] } }
noncomputable def lE : List Str := looseW hd.view_39 [] ++ ((recsOf hd.view_39).map (·.name) ++ ((litsOf hd.view_39).map (·.1) ++ (clssOf hd.view_39 (looseW hd.view_39 [])).map (·.name)))
theorem pE_recs : recsOf pE = [] := rfl
theorem pE_imports : importsNone pE = false := rfl
/-- an address that bears no class may be hidden from the ground -/
theorem hide_keeps {h : Heap} {P : Addr} {tab : Obj} (hP : h.get? P = some tab) (hc : tab.cls = .none) : ∀ b o, h.get? b = some o → o.cls ≠ .none → (h.hide P).get? b = some o := by
  intro b o e hb
  rw [Heap.hide_ne]
  · exact e
  · intro q
    rw [q, hP] at e
    cases e
    exact hb hc
theorem ns_hide {h : Heap} {P a : Addr} {tab : Obj} {m : Str → Option Value} (hP : h.get? P = some tab) (hd : ∀ es ep, tab.data ≠ .dict es ep) (G : h.Ns a m) : (h.hide P).Ns a m := by
  obtain ⟨o, es, ep, ho, hdd, r⟩ := G
  refine ⟨o, es, ep, ?_, hdd, r⟩
  rw [Heap.hide_ne]
  · exact ho
  · intro q
    rw [q, hP] at ho
    cases ho
    exact hd _ _ hdd
theorem in_hide {K : Frag} {h : Heap} {P : Addr} (X : K.In h) (hK : K.lookup P = none) : K.In (h.hide P) := fun a o e => by
  rw [Heap.hide_ne]
  · exact X a o e
  · intro q; rw [q, hK] at e; cases e
noncomputable abbrev tabO (ps : Array Value) : Obj := { cls := .none, data := .fields ps }
theorem top_hide {mean : ExcName → Option Value} {mg mb : Str → Option Value} {h : Heap} {P : Addr} {ps : Array Value} (T : Top hd.view_39 (looseW hd.view_39 []) mean mg mb h) (hP : h.get? P = some (tabO ps)) : Top pE lE mean mg mb (h.hide P) where
  g := ns_hide hP (fun _ _ h => nomatch h) T.g
  b := ns_hide hP (fun _ _ h => nomatch h) T.b
  nolimit := let ⟨mc, h1, h2⟩ := T.nolimit; ⟨mc, ns_hide hP (fun _ _ h => nomatch h) h1, h2⟩
  nodigits := let ⟨mc, h1, h2⟩ := T.nodigits; ⟨mc, ns_hide hP (fun _ _ h => nomatch h) h1, h2⟩
  fn := fun d hd => nomatch (pE_recs ▸ hd : d ∈ ([] : List _))
  own := fun o ho => nomatch (show o ∈ ([] : List _) from ho)
  const := fun x d h => nomatch (show none = some d from h)
  free := fun x h1 h2 _ _ _ => by
    unfold lE at h2
    simp only [List.mem_append, not_or] at h2
    exact T.free x h1 h2.1 h2.2.1 h2.2.2.1 h2.2.2.2
  builtins := T.builtins
  tab := fun d hd => nomatch (pE_recs ▸ hd : d ∈ ([] : List _))
  bmain := by
    obtain ⟨bm, ob, h1, h2, h3, h4, r⟩ := T.bmain
    refine ⟨bm, ob, h1, h2, hide_keeps hP rfl _ _ h3 ?_, h4, r⟩
    rw [h4]; exact fun q => nomatch q
  seer := fun hi => nomatch (pE_imports ▸ hi : false = true)
end Mine
end
section
open PySem PySem.W PyProof.Rows PySem.Calls PySem.Spec
set_option maxRecDepth 100000
set_option maxHeartbeats 8000000
namespace Mine
/-- all of h stands in h' -/
noncomputable def Ext (h h' : Heap) : Prop := ∀ b o, h.get? b = some o → h'.get? b = some o
noncomputable def mval (fl : Flow) : Value := match fl with | .ret v => v | _ => .none

section
variable {w : World} {mg mb : Str → Option Value} {mean : ExcName → Option Value} {f : Addr} {D : Nat} {args : List (Addr × Obj)} {Post : Value → List (Addr × Obj) → Prop}
  {name qual : Str} {params : Arguments} {body : List Stmt} {scope : Scope} {dV kV doc pm cdv ct oc : Value} {an od : Option Addr} {osl : Array (Option Value)} {vs : List Value} {binds : List (Str × Value)}
end
end Mine
end
section
open PySem PySem.W PyProof.Rows PySem.Calls PySem.Spec
set_option maxRecDepth 100000
set_option maxHeartbeats 4000000
namespace Mine
/-! values as trees, read only -/
/-- any other thing that stays -/
structure Sm where
  rel : Heap → (Addr → Prop) → Value → Prop
  move : ∀ {h h' : Heap} {bad bad' : Addr → Prop}, (∀ a o, ¬ bad a → h.get? a = some o → ¬ bad' a ∧ h'.get? a = some o) → ∀ {x : Value}, rel h bad x → rel h' bad' x
/-- what an object that changes holds -/
structure Cn where
  rel : Obj → Heap → (Addr → Prop) → Prop
  move : ∀ {o : Obj} {h h' : Heap} {bad bad' : Addr → Prop}, (∀ a o, ¬ bad a → h.get? a = some o → ¬ bad' a ∧ h'.get? a = some o) → rel o h bad → rel o h' bad'
inductive AV where
  | int (i : Int) | str (x : Str) | bool (b : Bool) | none | glob (v : Value)
  | list (vs : List AV) | tup (vs : List AV)
  | mut (a : Addr) (vs : List AV)
  | sem (S : Sm)
  | mutS (a : Addr) (C : Cn)
noncomputable abbrev tupOf (its : Array Value) (n : Nat) : Obj := { cls := .type "tuple", data := .seq its n }
mutual
noncomputable def RV (h : Heap) (bad : Addr → Prop) : AV → Value → Prop
  | .int i, x => ∃ t, x = .int i t
  | .str y, x => ∃ t, x = .str y t
  | .bool b, x => x = .bool b
  | .none, x => x = .none
  | .glob v, x => x = v
  | .list vs, x => ∃ a xs n, x = .ref a ∧ ¬ bad a ∧ h.get? a = some (listOf xs.toArray n) ∧ RVs h bad vs xs
  | .tup vs, x => ∃ a xs n, x = .ref a ∧ ¬ bad a ∧ h.get? a = some (tupOf xs.toArray n) ∧ RVs h bad vs xs
  | .mut _ _, _ => False
  | .mutS _ _, _ => False
  | .sem S, x => S.rel h bad x
noncomputable def RVs (h : Heap) (bad : Addr → Prop) : List AV → List Value → Prop
  | [], xs => xs = []
  | v :: vs, xs => ∃ y ys, xs = y :: ys ∧ RV h bad v y ∧ RVs h bad vs ys
end
section
variable {h h' : Heap} {bad bad' : Addr → Prop}
mutual
theorem RV.move (T : ∀ a o, ¬ bad a → h.get? a = some o → ¬ bad' a ∧ h'.get? a = some o) : ∀ {v : AV} {x : Value}, RV h bad v x → RV h' bad' v x
  | .int _, _, r => r
  | .str _, _, r => r
  | .bool _, _, r => r
  | .none, _, r => r
  | .glob _, _, r => r
  | .sem S, _, r => S.move T r
  | .list _, _, ⟨a, xs, n, e, hb, ho, r⟩ => ⟨a, xs, n, e, (T a _ hb ho).1, (T a _ hb ho).2, RVs.move T r⟩
  | .tup _, _, ⟨a, xs, n, e, hb, ho, r⟩ => ⟨a, xs, n, e, (T a _ hb ho).1, (T a _ hb ho).2, RVs.move T r⟩
  | .mut _ _, _, r => r.elim
  | .mutS _ _, _, r => r.elim
theorem RVs.move (T : ∀ a o, ¬ bad a → h.get? a = some o → ¬ bad' a ∧ h'.get? a = some o) : ∀ {vs : List AV} {xs : List Value}, RVs h bad vs xs → RVs h' bad' vs xs
  | [], _, r => r
  | _ :: _, _, ⟨y, ys, e, r, rs⟩ => ⟨y, ys, e, RV.move T r, RVs.move T rs⟩
end
theorem RV.ext (e : Ext h h') {v : AV} {x : Value} (r : RV h bad v x) : RV h' bad v x := r.move fun a o hb ho => ⟨hb, e a o ho⟩
theorem RVs.ext (e : Ext h h') {vs : List AV} {xs : List Value} (r : RVs h bad vs xs) : RVs h' bad vs xs := r.move fun a o hb ho => ⟨hb, e a o ho⟩
theorem RVs.len : ∀ {vs : List AV} {xs : List Value}, RVs h bad vs xs → xs.length = vs.length
  | [], _, r => by cases r; rfl
  | _ :: _, _, ⟨_, _, e, _, rs⟩ => by subst e; exact congrArg (· + 1) rs.len
theorem RVs.at : ∀ {vs : List AV} {xs : List Value}, RVs h bad vs xs → ∀ {i : Nat} {v : AV}, vs[i]? = some v → ∃ x, xs[i]? = some x ∧ RV h bad v x
  | [], _, _, _, _, hi => by simp at hi
  | _ :: _, _, ⟨y, ys, e, r, rs⟩, i, v, hi => by
    subst e
    cases i with
    | zero => cases hi; exact ⟨y, rfl, r⟩
    | succ i => exact rs.at (i := i) hi
theorem RVs.append : ∀ {vs ws : List AV} {xs ys : List Value}, RVs h bad vs xs → RVs h bad ws ys → RVs h bad (vs ++ ws) (xs ++ ys)
  | [], _, _, _, r, q => by cases r; exact q
  | _ :: _, _, _, _, ⟨y, ys, e, r, rs⟩, q => by subst e; exact ⟨y, ys ++ _, rfl, r, rs.append q⟩
theorem RVs.of_at : ∀ {vs : List AV} {xs : List Value}, xs.length = vs.length → (∀ (i : Nat) (v : AV), vs[i]? = some v → ∃ x, xs[i]? = some x ∧ RV h bad v x) → RVs h bad vs xs
  | [], xs, hl, _ => List.eq_nil_of_length_eq_zero hl
  | v :: vs, [], hl, _ => nomatch hl
  | v :: vs, x :: xs, hl, H => by
    obtain ⟨y, e, r⟩ := H 0 v rfl
    cases e
    exact ⟨x, xs, rfl, r, RVs.of_at (Nat.succ.inj hl) fun i w hi => H (i + 1) w hi⟩
end
theorem Ext.trans' {a b c : Heap} (e : Ext a b) (f : Ext b c) : Ext a c := fun x o h => f x o (e x o h)
theorem Ext.rfl' {a : Heap} : Ext a a := fun _ _ h => h

/-! a frame's constants -/
noncomputable abbrev PG : Program := PySem.Challenge.rw_jc0009_01.row.prog
structure Cx where
  w : World
  mg : Str → Option Value
  mb : Str → Option Value
  mean : ExcName → Option Value
  dp : Nat
  un : Nat
  gd : Option (List Code)
  cn : Str
  cs : Scope
  L : Addr
  a : Addr
  ccd : Value
  cl : List (Str × Addr)
  outer : List Env
  A₀ : Around
  base : Heap
  g : Heap
  rb : Addr → Prop
noncomputable abbrev Cx.A (c : Cx) : Around := ktrTop c.dp c.un c.gd c.cn c.cs c.L c.a c.ccd c.cl c.outer
noncomputable abbrev Cx.env (c : Cx) : Env := envX c.cn c.cs c.L c.a c.ccd c.cl
structure Cx.Ok (c : Cx) : Prop where
  B : Below c.A₀ c.base c.outer c.g
  X : (hd.heap_39 c.w.params).In c.g
  T : Top pE lE c.mean c.mg c.mb c.g
  k : c.cs.kind = .function

/-! a place where expressions are evaluated: what holds there (stable under what is new) -/
structure Px where
  c : Cx
  env : Env
  bad : Addr → Prop
  inv : Shared → Prop
  fr : ∀ s, inv s → c.Ok ∧ ∃ m, Fr c.g c.L s.heap m
  ok : ∀ s h tk, inv s → Ext s.heap h → inv { s with heap := h, toks := tk }
  low : ∀ s a, inv s → bad a → ∃ o, s.heap.get? a = some o

/-- e is evaluated to v -/
noncomputable def Ev (P : Px) (e : Expr) (v : AV) : Prop := ∀ (s : Shared), P.inv s → ∀ (Q E : Value → Shared → Prop),
  (∀ y h tk, Ext s.heap h → RV h P.bad v y → Q y { s with heap := h, toks := tk }) → wpAny (model PG P.c.w) P.c.A (eval e P.env) Q E s
/-- the same of a call's arguments -/
noncomputable def EvL (P : Px) (pos : Pos) (es : List Expr) (vs : List AV) : Prop := ∀ (s : Shared), P.inv s → ∀ (Q : List Value → Shared → Prop) (E : Value → Shared → Prop),
  (∀ ys h tk, Ext s.heap h → RVs h P.bad vs ys → Q ys { s with heap := h, toks := tk }) → wpAny (model PG P.c.w) P.c.A (spliced (backTo pos (starEach es P.env))) Q E s
/-- a call on values -/
noncomputable def Cv (P : Px) (f : Value) (vs : List AV) (r : AV) : Prop := ∀ (s : Shared), P.inv s → ∀ ys, RVs s.heap P.bad vs ys → ∀ (Q E : Value → Shared → Prop),
  (∀ y h tk, Ext s.heap h → RV h P.bad r y → Q y { s with heap := h, toks := tk }) → wpAny (model PG P.c.w) P.c.A (call f ys) Q E s
/-- a test -/
noncomputable def EvT (P : Px) (e : Expr) (b : Bool) : Prop := ∀ (s : Shared), P.inv s → ∀ (Q : Bool → Shared → Prop) (E : Value → Shared → Prop),
  (∀ h tk, Ext s.heap h → Q b { s with heap := h, toks := tk }) → wpAny (model PG P.c.w) P.c.A (isTrue e P.env (eval e P.env)) Q E s

section
variable {P : Px} {pos : Pos}
theorem Ev.cInt {i : Int} {k : Nat} : Ev P (.Constant (.int i) k pos) (.int i) := fun _ _ _ _ hQ => wpAny_Constant_int (hQ _ _ _ Ext.rfl' ⟨_, rfl⟩)
theorem Ev.cStr {x : Str} {k : Nat} : Ev P (.Constant (.str x) k pos) (.str x) := fun _ _ _ _ hQ => Calls.Constant_str (hQ _ _ _ Ext.rfl' ⟨_, rfl⟩)
theorem Ev.cNone {k : Nat} : Ev P (.Constant .none k pos) .none := fun s _ _ _ hQ => wpAny_Constant_none (hQ _ s.heap s.toks Ext.rfl' rfl)
theorem Ev.cBool {b : Bool} {k : Nat} : Ev P (.Constant (.bool b) k pos) (.bool b) := fun s _ _ _ hQ => PyProof.Rows.Constant_bool (hQ _ s.heap s.toks Ext.rfl' rfl)

/-- two operands and what is done of them -/
theorem Ev.bin {l r : Expr} {op : Operator} {a b v : AV} (hl : Ev P l a) (hr : Ev P r b)
    (hop : ∀ (s : Shared), P.inv s → ∀ x y, RV s.heap P.bad a x → RV s.heap P.bad b y → ∀ (Q E : Value → Shared → Prop), (∀ z h tk, Ext s.heap h → RV h P.bad v z → Q z { s with heap := h, toks := tk }) → wpAny (model PG P.c.w) P.c.A (binaryOp op x y) Q E s) :
    Ev P (.BinOp l op r pos) v := fun s hs Q E hQ =>
  wpAny_BinOp (hl s hs _ _ fun x h tk e rx => hr _ (P.ok _ _ _ hs e) _ _ fun y h2 tk2 e2 ry =>
    hop _ (P.ok _ _ _ (P.ok _ h tk hs e) e2) x y (rx.ext e2) ry _ _ fun z h3 tk3 e3 rz => hQ z h3 tk3 (e.trans' (e2.trans' e3)) rz)
section
variable {l r : Expr} {i j : Int}
theorem Ev.add (hl : Ev P l (.int i)) (hr : Ev P r (.int j)) : Ev P (.BinOp l .Add r pos) (.int (i + j)) :=
  hl.bin hr fun _ _ _ _ ⟨_, e1⟩ ⟨_, e2⟩ _ _ hQ => by subst e1; subst e2; exact add_int (hQ _ _ _ Ext.rfl' ⟨_, rfl⟩)
theorem Ev.sub (hl : Ev P l (.int i)) (hr : Ev P r (.int j)) : Ev P (.BinOp l .Sub r pos) (.int (i - j)) :=
  hl.bin hr fun _ _ _ _ ⟨_, e1⟩ ⟨_, e2⟩ _ _ hQ => by subst e1; subst e2; exact sub_int (hQ _ _ _ Ext.rfl' ⟨_, rfl⟩)
theorem Ev.mul (hm : IntMulOk i j) (hl : Ev P l (.int i)) (hr : Ev P r (.int j)) : Ev P (.BinOp l .Mult r pos) (.int (i * j)) :=
  hl.bin hr fun _ _ _ _ ⟨_, e1⟩ ⟨_, e2⟩ _ _ hQ => by subst e1; subst e2; exact PySem.P.mul_int (hQ _ _ _ Ext.rfl' ⟨_, rfl⟩) hm
end
/-- two operands compared -/
theorem Ev.cmp {l r : Expr} {op : CmpOp} {a b : AV} {v : Bool} (hl : Ev P l a) (hr : Ev P r b)
    (hop : ∀ (s : Shared), P.inv s → ∀ x y, RV s.heap P.bad a x → RV s.heap P.bad b y → ∀ (Q E : Value → Shared → Prop), (∀ h tk, Ext s.heap h → Q (.bool v) { s with heap := h, toks := tk }) → wpAny (model PG P.c.w) P.c.A (compareOp op x y) Q E s)
    (hm : behindInMarks op r = false := by with_unfolding_all rfl) :
    EvT P (.Compare l [op] [r] pos) v := fun s hs Q E hQ =>
  wpAny_isTrue_Compare1 (hl s hs _ _ fun x h tk e rx => hr _ (P.ok _ _ _ hs e) _ _ fun y h2 tk2 e2 ry =>
    hop _ (P.ok _ _ _ (P.ok _ h tk hs e) e2) x y (rx.ext e2) ry _ _ fun h3 tk3 e3 => wpAny_truthy_bool (hQ h3 tk3 (e.trans' (e2.trans' e3)))) hm
section
variable {l r : Expr} {i j : Int} {x y : Str}
theorem Ev.lt (hl : Ev P l (.int i)) (hr : Ev P r (.int j)) (hm : behindInMarks .Lt r = false := by with_unfolding_all rfl) : EvT P (.Compare l [.Lt] [r] pos) (decide (i < j)) :=
  hl.cmp hr (hm := hm) fun s _ _ _ ⟨_, e1⟩ ⟨_, e2⟩ _ _ hQ => by subst e1; subst e2; exact lt_int (hQ s.heap s.toks Ext.rfl')
theorem Ev.gt (hl : Ev P l (.int i)) (hr : Ev P r (.int j)) (hm : behindInMarks .Gt r = false := by with_unfolding_all rfl) : EvT P (.Compare l [.Gt] [r] pos) (decide (j < i)) :=
  hl.cmp hr (hm := hm) fun s _ _ _ ⟨_, e1⟩ ⟨_, e2⟩ _ _ hQ => by subst e1; subst e2; exact gt_int (hQ s.heap s.toks Ext.rfl')
theorem Ev.eq (hl : Ev P l (.int i)) (hr : Ev P r (.int j)) (hm : behindInMarks .Eq r = false := by with_unfolding_all rfl) : EvT P (.Compare l [.Eq] [r] pos) (i == j) :=
  hl.cmp hr (hm := hm) fun s _ _ _ ⟨_, e1⟩ ⟨_, e2⟩ _ _ hQ => by subst e1; subst e2; exact eq_int (hQ s.heap s.toks Ext.rfl')
theorem Ev.ne (hl : Ev P l (.int i)) (hr : Ev P r (.int j)) (hm : behindInMarks .NotEq r = false := by with_unfolding_all rfl) : EvT P (.Compare l [.NotEq] [r] pos) (i != j) :=
  hl.cmp hr (hm := hm) fun s _ _ _ ⟨_, e1⟩ ⟨_, e2⟩ _ _ hQ => by subst e1; subst e2; exact ne_int (hQ s.heap s.toks Ext.rfl')
theorem Ev.seq (hl : Ev P l (.str x)) (hr : Ev P r (.str y)) (hm : behindInMarks .Eq r = false := by with_unfolding_all rfl) : EvT P (.Compare l [.Eq] [r] pos) (x == y) :=
  hl.cmp hr (hm := hm) fun s _ _ _ ⟨_, e1⟩ ⟨_, e2⟩ _ _ hQ => by subst e1; subst e2; exact eq_str (hQ s.heap s.toks Ext.rfl')
end
theorem EvL.nil : EvL P pos [] [] := fun s _ _ _ hQ => args_nil (hQ _ s.heap s.toks Ext.rfl' rfl)
theorem EvL.cons {e : Expr} {rest : List Expr} {v : AV} {vs : List AV} (h1 : Ev P e v) (h2 : EvL P pos rest vs) (he : starEach (e :: rest) P.env = (false, eval e P.env) :: starEach rest P.env := by rfl) : EvL P pos (e :: rest) (v :: vs) := fun s hs Q E hQ =>
  args_cons (h1 s hs _ _ fun y h tk e1 r1 => h2 _ (P.ok _ _ _ hs e1) _ _ fun ys h2 tk2 e2 r2 => hQ _ h2 tk2 (e1.trans' e2) ⟨y, ys, rfl, r1.ext e2, r2⟩) he
end
end Mine
end
section
open PySem PySem.W PyProof.Rows PySem.Calls PySem.Spec
set_option maxRecDepth 100000
set_option maxHeartbeats 4000000
namespace Mine
/-! a def's frame: its names hold trees -/
noncomputable abbrev Loc := List (Str × AV)
/-- what a name holds: a tree, or the list that the frame alone changes -/
noncomputable def RM (h : Heap) (bad mu : Addr → Prop) (v : AV) (y : Value) : Prop := match v with
  | .mut a vs => y = .ref a ∧ mu a ∧ ∃ xs n, h.get? a = some (listOf xs.toArray n) ∧ RVs h bad vs xs
  | .mutS a C => y = .ref a ∧ mu a ∧ ∃ o, h.get? a = some o ∧ C.rel o h bad
  | v => RV h bad v y
theorem RM.move {h h' : Heap} {bad mu : Addr → Prop} (T : ∀ a o, ¬ bad a → h.get? a = some o → ¬ bad a ∧ h'.get? a = some o) (U : ∀ a o, mu a → h.get? a = some o → h'.get? a = some o) : ∀ {v : AV} {y : Value}, RM h bad mu v y → RM h' bad mu v y
  | .mut a vs, _, ⟨e, hb, xs, n, ho, r⟩ => ⟨e, hb, xs, n, U a _ hb ho, r.move T⟩
  | .mutS a C, _, ⟨e, hb, o, ho, r⟩ => ⟨e, hb, o, U a _ hb ho, C.move T r⟩
  | .int _, _, r => r
  | .str _, _, r => r
  | .bool _, _, r => r
  | .none, _, r => r
  | .glob _, _, r => r
  | .sem S, _, r => S.move T r
  | .list _, _, r => RV.move T r
  | .tup _, _, r => RV.move T r
theorem RV.rm {h : Heap} {bad mu : Addr → Prop} : ∀ {v : AV} {y : Value}, RV h bad v y → RM h bad mu v y
  | .mut _ _, _, r => r.elim
  | .mutS _ _, _, r => r.elim
  | .int _, _, r => r
  | .str _, _, r => r
  | .bool _, _, r => r
  | .none, _, r => r
  | .glob _, _, r => r
  | .sem _, _, r => r
  | .list _, _, r => r
  | .tup _, _, r => r
/-- no list that changes -/
noncomputable def AV.still : AV → Bool
  | .mut _ _ => false
  | .mutS _ _ => false
  | _ => true
theorem RM.rv {h : Heap} {bad mu : Addr → Prop} : ∀ {v : AV} {y : Value}, v.still = true → RM h bad mu v y → RV h bad v y
  | .mut _ _, _, e, _ => nomatch e
  | .mutS _ _, _, e, _ => nomatch e
  | .int _, _, _, r => r
  | .str _, _, _, r => r
  | .bool _, _, _, r => r
  | .none, _, _, r => r
  | .glob _, _, _, r => r
  | .sem _, _, _, r => r
  | .list _, _, _, r => r
  | .tup _, _, _, r => r
noncomputable def VarAt (c : Cx) (m : Str → Option Value) (h : Heap) (bad mu : Addr → Prop) (x : Str) (v : AV) : Prop :=
  (c.cs.names.lookup x = some .local ∧ ∃ y, m x = some y ∧ RM h bad mu v y) ∨
  (c.cs.names.lookup x = some .cell ∧ ∃ a o y, c.cl.lookup x = some a ∧ h.get? a = some o ∧ o.data = .cell (some y) ∧ RM h bad mu v y)
/-- what the frame may change -/
noncomputable def Cx.ch (c : Cx) (mu : Addr → Prop) (a : Addr) : Prop := mu a ∨ a = c.L ∨ ∃ x, c.cl.lookup x = some a
noncomputable def Cx.bad (c : Cx) (mu ob : Addr → Prop) (a : Addr) : Prop := ob a ∨ c.ch mu a
structure FnInv (c : Cx) (mu ob : Addr → Prop) (σ : Loc) (h : Heap) : Prop where
  ok : c.Ok
  rb : ∀ a, c.rb a → ob a
  obs : ∀ a, ob a → a ≠ c.L ∧ (∀ x, c.cl.lookup x ≠ some a) ∧ ∃ o, h.get? a = some o
  mus : ∀ a, mu a → a ≠ c.L ∧ (∀ x, c.cl.lookup x ≠ some a) ∧ c.g.get? a = none ∧ ∃ o, h.get? a = some o
  cells : ∀ x a, c.cl.lookup x = some a → a ≠ c.L ∧ c.g.get? a = none ∧ ∃ o v₀, h.get? a = some o ∧ o.data = .cell v₀
  inj : ∀ x y a, c.cl.lookup x = some a → c.cl.lookup y = some a → x = y
  fr : ∃ m, Fr c.g c.L h m ∧ ∀ x v, σ.lookup x = some v → VarAt c m h (c.bad mu ob) mu x v
theorem VarAt.move {c : Cx} {m : Str → Option Value} {h h' : Heap} {bad mu : Addr → Prop} {x : Str} {v : AV} (e : Ext h h') (V : VarAt c m h bad mu x v) : VarAt c m h' bad mu x v :=
  have mv : ∀ {v y}, RM h bad mu v y → RM h' bad mu v y := fun r => r.move (fun a o hb ho => ⟨hb, e a o ho⟩) fun a o _ ho => e a o ho
  V.imp (fun ⟨k, y, hy, r⟩ => ⟨k, y, hy, mv r⟩) fun ⟨k, a, o, y, ha, ho, hd, r⟩ => ⟨k, a, o, y, ha, e _ _ ho, hd, mv r⟩
theorem Fr.ext {g h h' : Heap} {L : Addr} {m : Str → Option Value} (F : Fr g L h m) (e : Ext h h') : Fr g L h' m :=
  let ⟨o, es, ep, ho, r⟩ := F.ns
  ⟨⟨o, es, ep, e _ _ ho, r⟩, fun b o' eb => e _ _ (F.keep b o' eb), F.above⟩
theorem FnInv.ext {c : Cx} {mu ob : Addr → Prop} {σ : Loc} {h h' : Heap} (I : FnInv c mu ob σ h) (e : Ext h h') : FnInv c mu ob σ h' where
  ok := I.ok
  rb := I.rb
  obs := fun a ha => let ⟨p, q, o, ho⟩ := I.obs a ha; ⟨p, q, o, e _ _ ho⟩
  mus := fun a ha => let ⟨p, q, g, o, ho⟩ := I.mus a ha; ⟨p, q, g, o, e _ _ ho⟩
  cells := fun x a ha => let ⟨p, q, o, v, ho, hd⟩ := I.cells x a ha; ⟨p, q, o, v, e _ _ ho, hd⟩
  inj := I.inj
  fr := let ⟨m, F, V⟩ := I.fr; ⟨m, Fr.ext F e, fun x v hx => (V x v hx).move e⟩
theorem FnInv.lives {c : Cx} {mu ob : Addr → Prop} {σ : Loc} {h : Heap} (I : FnInv c mu ob σ h) {a : Addr} (hb : c.bad mu ob a) : ∃ o, h.get? a = some o := by
  rcases hb with hb | hb | rfl | ⟨x, hx⟩
  · exact (I.obs a hb).2.2
  · exact (I.mus a hb).2.2.2
  · obtain ⟨m, F, -⟩ := I.fr
    obtain ⟨o, _, _, ho, _⟩ := F.ns
    exact ⟨o, ho⟩
  · obtain ⟨-, -, o, -, ho, -⟩ := I.cells x a hx
    exact ⟨o, ho⟩
/-- the place of a def's own expressions -/
noncomputable def Px.fn (c : Cx) (mu ob : Addr → Prop) (σ : Loc) : Px where
  c := c
  env := c.env
  bad := c.bad mu ob
  inv := fun s => FnInv c mu ob σ s.heap
  fr := fun s I => ⟨I.ok, I.fr.imp fun _ h => h.1⟩
  ok := fun _ _ _ I e => I.ext e
  low := fun _ _ I hb => I.lives hb
section
variable {c : Cx} {mu ob : Addr → Prop} {σ : Loc} {x : Str} {pos : Pos} {v : AV}
theorem Ev.name (hx : σ.lookup x = some v) (hd : (x == ("__debug__" : Str)) = false := by decide) (hv : v.still = true := by rfl) : Ev (Px.fn c mu ob σ) (.Name x pos) v := fun s I Q E hQ => by
  have I : FnInv c mu ob σ s.heap := I
  obtain ⟨m, F, V⟩ := I.fr
  refine wpAny_Name ?_ hd
  rcases V x v hx with ⟨k, y, hy, r⟩ | ⟨k, a, o, y, ha, ho, hdt, r⟩
  · exact wpAny_loadName_local (env := c.env) I.ok.k k F.ns hy (hQ y s.heap s.toks Ext.rfl' (r.rv hv))
  · exact wpAny_loadName_cell (env := c.env) I.ok.k k ha ⟨o, ho, hdt⟩ (hQ y s.heap s.toks Ext.rfl' (r.rv hv))
theorem Ev.glob {u : Value} (hk : c.cs.names.lookup x = some .globalImplicit) (hn : nsIn (hd.heap_39 c.w.params) mainGlobals x = some (some u)) (hd : (x == ("__debug__" : Str)) = false := by decide) : Ev (Px.fn c mu ob σ) (.Name x pos) (.glob u) := fun s I Q E hQ => by
  have I : FnInv c mu ob σ s.heap := I
  obtain ⟨m, F, -⟩ := I.fr
  exact nameX_K F I.ok.X (topRead_of I.ok.T) hn (hQ u s.heap s.toks Ext.rfl' rfl) I.ok.k hk hd
theorem Ev.built {u : Value} (hk : c.cs.names.lookup x = some .globalImplicit) (hn : nsIn (hd.heap_39 c.w.params) mainGlobals x = some none) (hu : bootBuiltins x = some u) (hne : x ≠ "__name__") (hd : (x == ("__debug__" : Str)) = false := by decide) : Ev (Px.fn c mu ob σ) (.Name x pos) (.glob u) := fun s I Q E hQ => by
  have I : FnInv c mu ob σ s.heap := I
  obtain ⟨m, F, -⟩ := I.fr
  exact nameX_B F I.ok.X (topRead_of I.ok.T) hn hu hne (hQ u s.heap s.toks Ext.rfl' rfl) I.ok.k hk hd
/-- an int of the text's own top -/
theorem Ev.globI {i : Int} {t : Tok} (hk : c.cs.names.lookup x = some .globalImplicit) (hn : nsIn (hd.heap_39 c.w.params) mainGlobals x = some (some (.int i t))) (hd : (x == ("__debug__" : Str)) = false := by decide) : Ev (Px.fn c mu ob σ) (.Name x pos) (.int i) := fun s I Q E hQ =>
  Ev.glob hk hn hd s I Q E fun y h tk e r => hQ y h tk e ⟨t, r⟩
end
/-! calls -/
section
variable {P : Px} {pos : Pos} {f : Expr} {e : Expr} {rest : List Expr} {vs : List AV} {r : AV}
theorem Ev.callB {id : String} (hf : Ev P f (.glob (.builtin id))) (hl : EvL P pos (e :: rest) vs) (hc : Cv P (.builtin id) vs r)
    (he : starEach (e :: rest) P.env = (false, eval e P.env) :: starEach rest P.env := by rfl) (hp : (backTo pos (starEach rest P.env)).any (·.1) = false := by rfl)
    (hw : eval (.Call f (e :: rest) [] pos) P.env = (do callWith pos (← eval f P.env) [] (backTo pos (starEach (e :: rest) P.env)) (backToKw pos (keywordEach [] P.env))) := by rfl) : Ev P (.Call f (e :: rest) [] pos) r := fun s hs Q E hQ =>
  Call_ (hf s hs _ _ fun y h tk e1 r1 => by
    cases r1
    exact callWith_builtin1 (hl _ (P.ok _ _ _ hs e1) _ _ fun ys h2 tk2 e2 r2 => hc _ (P.ok _ _ _ (P.ok _ h tk hs e1) e2) ys r2 _ _ fun y3 h3 tk3 e3 r3 => hQ y3 h3 tk3 (e1.trans' (e2.trans' e3)) r3) he hp) hw
theorem Ev.callT {id : String} (hf : Ev P f (.glob (.type id))) (hl : EvL P pos (e :: rest) vs) (hc : Cv P (.type id) vs r)
    (he : starEach (e :: rest) P.env = (false, eval e P.env) :: starEach rest P.env := by rfl) (hp : (backTo pos (starEach rest P.env)).any (·.1) = false := by rfl)
    (hw : eval (.Call f (e :: rest) [] pos) P.env = (do callWith pos (← eval f P.env) [] (backTo pos (starEach (e :: rest) P.env)) (backToKw pos (keywordEach [] P.env))) := by rfl) : Ev P (.Call f (e :: rest) [] pos) r := fun s hs Q E hQ =>
  Call_ (hf s hs _ _ fun y h tk e1 r1 => by
    cases r1
    exact Pv.callWith_type1 (hl _ (P.ok _ _ _ hs e1) _ _ fun ys h2 tk2 e2 r2 => hc _ (P.ok _ _ _ (P.ok _ h tk hs e1) e2) ys r2 _ _ fun y3 h3 tk3 e3 r3 => hQ y3 h3 tk3 (e1.trans' (e2.trans' e3)) r3) he hp) hw
theorem Ev.callF {a : Addr} (hf : Ev P f (.glob (.ref a))) (hk : keepIn (hd.heap_39 P.c.w.params) (.ref a) = true) (hl : EvL P pos (e :: rest) vs) (hc : Cv P (.ref a) vs r)
    (he : starEach (e :: rest) P.env = (false, eval e P.env) :: starEach rest P.env := by rfl) (hp : (backTo pos (starEach rest P.env)).any (·.1) = false := by rfl)
    (hw : eval (.Call f (e :: rest) [] pos) P.env = (do callWith pos (← eval f P.env) [] (backTo pos (starEach (e :: rest) P.env)) (backToKw pos (keywordEach [] P.env))) := by rfl) : Ev P (.Call f (e :: rest) [] pos) r := fun s hs Q E hQ =>
  Call_ (hf s hs _ _ fun y h tk e1 r1 => by
    cases r1
    have X : ∀ s', P.inv s' → (hd.heap_39 P.c.w.params).In s'.heap := fun s' I => let ⟨O, m, F⟩ := P.fr s' I; O.X.keeps F.keep
    exact callWith_K (X _ hs) hk (hl _ (P.ok _ _ _ hs e1) _ _ fun ys h2 tk2 e2 r2 => ⟨X _ (P.ok _ _ _ (P.ok _ h tk hs e1) e2), hc _ (P.ok _ _ _ (P.ok _ h tk hs e1) e2) ys r2 _ _ fun y3 h3 tk3 e3 r3 => hQ y3 h3 tk3 (e1.trans' (e2.trans' e3)) r3⟩) he hp) hw
theorem Cv.min2 {i j : Int} : Cv P (.builtin "min") [.int i, .int j] (.int (if j < i then j else i)) := fun s hs ys r Q E hQ => by
  obtain ⟨x, _, rfl, ⟨t, rfl⟩, y, _, rfl, ⟨u, rfl⟩, rfl⟩ := r
  obtain ⟨O, m, F⟩ := P.fr s hs
  exact min_two_ints rfl fun h tk hk => hQ _ h tk hk (by split <;> exact ⟨_, rfl⟩)
theorem Cv.lenS {x : Str} (hf : x.length ≤ 1000000) : Cv P (.builtin "len") [.str x] (.int (x.length : Nat)) := fun s hs ys r Q E hQ => by
  obtain ⟨_, _, rfl, ⟨t, rfl⟩, rfl⟩ := r
  exact PySem.P.len_str (by omega) (hQ _ _ _ Ext.rfl' ⟨_, rfl⟩)
end
end Mine
end
section
open PySem PySem.W PyProof.Rows PySem.Calls PySem.Spec
set_option maxRecDepth 100000
set_option maxHeartbeats 4000000
namespace Mine
noncomputable def Kp (bad : Addr → Prop) (h h' : Heap) : Prop := ∀ a o, ¬ bad a → h.get? a = some o → h'.get? a = some o
theorem Kp.ext {bad : Addr → Prop} {h h' : Heap} (e : Ext h h') : Kp bad h h' := fun a o _ ho => e a o ho
theorem Kp.trans {bad : Addr → Prop} {h h' h'' : Heap} (e : Kp bad h h') (f : Kp bad h' h'') : Kp bad h h'' := fun a o hb ho => f a o hb (e a o hb ho)
/-- the ends of statements: go on with names N, or hand back R -/
noncomputable def SEnd (c : Cx) (mu ob : Addr → Prop) (s : Shared) (N : Loc → Prop) (R : AV → Prop) (Q : Flow → Shared → Prop) : Prop :=
  (∀ σ h tk, N σ → FnInv c mu ob σ h → Kp (c.ch mu) s.heap h → Q .next { s with heap := h, toks := tk }) ∧
  (∀ r y h tk, R r → (∃ m, Fr c.g c.L h m) → RV h c.rb r y → Q (.ret y) { s with heap := h, toks := tk })
noncomputable def Ws (c : Cx) (mu ob : Addr → Prop) (σ : Loc) (st : Stmt) (N : Loc → Prop) (R : AV → Prop) : Prop :=
  ∀ s, FnInv c mu ob σ s.heap → ∀ (Q : Flow → Shared → Prop) (E : Value → Shared → Prop), SEnd c mu ob s N R Q → wpAny (model PG c.w) c.A (exec st c.env) Q E s
noncomputable def Wp (c : Cx) (mu ob : Addr → Prop) (σ : Loc) (ss : List Stmt) (N : Loc → Prop) (R : AV → Prop) : Prop :=
  ∀ s, FnInv c mu ob σ s.heap → ∀ (Q : Flow → Shared → Prop) (E : Value → Shared → Prop), SEnd c mu ob s N R Q → wpAny (model PG c.w) c.A (execs ss c.env) Q E s
section
variable {c : Cx} {mu ob : Addr → Prop} {σ : Loc} {N N' : Loc → Prop} {R : AV → Prop} {s : Shared} {Q : Flow → Shared → Prop} {pos px : Pos} {e : Expr} {v : AV} {x : Str}
theorem SEnd.later (H : SEnd c mu ob s N R Q) {h : Heap} {tk : Nat} (k : Kp (c.ch mu) s.heap h) : SEnd c mu ob { s with heap := h, toks := tk } N R Q :=
  ⟨fun σ h' tk' n I k' => H.1 σ h' tk' n I (k.trans k'), fun r y h' tk' hr hm rv => H.2 r y h' tk' hr hm rv⟩
theorem Wp.nil (h : N σ) : Wp c mu ob σ [] N R := fun s I Q E H => wpAny_execs_nil (H.1 σ s.heap s.toks h I fun _ _ _ x => x)
theorem Wp.cons {st : Stmt} {ss : List Stmt} (h : Ws c mu ob σ st (fun σ' => Wp c mu ob σ' ss N R) R) : Wp c mu ob σ (st :: ss) N R := fun s I Q E H =>
  wpAny_execs_cons (h s I _ E ⟨fun σ' h' tk n I' k => n _ I' Q E (H.later k), fun r y h' tk hr hm rv => H.2 r y h' tk hr hm rv⟩)
theorem Ws.ret (hv : Ev (Px.fn c mu ob σ) e v) (hr : R v) : Ws c mu ob σ (.Return (some e) pos) N R := fun s I Q E H =>
  wpAny_Return_some (hv s I _ _ fun y h tk ex rv => H.2 v y h tk hr (let ⟨m, F, _⟩ := (I.ext ex).fr; ⟨m, F⟩) (rv.move fun a o hb ho => ⟨fun q => hb (.inl (I.rb a q)), ho⟩))
/-- names forgotten -/
noncomputable def Sub (τ σ : Loc) : Prop := ∀ p ∈ τ, σ.lookup p.1 = some p.2
theorem Sub.lookup : ∀ {τ σ : Loc}, Sub τ σ → ∀ {x : Str} {v : AV}, τ.lookup x = some v → σ.lookup x = some v
  | (y, w) :: τ, σ, S, x, v, h => by
    rw [List.lookup_cons] at h
    cases q : x == y with
    | true => rw [q] at h; cases h; rw [eq_of_beq q]; exact S _ (.head _)
    | false => rw [q] at h; exact Sub.lookup (fun p hp => S p (.tail _ hp)) h
theorem FnInv.sub {τ : Loc} {h : Heap} (I : FnInv c mu ob σ h) (S : Sub τ σ) : FnInv c mu ob τ h :=
  ⟨I.ok, I.rb, I.obs, I.mus, I.cells, I.inj, let ⟨m, F, V⟩ := I.fr; ⟨m, F, fun x v hx => V x v (S.lookup hx)⟩⟩
/-- a name of the frame is stored -/
theorem FnInv.set {h h' : Heap} {y : Value} (I : FnInv c mu ob σ h) (hl : c.cs.names.lookup x = some .local) (hs : Heap.SameBut c.L h h') (hn : ∀ m, h.Ns c.L m → h'.Ns c.L fun z => if z = x then some y else m z)
    (r : RV h (c.bad mu ob) v y) : FnInv c mu ob ((x, v) :: σ) h' where
  ok := I.ok
  rb := I.rb
  obs := fun a ha => let ⟨p, q, o, ho⟩ := I.obs a ha; ⟨p, q, o, (hs.2 a p).trans ho⟩
  mus := fun a ha => let ⟨p, q, g, o, ho⟩ := I.mus a ha; ⟨p, q, g, o, (hs.2 a p).trans ho⟩
  cells := fun z a ha => let ⟨p, q, o, w, ho, hd⟩ := I.cells z a ha; ⟨p, q, o, w, (hs.2 a p).trans ho, hd⟩
  inj := I.inj
  fr := by
    obtain ⟨m, F, V⟩ := I.fr
    have mv : ∀ a o, ¬ c.bad mu ob a → h.get? a = some o → ¬ c.bad mu ob a ∧ h'.get? a = some o := fun a o hb ho => ⟨hb, (hs.2 a fun q => hb (.inr (.inr (.inl q)))).trans ho⟩
    have mm : ∀ a o, mu a → h.get? a = some o → h'.get? a = some o := fun a o hb ho => (hs.2 a (I.mus a hb).1).trans ho
    refine ⟨_, F.set (hn m F.ns) hs, fun z w hz => ?_⟩
    rw [List.lookup_cons] at hz
    by_cases q : z = x
    · subst q
      simp only [beq_self_eq_true, Option.some.injEq] at hz
      subst hz
      exact .inl ⟨hl, y, by simp, (r.move mv).rm⟩
    · have hb : (z == x) = false := beq_eq_false_iff_ne.mpr q
      rw [hb] at hz
      rcases V z w hz with ⟨k, y', hy, r'⟩ | ⟨k, a, o, y', ha, ho, hd, r'⟩
      · exact .inl ⟨k, y', by simp [q, hy], r'.move mv mm⟩
      · exact .inr ⟨k, a, o, y', ha, (hs.2 a (I.cells z a ha).1).trans ho, hd, r'.move mv mm⟩
/-- x may be stored: a local name or a cell -/
noncomputable def Put (c : Cx) (x : Str) : Bool := match c.cs.names.lookup x with
  | some .local => true
  | some .cell => (c.cl.lookup x).isSome
  | _ => false
theorem FnInv.setC {h h' : Heap} {y : Value} {a : Addr} (I : FnInv c mu ob σ h) (hl : c.cs.names.lookup x = some .cell) (ha : c.cl.lookup x = some a) (hs : Heap.SameBut a h h') (hc : h'.IsCell a (some y))
    (r : RV h (c.bad mu ob) v y) : FnInv c mu ob ((x, v) :: σ) h' where
  ok := I.ok
  rb := I.rb
  obs := fun b hb => let ⟨p, q, o, ho⟩ := I.obs b hb; ⟨p, q, o, (hs.2 b fun e => q x (e ▸ ha)).trans ho⟩
  mus := fun b hb => let ⟨p, q, g, o, ho⟩ := I.mus b hb; ⟨p, q, g, o, (hs.2 b fun e => q x (e ▸ ha)).trans ho⟩
  cells := fun z b hb => by
    obtain ⟨p, q, o, w, ho, hd⟩ := I.cells z b hb
    by_cases e : b = a
    · obtain ⟨o', h1, h2⟩ := hc
      exact ⟨p, q, o', _, e ▸ h1, h2⟩
    · exact ⟨p, q, o, w, (hs.2 b e).trans ho, hd⟩
  inj := I.inj
  fr := by
    obtain ⟨m, F, V⟩ := I.fr
    obtain ⟨haL, hag, -⟩ := I.cells x a ha
    have mv : ∀ b o, ¬ c.bad mu ob b → h.get? b = some o → ¬ c.bad mu ob b ∧ h'.get? b = some o := fun b o hb ho => ⟨hb, (hs.2 b fun q => hb (.inr (.inr (.inr ⟨x, q ▸ ha⟩)))).trans ho⟩
    have mm : ∀ b o, mu b → h.get? b = some o → h'.get? b = some o := fun b o hb ho => (hs.2 b fun q => (I.mus b hb).2.1 x (q ▸ ha)).trans ho
    obtain ⟨oL, es, ep, hL, rL⟩ := F.ns
    refine ⟨m, ⟨⟨oL, es, ep, (hs.2 _ (Ne.symm haL)).trans hL, rL⟩, fun b o hg => (hs.2 b fun q => by rw [q, hag] at hg; cases hg).trans (F.keep _ _ hg), F.above⟩, fun z w hz => ?_⟩
    rw [List.lookup_cons] at hz
    by_cases q : z = x
    · subst q
      simp only [beq_self_eq_true, Option.some.injEq] at hz
      subst hz
      obtain ⟨o', h1, h2⟩ := hc
      exact .inr ⟨hl, a, o', y, ha, h1, h2, (r.move mv).rm⟩
    · have hb : (z == x) = false := beq_eq_false_iff_ne.mpr q
      rw [hb] at hz
      rcases V z w hz with ⟨k, y', hy, r'⟩ | ⟨k, b, o, y', hb', ho, hd, r'⟩
      · exact .inl ⟨k, y', hy, r'.move mv mm⟩
      · exact .inr ⟨k, b, o, y', hb', (hs.2 b fun e => q (I.inj z x a (e ▸ hb') ha)).trans ho, hd, r'.move mv mm⟩
theorem ns_unique {h : Heap} {a : Addr} {m m' : Str → Option Value} (G : h.Ns a m) (G' : h.Ns a m') : m = m' := by
  obtain ⟨o, es, ep, ho, hd, _, hf⟩ := G
  obtain ⟨o', es', ep', ho', hd', _, hf'⟩ := G'
  rw [ho] at ho'; cases ho'
  rw [hd] at hd'; cases hd'
  exact funext fun z => (hf z).symm.trans (hf' z)
theorem store_local {y : Value} {Q' : Unit → Shared → Prop} {E : Value → Shared → Prop} (I : FnInv c mu ob σ s.heap) (hl : c.cs.names.lookup x = some .local) (r : RV s.heap (c.bad mu ob) v y)
    (h : ∀ h' tk, FnInv c mu ob ((x, v) :: σ) h' → Kp (c.ch mu) s.heap h' → Q' () { s with heap := h', toks := tk }) : wpAny (model PG c.w) c.A (storeName c.env x y) Q' E s := by
  obtain ⟨m, F, V⟩ := I.fr
  refine wpAny_storeName_local (env := c.env) hl F.ns (fun h' hn hs => h h' _ (I.set hl hs (fun m' hm' => ?_) r) fun a o hb ho => (hs.2 a fun q => hb (.inr (.inl q))).trans ho) (by show (c.cs.kind == .class || (c.cs.kind == .module && c.L != mainGlobals)) = false; rw [I.ok.k]; rfl)
  obtain rfl : m' = m := ns_unique hm' F.ns
  exact hn
theorem store_any {y : Value} {Q' : Unit → Shared → Prop} {E : Value → Shared → Prop} (I : FnInv c mu ob σ s.heap) (hl : Put c x = true) (r : RV s.heap (c.bad mu ob) v y)
    (h : ∀ h' tk, FnInv c mu ob ((x, v) :: σ) h' → Kp (c.ch mu) s.heap h' → Q' () { s with heap := h', toks := tk }) : wpAny (model PG c.w) c.A (storeName c.env x y) Q' E s := by
  unfold Put at hl
  split at hl
  · next e => exact store_local I e r h
  · next e =>
    obtain ⟨a, ha⟩ := Option.isSome_iff_exists.mp hl
    obtain ⟨-, -, o, v₀, ho, hd⟩ := I.cells x a ha
    exact wpAny_storeName_cell (env := c.env) I.ok.k e ha ⟨o, ho, hd⟩ fun h' hc hs => h h' s.toks (I.setC e ha hs hc r) fun b o hb ho => (hs.2 b fun q => hb (.inr (.inr ⟨x, q ▸ ha⟩))).trans ho
  · cases hl
theorem Ws.asg (hv : Ev (Px.fn c mu ob σ) e v) (hl : Put c x = true) (hn : N ((x, v) :: σ)) (hs : swapsWith e (some (.Name x px)) pos.line c.env = pure false := by rfl) : Ws c mu ob σ (.Assign [.Name x px] e pos) N R := fun s I Q E H =>
  wpAny_Assign_Name (hv s I _ _ fun y h tk ex rv => store_any (I.ext ex) hl rv fun h' tk' I' k => H.1 _ h' tk' hn I' ((Kp.ext ex).trans k)) hs
theorem Ws.ite {body orelse : List Stmt} {b : Bool} (ht : EvT (Px.fn c mu ob σ) e b) (h1 : b = true → Wp c mu ob σ body N R) (h2 : b = false → Wp c mu ob σ orelse N R) : Ws c mu ob σ (.If e body orelse pos) N R := fun s I Q E H =>
  wpAny_If (ht s I _ _ fun h tk ex => by
    cases b with
    | true => exact h1 rfl _ (I.ext ex) Q E (H.later (Kp.ext ex))
    | false => exact h2 rfl _ (I.ext ex) Q E (H.later (Kp.ext ex)))
theorem Ws.while {α : Type} {body : List Stmt} (τ : α → Loc) (Φ : α → Prop) (μ : α → Nat) (b : α → Bool) (a₀ : α) (h0 : Φ a₀) (hS : Sub (τ a₀) σ) (ht : ∀ a, Φ a → EvT (Px.fn c mu ob (τ a)) e (b a))
    (hb : ∀ a, Φ a → b a = true → Wp c mu ob (τ a) body (fun σ' => ∃ a', Φ a' ∧ μ a' < μ a ∧ Sub (τ a') σ') R) (hx : ∀ a, Φ a → b a = false → N (τ a)) : Ws c mu ob σ (.While e body [] pos) N R := fun s I Q E H =>
  wpAny_While (codeAny_whileLoop (fun n s' => ∃ a h tk, Φ a ∧ μ a ≤ n ∧ s' = { s with heap := h, toks := tk } ∧ FnInv c mu ob (τ a) h ∧ Kp (c.ch mu) s.heap h) (fun n s' hI => by
    obtain ⟨a, h, tk, ha, hn, rfl, I', k⟩ := hI
    refine ht a ha { s with heap := h, toks := tk } I' _ _ fun h1 tk1 e1 => ?_
    cases q : b a with
    | false => exact wpAny_execs_nil (H.1 _ h1 tk1 (hx a ha q) (I'.ext e1) (k.trans (Kp.ext e1)))
    | true => exact hb a ha q _ (I'.ext e1) _ _ ⟨fun σ' h2 tk2 n2 I2 k2 => let ⟨a', p1, p2, p3⟩ := n2; ⟨μ a', by omega, a', h2, tk2, p1, Nat.le_refl _, rfl, I2.sub p3, (k.trans (Kp.ext e1)).trans k2⟩, fun r y h2 tk2 hr hm rv => H.2 r y h2 tk2 hr hm rv⟩)
    (μ a₀) ⟨a₀, s.heap, s.toks, h0, Nat.le_refl _, rfl, I.sub hS, fun _ _ _ x => x⟩)
/-- x += e over ints -/
theorem Ws.augI {op : Operator} {i j r : Int} (hi : σ.lookup x = some (.int i)) (hl : c.cs.names.lookup x = some .local) (hv : Ev (Px.fn c mu ob σ) e (.int j)) (hn : N ((x, .int r) :: σ))
    (hop : ∀ {s : Shared} {t u : Tok} {Q : Value → Shared → Prop} {E : Value → Shared → Prop}, Q (.int r s.toks) { s with toks := s.toks + 1 } → wpAny (model PG c.w) c.A (inplaceOp op (.int i t) (.int j u)) Q E s) : Ws c mu ob σ (.AugAssign (.Name x px) op e pos) N R := fun s I Q E H => by
  obtain ⟨m, F, V⟩ := I.fr
  rcases V x _ hi with ⟨k, y, hy, t, rfl⟩ | ⟨k, _⟩
  · refine wpAny_AugAssign_Name (wpAny_loadName_local (env := c.env) I.ok.k k F.ns hy (hv s I _ _ fun y h tk ex rv => ?_))
    obtain ⟨u, rfl⟩ := rv
    refine hop (store_local (I.ext ex) hl (v := .int r) ⟨_, rfl⟩ fun h' tk' I' k => H.1 _ h' tk' hn I' ((Kp.ext ex).trans k))
  · rw [hl] at k; cases k
theorem Ws.addI {i j : Int} (hi : σ.lookup x = some (.int i)) (hl : c.cs.names.lookup x = some .local) (hv : Ev (Px.fn c mu ob σ) e (.int j)) (hn : N ((x, .int (i + j)) :: σ)) : Ws c mu ob σ (.AugAssign (.Name x px) .Add e pos) N R := .augI hi hl hv hn iadd_int
theorem Ws.subI {i j : Int} (hi : σ.lookup x = some (.int i)) (hl : c.cs.names.lookup x = some .local) (hv : Ev (Px.fn c mu ob σ) e (.int j)) (hn : N ((x, .int (i - j)) :: σ)) : Ws c mu ob σ (.AugAssign (.Name x px) .Sub e pos) N R := .augI hi hl hv hn PySem.P.isub_int
end
end Mine
end
section
open PySem PySem.W PyProof.Rows PySem.Calls PySem.Spec
set_option maxRecDepth 100000
set_option maxHeartbeats 4000000
namespace Mine
/-! contracts: f on vs hands back r, with D frames at most -/
noncomputable def CtV (w : World) (mg mb : Str → Option Value) (mean : ExcName → Option Value) (f : Addr) (D : Nat) (vs : List AV) (r : AV) : Prop :=
  ∀ P : Px, P.c.w = w → P.c.mg = mg → P.c.mb = mb → P.c.mean = mean → P.c.dp + D < recursionLimit → P.c.un + 8 * D < cLine → Cv P (.ref f) vs r
theorem nil_lookup {x : Str} {a : Addr} : List.lookup x ([] : List (Str × Addr)) ≠ some a := fun e => nomatch e
theorem key_of {x : Str} {y : Value} : ∀ {l : List (Str × Value)}, l.lookup x = some y → x ∈ l.map (·.1)
  | [], e => nomatch e
  | p :: l, e => by
    rw [List.lookup_cons] at e
    cases z : x == p.1 with
    | true => rw [List.map_cons, eq_of_beq z]; exact .head _
    | false => rw [z] at e; exact .tail _ (key_of e)
theorem zip_lookup {h : Heap} {bad : Addr → Prop} : ∀ {names : List Str} {vs : List AV} {ys : List Value}, RVs h bad vs ys → ∀ {x : Str} {v : AV}, (names.zip vs).lookup x = some v → ∃ y, (names.zip ys).lookup x = some y ∧ RV h bad v y
  | [], _, _, _, _, _, e => nomatch e
  | _ :: _, [], _, _, _, _, e => nomatch e
  | n :: names, w :: vs, _, ⟨y, ys, e, r, rs⟩, x, v, hx => by
    subst e
    rw [List.zip_cons_cons, List.lookup_cons] at hx ⊢
    cases q : x == n with
    | true => rw [q] at hx; cases hx; exact ⟨y, rfl, r⟩
    | false => rw [q] at hx; exact zip_lookup rs hx
theorem lookup_append' {l l' : List (Str × Value)} {x : Str} : (l ++ l').lookup x = (l.lookup x).or (l'.lookup x) := by
  induction l with
  | nil => rfl
  | cons p l ih =>
    rw [List.cons_append, List.lookup_cons, List.lookup_cons, ih]
    split <;> rfl
theorem rev_lookup : ∀ {l : List (Str × Value)}, (l.map (·.1)).Nodup → ∀ x, l.reverse.lookup x = l.lookup x
  | [], _, _ => rfl
  | (k, v) :: l, hn, x => by
    rw [List.map_cons, List.nodup_cons] at hn
    rw [List.reverse_cons, lookup_append', rev_lookup hn.2 x, List.lookup_cons, List.lookup_cons]
    cases q : x == k with
    | false => cases l.lookup x <;> rfl
    | true =>
      have : l.lookup x = none := by
        cases e : l.lookup x with
        | none => rfl
        | some y => exact absurd (eq_of_beq q ▸ key_of e) hn.1
      rw [this]; rfl
theorem zip_names : ∀ {names : List Str} {ys : List Value}, ys.length = names.length → (names.zip ys).map (·.1) = names
  | [], _, _ => rfl
  | _ :: _, [], h => nomatch h
  | _ :: _, _ :: _, h => by rw [List.zip_cons_cons, List.map_cons, zip_names (Nat.succ.inj h)]
section
variable {w : World} {mg mb : Str → Option Value} {mean : ExcName → Option Value} {f : Addr} {D : Nat} {vs : List AV} {r : AV}
  {name qual : Str} {params : Arguments} {body : List Stmt} {scope : Scope} {dV kV doc pm cdv ct oc : Value} {an od : Option Addr} {osl : Array (Option Value)}
theorem ctv_of (names : List Str) (ho : (hd.heap_39 w.params).lookup f = some ⟨oc, od, .func (fnOf name qual params body scope dV kV doc pm an cdv ct), osl⟩) (hcd : codeIn (hd.heap_39 w.params) cdv qual = true)
    (hD : 0 < D) (hbind : ∀ s ys, ys.length = vs.length → BindsTo s (fnOf name qual params body scope dV kV doc pm an cdv ct) ⟨ys, []⟩ (names.zip ys)) (hln : vs.length = names.length) (hloc : ∀ x ∈ names, scope.names.lookup x = some .local) (hnd : names.Nodup)
    (h : ∀ (dp un : Nat) (gd : Option (List Code)) (outer : List Env) (A₀ : Around) (base g : Heap) (L : Addr) (ob : Addr → Prop), dp + D < recursionLimit + 1 → un + 8 * D < cLine + 3 →
      Wp ⟨w, mg, mb, mean, dp, un, gd, qual, scope, L, f, cdv, [], outer, A₀, base, g, ob⟩ (fun _ => False) ob (names.zip vs) body (fun _ => False) (fun v => v = r))
    (hco : scope.isCoroutine = false) (hgen : scope.isGenerator = false) (hk : scope.kind = .function) (hcell : ∀ x ∈ scope.names, x.2 ≠ .cell) : CtV w mg mb mean f D vs r := by
  rintro P rfl rfl rfl rfl hd hu s hs ys rv Q E hQ
  obtain ⟨O, m, F⟩ := P.fr s hs
  refine wpAny_call ?_
  have hl := rv.len
  obtain ⟨FG, BG, st, -⟩ := groundX (A := P.c.A) (R := fun _ _ => True) (env := P.c.env) (news := []) O.B F (fun p hp => nomatch hp) rfl rfl O.k
  refine codeAny_call_def (fd := fnX name qual params body scope [] dV kV doc pm an cdv ct) (body := body) (binds := names.zip ys) (by show P.c.dp < recursionLimit; omega) ((O.X.keeps F.keep) _ _ ho) rfl (O.T.nolimit.keeps F.keep) (codeRec_of (O.X.keeps F.keep) hcd) rfl (hbind s ys hl) hcell
    (fun p hp => hloc p.1 (zip_names (hl.trans hln) ▸ List.mem_map_of_mem hp)) (fun h₁ hns hk₁ => ?_) hco hgen hk
  have F' : Fr (hideAll s.heap []) s.heap.objs.size h₁ (fun y => (names.zip ys).reverse.lookup y) := ⟨hns, fun b o e => hk₁ b o (of_hideAll _ e), Nat.le_of_eq (hideAll_size _ _)⟩
  have new : ∀ a, P.bad a → a ≠ s.heap.objs.size := fun a ha => let ⟨_, e⟩ := P.low s a hs ha; Nat.ne_of_lt (Heap.lt_size e)
  have I : FnInv ⟨P.c.w, P.c.mg, P.c.mb, P.c.mean, P.c.dp + 1, P.c.un + 3, P.c.gd, qual, scope, s.heap.objs.size, f, cdv, [], _, _, P.c.base, hideAll s.heap [], P.bad⟩ (fun _ => False) P.bad (names.zip vs) h₁ :=
    { ok := ⟨BG, O.X.keeps st, O.T.keeps st, hk⟩
      rb := fun a ha => ha
      obs := fun a ha => ⟨new a ha, fun x => nil_lookup, (P.low s a hs ha).imp fun o e => hk₁ _ _ e⟩
      mus := fun _ h => h.elim
      cells := fun x a e => absurd e nil_lookup
      inj := fun x y a e => absurd e nil_lookup
      fr := ⟨_, F', fun x v hx => by
        obtain ⟨y, hy, ry⟩ := zip_lookup rv hx
        refine .inl ⟨hloc x ?_, y, ?_, (ry.move fun a o hb ho => ⟨fun q => ?_, hk₁ _ _ ho⟩).rm⟩
        · rw [← zip_names (hl.trans hln) (ys := ys)]
          exact key_of hy
        · show (names.zip ys).reverse.lookup x = some y
          rw [rev_lookup (by rw [zip_names (hl.trans hln)]; exact hnd)]; exact hy
        · rcases q with q | q | rfl | ⟨_, e⟩
          · exact hb q
          · exact q
          · exact absurd (Heap.lt_size ho) (Nat.lt_irrefl _)
          · exact absurd e nil_lookup⟩ }
  refine wpAny_mono (h (P.c.dp + 1) (P.c.un + 3) P.c.gd _ _ P.c.base _ s.heap.objs.size P.bad (by omega) (by omega) { s with heap := h₁, toks := _ } I
    (fun fl s' => ∃ y h' tk', fl = .ret y ∧ s' = { s with heap := h', toks := tk' } ∧ (∃ m, Fr (hideAll s.heap []) s.heap.objs.size h' m) ∧ RV h' P.bad r y) (fun _ _ => False) ⟨fun _ _ _ n => n.elim, ?_⟩) (fun fl s' hl => ?_) fun _ _ y => y.elim
  · rintro _ y h' tk' rfl hm ry
    exact ⟨y, h', tk', rfl, rfl, hm, ry⟩
  · obtain ⟨y, h', tk', rfl, rfl, ⟨m', F''⟩, ry⟩ := hl
    exact hQ y h' tk' (fun b o e => F''.keep b o (hideAll_get _ e (fun hm => nomatch hm))) ry
end
end Mine
end
section
open PySem PySem.W PyProof.Rows PySem.Calls PySem.Spec PySem.Builtin PySem.Builtin.Str PySem.StrLaws
set_option maxRecDepth 100000
set_option maxHeartbeats 4000000
namespace Mine
theorem len1 {P : List Value → Prop} {α : Type} {a : α} (h : ∀ x, P [x]) : ∀ ys : List Value, ys.length = [a].length → P ys
  | [x], _ => h x
theorem len2 {P : List Value → Prop} {α : Type} {a b : α} (h : ∀ x y, P [x, y]) : ∀ ys : List Value, ys.length = [a, b].length → P ys
  | [x, y], _ => h x y
theorem len3 {P : List Value → Prop} {α : Type} {a b c : α} (h : ∀ x y z, P [x, y, z]) : ∀ ys : List Value, ys.length = [a, b, c].length → P ys
  | [x, y, z], _ => h x y z
noncomputable def ch (c : Nat) : Str := ⟨#[c]⟩
noncomputable abbrev txt (l : List Nat) : Str := ⟨l.toArray⟩
theorem len_txt (l : List Nat) : (txt l).length = l.length := by simp [Str.length, txt]
theorem txt_inj {l l' : List Nat} : txt l = txt l' ↔ l = l' := by
  constructor
  · intro h; injection h with h; simpa using h
  · rintro rfl; rfl
section
variable {P : Px} {pos : Pos}
theorem Ev.mulS {l r : Expr} {x : Str} {i : Int} (hx : x.length ≤ 16) (h0 : -(2 ^ 63 : Int) ≤ i) (h1 : i ≤ 1048576) (hl : Ev P l (.str x)) (hr : Ev P r (.int i)) : Ev P (.BinOp l .Mult r pos) (.str (Txt.mul x i)) :=
  hl.bin hr fun _ _ _ _ ⟨_, e1⟩ ⟨_, e2⟩ _ _ hQ => by subst e1; subst e2; exact KXi.mul rfl hx h0 h1 fun _ _ _ _ => hQ _ _ _ Ext.rfl' ⟨_, rfl⟩
theorem Ev.addS {l r : Expr} {x y : Str} (hx : x.length + y.length ≤ 16777216) (hl : Ev P l (.str x)) (hr : Ev P r (.str y)) : Ev P (.BinOp l .Add r pos) (.str (x ++ y)) :=
  hl.bin hr fun _ _ _ _ ⟨_, e1⟩ ⟨_, e2⟩ _ _ hQ => by subst e1; subst e2; exact KOpn.add hx fun _ _ _ => hQ _ _ _ Ext.rfl' ⟨_, rfl⟩
theorem Ev.neg {e : Expr} {i : Int} (he : Ev P e (.int i)) : Ev P (.UnaryOp .USub e pos) (.int (-i)) := fun s hs Q E hQ =>
  UnaryOp_ (he s hs _ _ fun y h tk e r => by obtain ⟨_, rfl⟩ := r; exact PySem.P.neg_int (hQ _ h _ e ⟨_, rfl⟩))
/-! tests -/
theorem EvT.int {e : Expr} {i : Int} (he : Ev P e (.int i)) (hp : isTrue e P.env (eval e P.env) = (do let v ← eval e P.env; standAt e.pos; holding [v] (truthy v)) := by rfl) : EvT P e (i != 0) := fun s hs Q E hQ =>
  isTrue_plain (he s hs _ _ fun y h tk e r => by obtain ⟨_, rfl⟩ := r; exact PySem.P.truthy_int (hQ h tk e)) hp
theorem EvT.str {e : Expr} {x : Str} (hx : x.length ≤ 1000000) (he : Ev P e (.str x)) (hp : isTrue e P.env (eval e P.env) = (do let v ← eval e P.env; standAt e.pos; holding [v] (truthy v)) := by rfl) : EvT P e ((x.length : Int) != 0) := fun s hs Q E hQ =>
  isTrue_plain (he s hs _ _ fun y h tk e r => by obtain ⟨_, rfl⟩ := r; exact PySem.P.truthy_str (by omega) (hQ h _ e)) hp
theorem EvT.bool {e : Expr} {b : Bool} (he : Ev P e (.bool b)) (hp : isTrue e P.env (eval e P.env) = (do let v ← eval e P.env; standAt e.pos; holding [v] (truthy v)) := by rfl) : EvT P e b := fun s hs Q E hQ =>
  isTrue_plain (he s hs _ _ fun y h tk e r => by cases r; exact wpAny_truthy_bool (hQ h _ e)) hp
theorem EvT.not {e : Expr} {b : Bool} (he : EvT P e b) : EvT P (.UnaryOp .Not e pos) (!b) := fun s hs Q E hQ => isTrue_not (he s hs _ _ fun h tk e => hQ h tk e)
noncomputable def EvA (P : Px) (pos : Pos) (es : List Expr) (b : Bool) : Prop := ∀ (whole : Sem Value) (s : Shared), P.inv s → ∀ (Q : Bool → Shared → Prop) (E : Value → Shared → Prop),
  (∀ h tk, Ext s.heap h → Q b { s with heap := h, toks := tk }) → wpAny (model PG P.c.w) P.c.A (isTrue (.BoolOp .And es pos) P.env whole) Q E s
noncomputable def EvO (P : Px) (pos : Pos) (es : List Expr) (b : Bool) : Prop := ∀ (whole : Sem Value) (s : Shared), P.inv s → ∀ (Q : Bool → Shared → Prop) (E : Value → Shared → Prop),
  (∀ h tk, Ext s.heap h → Q b { s with heap := h, toks := tk }) → wpAny (model PG P.c.w) P.c.A (isTrue (.BoolOp .Or es pos) P.env whole) Q E s
theorem EvA.nil : EvA P pos [] true := fun whole s hs Q E hQ => isTrue_and_nil (hQ s.heap s.toks Ext.rfl')
theorem EvO.nil : EvO P pos [] false := fun whole s hs Q E hQ => isTrue_or_nil (hQ s.heap s.toks Ext.rfl')
theorem EvA.cons {e : Expr} {es : List Expr} {b b' : Bool} (h1 : EvT P e b) (h2 : b = true → EvA P pos es b') : EvA P pos (e :: es) (b && b') := fun whole s hs Q E hQ =>
  isTrue_and (h1 s hs _ _ fun h tk e => by
    cases b with
    | false => exact hQ h tk e
    | true => exact h2 rfl whole _ (P.ok _ _ _ hs e) Q E fun h' tk' e' => hQ h' tk' (e.trans' e'))
theorem EvO.cons {e : Expr} {es : List Expr} {b b' : Bool} (h1 : EvT P e b) (h2 : b = false → EvO P pos es b') : EvO P pos (e :: es) (b || b') := fun whole s hs Q E hQ =>
  isTrue_or (h1 s hs _ _ fun h tk e => by
    cases b with
    | true => exact hQ h tk e
    | false => exact h2 rfl whole _ (P.ok _ _ _ hs e) Q E fun h' tk' e' => hQ h' tk' (e.trans' e'))
theorem EvT.and {es : List Expr} {b : Bool} (h : EvA P pos es b) : EvT P (.BoolOp .And es pos) b := fun s hs Q E hQ => h _ s hs Q E hQ
theorem EvT.or {es : List Expr} {b : Bool} (h : EvO P pos es b) : EvT P (.BoolOp .Or es pos) b := fun s hs Q E hQ => h _ s hs Q E hQ
/-! signs and parts of a text -/
theorem item_txt {prog : Program} {w : World} {A : Around} {E : Value → Shared → Prop} {s : Shared} {value slice : Expr} {t u : Tok} {Q : Value → Shared → Prop} {l : List Nat} {i : Int} {k c : Nat} (hi : seqIndex? i l.length = some k) (hc : l[k]? = some c) (hl : l.length ≤ 1000000) (h : Q (.str (ch c) s.toks) { s with toks := s.toks + 1 })
    (hs : subscripted slice false (.str (txt l) t) (.int i u) = operate [.str (txt l) t, .int i u] (getItem (.str (txt l) t) (.int i u)) := by with_unfolding_all rfl) :
    wpAny (model prog w) A (subscriptTail value slice (.str (txt l) t) (.int i u)) Q E s := by
  refine tail_any (typeIs_str _ _ _) PySem.F.slot_str_getitem.lookup (PySem.P.getItem_str (c := c) ?_ ?_ h) hs
  · have hb : -(l.length : Int) ≤ i ∧ i < l.length := by
      apply Classical.byContradiction
      intro hn
      have e : seqIndex? i l.length = none := by
        unfold seqIndex?
        dsimp only
        rw [if_neg]
        simp only [Bool.and_eq_true, decide_eq_true_eq]
        split <;> omega
      rw [e] at hi; cases hi
    simp only [Bool.or_eq_false_iff, decide_eq_false_iff_not]
    omega
  · rw [len_txt, hi]
    show (txt l).cps[k]? = some c
    rw [← hc]; simp [txt]
theorem idx_pos {k n : Nat} (h : k < n) : seqIndex? (k : Int) n = some k := by
  rw [StrLaws.seqIndex_nonneg (by omega) (by omega)]; simp
theorem idx_back {j n : Nat} (h : j < n) : seqIndex? (-(j : Int) - 1) n = some (n - 1 - j) := by
  rw [StrLaws.seqIndex_neg (by omega) (by omega)]
  congr 1; omega
theorem Ev.subsc {v i : Expr} {a b r : AV} (hv : Ev P v a) (hi : Ev P i b)
    (hop : ∀ (s : Shared), P.inv s → ∀ x y, RV s.heap P.bad a x → RV s.heap P.bad b y → ∀ (Q E : Value → Shared → Prop), (∀ z h tk, Ext s.heap h → RV h P.bad r z → Q z { s with heap := h, toks := tk }) → wpAny (model PG P.c.w) P.c.A (subscriptTail v i x y) Q E s) :
    Ev P (.Subscript v i pos) r := fun s hs Q E hQ =>
  Subscript_ (hv s hs _ _ fun x h tk e rx => hi _ (P.ok _ _ _ hs e) _ _ fun y h2 tk2 e2 ry =>
    hop _ (P.ok _ _ _ (P.ok _ h tk hs e) e2) x y (rx.ext e2) ry _ _ fun z h3 tk3 e3 rz => hQ z h3 tk3 (e.trans' (e2.trans' e3)) rz)
theorem Ev.item {v i : Expr} {l : List Nat} {k : Int} {j c : Nat} (hk : seqIndex? k l.length = some j) (hc : l[j]? = some c) (hl : l.length ≤ 1000000) (hv : Ev P v (.str (txt l))) (hi : Ev P i (.int k))
    (hs : ∀ t u, subscripted i false (.str (txt l) t) (.int k u) = operate [.str (txt l) t, .int k u] (getItem (.str (txt l) t) (.int k u)) := by intro _ _; with_unfolding_all rfl) : Ev P (.Subscript v i pos) (.str (ch c)) :=
  hv.subsc hi fun _ _ _ _ ⟨t, e1⟩ ⟨u, e2⟩ _ _ hQ => by subst e1; subst e2; exact item_txt hk hc hl (hQ _ _ _ Ext.rfl' ⟨_, rfl⟩) (hs t u)
theorem keptExt {g : Heap} : KeptH (fun h => Ext g h) := fun h ob e a o x => Heap.get?_push_of_some ob (e a o x)
theorem Ev.cutSS {v a b : Expr} {sp : Pos} {x : Str} {i j : Int} (hx : x.length ≤ 1000000) (hv : Ev P v (.str x)) (ha : Ev P a (.int i)) (hb : Ev P b (.int j))
    (hs : ∀ t r, subscripted (.Slice (some a) (some b) none sp) false (.str x t) (.ref r) = operate [.ref r, .str x t] (getItem (.str x t) (.ref r)) := by intro _ _; with_unfolding_all rfl)
    (ht : ∀ t r, letTemporaryGo v (.str x t) r = pure () := by intro _ _; with_unfolding_all rfl) : Ev P (.Subscript v (.Slice (some a) (some b) none sp) pos) (.str (Txt.slice x (some i) (some j))) := fun s hs0 Q E hQ =>
  Subscript_ (hv s hs0 _ _ fun y h tk e r => by
    obtain ⟨t, rfl⟩ := r
    refine wpAny_Slice (evalPart_some_step (ha _ (P.ok _ _ _ hs0 e) _ _ fun y1 h1 tk1 e1 r1 => evalPart_some_step (hb _ (P.ok _ _ _ (P.ok _ h tk hs0 e) e1) _ _ fun y2 h2 tk2 e2 r2 => evalPart_none_step ?_)))
    obtain ⟨u, rfl⟩ := r1
    obtain ⟨u2, rfl⟩ := r2
    exact tail_of_ItemOn (SBH.sliceItem_ss (P := fun h' => Ext s.heap h') keptExt ((e.trans' e1).trans' e2) (fun h' t' k a => hQ _ h' k a ⟨_, rfl⟩) (by rw [sizeLine_eq]; omega)) (hs _ _) (ht _))
theorem Ev.cutSN {v a : Expr} {sp : Pos} {x : Str} {i : Int} (hx : x.length ≤ 1000000) (hv : Ev P v (.str x)) (ha : Ev P a (.int i))
    (hs : ∀ t r, subscripted (.Slice (some a) none none sp) false (.str x t) (.ref r) = operate [.ref r, .str x t] (getItem (.str x t) (.ref r)) := by intro _ _; with_unfolding_all rfl)
    (ht : ∀ t r, letTemporaryGo v (.str x t) r = pure () := by intro _ _; with_unfolding_all rfl) : Ev P (.Subscript v (.Slice (some a) none none sp) pos) (.str (Txt.slice x (some i) none)) := fun s hs0 Q E hQ =>
  Subscript_ (hv s hs0 _ _ fun y h tk e r => by
    obtain ⟨t, rfl⟩ := r
    refine wpAny_Slice (evalPart_some_step (ha _ (P.ok _ _ _ hs0 e) _ _ fun y1 h1 tk1 e1 r1 => evalPart_none_step (evalPart_none_step ?_)))
    obtain ⟨u, rfl⟩ := r1
    exact tail_of_ItemOn (SBH.sliceItem_sn (P := fun h' => Ext s.heap h') keptExt (e.trans' e1) (fun h' t' k a => hQ _ h' k a ⟨_, rfl⟩) (by rw [sizeLine_eq]; omega)) (hs _ _) (ht _))
/-- x[: e] where e is an int or None -/
theorem Ev.cutN {v b : Expr} {sp : Pos} {x y : Str} {j : Option Int} (hx : x.length ≤ 1000000) (hv : Ev P v (.str x)) (hb : Ev P b (match j with | some j => .int j | none => .none)) (hy : Txt.slice x none j = y)
    (hs : ∀ t r, subscripted (.Slice none (some b) none sp) false (.str x t) (.ref r) = operate [.ref r, .str x t] (getItem (.str x t) (.ref r)) := by intro _ _; with_unfolding_all rfl)
    (ht : ∀ t r, letTemporaryGo v (.str x t) r = pure () := by intro _ _; with_unfolding_all rfl) : Ev P (.Subscript v (.Slice none (some b) none sp) pos) (.str y) := fun s hs0 Q E hQ =>
  Subscript_ (hv s hs0 _ _ fun y' h tk e r => by
    obtain ⟨t, rfl⟩ := r
    subst hy
    refine wpAny_Slice (evalPart_none_step (evalPart_some_step (hb _ (P.ok _ _ _ hs0 e) _ _ fun y1 h1 tk1 e1 r1 => evalPart_none_step ?_)))
    cases j with
    | some j =>
      obtain ⟨u, rfl⟩ := r1
      exact tail_of_ItemOn (SBH.sliceItem_ns (P := fun h' => Ext s.heap h') keptExt (e.trans' e1) (fun h' t' k a => hQ _ h' k a ⟨_, rfl⟩) (by rw [sizeLine_eq]; omega)) (hs _ _) (ht _)
    | none =>
      cases r1
      exact tail_of_ItemOn (SBH.sliceItem_nn (P := fun h' => Ext s.heap h') keptExt (e.trans' e1) (fun h' t' k a => hQ _ h' k a ⟨_, rfl⟩) (by rw [sizeLine_eq]; omega)) (hs _ _) (ht _))
end
end Mine
end
section
open PySem PySem.W PyProof.Rows PySem.Calls PySem.Spec
set_option maxRecDepth 100000
set_option maxHeartbeats 4000000
namespace Mine
/-! a for whose turns may change anything that the invariant tells (generators too) -/
section
variable {prog : Program} {w : World} {A : Around} {E : Value → Shared → Prop} {Q : Flow → Shared → Prop} {s : Shared} {env : Env} {h₀ : Heap} {L : Addr} {target : Expr} {body : List Stmt}
end
/-! more to avoid, and back -/
section
variable {c : Cx} {mu ob ob' : Addr → Prop} {σ : Loc} {h : Heap}
theorem RM.turn {h h' : Heap} {bad bad' mu : Addr → Prop} (T : ∀ a o, ¬ bad a → h.get? a = some o → ¬ bad' a ∧ h'.get? a = some o) (U : ∀ a o, mu a → h.get? a = some o → h'.get? a = some o) : ∀ {v : AV} {y : Value}, RM h bad mu v y → RM h' bad' mu v y
  | .mut a vs, _, ⟨e, hb, xs, n, ho, r⟩ => ⟨e, hb, xs, n, U a _ hb ho, r.move T⟩
  | .mutS a C, _, ⟨e, hb, o, ho, r⟩ => ⟨e, hb, o, U a _ hb ho, C.move T r⟩
  | .int _, _, r => r
  | .str _, _, r => r
  | .bool _, _, r => r
  | .none, _, r => r
  | .glob _, _, r => r
  | .sem S, _, r => S.move T r
  | .list _, _, r => RV.move T r
  | .tup _, _, r => RV.move T r
/-- the heap and what is to avoid turn, the frame stays -/
theorem FnInv.turn {h' : Heap} (I : FnInv c mu ob σ h) (hrb : ∀ a, c.rb a → ob' a) (hob : ∀ a, ob' a → a ≠ c.L ∧ (∀ x, c.cl.lookup x ≠ some a) ∧ ∃ o, h'.get? a = some o) (hch : ∀ a o, c.ch mu a → h.get? a = some o → h'.get? a = some o)
    (hg : ∀ a o, c.g.get? a = some o → h'.get? a = some o) (T : ∀ a o, ¬ c.bad mu ob a → h.get? a = some o → ¬ ob' a ∧ h'.get? a = some o) : FnInv c mu ob' σ h' where
  ok := I.ok
  rb := hrb
  obs := hob
  mus := fun a ha => let ⟨p, q, g, o, ho⟩ := I.mus a ha; ⟨p, q, g, o, hch _ _ (.inl ha) ho⟩
  cells := fun x a ha => let ⟨p, q, o, v, ho, hd⟩ := I.cells x a ha; ⟨p, q, o, v, hch _ _ (.inr (.inr ⟨x, ha⟩)) ho, hd⟩
  inj := I.inj
  fr := by
    obtain ⟨m, F, V⟩ := I.fr
    have T' : ∀ a o, ¬ c.bad mu ob a → h.get? a = some o → ¬ c.bad mu ob' a ∧ h'.get? a = some o := fun a o hb ho => ⟨fun q => q.elim (T a o hb ho).1 fun q => hb (.inr q), (T a o hb ho).2⟩
    obtain ⟨oL, es, ep, hL, r⟩ := F.ns
    refine ⟨m, ⟨⟨oL, es, ep, hch _ _ (.inr (.inl rfl)) hL, r⟩, hg, F.above⟩, fun x v hx => ?_⟩
    exact (V x v hx).imp (fun ⟨k, y, hy, r⟩ => ⟨k, y, hy, r.turn T' fun a o hm ho => hch _ _ (.inl hm) ho⟩) fun ⟨k, a, o, y, ha, ho, hd, r⟩ => ⟨k, a, o, y, ha, hch _ _ (.inr (.inr ⟨x, ha⟩)) ho, hd, r.turn T' fun a o hm ho => hch _ _ (.inl hm) ho⟩
/-- what changes is avoided by all that the frame knows -/
theorem FnInv.off {Y : Addr → Prop} {h' : Heap} (I : FnInv c mu ob σ h) (hY : ∀ a, Y a → ob a ∧ ¬ c.ch mu a ∧ c.g.get? a = none) (k : ∀ a o, ¬ Y a → h.get? a = some o → h'.get? a = some o) (live : ∀ a, Y a → ∃ o, h'.get? a = some o) : FnInv c mu ob σ h' :=
  I.turn I.rb (fun a ha => ⟨(I.obs a ha).1, (I.obs a ha).2.1, by
      by_cases q : Y a
      · exact live a q
      · obtain ⟨_, _, o, ho⟩ := I.obs a ha; exact ⟨o, k a o q ho⟩⟩) (fun a o hc ho => k a o (fun q => (hY a q).2.1 hc) ho)
    (fun a o hg => let ⟨_, F, _⟩ := I.fr; k a o (fun q => by rw [(hY a q).2.2] at hg; cases hg) (F.keep _ _ hg)) fun a o hb ho => ⟨fun q => hb (.inl q), k a o (fun q => hb (.inl (hY a q).1)) ho⟩
theorem FnInv.weaken (I : FnInv c mu ob' σ h) (hs : ∀ a, ob a → ob' a) (hrb : ∀ a, c.rb a → ob a) : FnInv c mu ob σ h :=
  I.turn hrb (fun a ha => I.obs a (hs a ha)) (fun _ _ _ ho => ho) (fun a o hg => let ⟨_, F, _⟩ := I.fr; F.keep a o hg) fun a o hb ho => ⟨fun q => hb (.inl (hs a q)), ho⟩
end
/-! what a for, a comprehension goes over -/
noncomputable def IV (h : Heap) (bad : Addr → Prop) (w : AV) (v : Value) : Prop := match w with
  | .tup vs => ∃ T xs, v = .ref T ∧ h.IsTuple T xs.toArray ∧ RVs h bad vs xs
  | w => RV h bad w v
theorem IV.move {h : Heap} {bad bad' : Addr → Prop} (T : ∀ a, bad' a → bad a) : ∀ {w : AV} {v : Value}, IV h bad w v → IV h bad' w v
  | .tup _, _, ⟨a, xs, e, ht, r⟩ => ⟨a, xs, e, ht, r.move fun a o hb ho => ⟨fun q => hb (T a q), ho⟩⟩
  | .int _, _, r => r
  | .str _, _, r => r
  | .bool _, _, r => r
  | .none, _, r => r
  | .glob _, _, r => r
  | .sem _, _, r => RV.move (fun a o hb ho => ⟨fun q => hb (T a q), ho⟩) r
  | .list _, _, r => RV.move (fun a o hb ho => ⟨fun q => hb (T a q), ho⟩) r
  | .mut _ _, _, r => r
  | .mutS _ _, _, r => r
noncomputable def It (P : Px) (tg e : Expr) (ws : List AV) : Prop := ∀ (s : Shared), P.inv s → ∀ (Q E : Value → Shared → Prop),
  (∀ (I : Addr) (fp wr : List Addr) (Pi Md : Nat → Value → Heap → Prop) (St : Nat → Heap → Prop) (h : Heap) (tk : Nat), Ext s.heap h → KTurns PG P.c.w P.c.A tg I fp wr ws.length Pi Md St → St 0 h → (∀ (s : Shared) (Q : Value → Shared → Prop) (E : Value → Shared → Prop), St 0 s.heap → Q (.ref I) s → wpAny (model PG P.c.w) P.c.A (pyIter (.ref I)) Q E s) →
    (∀ b ∈ wr, s.heap.get? b = none ∧ ∃ o, h.get? b = some o) → (∀ b ∈ fp, b ∉ wr → ¬ P.bad b ∧ ∃ o, h.get? b = some o) → (∀ i h', St i h' → ∀ b ∈ wr, ∃ o, h'.get? b = some o) →
    (∀ X : Addr → Prop, (∀ a, X a → h.get? a = none) → ∀ i v h', i < ws.length → (∀ a o, a ∉ wr → ¬ P.bad a → h.get? a = some o → h'.get? a = some o) → Pi i v h' → ∃ w, ws[i]? = some w ∧ IV h' (fun a => (P.bad a ∨ a ∈ wr) ∨ X a) w v) → Q (.ref I) { s with heap := h, toks := tk }) →
  wpAny (model PG P.c.w) P.c.A (eval e P.env) (fun xv s₁ => wpAny (model PG P.c.w) P.c.A (pyIter xv) Q E s₁) E s
/-- the same for a for, where nothing else is new -/
noncomputable def ItF (P : Px) (tg e : Expr) (ws : List AV) : Prop := ∀ (s : Shared), P.inv s → ∀ (Q E : Value → Shared → Prop),
  (∀ (I : Addr) (fp wr : List Addr) (Pi Md : Nat → Value → Heap → Prop) (St : Nat → Heap → Prop) (h : Heap) (tk : Nat), Ext s.heap h → KTurns PG P.c.w P.c.A tg I fp wr ws.length Pi Md St → St 0 h →
    (∀ b ∈ wr, s.heap.get? b = none ∧ ∃ o, h.get? b = some o) → (∀ b ∈ fp, b ∉ wr → ¬ P.bad b ∧ ∃ o, h.get? b = some o) → (∀ i h', St i h' → ∀ b ∈ wr, ∃ o, h'.get? b = some o) →
    (∀ i v h', i < ws.length → (∀ a o, a ∉ wr → ¬ P.bad a → h.get? a = some o → h'.get? a = some o) → Pi i v h' → ∃ w, ws[i]? = some w ∧ IV h' (fun a => P.bad a ∨ a ∈ wr) w v) → Q (.ref I) { s with heap := h, toks := tk }) →
  wpAny (model PG P.c.w) P.c.A (eval e P.env) (fun xv s₁ => wpAny (model PG P.c.w) P.c.A (pyIter xv) Q E s₁) E s
theorem It.toF {P : Px} {tg e : Expr} {ws : List AV} (h : It P tg e ws) : ItF P tg e ws := fun s hs Q E hQ => h s hs Q E fun I fp wr Pi Md St h tk ex W st0 _ hwr hfp hlive hP =>
  hQ I fp wr Pi Md St h tk ex W st0 hwr hfp hlive fun i v h' hi k hp => let ⟨w, hw, iv⟩ := hP (fun _ => False) (fun _ h => h.elim) i v h' hi k hp; ⟨w, hw, iv.move fun a q => .inl q⟩
section
variable {P : Px} {x : Str} {px pos : Pos} {e : Expr}
theorem IV.of {h : Heap} {bad : Addr → Prop} : ∀ {w : AV} {v : Value}, RV h bad w v → IV h bad w v
  | .tup _, _, ⟨a, xs, n, e, _, ho, r⟩ => ⟨a, xs, e, ⟨_, ho, rfl, n, rfl⟩, r⟩
  | .int _, _, r => r
  | .str _, _, r => r
  | .bool _, _, r => r
  | .none, _, r => r
  | .glob _, _, r => r
  | .sem _, _, r => r
  | .list _, _, r => r
  | .mut _ _, _, r => r.elim
  | .mutS _ _, _, r => r.elim
theorem walks_cast {w : World} {A : Around} {I : Addr} {fp wr : List Addr} {n k : Nat} {Pi : Nat → Value → Prop} {St : Nat → Heap → Prop} (q : n = k) (W : Walks PG w A I fp wr k Pi St) : Walks PG w A I fp wr n Pi St := q ▸ W
theorem It.list {tg : Expr} {vs : List AV} (he : Ev P e (.list vs)) (hgo : ∀ (I l : Addr) (i : Nat) (v : Value) (s : Shared) (Q : Unit → Shared → Prop) (E : Value → Shared → Prop), s.heap.IsListIter I l i → Q () s → wpAny (model PG P.c.w) P.c.A (letOwnedTupleGo tg (.ref I) v) Q E s := by exact fun _ _ _ _ _ _ _ _ hq => wpAny_pure hq) :
    It P tg e vs := fun s hs Q E hQ => he s hs _ _ fun y h tk ex r => by
  obtain ⟨a, xs, n, rfl, hb, ho, rs⟩ := r
  have hl : h.IsList a xs.toArray := ⟨_, ho, rfl, n, rfl⟩
  have ha := Heap.lt_size ho
  refine wpAny_pyIter_list (s := { s with heap := h, toks := tk }) hl ?_
  have up : ∀ b o, h.get? b = some o → (h.push { cls := .type "list_iterator", data := .fields #[.ref a, .int 0 0] }).get? b = some o := fun b o e => Heap.get?_push_of_some _ e
  have W := Walks.list (prog := PG) (w := P.c.w) (A := P.c.A) rfl h.objs.size a (Nat.ne_of_lt ha) xs.toArray
  have hsz : xs.toArray.size = vs.length := by rw [List.size_toArray]; exact rs.len
  rw [hsz] at W
  refine hQ h.objs.size _ [h.objs.size] _ _ _ _ tk (ex.trans' up) (KTurns.ofWalks W (target := tg) (fun _ v s' Q' E' st hq => hgo _ _ _ v s' Q' E' st.1 hq)) ⟨⟨_, Heap.get?_push_size _ rfl, rfl, rfl⟩, hl.push _⟩ (fun s Q E st hq => W.self 0 s Q E st hq) (fun b hb' => ?_) (fun b hb' hn => ?_) (fun i h' st b hb' => ?_) (fun X hX i v h' hi k hp => ?_)
  · rw [List.mem_singleton.mp hb']
    refine ⟨?_, _, Heap.get?_push_size _ rfl⟩
    cases q : s.heap.get? h.objs.size with
    | none => rfl
    | some o => exact absurd (Heap.lt_size (ex _ _ q)) (Nat.lt_irrefl _)
  · rcases List.mem_cons.mp hb' with rfl | hb'
    · exact absurd (.head _) hn
    · rw [List.mem_singleton.mp hb']; exact ⟨hb, _, up _ _ ho⟩
  · rw [List.mem_singleton.mp hb']
    obtain ⟨o, e, _⟩ := st.1
    exact ⟨o, e⟩
  · have hi' : i < xs.length := by rw [rs.len]; exact hi
    obtain ⟨w, hw⟩ : ∃ w, vs[i]? = some w := ⟨vs[i], List.getElem?_eq_getElem hi⟩
    obtain ⟨z, hz, rz⟩ := rs.at hw
    have hp : xs.toArray[i]? = some v := hp
    rw [List.getElem?_toArray, hz] at hp
    cases hp
    exact ⟨w, hw, IV.of (rz.move fun a' o hb' ho' =>
      have hn : a' ∉ [h.objs.size] := fun q => Nat.ne_of_lt (Heap.lt_size ho') (List.mem_singleton.mp q)
      ⟨fun q => q.elim (fun q => q.elim hb' hn) (fun q => by have := hX _ q; rw [up _ _ ho'] at this; cases this), k a' o hn hb' (up _ _ ho')⟩)⟩
theorem It.range {pf : Pos} {k : Nat} {n : Int} (hn : n = k) (hk : k ≤ 1000000) {f e : Expr} (hf : Ev P f (.glob (.type "range"))) (he : Ev P e (.int n)) (hgo : ∀ (I : Addr) (v : Value) (s : Shared) (Q : Unit → Shared → Prop) (E : Value → Shared → Prop), Q () s → wpAny (model PG P.c.w) P.c.A (letOwnedTupleGo (.Name x px) (.ref I) v) Q E s := by exact fun _ _ _ _ _ hq => wpAny_pure hq)
    (he' : starEach [e] P.env = (false, eval e P.env) :: starEach [] P.env := by rfl) (hp : (backTo pf (starEach [] P.env)).any (·.1) = false := by rfl)
    (hw : eval (.Call f [e] [] pf) P.env = (do callWith pf (← eval f P.env) [] (backTo pf (starEach [e] P.env)) (backToKw pf (keywordEach [] P.env))) := by rfl) :
    It P (.Name x px) (.Call f [e] [] pf) ((List.range k).map fun i => .int (i : Nat)) := fun s hs Q E hQ => by
  subst hn
  refine Call_ (hf s hs _ _ fun y h tk e1 r1 => ?_) hw
  cases r1
  refine Pv.callWith_type1 (args_cons (he _ (P.ok _ _ _ hs e1) _ _ fun y2 h2 tk2 e2 r2 => args_nil ?_) he') he' hp
  obtain ⟨t, rfl⟩ := r2
  refine call_range_1 ?_
  have hr : IsRange (h2.push { cls := .type "range", data := .fields #[.int 0 tk2, .int (k : Nat) t, .int 1 (tk2 + 1)] }) h2.objs.size 0 (k : Nat) 1 tk2 t (tk2 + 1) := IsRange.new ..
  refine wpAny_pyIter_range hr (small_one (by omega) (by omega) (by omega) (by omega)) ?_
  have up : Ext h2 ((h2.push { cls := .type "range", data := .fields #[.int 0 tk2, .int (k : Nat) t, .int 1 (tk2 + 1)] }).push { cls := .type "range_iterator", data := .fields #[rawInt 0, rawInt (Builtin.Range.rangeSize 0 (k : Nat) 1), rawInt 1] }) := fun b o e => Heap.get?_push_of_some _ (Heap.get?_push_of_some _ e)
  have W := LCg.range_walks (prog := PG) (w := P.c.w) (A := P.c.A) (I := (h2.push { cls := .type "range", data := .fields #[.int 0 tk2, .int (k : Nat) t, .int 1 (tk2 + 1)] }).objs.size) rfl 0 k
  have hsz : ((List.range k).map fun i => AV.int (i : Nat)).length = k := by simp
  have ex := (e1.trans' e2).trans' up
  refine hQ _ _ [_] _ _ _ _ _ ex (KTurns.ofWalks (walks_cast hsz W) (target := .Name x px) (fun _ v s' Q' E' _ hq => hgo _ v s' Q' E' hq)) ?_ (fun s Q E st hq => W.self 0 s Q E st hq) (fun b hb' => ?_) (fun b hb' hn => ?_) (fun i h' st b hb' => ?_) (fun X hX i v h' hi kk hp => ?_)
  · show IsRangeIter _ _ _ _ _
    rw [rangeSize_nat]
    have := Heap.get?_push_size (h2.push { cls := .type "range", data := .fields #[.int 0 tk2, .int (k : Nat) t, .int 1 (tk2 + 1)] }) (o := { cls := .type "range_iterator", data := .fields #[rawInt 0, rawInt (Builtin.Range.rangeSize 0 (k : Nat) 1), rawInt 1] }) rfl
    rw [rangeSize_nat] at this
    simpa using this
  · rw [List.mem_singleton.mp hb']
    refine ⟨?_, { cls := .type "range_iterator", data := .fields #[rawInt 0, rawInt (Builtin.Range.rangeSize 0 (k : Nat) 1), rawInt 1] }, Heap.get?_push_size _ rfl⟩
    cases q : s.heap.get? _ with
    | none => rfl
    | some o => exact absurd (Heap.lt_size (Heap.get?_push_of_some _ ((e1.trans' e2) _ _ q))) (Nat.lt_irrefl _)
  · exact absurd hb' hn
  · rw [List.mem_singleton.mp hb']
    exact ⟨_, st⟩
  · obtain ⟨t', rfl⟩ := hp
    have hik : i < k := hsz ▸ hi
    exact ⟨.int (i : Nat), by simp [hik], t', by rw [Int.zero_add]⟩
/-- what a target of the frame makes of an item -/
noncomputable def TgS (c : Cx) (mu : Addr → Prop) (tg : Expr) (w : AV) (f : Loc → Loc) : Prop := ∀ (ob : Addr → Prop) (σ : Loc) (s : Shared) (Q : Unit → Shared → Prop) (E : Value → Shared → Prop) (v : Value), FnInv c mu ob σ s.heap → IV s.heap (c.bad mu ob) w v →
  (∀ h' tk, FnInv c mu ob (f σ) h' → Kp (c.ch mu) s.heap h' → Q () { s with heap := h', toks := tk }) → wpAny (model PG c.w) c.A (assign tg c.env v) Q E s
theorem TgS.name {c : Cx} {mu : Addr → Prop} {x : Str} {px : Pos} {w : AV} (hl : Put c x = true) (hw : ∀ h bad v, IV h bad w v → RV h bad w v) : TgS c mu (.Name x px) w ((x, w) :: ·) := fun ob σ s Q E v I iv hQ =>
  wpAny_assign_Name (store_any I hl (hw _ _ _ iv) hQ)
/-- a for, any target -/
theorem Ws.forG {c : Cx} {mu ob : Addr → Prop} {σ : Loc} {N : Loc → Prop} {R : AV → Prop} {tg : Expr} {pos : Pos} {e : Expr} {body : List Stmt} {ws : List AV} {α : Type} (f : AV → Loc → Loc) (τ : α → Loc) (Φ : Nat → α → Prop) (a₀ : α) (hit : ItF (Px.fn c mu ob σ) tg e ws) (h0 : Φ 0 a₀) (hS : Sub (τ a₀) σ)
    (htg : ∀ w ∈ ws, TgS c mu tg w (f w)) (hb : ∀ ob' i a w, Φ i a → ws[i]? = some w → Wp c mu ob' (f w (τ a)) body (fun σ' => ∃ a', Φ (i + 1) a' ∧ Sub (τ a') σ') R) (hx : ∀ a, Φ ws.length a → N (τ a))
    (hs : ∀ x, foldedSetIterable e c.env x = pure x := by intro _; rfl) : Ws c mu ob σ (.For tg e body [] pos) N R := fun s I Q E H => by
  refine wpAny_For (wpAny_mono (hit s I (fun it s₂ => codeAny (model PG c.w) c.A (.forLoop tg it body [] c.env) (fun r s' => match r with | .ok f => Q f s' | .error e => cameBackBy (model PG c.w) c.A c.env E e s') s₂) E ?_) (fun _ _ h => h) fun _ _ e => e) hs
  intro J fp wr Pi Md St h tk ex W st0 hwr hfp hlive hP
  have I0 : FnInv c mu ob σ h := I.ext ex
  let ob' : Addr → Prop := fun a => ob a ∨ a ∈ wr
  have hnew : ∀ b ∈ wr, b ≠ c.L ∧ (∀ x, c.cl.lookup x ≠ some b) ∧ ¬ mu b ∧ c.g.get? b = none := fun b hb => by
    have hn := (hwr b hb).1
    refine ⟨fun q => ?_, fun z q => ?_, fun q => ?_, ?_⟩
    · obtain ⟨_, e⟩ := I.lives (a := b) (.inr (.inr (.inl q))); rw [hn] at e; cases e
    · obtain ⟨_, e⟩ := I.lives (a := b) (.inr (.inr (.inr ⟨z, q⟩))); rw [hn] at e; cases e
    · obtain ⟨_, e⟩ := I.lives (a := b) (.inr (.inl q)); rw [hn] at e; cases e
    · obtain ⟨m, F, _⟩ := I.fr
      cases q : c.g.get? b with
      | none => rfl
      | some o => rw [F.keep _ _ q] at hn; cases hn
  have I1 : FnInv c mu ob' σ h := I.turn (fun a ha => .inl (I.rb a ha)) (fun a ha => ha.elim (fun ha => let ⟨p, q, o, ho⟩ := I.obs a ha; ⟨p, q, o, ex _ _ ho⟩) fun ha => ⟨(hnew a ha).1, (hnew a ha).2.1, (hwr a ha).2⟩) (fun a o _ ho => ex _ _ ho) (fun a o hg => let ⟨_, F, _⟩ := I.fr; ex _ _ (F.keep _ _ hg))
    fun a o hb ho => ⟨fun q => q.elim (fun q => hb (.inl q)) (fun q => by rw [(hwr a q).1] at ho; cases ho), ex _ _ ho⟩
  -- what a step of the iterator leaves
  have step : ∀ {τ' : Loc} {h₁ h₂ : Heap} {i : Nat}, FnInv c mu ob' τ' h₁ → St i h₂ → (∀ b o, b ∉ wr → h₁.get? b = some o → h₂.get? b = some o) → FnInv c mu ob' τ' h₂ := fun {τ' h₁ h₂ i} I' st k =>
    I'.turn I'.rb (fun a ha => ha.elim (fun ha => ⟨(I'.obs a (.inl ha)).1, (I'.obs a (.inl ha)).2.1, by
        by_cases hm : a ∈ wr
        · exact hlive i h₂ st a hm
        · obtain ⟨_, _, o, ho⟩ := I'.obs a (.inl ha); exact ⟨o, k _ _ hm ho⟩⟩) fun ha => ⟨(hnew a ha).1, (hnew a ha).2.1, hlive i h₂ st a ha⟩)
      (fun a o hc ho => k _ _ (fun hm => hc.elim (fun q => (hnew a hm).2.2.1 q) fun q => q.elim (fun q => (hnew a hm).1 q) fun ⟨z, q⟩ => (hnew a hm).2.1 z q) ho)
      (fun a o hg => let ⟨_, F, _⟩ := I'.fr; k _ _ (fun hm => by rw [(hnew a hm).2.2.2] at hg; cases hg) (F.keep _ _ hg)) fun a o hb ho => ⟨fun q => hb (.inl q), k _ _ (fun hm => hb (.inl (.inr hm))) ho⟩
  refine codeAny_forLoop_any (fun k s' => ∃ i a h' tk', Φ i a ∧ i ≤ ws.length ∧ k = ws.length + 1 - i ∧ s' = { s with heap := h', toks := tk' } ∧ FnInv c mu ob' (τ a) h' ∧ St i h' ∧ (∀ a o, a ∉ wr → ¬ c.ch mu a → h.get? a = some o → h'.get? a = some o)) ?_ (ws.length + 1) ⟨0, a₀, h, tk, h0, Nat.zero_le _, rfl, rfl, I1.sub hS, st0, fun _ _ _ _ ho => ho⟩
  rintro k _ ⟨i, a, h1, tk1, ha, hin, rfl, rfl, I2, st, kh⟩
  by_cases hlt : i < ws.length
  · refine W.item i _ _ _ hlt st fun v h2 tk2 hMd hk2 => ?_
    refine W.go i v _ _ _ hMd fun h3 hPi st3 hk3 => ?_
    have k3 : ∀ b o, b ∉ wr → h1.get? b = some o → h3.get? b = some o := fun b o hb x => hk3 b o hb (hk2 b o hb x)
    have I3 := step I2 st3 k3
    have kh3 : ∀ a o, a ∉ wr → ¬ c.ch mu a → h.get? a = some o → h3.get? a = some o := fun a o hn hc ho => k3 a o hn (kh a o hn hc ho)
    obtain ⟨w, hw', iv⟩ := hP i v h3 hlt (fun a o hn hb ho => kh3 a o hn (fun q => hb (.inr q)) ho) hPi
    refine htg w (List.mem_of_getElem? hw') ob' (τ a) { s with heap := h3, toks := tk2 } _ _ v I3 (iv.move fun a q => q.elim (fun q => q.elim (fun q => .inl (.inl q)) .inr) fun q => .inl (.inr q)) fun h4 tk4 I4 k4 => ?_
    refine hb ob' i a w ha hw' _ I4 _ _ ⟨fun σ' h5 tk5 n5 I5 k5 => ?_, fun r y h5 tk5 hr hm rv => ?_⟩
    · obtain ⟨a', ha', hS'⟩ := n5
      have k35 : ∀ b o, ¬ c.ch mu b → h3.get? b = some o → h5.get? b = some o := fun b o hc ho => k5 b o hc (k4 b o hc ho)
      refine ⟨ws.length + 1 - (i + 1), by omega, i + 1, a', h5, tk5, ha', hlt, rfl, rfl, I5.sub hS', ?_, fun b o hn hc ho => k35 b o hc (kh3 b o hn hc ho)⟩
      refine W.frame _ _ _ st3 fun b hb5 o ho => k35 b o (fun q => ?_) ho
      by_cases hm : b ∈ wr
      · exact q.elim (fun q => (hnew b hm).2.2.1 q) fun q => q.elim (fun q => (hnew b hm).1 q) fun ⟨z, q⟩ => (hnew b hm).2.1 z q
      · exact (hfp b hb5 hm).1 (.inr q)
    · exact H.2 r y h5 tk5 hr hm rv
  · obtain rfl : i = ws.length := by omega
    refine W.done _ _ _ st fun h2 tk2 hk2 => wpAny_execs_nil ?_
    have I3 : FnInv c mu ob (τ a) h2 := I2.turn I.rb (fun b hb => ⟨(I.obs b hb).1, (I.obs b hb).2.1, by
        by_cases hm : b ∈ wr
        · obtain ⟨_, _, o, ho⟩ := I.obs b hb; rw [(hwr b hm).1] at ho; cases ho
        · obtain ⟨_, _, o, ho⟩ := I2.obs b (.inl hb); exact ⟨o, hk2 _ _ hm ho⟩⟩)
      (fun b o hc ho => hk2 _ _ (fun hm => hc.elim (fun q => (hnew b hm).2.2.1 q) fun q => q.elim (fun q => (hnew b hm).1 q) fun ⟨z, q⟩ => (hnew b hm).2.1 z q) ho)
      (fun b o hg => let ⟨_, F, _⟩ := I2.fr; hk2 _ _ (fun hm => by rw [(hnew b hm).2.2.2] at hg; cases hg) (F.keep _ _ hg)) fun b o hb ho => ⟨fun q => hb (.inl (.inl q)), hk2 _ _ (fun hm => hb (.inl (.inr hm))) ho⟩
    exact H.1 _ h2 tk2 (hx a ha) I3 fun b o hc ho => hk2 _ _ (fun hm => by rw [(hwr b hm).1] at ho; cases ho) (kh b o (fun hm => by rw [(hwr b hm).1] at ho; cases ho) hc (ex _ _ ho))
/-- a for -/
theorem Ws.for {c : Cx} {mu ob : Addr → Prop} {σ : Loc} {N : Loc → Prop} {R : AV → Prop} {x : Str} {px pos : Pos} {e : Expr} {body : List Stmt} {ws : List AV} {α : Type} (τ : α → Loc) (Φ : Nat → α → Prop) (a₀ : α) (hit : It (Px.fn c mu ob σ) (.Name x px) e ws) (hl : Put c x = true) (h0 : Φ 0 a₀) (hS : Sub (τ a₀) σ)
    (hw : ∀ w ∈ ws, ∀ h bad v, IV h bad w v → RV h bad w v) (hb : ∀ ob' i a w, Φ i a → ws[i]? = some w → Wp c mu ob' ((x, w) :: τ a) body (fun σ' => ∃ a', Φ (i + 1) a' ∧ Sub (τ a') σ') R) (hx : ∀ a, Φ ws.length a → N (τ a))
    (hs : ∀ x, foldedSetIterable e c.env x = pure x := by intro _; rfl) : Ws c mu ob σ (.For (.Name x px) e body [] pos) N R :=
  Ws.forG (fun w => ((x, w) :: ·)) τ Φ a₀ hit.toF h0 hS (fun w hm => TgS.name hl (hw w hm)) hb hx hs
end
end Mine
end
section
open PySem PySem.W PyProof.Rows PySem.Calls PySem.Spec
set_option maxRecDepth 100000
set_option maxHeartbeats 4000000
namespace Mine
/-- e makes a new list of vs -/
noncomputable def EvNew (P : Px) (e : Expr) (vs : List AV) : Prop := ∀ (s : Shared), P.inv s → ∀ (Q E : Value → Shared → Prop),
  (∀ a xs n h tk, Ext s.heap h → s.heap.get? a = none → h.get? a = some (listOf xs.toArray n) → RVs h (fun b => P.bad b ∨ b = a) vs xs → Q (.ref a) { s with heap := h, toks := tk }) → wpAny (model PG P.c.w) P.c.A (eval e P.env) Q E s
section
variable {P : Px} {pos : Pos} {e : Expr} {vs : List AV}
theorem EvNew.ev (h : EvNew P e vs) : Ev P e (.list vs) := fun s hs Q E hQ => h s hs Q E fun a xs n h' tk ex hn ho rs =>
  hQ _ h' tk ex ⟨a, xs, n, rfl, (fun hb => by obtain ⟨o, ho'⟩ := P.low s a hs hb; rw [hn] at ho'; cases ho'), ho, rs.move fun b o hb ho' => ⟨fun q => hb (.inl q), ho'⟩⟩
theorem heap_end (h : Heap) : h.get? h.objs.size = none := by
  cases q : h.get? h.objs.size with
  | none => rfl
  | some o => exact absurd (Heap.lt_size q) (Nat.lt_irrefl _)
theorem none_of_ext {h h' : Heap} {a : Addr} (e : Ext h h') (hn : h'.get? a = none) : h.get? a = none := by
  cases q : h.get? a with
  | none => rfl
  | some o => rw [e _ _ q] at hn; cases hn
theorem RVs.off {h h' : Heap} {bad : Addr → Prop} {vs : List AV} {xs : List Value} (rs : RVs h bad vs xs) (e : Ext h h') : RVs h' (fun b => bad b ∨ b = h.objs.size) vs xs :=
  rs.move fun b o hb ho => ⟨fun q => q.elim hb fun q => Nat.ne_of_lt (Heap.lt_size ho) q, e _ _ ho⟩
theorem EvNew.disp {es : List Expr} (h : EvL P pos es vs) (hz : vs.length ≤ 1000) : EvNew P (.List es pos) vs := fun s hs Q E hQ =>
  List_ (h s hs _ _ fun ys h1 tk1 e1 rs => by
    have up : Ext h1 (h1.push { cls := .type "list", data := .seq ys.toArray }) := fun b o e => Heap.get?_push_of_some _ e
    exact wpAny_newList (hQ _ ys _ _ tk1 (e1.trans' up) (none_of_ext e1 (heap_end h1)) (Heap.get?_push_size _ rfl) (rs.off up)) (by rw [rs.len, sizeLine_eq]; omega))
theorem EvNew.copy {f : Expr} (hf : Ev P f (.glob (.type "list"))) (h : Ev P e (.list vs)) (hz : vs.length ≤ 1000)
    (he : starEach [e] P.env = (false, eval e P.env) :: starEach [] P.env := by rfl) (hp : (backTo pos (starEach [] P.env)).any (·.1) = false := by rfl)
    (hw : eval (.Call f [e] [] pos) P.env = (do callWith pos (← eval f P.env) [] (backTo pos (starEach [e] P.env)) (backToKw pos (keywordEach [] P.env))) := by rfl) : EvNew P (.Call f [e] [] pos) vs := fun s hs Q E hQ =>
  Call_ (hf s hs _ _ fun y h0 tk e1 r1 => by
    cases r1
    refine Pv.callWith_type1 (args_cons (h _ (P.ok _ _ _ hs e1) _ _ fun y2 h2 tk2 e2 r2 => args_nil ?_) he) he hp
    obtain ⟨a, xs, n, rfl, hb, ho, rs⟩ := r2
    refine call_list_seq (hsz := by rw [List.size_toArray, rs.len, sizeLine_eq]; omega) a (.inl rfl) ho rfl rfl fun h' c' hk hD => ?_
    exact hQ _ xs c' h' tk2 ((e1.trans' e2).trans' hk) (none_of_ext (e1.trans' e2) (heap_end h2)) hD (rs.off hk)) hw
theorem EvNew.range {f g a b d : Expr} {pg : Pos} {i j k : Int} {n : Nat} (hf : Ev P f (.glob (.type "list"))) (hg : Ev P g (.glob (.type "range"))) (ha : Ev P a (.int i)) (hb : Ev P b (.int j)) (hd : Ev P d (.int k)) (hk : k ≠ 0)
    (hsm : Builtin.Range.small i j k = true) (hn : Builtin.Range.rangeSize i j k = (n : Int)) (hl : n ≤ 1000) (hpy : Builtin.divisionGoesByPylong (j - i) k = false)
    (he1 : starEach [.Call g [a, b, d] [] pg] P.env = (false, eval (.Call g [a, b, d] [] pg) P.env) :: starEach [] P.env := by rfl) (he2 : starEach [d] P.env = (false, eval d P.env) :: starEach [] P.env := by rfl) (hp : (backTo pos (starEach [] P.env)).any (·.1) = false := by rfl)
    (hp3 : (backTo pg (starEach [b, d] P.env)).any (·.1) = false := by rfl) (h3a : starEach [a, b, d] P.env = (false, eval a P.env) :: starEach [b, d] P.env := by rfl) (h3b : starEach [b, d] P.env = (false, eval b P.env) :: starEach [d] P.env := by rfl)
    (hw1 : eval (.Call f [.Call g [a, b, d] [] pg] [] pos) P.env = (do callWith pos (← eval f P.env) [] (backTo pos (starEach [.Call g [a, b, d] [] pg] P.env)) (backToKw pos (keywordEach [] P.env))) := by rfl)
    (hw2 : eval (.Call g [a, b, d] [] pg) P.env = (do callWith pg (← eval g P.env) [] (backTo pg (starEach [a, b, d] P.env)) (backToKw pg (keywordEach [] P.env))) := by rfl) :
    EvNew P (.Call f [.Call g [a, b, d] [] pg] [] pos) ((List.range n).map fun x => .int (i + (x : Nat) * k)) := fun s hs Q E hQ => by
  refine Call_ (hf s hs _ _ fun y h0 tk e1 r1 => ?_) hw1
  cases r1
  have hs1 := P.ok _ h0 tk hs e1
  refine Pv.callWith_type1 (args_cons (Call_ (hg _ hs1 _ _ fun y2 h2 tk2 e2 r2 => ?_) hw2) he1) he1 hp
  cases r2
  have hs2 := P.ok _ h2 tk2 hs1 e2
  refine Pv.callWith_type1 (args_cons (ha _ hs2 _ _ fun y3 h3 tk3 e3 r3 => args_cons (hb _ (P.ok _ _ _ hs2 e3) _ _ fun y4 h4 tk4 e4 r4 => args_cons (hd _ (P.ok _ _ _ (P.ok _ h3 tk3 hs2 e3) e4) _ _ fun y5 h5 tk5 e5 r5 => args_nil ?_) he2) h3b) h3a) h3a hp3
  obtain ⟨t, rfl⟩ := r3
  obtain ⟨u, rfl⟩ := r4
  obtain ⟨v, rfl⟩ := r5
  refine call_range_3 hk (args_nil ?_) (.inl hpy)
  have ex : Ext s.heap h5 := e1.trans' (e2.trans' (e3.trans' (e4.trans' e5)))
  refine call_list_range (s := { s with heap := h5.push { cls := .type "range", data := .fields #[.int i t, .int j u, .int k v] }, toks := tk5 }) rfl (IsRange.new ..) hsm hn (by omega) fun h' tk' acc c' hk' hl' hacc => ?_
  have up : Ext h5 (h5.push { cls := .type "range", data := .fields #[.int i t, .int j u, .int k v] }) := fun b o e => Heap.get?_push_of_some _ e
  refine hQ _ acc.toList c' h' tk' (ex.trans' (up.trans' hk')) (none_of_ext (ex.trans' up) (heap_end _)) (by simpa using hl') (RVs.of_at (by simp [hacc.1]) fun x w hw' => ?_)
  have hx : x < n := by
    have := (List.getElem?_eq_some_iff.mp hw').1
    simpa using this
  have hx' : x < acc.size := by rw [hacc.1]; exact hx
  obtain ⟨t', hz⟩ := hacc.2 x _ (Array.getElem?_eq_getElem hx')
  rw [List.getElem?_map, List.getElem?_range hx] at hw'
  cases hw'
  exact ⟨_, by rw [Array.getElem?_toList, Array.getElem?_eq_getElem hx', hz], t', rfl⟩
end
section
variable {c : Cx} {mu ob : Addr → Prop} {σ : Loc} {N : Loc → Prop} {R : AV → Prop} {s : Shared} {pos px p1 p2 : Pos} {e i : Expr} {x : Str} {a : Addr} {vs : List AV}
theorem RM.more {h : Heap} {bad mu mu' : Addr → Prop} (U : ∀ a, mu a → mu' a) : ∀ {v : AV} {y : Value}, RM h bad mu v y → RM h bad mu' v y
  | .mut a vs, _, ⟨e, hb, r⟩ => ⟨e, U a hb, r⟩
  | .mutS a C, _, ⟨e, hb, r⟩ => ⟨e, U a hb, r⟩
  | .int _, _, r => r
  | .str _, _, r => r
  | .bool _, _, r => r
  | .none, _, r => r
  | .glob _, _, r => r
  | .sem _, _, r => r
  | .list _, _, r => r
  | .tup _, _, r => r
/-- a new list, which the frame alone changes -/
theorem Wp.new {ss : List Stmt} (he : EvNew (Px.fn c mu ob σ) e vs) (hl : c.cs.names.lookup x = some .local) (h : ∀ a, ¬ c.rb a → Wp c (fun b => mu b ∨ b = a) ob ((x, .mut a vs) :: σ) ss (fun _ => False) R)
    (hs : swapsWith e (some (.Name x px)) pos.line c.env = pure false := by rfl) : Wp c mu ob σ (.Assign [.Name x px] e pos :: ss) (fun _ => False) R := fun s I Q E H => by
  refine wpAny_execs_cons (wpAny_Assign_Name (he s I _ _ fun a xs n h1 tk ex hn ho rs => ?_) hs)
  have I1 : FnInv c mu ob σ h1 := I.ext ex
  have hlive : ∀ b, c.bad mu ob b → b ≠ a := fun b hb q => by
    obtain ⟨o, ho'⟩ := I.lives hb
    rw [q, hn] at ho'; cases ho'
  obtain ⟨m, F, V⟩ := I1.fr
  refine wpAny_storeName_local (env := c.env) hl F.ns (fun h2 hn2 hs2 => ?_) (by show (c.cs.kind == .class || (c.cs.kind == .module && c.L != mainGlobals)) = false; rw [I.ok.k]; rfl)
  have hrb : ¬ c.rb a := fun q => hlive a (.inl (I.rb a q)) rfl
  have haL : a ≠ c.L := fun q => hlive c.L (.inr (.inr (.inl rfl))) q.symm
  have hac : ∀ z, c.cl.lookup z ≠ some a := fun z q => hlive a (.inr (.inr (.inr ⟨z, q⟩))) rfl
  have ho2 : h2.get? a = some (listOf xs.toArray n) := (hs2.2 a haL).trans ho
  -- the trees that stood avoid the new list
  have T : ∀ b o, ¬ c.bad mu ob b → s.heap.get? b = some o → ¬ c.bad (fun b => mu b ∨ b = a) ob b ∧ h2.get? b = some o := fun b o hb ho' => by
    have hba : b ≠ a := fun q => by rw [q, hn] at ho'; cases ho'
    refine ⟨fun q => q.elim (fun q => hb (.inl q)) fun q => q.elim (fun q => q.elim (fun q => hb (.inr (.inl q))) hba) fun q => hb (.inr (.inr q)), ?_⟩
    exact (hs2.2 b fun q => hb (.inr (.inr (.inl q)))).trans (ex _ _ ho')
  have I2 : FnInv c (fun b => mu b ∨ b = a) ob ((x, .mut a vs) :: σ) h2 :=
    { ok := I.ok
      rb := I.rb
      obs := fun b hb => let ⟨p, q, o, ho'⟩ := I1.obs b hb; ⟨p, q, o, (hs2.2 b p).trans ho'⟩
      mus := fun b hb => hb.elim (fun hb => let ⟨p, q, g, o, ho'⟩ := I1.mus b hb; ⟨p, q, g, o, (hs2.2 b p).trans ho'⟩) fun q => q ▸ ⟨haL, hac, (let ⟨_, F0, _⟩ := I.fr; none_of_ext (h' := s.heap) (fun b o e => F0.keep b o e) hn), _, ho2⟩
      cells := fun z b hb => let ⟨p, q, o, w, ho', hd⟩ := I1.cells z b hb; ⟨p, q, o, w, (hs2.2 b p).trans ho', hd⟩
      inj := I.inj
      fr := by
        obtain ⟨m0, F0, V0⟩ := I.fr
        have hm : m = m0 := ns_unique F.ns (Fr.ext F0 ex).ns
        subst hm
        refine ⟨_, F.set hn2 hs2, fun z w hz => ?_⟩
        rw [List.lookup_cons] at hz
        by_cases q : z = x
        · subst q
          simp only [beq_self_eq_true, Option.some.injEq] at hz
          subst hz
          exact .inl ⟨hl, .ref a, by simp, rfl, .inr rfl, xs, n, ho2, rs.move fun b o hb ho' => ⟨fun q => q.elim (fun q => hb (.inl (.inl q))) fun q => q.elim (fun q => q.elim (fun q => hb (.inl (.inr (.inl q)))) fun q => hb (.inr q)) fun q => hb (.inl (.inr (.inr q))), (hs2.2 b fun q => hb (.inl (.inr (.inr (.inl q))))).trans ho'⟩⟩
        · have hb : (z == x) = false := beq_eq_false_iff_ne.mpr q
          rw [hb] at hz
          have U : ∀ b o, mu b → s.heap.get? b = some o → h2.get? b = some o := fun b o hm ho' => (hs2.2 b (I.mus b hm).1).trans (ex _ _ ho')
          rcases V0 z w hz with ⟨k, y', hy, r'⟩ | ⟨k, b, o, y', hb', ho', hd, r'⟩
          · exact .inl ⟨k, y', by simp [q, hy], (RM.turn T U r').more fun b hb => .inl hb⟩
          · exact .inr ⟨k, b, o, y', hb', (hs2.2 b (I.cells z b hb').1).trans (ex _ _ ho'), hd, (RM.turn T U r').more fun b hb => .inl hb⟩ }
  exact h a hrb _ I2 Q E ⟨fun _ _ _ n => n.elim, fun r y h' tk' hr hm rv => H.2 r y h' tk' hr hm rv⟩
/-- the only name that holds a list that changes is x -/
noncomputable def only (x : Str) (σ : Loc) : Bool := σ.all fun p => p.1 == x || p.2.still
theorem only.spec : ∀ {σ : Loc}, only x σ = true → ∀ z w, z ≠ x → σ.lookup z = some w → w.still = true
  | (y, u) :: σ, h, z, w, hz, e => by
    obtain ⟨h1, h2⟩ := Bool.and_eq_true_iff.mp (by rw [only, List.all_cons] at h; exact h)
    rw [List.lookup_cons] at e
    cases q : z == y with
    | true =>
      rw [q] at e; cases e
      rcases Bool.or_eq_true_iff.mp h1 with h1 | h1
      · exact absurd ((eq_of_beq q).trans (eq_of_beq h1)) hz
      · exact h1
    | false => rw [q] at e; exact only.spec h2 z w hz e
theorem RM.still_turn {h h' : Heap} {bad mu : Addr → Prop} {v : AV} {y : Value} (hv : v.still = true) (T : ∀ a o, ¬ bad a → h.get? a = some o → ¬ bad a ∧ h'.get? a = some o) (r : RM h bad mu v y) : RM h' bad mu v y := ((r.rv hv).move T).rm
/-- the list that x holds is changed -/
theorem FnInv.setm {h h' : Heap} {ys : List Value} {n : Nat} {ws : List AV} (I : FnInv c mu ob σ h) (hx : σ.lookup x = some (.mut a vs)) (ho1 : only x σ = true) (hs : Heap.SameBut a h h') (ho : h'.get? a = some (listOf ys.toArray n)) (rs : RVs h (c.bad mu ob) ws ys) :
    FnInv c mu ob ((x, .mut a ws) :: σ) h' ∧ Kp (c.ch mu) h h' := by
  obtain ⟨m, F, V⟩ := I.fr
  have hma : mu a := by
    rcases V x _ hx with ⟨_, y, _, r⟩ | ⟨_, b, o, y, _, _, _, r⟩
    · exact r.2.1
    · exact r.2.1
  obtain ⟨haL, hac, hag, -⟩ := I.mus a hma
  have T : ∀ b o, ¬ c.bad mu ob b → h.get? b = some o → ¬ c.bad mu ob b ∧ h'.get? b = some o := fun b o hb ho' => ⟨hb, (hs.2 b fun q => hb (.inr (.inl (q ▸ hma)))).trans ho'⟩
  have live : ∀ b o, h.get? b = some o → ∃ o, h'.get? b = some o := fun b o ho' => by
    by_cases q : b = a
    · exact ⟨_, q ▸ ho⟩
    · exact ⟨o, (hs.2 b q).trans ho'⟩
  refine ⟨{ ok := I.ok, rb := I.rb, obs := fun b hb => let ⟨p, q, o, ho'⟩ := I.obs b hb; ⟨p, q, live b o ho'⟩, mus := fun b hb => let ⟨p, q, g, o, ho'⟩ := I.mus b hb; ⟨p, q, g, live b o ho'⟩,
            cells := fun z b hb => let ⟨p, q, o, w, ho', hd⟩ := I.cells z b hb; ⟨p, q, o, w, (hs.2 b fun q => hac z (q ▸ hb)).trans ho', hd⟩, inj := I.inj, fr := ?_ }, fun b o hb ho' => (hs.2 b fun q => hb (.inl (q ▸ hma))).trans ho'⟩
  obtain ⟨oL, es, ep, hL, r⟩ := F.ns
  refine ⟨m, ⟨⟨oL, es, ep, (hs.2 _ (Ne.symm haL)).trans hL, r⟩, fun b o hg => (hs.2 b fun q => by rw [q, hag] at hg; cases hg).trans (F.keep _ _ hg), F.above⟩, fun z w hz => ?_⟩
  rw [List.lookup_cons] at hz
  by_cases q : z = x
  · subst q
    simp only [beq_self_eq_true, Option.some.injEq] at hz
    subst hz
    rcases V z _ hx with ⟨k, y, hy, e, -⟩ | ⟨k, b, o, y, hb, ho', hd, e, -⟩
    · exact .inl ⟨k, y, hy, e, hma, ys, n, ho, rs.move T⟩
    · exact .inr ⟨k, b, o, y, hb, (hs.2 b fun q => hac z (q ▸ hb)).trans ho', hd, e, hma, ys, n, ho, rs.move T⟩
  · have hb : (z == x) = false := beq_eq_false_iff_ne.mpr q
    rw [hb] at hz
    have hst := only.spec ho1 z w q hz
    rcases V z w hz with ⟨k, y, hy, r⟩ | ⟨k, b, o, y, hb, ho', hd, r⟩
    · exact .inl ⟨k, y, hy, r.still_turn hst T⟩
    · exact .inr ⟨k, b, o, y, hb, (hs.2 b fun q => hac z (q ▸ hb)).trans ho', hd, r.still_turn hst T⟩
theorem load_mut {Q : Value → Shared → Prop} {E : Value → Shared → Prop} (I : FnInv c mu ob σ s.heap) (hx : σ.lookup x = some (.mut a vs)) (hd : (x == ("__debug__" : Str)) = false)
    (h : ∀ xs n, s.heap.get? a = some (listOf xs.toArray n) → RVs s.heap (c.bad mu ob) vs xs → Q (.ref a) s) : wpAny (model PG c.w) c.A (eval (.Name x px) c.env) Q E s := by
  obtain ⟨m, F, V⟩ := I.fr
  refine wpAny_Name ?_ hd
  rcases V x _ hx with ⟨k, y, hy, rfl, -, xs, n, ho, rs⟩ | ⟨k, b, o, y, hb, ho', hdt, rfl, -, xs, n, ho, rs⟩
  · exact wpAny_loadName_local (env := c.env) I.ok.k k F.ns hy (h xs n ho rs)
  · exact wpAny_loadName_cell (env := c.env) I.ok.k k hb ⟨o, ho', hdt⟩ (h xs n ho rs)
/-- x[i] read -/
theorem Ev.itemM {k : Int} {v : AV} (hx : σ.lookup x = some (.mut a vs)) (hi : Ev (Px.fn c mu ob σ) i (.int k)) (h0 : 0 ≤ k) (hf : k < 2 ^ 63) (hv : vs[k.toNat]? = some v) (hd : (x == ("__debug__" : Str)) = false := by decide)
    (hs : ∀ l u, subscripted i false (.ref l) (.int k u) = operate [.ref l, .int k u] (getItem (.ref l) (.int k u)) := by intro _ _; with_unfolding_all rfl) : Ev (Px.fn c mu ob σ) (.Subscript (.Name x px) i pos) v := fun s I Q E hQ => by
  refine Subscript_ (load_mut I hx hd fun xs n ho rs => hi s I _ _ fun y h1 tk1 e1 r1 => ?_)
  obtain ⟨u, rfl⟩ := r1
  obtain ⟨z, hz, rz⟩ := rs.at hv
  exact item_listR ⟨_, e1 _ _ ho, rfl, n, rfl⟩ h0 hf (by rw [List.getElem?_toArray]; exact hz) (hQ z h1 tk1 e1 (rz.ext e1)) (hs a u)
theorem seq_set {xs : List Value} {n : Nat} {j : Nat} {y : Value} : ∃ n', Obj.mapSeq (·.setIfInBounds j y) (listOf xs.toArray n) = listOf (xs.set j y).toArray n' := by
  refine ⟨(if (xs.toArray.setIfInBounds j y).size == xs.toArray.size then n else n + 1), ?_⟩
  rw [← List.setIfInBounds_toArray]
  rfl
theorem RVs.set {h : Heap} {bad : Addr → Prop} : ∀ {vs : List AV} {xs : List Value}, RVs h bad vs xs → ∀ {j : Nat} {v : AV} {y : Value}, RV h bad v y → RVs h bad (vs.set j v) (xs.set j y)
  | [], _, r, _, _, _, _ => by cases r; rfl
  | _ :: _, _, ⟨z, zs, e, r, rs⟩, j, v, y, ry => by
    subst e
    cases j with
    | zero => exact ⟨y, zs, rfl, ry, rs⟩
    | succ j => exact ⟨z, zs.set j y, rfl, r, rs.set ry⟩
/-- x[i] = e -/
theorem Ws.setI {k : Int} {v : AV} (hx : σ.lookup x = some (.mut a vs)) (he : Ev (Px.fn c mu ob σ) e v) (hi : Ev (Px.fn c mu ob σ) i (.int k)) (h0 : 0 ≤ k) (hf : k < 2 ^ 63) (h1 : k < vs.length) (hn : N ((x, .mut a (vs.set k.toNat v)) :: σ)) (ho1 : only x σ = true := by rfl) (hd : (x == ("__debug__" : Str)) = false := by decide)
    (hs : swapsWith e (some (.Subscript (.Name x px) i p1)) pos.line c.env = pure false := by rfl) : Ws c mu ob σ (.Assign [.Subscript (.Name x px) i p1] e pos) N R := fun s I Q E H => by
  refine wpAny_Assign_Subscript (he s I _ _ fun y h1' tk1 e1 r1 => load_mut (s := { s with heap := h1', toks := tk1 }) (I.ext e1) hx hd fun xs n ho rs => hi _ (I.ext e1) _ _ fun y2 h2 tk2 e2 r2 => ?_) hs
  obtain ⟨u, rfl⟩ := r2
  have ho2 := e2 _ _ ho
  refine ki_setAt (s := { s with heap := h2, toks := tk2 }) ho2 h0 hf (by rw [List.size_toArray, rs.len]; exact h1) ?_
  obtain ⟨n', hn'⟩ := seq_set (xs := xs) (n := n) (j := k.toNat) (y := y)
  obtain ⟨I3, k3⟩ := ((I.ext e1).ext e2).setm hx ho1 (Heap.SameBut.update ..) (ys := xs.set k.toNat y) (n := n') ((Heap.get?_update_self _ ho2 (by rw [hn']; rfl)).trans (congrArg some hn')) ((rs.ext e2).set (r1.ext e2))
  exact H.1 _ _ tk2 hn I3 ((Kp.ext (e1.trans' e2)).trans k3)
/-- return x, the list that was changed -/
theorem Ws.retM (hx : σ.lookup x = some (.mut a vs)) (ha : ¬ c.rb a) (hr : R (.list vs)) (hd : (x == ("__debug__" : Str)) = false := by decide) : Ws c mu ob σ (.Return (some (.Name x px)) pos) N R := fun s I Q E H =>
  wpAny_Return_some (load_mut I hx hd fun xs n ho rs => H.2 (.list vs) _ s.heap s.toks hr (let ⟨m, F, _⟩ := I.fr; ⟨m, F⟩) ⟨a, xs, n, rfl, ha, ho, rs.move fun b o hb ho' => ⟨fun q => hb (.inl (I.rb b q)), ho'⟩⟩)
end
end Mine
end
section
open PySem PySem.W PyProof.Rows PySem.Calls PySem.Spec
set_option maxRecDepth 100000
set_option maxHeartbeats 4000000
namespace Mine
noncomputable def putAll : List Str → List AV → Loc → Loc
  | n :: ns, v :: vs, σ => putAll ns vs ((n, v) :: σ)
  | _, _, σ => σ
noncomputable def Stores (c : Cx) (t : Value → Sem Unit) (n : Str) : Prop := ∀ (v : Value) (Q : Unit → Shared → Prop) (E : Value → Shared → Prop) (s : Shared), wpAny (model PG c.w) c.A (storeName c.env n v) Q E s → wpAny (model PG c.w) c.A (t v) Q E s
inductive StoresL (c : Cx) : List (Value → Sem Unit) → List Str → Prop where
  | nil : StoresL c [] []
  | cons {t : Value → Sem Unit} {ts : List (Value → Sem Unit)} {n : Str} {ns : List Str} (h : Stores c t n) (hs : StoresL c ts ns) : StoresL c (t :: ts) (n :: ns)
theorem Stores.bind {c : Cx} {n : Str} : Stores c (fun v => bindName c.env n v) n := fun _ _ _ _ h => bindName_ h
theorem Stores.name {c : Cx} {n : Str} {p : Pos} : Stores c (assign (.Name n p) c.env) n := fun _ _ _ _ h => assign_Name h
section
variable {c : Cx} {mu ob : Addr → Prop} {σ : Loc} {N : Loc → Prop} {R : AV → Prop} {pos px p1 p2 : Pos} {e : Expr} {x : Str}
theorem stores {ts : List (Value → Sem Unit)} {ns : List Str} (h : StoresL c ts ns) : ∀ {vs : List AV} {ys : List Value} {s : Shared} {σ : Loc} {Q : Unit → Shared → Prop} {E : Value → Shared → Prop}, FnInv c mu ob σ s.heap → (∀ n ∈ ns, Put c n = true) → RVs s.heap (c.bad mu ob) vs ys → vs.length = ns.length →
    (∀ h' tk, FnInv c mu ob (putAll ns vs σ) h' → Kp (c.ch mu) s.heap h' → Q () { s with heap := h', toks := tk }) → wpAny (model PG c.w) c.A (assignInOrder ts ys) Q E s := by
  induction h with
  | nil =>
    intro vs ys s σ Q E I _ rs hl hQ
    exact assignInOrder_nil (by cases vs with | nil => exact hQ s.heap s.toks I fun _ _ _ x => x | cons => cases hl)
  | @cons t ts n ns ht hs ih =>
    intro vs ys s σ Q E I hn rs hl hQ
    cases vs with
    | nil => cases hl
    | cons v vs =>
      obtain ⟨y, ys, rfl, r, rs⟩ := rs
      refine assignInOrder_cons (ht _ _ _ _ (store_any I (hn n (.head _)) r fun h' tk I' k => ?_))
      exact ih (s := { s with heap := h', toks := tk }) I' (fun m hm => hn m (.tail _ hm)) (rs.move fun a o hb ho => ⟨hb, k a o (fun q => hb (.inr q)) ho⟩) (Nat.succ.inj hl) fun h2 tk2 I2 k2 => hQ h2 tk2 I2 (k.trans k2)
theorem RVs.rev {h : Heap} {bad : Addr → Prop} : ∀ {vs : List AV} {xs : List Value}, RVs h bad vs xs → RVs h bad vs.reverse xs.reverse
  | [], _, r => by cases r; rfl
  | v :: vs, _, ⟨y, ys, e, r, rs⟩ => by
    subst e
    rw [List.reverse_cons, List.reverse_cons]
    exact rs.rev.append ⟨y, [], rfl, r, rfl⟩
theorem Ev.tup {P : Px} {es : List Expr} {k : Nat} {vs : List AV} (h : EvL P pos es vs) (hz : vs.length ≤ 1000) : Ev P (.Tuple es k pos) (.tup vs) := fun s hs Q E hQ =>
  Tuple_ (h s hs _ _ fun ys h1 tk1 e1 rs => by
    have up : Ext h1 (h1.push { cls := .type "tuple", data := .seq ys.toArray }) := fun b o e => Heap.get?_push_of_some _ e
    exact wpAny_newTuple (hQ _ _ tk1 (e1.trans' up) ⟨_, ys, _, rfl, fun hb => by
      obtain ⟨o, ho⟩ := P.low s _ hs hb
      exact absurd (Heap.lt_size (e1 _ _ ho)) (Nat.lt_irrefl _), Heap.get?_push_size _ rfl, rs.ext up⟩) (by rw [rs.len, sizeLine_eq]; omega))
/-- the parts of a tuple -/
theorem unpack {n : Nat} {vs : List AV} {y : Value} {s : Shared} {Q : List Value → Shared → Prop} {E : Value → Shared → Prop} {bad : Addr → Prop} (r : RV s.heap bad (.tup vs) y) (hn : n = vs.length) (h : ∀ ys h', Ext s.heap h' → RVs h' bad vs ys → Q ys { s with heap := h' }) :
    wpAny (model PG c.w) c.A (unpackItems y n none) Q E s := by
  obtain ⟨a, xs, k, rfl, hb, ho, rs⟩ := r
  have hsz : n = xs.toArray.size := by rw [List.size_toArray, rs.len]; exact hn
  rw [hsz]
  refine wpAny_unpackItems_tuple rfl ⟨_, ho, rfl, k, rfl⟩ fun h' e => ?_
  have ex : Ext s.heap h' := fun b o hb => e b o (Nat.ne_of_lt (Heap.lt_size hb)) hb
  exact h _ h' ex (rs.ext ex)
/-- x1, .., xn = e1, .., en by way of a swap -/
theorem Ws.swap {es elts : List Expr} {k k2 : Nat} {tp vp : Pos} {names : List Str} {vs : List AV} (h : EvL (Px.fn c mu ob σ) vp es vs) (hz : vs.length ≤ 1000) (hl : vs.length = names.length) (hloc : ∀ n ∈ names, Put c n = true) (hn : N (putAll names.reverse vs.reverse σ))
    (hs : swapsWithSole [.Tuple elts k tp] (.Tuple es k2 vp) pos.line c.env = pure false := by rfl) (hw : swappedStores [.Tuple elts k tp] (.Tuple es k2 vp) c.env = pure (some names) := by rfl) : Ws c mu ob σ (.Assign [.Tuple elts k tp] (.Tuple es k2 vp) pos) N R := fun s I Q E H => by
  refine Assign_Tuple_swapped (names := names) (Ev.tup h hz s I _ _ fun y h1 tk1 e1 r1 => unpack (s := { s with heap := h1, toks := tk1 }) r1 hl.symm fun ys h2 e2 rs => ?_) hs hw
  have hL : ∀ l : List Str, StoresL c (l.map fun n => fun v => bindName c.env n v) l := fun l => by
    induction l with
    | nil => exact .nil
    | cons n l ih => exact .cons .bind ih
  refine stores (hL names.reverse) (s := { s with heap := h2, toks := tk1 }) ((I.ext e1).ext e2) (fun n hn' => hloc n (List.mem_reverse.mp hn')) rs.rev (by rw [List.length_reverse, List.length_reverse]; exact hl) fun h3 tk3 I3 k3 => ?_
  exact H.1 _ h3 tk3 hn I3 ((Kp.ext (e1.trans' e2)).trans k3)
/-- x = y = e -/
theorem Ws.asg2 {x1 x2 : Str} {v : AV} (hv : Ev (Px.fn c mu ob σ) e v) (h1 : Put c x1 = true) (h2 : Put c x2 = true) (hn : N ((x2, v) :: (x1, v) :: σ))
    (he : (assignEach [.Name x1 p1, .Name x2 p2] c.env).map (·.2) = [assign (.Name x1 p1) c.env, assign (.Name x2 p2) c.env] := by rfl) (hw : swappedStores [.Name x1 p1, .Name x2 p2] e c.env = pure none := by rfl) : Ws c mu ob σ (.Assign [.Name x1 p1, .Name x2 p2] e pos) N R := fun s I Q E H =>
  wpAny_Assign_two (hv s I _ _ fun y h tk ex rv => assign_Name (store_any (s := { s with heap := h, toks := tk }) (I.ext ex) h1 rv fun h' tk' I' k => assign_Name (store_any (s := { s with heap := h', toks := tk' }) I' h2 (rv.move fun a o hb ho => ⟨hb, k a o (fun q => hb (.inr q)) ho⟩) fun h2 tk2 I2 k2 =>
    H.1 _ h2 tk2 hn I2 (((Kp.ext ex).trans k).trans k2)))) he hw
end
end Mine
end
section
open PySem PySem.W PyProof.Rows PySem.Calls PySem.Spec PyProof.Rows.LCg
set_option maxRecDepth 100000
set_option maxHeartbeats 4000000
namespace Mine
/-! comprehensions -/
/-- a place that a comprehension may stand at -/
structure Pf where
  c : Cx
  env : Env
  ch : Addr → Prop
  nc : Addr → Prop
  rs : Addr → Prop
  I : (Addr → Prop) → Heap → Prop
  ok : ∀ {ob h}, I ob h → c.Ok
  fr : ∀ {ob h}, I ob h → ∃ m, Fr c.g c.L h m
  ext : ∀ {ob h h'}, I ob h → Ext h h' → I ob h'
  rb : ∀ {ob h}, I ob h → ∀ a, rs a → ob a
  obs : ∀ {ob h a}, I ob h → ob a → nc a
  nc_of : ∀ {a}, ¬ ch a → nc a
  lives : ∀ {ob h a}, I ob h → (ob a ∨ ch a) → ∃ o, h.get? a = some o
  turn : ∀ {ob ob' h h'}, I ob h → (∀ a, rs a → ob' a) → (∀ a, ob' a → nc a ∧ ∃ o, h'.get? a = some o) → (∀ a o, ch a → h.get? a = some o → h'.get? a = some o) → (∀ a o, c.g.get? a = some o → h'.get? a = some o) →
    (∀ a o, ¬ (ob a ∨ ch a) → h.get? a = some o → ¬ ob' a ∧ h'.get? a = some o) → I ob' h'
noncomputable def Pf.fn (c : Cx) (mu : Addr → Prop) (σ : Loc) : Pf where
  c := c
  env := c.env
  ch := c.ch mu
  nc := fun a => a ≠ c.L ∧ ∀ x, c.cl.lookup x ≠ some a
  rs := c.rb
  I := fun ob h => FnInv c mu ob σ h
  ok := fun I => I.ok
  fr := fun I => I.fr.imp fun _ h => h.1
  ext := fun I e => I.ext e
  rb := fun I => I.rb
  obs := fun I ha => let ⟨p, q, _⟩ := I.obs _ ha; ⟨p, q⟩
  nc_of := fun h => ⟨fun q => h (.inr (.inl q)), fun x q => h (.inr (.inr ⟨x, q⟩))⟩
  lives := fun I hb => I.lives hb
  turn := fun I h1 h2 h3 h4 h5 => I.turn h1 (fun a ha => let ⟨⟨p, q⟩, r⟩ := h2 a ha; ⟨p, q, r⟩) h3 h4 h5
noncomputable def Pf.px (F : Pf) (ob : Addr → Prop) : Px where
  c := F.c
  env := F.env
  bad := fun a => ob a ∨ F.ch a
  inv := fun s => F.I ob s.heap
  fr := fun _ I => ⟨F.ok I, F.fr I⟩
  ok := fun _ _ _ I e => F.ext I e
  low := fun _ _ I hb => F.lives I hb
/-- what a comprehension's own names hold -/
noncomputable def OwnAt (scope : Scope) (cl : List (Str × Addr)) (m : Str → Option Value) (h : Heap) (bad : Addr → Prop) (x : Str) (v : AV) : Prop :=
  (scope.names.lookup x = some .local ∧ ∃ y, m x = some y ∧ RV h bad v y) ∨ (scope.names.lookup x = some .cell ∧ ∃ a o y, cl.lookup x = some a ∧ h.get? a = some o ∧ o.data = .cell (some y) ∧ RV h bad v y)
/-- its own places -/
noncomputable def Zc (scope : Scope) (cl : List (Str × Addr)) (K a : Addr) : Prop := a = K ∨ ∃ x, scope.names.lookup x = some .cell ∧ cl.lookup x = some a
theorem OwnAt.move {scope : Scope} {cl : List (Str × Addr)} {m : Str → Option Value} {K : Addr} {h h' : Heap} {bad bad' : Addr → Prop} {x : Str} {v : AV} (T : ∀ a o, ¬ bad a → h.get? a = some o → ¬ bad' a ∧ h'.get? a = some o) (U : ∀ a o, Zc scope cl K a → h.get? a = some o → h'.get? a = some o)
    (V : OwnAt scope cl m h bad x v) : OwnAt scope cl m h' bad' x v :=
  V.imp (fun ⟨k, y, hy, r⟩ => ⟨k, y, hy, r.move T⟩) fun ⟨k, a, o, y, ha, ho, hd, r⟩ => ⟨k, a, o, y, ha, U a o (.inr ⟨x, k, ha⟩) ho, hd, r.move T⟩
/-- the place of a comprehension's element: its own names beside those around -/
noncomputable def Pf.el (F : Pf) (ob : Addr → Prop) (scope : Scope) (cl : List (Str × Addr)) (K : Addr) (own : Loc) : Px where
  c := F.c
  env := compEnvC scope cl K F.env
  bad := fun a => ob a ∨ F.ch a
  inv := fun s => F.I ob s.heap ∧ (∀ a, Zc scope cl K a → ob a) ∧ ∃ m, s.heap.Ns K m ∧ ∀ x v, own.lookup x = some v → OwnAt scope cl m s.heap (fun a => ob a ∨ F.ch a) x v
  fr := fun _ I => ⟨F.ok I.1, F.fr I.1⟩
  ok := fun s h tk I e => ⟨F.ext I.1 e, I.2.1, let ⟨m, hn, V⟩ := I.2.2; ⟨m, hn.at' fun o x => e _ o x, fun x v hx => (V x v hx).move (K := K) (fun a o hb ho => ⟨hb, e a o ho⟩) fun a o _ ho => e a o ho⟩⟩
  low := fun _ _ I hb => F.lives I.1 hb
/-- a comprehension's element as a place that a comprehension may stand at -/
noncomputable def Pf.cmp (F : Pf) (scope : Scope) (cl : List (Str × Addr)) (K : Addr) (own : Loc) : Pf where
  c := F.c
  env := compEnvC scope cl K F.env
  ch := fun a => F.ch a ∨ Zc scope cl K a
  nc := fun a => F.nc a ∧ ¬ Zc scope cl K a
  rs := fun a => F.rs a ∧ ¬ Zc scope cl K a
  I := fun ob h => F.I (fun a => ob a ∨ Zc scope cl K a) h ∧ (∀ a, ob a → ¬ Zc scope cl K a) ∧ ∃ m, h.Ns K m ∧ ∀ x v, own.lookup x = some v → OwnAt scope cl m h (fun a => ob a ∨ (F.ch a ∨ Zc scope cl K a)) x v
  ok := fun I => F.ok I.1
  fr := fun I => F.fr I.1
  ext := fun I e => ⟨F.ext I.1 e, I.2.1, let ⟨m, hn, V⟩ := I.2.2; ⟨m, hn.at' fun o x => e _ o x, fun x v hx => (V x v hx).move (K := K) (fun a o hb ho => ⟨hb, e a o ho⟩) fun a o _ ho => e a o ho⟩⟩
  rb := fun I a ha => (F.rb I.1 a ha.1).resolve_right ha.2
  obs := fun I ha => ⟨F.obs I.1 (.inl ha), I.2.1 _ ha⟩
  nc_of := fun h => ⟨F.nc_of fun q => h (.inl q), fun q => h (.inr q)⟩
  lives := fun I hb => F.lives I.1 (hb.elim (fun q => .inl (.inl q)) fun q => q.elim .inr fun q => .inl (.inr q))
  turn := fun {ob ob' h h'} I h1 h2 h3 h4 h5 => by
    refine ⟨F.turn I.1 (fun a ha => ?_) (fun a ha => ?_) (fun a o hc ho => h3 a o (.inl hc) ho) h4 fun a o hb ho => ?_, fun a ha => (h2 a ha).1.2, ?_⟩
    · by_cases q : Zc scope cl K a
      · exact .inr q
      · exact .inl (h1 a ⟨ha, q⟩)
    · rcases ha with ha | ha
      · exact ⟨(h2 a ha).1.1, (h2 a ha).2⟩
      · exact ⟨F.obs I.1 (.inr ha), let ⟨o, ho⟩ := F.lives I.1 (.inl (.inr ha)); ⟨o, h3 a o (.inr ha) ho⟩⟩
    · obtain ⟨p, q⟩ := h5 a o (fun q => hb (q.elim (fun q => .inl (.inl q)) fun q => q.elim .inr fun q => .inl (.inr q))) ho
      exact ⟨fun r => r.elim p fun r => hb (.inl (.inr r)), q⟩
    · obtain ⟨m, hn, V⟩ := I.2.2
      exact ⟨m, hn.at' fun o x => h3 _ o (.inr (.inl rfl)) x, fun x v hx => (V x v hx).move (K := K) (fun a o hb ho => let ⟨p, q⟩ := h5 a o hb ho; ⟨fun r => r.elim p fun r => hb (.inr r), q⟩) fun a o hz ho => h3 a o (.inr hz) ho⟩
section
variable {F : Pf} {ob : Addr → Prop} {scope : Scope} {cl : List (Str × Addr)} {K : Addr} {own : Loc} {e : Expr} {v : AV}
theorem or_part {p : Addr → Prop} {z : Addr → Prop} (h : ∀ a, z a → p a) : (fun a => (p a ∧ ¬ z a) ∨ z a) = p := funext fun a => propext ⟨fun q => q.elim (fun q => q.1) (h a), fun q => (Classical.em (z a)).elim .inr fun r => .inl ⟨q, r⟩⟩
theorem bad_part {p z c : Addr → Prop} (h : ∀ a, z a → p a) : (fun a => (p a ∧ ¬ z a) ∨ (c a ∨ z a)) = fun a => p a ∨ c a := funext fun a => propext ⟨fun q => q.elim (fun q => .inl q.1) fun q => q.elim .inr fun q => .inl (h a q), fun q => q.elim (fun q => (Classical.em (z a)).elim (fun r => .inr (.inr r)) fun r => .inl ⟨q, r⟩) fun q => .inr (.inl q)⟩
theorem Ev.nest (h : Ev ((F.cmp scope cl K own).px fun a => ob a ∧ ¬ Zc scope cl K a) e v) : Ev (F.el ob scope cl K own) e v := fun s I Q E hQ => by
  obtain ⟨I1, hz, m, hn, V⟩ := I
  refine h s ⟨(or_part hz).symm ▸ I1, fun a ha => ha.2, m, hn, fun x u hx => ?_⟩ Q E fun y h' tk ex r => hQ y h' tk ex (r.move fun a o hb ho => ⟨fun q => hb ?_, ho⟩)
  · show OwnAt _ _ _ _ (fun a => (ob a ∧ ¬ Zc scope cl K a) ∨ (F.ch a ∨ Zc scope cl K a)) _ _
    rw [bad_part hz]; exact V x u hx
  · show (ob a ∧ ¬ Zc scope cl K a) ∨ (F.ch a ∨ Zc scope cl K a)
    exact (congrFun (bad_part (c := F.ch) hz) a).symm ▸ q
theorem Ev.flat (h : ∀ ob', Ev (F.el ob' scope cl K own) e v) : Ev ((F.cmp scope cl K own).px ob) e v := fun s I Q E hQ => by
  obtain ⟨I1, hz, m, hn, V⟩ := I
  have eq : (fun a => ob a ∨ (F.ch a ∨ Zc scope cl K a)) = fun a => (ob a ∨ Zc scope cl K a) ∨ F.ch a := funext fun a => propext ⟨fun q => q.elim (fun q => .inl (.inl q)) fun q => q.elim .inr fun q => .inl (.inr q), fun q => q.elim (fun q => q.elim .inl fun q => .inr (.inr q)) fun q => .inr (.inl q)⟩
  refine h (fun a => ob a ∨ Zc scope cl K a) s ⟨I1, fun a q => .inr q, m, hn, fun x u hx => eq ▸ V x u hx⟩ Q E fun y h' tk ex r => hQ y h' tk ex (r.move fun a o hb ho => ⟨fun q => hb ?_, ho⟩)
  exact Eq.mp (congrFun eq a) q
end
/-- the element of a comprehension in a def's own frame -/
noncomputable abbrev Px.comp (c : Cx) (mu ob : Addr → Prop) (σ : Loc) (scope : Scope) (cl : List (Str × Addr)) (K : Addr) (own : Loc) : Px := (Pf.fn c mu σ).el ob scope cl K own
section
variable {F : Pf} {c : Cx} {mu ob : Addr → Prop} {σ own own2 : Loc} {scope scope2 : Scope} {cl cl2 : List (Str × Addr)} {K K2 : Addr} {x : Str} {pos : Pos} {v : AV}
theorem Ev.nameC (hk : scope.kind = .function) (hl : scope.names.lookup x = some .local) (hx : own.lookup x = some v) (hd : (x == ("__debug__" : Str)) = false := by decide) : Ev (F.el ob scope cl K own) (.Name x pos) v := fun s I Q E hQ => by
  obtain ⟨-, -, m, hn, V⟩ := I
  rcases V x v hx with ⟨-, y, hy, r⟩ | ⟨k, -⟩
  · exact wpAny_Name (wpAny_loadName_local (env := compEnvC scope cl K F.env) hk (lookup_relabel_local hl) hn hy (hQ y s.heap s.toks Ext.rfl' r)) hd
  · rw [hl] at k; cases k
/-- a cell of the comprehension around, read in the inner one -/
theorem Ev.ownC (hk : scope2.kind = .function) (hl : scope.names.lookup x = some .cell) (hx : own.lookup x = some v) (hc : cl2.lookup x = cl.lookup x) (hf : (relabel scope2 (compEnvC scope cl K F.env)).names.lookup x = some .cell) (hd : (x == ("__debug__" : Str)) = false := by decide) :
    Ev ((F.cmp scope cl K own).el ob scope2 cl2 K2 own2) (.Name x pos) v := fun s I Q E hQ => by
  obtain ⟨⟨-, -, m, hn, V⟩, -⟩ := I
  rcases V x v hx with ⟨k, -⟩ | ⟨-, a, o, y, ha, ho, hdt, r⟩
  · rw [hl] at k; cases k
  · exact wpAny_Name (wpAny_loadName_cell (env := compEnvC scope2 cl2 K2 (compEnvC scope cl K F.env)) hk hf (hc.trans ha) ⟨o, ho, hdt⟩ (hQ y s.heap s.toks Ext.rfl' r)) hd
theorem Ev.freeC (hk : scope.kind = .function) (hc : cl.lookup x = c.cl.lookup x) (hx : σ.lookup x = some v) (hkc : c.cs.names.lookup x = some .cell) (hf : (relabel scope c.env).names.lookup x = some .cell) (hd : (x == ("__debug__" : Str)) = false := by decide) (hv : v.still = true := by rfl) : Ev (Px.comp c mu ob σ scope cl K own) (.Name x pos) v := fun s I Q E hQ => by
  obtain ⟨m, F, V⟩ := I.1.fr
  rcases V x v hx with ⟨k, _⟩ | ⟨k, a, o, y, ha, ho, hdt, r⟩
  · rw [hkc] at k; cases k
  · exact wpAny_Name (wpAny_loadName_cell (env := compEnvC scope cl K c.env) hk hf (hc.trans ha) ⟨o, ho, hdt⟩ (hQ y s.heap s.toks Ext.rfl' (r.rv hv))) hd
theorem Ev.globC {u : Value} (hk : scope.kind = .function) (hx : (relabel scope F.env).names.lookup x = some .globalImplicit) (hn : nsIn (hd.heap_39 F.c.w.params) mainGlobals x = some (some u)) (hg : F.env.globals = mainGlobals := by rfl) (hd : (x == ("__debug__" : Str)) = false := by decide) : Ev (F.el ob scope cl K own) (.Name x pos) (.glob u) := fun s I Q E hQ => by
  obtain ⟨m, Fm⟩ := F.fr I.1
  exact LCgL.ld_global Fm (F.ok I.1).X (F.ok I.1).T hn (hQ u s.heap s.toks Ext.rfl' rfl) hg hk hx hd
theorem Ev.builtC {u : Value} (hk : scope.kind = .function) (hx : (relabel scope F.env).names.lookup x = some .globalImplicit) (hn : nsIn (hd.heap_39 F.c.w.params) mainGlobals x = some none) (hu : bootBuiltins x = some u) (hne : x ≠ "__name__") (hg : F.env.globals = mainGlobals := by rfl) (hb : F.env.builtins = 0 := by rfl) (hd : (x == ("__debug__" : Str)) = false := by decide) : Ev (F.el ob scope cl K own) (.Name x pos) (.glob u) := fun s I Q E hQ => by
  obtain ⟨m, Fm⟩ := F.fr I.1
  exact LCgL.ld_built Fm (F.ok I.1).X (F.ok I.1).T hn hu hne (hQ u s.heap s.toks Ext.rfl' rfl) hg hb hk hx hd
end
/-- what a target makes of an item -/
noncomputable def Binds (c : Cx) (env : Env) (scope : Scope) (cl : Addr → List (Str × Addr)) (tg : Expr) (w : AV) (own : Loc) : Prop := ∀ (K : Addr) (s : Shared) (bad : Addr → Prop) (v : Value) (m : Str → Option Value) (Q : Unit → Shared → Prop) (E : Value → Shared → Prop), IV s.heap bad w v → s.heap.Ns K m → (∀ a, Zc scope (cl K) K a → bad a) →
  (∀ a, Zc scope (cl K) K a → a ≠ K → ∃ v, s.heap.IsCell a v) →
  (∀ h tk m₂, (∀ x u, own.lookup x = some u → OwnAt scope (cl K) m₂ h bad x u) → h.Ns K m₂ → (∀ b o, ¬ Zc scope (cl K) K b → s.heap.get? b = some o → h.get? b = some o) → (∀ a, Zc scope (cl K) K a → a ≠ K → ∃ v, h.IsCell a v) → Q () { s with heap := h, toks := tk }) → wpAny (model PG c.w) c.A (assign tg (compEnvC scope (cl K) K env) v) Q E s
section
variable {c : Cx} {env : Env} {scope : Scope} {cl : Addr → List (Str × Addr)} {w u : AV}
theorem Binds.name {x : Str} {px : Pos} (hk : scope.kind = .function) (hx : scope.names.lookup x = some .local) (hw : ∀ h bad v, IV h bad w v → RV h bad w v) : Binds c env scope cl (.Name x px) w [(x, w)] := fun K s bad v m Q E iv hn hb hcl hQ =>
  wpAny_assign_Name (wpAny_storeName_local (lookup_relabel_local hx) hn (fun h₃ hn₃ hs₃ => hQ h₃ _ _ (fun z u hz => by
    rw [List.lookup_cons] at hz
    cases q : z == x with
    | true =>
      rw [q] at hz; cases hz
      rw [eq_of_beq q]
      exact .inl ⟨hx, v, by simp, (hw _ _ _ iv).move fun a o hb' ho => ⟨hb', (hs₃.2 a fun e => hb' (e ▸ hb _ (.inl rfl))).trans ho⟩⟩
    | false => rw [q] at hz; cases hz) hn₃ (fun b o hb e => hs₃.extBut b o (fun q => hb (.inl q)) e) fun a ha hne => let ⟨v, o, e⟩ := hcl a ha hne; ⟨v, o, (hs₃.2 a hne).trans e.1, e.2⟩) (by simp [compEnvC, relabel, hk]))
theorem Binds.pair {a b : Str} {pa pb tp : Pos} {kk : Nat} (hk : scope.kind = .function) (ha : scope.names.lookup a = some .local) (hb : scope.names.lookup b = some .local) (hab : ¬ a = b) : Binds c env scope cl (.Tuple [.Name a pa, .Name b pb] kk tp) (.tup [w, u]) [(a, w), (b, u)] := fun K s bad v m Q E iv hn hbK hcl hQ => by
  obtain ⟨T, xs, rfl, hT, y1, _, rfl, r1, y2, _, rfl, r2, rfl⟩ := iv
  refine kcp_assign (env := compEnvC scope (cl K) K env) rfl hT (lookup_relabel_local ha) (lookup_relabel_local hb) (by simp [compEnvC, relabel, hk]) hn fun h' tk hn' hk' => ?_
  have mv : ∀ a o, ¬ bad a → s.heap.get? a = some o → ¬ bad a ∧ h'.get? a = some o := fun a o hb' ho => ⟨hb', hk' a o (fun e => hb' (e ▸ hbK _ (.inl rfl))) ho⟩
  refine hQ h' tk _ (fun z q hz => ?_) hn' (fun b o hb e => hk' b o (fun q => hb (.inl q)) e) fun a ha hne => let ⟨v, o, e⟩ := hcl a ha hne; ⟨v, o, hk' a o hne e.1, e.2⟩
  rw [List.lookup_cons] at hz
  cases q1 : z == a with
  | true =>
    rw [q1] at hz; cases hz
    rw [eq_of_beq q1]
    exact .inl ⟨ha, y1, by simp [hab], r1.move mv⟩
  | false =>
    rw [q1, List.lookup_cons] at hz
    cases q2 : z == b with
    | true =>
      rw [q2] at hz; cases hz
      rw [eq_of_beq q2]
      exact .inl ⟨hb, y2, by simp, r2.move mv⟩
    | false => rw [q2] at hz; cases hz
/-- a target that is a cell -/
theorem Binds.cell {x : Str} {px : Pos} {K0 : List (Str × Addr)} (hk : scope.kind = .function) (hx : scope.names.lookup x = some .cell) (hf : (relabel scope env).names.lookup x = some .cell) (hw : ∀ h bad v, IV h bad w v → RV h bad w v) : Binds c env scope (fun K => (x, K + 1) :: K0) (.Name x px) w [(x, w)] := fun K s bad v m Q E iv hn hb hcl hQ => by
  have hz : Zc scope ((x, K + 1) :: K0) K (K + 1) := .inr ⟨x, hx, by rw [List.lookup_cons]; simp⟩
  have hne : K + 1 ≠ K := Nat.succ_ne_self K
  obtain ⟨v₀, o, ho, hd⟩ := hcl _ hz hne
  refine wpAny_assign_Name (wpAny_storeName_cell (env := compEnvC scope ((x, K + 1) :: K0) K env) hk hf (by show List.lookup x ((x, K + 1) :: K0) = _; rw [List.lookup_cons]; simp) ⟨o, ho, hd⟩ fun h' hc hs => ?_)
  refine hQ h' s.toks m (fun z u hz' => ?_) (hn.at' fun o e => (hs.2 _ (Ne.symm hne)).trans e) (fun b o hb e => hs.extBut b o (fun q => hb (q ▸ hz)) e) fun a ha hne' => ?_
  · rw [List.lookup_cons] at hz'
    cases q : z == x with
    | true =>
      rw [q] at hz'; cases hz'
      rw [eq_of_beq q]
      obtain ⟨o', h1, h2⟩ := hc
      exact .inr ⟨hx, K + 1, o', v, by rw [List.lookup_cons]; simp, h1, h2, (hw _ _ _ iv).move fun a o hb' ho => ⟨hb', (hs.2 a fun e => hb' (e ▸ hb _ hz)).trans ho⟩⟩
    | false => rw [q] at hz'; cases hz'
  · by_cases q : a = K + 1
    · exact ⟨_, q ▸ hc⟩
    · obtain ⟨v, o, e⟩ := hcl a ha hne'
      exact ⟨v, o, (hs.2 a q).trans e.1, e.2⟩
end
theorem take_some {α : Type} {l : List (Option α)} {i : Nat} {o : Option α} (h : l[i]? = some o) : (l.take (i + 1)).filterMap id = (l.take i).filterMap id ++ o.toList := by
  rw [List.take_add_one, h, List.filterMap_append]
  cases o <;> rfl
/-- an element, its test ahead -/
noncomputable def EvE (P : Px) (ct : Option Expr) (elt : Expr) (o : Option AV) : Prop := match ct with
  | none => ∃ v, o = some v ∧ Ev P elt v
  | some t => ∃ b, EvT P t b ∧ (b = false → o = none) ∧ (b = true → ∃ v, o = some v ∧ Ev P elt v)
section
variable {prog : Program} {w : World} {A : Around} {E : Value → Shared → Prop} {s : Shared} {h₀ : Heap} {L : Addr} {m : Str → Option Value} {env : Env}
/-- the loop of a list comprehension, any target, tests as they stand -/
theorem mc_loop {elt target iter : Expr} {ct : Option Expr} {scope : Scope} {pos : Pos} {it acc : Value} {cenv : Env} {R : Result → Shared → Prop} (I : Nat → Shared → Prop)
    (turn : ∀ n s, I n s → wpAny (model prog w) A (pyNext it) (fun r s₁ => match r with
      | none => R (.ok .next) s₁
      | some v => wpAny (model prog w) A (letOwnedTupleGo target it v) (fun _ s₀ => wpAny (model prog w) A (assign target cenv v) (fun _ s₂ =>
          wpAny (model prog w) A (forIn ct.toList true fun c r => if r = true then do let ok ← isTrue c cenv (eval c cenv); pure (ForInStep.yield ok) else pure (ForInStep.yield r)) (fun ok s₃ =>
            if ok = true then wpAny (model prog w) A (eval elt cenv) (fun x s₄ =>
              wpAny (model prog w) A (call (.builtin "list.append") [acc, x]) (fun _ s₅ => ∃ m, m < n ∧ I m s₅) (notedBy (model prog w) A cenv fun e s' => R (.error e) s') s₄) (notedBy (model prog w) A cenv fun e s' => R (.error e) s') s₃
            else ∃ m, m < n ∧ I m s₃) (notedBy (model prog w) A cenv fun e s' => R (.error e) s') s₂)
          (notedBy (model prog w) A cenv fun e s' => R (.error e) s') s₀) (notedBy (model prog w) A cenv fun e s' => R (.error e) s') s₁) (notedBy (model prog w) A cenv fun e s' => R (.error e) s') s)
    (n : Nat) (h : I n s) : codeAny (model prog w) A (.compLoop (.ListComp elt [⟨target, iter, ct.toList, 0⟩] scope pos) 0 it acc cenv) R s := by
  refine codeAny_loop rfl I (fun n s hI => ?_) n h
  show wpAny _ A ((compTurn (.ListComp elt [⟨target, iter, ct.toList, 0⟩] scope pos) 0 it acc cenv).onRaise (fun x => do noteFrame x cenv; theTreesLotGoes x)) _ _ s
  refine wpAny_noted ?_
  rw [compTurn_list]
  refine wpAny_bind (wpAny_standAt (wpAny_bind (wpAny_mono (turn n s hI) (fun r s₁ h₁ => ?_) fun _ _ h' => h')))
  cases r with
  | none => exact wpAny_pure h₁
  | some v =>
    refine wpAny_bind (wpAny_mono h₁ (fun _ s₀ h₀' => ?_) fun _ _ h' => h')
    refine wpAny_bind (wpAny_mono h₀' (fun _ s₂ h₂ => wpAny_bind (wpAny_mono h₂ (fun ok s₃ h₃ => ?_) fun _ _ h' => h')) fun _ _ h' => h')
    cases ok with
    | false => exact wpAny_pure ⟨rfl, by simpa using h₃⟩
    | true =>
      simp only [if_true] at h₃
      exact wpAny_bind (wpAny_bind (wpAny_mono h₃ (fun x s₄ h₄ => wpAny_bind (wpAny_mono h₄ (fun _ s₅ h₅ => wpAny_pure (wpAny_pure ⟨rfl, h₅⟩)) fun _ _ h' => h')) fun _ _ h' => h'))

end
section
variable {F : Pf} {ob ob' : Addr → Prop}
theorem Pf.off {Y : Addr → Prop} {h h' : Heap} (I : F.I ob h) (hY : ∀ a, Y a → ob a ∧ ¬ F.ch a ∧ F.c.g.get? a = none) (k : ∀ a o, ¬ Y a → h.get? a = some o → h'.get? a = some o) (live : ∀ a, Y a → ∃ o, h'.get? a = some o) : F.I ob h' :=
  F.turn I (F.rb I) (fun a ha => ⟨F.obs I ha, (Classical.em (Y a)).elim (live a) fun q => let ⟨o, ho⟩ := F.lives I (.inl ha); ⟨o, k a o q ho⟩⟩) (fun a o hc ho => k a o (fun q => (hY a q).2.1 hc) ho)
    (fun a o hg => let ⟨_, Fm⟩ := F.fr I; k a o (fun q => by rw [(hY a q).2.2] at hg; cases hg) (Fm.keep _ _ hg)) fun a o hb ho => ⟨fun q => hb (.inl q), k a o (fun q => hb (.inl (hY a q).1)) ho⟩
theorem Pf.fresh {h : Heap} {b : Addr} (I : F.I ob h) (hn : h.get? b = none) : ¬ (ob b ∨ F.ch b) ∧ ¬ F.ch b ∧ F.c.g.get? b = none :=
  ⟨fun q => let ⟨o, e⟩ := F.lives I q; (by rw [hn] at e; cases e), fun q => let ⟨o, e⟩ := F.lives I (.inr q); (by rw [hn] at e; cases e), none_of_ext (h' := h) (let ⟨_, Fm⟩ := F.fr I; fun b o e => Fm.keep b o e) hn⟩
/-- how a comprehension's own frame comes to be -/
noncomputable def NewEnv (F : Pf) (scope : Scope) (cl : List (Str × Addr)) (cl' : Addr → List (Str × Addr)) : Prop :=
  (∀ K a, Zc scope (cl' K) K a → @LE.le Nat _ K a) ∧ ∀ (s : Shared) (Q : Env → Shared → Prop) (E : Value → Shared → Prop), (∀ h₁, h₁.Ns s.heap.objs.size (fun _ => none) → Ext s.heap h₁ → (∀ a, Zc scope (cl' s.heap.objs.size) s.heap.objs.size a → ∃ o, h₁.get? a = some o) →
    (∀ a, Zc scope (cl' s.heap.objs.size) s.heap.objs.size a → a ≠ s.heap.objs.size → ∃ v, h₁.IsCell a v) → Q { compEnvC scope (cl' s.heap.objs.size) s.heap.objs.size F.env with scope := scope } { s with heap := h₁ }) →
    wpAny (model PG F.c.w) F.c.A (newFunctionEnv scope F.env.globals cl [] F.env.qual none .none (some F.env)) Q E s
theorem lookup_mem {β : Type} {x : Str} {a : β} : ∀ {l : List (Str × β)}, l.lookup x = some a → (x, a) ∈ l
  | (n, v) :: r, h => by
    rw [List.lookup_cons] at h
    cases q : x == n with
    | true => rw [q] at h; cases h; rw [eq_of_beq q]; exact .head _
    | false => rw [q] at h; exact .tail _ (lookup_mem h)
theorem lookup_none_cell {scope : Scope} {x : Str} (hcell : ∀ y ∈ scope.names, y.2 ≠ .cell) : scope.names.lookup x ≠ some .cell := fun e => hcell _ (lookup_mem e) rfl
theorem NewEnv.plain {scope : Scope} {cl : List (Str × Addr)} (hcell : ∀ y ∈ scope.names, y.2 ≠ .cell) (hkind : scope.kind = .function) : NewEnv F scope cl fun _ => cl := by
  have one : ∀ K a, Zc scope cl K a → a = K := fun K a h => h.elim id fun ⟨x, hx, _⟩ => absurd hx (lookup_none_cell hcell)
  refine ⟨fun K a h => (one K a h) ▸ Nat.le_refl _, fun s Q E hQ => wpAny_newFunctionEnv hcell (by intro y hy; simp at hy) (fun h₁ hns₁ hsb₁ => ?_) hkind⟩
  exact hQ h₁ hns₁ (fun b o e => hsb₁.extBut b o (Nat.ne_of_lt (Heap.lt_size e)) (Heap.get?_push_of_some _ e)) (fun a ha => one _ a ha ▸ (let ⟨o, _, _, e, _⟩ := hns₁; ⟨o, e⟩)) fun a ha hne => absurd (one _ a ha) hne
theorem NewEnv.cell {scope : Scope} {cl : List (Str × Addr)} {x : Str} (hcf : ∀ n, cellsFrom n scope.names cl = (x, n) :: cl) (hpc : ∀ h, pushCells h scope.names = h.push { cls := .type "cell", data := .cell none }) (hone : ∀ y, scope.names.lookup y = some .cell → y = x) : NewEnv F scope cl fun K => (x, K + 1) :: cl := by
  have one : ∀ K a, Zc scope ((x, K + 1) :: cl) K a → a = K ∨ a = K + 1 := fun K a h => h.imp_right fun ⟨y, hy, e⟩ => by
    rw [hone y hy, List.lookup_cons] at e; simpa using e.symm
  refine ⟨fun K a h => (one K a h).elim (fun e => e ▸ Nat.le_refl _) fun e => e ▸ Nat.le_succ _, fun s Q E hQ => ?_⟩
  simp only [newFunctionEnv, Option.isSome_some, if_true]
  refine wpAny_bind (wpAny_alloc ?_)
  refine wpAny_bind (wpAny_layCells _ (fun name kind cells => by cases kind == NameKind.cell <;> simp) _ _ _ _ ?_)
  rw [hcf, hpc]
  rw [show ({ s with heap := s.heap.push { cls := .type "dict", data := .dict #[] } } : Shared).heap.objs.size = s.heap.objs.size + 1 from Heap.size_push ..]
  refine wpAny_bind ?_
  rw [List.forIn_nil]
  have hns := Heap.Ns.new s.heap (.type "dict")
  have hc : ((s.heap.push { cls := .type "dict", data := .dict #[] }).push { cls := .type "cell", data := .cell none }).get? (s.heap.objs.size + 1) = some { cls := .type "cell", data := .cell none } := by
    rw [← show (s.heap.push { cls := .type "dict", data := .dict #[] }).objs.size = s.heap.objs.size + 1 from Heap.size_push ..]
    exact Heap.get?_push_size _ rfl
  have hns' := Heap.Ns.keeps hns (h' := (s.heap.push { cls := .type "dict", data := .dict #[] }).push { cls := .type "cell", data := .cell none }) fun _ _ e => Heap.get?_push_of_some _ e
  refine wpAny_pure (wpAny_pure (hQ _ hns' (fun b o e => Heap.get?_push_of_some _ (Heap.get?_push_of_some _ e)) (fun a ha => ?_) fun a ha hne => ?_))
  · rcases one _ a ha with rfl | rfl
    · obtain ⟨o, _, _, e, _⟩ := hns'; exact ⟨o, e⟩
    · exact ⟨_, hc⟩
  · rcases one _ a ha with rfl | rfl
    · exact absurd rfl hne
    · exact ⟨none, _, hc, rfl⟩
theorem comp_block {tg iter elt : Expr} {ct : Option Expr} {scope : Scope} {cl : List (Str × Addr)} {cl' : Addr → List (Str × Addr)} {pos : Pos} {ws : List AV} {os : List (Option AV)} {s : Shared} {I : Addr} {fp wr : List Addr} {Pi Md : Nat → Value → Heap → Prop} {St : Nat → Heap → Prop} {E : Value → Shared → Prop} {RR : Value → Addr → Result → Shared → Prop}
    (hne : NewEnv F scope cl cl') (I1 : F.I (fun a => ob a ∨ a ∈ wr) s.heap) (hnew : ∀ b ∈ wr, ¬ F.ch b ∧ F.c.g.get? b = none) (hwo : ∀ b ∈ wr, ¬ ob b) (hrb : ∀ a, F.rs a → ob a) (W : KTurns PG F.c.w F.c.A tg I fp wr ws.length Pi Md St) (st0 : St 0 s.heap)
    (hself : ∀ (s : Shared) (Q : Value → Shared → Prop) (E : Value → Shared → Prop), St 0 s.heap → Q (.ref I) s → wpAny (model PG F.c.w) F.c.A (pyIter (.ref I)) Q E s) (hfp : ∀ b ∈ fp, ∃ o, s.heap.get? b = some o) (hlive : ∀ i h', St i h' → ∀ b ∈ wr, ∃ o, h'.get? b = some o)
    (hP : ∀ X : Addr → Prop, (∀ a, X a → s.heap.get? a = none) → ∀ i v h', i < ws.length → (∀ a o, a ∉ wr → ¬ (ob a ∨ F.ch a) → s.heap.get? a = some o → h'.get? a = some o) → Pi i v h' → ∃ w, ws[i]? = some w ∧ IV h' (fun a => ((ob a ∨ F.ch a) ∨ a ∈ wr) ∨ X a) w v)
    (hz : ws.length ≤ 1000) (hlen : os.length = ws.length) (he : ∀ (K : Addr) (ob' : Addr → Prop) (i : Nat) (w : AV) (o : Option AV), ws[i]? = some w → os[i]? = some o → ∃ own, Binds F.c F.env scope cl' tg w own ∧ EvE (F.el ob' scope (cl' K) K own) ct elt o)
    (hRR : ∀ (D K : Addr) (Z : Addr → Prop) h tk m ys, (∀ a o, a ∉ wr → s.heap.get? a = some o → h.get? a = some o) → s.heap.get? D = none → (∀ a, Z a → s.heap.get? a = none ∧ a ≠ D) → Z K → h.get? D = some (lst ys) → h.Ns K m → RVs h (fun a => ((ob a ∨ a = D) ∨ Z a) ∨ F.ch a) (os.filterMap id) ys →
      F.I (fun a => (ob a ∨ a = D) ∨ Z a) h → RR (.ref D) K (.ok .next) { s with heap := h, toks := tk }) :
    wpAny (model PG F.c.w) F.c.A (newList []) (fun acc s₃ => wpAny (model PG F.c.w) F.c.A (newFunctionEnv scope F.env.globals cl [] F.env.qual none .none (some F.env)) (fun cenv s₄ =>
      codeAny (model PG F.c.w) F.c.A (.compStart (.ListComp elt [⟨tg, iter, ct.toList, 0⟩] scope pos) 0 (.ref I) acc { cenv with scope := relabel scope F.env }) (RR acc cenv.locals) s₄) E s₃) E s := by
  refine wpAny_newObj_type (hne.2 _ _ _ fun h₁ hns₁ hex₁ hlv₁ hcl₁ => ?_)
  dsimp only at hns₁ hex₁ hlv₁ hcl₁ ⊢
  generalize hH2 : s.heap.push { cls := .type "list", dict := none, data := .seq ([] : List Value).toArray } = H2 at hns₁ hex₁ hlv₁ hcl₁ ⊢
  have hC : H2.objs.size = s.heap.objs.size + 1 := by rw [← hH2, Heap.size_push]
  obtain ⟨D, hD⟩ : ∃ D, s.heap.objs.size = D := ⟨_, rfl⟩
  obtain ⟨K, hK⟩ : ∃ K, H2.objs.size = K := ⟨_, rfl⟩
  obtain ⟨Z, hZ⟩ : ∃ Z : Addr → Prop, Zc scope (cl' K) K = Z := ⟨_, rfl⟩
  rw [hK] at hns₁ hlv₁ hcl₁ ⊢
  have hZK : Z K := hZ ▸ .inl rfl
  have hZD : ∀ a, Z a → @LT.lt Nat _ D a := fun a ha => Nat.lt_of_lt_of_le (by rw [← hK, ← hD, hC]; exact Nat.lt_succ_self _) (hne.1 K a (hZ ▸ ha))
  have below : ∀ b o, s.heap.get? b = some o → ¬ Z b ∧ b ≠ D := fun b o e => by
    have := Heap.lt_size e
    rw [hD] at this
    exact ⟨fun q => Nat.lt_asymm this (hZD b q), Nat.ne_of_lt this⟩
  have hD0 : s.heap.get? D = none := hD ▸ heap_end _
  have hZ0 : ∀ a, Z a → s.heap.get? a = none ∧ a ≠ D := fun a ha => by
    refine ⟨?_, Ne.symm (Nat.ne_of_lt (hZD a ha))⟩
    cases q : s.heap.get? a with
    | none => rfl
    | some o => exact absurd ha (below a o q).1
  have old : Ext s.heap h₁ := fun b o e => hex₁ b o (hH2 ▸ Heap.get?_push_of_some _ e)
  have hacc : h₁.get? D = some (lst []) := hex₁ _ _ (hH2 ▸ hD ▸ Heap.get?_push_size _ rfl)
  rw [hD]
  have gnone : ∀ b, s.heap.get? b = none → ¬ F.ch b ∧ F.c.g.get? b = none := fun b hb => (Pf.fresh I1 hb).2
  have hDn : ∀ a, (a = D ∨ Z a) → s.heap.get? a = none := fun a ha => ha.elim (fun q => q ▸ hD0) fun q => (hZ0 a q).1
  have I2 : F.I (fun a => (ob a ∨ a ∈ wr) ∨ a = D ∨ Z a) h₁ := F.turn I1 (fun a ha => .inl (F.rb I1 a ha))
    (fun a ha => ha.elim (fun ha => ⟨F.obs I1 ha, let ⟨o, ho⟩ := F.lives I1 (.inl ha); ⟨o, old _ _ ho⟩⟩) fun ha => ⟨F.nc_of (gnone a (hDn a ha)).1, ha.elim (fun q => ⟨_, q ▸ hacc⟩) fun q => hlv₁ a (hZ ▸ q)⟩)
    (fun a o _ ho => old _ _ ho) (fun a o hg => let ⟨_, Fm⟩ := F.fr I1; old _ _ (Fm.keep _ _ hg)) fun a o hb ho => ⟨fun q => q.elim (fun q => hb (.inl q)) fun q => q.elim (fun q => (below a o ho).2 q) fun q => (below a o ho).1 q, old _ _ ho⟩
  have loop : ∀ s₃ : Shared, s₃ = { s with heap := h₁ } →
      codeAny (model PG F.c.w) F.c.A (.compLoop (.ListComp elt [⟨tg, iter, ct.toList, 0⟩] scope pos) 0 (.ref I) (.ref D) (compEnvC scope (cl' K) K F.env)) (RR (.ref D) K) s₃ := by
    rintro s₃ rfl
    refine mc_loop (fun k s' => ∃ h' tk i ys m', s' = { s with heap := h', toks := tk } ∧ i ≤ ws.length ∧ k = ws.length + 1 - i ∧ ys.length ≤ i ∧ St i h' ∧ F.I (fun a => (ob a ∨ a ∈ wr) ∨ a = D ∨ Z a) h' ∧ h'.Ns K m' ∧ (∀ a, Z a → a ≠ K → ∃ v, h'.IsCell a v) ∧ h'.get? D = some (lst ys) ∧
      RVs h' (fun a => ((ob a ∨ a ∈ wr) ∨ a = D ∨ Z a) ∨ F.ch a) ((os.take i).filterMap id) ys ∧ (∀ a o, a ∉ wr → s.heap.get? a = some o → h'.get? a = some o)) ?_ (ws.length + 1) ⟨h₁, _, 0, [], _, rfl, Nat.zero_le _, rfl, Nat.le_refl _, W.frame _ _ _ st0 fun b _ o e => old b o e, I2, hns₁, fun a ha => hcl₁ a (hZ ▸ ha), hacc, rfl, fun a o _ ho => old _ _ ho⟩
    rintro k s' ⟨h', tk, i, ys, m', rfl, hi, rfl, hyl, st, I', hn, hcl', hacc', rs, kh⟩
    have hwl : ∀ b ∈ wr, ¬ Z b ∧ b ≠ D := fun b hb => let ⟨o, ho⟩ := hlive 0 _ st0 b hb; below b o ho
    have hKw : K ∉ wr := fun hm => (hwl K hm).1 hZK
    have hDw : D ∉ wr := fun hm => (hwl D hm).2 rfl
    by_cases hlt : i < ws.length
    · refine W.item i _ _ _ hlt st fun v h2 tk2 hMd k2 => ?_
      refine W.go i v _ _ _ hMd fun h3 hPi st3 k3' => ?_
      have k3 : ∀ b o, b ∉ wr → h'.get? b = some o → h3.get? b = some o := fun b o hb x => k3' b o hb (k2 b o hb x)
      have I3 := Pf.off (Y := fun a => a ∈ wr) I' (fun a ha => ⟨.inl (.inr ha), hnew a ha⟩) k3 fun a ha => hlive _ _ st3 a ha
      obtain ⟨w, hw, iv⟩ := hP (fun a => a = D ∨ Z a) hDn i v h3 hlt (fun a o hn' hb ho => k3 a o hn' (kh a o hn' ho)) hPi
      obtain ⟨o, ho⟩ : ∃ o, os[i]? = some o := ⟨_, List.getElem?_eq_getElem (hlen ▸ hlt)⟩
      obtain ⟨own, hbind, hel⟩ := he K (fun a => (ob a ∨ a ∈ wr) ∨ a = D ∨ Z a) i w o hw ho
      have hzb : ∀ a, Zc scope (cl' K) K a → (ob a ∨ a ∈ wr) ∨ a = D ∨ Z a := fun a ha => .inr (.inr (hZ ▸ ha))
      refine hbind K _ (fun a => ((ob a ∨ a ∈ wr) ∨ a = D ∨ Z a) ∨ F.ch a) v m' _ _ (iv.move fun a ha => ha.elim (fun q => q.elim (fun q => .inl (q.elim (fun q => .inl (.inl q)) .inr)) .inr) fun q => .inl (.inl (.inr q))) (hn.at' fun o e => k3 _ o hKw e) (fun a ha => .inl (hzb a ha)) (fun a ha hne' => ?_) fun h4 tk4 m2 hown hn4 k4 hcl4 => ?_
      · obtain ⟨v, o, e⟩ := hcl' a (hZ ▸ ha) hne'
        exact ⟨v, o, k3 a o (fun q => (hwl a q).1 (hZ ▸ ha)) e.1, e.2⟩
      rw [hZ] at k4 hcl4
      have live4 : ∀ a, Z a → ∃ o, h4.get? a = some o := fun a ha => (Classical.em (a = K)).elim (fun q => q ▸ (let ⟨o, _, _, e, _⟩ := hn4; ⟨o, e⟩)) fun q => let ⟨_, o, e⟩ := hcl4 a ha q; ⟨o, e.1⟩
      have I4 := Pf.off (Y := Z) I3 (fun a ha => ⟨.inr (.inr ha), gnone a (hZ0 a ha).1⟩) k4 live4
      have hacc4 : h4.get? D = some (lst ys) := k4 _ _ (fun q => (hZ0 D q).2 rfl) (k3 _ _ hDw hacc')
      have rs4 : RVs h4 (fun a => ((ob a ∨ a ∈ wr) ∨ a = D ∨ Z a) ∨ F.ch a) ((os.take i).filterMap id) ys := rs.move fun a o hb ho => ⟨hb, k4 a o (fun q => hb (.inl (.inr (.inr q)))) (k3 a o (fun q => hb (.inl (.inl (.inr q)))) ho)⟩
      have st4 : St (i + 1) h4 := W.frame _ _ _ st3 fun b hb o e => k4 b o (fun q => by obtain ⟨o', e'⟩ := hfp b hb; exact (below b o' e').1 q) e
      have kh4 : ∀ a o, a ∉ wr → s.heap.get? a = some o → h4.get? a = some o := fun a o hn' ho => k4 a o (below a o ho).1 (k3 a o hn' (kh a o hn' ho))
      have inv4 : ∀ h5, Ext h4 h5 → (F.el (fun a => (ob a ∨ a ∈ wr) ∨ a = D ∨ Z a) scope (cl' K) K own).inv { s with heap := h5, toks := 0 } := fun h5 e5 => Px.ok _ { s with heap := h4, toks := 0 } h5 0 ⟨I4, hzb, m2, hn4, hown⟩ e5
      have cl5 : ∀ h5 : Heap, (∀ a o, a ≠ D → h4.get? a = some o → h5.get? a = some o) → ∀ a, Z a → a ≠ K → ∃ v, h5.IsCell a v := fun h5 e5 a ha hne' => let ⟨v, o, e⟩ := hcl4 a ha hne'; ⟨v, o, e5 a o (hZ0 a ha).2 e.1, e.2⟩
      -- no element
      have skip : ∀ h5 tk5, Ext h4 h5 → o = none → ∃ k', k' < ws.length + 1 - i ∧ ∃ h' tk i ys m', ({ s with heap := h5, toks := tk5 } : Shared) = { s with heap := h', toks := tk } ∧ i ≤ ws.length ∧ k' = ws.length + 1 - i ∧ ys.length ≤ i ∧ St i h' ∧ F.I (fun a => (ob a ∨ a ∈ wr) ∨ a = D ∨ Z a) h' ∧ h'.Ns K m' ∧ (∀ a, Z a → a ≠ K → ∃ v, h'.IsCell a v) ∧ h'.get? D = some (lst ys) ∧
          RVs h' (fun a => ((ob a ∨ a ∈ wr) ∨ a = D ∨ Z a) ∨ F.ch a) ((os.take i).filterMap id) ys ∧ (∀ a o, a ∉ wr → s.heap.get? a = some o → h'.get? a = some o) := fun h5 tk5 e5 hnone => by
        subst hnone
        exact ⟨ws.length + 1 - (i + 1), by omega, h5, tk5, i + 1, ys, m2, rfl, hlt, rfl, Nat.le_succ_of_le hyl, W.frame _ _ _ st4 fun b _ o e => e5 b o e, F.ext I4 e5, hn4.at' fun o e => e5 _ o e, cl5 h5 fun a o _ ho => e5 a o ho, e5 _ _ hacc4, by rw [take_some ho]; simpa using rs4.ext e5, fun a o hn' ho => e5 _ _ (kh4 a o hn' ho)⟩
      -- an element
      have put : ∀ u, o = some u → Ev (F.el (fun a => (ob a ∨ a ∈ wr) ∨ a = D ∨ Z a) scope (cl' K) K own) elt u → ∀ h5 tk5 (E' : Value → Shared → Prop), Ext h4 h5 → wpAny (model PG F.c.w) F.c.A (eval elt (compEnvC scope (cl' K) K F.env)) (fun x s₄ => wpAny (model PG F.c.w) F.c.A (call (.builtin "list.append") [.ref D, x])
          (fun _ s₅ => ∃ k', k' < ws.length + 1 - i ∧ ∃ h' tk i ys m', s₅ = { s with heap := h', toks := tk } ∧ i ≤ ws.length ∧ k' = ws.length + 1 - i ∧ ys.length ≤ i ∧ St i h' ∧ F.I (fun a => (ob a ∨ a ∈ wr) ∨ a = D ∨ Z a) h' ∧ h'.Ns K m' ∧ (∀ a, Z a → a ≠ K → ∃ v, h'.IsCell a v) ∧ h'.get? D = some (lst ys) ∧
            RVs h' (fun a => ((ob a ∨ a ∈ wr) ∨ a = D ∨ Z a) ∨ F.ch a) ((os.take i).filterMap id) ys ∧ (∀ a o, a ∉ wr → s.heap.get? a = some o → h'.get? a = some o)) E' s₄) E' { s with heap := h5, toks := tk5 } := fun u hu hev h5 tk5 E' e5 => by
        subst hu
        refine hev { s with heap := h5, toks := tk5 } (inv4 h5 e5) _ _ fun y h6 tk6 e6 ry => ?_
        have e46 := e5.trans' e6
        refine append_at (s := { s with heap := h6, toks := tk6 }) (hsz := by show ys.toArray.size ≤ sizeLine; rw [List.size_toArray, sizeLine_eq]; omega) (e46 _ _ hacc4) fun h7 hs7 hD7 => ?_
        have k7 : ∀ a o, a ≠ D → h6.get? a = some o → h7.get? a = some o := fun a o hn' ho => hs7.extBut a o hn' ho
        have I7 := Pf.off (Y := fun a => a = D) (F.ext I4 e46) (by rintro a rfl; exact ⟨.inr (.inl rfl), gnone _ hD0⟩) k7 fun a ha => ⟨_, ha ▸ hD7⟩
        have mv : ∀ a o, ¬ (((ob a ∨ a ∈ wr) ∨ a = D ∨ Z a) ∨ F.ch a) → h6.get? a = some o → ¬ (((ob a ∨ a ∈ wr) ∨ a = D ∨ Z a) ∨ F.ch a) ∧ h7.get? a = some o := fun a o hb ho => ⟨hb, k7 a o (fun q => hb (.inl (.inr (.inl q)))) ho⟩
        refine ⟨ws.length + 1 - (i + 1), by omega, h7, tk6, i + 1, ys ++ [y], m2, rfl, hlt, rfl, by rw [List.length_append, List.length_singleton]; exact Nat.succ_le_succ hyl, W.frame _ _ _ st4 fun b hb o e => k7 b o (fun q => by obtain ⟨o', e'⟩ := hfp b hb; exact (below b o' e').2 q) (e46 b o e), I7, hn4.at' fun o e => k7 _ o (hZ0 K hZK).2 (e46 _ o e), cl5 h7 fun a o hn' ho => k7 a o hn' (e46 a o ho), hD7.trans (congrArg some (lst_snoc ys y)), ?_, fun a o hn' ho => k7 a o (below a o ho).2 (e46 _ _ (kh4 a o hn' ho))⟩
        rw [take_some ho]
        exact ((rs4.ext e46).move mv).append ⟨y, [], rfl, ry.move mv, rfl⟩
      cases ct with
      | none =>
        obtain ⟨u, hu, hev⟩ := hel
        refine wpAny_tests_nil ?_
        simp only [if_true]
        exact put u hu hev h4 tk4 _ Ext.rfl'
      | some t =>
        obtain ⟨b, ht, hoff, hon⟩ := hel
        refine wpAny_tests_one (ht { s with heap := h4, toks := tk4 } (inv4 h4 Ext.rfl') _ _ fun h5 tk5 e5 => ?_)
        cases b with
        | false => exact skip h5 tk5 e5 (hoff rfl)
        | true =>
          obtain ⟨u, hu, hev⟩ := hon rfl
          simp only [if_true]
          exact put u hu hev h5 tk5 _ e5
    · obtain rfl : i = ws.length := Nat.le_antisymm hi (Nat.not_lt.mp hlt)
      refine W.done _ _ _ st fun h2 tk2 k2 => ?_
      have sub : ∀ b, ((ob b ∨ b = D) ∨ Z b) → (ob b ∨ b ∈ wr) ∨ b = D ∨ Z b := fun b hb => hb.elim (fun q => q.elim (fun q => .inl (.inl q)) fun q => .inr (.inl q)) fun q => .inr (.inr q)
      have I3 : F.I (fun a => (ob a ∨ a = D) ∨ Z a) h2 := F.turn I' (fun a ha => .inl (.inl (hrb a ha))) (fun b hb => ⟨F.obs I' (sub b hb), by
          obtain ⟨o, ho⟩ := F.lives I' (.inl (sub b hb))
          refine ⟨o, k2 b o (fun hm => ?_) ho⟩
          rcases hb with (hb | hb) | hb
          · exact hwo b hm hb
          · exact (hwl b hm).2 hb
          · exact (hwl b hm).1 hb⟩)
        (fun b o hc ho => k2 _ _ (fun hm => (hnew b hm).1 hc) ho) (fun b o hg => let ⟨_, Fm⟩ := F.fr I'; k2 _ _ (fun hm => by rw [(hnew b hm).2] at hg; cases hg) (Fm.keep _ _ hg)) fun b o hb ho => ⟨fun q => hb (.inl (sub b q)), k2 _ _ (fun hm => hb (.inl (.inl (.inr hm)))) ho⟩
      rw [← hlen, List.take_length] at rs
      exact hRR D K Z h2 tk2 m' ys (fun a o hn' ho => k2 a o hn' (kh a o hn' ho)) hD0 hZ0 hZK (k2 _ _ hDw hacc') (hn.at' fun o e => k2 _ o hKw e) (rs.move fun a o hb ho => ⟨fun q => hb (q.elim (fun q => .inl (sub a q)) .inr), k2 a o (fun q => hb (.inl (.inl (.inr q)))) ho⟩) I3
  exact codeAny_compStart_list (loop _ rfl) (hself _ _ _ (W.frame _ _ _ st0 fun b _ o e => old b o e) (loop _ rfl))
end
end Mine
end
section
open PySem PySem.W PyProof.Rows PySem.Calls PySem.Spec PyProof.Rows.LCg
set_option maxRecDepth 100000
set_option maxHeartbeats 4000000
namespace Mine
section
variable {c : Cx} {mu ob ob' : Addr → Prop} {σ : Loc} {N : Loc → Prop} {R : AV → Prop}
theorem FnInv.fresh {s : Heap} {b : Addr} (I : FnInv c mu ob σ s) (hn : s.get? b = none) : ¬ c.bad mu ob b ∧ ¬ c.ch mu b ∧ c.g.get? b = none :=
  ⟨fun q => let ⟨o, e⟩ := I.lives q; (by rw [hn] at e; cases e), fun q => let ⟨o, e⟩ := I.lives (.inr q); (by rw [hn] at e; cases e), none_of_ext (h' := s) (let ⟨_, F, _⟩ := I.fr; fun b o e => F.keep b o e) hn⟩
/-- what is new is given up -/
theorem FnInv.drop {h h' : Heap} {Y : Addr → Prop} (I : FnInv c mu ob' σ h) (hs : ∀ a, ob a → ob' a) (hrb : ∀ a, c.rb a → ob a) (hY : ∀ a, Y a → ¬ c.ch mu a ∧ c.g.get? a = none ∧ ob' a ∧ ¬ ob a) (k : ∀ a o, ¬ Y a → h.get? a = some o → h'.get? a = some o) : FnInv c mu ob σ h' :=
  I.turn hrb (fun b hb => ⟨(I.obs b (hs b hb)).1, (I.obs b (hs b hb)).2.1, let ⟨_, _, o, ho⟩ := I.obs b (hs b hb); ⟨o, k b o (fun q => (hY b q).2.2.2 hb) ho⟩⟩)
    (fun b o hc ho => k b o (fun q => (hY b q).1 hc) ho) (fun b o hg => let ⟨_, F, _⟩ := I.fr; k b o (fun q => by rw [(hY b q).2.1] at hg; cases hg) (F.keep _ _ hg)) fun b o hb ho => ⟨fun q => hb (.inl (hs b q)), k b o (fun q => hb (.inl (hY b q).2.2.1)) ho⟩
theorem lst_rv {vs : List AV} {h : Heap} {bad : Addr → Prop} {D : Addr} {ys : List Value} (hb : ¬ bad D) (hD : h.get? D = some (lst ys)) (rs : RVs h bad vs ys) : RV h bad (.list vs) (.ref D) := ⟨D, ys, _, rfl, hb, hD, rs⟩
section
variable {F : Pf} {tg iter elt : Expr} {ct : Option Expr} {ifs : List Expr} {scope : Scope} {cl : List (Str × Addr)} {cl' : Addr → List (Str × Addr)} {pos : Pos} {ws : List AV} {os : List (Option AV)}
theorem comp_main {E : Value → Shared → Prop} {RR : Value → Addr → Result → Shared → Prop}
    (hit : It (F.px ob) tg iter ws) (hne : NewEnv F scope cl cl')
    (hz : ws.length ≤ 1000) (hlen : os.length = ws.length) (he : ∀ (K : Addr) (ob' : Addr → Prop) (i : Nat) (w : AV) (o : Option AV), ws[i]? = some w → os[i]? = some o → ∃ own, Binds F.c F.env scope cl' tg w own ∧ EvE (F.el ob' scope (cl' K) K own) ct elt o)
    {s : Shared} (I : F.I ob s.heap)
    (hRR : ∀ (D K : Addr) (Z : Addr → Prop) h tk m ys, (∀ a o, s.heap.get? a = some o → h.get? a = some o) → s.heap.get? D = none → (∀ a, Z a → s.heap.get? a = none ∧ a ≠ D) → Z K → h.get? D = some (lst ys) → h.Ns K m → RVs h (fun a => ((ob a ∨ a = D) ∨ Z a) ∨ F.ch a) (os.filterMap id) ys →
      F.I (fun a => (ob a ∨ a = D) ∨ Z a) h → RR (.ref D) K (.ok .next) { s with heap := h, toks := tk }) :
    wpAny (model PG F.c.w) F.c.A (eval iter F.env) (fun xv s₁ => wpAny (model PG F.c.w) F.c.A (pyIter xv) (fun it s₂ => wpAny (model PG F.c.w) F.c.A (newList []) (fun acc s₃ => wpAny (model PG F.c.w) F.c.A (newFunctionEnv scope F.env.globals cl [] F.env.qual none .none (some F.env)) (fun cenv s₄ =>
      codeAny (model PG F.c.w) F.c.A (.compStart (.ListComp elt [⟨tg, iter, ct.toList, 0⟩] scope pos) 0 it acc { cenv with scope := relabel scope F.env }) (RR acc cenv.locals) s₄) E s₃) E s₂) E s₁) E s := by
  refine wpAny_mono (hit s I (fun it s₂ => wpAny (model PG F.c.w) F.c.A (newList []) (fun acc s₃ => wpAny (model PG F.c.w) F.c.A (newFunctionEnv scope F.env.globals cl [] F.env.qual none .none (some F.env)) (fun cenv s₄ =>
      codeAny (model PG F.c.w) F.c.A (.compStart (.ListComp elt [⟨tg, iter, ct.toList, 0⟩] scope pos) 0 it acc { cenv with scope := relabel scope F.env }) (RR acc cenv.locals) s₄) E s₃) E s₂) E ?_) (fun _ _ h => h) fun _ _ e => e
  intro J fp wr Pi Md St h tk ex W st0 hself hwr hfp hlive hP
  have hnew : ∀ b ∈ wr, ¬ (ob b ∨ F.ch b) ∧ ¬ F.ch b ∧ F.c.g.get? b = none := fun b hb => Pf.fresh I (hwr b hb).1
  have I1 : F.I (fun a => ob a ∨ a ∈ wr) h := F.turn I (fun a ha => .inl (F.rb I a ha)) (fun a ha => ha.elim (fun ha => ⟨F.obs I ha, let ⟨o, ho⟩ := F.lives I (.inl ha); ⟨o, ex _ _ ho⟩⟩) fun ha => ⟨F.nc_of (hnew a ha).2.1, (hwr a ha).2⟩) (fun a o _ ho => ex _ _ ho) (fun a o hg => let ⟨_, Fm⟩ := F.fr I; ex _ _ (Fm.keep _ _ hg))
    fun a o hb ho => ⟨fun q => q.elim (fun q => hb (.inl q)) (fun q => by rw [(hwr a q).1] at ho; cases ho), ex _ _ ho⟩
  have hnone : ∀ b, h.get? b = none → s.heap.get? b = none := fun b e => none_of_ext ex e
  exact comp_block (s := { s with heap := h, toks := tk }) hne I1 (fun b hb => (hnew b hb).2) (fun b hb q => (hnew b hb).1 (.inl q)) (F.rb I) W st0 hself (fun b hb => (Classical.em (b ∈ wr)).elim (fun q => (hwr b q).2) fun q => (hfp b hb q).2) hlive (fun X hX i v h' hi k hp => hP X hX i v h' hi k hp) hz hlen he
    fun D K Z h1 tk1 m ys kh hD hZ hZK hacc hn rs I2 => hRR D K Z h1 tk1 m ys (fun a o ho => kh a o (fun q => by rw [(hwr a q).1] at ho; cases ho) (ex _ _ ho)) (hnone _ hD) (fun a ha => ⟨hnone _ (hZ a ha).1, (hZ a ha).2⟩) hZK hacc hn rs I2
/-- a list comprehension, wherever it stands -/
theorem Ev.compP (hct : ifs = ct.toList) (hclos : closureFor scope F.env = pure cl) (hit : It (F.px ob) tg iter ws) (hkind : scope.kind = .function) (hne : NewEnv F scope cl cl')
    (hnames : ∀ z ∈ scope.names, z.2 = .local → scope.names.lookup z.1 = some .local)
    (hz : ws.length ≤ 1000) (hlen : os.length = ws.length) (he : ∀ (K : Addr) (ob' : Addr → Prop) (i : Nat) (w : AV) (o : Option AV), ws[i]? = some w → os[i]? = some o → ∃ own, Binds F.c F.env scope cl' tg w own ∧ EvE (F.el ob' scope (cl' K) K own) ct elt o)
    (hs : ∀ x, foldedSetIterable iter F.env x = pure x := by intro _; rfl) : Ev (F.px ob) (.ListComp elt [⟨tg, iter, ifs, 0⟩] scope pos) (.list (os.filterMap id)) := fun s I Q E hQ => by
  subst hct
  show wpAny _ _ (eval (.ListComp elt [⟨tg, iter, ct.toList, 0⟩] scope pos) F.env) _ _ _
  rw [eval_ListComp]
  refine wpAny_comprehension_free (env := F.env) (use := none) rfl hs hclos hkind hnames (comp_main (RR := fun acc C => compPost (model PG F.c.w) F.c.A E none Q acc C) hit hne hz hlen he I ?_)
  intro D K Z h tk m ys ex hD hZ hZK hacc hn rs I2
  refine ⟨m, hn, fun h'' hs'' => hQ _ h'' tk (fun a o ho => hs''.extBut a o (fun q => by rw [q, (hZ K hZK).1] at ho; cases ho) (ex a o ho)) (lst_rv (Pf.fresh I hD).1 (hs''.extBut _ _ (Ne.symm (hZ K hZK).2) hacc) (rs.move fun a o hb ho => ⟨fun q => hb (q.elim (fun q => .inl (.inl (.inl q))) .inr), hs''.extBut a o (fun q => hb (.inl (.inr (q ▸ hZK)))) ho⟩))⟩
end
variable {tg iter elt : Expr} {ct : Option Expr} {ifs : List Expr} {scope : Scope} {cl : List (Str × Addr)} {cl' : Addr → List (Str × Addr)} {pos : Pos} {ws : List AV} {os : List (Option AV)}
/-- a list comprehension -/
theorem Ev.compL (hct : ifs = ct.toList) (hclos : closureFor scope c.env = pure cl) (hit : It (Px.fn c mu ob σ) tg iter ws) (hkind : scope.kind = .function) (hcell : ∀ y ∈ scope.names, y.2 ≠ .cell)
    (hnames : ∀ z ∈ scope.names, z.2 = .local → scope.names.lookup z.1 = some .local)
    (hz : ws.length ≤ 1000) (hlen : os.length = ws.length) (he : ∀ (K : Addr) (ob' : Addr → Prop) (i : Nat) (w : AV) (o : Option AV), ws[i]? = some w → os[i]? = some o → ∃ own, Binds c c.env scope (fun _ => cl) tg w own ∧ EvE (Px.comp c mu ob' σ scope cl K own) ct elt o)
    (hs : ∀ x, foldedSetIterable iter c.env x = pure x := by intro _; rfl) : Ev (Px.fn c mu ob σ) (.ListComp elt [⟨tg, iter, ifs, 0⟩] scope pos) (.list (os.filterMap id)) :=
  Ev.compP (F := Pf.fn c mu σ) hct hclos hit hkind (NewEnv.plain hcell hkind) hnames hz hlen he hs
/-- x = a list comprehension, any own names -/
theorem Ws.asgCompP {y : Str} {py spos : Pos} (hct : ifs = ct.toList) (hclos : closureFor scope c.env = pure cl) (hit : It (Px.fn c mu ob σ) tg iter ws) (hkind : scope.kind = .function) (hne : NewEnv (Pf.fn c mu σ) scope cl cl')
    (hnames : ∀ z ∈ scope.names, z.2 = .local → scope.names.lookup z.1 = some .local) (hl : Put c y = true)
    (hz : ws.length ≤ 1000) (hlen : os.length = ws.length) (he : ∀ (K : Addr) (ob' : Addr → Prop) (i : Nat) (w : AV) (o : Option AV), ws[i]? = some w → os[i]? = some o → ∃ own, Binds c c.env scope cl' tg w own ∧ EvE (Px.comp c mu ob' σ scope (cl' K) K own) ct elt o)
    (hN : N ((y, .list (os.filterMap id)) :: σ))
    (hsw : swapsWith (.ListComp elt [⟨tg, iter, ifs, 0⟩] scope pos) (some (.Name y py)) spos.line c.env = pure true := by rfl)
    (hs : ∀ x, foldedSetIterable iter c.env x = pure x := by intro _; rfl) : Ws c mu ob σ (.Assign [.Name y py] (.ListComp elt [⟨tg, iter, ifs, 0⟩] scope pos) spos) N R := fun s I Q E H => by
  subst hct
  rw [exec_Assign_Name_used _ _ _ _ hsw]
  refine wpAny_bind (wpAny_standAt (wpAny_bind ?_))
  show wpAny _ c.A (do let _ ← comprehension (.ListComp elt [⟨tg, iter, ct.toList, 0⟩] scope pos) scope c.env _ (newList []) false (eval iter c.env) (some (assign (.Name y py) c.env))) _ _ s
  refine wpAny_bind (wpAny_mono (wpAny_comprehension_free (env := c.env) (use := some (assign (.Name y py) c.env)) (Q := fun _ s' => Q .next s') rfl hs hclos hkind hnames
    (comp_main (F := Pf.fn c mu σ) (RR := fun acc C => compPost (model PG c.w) c.A E (some (assign (.Name y py) c.env)) (fun _ s' => Q .next s') acc C) hit hne hz hlen he I ?_)) (fun _ s' hq => wpAny_pure (wpAny_pure hq)) fun _ _ e => e)
  intro D K Z h tk m ys ex hD hZ hZK hacc hn rs I2
  show wpAny _ c.A (assign (.Name y py) c.env (.ref D)) _ _ _
  have fD := I.fresh hD
  have I3 : FnInv c mu (fun a => ob a ∨ Z a) σ h := FnInv.weaken I2 (fun a ha => ha.elim (fun q => .inl (.inl q)) .inr) fun a ha => .inl (I.rb a ha)
  refine wpAny_assign_Name (store_any (s := { s with heap := h, toks := tk }) I3 hl (lst_rv (vs := os.filterMap id) (fun q => q.elim (fun q => q.elim (fun q => fD.1 (.inl q)) fun q => (hZ D q).2 rfl) fun q => fD.1 (.inr q)) hacc (rs.move fun a o hb ho => ⟨fun q => hb (q.elim (fun q => .inl (q.elim (fun q => .inl (.inl q)) .inr)) .inr), ho⟩)) fun h2 tk2 I4 k2 => ?_)
  have fK := I.fresh (hZ K hZK).1
  have hnK : ∃ m', h2.Ns K m' := let ⟨o, es, ep, ho, r⟩ := hn; ⟨m, o, es, ep, k2 _ _ fK.2.1 ho, r⟩
  obtain ⟨m', hn'⟩ := hnK
  refine ⟨m', hn', fun h'' hs'' => ?_⟩
  have I5 : FnInv c mu ob ((y, .list (os.filterMap id)) :: σ) h'' := I4.drop (Y := fun a => a = K) (fun a ha => .inl ha) I.rb (by rintro a rfl; exact ⟨fK.2.1, fK.2.2, .inr hZK, fun q => fK.1 (.inl q)⟩) fun a o hn ho => hs''.extBut a o hn ho
  exact H.1 _ h'' tk2 hN I5 fun a o hc ho => hs''.extBut a o (fun q => by rw [q, (hZ K hZK).1] at ho; cases ho) (k2 a o hc (ex a o ho))
/-- x = a list comprehension -/
theorem Ws.asgComp {y : Str} {py spos : Pos} (hct : ifs = ct.toList) (hclos : closureFor scope c.env = pure cl) (hit : It (Px.fn c mu ob σ) tg iter ws) (hkind : scope.kind = .function) (hcell : ∀ y ∈ scope.names, y.2 ≠ .cell)
    (hnames : ∀ z ∈ scope.names, z.2 = .local → scope.names.lookup z.1 = some .local) (hl : Put c y = true)
    (hz : ws.length ≤ 1000) (hlen : os.length = ws.length) (he : ∀ (K : Addr) (ob' : Addr → Prop) (i : Nat) (w : AV) (o : Option AV), ws[i]? = some w → os[i]? = some o → ∃ own, Binds c c.env scope (fun _ => cl) tg w own ∧ EvE (Px.comp c mu ob' σ scope cl K own) ct elt o)
    (hN : N ((y, .list (os.filterMap id)) :: σ))
    (hsw : swapsWith (.ListComp elt [⟨tg, iter, ifs, 0⟩] scope pos) (some (.Name y py)) spos.line c.env = pure true := by rfl)
    (hs : ∀ x, foldedSetIterable iter c.env x = pure x := by intro _; rfl) : Ws c mu ob σ (.Assign [.Name y py] (.ListComp elt [⟨tg, iter, ifs, 0⟩] scope pos) spos) N R :=
  Ws.asgCompP hct hclos hit hkind (NewEnv.plain hcell hkind) hnames hl hz hlen he hN hsw hs
end
end Mine
end
section
open PySem PySem.W PyProof.Rows PySem.Calls PySem.Spec PyProof.Rows.LCg
set_option maxRecDepth 100000
set_option maxHeartbeats 8000000
namespace Mine
/-! zip over two iterators of any kind (Draws) -/
structure ZAp (z TI TO i1 i2 : Addr) (fp1 fp2 : List Addr) : Prop where
  TIz : TI ≠ z
  TOz : TO ≠ z
  i1z : i1 ≠ z
  i2z : i2 ≠ z
  TITO : TI ≠ TO
  TIi1 : TI ≠ i1
  TIi2 : TI ≠ i2
  TOi1 : TO ≠ i1
  TOi2 : TO ≠ i2
  i12 : i1 ≠ i2
  f1 : ∀ b ∈ fp1, b ≠ z ∧ b ≠ TO ∧ b ≠ i2
  f2 : ∀ b ∈ fp2, b ≠ z ∧ b ≠ TO ∧ b ≠ i1
section
variable {prog : Program} {w : World} {A : Around} {E : Value → Shared → Prop} {s : Shared}
variable {z TI TO i1 i2 : Addr} {fp1 fp2 : List Addr} {n1 n2 : Nat} {P1 P2 : Nat → Value → Prop} {S1 S2 : Nat → Heap → Prop}

theorem mz_item {k : Nat} {a b : Value} {Q : Value → Shared → Prop} (Z : ZAp z TI TO i1 i2 fp1 fp2) (D1 : Draws prog w A i1 fp1 n1 P1 S1) (D2 : Draws prog w A i2 fp2 n2 P2 S2)
    (hz : IsZip s.heap z TI TO .none) (hTI : IsPair s.heap TI (.ref i1) (.ref i2)) (hTO : IsPair s.heap TO a b) (h1 : S1 k s.heap) (h2 : S2 k s.heap) (k1 : k < n1) (k2 : k < n2)
    (hQ : ∀ h' tk x y, P1 k x → P2 k y → IsZip h' z TI TO (rawInt s.heap.objs.size) → IsPair h' TO x y → S1 (k + 1) h' → S2 (k + 1) h' → IsPair h' s.heap.objs.size x y →
      (∀ c o, c ≠ z → c ≠ TO → c ≠ i1 → c ≠ i2 → s.heap.get? c = some o → h'.get? c = some o) → Q (.ref s.heap.objs.size) { s with heap := h', toks := tk }) :
    wpAny (model prog w) A (Builtin.«zip.__next__» ⟨[.ref z], []⟩) (fun fin s' => ∃ v, fin = .done (.ret v) ∧ Q v s') E s := by
  show wpAny _ _ (field (.ref z) 2 >>= _) _ _ _
  refine wpAny_bind (wpAny_field hz rfl (x := .bool false) rfl ?_)
  show wpAny _ _ (field (.ref z) 3 >>= _) _ _ _
  refine wpAny_bind (wpAny_field hz rfl (x := .ref TI) rfl ?_)
  refine wpAny_bind (wpAny_seqItems hTI rfl ?_)
  show wpAny _ _ (Builtin.SmallTypes.ownedTupleIsFree (.ref z) >>= _) _ _ _
  refine wpAny_bind ?_
  unfold Builtin.SmallTypes.ownedTupleIsFree
  refine wpAny_bind (wpAny_field hz rfl (x := .none) rfl (wpAny_pure ?_))
  simp only [if_true]
  refine wpAny_bind (wpAny_rule ?_)
  refine wpAny_bind (wpAny_field hz rfl (x := .ref TO) rfl ?_)
  refine wpAny_bind (wpAny_setField_rec hz (by simp) fun h₁ hz₁ hs₁ => ?_)
  replace hz₁ : IsZip h₁ z TI TO .ellipsis := hz₁
  have g1 : S1 k h₁ := D1.frame _ _ _ h1 fun b hb o e => hs₁.extBut _ _ (Z.f1 b hb).1 e
  have g2 : S2 k h₁ := D2.frame _ _ _ h2 fun b hb o e => hs₁.extBut _ _ (Z.f2 b hb).1 e
  refine wpAny_bind ?_
  simp only [List.zipIdx_cons, List.zipIdx_nil, List.forIn_cons, List.forIn_nil]
  refine wpAny_bind (wpAny_bind (wpAny_onRaise ?_))
  show wpAny _ _ (Builtin.SmallTypes.nextOf (.ref i1) >>= _) _ _ _
  refine wpAny_bind (D1.item k _ _ _ k1 g1 fun x h₂ tk₂ hP1 h1₂ hs₂ => wpAny_pure ?_)
  replace hs₂ : Heap.SameBut i1 h₁ h₂ := hs₂
  have g2₂ : S2 k h₂ := D2.frame _ _ _ g2 fun b hb o e => hs₂.extBut _ _ (Z.f2 b hb).2.2 e
  have hTO₂ : IsPair h₂ TO a b := hs₂.extBut _ _ Z.TOi1 (hs₁.extBut _ _ Z.TOz hTO)
  refine wpAny_bind (wpAny_seqItems hTO₂ rfl ?_)
  refine wpAny_bind (wpAny_updateSeq_pair hTO₂ fun h₃ hTO₃ hs₃ => ?_)
  replace hTO₃ : IsPair h₃ TO x b := hTO₃
  replace hs₃ : Heap.SameBut TO h₂ h₃ := hs₃
  refine wpAny_bind (wpAny_letGo (wpAny_pure ?_))
  have g1₃ : S1 (k + 1) h₃ := D1.frame _ _ _ h1₂ fun b hb o e => hs₃.extBut _ _ (Z.f1 b hb).2.1 e
  have g2₃ : S2 k h₃ := D2.frame _ _ _ g2₂ fun b hb o e => hs₃.extBut _ _ (Z.f2 b hb).2.1 e
  refine wpAny_bind (wpAny_bind (wpAny_onRaise ?_))
  show wpAny _ _ (Builtin.SmallTypes.nextOf (.ref i2) >>= _) _ _ _
  refine wpAny_bind (D2.item k _ _ _ k2 g2₃ fun y h₄ tk₄ hP2 h2₄ hs₄ => wpAny_pure ?_)
  replace hs₄ : Heap.SameBut i2 h₃ h₄ := hs₄
  have g1₄ : S1 (k + 1) h₄ := D1.frame _ _ _ g1₃ fun b hb o e => hs₄.extBut _ _ (Z.f1 b hb).2.2 e
  have hTO₄ : IsPair h₄ TO x b := hs₄.extBut _ _ Z.TOi2 hTO₃
  refine wpAny_bind (wpAny_seqItems hTO₄ rfl ?_)
  refine wpAny_bind (wpAny_updateSeq_pair hTO₄ fun h₅ hTO₅ hs₅ => ?_)
  replace hTO₅ : IsPair h₅ TO x y := hTO₅
  replace hs₅ : Heap.SameBut TO h₄ h₅ := hs₅
  have g1₅ : S1 (k + 1) h₅ := D1.frame _ _ _ g1₄ fun b hb o e => hs₅.extBut _ _ (Z.f1 b hb).2.1 e
  have g2₅ : S2 (k + 1) h₅ := D2.frame _ _ _ h2₄ fun b hb o e => hs₅.extBut _ _ (Z.f2 b hb).2.1 e
  refine wpAny_bind (wpAny_letGo (wpAny_pure (wpAny_pure ?_)))
  refine wpAny_bind (wpAny_seqItems hTO₅ rfl ?_)
  refine wpAny_bind (wpAny_newTuple ?_)
  have hsz : h₅.objs.size = s.heap.objs.size := by rw [hs₅.1, hs₄.1, hs₃.1, hs₂.1, hs₁.1]
  have hz₅ : IsZip h₅ z TI TO .ellipsis := hs₅.extBut _ _ Z.TOz.symm (hs₄.extBut _ _ Z.i2z.symm (hs₃.extBut _ _ Z.TOz.symm (hs₂.extBut _ _ Z.i1z.symm hz₁)))
  have hk₅ : ∀ c o, c ≠ z → c ≠ TO → c ≠ i1 → c ≠ i2 → s.heap.get? c = some o → h₅.get? c = some o := fun c o c1 c2 c3 c4 e =>
    hs₅.extBut _ _ c2 (hs₄.extBut _ _ c4 (hs₃.extBut _ _ c2 (hs₂.extBut _ _ c3 (hs₁.extBut _ _ c1 e))))
  have hzlt : z < h₅.objs.size := Heap.lt_size hz₅
  have hTOlt : TO < h₅.objs.size := Heap.lt_size hTO₅
  show wpAny _ _ (Builtin.SmallTypes.ownedTupleHandOut (.ref z) (.ref h₅.objs.size) >>= _) _ _ _
  refine wpAny_bind ?_
  unfold Builtin.SmallTypes.ownedTupleHandOut
  have hz₆ : IsZip (h₅.push { cls := .type "tuple", data := .seq #[x, y] }) z TI TO .ellipsis := Heap.get?_push_of_some _ hz₅
  refine wpAny_bind (wpAny_setField_rec hz₆ (by simp) fun h₇ hz₇ hs₇ => ?_)
  replace hz₇ : IsZip h₇ z TI TO (rawInt h₅.objs.size) := hz₇
  refine wpAny_setField_rec hz₇ (by simp) fun h₈ hz₈ hs₈ => ?_
  replace hz₈ : IsZip h₈ z TI TO (rawInt h₅.objs.size) := hz₈
  have up : ∀ c o, c ≠ z → h₅.get? c = some o → h₈.get? c = some o := fun c o c1 e => hs₈.extBut _ _ c1 (hs₇.extBut _ _ c1 (Heap.get?_push_of_some _ e))
  have hT₈ : IsPair h₈ h₅.objs.size x y := hs₈.extBut _ _ (Nat.ne_of_gt hzlt) (hs₇.extBut _ _ (Nat.ne_of_gt hzlt) (Heap.get?_push_size _ rfl))
  rw [hsz] at hz₈ hT₈
  refine wpAny_pure ⟨_, rfl, ?_⟩
  show Q (.ref h₅.objs.size) _
  rw [hsz]
  exact hQ h₈ _ x y hP1 hP2 hz₈ (up _ _ Z.TOz hTO₅) (D1.frame _ _ _ g1₅ fun b hb o e => up _ o (Z.f1 b hb).1 e) (D2.frame _ _ _ g2₅ fun b hb o e => up _ o (Z.f2 b hb).1 e) hT₈ fun c o c1 c2 c3 c4 e => up c o c1 (hk₅ c o c1 c2 c3 c4 e)

theorem mz_end {k : Nat} {a b : Value} {Q : Fin → Shared → Prop} (Z : ZAp z TI TO i1 i2 fp1 fp2) (D1 : Draws prog w A i1 fp1 n1 P1 S1) (D2 : Draws prog w A i2 fp2 n2 P2 S2)
    (hz : IsZip s.heap z TI TO .none) (hTI : IsPair s.heap TI (.ref i1) (.ref i2)) (hTO : IsPair s.heap TO a b) (h1 : S1 k s.heap) (h2 : S2 k s.heap) (hk : k = min n1 n2)
    (hE : ∀ h' tk e, (∀ c o, c ≠ z → c ≠ TO → c ≠ i1 → c ≠ i2 → s.heap.get? c = some o → h'.get? c = some o) → (∃ o, h'.get? e = some o ∧ o.cls = .type "StopIteration") → E (.ref e) { s with heap := h', toks := tk }) :
    wpAny (model prog w) A (Builtin.«zip.__next__» ⟨[.ref z], []⟩) Q E s := by
  show wpAny _ _ (field (.ref z) 2 >>= _) _ _ _
  refine wpAny_bind (wpAny_field hz rfl (x := .bool false) rfl ?_)
  show wpAny _ _ (field (.ref z) 3 >>= _) _ _ _
  refine wpAny_bind (wpAny_field hz rfl (x := .ref TI) rfl ?_)
  refine wpAny_bind (wpAny_seqItems hTI rfl ?_)
  show wpAny _ _ (Builtin.SmallTypes.ownedTupleIsFree (.ref z) >>= _) _ _ _
  refine wpAny_bind ?_
  unfold Builtin.SmallTypes.ownedTupleIsFree
  refine wpAny_bind (wpAny_field hz rfl (x := .none) rfl (wpAny_pure ?_))
  simp only [if_true]
  refine wpAny_bind (wpAny_rule ?_)
  refine wpAny_bind (wpAny_field hz rfl (x := .ref TO) rfl ?_)
  refine wpAny_bind (wpAny_setField_rec hz (by simp) fun h₁ hz₁ hs₁ => ?_)
  replace hz₁ : IsZip h₁ z TI TO .ellipsis := hz₁
  have g1 : S1 k h₁ := D1.frame _ _ _ h1 fun b hb o e => hs₁.extBut _ _ (Z.f1 b hb).1 e
  have g2 : S2 k h₁ := D2.frame _ _ _ h2 fun b hb o e => hs₁.extBut _ _ (Z.f2 b hb).1 e
  refine wpAny_bind ?_
  simp only [List.zipIdx_cons, List.zipIdx_nil, List.forIn_cons, List.forIn_nil]
  refine wpAny_bind (wpAny_bind (wpAny_onRaise ?_))
  show wpAny _ _ (Builtin.SmallTypes.nextOf (.ref i1) >>= _) _ _ _
  by_cases hn : k = n1
  · subst hn
    refine wpAny_bind (D1.done _ _ _ g1 fun h₂ e hs₂ he => ?_)
    replace hs₂ : Heap.ExtBut i1 h₁ h₂ := hs₂
    obtain ⟨oe, hoe, hce⟩ := he
    have hz₂ : IsZip h₂ z TI TO .ellipsis := hs₂ _ _ Z.i1z.symm hz₁
    have hez : e ≠ z := fun x => by subst x; rw [hz₂] at hoe; cases hoe; simp at hce
    refine wpAny_setField_rec hz₂ (by simp) fun h₃ _ hs₃ => hE h₃ _ e (fun c o c1 _ c3 _ x => hs₃.extBut _ _ c1 (hs₂ _ _ c3 (hs₁.extBut _ _ c1 x))) ⟨oe, hs₃.extBut _ _ hez hoe, hce⟩
  · have hn2 : k = n2 := by omega
    refine wpAny_bind (D1.item k _ _ _ (by omega) g1 fun x h₂ tk₂ hP1 h1₂ hs₂ => wpAny_pure ?_)
    replace hs₂ : Heap.SameBut i1 h₁ h₂ := hs₂
    have g2₂ : S2 k h₂ := D2.frame _ _ _ g2 fun b hb o e => hs₂.extBut _ _ (Z.f2 b hb).2.2 e
    have hTO₂ : IsPair h₂ TO a b := hs₂.extBut _ _ Z.TOi1 (hs₁.extBut _ _ Z.TOz hTO)
    refine wpAny_bind (wpAny_seqItems hTO₂ rfl ?_)
    refine wpAny_bind (wpAny_updateSeq_pair hTO₂ fun h₃ hTO₃ hs₃ => ?_)
    replace hs₃ : Heap.SameBut TO h₂ h₃ := hs₃
    have g2₃ : S2 k h₃ := D2.frame _ _ _ g2₂ fun b hb o e => hs₃.extBut _ _ (Z.f2 b hb).2.1 e
    refine wpAny_bind (wpAny_letGo (wpAny_pure ?_))
    refine wpAny_bind (wpAny_bind (wpAny_onRaise ?_))
    show wpAny _ _ (Builtin.SmallTypes.nextOf (.ref i2) >>= _) _ _ _
    subst hn2
    refine wpAny_bind (D2.done _ _ _ g2₃ fun h₄ e hs₄ he => ?_)
    replace hs₄ : Heap.ExtBut i2 h₃ h₄ := hs₄
    obtain ⟨oe, hoe, hce⟩ := he
    have hz₄ : IsZip h₄ z TI TO .ellipsis := hs₄ _ _ Z.i2z.symm (hs₃.extBut _ _ Z.TOz.symm (hs₂.extBut _ _ Z.i1z.symm hz₁))
    have hez : e ≠ z := fun x => by subst x; rw [hz₄] at hoe; cases hoe; simp at hce
    refine wpAny_setField_rec hz₄ (by simp) fun h₅ _ hs₅ => hE h₅ _ e (fun c o c1 c2 c3 c4 x => hs₅.extBut _ _ c1 (hs₄ _ _ c4 (hs₃.extBut _ _ c2 (hs₂.extBut _ _ c3 (hs₁.extBut _ _ c1 x))))) ⟨oe, hs₅.extBut _ _ hez hoe, hce⟩

theorem mz_turns {elts : List Expr} {kk : Nat} {pos : Pos} (hh : A.handled = none) (Z : ZAp z TI TO i1 i2 fp1 fp2) (D1 : Draws prog w A.in1 i1 fp1 n1 P1 S1) (D2 : Draws prog w A.in1 i2 fp2 n2 P2 S2) :
    KTurns prog w A (.Tuple elts kk pos) z (z :: TI :: TO :: i1 :: i2 :: (fp1 ++ fp2)) [z, TO, i1, i2] (min n1 n2)
      (fun i v h => ∃ T x y, v = .ref T ∧ IsPair h T x y ∧ P1 i x ∧ P2 i y)
      (fun i v h => ∃ T x y, v = .ref T ∧ IsPair h T x y ∧ P1 i x ∧ P2 i y ∧ T ≠ z ∧ IsZip h z TI TO (rawInt T) ∧ IsPair h TI (.ref i1) (.ref i2) ∧ (∃ a b, IsPair h TO a b) ∧ S1 (i + 1) h ∧ S2 (i + 1) h)
      (fun i h => IsZip h z TI TO .none ∧ IsPair h TI (.ref i1) (.ref i2) ∧ (∃ a b, IsPair h TO a b) ∧ S1 i h ∧ S2 i h) where
  sub := fun b hb => by simp at hb ⊢; rcases hb with rfl | rfl | rfl | rfl <;> simp
  frame := fun i h h' st hk => by
    obtain ⟨a1, a2, ⟨a, b, a3⟩, a4, a5⟩ := st
    exact ⟨hk z (by simp) _ a1, hk TI (by simp) _ a2, ⟨a, b, hk TO (by simp) _ a3⟩, D1.frame _ _ _ a4 fun c hc o e => hk c (by simp [hc]) o e, D2.frame _ _ _ a5 fun c hc o e => hk c (by simp [hc]) o e⟩
  item := fun i s Q E hi st hQ => by
    obtain ⟨hz, hTI, ⟨a, b, hTO⟩, h1, h2⟩ := st
    have hT : s.TypeIs (.ref z) "zip" := ⟨_, hz, rfl⟩
    have lt : ∀ {c o}, s.heap.get? c = some o → s.heap.objs.size ≠ c := fun e => Nat.ne_of_gt (Heap.lt_size e)
    unfold pyNext
    exact wpAny_bind (wpAny_attempt (wpAny_callSpecial?_slot (name := Str.ofString "__next__") hT F.slot_zip_next
      (wpAny_call_entry F.slot_zip_next hT F.entry_zip_next
        (mz_item Z D1 D2 hz hTI hTO h1 h2 (by omega) (by omega) fun h' tk x y b1 b2 b3 b4 b5 b6 b7 hk => wpAny_pure (hQ (.ref s.heap.objs.size) h' tk ⟨_, x, y, rfl, b7, b1, b2, lt hz, b3, hk _ _ Z.TIz Z.TITO Z.TIi1 Z.TIi2 hTI, ⟨_, _, b4⟩, b5, b6⟩
          fun c o hc e => hk c o (fun q => hc (by simp [q])) (fun q => hc (by simp [q])) (fun q => hc (by simp [q])) (fun q => hc (by simp [q])) e)) (F.args_zip_next_1 _))))
  go := fun i v s Q E hm hQ => by
    obtain ⟨T, x, y, rfl, hT, p1, p2, hTz, hz, hTI, ⟨a, b, hTO⟩, h1, h2⟩ := hm
    refine wpAny_letOwnedTupleGo_zip hz fun h' hz' hs' => hQ h' ⟨T, x, y, rfl, hs'.extBut _ _ hTz hT, p1, p2⟩ ⟨hz', hs'.extBut _ _ Z.TIz hTI, ⟨a, b, hs'.extBut _ _ Z.TOz hTO⟩,
      D1.frame _ _ _ h1 fun c hc o e => hs'.extBut _ _ (Z.f1 c hc).1 e, D2.frame _ _ _ h2 fun c hc o e => hs'.extBut _ _ (Z.f2 c hc).1 e⟩ fun c o hc e => hs'.extBut _ _ (fun q => hc (by simp [q])) e
  done := fun s Q E st hQ => by
    obtain ⟨hz, hTI, ⟨a, b, hTO⟩, h1, h2⟩ := st
    have hT : s.TypeIs (.ref z) "zip" := ⟨_, hz, rfl⟩
    unfold pyNext
    refine wpAny_bind (wpAny_attempt (wpAny_callSpecial?_slot (name := Str.ofString "__next__") hT F.slot_zip_next
      (wpAny_call_entry F.slot_zip_next hT F.entry_zip_next (mz_end Z D1 D2 hz hTI hTO h1 h2 rfl fun h' tk e hk he => ?_) (F.args_zip_next_1 _))))
    obtain ⟨o, ho, hc⟩ := he
    refine wpAny_bind (wpAny_isInstance (T := "StopIteration") (b := true) ⟨o, ho, hc⟩ isSubtype_stop ?_)
    exact wpAny_pure (hQ h' _ fun c o hc e => hk c o (fun q => hc (by simp [q])) (fun q => hc (by simp [q])) (fun q => hc (by simp [q])) (fun q => hc (by simp [q])) e)
end

/-! zip of a list and an ascii text -/
noncomputable abbrev mzH1 (h : Heap) (l1 : Addr) : Heap := h.push { cls := .type "list_iterator", data := .fields #[.ref l1, .int 0 0] }
noncomputable abbrev mzH2 (h : Heap) (l1 : Addr) (x : Str) (t : Tok) : Heap := (mzH1 h l1).push { cls := .type "str_ascii_iterator", data := .fields #[.str x t, .int 0 0] }
noncomputable abbrev mzH3 (h : Heap) (l1 : Addr) (x : Str) (t : Tok) : Heap := (mzH2 h l1 x t).push { cls := .type "tuple", data := .seq #[.ref h.objs.size, .ref (mzH1 h l1).objs.size] }
noncomputable abbrev mzH4 (h : Heap) (l1 : Addr) (x : Str) (t : Tok) : Heap := (mzH3 h l1 x t).push { cls := .type "tuple", data := .seq #[.none, .none] }
noncomputable abbrev mzH5 (h : Heap) (l1 : Addr) (x : Str) (t : Tok) : Heap := (mzH4 h l1 x t).push { cls := .type "zip", data := .fields #[.none, .bool false, .bool false, .ref (mzH2 h l1 x t).objs.size, .ref (mzH3 h l1 x t).objs.size] }
theorem mz_new (l1 : Addr) (x : Str) (t : Tok) (xs : Array Value) (hx : x.cps.all (· < 128) = true) :
    Meets (Builtin.«zip.__new__» ⟨[.type "zip", .ref l1, .str x t], []⟩) (fun _ R s => s.heap.IsList l1 xs ∧
      R (.ok (.ret (.ref (mzH4 s.heap l1 x t).objs.size))) { s with heap := mzH5 s.heap l1 x t }) :=
  .of_wp fun prog w A R s h => by
    obtain ⟨hp, g, d, tk, os⟩ := s; obtain ⟨hl1, h⟩ := h
    have hsub := sub_zip
    have hL1 : Heap.IsList (Shared.heap ⟨hp, g, d, tk, os⟩) l1 xs := hl1
    wp_walk using wpAny_pyIter_list hL1, wpAny_pyIter_ascii hx
    exact ⟨_, rfl, h⟩

section
variable {prog : Program} {w : World} {A : Around} {E : Value → Shared → Prop} {s : Shared}
theorem mz_call {l1 : Addr} {x : Str} {t : Tok} {xs : Array Value} {Q : Value → Shared → Prop} (hl1 : s.heap.IsList l1 xs) (hx : x.cps.all (· < 128) = true)
    (h : ∀ h', IsZip h' (s.heap.objs.size + 4) (s.heap.objs.size + 2) (s.heap.objs.size + 3) .none → IsPair h' (s.heap.objs.size + 2) (.ref s.heap.objs.size) (.ref (s.heap.objs.size + 1)) →
      IsPair h' (s.heap.objs.size + 3) .none .none → h'.IsListIter s.heap.objs.size l1 0 → h'.IsStrIter (s.heap.objs.size + 1) "str_ascii_iterator" x t 0 → h'.objs.size = s.heap.objs.size + 5 →
      (∀ c o, s.heap.get? c = some o → h'.get? c = some o) → Q (.ref (s.heap.objs.size + 4)) { s with heap := h' }) :
    wpAny (model prog w) A (call (.type "zip") [.ref l1, .str x t]) Q E s := by
  refine callType_new F.called_zip (by decide) (F.typeCall_zip_2 _ _) (F.newCall_zip_2 _ _) (fun obj => F.args_object_init_3 obj _ _) F.entry_zip_new
    (mz_new l1 x t xs hx) ⟨hl1, ?_⟩
  have z1 : (mzH1 s.heap l1).objs.size = s.heap.objs.size + 1 := Heap.size_push ..
  have z2 : (mzH2 s.heap l1 x t).objs.size = s.heap.objs.size + 2 := by rw [Heap.size_push, z1]
  have z3 : (mzH3 s.heap l1 x t).objs.size = s.heap.objs.size + 3 := by rw [Heap.size_push, z2]
  have z4 : (mzH4 s.heap l1 x t).objs.size = s.heap.objs.size + 4 := by rw [Heap.size_push, z3]
  have z5 : (mzH5 s.heap l1 x t).objs.size = s.heap.objs.size + 5 := by rw [Heap.size_push, z4]
  have g5 : (mzH5 s.heap l1 x t).get? (mzH4 s.heap l1 x t).objs.size = some _ := Heap.get?_push_size _ rfl
  have g4 : (mzH5 s.heap l1 x t).get? (mzH3 s.heap l1 x t).objs.size = some _ := Heap.get?_push_of_some _ (Heap.get?_push_size _ rfl)
  have g3 : (mzH5 s.heap l1 x t).get? (mzH2 s.heap l1 x t).objs.size = some _ := Heap.get?_push_of_some _ (Heap.get?_push_of_some _ (Heap.get?_push_size _ rfl))
  have g2 : (mzH5 s.heap l1 x t).get? (mzH1 s.heap l1).objs.size = some _ := Heap.get?_push_of_some _ (Heap.get?_push_of_some _ (Heap.get?_push_of_some _ (Heap.get?_push_size _ rfl)))
  have g1 : (mzH5 s.heap l1 x t).get? s.heap.objs.size = some _ := Heap.get?_push_of_some _ (Heap.get?_push_of_some _ (Heap.get?_push_of_some _ (Heap.get?_push_of_some _ (Heap.get?_push_size _ rfl))))
  show _ ∧ _
  rw [z2, z3, z4] at g5
  rw [z1, z2] at g3
  rw [z3] at g4
  rw [z1] at g2
  rw [z4]
  exact ⟨⟨_, g5, rfl⟩, h _ g5 g3 g4 ⟨_, g1, rfl, rfl⟩ ⟨_, g2, rfl, rfl⟩ z5 fun c o x =>
    Heap.get?_push_of_some _ (Heap.get?_push_of_some _ (Heap.get?_push_of_some _ (Heap.get?_push_of_some _ (Heap.get?_push_of_some _ x))))⟩
end
end Mine
end
section
open PySem PySem.W PyProof.Rows PySem.Calls PySem.Spec PyProof.Rows.LCg
set_option maxRecDepth 100000
set_option maxHeartbeats 4000000
namespace Mine
/-! zip as what a for, a comprehension goes over -/
theorem zip_core {P : Px} {elts : List Expr} {kk : Nat} {pos : Pos} {s : Shared} {h h' : Heap} {tk B n1 n2 : Nat} {fp1 fp2 : List Addr} {P1 P2 : Nat → Value → Prop} {S1 S2 : Nat → Heap → Prop} {us vs : List AV} {Q E : Value → Shared → Prop} (hs : P.inv s) (ex : Ext s.heap h) (hB : h.objs.size = B) (hx : Ext h h')
    (D1 : Draws PG P.c.w P.c.A.in1 B fp1 n1 P1 S1) (D2 : Draws PG P.c.w P.c.A.in1 (B + 1) fp2 n2 P2 S2) (f1 : ∀ b ∈ fp1, b = B ∨ ¬ P.bad b ∧ ∃ o, h.get? b = some o) (f2 : ∀ b ∈ fp2, b = B + 1 ∨ ¬ P.bad b ∧ ∃ o, h.get? b = some o)
    (hz : IsZip h' (B + 4) (B + 2) (B + 3) .none) (hTI : IsPair h' (B + 2) (.ref B) (.ref (B + 1))) (hTO : IsPair h' (B + 3) .none .none) (h1 : S1 0 h') (h2 : S2 0 h')
    (l1 : us.length = n1) (l2 : vs.length = n2) (v1 : ∀ i x, P1 i x → ∃ w, us[i]? = some w ∧ RV h P.bad w x) (v2 : ∀ i x, P2 i x → ∃ w, vs[i]? = some w ∧ RV h P.bad w x)
    (hQ : ∀ (I : Addr) (fp wr : List Addr) (Pi Md : Nat → Value → Heap → Prop) (St : Nat → Heap → Prop) (h : Heap) (tk : Nat), Ext s.heap h → KTurns PG P.c.w P.c.A (.Tuple elts kk pos) I fp wr (List.zipWith (fun u v => AV.tup [u, v]) us vs).length Pi Md St → St 0 h → (∀ (s : Shared) (Q : Value → Shared → Prop) (E : Value → Shared → Prop), St 0 s.heap → Q (.ref I) s → wpAny (model PG P.c.w) P.c.A (pyIter (.ref I)) Q E s) →
      (∀ b ∈ wr, s.heap.get? b = none ∧ ∃ o, h.get? b = some o) → (∀ b ∈ fp, b ∉ wr → ¬ P.bad b ∧ ∃ o, h.get? b = some o) → (∀ i h', St i h' → ∀ b ∈ wr, ∃ o, h'.get? b = some o) →
      (∀ X : Addr → Prop, (∀ a, X a → h.get? a = none) → ∀ i v h', i < (List.zipWith (fun u v => AV.tup [u, v]) us vs).length → (∀ a o, a ∉ wr → ¬ P.bad a → h.get? a = some o → h'.get? a = some o) → Pi i v h' → ∃ w, (List.zipWith (fun u v => AV.tup [u, v]) us vs)[i]? = some w ∧ IV h' (fun a => (P.bad a ∨ a ∈ wr) ∨ X a) w v) → Q (.ref I) { s with heap := h, toks := tk }) :
    wpAny (model PG P.c.w) P.c.A (pyIter (.ref (B + 4))) Q E { s with heap := h', toks := tk } := by
  have old : ∀ {b : Addr} {o}, h.get? b = some o → ∀ k, b ≠ B + k := fun {b o} e k q => by
    have := Heap.lt_size e
    rw [hB, q] at this
    exact Nat.not_lt.mpr (Nat.le_add_right _ _) this
  have fresh : ∀ k, s.heap.get? (B + k) = none ∧ ¬ P.bad (B + k) := fun k => by
    have hn : ∀ o, s.heap.get? (B + k) ≠ some o := fun o e => old (ex _ _ e) k rfl
    refine ⟨?_, fun q => let ⟨o, e⟩ := P.low _ _ hs q; hn o e⟩
    cases q : s.heap.get? (B + k) with
    | none => rfl
    | some o => exact absurd q (hn o)
  have ne : ∀ {j k : Nat}, j ≠ k → @Ne Addr (B + j) (B + k) := fun h q => h (Nat.add_left_cancel q)
  have Z : ZAp (B + 4) (B + 2) (B + 3) B (B + 1) fp1 fp2 := ⟨ne (by decide), ne (by decide), ne (j := 0) (by decide), ne (by decide), ne (by decide), ne (k := 0) (by decide), ne (by decide), ne (k := 0) (by decide), ne (by decide), ne (j := 0) (by decide),
    fun b hb => (f1 b hb).elim (fun q => by rw [q]; exact ⟨ne (j := 0) (k := 4) (by decide), ne (j := 0) (k := 3) (by decide), ne (j := 0) (k := 1) (by decide)⟩) fun ⟨_, _, e⟩ => ⟨old e 4, old e 3, old e 1⟩,
    fun b hb => (f2 b hb).elim (fun q => by rw [q]; exact ⟨ne (j := 1) (k := 4) (by decide), ne (j := 1) (k := 3) (by decide), ne (j := 1) (k := 0) (by decide)⟩) fun ⟨_, _, e⟩ => ⟨old e 4, old e 3, old e 0⟩⟩
  have W := mz_turns (prog := PG) (w := P.c.w) (A := P.c.A) (elts := elts) (kk := kk) (pos := pos) rfl Z D1 D2
  have hlen : (List.zipWith (fun u v => AV.tup [u, v]) us vs).length = min n1 n2 := by rw [List.length_zipWith, l1, l2]
  have wr4 : ∀ b, b ∈ [B + 4, B + 3, B, B + 1] → b = B + 4 ∨ b = B + 3 ∨ b = B ∨ b = B + 1 := fun b hb => by
    simpa only [List.mem_cons, List.not_mem_nil, or_false] using hb
  have w4 : ∀ b, b ∈ [B + 4, B + 3, B, B + 1] → ∃ k, b = B + k := fun b hb => (wr4 b hb).elim (fun q => ⟨4, q⟩) fun q => q.elim (fun q => ⟨3, q⟩) fun q => q.elim (fun q => ⟨0, q⟩) fun q => ⟨1, q⟩
  have live : ∀ i h', (IsZip h' (B + 4) (B + 2) (B + 3) .none ∧ IsPair h' (B + 2) (.ref B) (.ref (B + 1)) ∧ (∃ a b, IsPair h' (B + 3) a b) ∧ S1 i h' ∧ S2 i h') → ∀ b ∈ [B + 4, B + 3, B, B + 1], ∃ o, h'.get? b = some o := fun i h' ⟨a1, a2, ⟨_, _, a3⟩, a4, a5⟩ b hb =>
    (wr4 b hb).elim (fun q => q ▸ ⟨_, a1⟩) fun q => q.elim (fun q => q ▸ ⟨_, a3⟩) fun q => q.elim (fun q => q ▸ D1.live _ _ a4) fun q => q ▸ D2.live _ _ a5
  have st0 : IsZip h' (B + 4) (B + 2) (B + 3) .none ∧ IsPair h' (B + 2) (.ref B) (.ref (B + 1)) ∧ (∃ a b, IsPair h' (B + 3) a b) ∧ S1 0 h' ∧ S2 0 h' := ⟨hz, hTI, ⟨_, _, hTO⟩, h1, h2⟩
  refine wpAny_pyIter_zip hz (hQ _ _ [B + 4, B + 3, B, B + 1] _ _ _ h' tk (ex.trans' hx) (hlen ▸ W) st0 (fun s Q E st hq => wpAny_pyIter_zip st.1 hq) (fun b hb => ?_) (fun b hb hn => ?_) (fun i h' st b hb => live i h' st b hb) fun X hX i v h2 hi kk hp => ?_)
  · obtain ⟨k, rfl⟩ := w4 b hb
    exact ⟨(fresh k).1, live _ _ st0 _ hb⟩
  · rw [List.mem_cons, List.mem_cons, List.mem_cons, List.mem_cons, List.mem_cons, List.mem_append] at hb
    have no : ∀ k, b = B + k → b ∈ [B + 4, B + 3, B, B + 1] → ¬ P.bad b ∧ ∃ o, h'.get? b = some o := fun k q m => absurd m hn
    rcases hb with q | q | q | q | q | q | q
    · exact absurd (q ▸ .head _) hn
    · subst q; exact ⟨(fresh 2).2, _, hTI⟩
    · exact absurd (q ▸ .tail _ (.head _)) hn
    · exact absurd (q ▸ .tail _ (.tail _ (.head _))) hn
    · exact absurd (q ▸ .tail _ (.tail _ (.tail _ (.head _)))) hn
    · exact (f1 b q).elim (fun q => absurd (q ▸ .tail _ (.tail _ (.head _))) hn) fun ⟨p, o, e⟩ => ⟨p, o, hx _ _ e⟩
    · exact (f2 b q).elim (fun q => absurd (q ▸ .tail _ (.tail _ (.tail _ (.head _)))) hn) fun ⟨p, o, e⟩ => ⟨p, o, hx _ _ e⟩
  · obtain ⟨T, x, y, rfl, hT, p1, p2⟩ := hp
    obtain ⟨w1, e1, r1⟩ := v1 i x p1
    obtain ⟨w2, e2, r2⟩ := v2 i y p2
    have mv : ∀ a o, ¬ P.bad a → h.get? a = some o → ¬ ((P.bad a ∨ a ∈ [B + 4, B + 3, B, B + 1]) ∨ X a) ∧ h2.get? a = some o := fun a o hb ho =>
      have hn : a ∉ [B + 4, B + 3, B, B + 1] := fun q => let ⟨k, e⟩ := w4 a q; old ho k e
      ⟨fun q => q.elim (fun q => q.elim hb hn) (fun q => by have := hx _ _ ho; rw [hX a q] at this; cases this), kk a o hn hb (hx _ _ ho)⟩
    exact ⟨.tup [w1, w2], by rw [List.getElem?_zipWith, e1, e2], T, [x, y], rfl, ⟨_, hT, rfl, _, rfl⟩, x, [y], rfl, r1.move mv, y, [], rfl, r2.move mv, rfl⟩
/-- zip over a list and a text -/
theorem It.zipS {P : Px} {pf : Pos} {elts : List Expr} {kk : Nat} {pos : Pos} {f e e2 : Expr} {us : List AV} {cs : List Nat} (hf : Ev P f (.glob (.type "zip"))) (he : Ev P e (.list us)) (h2 : Ev P e2 (.str (txt cs))) (hc : cs.all (· < 128) = true)
    (he' : starEach [e, e2] P.env = (false, eval e P.env) :: starEach [e2] P.env := by rfl) (he2' : starEach [e2] P.env = (false, eval e2 P.env) :: starEach [] P.env := by rfl) (hp : (backTo pf (starEach [e2] P.env)).any (·.1) = false := by rfl)
    (hw : eval (.Call f [e, e2] [] pf) P.env = (do callWith pf (← eval f P.env) [] (backTo pf (starEach [e, e2] P.env)) (backToKw pf (keywordEach [] P.env))) := by rfl) :
    It P (.Tuple elts kk pos) (.Call f [e, e2] [] pf) (List.zipWith (fun u v => AV.tup [u, v]) us (cs.map fun c => .str (ch c))) := fun s hs Q E hQ => by
  refine Call_ (hf s hs _ _ fun y h tk e1 r1 => ?_) hw
  cases r1
  refine Pv.callWith_type1 (args_cons (he _ (P.ok _ _ _ hs e1) _ _ fun y2 h2' tk2 e2 r2 => args_cons (h2 _ (P.ok _ _ _ hs (e1.trans' e2)) _ _ fun y3 h3 tk3 e3 r3 => args_nil ?_) he2') he') he' hp
  obtain ⟨t, rfl⟩ := r3
  obtain ⟨a, xs, n, rfl, hb, ho, rs⟩ := r2.ext e3
  have hl : h3.IsList a xs.toArray := ⟨_, ho, rfl, n, rfl⟩
  refine mz_call hl (by show cs.toArray.all _ = true; rw [List.all_toArray]; exact hc) fun h' hz hTI hTO hi1 hi2 hsz up => ?_
  refine zip_core (s := s) (h := h3) (us := us) (vs := cs.map fun c => .str (ch c)) hs ((e1.trans' e2).trans' e3) rfl up (Draws.list rfl _ a (Nat.ne_of_lt (Heap.lt_size ho)) xs.toArray) (Draws.strAscii rfl _ (txt cs) t) (fun b hb' => ?_) (fun b hb' => .inl (List.mem_singleton.mp hb')) hz hTI hTO ⟨hi1, hl.at fun o e => up _ o e⟩ hi2
    (by rw [List.size_toArray]; exact rs.len.symm) (by rw [List.length_map]; exact (List.size_toArray ..).symm) (fun i x hp => ?_) (fun i x hp => ?_) hQ
  · exact (List.mem_cons.mp hb').elim .inl fun q => .inr (List.mem_singleton.mp q ▸ ⟨hb, _, ho⟩)
  · rw [List.getElem?_toArray] at hp
    have hi : i < us.length := by rw [← rs.len]; exact (List.getElem?_eq_some_iff.mp hp).1
    obtain ⟨z, hz', rz⟩ := rs.at (List.getElem?_eq_getElem hi)
    rw [hp] at hz'; cases hz'
    exact ⟨_, List.getElem?_eq_getElem hi, rz⟩
  · obtain ⟨c, u, hc', rfl⟩ := hp
    have hc' : cs[i]? = some c := by rw [← List.getElem?_toArray]; exact hc'
    exact ⟨.str (ch c), by rw [List.getElem?_map, hc']; rfl, u, rfl⟩
end Mine
end
section
open PySem PySem.W PyProof.Rows PySem.Calls PySem.Spec PyProof.Rows.LCg
set_option maxRecDepth 100000
set_option maxHeartbeats 4000000
namespace Mine
section
variable {P : Px} {pos : Pos} {e i l r : Expr}
/-- an item of a list -/
theorem Ev.itemL {k : Int} {v : AV} {vs : List AV} (he : Ev P e (.list vs)) (hi : Ev P i (.int k)) (h0 : 0 ≤ k) (hf : k < 2 ^ 63) (hv : vs[k.toNat]? = some v)
    (hs : ∀ l u, subscripted i false (.ref l) (.int k u) = operate [.ref l, .int k u] (getItem (.ref l) (.int k u)) := by intro _ _; with_unfolding_all rfl) : Ev P (.Subscript e i pos) v := fun s I Q E hQ =>
  Subscript_ (he s I _ _ fun y h tk ex r => hi _ (P.ok _ _ _ I ex) _ _ fun y1 h1 tk1 e1 r1 => by
    obtain ⟨u, rfl⟩ := r1
    obtain ⟨a, xs, n, rfl, hb, ho, rs⟩ := r.ext e1
    obtain ⟨z, hz, rz⟩ := rs.at hv
    exact item_listR (s := { s with heap := h1, toks := tk1 }) ⟨_, ho, rfl, n, rfl⟩ h0 hf (by rw [List.getElem?_toArray]; exact hz) (hQ z h1 tk1 (ex.trans' e1) rz) (hs a u))
theorem Cv.tyInt {k : Int} : Cv P (.type "type") [.int k] (.glob (.type "int")) := fun s hs ys r Q E hQ => by
  obtain ⟨_, _, rfl, ⟨t, rfl⟩, rfl⟩ := r
  exact call_type_of (Tx := "int") rfl (by decide +kernel) (hQ _ _ _ Ext.rfl' rfl)
theorem Cv.tyTup {vs : List AV} : Cv P (.type "type") [.tup vs] (.glob (.type "tuple")) := fun s hs ys r Q E hQ => by
  obtain ⟨_, _, rfl, ⟨a, xs, n, rfl, _, ho, _⟩, rfl⟩ := r
  exact call_type_of (Tx := "tuple") ⟨_, ho, rfl⟩ (by decide +kernel) (hQ _ _ _ Ext.rfl' rfl)
theorem Ev.isNotT {X : String} (hl : Ev P l (.glob (.type X))) (hr : Ev P r (.glob (.type X))) (hm : behindInMarks .IsNot r = false := by with_unfolding_all rfl) : EvT P (.Compare l [.IsNot] [r] pos) false :=
  hl.cmp hr (hm := hm) fun s _ _ _ e1 e2 _ _ hQ => by cases e1; cases e2; exact isnot_type_same (hQ s.heap s.toks Ext.rfl')
end
section
variable {c : Cx} {mu ob : Addr → Prop} {σ : Loc} {N : Loc → Prop} {R : AV → Prop} {s : Shared} {pos px p1 p2 : Pos} {e i : Expr} {x : Str} {a : Addr} {vs : List AV}
/-- x.append(e) -/
theorem Ws.app {v : AV} {pl : Sem Bool} (hx : σ.lookup x = some (.mut a vs)) (he : Ev (Px.fn c mu ob σ) e v) (hz : vs.length ≤ 1000) (hn : N ((x, .mut a (vs ++ [v])) :: σ)) (ho1 : only x σ = true := by rfl) (hd : (x == ("__debug__" : Str)) = false := by decide)
    (hi : interactive c.env = false := by rfl) (hsw : swapsWith (.Call (.Attribute (.Name x px) (Str.ofString "append") p1) [e] [] p2) none pos.line c.env = pure false := by rfl)
    (hc : eval (.Call (.Attribute (.Name x px) (Str.ofString "append") p1) [e] [] p2) c.env = (do
      let ov ← eval (.Name x px) c.env
      standAt p1.atName
      let (f, first) ← holding [ov] (getMethod ov (Str.ofString "append") pl)
      callWith p2 f first (backTo p2 (starEach [e] c.env)) []) := by rfl) (hst : starEach [e] c.env = (false, eval e c.env) :: starEach [] c.env := by rfl) : Ws c mu ob σ (.Expr (.Call (.Attribute (.Name x px) (Str.ofString "append") p1) [e] [] p2) pos) N R := fun s I Q E H => by
  refine wpAny_Expr_any (MethodCall_ (load_mut I hx hd fun xs n ho rs => Calls.getMethod_list_append ho rfl rfl (callWith_method1 (args_cons (he s I _ _ fun y h1 tk1 e1 r1 => args_nil ?_) hst) hst)) hc) hi hsw
  refine append_at (s := { s with heap := h1, toks := tk1 }) (hsz := by show xs.toArray.size ≤ sizeLine; rw [List.size_toArray, rs.len, sizeLine_eq]; omega) (e1 _ _ ho) fun h2 hs2 hD => ?_
  have hD' : h2.get? a = some (listOf (xs ++ [y]).toArray (n + 1)) := hD.trans (by rw [← List.push_toArray])
  obtain ⟨I3, k3⟩ := (I.ext e1).setm hx ho1 hs2 hD' ((rs.ext e1).append (ws := [v]) ⟨y, [], rfl, r1, rfl⟩)
  exact H.1 _ _ tk1 hn I3 ((Kp.ext e1).trans k3)
end
end Mine
end
section
open PySem PySem.W PyProof.Rows PySem.Calls PySem.Spec PyProof.Rows.LCg
set_option maxRecDepth 100000
set_option maxHeartbeats 4000000
namespace Mine
/-! names that are cells -/
theorem bindL_other {K : Str → Option NameKind} {x : Str} : ∀ {l : List (Str × Value)} {m : Str → Option Value}, x ∉ l.map (·.1) → bindL K l m x = m x
  | [], _, _ => rfl
  | (n, v) :: r, m, h => by
    rw [List.map_cons, List.mem_cons, not_or] at h
    rw [bindL, bindL_other h.2]
    split
    · exact if_neg h.1
    · rfl
theorem bindC_other {K : Str → Option NameKind} {x : Str} : ∀ {l : List (Str × Value)} {m : Str → Option Value}, x ∉ l.map (·.1) → bindC K l m x = m x
  | [], _, _ => rfl
  | (n, v) :: r, m, h => by
    rw [List.map_cons, List.mem_cons, not_or] at h
    rw [bindC, bindC_other h.2]
    split
    · rfl
    · exact if_neg h.1
theorem bindL_at {K : Str → Option NameKind} {x : Str} {y : Value} (hk : K x = some .local) : ∀ {l : List (Str × Value)} {m : Str → Option Value}, (l.map (·.1)).Nodup → l.lookup x = some y → bindL K l m x = some y
  | [], _, _, h => nomatch h
  | (n, v) :: r, m, hn, h => by
    rw [List.map_cons, List.nodup_cons] at hn
    rw [List.lookup_cons] at h
    cases q : x == n with
    | true =>
      rw [q] at h; cases h
      obtain rfl := eq_of_beq q
      rw [bindL, bindL_other hn.1, if_pos hk]; exact if_pos rfl
    | false => rw [q] at h; rw [bindL]; exact bindL_at hk hn.2 h
theorem bindC_at {K : Str → Option NameKind} {x : Str} {y : Value} (hk : K x ≠ some .local) : ∀ {l : List (Str × Value)} {m : Str → Option Value}, (l.map (·.1)).Nodup → l.lookup x = some y → bindC K l m x = some y
  | [], _, _, h => nomatch h
  | (n, v) :: r, m, hn, h => by
    rw [List.map_cons, List.nodup_cons] at hn
    rw [List.lookup_cons] at h
    cases q : x == n with
    | true =>
      rw [q] at h; cases h
      obtain rfl := eq_of_beq q
      rw [bindC, bindC_other hn.1, if_neg hk]; exact if_pos rfl
    | false => rw [q] at h; rw [bindC]; exact bindC_at hk hn.2 h
theorem pair_inj {x y : Str} {a : Addr} : ∀ {l : List (Str × Addr)}, l.Pairwise (fun x y => x.2 ≠ y.2) → (x, a) ∈ l → (y, a) ∈ l → x = y
  | _ :: r, .cons h hr, hx, hy => by
    rcases List.mem_cons.mp hx with e | hx
    · rcases List.mem_cons.mp hy with e' | hy
      · rw [← e] at e'; exact (congrArg Prod.fst e').symm
      · exact absurd (by rw [← e]) (h _ hy)
    · rcases List.mem_cons.mp hy with e' | hy
      · exact absurd (by rw [← e']) (h _ hx)
      · exact pair_inj hr hx hy
section
variable {w : World} {mg mb : Str → Option Value} {mean : ExcName → Option Value} {f : Addr} {D : Nat} {vs : List AV} {r : AV}
  {name qual : Str} {params : Arguments} {body : List Stmt} {scope : Scope} {dV kV doc pm cdv ct oc : Value} {an od : Option Addr} {osl : Array (Option Value)}
theorem ctv_ofC (names : List Str) (ho : (hd.heap_39 w.params).lookup f = some ⟨oc, od, .func (fnOf name qual params body scope dV kV doc pm an cdv ct), osl⟩) (hcd : codeIn (hd.heap_39 w.params) cdv qual = true)
    (hD : 0 < D) (hbind : ∀ s ys, ys.length = vs.length → BindsTo s (fnOf name qual params body scope dV kV doc pm an cdv ct) ⟨ys, []⟩ (names.zip ys)) (hln : vs.length = names.length) (hloc : (names.all fun y => scope.names.lookup y == some .local || scope.names.lookup y == some .cell) = true) (hnd : names.Nodup)
    (h : ∀ (dp un : Nat) (gd : Option (List Code)) (outer : List Env) (A₀ : Around) (base g : Heap) (L : Addr) (ob : Addr → Prop), dp + D < recursionLimit + 1 → un + 8 * D < cLine + 3 →
      Wp ⟨w, mg, mb, mean, dp, un, gd, qual, scope, L, f, cdv, cellsFrom (L + 1) scope.names [], outer, A₀, base, g, ob⟩ (fun _ => False) ob (names.zip vs) body (fun _ => False) (fun v => v = r))
    (hco : scope.isCoroutine = false) (hgen : scope.isGenerator = false) (hk : scope.kind = .function) : CtV w mg mb mean f D vs r := by
  rintro P rfl rfl rfl rfl hd hu s hs ys rv Q E hQ
  obtain ⟨O, m, F⟩ := P.fr s hs
  refine wpAny_call ?_
  have hl := rv.len
  have hzn : (names.zip ys).map (·.1) = names := zip_names (hl.trans hln)
  obtain ⟨FG, BG, st, -⟩ := groundX (A := P.c.A) (R := fun _ _ => True) (env := P.c.env) (news := []) O.B F (fun p hp => nomatch hp) rfl rfl O.k
  have hkind : ((names.zip ys).all fun y => scope.names.lookup y.1 == some .local || scope.names.lookup y.1 == some .cell) = true := by
    rw [List.all_eq_true] at hloc ⊢
    exact fun p hp => hloc p.1 (hzn ▸ List.mem_map_of_mem hp)
  refine codeAny_call_function (by show P.c.dp < recursionLimit; omega) ((O.X.keeps F.keep) _ _ ho) rfl hco hgen rfl (codeRec_of (O.X.keeps F.keep) hcd) (hbind s ys hl _ _ _ _ ?_)
  refine wpAny_newFunctionEnv_cells hk (kindsX hkind _) fun env' he s' x => ?_
  subst he
  refine ⟨((O.T.nolimit.keeps F.keep)).keeps x.toInCall.keep, codeAny_func ?_⟩
  obtain ⟨h₁, tk, rfl, _⟩ := x.done
  have hk₁ : ∀ b o, s.heap.get? b = some o → h₁.get? b = some o := x.toInCall.keep
  have F' : Fr (hideAll s.heap []) s.heap.objs.size h₁ (bindL (envOfC qual scope s.heap.objs.size f cdv).kindOf (names.zip ys) fun _ => none) := ⟨x.toInCall.ns, fun b o e => hk₁ b o (of_hideAll _ e), Nat.le_of_eq (hideAll_size _ _)⟩
  have new : ∀ a, P.bad a → @LT.lt Nat _ a s.heap.objs.size := fun a ha => let ⟨_, e⟩ := P.low s a hs ha; Heap.lt_size e
  have above : ∀ y a, (cellsFrom (s.heap.objs.size + 1) scope.names []).lookup y = some a → @LT.lt Nat _ s.heap.objs.size a := fun y a e => x.above y a (lookup_mem e)
  have T : ∀ a o, ¬ P.bad a → s.heap.get? a = some o → ¬ (P.bad a ∨ False ∨ a = s.heap.objs.size ∨ ∃ y, (cellsFrom (s.heap.objs.size + 1) scope.names []).lookup y = some a) ∧ h₁.get? a = some o := fun a o hb ho => ⟨fun q => by
    rcases q with q | q | q | ⟨_, e⟩
    · exact hb q
    · exact q
    · exact Nat.ne_of_lt (Heap.lt_size ho) q
    · exact Nat.lt_asymm (Heap.lt_size ho) (above _ _ e), hk₁ _ _ ho⟩
  have I : FnInv ⟨P.c.w, P.c.mg, P.c.mb, P.c.mean, P.c.dp + 1, P.c.un + 3, P.c.gd, qual, scope, s.heap.objs.size, f, cdv, cellsFrom (s.heap.objs.size + 1) scope.names [], _, _, P.c.base, hideAll s.heap [], P.bad⟩ (fun _ => False) P.bad (names.zip vs) h₁ :=
    { ok := ⟨BG, O.X.keeps st, O.T.keeps st, hk⟩
      rb := fun a ha => ha
      obs := fun a ha => ⟨Nat.ne_of_lt (new a ha), fun y e => Nat.lt_asymm (new a ha) (above y a e), (P.low s a hs ha).imp fun o e => hk₁ _ _ e⟩
      mus := fun _ h => h.elim
      cells := fun y a e => ⟨Nat.ne_of_gt (above y a e), none_of_ext (h' := s.heap) (fun b o e => of_hideAll _ e) (Heap.get?_none_of_le (Nat.le_of_lt (above y a e))), let ⟨o, p, q⟩ := x.cell y a e; ⟨o, _, p, q⟩⟩
      inj := fun y z a e1 e2 => pair_inj x.apart (lookup_mem e1) (lookup_mem e2)
      fr := ⟨_, F', fun y v hx => by
        obtain ⟨z, hz, rz⟩ := zip_lookup rv hx
        rcases kindsX hkind (s.heap.objs.size + 1) (y, z) (lookup_mem hz) with q | ⟨q, q2⟩
        · exact .inl ⟨q, z, bindL_at q (by rw [hzn]; exact hnd) hz, (rz.move T).rm⟩
        · obtain ⟨a, ha⟩ := Option.isSome_iff_exists.mp q2
          obtain ⟨o, p, d⟩ := x.cell y a ha
          refine .inr ⟨q, a, o, z, ha, p, d.trans (congrArg _ (bindC_at (fun q' => ?_) (by rw [hzn]; exact hnd) hz)), (rz.move T).rm⟩
          have q' : scope.names.lookup y = some .local := q'
          rw [q] at q'; cases q'⟩ }
  refine wpAny_mono (h (P.c.dp + 1) (P.c.un + 3) P.c.gd _ _ P.c.base _ s.heap.objs.size P.bad (by omega) (by omega) { s with heap := h₁, toks := tk } I
    (fun fl s' => ∃ y h' tk', fl = .ret y ∧ s' = { s with heap := h', toks := tk' } ∧ (∃ m, Fr (hideAll s.heap []) s.heap.objs.size h' m) ∧ RV h' P.bad r y) (fun _ _ => False) ⟨fun _ _ _ n => n.elim, ?_⟩) (fun fl s' hl => ?_) fun _ _ y => y.elim
  · rintro _ y h' tk' rfl hm ry
    exact ⟨y, h', tk', rfl, rfl, hm, ry⟩
  · obtain ⟨y, h', tk', rfl, rfl, ⟨m', F''⟩, ry⟩ := hl
    exact hQ y h' tk' (fun b o e => F''.keep b o (hideAll_get _ e (fun hm => nomatch hm))) ry
end
end Mine
end
section
open PySem PySem.W PyProof.Rows PySem.Calls PySem.Spec PyProof.Rows.LCg
set_option maxRecDepth 100000
set_option maxHeartbeats 4000000
namespace Mine
theorem rv_ints {h : Heap} {bad : Addr → Prop} : ∀ {ns : List Int} {xs : List Value}, RVs h bad (ns.map .int) xs → IntsAre xs ns
  | [], _, r => by cases r; exact .nil
  | n :: ns, _, ⟨_, _, e, ⟨t, e1⟩, rs⟩ => by subst e; subst e1; exact .cons n t (rv_ints rs)
theorem ints_getD : ∀ {xs : List Value} {ns : List Int}, IntsAre xs ns → ∀ {i : Nat} {v : Value}, xs[i]? = some v → ∃ t, v = .int (ns.getD i 0) t
  | _, _, .cons n t r, 0, v, e => by cases e; exact ⟨t, rfl⟩
  | _, _, .cons n t r, i + 1, v, e => ints_getD r (i := i) e
section
variable {P : Px} {pos : Pos} {e i l r : Expr} {ns ms : List Int}
theorem Cv.sumL : Cv P (.builtin "sum") [.list (ns.map .int)] (.int ns.sum) := fun s hs ys rr Q E hQ => by
  obtain ⟨_, _, rfl, ⟨a, xs, n, rfl, hb, ho, rs⟩, rfl⟩ := rr
  have hl : s.heap.IsList a xs.toArray := ⟨_, ho, rfl, n, rfl⟩
  have hi := rv_ints rs
  have hne : a ≠ s.heap.objs.size := Nat.ne_of_lt (Heap.lt_size ho)
  refine call_sum_walkG (wpAny_pyIter_list hl ⟨_, _, _, _, _, _, fun i => ns.getD i 0, rfl, Walks.list (A := P.c.A.in1) rfl s.heap.objs.size a hne xs.toArray, ⟨⟨_, Heap.get?_push_size _ rfl, rfl, rfl⟩, hl.push _⟩, fun b hb' => ?_, fun j v hp => ?_, fun h' tk t' hk => ?_⟩)
  · show b < (s.heap.push _).objs.size
    rw [Heap.size_push]
    rcases List.mem_cons.mp hb' with rfl | hb'
    · exact Nat.lt_succ_self _
    · rw [List.mem_singleton.mp hb']; exact Nat.lt_succ_of_lt (Heap.lt_size ho)
  · have hp : xs.toArray[j]? = some v := hp
    rw [List.getElem?_toArray] at hp
    exact ints_getD hi hp
  · rw [preSum_getD, List.size_toArray, hi.length, List.take_length]
    exact hQ _ h' tk (fun b o e => hk b o (fun q => by rw [List.mem_singleton.mp q] at e; exact Nat.lt_irrefl _ (Heap.lt_size e)) (Heap.get?_push_of_some _ e)) ⟨t', rfl⟩
noncomputable def MaxIs (ns : List Int) (K : Int) : Prop := K ∈ ns ∧ ∀ a ∈ ns, a ≤ K
theorem Cv.maxL {K : Int} (hk : MaxIs ns K) : Cv P (.builtin "max") [.list (ns.map .int)] (.int K) := fun s hs ys rr Q E hQ => by
  obtain ⟨_, _, rfl, ⟨a, xs, n, rfl, hb, ho, rs⟩, rfl⟩ := rr
  obtain ⟨c, m, F⟩ := P.fr s hs
  have hl : s.heap.IsList a xs.toArray := ⟨_, ho, rfl, n, rfl⟩
  have hi := rv_ints rs
  obtain ⟨zs, e⟩ := hi.allInts.items
  have hns : ns = zs.toList.map (·.1) := by rw [← hi.numsOf, ← nums_intItems, ← e]
  have hsz : 0 < zs.size := by
    have h3 := List.length_pos_of_mem hk.1
    rw [hns, List.length_map, Array.length_toList] at h3; exact h3
  rw [e] at hl
  refine max_intList rfl hl hsz fun v h' tk hv hkeep => ?_
  obtain ⟨t, rfl⟩ := intItems_at hv
  obtain ⟨h1, h2⟩ := argBest_gt (numAt zs) (zs.size - 1)
  have hM : numAt zs (argBest (fun i j => decide (numAt zs i > numAt zs j)) (zs.size - 1)) = K := by
    refine Int.le_antisymm (hk.2 _ ?_) ?_
    · rw [hns, numAt_eq]; exact getD_mem (by rw [List.length_map, Array.length_toList]; omega)
    · have hm := hk.1
      rw [hns] at hm
      obtain ⟨j, hj, hjk⟩ := List.mem_iff_getElem.mp hm
      have hjs : j < zs.size := by rwa [List.length_map, Array.length_toList] at hj
      have := h2 j (by omega)
      have e2 : numAt zs j = K := by
        rw [numAt_eq, List.getD_eq_getElem?_getD, List.getElem?_eq_getElem hj, hjk]; rfl
      rw [← e2]; exact this
  rw [hM]
  exact hQ _ h' tk hkeep ⟨t, rfl⟩
/-- two lists of ints -/
theorem Ev.neL (hu : P.c.un + 64 < cLine) (hl : Ev P l (.list (ns.map .int))) (hr : Ev P r (.list (ms.map .int))) (hm : behindInMarks .NotEq r = false := by with_unfolding_all rfl) : EvT P (.Compare l [.NotEq] [r] pos) (!decide (ns = ms)) :=
  hl.cmp hr (hm := hm) fun s _ x y r1 r2 _ _ hQ => by
    obtain ⟨a, xs, n, rfl, -, ho, rs⟩ := r1
    obtain ⟨b, ys, n2, rfl, -, ho2, rs2⟩ := r2
    exact ke_ne_ints (A := P.c.A) ⟨_, ho, rfl, n, rfl⟩ ⟨_, ho2, rfl, n2, rfl⟩ (rv_ints rs) (rv_ints rs2) hu (hQ s.heap s.toks Ext.rfl')
theorem Ev.eqL (hu : P.c.un + 64 < cLine) (hl : Ev P l (.list (ns.map .int))) (hr : Ev P r (.list (ms.map .int))) (hm : behindInMarks .Eq r = false := by with_unfolding_all rfl) : EvT P (.Compare l [.Eq] [r] pos) (decide (ns = ms)) :=
  hl.cmp hr (hm := hm) fun s _ x y r1 r2 _ _ hQ => by
    obtain ⟨a, xs, n, rfl, -, ho, rs⟩ := r1
    obtain ⟨b, ys, n2, rfl, -, ho2, rs2⟩ := r2
    exact ke_eq_ints (A := P.c.A) ⟨_, ho, rfl, n, rfl⟩ ⟨_, ho2, rfl, n2, rfl⟩ (rv_ints rs) (rv_ints rs2) hu (hQ s.heap s.toks Ext.rfl')
end
/-! parts of a list -/
noncomputable def pickV {α : Type} (vs : List α) (lo hi : Option Int) : List α :=
  (sliceRange (sliceBounds lo hi none vs.length).1 (sliceBounds lo hi none vs.length).2.1 (sliceBounds lo hi none vs.length).2.2).filterMap (vs[·]?)
theorem rvs_pick {h : Heap} {bad : Addr → Prop} {vs : List AV} {xs : List Value} (rs : RVs h bad vs xs) : ∀ (ix : List Nat), RVs h bad (ix.filterMap (vs[·]?)) (ix.filterMap (xs[·]?))
  | [] => rfl
  | j :: ix => by
    cases e : vs[j]? with
    | none =>
      have e2 : xs[j]? = none := by
        rw [List.getElem?_eq_none_iff] at e ⊢; rw [rs.len]; exact e
      rw [List.filterMap_cons_none e, List.filterMap_cons_none e2]
      exact rvs_pick rs ix
    | some v =>
      obtain ⟨y, hy, ry⟩ := rs.at e
      rw [List.filterMap_cons_some e, List.filterMap_cons_some hy]
      exact ⟨y, _, rfl, ry, rvs_pick rs ix⟩
theorem rvs_pickV {h : Heap} {bad : Addr → Prop} {vs : List AV} {xs : List Value} {lo hi : Option Int} (rs : RVs h bad vs xs) : RVs h bad (pickV vs lo hi) (pickV xs lo hi) := by
  have := rvs_pick rs (sliceRange (sliceBounds lo hi none vs.length).1 (sliceBounds lo hi none vs.length).2.1 (sliceBounds lo hi none vs.length).2.2)
  unfold pickV
  rw [rs.len]
  exact this
theorem slicePick_list {xs : List Value} {lo hi : Option Int} : slicePick xs.toArray lo hi none = (pickV xs lo hi).toArray := by
  unfold slicePick pickV
  rw [List.size_toArray]
  simp only [List.getElem?_toArray]
section
variable {P : Px} {pos sp : Pos} {v a b : Expr} {vs : List AV}
theorem partL {s : Shared} {h : Heap} {tk : Nat} {al : Addr} {xs : List Value} {n : Nat} {vl vu : Value} {lo hi : Option Int} {slice : Expr} {Q E : Value → Shared → Prop} (hs : P.inv s) (ex : Ext s.heap h) (hb : ¬ P.bad al) (ho : h.get? al = some (listOf xs.toArray n)) (rs : RVs h P.bad vs xs) (hz : vs.length ≤ 1000)
    (pl : IsPart vl lo) (pu : IsPart vu hi) (hQ : ∀ y h' tk', Ext s.heap h' → RV h' P.bad (.list (pickV vs lo hi)) y → Q y { s with heap := h', toks := tk' })
    (hs1 : subscripted slice false (.ref al) (.ref h.objs.size) = operate [.ref h.objs.size, .ref al] (getItem (.ref al) (.ref h.objs.size))) (ht : ∀ r, letTemporaryGo v (.ref al) r = pure ()) :
    wpAny (model PG P.c.w) P.c.A (subscriptTail v slice (.ref al) (.ref h.objs.size)) Q E { s with heap := h.push { cls := .type "slice", data := .fields #[vl, vu, .none] }, toks := tk } := by
  have hl : h.IsList al xs.toArray := ⟨_, ho, rfl, n, rfl⟩
  have e1 : Ext h (h.push { cls := .type "slice", data := .fields #[vl, vu, .none] }) := fun b o e => Heap.get?_push_of_some _ e
  refine subscriptTail_ops (Heap.IsList.typeIs (s := { s with heap := h.push { cls := .type "slice", data := .fields #[vl, vu, .none] }, toks := tk }) (hl.push _)) list_getitem_lookup
    (wpAny_getItem_list_slice (hl.push _) (Heap.IsSliceOf.new ..) pl pu .none (by simp) ?_ (by rw [List.size_toArray, rs.len, sizeLine_eq]; omega)) hs1 ht
  rw [slicePick_list]
  have e2 : Ext (h.push { cls := .type "slice", data := .fields #[vl, vu, .none] }) ((h.push { cls := .type "slice", data := .fields #[vl, vu, .none] }).push { cls := .type "list", data := .seq (pickV xs lo hi).toArray }) := fun b o e => Heap.get?_push_of_some _ e
  refine hQ _ _ tk (ex.trans' (e1.trans' e2)) ⟨_, pickV xs lo hi, 0, rfl, fun q => ?_, Heap.get?_push_size _ rfl, ?_⟩
  · obtain ⟨o, e⟩ := P.low _ _ hs q
    exact Nat.lt_irrefl _ (Heap.lt_size (e1 _ _ (ex _ _ e)))
  · exact rvs_pickV ((rs.ext e1).ext e2)
theorem Ev.partSS {i j : Int} (hz : vs.length ≤ 1000) (hv : Ev P v (.list vs)) (ha : Ev P a (.int i)) (hb : Ev P b (.int j))
    (hs : ∀ t r, subscripted (.Slice (some a) (some b) none sp) false (.ref t) (.ref r) = operate [.ref r, .ref t] (getItem (.ref t) (.ref r)) := by intro _ _; with_unfolding_all rfl)
    (ht : ∀ t r, letTemporaryGo v (.ref t) r = pure () := by intro _ _; with_unfolding_all rfl) : Ev P (.Subscript v (.Slice (some a) (some b) none sp) pos) (.list (pickV vs (some i) (some j))) := fun s hs0 Q E hQ =>
  Subscript_ (hv s hs0 _ _ fun y h tk e r => by
    obtain ⟨al, xs, n, rfl, hbad, ho, rs⟩ := r
    refine wpAny_Slice (evalPart_some_step (ha _ (P.ok _ _ _ hs0 e) _ _ fun y1 h1 tk1 e1 r1 => evalPart_some_step (hb _ (P.ok _ _ _ (P.ok _ h tk hs0 e) e1) _ _ fun y2 h2 tk2 e2 r2 => evalPart_none_step ?_)))
    obtain ⟨u, rfl⟩ := r1
    obtain ⟨u2, rfl⟩ := r2
    exact partL (s := s) (h := h2) hs0 ((e.trans' e1).trans' e2) hbad (e2 _ _ (e1 _ _ ho)) ((rs.ext e1).ext e2) hz (.int _ _) (.int _ _) hQ (hs _ _) (ht _))
theorem Ev.partN {j : Int} (hz : vs.length ≤ 1000) (hv : Ev P v (.list vs)) (hb : Ev P b (.int j))
    (hs : ∀ t r, subscripted (.Slice none (some b) none sp) false (.ref t) (.ref r) = operate [.ref r, .ref t] (getItem (.ref t) (.ref r)) := by intro _ _; with_unfolding_all rfl)
    (ht : ∀ t r, letTemporaryGo v (.ref t) r = pure () := by intro _ _; with_unfolding_all rfl) : Ev P (.Subscript v (.Slice none (some b) none sp) pos) (.list (pickV vs none (some j))) := fun s hs0 Q E hQ =>
  Subscript_ (hv s hs0 _ _ fun y h tk e r => by
    obtain ⟨al, xs, n, rfl, hbad, ho, rs⟩ := r
    refine wpAny_Slice (evalPart_none_step (evalPart_some_step (hb _ (P.ok _ _ _ hs0 e) _ _ fun y2 h2 tk2 e2 r2 => evalPart_none_step ?_)))
    obtain ⟨u2, rfl⟩ := r2
    exact partL (s := s) (h := h2) hs0 (e.trans' e2) hbad (e2 _ _ ho) (rs.ext e2) hz .none (.int _ _) hQ (hs _ _) (ht _))
theorem Ev.partS {j : Int} (hz : vs.length ≤ 1000) (hv : Ev P v (.list vs)) (hb : Ev P b (.int j))
    (hs : ∀ t r, subscripted (.Slice (some b) none none sp) false (.ref t) (.ref r) = operate [.ref r, .ref t] (getItem (.ref t) (.ref r)) := by intro _ _; with_unfolding_all rfl)
    (ht : ∀ t r, letTemporaryGo v (.ref t) r = pure () := by intro _ _; with_unfolding_all rfl) : Ev P (.Subscript v (.Slice (some b) none none sp) pos) (.list (pickV vs (some j) none)) := fun s hs0 Q E hQ =>
  Subscript_ (hv s hs0 _ _ fun y h tk e r => by
    obtain ⟨al, xs, n, rfl, hbad, ho, rs⟩ := r
    refine wpAny_Slice (evalPart_some_step (hb _ (P.ok _ _ _ hs0 e) _ _ fun y2 h2 tk2 e2 r2 => evalPart_none_step (evalPart_none_step ?_)))
    obtain ⟨u2, rfl⟩ := r2
    exact partL (s := s) (h := h2) hs0 (e.trans' e2) hbad (e2 _ _ ho) (rs.ext e2) hz (.int _ _) .none hQ (hs _ _) (ht _))
end
end Mine
end
section
open PySem PySem.W PyProof.Rows PySem.Calls PySem.Spec PyProof.Rows.LCg
set_option maxRecDepth 100000
set_option maxHeartbeats 4000000
namespace Mine
theorem all_some {α : Type} (l : List α) : (l.map some).filterMap id = l := by
  induction l with
  | nil => rfl
  | cons a l ih => exact congrArg (a :: ·) ih
theorem none_some {α β : Type} (l : List α) : (l.map fun _ => (none : Option β)).filterMap id = [] := by
  induction l with
  | nil => rfl
  | cons a l ih => exact ih
theorem map_at {α β : Type} {f : α → β} {l : List α} {i : Nat} {w : β} (h : (l.map f)[i]? = some w) : ∃ a, l[i]? = some a ∧ w = f a := by
  rw [List.getElem?_map] at h
  cases ha : l[i]? with
  | none => rw [ha] at h; cases h
  | some a => rw [ha] at h; cases h; exact ⟨a, rfl, rfl⟩
section
variable {c : Cx} {mu ob : Addr → Prop} {σ : Loc} {N : Loc → Prop} {R : AV → Prop} {tg iter elt t : Expr} {scope : Scope} {cl : List (Str × Addr)} {pos py spos : Pos} {ws vs : List AV} {y : Str}
/-- every item is taken -/
theorem Ev.compA (hclos : closureFor scope c.env = pure cl) (hit : It (Px.fn c mu ob σ) tg iter ws) (hkind : scope.kind = .function) (hcell : ∀ y ∈ scope.names, y.2 ≠ .cell)
    (hnames : ∀ z ∈ scope.names, z.2 = .local → scope.names.lookup z.1 = some .local)
    (hz : ws.length ≤ 1000) (hlen : vs.length = ws.length) (he : ∀ (K : Addr) (ob' : Addr → Prop) (i : Nat) (w u : AV), ws[i]? = some w → vs[i]? = some u → ∃ own, Binds c c.env scope (fun _ => cl) tg w own ∧ Ev (Px.comp c mu ob' σ scope cl K own) elt u)
    (hs : ∀ x, foldedSetIterable iter c.env x = pure x := by intro _; rfl) : Ev (Px.fn c mu ob σ) (.ListComp elt [⟨tg, iter, [], 0⟩] scope pos) (.list vs) := by
  have := Ev.compL (ct := none) (os := vs.map some) (elt := elt) (pos := pos) rfl hclos hit hkind hcell hnames hz (by rw [List.length_map]; exact hlen) (fun K ob' i w o hw ho => by
    obtain ⟨u, hu, rfl⟩ := map_at ho
    obtain ⟨own, hb, hev⟩ := he K ob' i w u hw hu
    exact ⟨own, hb, u, rfl, hev⟩) hs
  rwa [all_some] at this
theorem Ws.asgCompA (hclos : closureFor scope c.env = pure cl) (hit : It (Px.fn c mu ob σ) tg iter ws) (hkind : scope.kind = .function) (hcell : ∀ y ∈ scope.names, y.2 ≠ .cell)
    (hnames : ∀ z ∈ scope.names, z.2 = .local → scope.names.lookup z.1 = some .local) (hl : Put c y = true)
    (hz : ws.length ≤ 1000) (hlen : vs.length = ws.length) (he : ∀ (K : Addr) (ob' : Addr → Prop) (i : Nat) (w u : AV), ws[i]? = some w → vs[i]? = some u → ∃ own, Binds c c.env scope (fun _ => cl) tg w own ∧ Ev (Px.comp c mu ob' σ scope cl K own) elt u)
    (hN : N ((y, .list vs) :: σ))
    (hsw : swapsWith (.ListComp elt [⟨tg, iter, [], 0⟩] scope pos) (some (.Name y py)) spos.line c.env = pure true := by rfl)
    (hs : ∀ x, foldedSetIterable iter c.env x = pure x := by intro _; rfl) : Ws c mu ob σ (.Assign [.Name y py] (.ListComp elt [⟨tg, iter, [], 0⟩] scope pos) spos) N R :=
  Ws.asgComp (ct := none) (os := vs.map some) rfl hclos hit hkind hcell hnames hl hz (by rw [List.length_map]; exact hlen) (fun K ob' i w o hw ho => by
    obtain ⟨u, hu, rfl⟩ := map_at ho
    obtain ⟨own, hb, hev⟩ := he K ob' i w u hw hu
    exact ⟨own, hb, u, rfl, hev⟩) (by rw [all_some]; exact hN) hsw hs
/-- every item is taken, wherever the comprehension stands -/
theorem Ev.compPA {F : Pf} {cl' : Addr → List (Str × Addr)} (hclos : closureFor scope F.env = pure cl) (hit : It (F.px ob) tg iter ws) (hkind : scope.kind = .function) (hne : NewEnv F scope cl cl')
    (hnames : ∀ z ∈ scope.names, z.2 = .local → scope.names.lookup z.1 = some .local)
    (hz : ws.length ≤ 1000) (hlen : vs.length = ws.length) (he : ∀ (K : Addr) (ob' : Addr → Prop) (i : Nat) (w u : AV), ws[i]? = some w → vs[i]? = some u → ∃ own, Binds F.c F.env scope cl' tg w own ∧ Ev (F.el ob' scope (cl' K) K own) elt u)
    (hs : ∀ x, foldedSetIterable iter F.env x = pure x := by intro _; rfl) : Ev (F.px ob) (.ListComp elt [⟨tg, iter, [], 0⟩] scope pos) (.list vs) := by
  have := Ev.compP (ct := none) (os := vs.map some) (elt := elt) (pos := pos) rfl hclos hit hkind hne hnames hz (by rw [List.length_map]; exact hlen) (fun K ob' i w o hw ho => by
    obtain ⟨u, hu, rfl⟩ := map_at ho
    obtain ⟨own, hb, hev⟩ := he K ob' i w u hw hu
    exact ⟨own, hb, u, rfl, hev⟩) hs
  rwa [all_some] at this
/-- no item is taken -/
theorem Ev.compN (hclos : closureFor scope c.env = pure cl) (hit : It (Px.fn c mu ob σ) tg iter ws) (hkind : scope.kind = .function) (hcell : ∀ y ∈ scope.names, y.2 ≠ .cell)
    (hnames : ∀ z ∈ scope.names, z.2 = .local → scope.names.lookup z.1 = some .local)
    (hz : ws.length ≤ 1000) (he : ∀ (K : Addr) (ob' : Addr → Prop) (i : Nat) (w : AV), ws[i]? = some w → ∃ own, Binds c c.env scope (fun _ => cl) tg w own ∧ EvT (Px.comp c mu ob' σ scope cl K own) t false)
    (hs : ∀ x, foldedSetIterable iter c.env x = pure x := by intro _; rfl) : Ev (Px.fn c mu ob σ) (.ListComp elt [⟨tg, iter, [t], 0⟩] scope pos) (.list []) := by
  have := Ev.compL (ct := some t) (os := ws.map fun _ => none) (elt := elt) (pos := pos) rfl hclos hit hkind hcell hnames hz (by rw [List.length_map]) (fun K ob' i w o hw ho => by
    obtain ⟨u, hu, rfl⟩ := map_at ho
    obtain ⟨own, hb, hev⟩ := he K ob' i w hw
    exact ⟨own, hb, false, hev, fun _ => rfl, fun h => nomatch h⟩) hs
  rwa [none_some] at this
end
end Mine
end
section
open PySem PySem.W PyProof.Rows PySem.Calls PySem.Spec PyProof.Rows.LCg
set_option maxRecDepth 100000
set_option maxHeartbeats 4000000
namespace Mine
section
variable {P : Px} {pos : Pos} {l r e t a b : Expr} {i j : Int}
theorem Ev.mod (hj : j ≠ 0) (hl : Ev P l (.int i)) (hr : Ev P r (.int j)) : Ev P (.BinOp l .Mod r pos) (.int (i.fmod j)) :=
  hl.bin hr fun _ _ _ _ ⟨_, e1⟩ ⟨_, e2⟩ _ _ hQ => by subst e1; subst e2; exact PyProof.Rows.mod_int hj (hQ _ _ _ Ext.rfl' ⟨_, rfl⟩)
theorem Ev.fdiv (hj : j ≠ 0) (hl : Ev P l (.int i)) (hr : Ev P r (.int j)) (hp : Builtin.divisionGoesByPylong i j = false := by exact PyProof.noPylong_of_log2 (by decide +kernel)) : Ev P (.BinOp l .FloorDiv r pos) (.int (i.fdiv j)) :=
  hl.bin hr fun _ _ _ _ ⟨_, e1⟩ ⟨_, e2⟩ _ _ hQ => by subst e1; subst e2; exact floordiv_int hj (hQ _ _ _ Ext.rfl' ⟨_, rfl⟩) (.inl hp)
theorem Ev.pow {n : Nat} (hn : n ≤ 1000000) (hi : i.natAbs < 2 ^ 64) (hl : Ev P l (.int i)) (hr : Ev P r (.int (n : Nat))) : Ev P (.BinOp l .Pow r pos) (.int (i ^ n)) :=
  hl.bin hr fun _ _ _ _ ⟨_, e1⟩ ⟨_, e2⟩ _ _ hQ => by subst e1; subst e2; exact pow_int_small (Int.natCast_nonneg _) (Int.ofNat_le.mpr hn) hi (hQ _ _ _ Ext.rfl' ⟨_, rfl⟩)
theorem Ev.ifE {c : Bool} {v : AV} (ht : EvT P t c) (h1 : c = true → Ev P a v) (h2 : c = false → Ev P b v) : Ev P (.IfExp t a b pos) v := fun s hs Q E hQ =>
  IfExp_ (ht s hs _ _ fun h tk ex => by
    cases c with
    | true => exact h1 rfl _ (P.ok _ _ _ hs ex) _ _ fun y h2 tk2 e2 r => hQ y h2 tk2 (ex.trans' e2) r
    | false => exact h2 rfl _ (P.ok _ _ _ hs ex) _ _ fun y h2 tk2 e2 r => hQ y h2 tk2 (ex.trans' e2) r)
/-- a comparison as a value -/
theorem Ev.cmpV {op : CmpOp} {u v : AV} {c : Bool} (hl : Ev P l u) (hr : Ev P r v)
    (hop : ∀ (s : Shared), P.inv s → ∀ x y, RV s.heap P.bad u x → RV s.heap P.bad v y → ∀ (Q E : Value → Shared → Prop), (∀ h tk, Ext s.heap h → Q (.bool c) { s with heap := h, toks := tk }) → wpAny (model PG P.c.w) P.c.A (compareOp op x y) Q E s)
    (hm : behindInMarks op r = false := by with_unfolding_all rfl) : Ev P (.Compare l [op] [r] pos) (.bool c) := fun s hs Q E hQ =>
  wpAny_Compare1 (hl s hs _ _ fun x h tk e rx => hr _ (P.ok _ _ _ hs e) _ _ fun y h2 tk2 e2 ry =>
    hop _ (P.ok _ _ _ (P.ok _ h tk hs e) e2) x y (rx.ext e2) ry _ _ fun h3 tk3 e3 => hQ _ h3 tk3 (e.trans' (e2.trans' e3)) rfl) hm
theorem Ev.neLV {ns ms : List Int} (hu : P.c.un + 64 < cLine) (hl : Ev P l (.list (ns.map .int))) (hr : Ev P r (.list (ms.map .int))) (hm : behindInMarks .NotEq r = false := by with_unfolding_all rfl) : Ev P (.Compare l [.NotEq] [r] pos) (.bool (!decide (ns = ms))) :=
  hl.cmpV hr (hm := hm) fun s _ x y r1 r2 _ _ hQ => by
    obtain ⟨a, xs, n, rfl, -, ho, rs⟩ := r1
    obtain ⟨b, ys, n2, rfl, -, ho2, rs2⟩ := r2
    exact ke_ne_ints (A := P.c.A) ⟨_, ho, rfl, n, rfl⟩ ⟨_, ho2, rfl, n2, rfl⟩ (rv_ints rs) (rv_ints rs2) hu (hQ s.heap s.toks Ext.rfl')
theorem Ev.itemT {k : Int} {n : Nat} {v : AV} {vs : List AV} (hz : vs.length ≤ 1000) (he : Ev P e (.tup vs)) (hi : Ev P a (.int k)) (hk : seqIndex? k vs.length = some n) (h0 : -(2 ^ 63) ≤ k) (hf : k < 2 ^ 63) (hv : vs[n]? = some v)
    (hs : ∀ l u, subscripted a false (.ref l) (.int k u) = operate [.ref l, .int k u] (getItem (.ref l) (.int k u)) := by intro _ _; with_unfolding_all rfl) : Ev P (.Subscript e a pos) v := fun s I Q E hQ =>
  Subscript_ (he s I _ _ fun y h tk ex r => hi _ (P.ok _ _ _ I ex) _ _ fun y1 h1 tk1 e1 r1 => by
    obtain ⟨u, rfl⟩ := r1
    obtain ⟨a, xs, n, rfl, hb, ho, rs⟩ := r.ext e1
    obtain ⟨z, hz, rz⟩ := rs.at hv
    exact item_tupleT (s := { s with heap := h1, toks := tk1 }) ⟨_, ho, rfl, n, rfl⟩ h0 hf (by rw [rs.len]; exact hk) hz (hQ z h1 tk1 (ex.trans' e1) rz) (hs a u))
theorem Cv.divmod (hj : j ≠ 0) (hp : Builtin.divisionGoesByPylong i j = false := by exact PyProof.noPylong_of_log2 (by decide +kernel)) : Cv P (.builtin "divmod") [.int i, .int j] (.tup [.int (i.fdiv j), .int (i.fmod j)]) := fun s hs ys rr Q E hQ => by
  obtain ⟨_, _, rfl, ⟨t, rfl⟩, _, _, rfl, ⟨u, rfl⟩, rfl⟩ := rr
  refine divmod_int hj (hQ _ _ _ (fun b o e => Heap.get?_push_of_some _ e) ⟨_, _, _, rfl, fun q => ?_, Heap.get?_push_size _ rfl, _, _, rfl, ⟨_, rfl⟩, _, _, rfl, ⟨_, rfl⟩, rfl⟩) (.inl hp)
  obtain ⟨o, e⟩ := P.low _ _ hs q
  exact Nat.lt_irrefl _ (Heap.lt_size e)
end
section
variable {c : Cx} {mu ob : Addr → Prop} {σ : Loc} {N : Loc → Prop} {R : AV → Prop} {s : Shared} {pos px p1 p2 : Pos} {e i : Expr} {x : Str} {a : Addr} {vs : List AV}
/-- x[i] op= e -/
theorem Ws.augM {op : Operator} {k v w r : Int} (hx : σ.lookup x = some (.mut a vs)) (hi : Ev (Px.fn c mu ob σ) i (.int k)) (he : Ev (Px.fn c mu ob σ) e (.int w)) (h0 : 0 ≤ k) (hf : k < 2 ^ 63) (hv : vs[k.toNat]? = some (.int v)) (hn : N ((x, .mut a (vs.set k.toNat (.int r))) :: σ))
    (hop : ∀ {s : Shared} {t u : Tok} {Q : Value → Shared → Prop} {E : Value → Shared → Prop}, Q (.int r s.toks) { s with toks := s.toks + 1 } → wpAny (model PG c.w) c.A (inplaceOp op (.int v t) (.int w u)) Q E s) (ho1 : only x σ = true := by rfl) (hd : (x == ("__debug__" : Str)) = false := by decide)
    (ha : ∀ ov iv new, augStore i ov iv new = (do holding [new, ov, iv] (setItem ov iv new); release [new, ov, iv] []; pure .next) := by intro _ _ _; rfl) : Ws c mu ob σ (.AugAssign (.Subscript (.Name x px) i p1) op e pos) N R := fun s I Q E H => by
  refine wpAny_AugAssign_Subscript_any (load_mut I hx hd fun xs n ho rs => hi s I _ _ fun y1 h1 tk1 e1 r1 => ?_) ha
  obtain ⟨u, rfl⟩ := r1
  obtain ⟨z, hz, t, rfl⟩ := rs.at hv
  refine wpAny_getItem_list (s := { s with heap := h1, toks := tk1 }) (x := .int v t) ⟨_, e1 _ _ ho, rfl, n, rfl⟩ h0 hf (by rw [List.getElem?_toArray]; exact hz) (he _ (I.ext e1) _ _ fun y2 h2 tk2 e2 r2 => ?_)
  obtain ⟨u2, rfl⟩ := r2
  have ho2 := e2 _ _ (e1 _ _ ho)
  refine hop (s := { s with heap := h2, toks := tk2 }) (ki_setAt (s := { s with heap := h2, toks := tk2 + 1 }) ho2 h0 hf (by
    have := (List.getElem?_eq_some_iff.mp hz).1
    rw [List.size_toArray]; omega) ?_)
  obtain ⟨n', hn'⟩ := seq_set (xs := xs) (n := n) (j := k.toNat) (y := .int r tk2)
  obtain ⟨I3, k3⟩ := ((I.ext e1).ext e2).setm hx ho1 (Heap.SameBut.update ..) (ys := xs.set k.toNat (.int r tk2)) (n := n') ((Heap.get?_update_self _ ho2 (by rw [hn']; rfl)).trans (congrArg some hn')) (((rs.ext e1).ext e2).set (v := .int r) ⟨_, rfl⟩)
  exact H.1 _ _ _ hn I3 ((Kp.ext (e1.trans' e2)).trans k3)
end
end Mine
end
section
open PySem PySem.W PyProof.Rows PySem.Calls PySem.Spec PyProof.Rows.LCg
set_option maxRecDepth 100000
set_option maxHeartbeats 4000000
namespace Mine
section
variable {c : Cx} {mu ob : Addr → Prop} {σ : Loc} {N : Loc → Prop} {R : AV → Prop} {s : Shared} {pos tp : Pos} {e : Expr} {vs : List AV}
/-- x1, .., xn = e, a tuple -/
theorem Ws.asgT {elts : List Expr} {k : Nat} {names : List Str} (he : Ev (Px.fn c mu ob σ) e (.tup vs)) (hst : StoresL c ((assignEach elts c.env).map (·.2)) names) (hl : vs.length = names.length) (hloc : ∀ n ∈ names, Put c n = true) (hn : N (putAll names vs σ))
    (hne : (assignEach elts c.env).length = vs.length := by rfl) (hstar : (assignEach elts c.env).findIdx? (·.1) = none := by rfl)
    (hs : swapsWithSole [.Tuple elts k tp] e pos.line c.env = pure false := by rfl) (hw : swappedStores [.Tuple elts k tp] e c.env = pure none := by rfl) : Ws c mu ob σ (.Assign [.Tuple elts k tp] e pos) N R := fun s I Q E H => by
  refine Assign_Tuple (he s I _ _ fun y h1 tk1 e1 r1 => ?_) hs hw
  obtain ⟨a, xs, n, rfl, hb, ho, rs⟩ := r1
  refine wpAny_assign_Tuple (s := { s with heap := h1, toks := tk1 }) rfl ⟨_, ho, rfl, n, rfl⟩ (by rw [hne, List.size_toArray, rs.len]) hstar fun h2 e2' => ?_
  have e2 : Ext h1 h2 := fun b o hb => e2' b o (Nat.ne_of_lt (Heap.lt_size hb)) hb
  exact stores hst (s := { s with heap := h2, toks := tk1 }) ((I.ext e1).ext e2) hloc (rs.ext e2) hl fun h3 tk3 I3 k3 => H.1 _ h3 tk3 hn I3 ((Kp.ext (e1.trans' e2)).trans k3)
end
end Mine
end
section
open PySem PySem.W PyProof.Rows PySem.Calls PySem.Spec PyProof.Rows.LCg
set_option maxRecDepth 100000
set_option maxHeartbeats 4000000
namespace Mine
section
variable {c : Cx} {mu ob : Addr → Prop} {σ : Loc} {N : Loc → Prop} {R : AV → Prop} {pos : Pos} {e : Expr}
/-- two names of the frame -/
theorem TgS.pair {a b : Str} {pa pb tp : Pos} {kk : Nat} {w u : AV} (ha : Put c a = true) (hb : Put c b = true) : TgS c mu (.Tuple [.Name a pa, .Name b pb] kk tp) (.tup [w, u]) fun σ => (b, u) :: (a, w) :: σ := fun ob σ s Q E v I iv hQ => by
  obtain ⟨T, xs, rfl, hT, rs⟩ := iv
  refine wpAny_assign_Tuple rfl hT (by rw [List.size_toArray, rs.len]; rfl) rfl fun h2 e2' => ?_
  have e2 : Ext s.heap h2 := fun b o hb => e2' b o (Nat.ne_of_lt (Heap.lt_size hb)) hb
  refine stores (s := { s with heap := h2 }) (.cons .name (.cons .name .nil)) (I.ext e2) (List.forall_mem_cons.mpr ⟨ha, List.forall_mem_cons.mpr ⟨hb, List.forall_mem_nil _⟩⟩) (rs.ext e2) rfl fun h3 tk3 I3 k3 => ?_
  exact hQ h3 tk3 I3 ((Kp.ext e2).trans k3)
/-- a tuple that a name keeps -/
noncomputable def tupSm (vs : List AV) : Sm := ⟨fun h bad x => RV h bad (.tup vs) x, fun T => fun r => RV.move T r⟩
end
section
variable {P : Px} {pos : Pos} {e l r : Expr}
/-- a list of tuples, each taken apart -/
theorem It.listT {elts : List Expr} {kk : Nat} {tp : Pos} {vs : List AV} (he : Ev P e (.list vs)) : It P (.Tuple elts kk tp) e vs :=
  It.list he fun I l i v s Q E hit hq => by
    cases v with
    | ref T => exact wpAny_letOwnedTupleGo_listiter hit hq
    | _ => exact wpAny_pure hq
/-- zip of two lists -/
theorem It.zipL {pf : Pos} {elts : List Expr} {kk : Nat} {tp : Pos} {f e e2 : Expr} {us vs : List AV} (hf : Ev P f (.glob (.type "zip"))) (he : Ev P e (.list us)) (h2 : Ev P e2 (.list vs))
    (he' : starEach [e, e2] P.env = (false, eval e P.env) :: starEach [e2] P.env := by rfl) (he2' : starEach [e2] P.env = (false, eval e2 P.env) :: starEach [] P.env := by rfl) (hp : (backTo pf (starEach [e2] P.env)).any (·.1) = false := by rfl)
    (hw : eval (.Call f [e, e2] [] pf) P.env = (do callWith pf (← eval f P.env) [] (backTo pf (starEach [e, e2] P.env)) (backToKw pf (keywordEach [] P.env))) := by rfl) :
    It P (.Tuple elts kk tp) (.Call f [e, e2] [] pf) (List.zipWith (fun u v => AV.tup [u, v]) us vs) := fun s hs Q E hQ => by
  refine Call_ (hf s hs _ _ fun y h tk e1 r1 => ?_) hw
  cases r1
  refine Pv.callWith_type1 (args_cons (he _ (P.ok _ _ _ hs e1) _ _ fun y2 h2' tk2 e2 r2 => args_cons (h2 _ (P.ok _ _ _ hs (e1.trans' e2)) _ _ fun y3 h3 tk3 e3 r3 => args_nil ?_) he2') he') he' hp
  obtain ⟨a, xs, n, rfl, hb, ho, rs⟩ := r2.ext e3
  obtain ⟨a2, xs2, n2, rfl, hb2, ho2, rs2⟩ := r3
  have hl : h3.IsList a xs.toArray := ⟨_, ho, rfl, n, rfl⟩
  have hl2 : h3.IsList a2 xs2.toArray := ⟨_, ho2, rfl, n2, rfl⟩
  refine call_zip_2 hl hl2 fun h' hz hTI hTO hi1 hi2 hsz up => ?_
  have at_ : ∀ {vs : List AV} {xs : List Value}, RVs h3 P.bad vs xs → ∀ i x, xs.toArray[i]? = some x → ∃ w, vs[i]? = some w ∧ RV h3 P.bad w x := fun {vs xs} rs i x hp => by
    rw [List.getElem?_toArray] at hp
    have hi : i < vs.length := by rw [← rs.len]; exact (List.getElem?_eq_some_iff.mp hp).1
    obtain ⟨z, hz', rz⟩ := rs.at (List.getElem?_eq_getElem hi)
    rw [hp] at hz'; cases hz'
    exact ⟨_, List.getElem?_eq_getElem hi, rz⟩
  exact zip_core (s := s) (h := h3) (us := us) (vs := vs) hs ((e1.trans' e2).trans' e3) rfl up (Draws.list rfl _ a (Nat.ne_of_lt (Heap.lt_size ho)) xs.toArray) (Draws.list rfl _ a2 (Nat.ne_of_lt (Nat.lt_succ_of_lt (Heap.lt_size ho2))) xs2.toArray)
    (fun b hb' => (List.mem_cons.mp hb').elim .inl fun q => .inr (List.mem_singleton.mp q ▸ ⟨hb, _, ho⟩)) (fun b hb' => (List.mem_cons.mp hb').elim .inl fun q => .inr (List.mem_singleton.mp q ▸ ⟨hb2, _, ho2⟩)) hz hTI hTO ⟨hi1, hl.at fun o e => up _ o e⟩ ⟨hi2, hl2.at fun o e => up _ o e⟩
    (by rw [List.size_toArray]; exact rs.len.symm) (by rw [List.size_toArray]; exact rs2.len.symm) (at_ rs) (at_ rs2) hQ
/-- len of a list -/
theorem Cv.lenL {vs : List AV} (hz : vs.length ≤ 1000000) : Cv P (.builtin "len") [.list vs] (.int (vs.length : Nat)) := fun s hs ys rr Q E hQ => by
  obtain ⟨_, _, rfl, ⟨a, xs, n, rfl, hb, ho, rs⟩, rfl⟩ := rr
  have hl : s.heap.IsList a xs.toArray := ⟨_, ho, rfl, n, rfl⟩
  refine Calls.call_len_list hl (by rw [List.size_toArray, rs.len]; omega) (hQ _ _ _ Ext.rfl' ⟨s.toks + 1, ?_⟩)
  rw [List.size_toArray, rs.len]
/-- list + list -/
theorem Ev.addL {vs ws : List AV} (hz : vs.length + ws.length ≤ 1000) (hl : Ev P l (.list vs)) (hr : Ev P r (.list ws)) : Ev P (.BinOp l .Add r pos) (.list (vs ++ ws)) :=
  hl.bin hr fun s hs x y ⟨a, xs, n, e1, hb, ho, rs⟩ ⟨b, ys, k, e2, hb2, ho2, rs2⟩ Q E hQ => by
    subst e1; subst e2
    have e : xs.toArray ++ ys.toArray = (xs ++ ys).toArray := by simp
    refine PySem.P.add_list (n := n) (n2 := k) (by exact ho) (by exact ho2) ?_ (by rw [List.size_toArray, List.size_toArray, rs.len, rs2.len, sizeLine_eq]; omega)
    rw [e]
    have up : Ext s.heap (s.heap.push { cls := .type "list", data := .seq (xs ++ ys).toArray }) := fun b o e => Heap.get?_push_of_some _ e
    exact hQ _ _ s.toks up ⟨_, xs ++ ys, 0, rfl, fun q => let ⟨_, e⟩ := P.low s _ hs q; Nat.lt_irrefl _ (Heap.lt_size e), Heap.get?_push_size _ rfl, (rs.ext up).append (rs2.ext up)⟩
end
end Mine
end
section
open PySem PySem.W PyProof.Rows PySem.Calls PySem.Spec PyProof.Rows.LCg
set_option maxRecDepth 100000
set_option maxHeartbeats 4000000
namespace Mine
/-! for x in enumerate(l): the name keeps the tuple, each turn makes a new one -/
noncomputable def EnumG (h : Heap) (e it : Addr) (i : Int) : Prop :=
  ∃ f0 f1 item : Value, (f0 = .none ∨ ∃ a : Nat, f0 = rawInt a) ∧ h.get? e = some { cls := .type "enumerate", dict := none, data := .fields #[f0, f1, .ref it, rawInt i, .none, item], slots := #[] }
theorem wpAny_alive {M : Model} {A : Around} {E : Value → Shared → Prop} {s : Shared} {a : Addr} {Q : Option Obj → Shared → Prop} (h : Q (s.heap.get? a) s) : wpAny M A (loadIfAlive a) Q E s := fun _ _ _ => h
section
variable {prog : Program} {w : World} {A : Around} {E : Value → Shared → Prop} {s : Shared}
theorem en_free {e it : Addr} {i : Int} {Q : Bool → Shared → Prop} (he : EnumG s.heap e it i)
    (h : ∀ b h', EnumG h' e it i → Heap.SameBut e s.heap h' → Q b { s with heap := h' }) : wpAny (model prog w) A (Builtin.SmallTypes.ownedTupleIsFree (.ref e)) Q E s := by
  obtain ⟨f0, f1, item, h0, he'⟩ := he
  have he : EnumG s.heap e it i := ⟨f0, f1, item, h0, he'⟩
  have same : Heap.SameBut e s.heap s.heap := ⟨rfl, fun _ _ => rfl⟩
  unfold Builtin.SmallTypes.ownedTupleIsFree
  refine wpAny_bind (wpAny_field he' rfl (x := f0) rfl ?_)
  rcases h0 with rfl | ⟨a, rfl⟩
  · exact wpAny_pure (h true s.heap he same)
  · show wpAny _ _ (loadIfAlive a >>= _) _ _ _
    refine wpAny_bind (wpAny_alive ?_)
    cases q : s.heap.get? a with
    | none => exact wpAny_pure (h true s.heap he same)
    | some o =>
      refine wpAny_bind (wpAny_field he' rfl (x := f1) rfl ?_)
      dsimp only
      split
      · exact wpAny_bind (wpAny_setField_rec he' (by simp) fun h₁ he₁ hs₁ => wpAny_pure (h false h₁ ⟨rawInt a, .bool true, item, .inr ⟨a, rfl⟩, he₁⟩ hs₁))
      · exact wpAny_pure (h false s.heap he same)
theorem en_item {e it l : Addr} {i : Nat} {items : Array Value} {x : Value} {Q : Value → Shared → Prop}
    (he : EnumG s.heap e it i) (hit : s.heap.IsListIter it l i) (hl : s.heap.IsList l items) (hx : items[i]? = some x) (hne : e ≠ it)
    (hQ : ∀ h' tk t, EnumG h' e it ((i : Int) + 1) → h'.IsListIter it l (i + 1) →
      h'.get? s.heap.objs.size = some { cls := .type "tuple", data := .seq #[.int i t, x] } →
      (∀ b o, b ≠ e → b ≠ it → s.heap.get? b = some o → h'.get? b = some o) → Q (.ref s.heap.objs.size) { s with heap := h', toks := tk }) :
    wpAny (model prog w) A (Builtin.«enumerate.__next__» ⟨[.ref e], []⟩) (fun fin s' => ∃ v, fin = .done (.ret v) ∧ Q v s') E s := by
  obtain ⟨hp, g, d, tk, os⟩ := s
  obtain ⟨f0, f1, item, h0, he⟩ := he
  have hel : e < hp.objs.size := Heap.lt_size he
  show wpAny _ _ (field (.ref e) 2 >>= _) _ _ _
  refine wpAny_bind (wpAny_field he rfl (x := .ref it) rfl ?_)
  refine wpAny_bind (wpAny_nextOf_list_item hit hl hx fun h₁ hit₁ hs₁ => ?_)
  replace hs₁ : Heap.SameBut it hp h₁ := hs₁
  have he₁ := (hs₁.2 e hne).trans he
  show wpAny _ _ (field (.ref e) 3 >>= _) _ _ ⟨h₁, g, d, tk, os⟩
  refine wpAny_bind (wpAny_field he₁ rfl (x := rawInt i) rfl ?_)
  show wpAny _ _ (field (.ref e) 4 >>= _) _ _ ⟨h₁, g, d, tk, os⟩
  refine wpAny_bind (wpAny_field he₁ rfl (x := .none) rfl ?_)
  show wpAny _ _ (mkInt i >>= _) _ _ ⟨h₁, g, d, tk, os⟩
  refine wpAny_bind (wpAny_mkInt ?_)
  show wpAny _ _ (setField (.ref e) 3 (rawInt ((i : Int) + 1)) >>= _) _ _ ⟨h₁, g, d, tk + 1, os⟩
  refine wpAny_bind (wpAny_setField_rec he₁ (by simp) fun h₂ he₂ hs₂ => ?_)
  replace hs₂ : Heap.SameBut e h₁ h₂ := hs₂
  show wpAny _ _ (setField (.ref e) 4 .none >>= _) _ _ ⟨h₂, g, d, tk + 1, os⟩
  refine wpAny_bind (wpAny_setField_rec he₂ (by simp) fun h₃ he₃ hs₃ => ?_)
  replace hs₃ : Heap.SameBut e h₂ h₃ := hs₃
  have hE₃ : EnumG h₃ e it ((i : Int) + 1) := ⟨f0, f1, item, h0, he₃⟩
  clear he₃ he₂ he₁ he h0
  show wpAny _ _ (newTuple [.int i tk, x] >>= _) _ _ ⟨h₃, g, d, tk + 1, os⟩
  refine wpAny_bind (wpAny_newTuple ?_)
  have he₄ : EnumG (h₃.push { cls := .type "tuple", data := .seq #[.int i tk, x] }) e it ((i : Int) + 1) := by
    obtain ⟨a, b, c, p, q⟩ := hE₃
    exact ⟨a, b, c, p, Heap.get?_push_of_some _ q⟩
  generalize hh₄ : h₃.push { cls := .type "tuple", data := .seq #[.int i tk, x] } = h₄ at he₄
  have hsz : h₃.objs.size = hp.objs.size := by rw [hs₃.1, hs₂.1, hs₁.1]
  have ht₄ : h₄.get? hp.objs.size = some { cls := .type "tuple", data := .seq #[.int i tk, x] } := by rw [← hh₄, ← hsz]; exact Heap.get?_push_size _ rfl
  have hk₄ : ∀ b o, b ≠ e → b ≠ it → hp.get? b = some o → h₄.get? b = some o := fun b o hbe hbi hb => by
    rw [← hh₄]; exact Heap.get?_push_of_some _ (hs₃.extBut b o hbe (hs₂.extBut b o hbe (hs₁.extBut b o hbi hb)))
  have hit₄ : h₄.IsListIter it l (i + 1) := by
    rw [← hh₄]; obtain ⟨o, ho, r⟩ := (hit₁.extBut hs₂.extBut (Ne.symm hne)).extBut hs₃.extBut (Ne.symm hne); exact ⟨o, Heap.get?_push_of_some _ ho, r⟩
  show wpAny _ _ (Builtin.SmallTypes.ownedTupleIsFree (.ref e) >>= _) _ _ ⟨h₄, g, d, tk + 1, os⟩
  rw [hsz]
  clear hh₄ hE₃ hs₃ hs₂ hs₁ hit₁ hsz h₃ h₂ h₁
  refine wpAny_bind (en_free he₄ fun b h₅ he₅ hs₅ => ?_)
  replace hs₅ : Heap.SameBut e h₄ h₅ := hs₅
  have ne : hp.objs.size ≠ e := Nat.ne_of_gt hel
  cases b with
  | false =>
    refine wpAny_pure ⟨_, rfl, hQ h₅ (tk + 1) tk he₅ (hit₄.extBut hs₅.extBut (Ne.symm hne)) (hs₅.extBut _ _ ne ht₄) fun b o hbe hbi hb => hs₅.extBut b o hbe (hk₄ b o hbe hbi hb)⟩
  | true =>
    simp only [if_true]
    obtain ⟨f0, f1, item, h0, he₅⟩ := he₅
    refine wpAny_bind (wpAny_rule ?_)
    refine wpAny_bind (wpAny_field he₅ rfl (x := item) rfl ?_)
    refine wpAny_bind (wpAny_setField_rec he₅ (by simp) fun h₆ he₆ hs₆ => ?_)
    replace hs₆ : Heap.SameBut e h₅ h₆ := hs₆
    show wpAny _ _ (Builtin.SmallTypes.ownedTupleHandOut (.ref e) (.ref hp.objs.size) >>= _) _ _ ⟨h₆, g, d, tk + 1, os⟩
    refine wpAny_bind ?_
    unfold Builtin.SmallTypes.ownedTupleHandOut
    refine wpAny_bind (wpAny_setField_rec he₆ (by simp) fun h₇ he₇ hs₇ => ?_)
    replace hs₇ : Heap.SameBut e h₆ h₇ := hs₇
    refine wpAny_setField_rec he₇ (by simp) fun h₈ he₈ hs₈ => ?_
    replace hs₈ : Heap.SameBut e h₇ h₈ := hs₈
    refine wpAny_bind (wpAny_letGo (wpAny_pure ⟨_, rfl, hQ h₈ (tk + 1) tk ⟨rawInt hp.objs.size, .bool false, x, .inr ⟨_, rfl⟩, he₈⟩ ?_ ?_ ?_⟩))
    · exact (((hit₄.extBut hs₅.extBut (Ne.symm hne)).extBut hs₆.extBut (Ne.symm hne)).extBut hs₇.extBut (Ne.symm hne)).extBut hs₈.extBut (Ne.symm hne)
    · exact hs₈.extBut _ _ ne (hs₇.extBut _ _ ne (hs₆.extBut _ _ ne (hs₅.extBut _ _ ne ht₄)))
    · exact fun b o hbe hbi hb => hs₈.extBut b o hbe (hs₇.extBut b o hbe (hs₆.extBut b o hbe (hs₅.extBut b o hbe (hk₄ b o hbe hbi hb))))
theorem en_next {e it l : Addr} {i : Nat} {items : Array Value} {x : Value} {Q : Option Value → Shared → Prop}
    (he : EnumG s.heap e it i) (hit : s.heap.IsListIter it l i) (hl : s.heap.IsList l items) (hx : items[i]? = some x) (hne : e ≠ it)
    (hQ : ∀ h' tk t, EnumG h' e it ((i : Int) + 1) → h'.IsListIter it l (i + 1) →
      h'.get? s.heap.objs.size = some { cls := .type "tuple", data := .seq #[.int i t, x] } →
      (∀ b o, b ≠ e → b ≠ it → s.heap.get? b = some o → h'.get? b = some o) → Q (some (.ref s.heap.objs.size)) { s with heap := h', toks := tk }) :
    wpAny (model prog w) A (pyNext (.ref e)) Q E s := by
  have hT : s.TypeIs (.ref e) "enumerate" := by obtain ⟨a, b, c, p, q⟩ := he; exact ⟨_, q, rfl⟩
  unfold pyNext
  exact wpAny_bind (wpAny_attempt (wpAny_callSpecial?_slot (name := Str.ofString "__next__") hT F.slot_enumerate_next
    (wpAny_call_entry F.slot_enumerate_next hT F.entry_enumerate_next
      (en_item he hit hl hx hne fun h' tk t a b c k => wpAny_pure (hQ h' tk t a b c k)) (F.args_enumerate_next_1 _))))
theorem en_end {e it l : Addr} {i : Nat} {items : Array Value} {Q : Option Value → Shared → Prop} (hh : A.handled = none)
    (he : EnumG s.heap e it i) (hit : s.heap.IsListIter it l i) (hl : s.heap.IsList l items) (hx : items[i]? = none)
    (hQ : ∀ h', Heap.ExtBut it s.heap h' → Q none { s with heap := h' }) : wpAny (model prog w) A (pyNext (.ref e)) Q E s := by
  have hT : s.TypeIs (.ref e) "enumerate" := by obtain ⟨a, b, c, p, q⟩ := he; exact ⟨_, q, rfl⟩
  obtain ⟨f0, f1, item, h0, he⟩ := he
  unfold pyNext
  refine wpAny_bind (wpAny_attempt (wpAny_callSpecial?_slot (name := Str.ofString "__next__") hT F.slot_enumerate_next
    (wpAny_call_entry F.slot_enumerate_next hT F.entry_enumerate_next ?_ (F.args_enumerate_next_1 _))))
  show wpAny _ _ (field (.ref e) 2 >>= _) _ _ _
  refine wpAny_bind (wpAny_field he rfl (x := .ref it) rfl ?_)
  refine wpAny_bind (wpAny_nextOf_list_end hh hit hl hx fun h' x he' hx' => ?_)
  obtain ⟨o, ho, hc⟩ := hx'
  refine wpAny_bind (wpAny_isInstance (T := "StopIteration") (b := true) ⟨o, ho, hc⟩ isSubtype_stop ?_)
  exact wpAny_pure (hQ _ he')
noncomputable def EnP (e : Addr) (items : Array Value) (i : Nat) (v : Value) (h : Heap) : Prop := ∃ (T : Addr) (t : Tok) (x : Value), v = .ref T ∧ items[i]? = some x ∧ h.get? T = some { cls := .type "tuple", data := .seq #[.int i t, x] } ∧ e < T
noncomputable def EnSt (e it l : Addr) (items : Array Value) (i : Nat) (h : Heap) : Prop := EnumG h e it i ∧ h.IsListIter it l i ∧ h.IsList l items
theorem en_turns {x : Str} {px : Pos} (hh : A.handled = none) (e it l : Addr) (hei : e ≠ it) (hle : l ≠ e) (hli : l ≠ it) (items : Array Value) :
    KTurns prog w A (.Name x px) e [e, it, l] [e, it] items.size (EnP e items) (fun i v h => EnP e items i v h ∧ EnSt e it l items (i + 1) h) (EnSt e it l items) where
  sub := fun b hb => by
    rcases List.mem_cons.mp hb with rfl | hb
    · exact List.mem_cons_self ..
    · exact List.mem_cons_of_mem _ (by rcases List.mem_cons.mp hb with rfl | hb; exact List.mem_cons_self ..; cases hb)
  frame := fun i h h' hst hk => by
    obtain ⟨⟨f0, f1, item, h0, he⟩, hit, hl⟩ := hst
    exact ⟨⟨f0, f1, item, h0, hk e (by simp) _ he⟩, hit.at fun o x => hk it (by simp) o x, hl.at fun o x => hk l (by simp) o x⟩
  item := fun i s Q E hi hst hQ => by
    obtain ⟨he, hit, hl⟩ := hst
    have hel : e < s.heap.objs.size := by obtain ⟨a, b, c, p, q⟩ := he; exact Heap.lt_size q
    refine en_next he hit hl (Array.getElem?_eq_getElem hi) hei fun h' tk t he' hit' hT hk => ?_
    exact hQ _ h' tk ⟨⟨_, t, _, rfl, Array.getElem?_eq_getElem hi, hT, hel⟩, he', hit', hl.at fun o y => hk l o hle hli y⟩ fun b o hb y => hk b o (fun q => hb (by simp [q])) (fun q => hb (by simp [q])) y
  go := fun i v s Q E hm hQ => wpAny_pure (hQ s.heap hm.1 hm.2 fun _ _ _ y => y)
  done := fun s Q E hst hQ => by
    obtain ⟨he, hit, hl⟩ := hst
    exact en_end hh he hit hl (Array.getElem?_eq_none (Nat.le_refl _)) fun h' hx => hQ h' s.toks fun b o hb y => hx b o (fun e' => hb (by simp [e'])) y
end
/-- the pairs of enumerate -/
noncomputable def enumL (vs : List AV) : List AV := vs.zipIdx.map fun p => .sem (tupSm [.int (p.2 : Nat), p.1])
/-- for x in enumerate(l) -/
theorem ItF.enum {P : Px} {pf : Pos} {x : Str} {px : Pos} {f e : Expr} {vs : List AV} (hf : Ev P f (.glob (.type "enumerate"))) (he : Ev P e (.list vs))
    (he' : starEach [e] P.env = (false, eval e P.env) :: starEach [] P.env := by rfl) (hp : (backTo pf (starEach [] P.env)).any (·.1) = false := by rfl)
    (hw : eval (.Call f [e] [] pf) P.env = (do callWith pf (← eval f P.env) [] (backTo pf (starEach [e] P.env)) (backToKw pf (keywordEach [] P.env))) := by rfl) :
    ItF P (.Name x px) (.Call f [e] [] pf) (enumL vs) := fun s hs Q E hQ => by
  refine Call_ (hf s hs _ _ fun y h tk e1 r1 => ?_) hw
  cases r1
  refine Pv.callWith_type1 (args_cons (he _ (P.ok _ _ _ hs e1) _ _ fun y2 h2 tk2 e2 r2 => args_nil ?_) he') he' hp
  obtain ⟨a, xs, n, rfl, hb, ho, rs⟩ := r2
  have hl : h2.IsList a xs.toArray := ⟨_, ho, rfl, n, rfl⟩
  have hlt := Heap.lt_size ho
  refine call_enumerate_list (s := { s with heap := h2, toks := tk2 }) hl fun h' hE hI hsz hk => ?_
  refine wpAny_pyIter_enum hE ?_
  dsimp only at hE hI hsz hk ⊢
  have ex : Ext s.heap h' := (e1.trans' e2).trans' hk
  generalize hB : h2.objs.size = B at *
  have W := en_turns (prog := PG) (w := P.c.w) (A := P.c.A) (x := x) (px := px) rfl (B + 1) B a (Nat.succ_ne_self _) (Nat.ne_of_lt (Nat.lt_succ_of_lt hlt)) (Nat.ne_of_lt hlt) xs.toArray
  have hlen : xs.toArray.size = (enumL vs).length := by rw [List.size_toArray, rs.len, enumL, List.length_map, List.length_zipIdx]
  rw [hlen] at W
  have old : ∀ b, @LE.le Nat _ B b → s.heap.get? b = none := fun b hb => by
    cases q : s.heap.get? b with
    | none => rfl
    | some o => have := Heap.lt_size ((e1.trans' e2) _ _ q); rw [hB] at this; exact absurd (Nat.lt_of_lt_of_le this hb) (Nat.lt_irrefl _)
  have live : ∀ i h', EnSt (B + 1) B a xs.toArray i h' → ∀ b ∈ [B + 1, B], ∃ o, h'.get? b = some o := fun i h' st b hb => by
    rcases List.mem_cons.mp hb with rfl | hb
    · obtain ⟨_, _, _, _, e⟩ := st.1; exact ⟨_, e⟩
    · rw [List.mem_singleton.mp hb]; obtain ⟨o, e, _⟩ := st.2.1; exact ⟨o, e⟩
  have st0 : EnSt (B + 1) B a xs.toArray 0 h' := ⟨⟨.none, .bool false, .none, .inl rfl, hE⟩, hI, hl.at fun o e => hk _ o e⟩
  refine hQ (B + 1) _ _ _ _ _ h' tk2 ex W st0 (fun b hb => ⟨old b ?_, live 0 _ st0 b hb⟩) (fun b hb hn => ?_) live fun i v h3 hi k hp => ?_
  · rcases List.mem_cons.mp hb with rfl | hb
    · exact Nat.le_succ _
    · exact Nat.le_of_eq (List.mem_singleton.mp hb).symm
  · rcases List.mem_cons.mp hb with rfl | hb
    · exact absurd (.head _) hn
    · rcases List.mem_cons.mp hb with rfl | hb
      · exact absurd (.tail _ (.head _)) hn
      · rw [List.mem_singleton.mp hb]; exact ⟨‹_›, _, hk _ _ ho⟩
  · obtain ⟨T, t, y, rfl, hy, hT, hlT⟩ := hp
    rw [List.getElem?_toArray] at hy
    have hi' : i < vs.length := by rw [enumL, List.length_map, List.length_zipIdx] at hi; exact hi
    obtain ⟨z, hz, rz⟩ := rs.at (List.getElem?_eq_getElem hi')
    rw [hy] at hz; cases hz
    refine ⟨.sem (tupSm [.int (i : Nat), vs[i]]), by rw [enumL, List.getElem?_map, List.getElem?_zipIdx, List.getElem?_eq_getElem hi']; simp, ?_⟩
    have up : ∀ b o, ¬ P.bad b → h2.get? b = some o → ¬ (P.bad b ∨ b ∈ [B + 1, B]) ∧ h3.get? b = some o := fun b o hb hob => by
      have hlb := Heap.lt_size hob
      rw [hB] at hlb
      have hn : b ∉ [B + 1, B] := fun hm => by
        rcases List.mem_cons.mp hm with rfl | hm
        · exact Nat.lt_irrefl _ (Nat.lt_trans hlb (Nat.lt_succ_self _))
        · rw [List.mem_singleton.mp hm] at hlb; exact Nat.lt_irrefl _ hlb
      exact ⟨fun q => q.elim hb hn, k b o hn hb (hk _ _ hob)⟩
    refine ⟨T, [.int (i : Nat) t, y], 0, rfl, fun q => ?_, hT, ⟨_, _, rfl, ⟨t, rfl⟩, _, _, rfl, rz.move up, rfl⟩⟩
    rcases q with q | q
    · obtain ⟨o, ho⟩ := P.low s T hs q
      rw [old T (Nat.le_of_lt (Nat.lt_trans (Nat.lt_succ_self _) hlT))] at ho
      cases ho
    · rcases List.mem_cons.mp q with rfl | q
      · exact Nat.lt_irrefl _ hlT
      · rw [List.mem_singleton.mp q] at hlT; exact Nat.lt_irrefl _ (Nat.lt_trans hlT (Nat.lt_succ_self _))
end Mine
end
section
open PySem PySem.W PyProof.Rows PySem.Calls PySem.Spec PyProof.Rows.LCg
set_option maxRecDepth 100000
set_option maxHeartbeats 4000000
namespace Mine
/-! an object with one field -/
noncomputable abbrev oneD (P : Params) (nm : Str) (v : Value) (t : Tok) : Obj := dictOf [{ hash := PyData.keyHash P nm, key := .str nm t, val := v }] 1
noncomputable def obSm (P : Params) (C : Addr) (nm : Str) (vs : List AV) : Sm where
  rel h bad x := ∃ a d y t, x = .ref a ∧ ¬ bad a ∧ h.get? a = some (instObj C d) ∧ ¬ bad d ∧ h.get? d = some (oneD P nm y t) ∧ RV h bad (.list vs) y
  move := fun T _ ⟨a, d, y, t, e, ha, h1, hd, h2, r⟩ => ⟨a, d, y, t, e, (T _ _ ha h1).1, (T _ _ ha h1).2, (T _ _ hd h2).1, (T _ _ hd h2).2, RV.move T r⟩
theorem getL_one {nm : Str} {e : DictEntry} {t : Tok} {v : Value} (h : e.key = .str nm t) (hv : e.val = v) : getL nm [e] = some (some v) := by
  unfold getL
  rw [List.find?_cons_of_pos (by rw [h]; simp [Value.isStr])]
  exact congrArg (fun z => some (some z)) hv
theorem getL_miss {nm x : Str} {e : DictEntry} {t : Tok} (h : e.key = .str nm t) (hx : (nm == x) = false) : getL x [e] = some none := by
  unfold getL
  rw [List.find?_cons_of_neg (by rw [h]; simpa [Value.isStr] using hx), List.find?_nil]
  have : [e].any (·.refKey) = false := by simp [DictEntry.refKey, h]
  rw [this]; rfl
section
variable {P : Px} {pos apos : Pos} {o e : Expr} {rest : List Expr} {C f : Addr} {nm x : Str} {vs : List AV}
theorem Px.inK (P : Px) {s : Shared} (hs : P.inv s) : (hd.heap_39 P.c.w.params).In s.heap := let ⟨O, _, F⟩ := P.fr s hs; O.X.keeps F.keep
theorem Ev.attr {attr : Option Value} (ho : Ev P o (.sem (obSm P.c.w.params C nm vs))) (hg : plainGet (hd.heap_39 P.c.w.params) C nm = true) (hh : hasDictIn (hd.heap_39 P.c.w.params) C = true) (ha : findIn (hd.heap_39 P.c.w.params) (.ref C) nm = some attr) (hn : noGet (hd.heap_39 P.c.w.params) attr = true)
    (he : eval (.Attribute o nm apos) P.env = (do
      let v ← eval o P.env
      standAt apos.atName
      let r ← holding [v] (getAttr v nm true)
      letTemporaryGo o v r
      pure r) := by rfl) (ht : ∀ v r, letTemporaryGo o v r = pure () := by intro _ _; rfl) : Ev P (.Attribute o nm apos) (.list vs) := fun s hs Q E hQ => by
  rw [he]
  refine wpAny_bind (wpAny_mono (ho s hs (fun y s1 => ∃ h tk, Ext s.heap h ∧ (obSm P.c.w.params C nm vs).rel h P.bad y ∧ s1 = { s with heap := h, toks := tk }) E fun y h tk ex r => ⟨h, tk, ex, r, rfl⟩) (fun y s1 hy => ?_) fun _ _ e => e)
  obtain ⟨h, tk, ex, ⟨a, d, y, t, rfl, hb, h1, hd', h2, r⟩, rfl⟩ := hy
  obtain ⟨O, m, F⟩ := P.fr _ (P.ok s h tk hs ex)
  have hy : handedIn y = true := by obtain ⟨_, _, _, rfl, _⟩ := r; rfl
  refine wpAny_bind (wpAny_standAt (wpAny_bind (wpAny_holding (get_own F O.X (InstAt.mk (ox := instObj C d) h1 rfl (by rfl) h2) hg hh ha hn (getL_one rfl rfl) hy ?_))))
  rw [ht]
  exact wpAny_bind (wpAny_pure (wpAny_pure (hQ y h (tk + 1) ex r)))
/-- a method of the object's class -/
theorem Ev.meth {pl : Sem Bool} {ws : List AV} {r : AV} {ob' : Obj} {fd : FuncData} (hf : findIn (hd.heap_39 P.c.w.params) (.ref C) x = some (some (.ref f))) (ht : isFn (hd.heap_39 P.c.w.params) (.ref f) = true) (hg : plainGet (hd.heap_39 P.c.w.params) C x = true) (hne : (nm == x) = false)
    (hfo : (hd.heap_39 P.c.w.params).lookup f = some ob') (hfd : ob'.data = .func fd)
    (ho : Ev P o (.sem (obSm P.c.w.params C nm vs))) (hl : EvL P pos (e :: rest) ws) (hc : Cv P (.ref f) (.sem (obSm P.c.w.params C nm vs) :: ws) r)
    (he : eval (.Call (.Attribute o x apos) (e :: rest) [] pos) P.env = (do
      let ov ← eval o P.env
      standAt apos.atName
      let (f, first) ← holding [ov] (getMethod ov x pl)
      callWith pos f first (backTo pos (starEach (e :: rest) P.env)) []) := by rfl) (hs1 : starEach (e :: rest) P.env = (false, eval e P.env) :: starEach rest P.env := by rfl) : Ev P (.Call (.Attribute o x apos) (e :: rest) [] pos) r := fun s hs Q E hQ =>
  MethodCall_ (ho s hs _ _ fun y h tk ex ry => by
    obtain ⟨a, d, y, t, rfl, hb, h1, hd', h2, rl⟩ := ry
    have hs2 := P.ok s h tk hs ex
    obtain ⟨O, m, F⟩ := P.fr _ hs2
    refine method_inst F O.X (InstAt.mk (ox := instObj C d) h1 rfl (by rfl) h2) hg hf ht (getL_miss rfl hne) ?_
    refine callWith_meth (h₀ := P.c.g) hfd (O.X _ _ hfo) (hl _ hs2 _ _ fun ys h3 tk3 e3 r3 => ?_) hs1
    have hs3 := P.ok { s with heap := h, toks := tk } h3 tk3 hs2 e3
    refine ⟨fun b o e => let ⟨_, _, F3⟩ := P.fr _ hs3; F3.keep b o e, ?_⟩
    refine hc _ hs3 (.ref a :: ys) ⟨_, _, rfl, ⟨a, d, y, t, rfl, hb, e3 _ _ h1, hd', e3 _ _ h2, rl.ext e3⟩, r3⟩ Q E fun y4 h4 tk4 e4 r4 => hQ y4 h4 tk4 (ex.trans' (e3.trans' e4)) r4) he
/-- the class is called: __init__ stores its argument -/
theorem Cv.mk {fI : Addr} {name qual : Str} {params : Arguments} {scope : Scope} {dV kV doc pm cdv ct oc : Value} {an od : Option Addr} {osl : Array (Option Value)} {se : Str} {p1 p2 p3 p4 : Pos}
    (ho : (hd.heap_39 P.c.w.params).lookup fI = some ⟨oc, od, .func (fnOf name qual params [.Assign [.Attribute (.Name se p1) nm p2] (.Name nm p3) p4] scope dV kV doc pm an cdv ct), osl⟩) (hcd : codeIn (hd.heap_39 P.c.w.params) cdv qual = true)
    (hm : makesIn (hd.heap_39 P.c.w.params) C = true) (hi : findIn (hd.heap_39 P.c.w.params) (.ref C) "__init__" = some (some (.ref fI))) (hft : typeIn (hd.heap_39 P.c.w.params) (.ref fI) = some (.type "function"))
    (hsa : findIn (hd.heap_39 P.c.w.params) (.ref C) "__setattr__" = some (some (.builtin "object.__setattr__"))) (hpo : plainOver (hd.heap_39 P.c.w.params) C = true) (hta : takerIn (hd.heap_39 P.c.w.params) C nm = some none) (hh : hasDictIn (hd.heap_39 P.c.w.params) C = true)
    (hbind : ∀ s x y, BindsTo s (fnOf name qual params [.Assign [.Attribute (.Name se p1) nm p2] (.Name nm p3) p4] scope dV kV doc pm an cdv ct) ⟨[x, y], []⟩ [(se, x), (nm, y)]) (hl1 : scope.names.lookup se = some .local) (hl2 : scope.names.lookup nm = some .local) (hne : (nm == se) = false)
    (hdp : P.c.dp + 4 < recursionLimit) (hd1 : (se == ("__debug__" : Str)) = false) (hd2 : (nm == ("__debug__" : Str)) = false)
    (hco : scope.isCoroutine = false) (hgen : scope.isGenerator = false) (hk : scope.kind = .function) (hcell : ∀ x ∈ scope.names, x.2 ≠ .cell) : Cv P (.ref C) [.list vs] (.sem (obSm P.c.w.params C nm vs)) := by
  rintro s hs ys ⟨y, _, rfl, ry, rfl⟩ Q E hQ
  obtain ⟨O, m, F⟩ := P.fr s hs
  have X := O.X.keeps F.keep
  refine wpAny_call ?_
  obtain ⟨h, g, d, t, os⟩ := s
  refine make_core (makes_of X hm) (looks_findIn X hi) (fun self => bind_fn X self hft) (.inl rfl) ?_
  have up : Ext h ((h.push emptyDict).push (instObj C h.objs.size)) := fun b o e => Heap.get?_push_of_some _ (Heap.get?_push_of_some _ e)
  have hdd : ((h.push emptyDict).push (instObj C h.objs.size)).get? h.objs.size = some emptyDict := Heap.get?_push_of_some _ (Heap.get?_push_size _ rfl)
  have hxx : ((h.push emptyDict).push (instObj C h.objs.size)).get? (h.objs.size + 1) = some (instObj C h.objs.size) := by
    rw [← show (h.push emptyDict).objs.size = h.objs.size + 1 from Heap.size_push ..]; exact Heap.get?_push_size _ rfl
  have F1 : Fr P.c.g P.c.L ((h.push emptyDict).push (instObj C h.objs.size)) m := Fr.ext F up
  generalize hH : (h.push emptyDict).push (instObj C h.objs.size) = H at *
  obtain ⟨D, hD⟩ : ∃ D, h.objs.size = D := ⟨_, rfl⟩
  have hDn : h.get? D = none := hD ▸ heap_end _
  have hXn : h.get? (D + 1) = none := by
    cases q : h.get? (D + 1) with
    | none => rfl
    | some o => have := Heap.lt_size q; rw [hD] at this; exact absurd (Nat.lt_trans this (Nat.lt_succ_self _)) (Nat.lt_irrefl _)
  rw [hD] at hdd hxx ⊢
  have gN : ∀ b, h.get? b = none → P.c.g.get? b = none ∧ b ≠ P.c.L := fun b hb => ⟨none_of_ext (h' := h) (fun b o e => F.keep b o e) hb, fun q => by
    obtain ⟨o, _, _, e, _⟩ := F.ns
    rw [← q] at e
    have e : h.get? b = some o := e
    rw [hb] at e; cases e⟩
  let nw : List (Addr × Obj) := [(D + 1, instObj C D), (D, emptyDict)]
  have N1 : News P.c.g P.c.L H nw := fun p hp => by
    rcases List.mem_cons.mp hp with rfl | hp
    · exact ⟨hxx, (gN _ hXn).2, (gN _ hXn).1⟩
    · rw [List.mem_singleton.mp hp]; exact ⟨hdd, (gN _ hDn).2, (gN _ hDn).1⟩
  obtain ⟨FG, BG, st, -⟩ := groundX (s := ⟨H, g, d, t, os⟩) (A := P.c.A) (R := fun _ _ => True) (env := P.c.env) (news := nw) O.B F1 N1 rfl rfl O.k
  have XG := O.X.keeps st
  have hb1 := hbind ⟨H, g, d, t, os⟩ (.ref (D + 1)) y
  refine codeAny_call_def (s := ⟨H, g, d, t, os⟩) (fd := fnX name qual params _ scope [] dV kV doc pm an cdv ct) (body := [.Assign [.Attribute (.Name se p1) nm p2] (.Name nm p3) p4]) (binds := [(se, .ref (D + 1)), (nm, y)]) (by show P.c.dp + 1 < recursionLimit; omega) ((O.X.keeps F1.keep) _ _ ho) rfl (O.T.nolimit.keeps F1.keep) (codeRec_of (O.X.keeps F1.keep) hcd) rfl hb1 hcell
    (by intro p hp; simp at hp; rcases hp with rfl | rfl <;> assumption) (fun h₁ hns hk₁ => ?_) hco hgen hk
  let G : Heap := hideAll H (nw.map (·.1))
  have F2 : Fr G H.objs.size h₁ (fun x => [(se, Value.ref (D + 1)), (nm, y)].reverse.lookup x) := ⟨hns, fun b o e => hk₁ b o (of_hideAll _ e), Nat.le_of_eq (hideAll_size _ _)⟩
  have N2 : News G H.objs.size h₁ nw := fun p hp => ⟨hk₁ _ _ (N1 p hp).1, Nat.ne_of_lt (Heap.lt_size (N1 p hp).1), hideAll_none _ (List.mem_map_of_mem hp)⟩
  have hdx : ∀ x v, [(se, Value.ref (D + 1)), (nm, y)].reverse.lookup x = some v → scope.names.lookup x = some .local → (x == ("__debug__" : Str)) = false → ∀ {A : Around} {pos : Pos} {s : Shared} {Q : Value → Shared → Prop} {E : Value → Shared → Prop}, s.heap.Ns H.objs.size (fun x => [(se, Value.ref (D + 1)), (nm, y)].reverse.lookup x) → Q v s → wpAny (model PG P.c.w) A (eval (.Name x pos) (callEnv (fnX name qual params [.Assign [.Attribute (.Name se p1) nm p2] (.Name nm p3) p4] scope [] dV kV doc pm an cdv ct) H.objs.size fI)) Q E s :=
    fun x v hx hl hd A pos s Q E hn hq => wpAny_Name (wpAny_loadName_local hk hl hn hx hq) hd
  have e1 : [(se, Value.ref (D + 1)), (nm, y)].reverse.lookup nm = some y := by simp
  have e2 : [(se, Value.ref (D + 1)), (nm, y)].reverse.lookup se = some (.ref (D + 1)) := by
    have : (se == nm) = false := by rw [Bool.eq_false_iff] at hne ⊢; intro q; exact hne (by rw [eq_of_beq q]; simp)
    simp [List.lookup_cons, this]
  refine wpAny_execs_cons (plainObj_wpAny_Assign_Attribute (hdx nm y e1 hl2 hd2 F2.ns (hdx se _ e2 hl1 hd1 F2.ns ?_)))
  refine set_dict (es := []) (n := 0) (news := nw) (ox := instObj C D) F2 XG N2 (InstAt.mk (hk₁ _ _ hxx) rfl (by rfl) (hk₁ _ _ hdd)) rfl hsa hpo hta hh (by rfl) rfl (Upd.tail (Nat.succ_ne_self D) (Upd.head (List.forall_mem_nil _))) (Nat.le_of_ble_eq_true rfl) fun h2 F3 N3 => ?_
  have ex : Ext h h2 := fun b o e => F3.keep b o (hideAll_get _ (up b o e) fun hm => by
    have := Heap.lt_size e
    simp only [nw, List.map_cons, List.map_nil, List.mem_cons, List.not_mem_nil, or_false] at hm
    rcases hm with rfl | rfl
    · rw [hXn] at e; cases e
    · rw [hDn] at e; cases e)
  refine wpAny_execs_nil ⟨rfl, hQ (.ref (D + 1)) h2 _ ex ⟨D + 1, D, y, _, rfl, fun q => ?_, (N3 _ (.head _)).1, fun q => ?_, (N3 _ (.tail _ (.head _))).1, ry.ext ex⟩⟩
  · obtain ⟨o, e⟩ := P.low _ _ hs q
    have e : h.get? (D + 1) = some o := e
    rw [hXn] at e; cases e
  · obtain ⟨o, e⟩ := P.low _ _ hs q
    have e : h.get? D = some o := e
    rw [hDn] at e; cases e
end
end Mine
end
section
open PySem PySem.W PyProof.Rows PySem.Calls PySem.Spec
set_option maxRecDepth 100000
set_option maxHeartbeats 3200000
namespace Mine
/-! a new set: its table knows whether the order is the text's -/
noncomputable abbrev ledOf (w : World) : Bool := !w.params.followText "set-order"
noncomputable abbrev setO0 (led : Bool) : Obj := { cls := .type "set", dict := none, data := .set #[] 0 (.fresh 0 0 led) }
section
variable {prog : Program} {w : World} {A : Around} {E : Value → Shared → Prop} {s : Shared}
theorem set_new_tree (a : Value) {R : PySem.Fin → Shared → Prop} (h : R (.done (.ret (.ref s.heap.objs.size))) { s with heap := s.heap.push (setO0 (ledOf w)) }) :
    wpAny (model prog w) A (Builtin.«set.__new__» ⟨[.type "set", a], []⟩) R E s := by
  have hsub := sub_set_self
  unfold Builtin.«set.__new__» Builtin.Frozenset.newClass
  obtain ⟨hp, g, d, tk, os⟩ := s
  dsimp only
  wp_walk
  refine wpAny_askSetting (wpAny_pure ?_)
  dsimp only
  simp only [newObj]
  refine wpAny_bind (wpAny_alloc (wpAny_pure ?_))
  exact wpAny_pure h
end
end Mine
end
section
open PySem PySem.W PyProof.Rows PySem.Calls PySem.Spec
set_option maxRecDepth 100000
set_option maxHeartbeats 3200000
namespace Mine
/-! a set of the ints 0, 1, 2, 3: which of them are in, and with what tokens -/
structure O4 where
  a : Option Tok
  b : Option Tok
  c : Option Tok
  d : Option Tok
noncomputable def O4.get (o : O4) (n : Nat) : Option Tok := match n with | 0 => o.a | 1 => o.b | 2 => o.c | _ => o.d
noncomputable def O4.put (o : O4) (n : Nat) (t : Tok) : O4 := match n with | 0 => { o with a := some t } | 1 => { o with b := some t } | 2 => { o with c := some t } | _ => { o with d := some t }
noncomputable def entS (k : Int) (x : Option Tok) : List (Int × Value) := match x with | some t => [(k, .int k t)] | none => []
noncomputable def plS (k : Nat) (x : Option Tok) : List Nat := match x with | some _ => [k] | none => []
noncomputable def O4.es (o : O4) : Array (Int × Value) := (entS 0 o.a ++ (entS 1 o.b ++ (entS 2 o.c ++ entS 3 o.d))).toArray
noncomputable def O4.place (o : O4) : Array Nat := (plS 0 o.a ++ (plS 1 o.b ++ (plS 2 o.c ++ plS 3 o.d))).toArray
noncomputable def O4.tab (o : O4) (led : Bool) : SetTable := { mask := 7, place := o.place, dummies := #[], finger := 0, led, moves := 0, plain := true }
noncomputable def O4.nil : O4 := ⟨none, none, none, none⟩
theorem O4.fits (o : O4) (led : Bool) : (o.tab led).fits o.es.size = true := by
  obtain ⟨a, b, c, d⟩ := o
  cases a <;> cases b <;> cases c <;> cases d <;> rfl
theorem O4.notFull (o : O4) (led : Bool) : (o.tab led).tooFull = false := by
  obtain ⟨a, b, c, d⟩ := o
  cases a <;> cases b <;> cases c <;> cases d <;> rfl
theorem O4.size_le (o : O4) : o.es.size ≤ 4 := by
  obtain ⟨a, b, c, d⟩ := o
  cases a <;> cases b <;> cases c <;> cases d <;> exact Nat.le_of_ble_eq_true rfl
theorem O4.lay (o : O4) (led : Bool) {n : Nat} (hn : n < 4) (t : Tok) (h : o.get n = none) : layNew (o.tab led) o.es (n : Int) (.int (n : Int) t) = ((o.put n t).es, (o.put n t).tab led, false, false) := by
  obtain ⟨a, b, c, d⟩ := o
  match n, hn with
  | 0, _ => have h : a = none := h; subst h; cases b <;> cases c <;> cases d <;> kernel_rfl
  | 1, _ => have h : b = none := h; subst h; cases a <;> cases c <;> cases d <;> kernel_rfl
  | 2, _ => have h : c = none := h; subst h; cases a <;> cases b <;> cases d <;> kernel_rfl
  | 3, _ => have h : d = none := h; subst h; cases a <;> cases b <;> cases c <;> kernel_rfl
theorem O4.mem_es {o : O4} {e : Int × Value} (h : e ∈ o.es.toList) : ∃ (n : Nat) (t : Tok), n < 4 ∧ e = ((n : Int), .int (n : Int) t) ∧ o.get n = some t := by
  obtain ⟨a, b, c, d⟩ := o
  simp only [O4.es, List.mem_append, entS] at h
  rcases h with h | h | h | h
  · cases a with
    | none => exact nomatch h
    | some t => exact ⟨0, t, by decide, List.mem_singleton.mp h, rfl⟩
  · cases b with
    | none => exact nomatch h
    | some t => exact ⟨1, t, by decide, List.mem_singleton.mp h, rfl⟩
  · cases c with
    | none => exact nomatch h
    | some t => exact ⟨2, t, by decide, List.mem_singleton.mp h, rfl⟩
  · cases d with
    | none => exact nomatch h
    | some t => exact ⟨3, t, by decide, List.mem_singleton.mp h, rfl⟩
theorem O4.in_es {o : O4} {n : Nat} {t : Tok} (hn : n < 4) (h : o.get n = some t) : ((n : Int), Value.int (n : Int) t) ∈ o.es.toList := by
  obtain ⟨a, b, c, d⟩ := o
  simp only [O4.es, List.mem_append, entS]
  match n, hn with
  | 0, _ => have h : a = some t := h; subst h; exact .inl (.head _)
  | 1, _ => have h : b = some t := h; subst h; exact .inr (.inl (.head _))
  | 2, _ => have h : c = some t := h; subst h; exact .inr (.inr (.inl (.head _)))
  | 3, _ => have h : d = some t := h; subst h; exact .inr (.inr (.inr (.head _)))
theorem O4.get_put {o : O4} {n k : Nat} {t u : Tok} (hn : n < 4) (hk : k < 4) (h : (o.put n t).get k = some u) : k = n ∨ o.get k = some u := by
  obtain ⟨a, b, c, d⟩ := o
  match n, hn, k, hk with
  | 0, _, 0, _ => exact .inl rfl
  | 0, _, 1, _ => exact .inr h
  | 0, _, 2, _ => exact .inr h
  | 0, _, 3, _ => exact .inr h
  | 1, _, 0, _ => exact .inr h
  | 1, _, 1, _ => exact .inl rfl
  | 1, _, 2, _ => exact .inr h
  | 1, _, 3, _ => exact .inr h
  | 2, _, 0, _ => exact .inr h
  | 2, _, 1, _ => exact .inr h
  | 2, _, 2, _ => exact .inl rfl
  | 2, _, 3, _ => exact .inr h
  | 3, _, 0, _ => exact .inr h
  | 3, _, 1, _ => exact .inr h
  | 3, _, 2, _ => exact .inr h
  | 3, _, 3, _ => exact .inl rfl
noncomputable abbrev O4.obj (o : O4) (ep : Nat) (led : Bool) : Obj := { cls := .type "set", dict := none, data := .set o.es ep (o.tab led) }
section
variable {prog : Program} {w : World} {A : Around} {E : Value → Shared → Prop} {s : Shared}
theorem O4.elems (o : O4) : ElemsOf (intKind prog w) o.es.toList := fun e he => by
  obtain ⟨n, t, hn, rfl, -⟩ := O4.mem_es he
  refine ⟨⟨(n : Int), ?_, ?_⟩, rfl⟩
  · exact decide_eq_true rfl
  · match n, hn with
    | 0, _ => rfl
    | 1, _ => rfl
    | 2, _ => rfl
    | 3, _ => rfl
theorem hash4 {n : Nat} (hn : n < 4) : (intKind prog w).hash (n : Int) = (n : Int) := by
  match n, hn with
  | 0, _ => rfl
  | 1, _ => rfl
  | 2, _ => rfl
  | 3, _ => rfl
/-- one more -/
theorem setAdd_four {S : Addr} {o : O4} {ep : Nat} {led : Bool} {n : Nat} {t : Tok} {Q : Bool → Shared → Prop} (hn : n < 4) (hS : s.heap.get? S = some (o.obj ep led))
    (h : ∀ b h' o' ep' tk, Heap.SameBut S s.heap h' → h'.get? S = some (O4.obj o' ep' led) → (∀ k u, k < 4 → o'.get k = some u → k = n ∨ o.get k = some u) → Q b { s with heap := h', toks := tk }) :
    wpAny (model prog w) A (setAdd S (.int (n : Int) t)) Q E s := by
  unfold setAdd
  refine wpAny_holding (wpAny_bind ((intKind prog w).pyHash (k := (n : Int)) (decide_eq_true rfl) ?_))
  unfold setAddHashed setAddHashedIn
  refine wpAny_holding (wpAny_bind (wpAny_setState_of hS rfl (o.fits led) ?_))
  dsimp only
  rw [byScan_of (knd := intKind prog w) rfl (Nat.lt_of_le_of_lt o.size_le (by decide)) o.elems]
  simp only [↓reduceIte]
  unfold setAddByScan
  refine wpAny_bind ?_
  refine wpAny_bind (wpAny_rule ?_)
  refine wpAny_bind (wpAny_setScan_of (knd := intKind prog w) (decide_eq_true rfl) hS rfl (o.fits led) o.elems ?_)
  rw [hash4 hn]
  cases hg : o.get n with
  | some u =>
    have hin := O4.in_es hn hg
    cases hf : List.findIdx? (fun e => (intKind prog w).is (n : Int) e.2) o.es.toList with
    | none =>
      have := List.findIdx?_eq_none_iff.mp hf _ hin
      rw [show (intKind prog w).is (n : Int) (Value.int (n : Int) u) = true from decide_eq_true rfl] at this
      exact Bool.noConfusion this
    | some j =>
      dsimp only
      exact wpAny_pure (wpAny_pure (h false s.heap o ep _ (Heap.SameBut.refl S s.heap) hS fun k u _ hk => .inr hk))
  | none =>
    cases hf : List.findIdx? (fun e => (intKind prog w).is (n : Int) e.2) o.es.toList with
    | some j =>
      obtain ⟨hj, hpj, _⟩ := List.findIdx?_eq_some_iff_getElem.mp hf
      obtain ⟨k, u, hk, he, hgk⟩ := O4.mem_es (List.getElem_mem hj)
      rw [he] at hpj
      have e1 : (k : Int) = (n : Int) := by
        have := of_decide_eq_true hpj
        first | exact this | exact this.symm
      have e2 : k = n := by omega
      rw [e2, hg] at hgk
      cases hgk
    | none =>
      dsimp only
      rw [O4.lay o led hn t hg]
      dsimp only
      have hgw : ∀ {s₁ : Shared} {Q' : Unit → Shared → Prop}, Q' () s₁ → wpAny (model prog w) A (match false with | true => rule "set.scan.the-table-gave-way" | false => pure ()) Q' E s₁ := fun hq => wpAny_pure hq
      refine wpAny_bind (wpAny_pure ?_)
      rw [if_pos (show ((o.put n t).tab led).plain = true from rfl), hashByValue_scannable 8 (show (Value.int (n : Int) t).scannable = true from rfl)]
      refine wpAny_bind (wpAny_pure ?_)
      rw [if_pos (show plainKind (Value.int (n : Int) t) = true from rfl)]
      refine wpAny_bind (wpAny_storeSet_of hS rfl ?_ (fits_of_scanBound (Nat.lt_of_le_of_lt (O4.size_le _) (by decide))))
      rw [O4.notFull]
      refine wpAny_pure (wpAny_pure ?_)
      have hg2 : (s.heap.update S (Obj.putSet (o.put n t).es ((o.put n t).tab led))).get? S = some ((o.put n t).obj (ep + 1) led) := by
        have := Heap.get?_update_self (Obj.putSet (o.put n t).es ((o.put n t).tab led)) hS (by rw [putSet_of _ _ rfl]; rfl)
        rw [putSet_of _ _ rfl] at this
        exact this
      exact h true _ (o.put n t) (ep + 1) _ (Heap.SameBut.update s.heap S _) hg2 fun k u hk e => O4.get_put hn hk e
end
end Mine
end
section
open PySem PySem.W PyProof.Rows PySem.Calls PySem.Spec
set_option maxRecDepth 100000
set_option maxHeartbeats 3200000
namespace Mine
section
variable {prog : Program} {w : World} {A : Around} {E : Value → Shared → Prop} {s : Shared}
/-- what is in is one of the list's -/
noncomputable def InL (o : O4) (ns : List Int) : Prop := ∀ k u, k < 4 → o.get k = some u → ((k : Nat) : Int) ∈ ns
theorem upd_loop {I l S : Addr} {items : Array Value} {ns : List Int} {led : Bool} {R : Result → Shared → Prop} (hh : A.in1.handled = none) (hIS : I ≠ S) (hlS : l ≠ S) (hlI : l ≠ I)
    (hval : ∀ (i : Nat) (v : Value), items[i]? = some v → ∃ (n : Nat) (t : Tok), n < 4 ∧ v = .int (n : Int) t ∧ (n : Int) ∈ ns) :
    ∀ (k i : Nat) (s : Shared) (o : O4) (ep : Nat), items.size - i = k → i ≤ items.size → s.heap.IsListIter I l i → s.heap.IsList l items → s.heap.get? S = some (o.obj ep led) → InL o ns →
      (∀ h' tk o' ep', (∀ b v, b ≠ S → b ≠ I → s.heap.get? b = some v → h'.get? b = some v) → h'.get? S = some (O4.obj o' ep' led) → InL o' ns → R (.ok (.ret .none)) { s with heap := h', toks := tk }) →
      codeAny (model prog w) A (.builtin "set.update.loop" ⟨[.ref S, .ref I], []⟩) R s := by
  intro k
  induction k with
  | zero =>
    intro i s o ep hk hi hit hl hS ho hR
    refine codeAny_builtin F.entry_set_update_loop ?_
    rw [Around.under_plainId F.plain_set_update_loop _]
    show wpAny _ A.in1 (pyNext (.ref I) >>= _) _ _ s
    refine wpAny_bind (wpAny_pyNext_list_end hh hit hl (by rw [Array.getElem?_eq_none_iff]; omega) fun h' he => ?_)
    exact wpAny_pure (hR h' _ o ep (fun b v _ hbI e => he b v hbI e) (he S _ (Ne.symm hIS) hS) ho)
  | succ k ih =>
    intro i s o ep hk hi hit hl hS ho hR
    have hlt : i < items.size := by omega
    obtain ⟨n, t, hn, hv, hm⟩ := hval i items[i] (Array.getElem?_eq_getElem hlt)
    refine codeAny_builtin F.entry_set_update_loop ?_
    rw [Around.under_plainId F.plain_set_update_loop _]
    show wpAny _ A.in1 (pyNext (.ref I) >>= _) _ _ s
    refine wpAny_bind (wpAny_pyNext_list_item hit hl (Array.getElem?_eq_getElem hlt) fun h₁ hit₁ hs₁ => ?_)
    rw [hv]
    show wpAny _ A.in1 (holding [Value.int (n : Int) t] (setAdd S (.int (n : Int) t)) >>= _) _ _ _
    have hS₁ : h₁.get? S = some (o.obj ep led) := hs₁.extBut S _ (Ne.symm hIS) hS
    refine wpAny_bind (wpAny_holding (setAdd_four hn hS₁ fun b h₂ o' ep' tk hs₂ hS₂ hget => ?_))
    refine wpAny_pure ⟨plainId_quiet F.plain_set_update_loop _, ih (i + 1) _ o' ep' (by omega) hlt (hit₁.extBut hs₂.extBut hIS) ((hl.extBut hs₁.extBut hlI).extBut hs₂.extBut hlS) hS₂ (fun k u hk4 e => ?_) fun h' tk' o'' ep'' keep hS' ho'' => ?_⟩
    · rcases hget k u hk4 e with rfl | e
      · exact hm
      · exact ho k u hk4 e
    · exact hR h' tk' o'' ep'' (fun b v hbS hbI e => keep b v hbS hbI (hs₂.extBut b v hbS (hs₁.extBut b v hbI e))) hS' ho''
end
end Mine
end
section
open PySem PySem.W PyProof.Rows PySem.Calls PySem.Spec
set_option maxRecDepth 100000
set_option maxHeartbeats 3200000
namespace Mine
section
variable {prog : Program} {w : World} {A : Around} {E : Value → Shared → Prop} {s : Shared} {Q : Value → Shared → Prop}
theorem set_made (a : Value) {Q₁ : Value → Shared → Prop} (h : Q₁ (.ref s.heap.objs.size) { s with heap := s.heap.push (setO0 (ledOf w)) }) :
    codeAny (model prog w) A (.call (.builtin "set.__new__") ⟨[.type "set", a], []⟩) (wants Q₁ E) s := by
  refine codeAny_of_tree ?_
  show wpAny _ A.in1 (do checkBuiltinCall "set.__new__" ⟨[.type "set", a], []⟩; again (.builtin "set.__new__" ⟨[.type "set", a], []⟩)) _ _ s
  refine wpAny_bind (wpAny_of_eq (F.newCall_set_1 a) (wpAny_pure ⟨plainId_quiet F.plain_set_new _, codeAny_builtin F.entry_set_new ?_⟩))
  rw [Around.under_plainId F.plain_set_new _]
  exact set_new_tree a h
/-- set(x): what «set.__new__» made goes to «set.__init__» -/
theorem set_shell {x : Value} {Q₁ : Value → Shared → Prop} (hnew : codeAny (model prog w) A.in1 (.call (.builtin "set.__new__") ⟨[.type "set", x], []⟩) (wants Q₁ E) s)
    (hinit : ∀ obj s₁, Q₁ obj s₁ → s₁.TypeIs obj "set" ∧ wpAny (model prog w) A.in1.in1 (Builtin.«set.__init__» ⟨[obj, x], []⟩)
      (fun fin s' => match fin with | .done f => wants (fun r s₂ => r = .none ∧ Q obj s₂) E (.ok f) s' | .again c' => c'.quiet = true ∧ codeAny (model prog w) A.in1 c' (wants (fun r s₂ => r = .none ∧ Q obj s₂) E) s')
      (fun e s' => wants (fun r s₂ => r = .none ∧ Q obj s₂) E (.error e) s') s₁) :
    wpAny (model prog w) A (call (.type "set") [x]) Q E s := by
  obtain ⟨c, tl, hmro⟩ := F.called_set.mro
  have hmade := F.called_set.made
  have hsub := F.called_set.sub
  have hnt := F.called_set.notType
  have hcc := F.called_set.canCreate
  have hct := F.typeCall_set_1 x
  refine wpAny_call (codeAny_of_tree ?_)
  show wpAny _ _ (callAny (.type "set") _) _ _ _
  refine wpAny_pure ⟨Code.quiet_builtin _ (by decide +kernel), codeAny_builtin F.entry_type_call ?_⟩
  rw [Around.under_plain (weight_type_call_type "set" [x] []) rfl]
  repeat (any_goals (first | assumption | wp_step))
  refine codeAny_mono hnew fun r s₁ hr => ?_
  match r, hr with
  | .error _, hr => exact hr
  | .ok (.ret obj), hr =>
    obtain ⟨hT, hb⟩ := hinit _ _ hr
    have hli := F.called_set.init.lookup
    have hbi := F.called_set.init.bind obj
    repeat (any_goals (first | assumption | wp_step))
    refine codeAny_mono (codeAny_call_builtin F.called_set.init.plain F.entry_set_init (check_set_init_1 hT hb)) fun r₂ s₂ hr₂ => ?_
    match r₂, hr₂ with
    | .error _, hr₂ => exact hr₂
    | .ok (.ret _), hr₂ =>
      obtain ⟨rfl, hq⟩ := hr₂
      repeat (any_goals (first | assumption | wp_step))
    | .ok .next, hr₂ => exact hr₂.elim
    | .ok .brk, hr₂ => exact hr₂.elim
    | .ok .cont, hr₂ => exact hr₂.elim
  | .ok .next, hr => exact hr.elim
  | .ok .brk, hr => exact hr.elim
  | .ok .cont, hr => exact hr.elim
theorem set_call {l : Addr} {items : Array Value} {ns : List Int} (hh : A.handled = none) (hl : s.heap.IsList l items) (hval : ∀ (i : Nat) (v : Value), items[i]? = some v → ∃ (n : Nat) (t : Tok), n < 4 ∧ v = .int (n : Int) t ∧ (n : Int) ∈ ns)
    (h : ∀ h' tk o ep, h'.get? s.heap.objs.size = some (O4.obj o ep (ledOf w)) → InL o ns → (∀ b v, b < s.heap.objs.size → s.heap.get? b = some v → h'.get? b = some v) → Q (.ref s.heap.objs.size) { s with heap := h', toks := tk }) :
    wpAny (model prog w) A (call (.type "set") [.ref l]) Q E s := by
  have hS : (s.heap.push (setO0 (ledOf w))).get? s.heap.objs.size = some (setO0 (ledOf w)) := Heap.get?_push_size _ rfl
  refine set_shell (Q₁ := fun r s₁ => r = .ref s.heap.objs.size ∧ s₁ = { s with heap := s.heap.push (setO0 (ledOf w)) }) (set_made _ ⟨rfl, rfl⟩) ?_
  rintro _ _ ⟨rfl, rfl⟩
  refine ⟨⟨_, hS, rfl⟩, ?_⟩
  have hl1 : (s.heap.push (setO0 (ledOf w))).IsList l items := hl.push _
  obtain ⟨ol, hol, hcl, nl, hdl⟩ := id hl
  have hlS : l < s.heap.objs.size := Heap.lt_size hol
  have hol' : (s.heap.push (setO0 (ledOf w))).get? l = some ol := Heap.get?_push_of_some _ hol
  have hsls := F.sub_list_set
  have hslf := F.sub_list_frozenset
  have hne : (Value.type "list" == Value.type "dict") = false := by decide
  obtain ⟨ocls, odict, odata, oslots⟩ := ol
  simp only at hcl hdl
  subst hcl; subst hdl
  unfold Builtin.«set.__init__» noKeywords Builtin.Frozenset.updateFrom
  generalize hPI : pyIter = PI
  wp_walk
  subst hPI
  refine wpAny_pyIter_list hl1 ?_
  refine wpAny_bind (wpAny_runValue ?_)
  have hsz : (s.heap.push (setO0 (ledOf w))).objs.size = s.heap.objs.size + 1 := Heap.size_push _ _
  have hne0 : (s.heap.push (setO0 (ledOf w))).objs.size ≠ s.heap.objs.size := by rw [hsz]; exact Nat.succ_ne_self _
  have hne1 : l ≠ (s.heap.push (setO0 (ledOf w))).objs.size := by rw [hsz]; exact Nat.ne_of_lt (Nat.lt_succ_of_lt hlS)
  refine upd_loop (led := ledOf w) (ns := ns) (by simp [hh]) hne0 (Nat.ne_of_lt hlS) hne1 hval (items.size - 0) 0 _ O4.nil 0 (by omega) (Nat.zero_le _)
    ⟨_, Heap.get?_push_size _ rfl, rfl, rfl⟩ (hl1.push _) ?_ (fun k u _ e => ?_) fun h' tk o' ep' keep hS' ho' => ?_
  · exact Heap.get?_push_of_some _ hS
  · exfalso
    match k with
    | 0 => cases e
    | 1 => cases e
    | 2 => cases e
    | _ + 3 => cases e
  · refine wpAny_pure ?_
    show wpAny _ _ (ret Value.none) _ _ _
    refine wpAny_pure ⟨rfl, h h' tk o' ep' hS' ho' fun b v hb e => ?_⟩
    exact keep b v (Nat.ne_of_lt hb) (by rw [hsz]; exact Nat.ne_of_lt (Nat.lt_succ_of_lt hb)) (Heap.get?_push_of_some _ (Heap.get?_push_of_some _ e))
end
end Mine
end
section
open PySem PySem.W PyProof.Rows PySem.Calls PySem.Spec
set_option maxRecDepth 100000
set_option maxHeartbeats 3200000
namespace Mine
/-! the walk over such a set -/
theorem si_next : Slot "set_iterator" "__next__" "set_iterator.__next__" :=
  .of (owner := "set_iterator") (n := "__next__") (by rw [typeLookup_type, builtinLookup_eq_fast]; kernel_rfl) (by decide +kernel) (by decide +kernel) (by decide +kernel)
    (by first | exact .inl (by decide +kernel) | exact .inr (by decide +kernel)) (by rw [isSubtype_type]; kernel_rfl)
theorem si_entry : entryFor table "set_iterator.__next__" = some Builtin.«set_iterator.__next__» := entryFor_of_tree (by kernel_rfl)
theorem si_owner : Manifest.owners.lookup (String.ofList ['r', 'o', 't', 'a', 'r', 'e', 't', 'i', '_', 't', 'e', 's'].reverse) = some Manifest.sig_set_iterator := by kernel_rfl
theorem si_args (a : Value) : argsOk "set_iterator.__next__" ⟨[a], []⟩ := by
  unfold argsOk; rw [signature?_of (id := "set_iterator.__next__") (n := ['_', '_', 't', 'x', 'e', 'n', '_', '_']) (o := ['r', 'o', 't', 'a', 'r', 'e', 't', 'i', '_', 't', 'e', 's']) (by kernel_rfl) si_owner]; kernel_rfl
theorem se_iter : entryFor table "set.__iter__" = some Builtin.«frozenset.__iter__» := entryFor_alias (id' := "frozenset.__iter__") (by kernel_rfl) rfl (by decide +kernel) (by kernel_rfl)
theorem go_sub {α : Type} (next : Nat → Nat) (P : α → Prop) : ∀ (fuel k : Nat) (left : List α) (out : Array α), (∀ x ∈ left, P x) → (∀ x ∈ out, P x) → (∀ x ∈ pickOrder.go next fuel k left out, P x) ∧ (pickOrder.go next fuel k left out).size ≤ out.size + fuel
  | 0, k, left, out, _, ho => ⟨ho, Nat.le_refl _⟩
  | fuel + 1, k, left, out, hl, ho => by
    unfold pickOrder.go
    split
    · rename_i x e
      have := go_sub next P fuel (k + 1) (left.eraseIdx (next k % left.length)) (out.push x) (fun y hy => hl y (List.mem_of_mem_eraseIdx hy)) (fun y hy => by
        rcases Array.mem_push.mp hy with hy | rfl
        · exact ho y hy
        · exact hl _ (List.mem_of_getElem? e))
      refine ⟨this.1, Nat.le_trans this.2 ?_⟩
      rw [Array.size_push]; omega
    · exact ⟨ho, Nat.le_add_right _ _⟩
/-- the elements in the order of a walk -/
noncomputable def seqS (w : World) (a : Addr) (o : O4) (ep : Nat) : Array (Int × Value) := if w.params.followText "set-order" = true then pickOrder (w.params.setOrder a ep) o.es else o.es
noncomputable def slotAt (o : O4) : Nat → Nat | 0 => 0 | i + 1 => (o.place[i]?).elim 0 (· + 1)
noncomputable def slotS (w : World) (o : O4) (i : Nat) : Nat := if w.params.followText "set-order" = true then 0 else slotAt o i
theorem seqS_size (w : World) (a : Addr) (o : O4) (ep : Nat) : (seqS w a o ep).size ≤ 4 := by
  unfold seqS
  split
  · have := (go_sub (w.params.setOrder a ep) (fun _ => True) o.es.size 0 o.es.toList #[] (fun _ _ => trivial) (fun _ _ => trivial)).2
    have h4 := o.size_le
    unfold pickOrder
    simp only [List.size_toArray, List.length_nil] at this
    omega
  · exact o.size_le
theorem seqS_mem {w : World} {a : Addr} {o : O4} {ep : Nat} {e : Int × Value} (h : e ∈ seqS w a o ep) : e ∈ o.es.toList := by
  unfold seqS at h
  split at h
  · exact (go_sub (w.params.setOrder a ep) (fun x => x ∈ o.es.toList) o.es.size 0 o.es.toList #[] (fun _ h => h) (fun x h => by simp at h)).1 e h
  · exact Array.mem_toList_iff.mpr h
theorem next_tab (o : O4) (i : Nat) (hi : i ≤ o.es.size) :
    (match o.es[SetTable.below o.place (slotAt o i)]?, o.place[SetTable.below o.place (slotAt o i)]? with | some (_, x), some j => some (x, j + 1) | _, _ => none) = (o.es[i]?).map fun e => (e.2, slotAt o (i + 1)) := by
  have h4 := o.size_le
  obtain ⟨a, b, c, d⟩ := o
  match i, (Nat.le_trans hi h4 : i ≤ 4) with
  | 0, _ => cases a <;> cases b <;> cases c <;> cases d <;> kernel_rfl
  | 1, _ => cases a <;> cases b <;> cases c <;> cases d <;> first | exact absurd hi (Nat.not_le_of_gt (Nat.le_of_ble_eq_true rfl)) | kernel_rfl
  | 2, _ => cases a <;> cases b <;> cases c <;> cases d <;> first | exact absurd hi (Nat.not_le_of_gt (Nat.le_of_ble_eq_true rfl)) | kernel_rfl
  | 3, _ => cases a <;> cases b <;> cases c <;> cases d <;> first | exact absurd hi (Nat.not_le_of_gt (Nat.le_of_ble_eq_true rfl)) | kernel_rfl
  | 4, _ => cases a <;> cases b <;> cases c <;> cases d <;> first | exact absurd hi (Nat.not_le_of_gt (Nat.le_of_ble_eq_true rfl)) | kernel_rfl
section
variable {prog : Program} {w : World} {A : Around} {E : Value → Shared → Prop} {s : Shared} {a it : Addr} {o : O4} {ep i : Nat}
theorem next4 {Q : Option (Value × Nat) → Shared → Prop} (hS : s.heap.get? a = some (o.obj ep (ledOf w))) (hi : i ≤ (seqS w a o ep).size) (h : Q (((seqS w a o ep)[i]?).map fun e => (e.2, slotS w o (i + 1))) s) :
    wpAny (model prog w) A (setNext a (slotS w o i) i ep) Q E s := by
  unfold setNext
  refine wpAny_bind (wpAny_setState_of hS rfl (o.fits _) ?_)
  dsimp only
  refine wpAny_bind ?_
  unfold setsByText
  refine wpAny_bind (wpAny_askSetting (wpAny_pure ?_))
  show wpAny _ _ (if (w.params.followText "set-order") = true then _ else _) _ _ _
  by_cases hf : w.params.followText "set-order" = true
  · rw [if_pos hf, if_neg (by simp)]
    simp only [seqS, slotS, if_pos hf] at h ⊢
    refine wpAny_bind ?_
    unfold setWalk setsByText
    refine wpAny_bind (wpAny_setState_of hS rfl (o.fits _) ?_)
    dsimp only
    refine wpAny_bind (wpAny_bind (wpAny_askSetting (wpAny_pure ?_)))
    show wpAny _ _ (if (w.params.followText "set-order") = true then _ else _) _ _ _
    rw [if_pos hf]
    refine wpAny_bind (wpAny_askSetting (wpAny_pure ?_))
    exact wpAny_pure h
  · rw [if_neg hf]
    simp only [seqS, slotS, if_neg hf] at h hi ⊢
    have hl : ledOf w = true := by simp [ledOf, hf]
    rw [hl]
    refine wpAny_ite_split (fun hab => absurd (show false = true from hab) Bool.false_ne_true) (fun _ => ?_)
    refine wpAny_bind ?_
    refine wpAny_ite_split (fun hab => absurd (show false = true from hab) Bool.false_ne_true) (fun _ => ?_)
    refine wpAny_pure (wpAny_pure ?_)
    have := next_tab o i hi
    rw [← this] at h
    exact h
end
end Mine
end
section
open PySem PySem.W PyProof.Rows PySem.Calls PySem.Spec
set_option maxRecDepth 100000
set_option maxHeartbeats 3200000
namespace Mine
noncomputable def SetIt (h : Heap) (it a : Addr) (slot i n ep : Nat) : Prop := ∃ o, h.get? it = some o ∧ o.cls = .type "set_iterator" ∧ o.data = .fields #[.int (slot : Int) 0, .int (i : Int) 0, .ref a, .int (n : Int) 0, .int (ep : Int) 0]
theorem setIt_type {s : Shared} {it a : Addr} {slot i n ep : Nat} (h : SetIt s.heap it a slot i n ep) : s.TypeIs (.ref it) "set_iterator" := let ⟨o, ho, hc, _⟩ := h; ⟨o, ho, hc⟩
section
variable {prog : Program} {w : World} {A : Around} {E : Value → Shared → Prop} {s : Shared} {a it : Addr} {o : O4} {ep i : Nat}
theorem si_item {k : Int} {v : Value} {Q : Option Value → Shared → Prop} (hS : s.heap.get? a = some (o.obj ep (ledOf w))) (hit : SetIt s.heap it a (slotS w o i) i o.es.size ep) (hne : it ≠ a) (hv : (seqS w a o ep)[i]? = some (k, v))
    (hQ : ∀ h', SetIt h' it a (slotS w o (i + 1)) (i + 1) o.es.size ep → Heap.SameBut it s.heap h' → Q (some v) { s with heap := h' }) : wpAny (model prog w) A (pyNext (.ref it)) Q E s := by
  obtain ⟨ob, ho, hc, hd⟩ := id hit
  have hi : i ≤ (seqS w a o ep).size := by
    rcases Nat.lt_or_ge i (seqS w a o ep).size with h | h
    · exact Nat.le_of_lt h
    · rw [Array.getElem?_eq_none h] at hv; cases hv
  unfold pyNext
  refine wpAny_bind (wpAny_attempt (wpAny_callSpecial?_slot (name := Str.ofString "__next__") (setIt_type hit) si_next (wpAny_call_entry si_next (setIt_type hit) si_entry ?_ (si_args _))))
  unfold Builtin.«set_iterator.__next__»
  refine wpAny_bind (wpAny_pure ?_)
  refine wpAny_bind (wpAny_fieldsOf ho hd ?_)
  show wpAny _ _ (setEntries a >>= _) _ _ s
  refine wpAny_bind (wpAny_bind (wpAny_setState_of hS rfl (o.fits _) (wpAny_pure ?_)))
  dsimp only
  refine wpAny_ite_split (fun hab => absurd hab (by simp)) (fun _ => ?_)
  show wpAny _ _ (setNext a (slotS w o i) i ep >>= _) _ _ s
  refine wpAny_bind (next4 hS hi ?_)
  rw [hv]
  show wpAny _ _ (setField (.ref it) 0 (rawInt (slotS w o (i + 1))) >>= _) _ _ s
  refine wpAny_bind (wpAny_setField ho hd (by simp) ?_)
  have ho2 := Heap.get?_update_self (Obj.mapFields (·.setIfInBounds 0 (rawInt (slotS w o (i + 1))))) ho (Obj.isFreed_of_fields (Obj.data_mapFields hd _))
  have hd2 := Obj.data_mapFields hd (f := (·.setIfInBounds 0 (rawInt (slotS w o (i + 1)))))
  refine wpAny_bind (wpAny_setField ho2 hd2 (by simp) ?_)
  refine wpAny_pure ⟨_, rfl, wpAny_pure (hQ _ ⟨_, Heap.get?_update_self _ ho2 (Obj.isFreed_of_fields (Obj.data_mapFields hd2 _)), (Obj.cls_mapFields ..).trans ((Obj.cls_mapFields ..).trans hc), ?_⟩ ((Heap.SameBut.update ..).trans (Heap.SameBut.update ..)))⟩
  rw [Obj.data_mapFields hd2]
  simp [rawInt]
theorem si_end {Q : Option Value → Shared → Prop} (hh : A.handled = none) (hS : s.heap.get? a = some (o.obj ep (ledOf w))) (hit : SetIt s.heap it a (slotS w o i) i o.es.size ep) (hi : i = (seqS w a o ep).size)
    (hQ : ∀ h', Heap.ExtBut it s.heap h' → Q none { s with heap := h' }) : wpAny (model prog w) A (pyNext (.ref it)) Q E s := by
  obtain ⟨ob, ho, hc, hd⟩ := id hit
  unfold pyNext
  refine wpAny_bind (wpAny_attempt (wpAny_callSpecial?_slot (name := Str.ofString "__next__") (setIt_type hit) si_next (wpAny_call_entry si_next (setIt_type hit) si_entry ?_ (si_args _))))
  unfold Builtin.«set_iterator.__next__»
  refine wpAny_bind (wpAny_pure ?_)
  refine wpAny_bind (wpAny_fieldsOf ho hd ?_)
  show wpAny _ _ (setEntries a >>= _) _ _ s
  refine wpAny_bind (wpAny_bind (wpAny_setState_of hS rfl (o.fits _) (wpAny_pure ?_)))
  dsimp only
  refine wpAny_ite_split (fun hab => absurd hab (by simp)) (fun _ => ?_)
  show wpAny _ _ (setNext a (slotS w o i) i ep >>= _) _ _ s
  refine wpAny_bind (next4 hS (Nat.le_of_eq hi) ?_)
  rw [Array.getElem?_eq_none (Nat.le_of_eq hi.symm)]
  show wpAny _ _ (setField (.ref it) 2 .none >>= _) _ _ s
  refine wpAny_bind (wpAny_setField ho hd (by simp) ?_)
  show wpAny _ _ (newExc (.type "StopIteration") [] >>= _) _ _ _
  refine wpAny_bind ?_
  simp only [newExc, newTuple]
  refine wpAny_bind (wpAny_newObj_type ?_ (by size_fits))
  refine wpAny_bind (m := firstArgMember _ _) (wpAny_of_eq (a := Value.none) (by first | rfl | (simp only [firstArgMember]; rfl)) ?_)
  refine wpAny_newObj_type ?_ (by size_fits)
  simp only [raiseNew]
  refine wpAny_bind (wpAny_handled ?_)
  rw [show A.in1.handled = none from hh]
  refine wpAny_bind (wpAny_pure (wpAny_throw ?_))
  refine wpAny_bind (wpAny_isInstance (T := "StopIteration") (b := true) ⟨_, Heap.get?_push_size _ rfl, rfl⟩ isSubtype_stop ?_)
  exact wpAny_pure (hQ _ (((Heap.SameBut.update ..).extBut.push _).push _))
theorem se_pyIter {Q : Value → Shared → Prop} (hS : s.heap.get? a = some (o.obj ep (ledOf w))) (h : ∀ h', h' = s.heap.push { cls := .type "set_iterator", data := .fields #[.int (0 : Nat) 0, .int (0 : Nat) 0, .ref a, .int (o.es.size : Int) 0, .int (ep : Int) 0] } → Q (.ref s.heap.objs.size) { s with heap := h' }) :
    wpAny (model prog w) A (pyIter (.ref a)) Q E s := by
  have hT : s.TypeIs (.ref a) "set" := ⟨_, hS, rfl⟩
  refine wpAny_pyIter_slot hT F.slot_set_iter (wpAny_call_entry F.slot_set_iter hT se_iter ?_ (F.args_set_iter_1 _))
  unfold Builtin.«frozenset.__iter__» Builtin.Frozenset.slot0
  refine wpAny_bind (wpAny_bind (wpAny_pure (wpAny_pure ?_)))
  refine wpAny_bind (wpAny_bind (wpAny_bind (wpAny_setState_of hS rfl (o.fits _) (wpAny_pure (wpAny_pure ?_)))))
  dsimp only
  refine wpAny_bind ?_
  refine wpAny_bind (wpAny_setState_of hS rfl (o.fits _) ?_)
  dsimp only
  unfold setsByText
  refine wpAny_bind (wpAny_bind (wpAny_askSetting (wpAny_pure ?_)))
  refine wpAny_pure ?_
  refine wpAny_ite_split (fun hab => absurd (show (!(w.params.followText "set-order") && false) = true from hab) (by simp)) (fun _ => ?_)
  refine wpAny_bind (wpAny_pure ?_)
  unfold setEpoch
  refine wpAny_bind (wpAny_bind (wpAny_setState_of hS rfl (o.fits _) (wpAny_pure ?_)))
  refine wpAny_bind (wpAny_newObj_type (wpAny_pure ⟨_, rfl, "set_iterator", _, ⟨_, Heap.get?_push_size _ rfl, rfl⟩, si_next.lookup, h _ rfl⟩))
end
end Mine
end
section
open PySem PySem.W PyProof.Rows PySem.Calls PySem.Spec
set_option maxRecDepth 100000
set_option maxHeartbeats 3200000
namespace Mine
noncomputable def OneOf (ns : List Int) (v : Value) : Prop := ∃ (n : Nat) (t : Tok), n < 4 ∧ v = .int (n : Int) t ∧ (n : Int) ∈ ns
theorem seqS_val {w : World} {a : Addr} {o : O4} {ep i : Nat} {ns : List Int} {k : Int} {v : Value} (ho : InL o ns) (h : (seqS w a o ep)[i]? = some (k, v)) : OneOf ns v := by
  obtain ⟨n, t, hn, e, hg⟩ := O4.mem_es (seqS_mem (Array.mem_of_getElem? h))
  cases e
  exact ⟨n, t, hn, rfl, ho n t hn hg⟩
theorem ints_of {ns : List Int} : ∀ (vs : List Value), (∀ v ∈ vs, OneOf ns v) → ∃ ns', IntsAre vs ns' ∧ ∀ x ∈ ns', x ∈ ns
  | [], _ => ⟨[], .nil, fun _ h => nomatch h⟩
  | v :: vs, h => by
    obtain ⟨n, t, _, rfl, hm⟩ := h v (.head _)
    obtain ⟨ns', hi, hs⟩ := ints_of vs fun v hv => h v (.tail _ hv)
    refine ⟨(n : Int) :: ns', .cons _ t hi, fun x hx => ?_⟩
    rcases List.mem_cons.mp hx with rfl | hx
    · exact hm
    · exact hs x hx
section
variable {prog : Program} {w : World} {A : Around} {E : Value → Shared → Prop} {s : Shared}
theorem ext_loop {I a S : Addr} {o : O4} {ep : Nat} {ns : List Int} {res : Value} {R : Result → Shared → Prop} (hh : A.in1.handled = none) (hIa : I ≠ a) (hSa : S ≠ a) (hSI : S ≠ I) (ho : InL o ns) :
    ∀ (k i : Nat) (s : Shared) (acc : Array Value) (c : Nat), (seqS w a o ep).size - i = k → i ≤ (seqS w a o ep).size → s.heap.get? a = some (o.obj ep (ledOf w)) → SetIt s.heap I a (slotS w o i) i o.es.size ep →
      s.heap.get? S = some (seqObj "list" acc c) → acc.size = i → (∀ v ∈ acc.toList, OneOf ns v) →
      (∀ h' acc' c', (∀ b v, b ≠ S → b ≠ I → s.heap.get? b = some v → h'.get? b = some v) → h'.get? S = some (seqObj "list" acc' c') → acc'.size ≤ 4 → (∀ v ∈ acc'.toList, OneOf ns v) → R (.ok (.ret res)) { s with heap := h' }) →
      codeAny (model prog w) A (.builtin "list.extend.loop" ⟨[.ref S, .ref I, res], []⟩) R s := by
  have h4 := seqS_size w a o ep
  intro k
  induction k with
  | zero =>
    intro i s acc c hk hi ha hit hS hsz hv hR
    refine codeAny_builtin F.entry_extend_loop ?_
    rw [Around.under_plainId F.plain_extend_loop _]
    show wpAny _ A.in1 (pyNext (.ref I) >>= _) _ _ s
    refine wpAny_bind (si_end hh ha hit (by omega) fun h' he => ?_)
    exact wpAny_pure (hR h' acc c (fun b v _ hbI e => he b v hbI e) (he S _ hSI hS) (by omega) hv)
  | succ k ih =>
    intro i s acc c hk hi ha hit hS hsz hv hR
    have hlt : i < (seqS w a o ep).size := by omega
    refine codeAny_builtin F.entry_extend_loop ?_
    rw [Around.under_plainId F.plain_extend_loop _]
    show wpAny _ A.in1 (pyNext (.ref I) >>= _) _ _ s
    have hx : (seqS w a o ep)[i]? = some ((seqS w a o ep)[i].1, (seqS w a o ep)[i].2) := Array.getElem?_eq_getElem hlt
    refine wpAny_bind (si_item ha hit hIa hx fun h₁ hit₁ hs₁ => ?_)
    have hS₁ : h₁.get? S = some (seqObj "list" acc c) := hs₁.extBut S _ hSI hS
    have ha₁ : h₁.get? a = some (o.obj ep (ledOf w)) := hs₁.extBut a _ (Ne.symm hIa) ha
    show wpAny _ A.in1 (updateSeq S (·.push (seqS w a o ep)[i].2) >>= _) _ _ _
    have hlim : acc.size + 1 ≤ sizeLine := by rw [sizeLine_eq]; omega
    refine wpAny_bind (wpAny_updateSeq hS₁ rfl (wpAny_pure ⟨plainId_quiet F.plain_extend_loop _, ih (i + 1) _ (acc.push (seqS w a o ep)[i].2) _ (by omega) hlt ?_ ?_ (Heap.get?_update_self _ hS₁ rfl) (by rw [Array.size_push, hsz]) (fun v hvv => ?_) fun h' acc' c' keep hS' h4' hv' => ?_⟩)
      (by omega) (by rw [Array.size_push]; omega))
    · exact (Heap.get?_update_other _ _ hSa).trans ha₁
    · obtain ⟨ob, hob, r⟩ := hit₁
      exact ⟨ob, (Heap.get?_update_other _ _ hSI).trans hob, r⟩
    · rw [Array.toList_push, List.mem_append, List.mem_singleton] at hvv
      rcases hvv with hvv | rfl
      · exact hv v hvv
      · exact seqS_val ho hx
    · exact hR h' acc' c' (fun b v hbS hbI e => keep b v hbS hbI ((Heap.get?_update_other _ _ (Ne.symm hbS)).trans (hs₁.extBut b v hbI e))) hS' h4' hv'
theorem collect_set {a : Addr} {o : O4} {ep : Nat} {ns : List Int} {Q : List Value → Shared → Prop} (hh : A.handled = none) (ha : s.heap.get? a = some (o.obj ep (ledOf w))) (ho : InL o ns)
    (h : ∀ h' vs, (∀ b v, s.heap.get? b = some v → h'.get? b = some v) → vs.length ≤ 4 → (∀ v ∈ vs, OneOf ns v) → Q vs { s with heap := h' }) :
    wpAny (model prog w) A (collect (.ref a)) Q E s := by
  have hlt : a < s.heap.objs.size := Heap.lt_size ha
  unfold collect
  refine wpAny_bind (wpAny_runValue (codeAny_builtin F.entry_proto_collect ?_))
  rw [Around.under_plainId F.plain_proto_collect _]
  show wpAny _ A.in1 (newList [] >>= fun l => again (.builtin "list.__iadd__" ⟨[l, .ref a], []⟩)) _ _ s
  refine wpAny_bind (wpAny_newObj_type ?_)
  refine wpAny_pure ⟨plainId_quiet F.plain_list_iadd _, codeAny_builtin F.entry_list_iadd ?_⟩
  rw [Around.under_plainId F.plain_list_iadd _]
  show wpAny _ A.in1 (Builtin.List.listExtendWith (.ref s.heap.objs.size) (.ref a) (.ref s.heap.objs.size)) _ _ { s with heap := s.heap.push (seqObj "list" #[] 0) }
  have ha1 : (s.heap.push (seqObj "list" #[] 0)).get? a = some (o.obj ep (ledOf w)) := Heap.get?_push_of_some _ ha
  unfold Builtin.List.listExtendWith
  refine wpAny_bind (wpAny_typeOf (T := "set") ⟨_, ha1, rfl⟩ ?_)
  have hSa : s.heap.objs.size ≠ a := Nat.ne_of_gt hlt
  have h1 : Builtin.List.listSameRef (.ref s.heap.objs.size) (.ref a) = false := by simp [Builtin.List.listSameRef, hSa]
  rw [if_neg (by rw [h1]; decide)]
  refine wpAny_bind (se_pyIter ha1 fun h2 e2 => ?_)
  have hI : (s.heap.push (seqObj "list" #[] 0)).objs.size = s.heap.objs.size + 1 := Heap.size_push _ _
  have hit : h2.get? (s.heap.push (seqObj "list" #[] 0)).objs.size = some { cls := .type "set_iterator", data := .fields #[.int (0 : Nat) 0, .int (0 : Nat) 0, .ref a, .int (o.es.size : Int) 0, .int (ep : Int) 0] } := by
    rw [e2]; exact Heap.get?_push_size _ rfl
  have ha2 : h2.get? a = some (o.obj ep (ledOf w)) := by rw [e2]; exact Heap.get?_push_of_some _ ha1
  have hS2 : h2.get? s.heap.objs.size = some (seqObj "list" #[] 0) := by rw [e2]; exact Heap.get?_push_of_some _ (Heap.get?_push_size _ rfl)
  have hold : ∀ b v, s.heap.get? b = some v → h2.get? b = some v := fun b v e => by rw [e2]; exact Heap.get?_push_of_some _ (Heap.get?_push_of_some _ e)
  clear e2
  rw [hI] at hit ⊢
  refine wpAny_bind (wpAny_holding ?_)
  unfold Builtin.List.listLengthHint
  have hT : Shared.TypeIs { s with heap := h2 } (.ref a) "set" := ⟨_, ha2, rfl⟩
  refine wpAny_bind (wpAny_specialOf hT F.slot_set_len.lookup ?_)
  generalize hid : ("set.__len__" : String) = id0
  wp_delta
  rw [show splitId id0 = some ("set", "__len__") from by subst hid; decide +kernel]
  subst hid
  refine wpAny_bind (wpAny_isInstance (b := true) hT (by rw [isSubtype_type]; kernel_rfl) ?_)
  refine wpAny_ite_split (fun hab => absurd hab (by decide)) (fun _ => ?_)
  refine wpAny_ite_split (fun _ => ?_) (fun hab => absurd (by decide +kernel) hab)
  refine wpAny_bind (wpAny_typeOf hT ?_)
  refine wpAny_pure ?_
  refine wpAny_ite_split (fun _ => ?_) (fun hab => absurd (by decide) hab)
  refine wpAny_bind (wpAny_rule ?_)
  refine wpAny_bind ?_
  show wpAny _ A.in1 (updateSeq s.heap.objs.size (·.push .none) >>= fun _ => updateSeq s.heap.objs.size (·.pop)) _ _ _
  refine wpAny_bind (wpAny_updateSeq hS2 rfl ?_)
  have hS3 := Heap.get?_update_self (Obj.mapSeq (·.push Value.none)) hS2 rfl
  refine wpAny_updateSeq hS3 rfl ?_
  have hS4 := Heap.get?_update_self (Obj.mapSeq (·.pop)) hS3 rfl
  have oth : ∀ b v, b ≠ s.heap.objs.size → h2.get? b = some v → ((h2.update s.heap.objs.size (Obj.mapSeq (·.push Value.none))).update s.heap.objs.size (Obj.mapSeq (·.pop))).get? b = some v :=
    fun b v hb e => (Heap.get?_update_other _ _ (Ne.symm hb)).trans ((Heap.get?_update_other _ _ (Ne.symm hb)).trans e)
  refine wpAny_pure ⟨plainId_quiet F.plain_extend_loop _, ext_loop (ns := ns) (o := o) (ep := ep) (by simp [hh]) (Nat.ne_of_gt (Nat.lt_succ_of_lt hlt)) hSa (Nat.ne_of_lt (Nat.lt_succ_self _)) ho _ 0 _ _ _ rfl (Nat.zero_le _) (oth a _ (Ne.symm hSa) ha2)
    ⟨_, oth _ _ (Nat.succ_ne_self _) hit, rfl, ?_⟩ hS4 rfl (fun v hv => nomatch hv) fun h' acc' c' keep hS' h4' hv' => ?_⟩
  · rw [show slotS w o 0 = 0 by unfold slotS slotAt; split <;> rfl]
  · show wpAny _ A (load s.heap.objs.size >>= _) _ _ _
    refine wpAny_bind (wpAny_load hS' ?_)
    refine wpAny_pure (h h' acc'.toList (fun b v e => ?_) h4' hv')
    have hb : b < s.heap.objs.size := Heap.lt_size e
    exact keep b v (Nat.ne_of_lt hb) (Nat.ne_of_lt (Nat.lt_succ_of_lt hb)) (oth b v (Nat.ne_of_lt hb) (hold b v e))
theorem sorted_set {a : Addr} {o : O4} {ep : Nat} {ns : List Int} {Q : Value → Shared → Prop} (hh : A.handled = none) (ha : s.heap.get? a = some (o.obj ep (ledOf w))) (ho : InL o ns)
    (h : ∀ h' D (vs : List Value) ns' c, (∀ b v, s.heap.get? b = some v → b < D ∧ h'.get? b = some v) → h'.get? D = some (seqObj "list" vs.toArray c) → IntsAre vs ns' → (∀ x ∈ ns', x ∈ ns) → Q (.ref D) { s with heap := h' }) :
    wpAny (model prog w) A (call (.builtin "sorted") [.ref a]) Q E s := by
  refine Calls.call_function_entry kind_sorted plain_sorted entry_sorted (args_sorted1 _) ?_
  unfold Builtin.«sorted»
  refine wpAny_bind (m := checkCount "sorted" 1 1 _) (wpAny_pure ?_)
  refine wpAny_bind (collect_set (by simp [hh]) ha ho fun h1 vs keep h4 hv => ?_)
  obtain ⟨ns1, hI, hin⟩ := ints_of vs hv
  refine wpAny_bind (wpAny_newList ?_ (by rw [sizeLine_eq]; omega))
  show wpAny _ _ _ _ _ { s with heap := h1.push (seqObj "list" vs.toArray 0) }
  have hoL : (h1.push (seqObj "list" vs.toArray 0)).get? h1.objs.size = some (seqObj "list" vs.toArray 0) := Heap.get?_push_size _ rfl
  refine wpAny_bind (wpAny_holding (wpAny_call_entry slot_list_sort ⟨_, hoL, rfl⟩ entry_list_sort (list_sort_tree hoL hI (by omega) fun out ns' a1 a2 a3 => ⟨_, rfl, ?_⟩) (args_list_sort _)))
  have hsz : (h1.push (seqObj "list" vs.toArray 0)).objs.size = h1.objs.size + 1 := Heap.size_push _ _
  have hnew : ∃ c, (sortedHeap (h1.push (seqObj "list" vs.toArray 0)) h1.objs.size vs out).get? h1.objs.size = some (seqObj "list" out.toList.toArray c) := by
    unfold sortedHeap
    have u1 := get?_update_seq hoL (fun _ => #[])
    have u2 := Heap.get?_push_of_some (seqObj "list" #[] 0) (Heap.get?_push_of_some (seqObj "tuple" vs.toArray 0) u1)
    exact ⟨_, get?_update_seq u2 (fun _ => out)⟩
  obtain ⟨c, hnew⟩ := hnew
  refine wpAny_pure ⟨_, rfl, h _ h1.objs.size out.toList ns' c (fun b v e => ?_) hnew a1 fun x hx => hin x (a2.mem_iff.mp hx)⟩
  have hb : b < h1.objs.size := Heap.lt_size (keep b v e)
  refine ⟨hb, ?_⟩
  unfold sortedHeap
  refine (Heap.get?_update_other _ _ (Nat.ne_of_gt hb)).trans ?_
  refine Heap.get?_push_of_some _ (Heap.get?_push_of_some _ ?_)
  exact (Heap.get?_update_other _ _ (Nat.ne_of_gt hb)).trans (Heap.get?_push_of_some _ (keep b v e))
end
end Mine
end
section
open PySem PySem.W PyProof.Rows PySem.Calls PySem.Spec PyProof.Rows.LCg
set_option maxRecDepth 100000
set_option maxHeartbeats 4000000
namespace Mine
/-! sets of small ints, their sorted lists; lists compared -/
noncomputable def setSm (w : World) (ns : List Int) : Sm where
  rel h bad x := ∃ a q ep, x = .ref a ∧ ¬ bad a ∧ h.get? a = some (O4.obj q ep (ledOf w)) ∧ InL q ns
  move := fun T _ ⟨a, q, ep, e, hb, ho, hi⟩ => ⟨a, q, ep, e, (T _ _ hb ho).1, (T _ _ hb ho).2, hi⟩
/-- some list of ints from 0 to 3 -/
noncomputable def smallSm : Sm where
  rel h bad x := ∃ ts : List Nat, (∀ t ∈ ts, t ≤ 3) ∧ RV h bad (.list ((ts.map fun t => ((t : Nat) : Int)).map .int)) x
  move := fun T _ ⟨ts, h3, r⟩ => ⟨ts, h3, RV.move T r⟩
section
variable {P : Px} {pos : Pos} {l r : Expr}
theorem Cv.set {ns : List Nat} (hs : ∀ n ∈ ns, n ≤ 3) : Cv P (.type "set") [.list ((ns.map fun n => ((n : Nat) : Int)).map .int)] (.sem (setSm P.c.w (ns.map fun n => ((n : Nat) : Int)))) := fun s I ys rr Q E hQ => by
  obtain ⟨_, _, rfl, ⟨a, xs, n, rfl, hb, ho, rs⟩, rfl⟩ := rr
  refine set_call (ns := ns.map fun n => ((n : Nat) : Int)) rfl (l := a) (items := xs.toArray) ⟨_, ho, rfl, n, rfl⟩ (fun i v hv => ?_) fun h' tk o ep hS ho' hk => ?_
  · rw [List.getElem?_toArray] at hv
    obtain ⟨t, rfl⟩ := ints_getD (rv_ints rs) hv
    have hi : i < ns.length := by
      have := (List.getElem?_eq_some_iff.mp hv).1
      rw [rs.len, List.length_map, List.length_map] at this; exact this
    refine ⟨ns[i], t, Nat.lt_succ_of_le (hs _ (List.getElem_mem hi)), ?_, List.mem_map_of_mem (List.getElem_mem hi)⟩
    rw [List.getD_eq_getElem?_getD, List.getElem?_map, List.getElem?_eq_getElem hi]; rfl
  · exact hQ _ h' tk (fun b v e => hk b v (Heap.lt_size e) e) ⟨_, o, ep, rfl, fun q => let ⟨_, e⟩ := P.low s _ I q; Nat.lt_irrefl _ (Heap.lt_size e), hS, ho'⟩
theorem Cv.sorted {ns : List Nat} (hs : ∀ n ∈ ns, n ≤ 3) : Cv P (.builtin "sorted") [.sem (setSm P.c.w (ns.map fun n => ((n : Nat) : Int)))] (.sem smallSm) := fun s I ys rr Q E hQ => by
  obtain ⟨_, _, rfl, ⟨a, q, ep, rfl, hb, ho, hi⟩, rfl⟩ := rr
  refine sorted_set rfl ho hi fun h' D vs ns' c hk hD hi' hin => ?_
  have e : ∃ ts : List Nat, (∀ t ∈ ts, t ≤ 3) ∧ ns' = ts.map fun t => ((t : Nat) : Int) := by
    clear hi' hk hD hQ
    induction ns' with
    | nil => exact ⟨[], fun _ h => (nomatch h), rfl⟩
    | cons x xs ih =>
      obtain ⟨ts, h3, e⟩ := ih fun y hy => hin y (.tail _ hy)
      obtain ⟨n, hn, e2⟩ := List.mem_map.mp (hin x (.head _))
      exact ⟨n :: ts, List.forall_mem_cons.mpr ⟨hs n hn, h3⟩, by rw [List.map_cons, ← e, ← e2]⟩
  obtain ⟨ts, h3, rfl⟩ := e
  refine hQ _ h' _ (fun b v e => (hk b v e).2) ⟨ts, h3, D, vs, c, rfl, fun q => let ⟨_, e⟩ := P.low s _ I q; Nat.lt_irrefl _ (hk _ _ e).1, hD, ?_⟩
  clear h3 hin hk hD hQ
  generalize ts.map (fun t => ((t : Nat) : Int)) = ms at hi'
  induction hi' with
  | nil => rfl
  | cons n t r ih => exact ⟨_, _, rfl, ⟨t, rfl⟩, ih⟩
/-- the same lists of texts -/
theorem Ev.neSame {xs : List Str} (hu : P.c.un + 64 < cLine) (hl : Ev P l (.list (xs.map .str))) (hr : Ev P r (.list (xs.map .str))) (hm : behindInMarks .NotEq r = false := by with_unfolding_all rfl) : EvT P (.Compare l [.NotEq] [r] pos) false :=
  hl.cmp hr (hm := hm) fun s _ x y r1 r2 Q E hQ => by
    obtain ⟨a, us, n, rfl, -, ho, rs⟩ := r1
    obtain ⟨b, vs, n2, rfl, -, ho2, rs2⟩ := r2
    have la : s.heap.IsList a us.toArray := ⟨_, ho, rfl, n, rfl⟩
    have lb : s.heap.IsList b vs.toArray := ⟨_, ho2, rfl, n2, rfl⟩
    have hlen : us.toArray.size = vs.toArray.size := by rw [List.size_toArray, List.size_toArray, rs.len, rs2.len]
    refine cmp_ofNotEq (SeqAt.RcNeAt.lists (A := P.c.A) (e := fun _ => true) la lb hlen (by show P.c.un < cLine; omega) (fun j h1 h2 => ?_) PG P.c.w E _ ?_)
    · have hj : j < xs.length := by rw [List.size_toArray, rs.len, List.length_map] at h1; exact h1
      obtain ⟨x, hx, t, rfl⟩ := rs.at (i := j) (v := .str xs[j]) (by rw [List.getElem?_map, List.getElem?_eq_getElem hj]; rfl)
      obtain ⟨y, hy, u, rfl⟩ := rs2.at (i := j) (v := .str xs[j]) (by rw [List.getElem?_map, List.getElem?_eq_getElem hj]; rfl)
      have := SeqAt.EqAt.str_str (A := P.c.A.in1) (s := s) xs[j] t xs[j] u
      rw [beq_self_eq_true] at this
      have e1 : us.toArray[j] = .str xs[j] t := by rw [List.getElem_toArray]; rw [List.getElem?_eq_getElem (by simpa using h1)] at hx; exact Option.some.inj hx
      have e2 : vs.toArray[j] = .str xs[j] u := by rw [List.getElem_toArray]; rw [List.getElem?_eq_getElem (by simpa using h2)] at hy; exact Option.some.inj hy
      rw [e1, e2]; exact this
    · rw [show (List.range us.toArray.size).all (fun _ => true) = true by rw [List.all_eq_true]; exact fun _ _ => rfl]
      exact hQ s.heap s.toks Ext.rfl'
/-- lists of two lengths -/
theorem Ev.eqLen {vs ws : List AV} (hu : P.c.un + 64 < cLine) (hne : vs.length ≠ ws.length) (hl : Ev P l (.list vs)) (hr : Ev P r (.list ws)) (hm : behindInMarks .Eq r = false := by with_unfolding_all rfl) : EvT P (.Compare l [.Eq] [r] pos) false :=
  hl.cmp hr (hm := hm) fun s _ x y r1 r2 Q E hQ => by
    obtain ⟨a, us, n, rfl, -, ho, rs⟩ := r1
    obtain ⟨b, vs, n2, rfl, -, ho2, rs2⟩ := r2
    exact cmp_ofEq (SeqAt.RcAt.lists_lengths (A := P.c.A) ⟨_, ho, rfl, n, rfl⟩ ⟨_, ho2, rfl, n2, rfl⟩ (by rw [List.size_toArray, List.size_toArray, rs.len, rs2.len]; exact bne_iff_ne.mpr hne) (by show P.c.un < cLine; omega) PG P.c.w E _ (hQ s.heap s.toks Ext.rfl'))
end
end Mine
end
section
open PySem PySem.W PyProof.Rows PySem.Calls PySem.Spec PyProof.Rows.LCg
set_option maxRecDepth 100000
set_option maxHeartbeats 4000000
namespace Mine
/-! a list comprehension of two clauses whose test is never true: [.. for a in xs for b in a if c] -/
noncomputable abbrev two (elt it1 c : Expr) (a b : Str) (pa pb pc : Pos) (scope : Scope) (pos : Pos) : Expr := .ListComp elt [⟨.Name a pa, it1, [], 0⟩, ⟨.Name b pb, .Name a pc, [c], 0⟩] scope pos
section
variable {prog : Program} {w : World} {A : Around} {E : Value → Shared → Prop} {s : Shared} {elt it1 c : Expr} {a b : Str} {pa pb pc : Pos} {scope : Scope} {pos : Pos}
theorem two_turn0 (it acc : Value) (env : Env) : compTurn (two elt it1 c a b pa pb pc scope pos) 0 it acc env = (do
      standAt it1.pos
      match ← pyNext it with
      | none => pure (.done .next)
      | some v =>
        letOwnedTupleGo (.Name a pa) it v
        assign (.Name a pa) env v
        let x ← eval (.Name a pc) env
        standAt (Expr.Name a pc).pos
        let x ← foldedSetIterable (.Name a pc) env x
        let _ ← runOwn (.compStart (two elt it1 c a b pa pb pc scope pos) 1 (← holding [x] (pyIter x)) acc env) env
        again (.compLoop (two elt it1 c a b pa pb pc scope pos) 0 it acc env)) := by rfl
theorem two_turn1 (it acc : Value) (env : Env) : compTurn (two elt it1 c a b pa pb pc scope pos) 1 it acc env = (do
      standAt (Expr.Name a pc).pos
      match ← pyNext it with
      | none => pure (.done .next)
      | some v =>
        letOwnedTupleGo (.Name b pb) it v
        assign (.Name b pb) env v
        let mut ok := true
        for c in [c] do
          if ok then ok ← isTrue c env (eval c env)
        if ok then
          (do let _ ← call (.builtin "list.append") [acc, ← eval elt env])
        again (.compLoop (two elt it1 c a b pa pb pc scope pos) 1 it acc env)) := by rfl
theorem two_start1 {it acc : Value} {env : Env} {R : Result → Shared → Prop}
    (h0 : codeAny (model prog w) A (.compLoop (two elt it1 c a b pa pb pc scope pos) 1 it acc env) R s)
    (h : wpAny (model prog w) A (pyIter it) (fun it' s' => codeAny (model prog w) A (.compLoop (two elt it1 c a b pa pb pc scope pos) 1 it' acc env) R s')
      (notedBy (model prog w) A env fun x s' => R (.error x) s') s) :
    codeAny (model prog w) A (.compStart (two elt it1 c a b pa pb pc scope pos) 1 it acc env) R s := by
  refine codeAny_of_tree ?_
  show wpAny _ _ ((compStart (two elt it1 c a b pa pb pc scope pos) 1 it acc env).onRaise (fun x => do noteFrame x env; standAt theWindowsPlace)) _ _ s
  refine wpAny_notedAt ?_
  unfold compStart
  show wpAny _ _ (ask >>= _) _ _ s
  refine wpAny_bind (wpAny_askSetting (wpAny_ite ?_))
  split
  · first
      | exact wpAny_bind (wpAny_pure (wpAny_pure (And.intro rfl h0)))
      | exact wpAny_pure (And.intro rfl h0)
  · first
      | exact wpAny_bind (wpAny_rule (wpAny_bind (wpAny_standAt (wpAny_bind (wpAny_mono h (fun it' s' h' => wpAny_pure (And.intro rfl h')) fun _ _ x => x)))))
      | (refine wpAny_bind (wpAny_rule ?_); show wpAny _ _ (standAt _ >>= _) _ _ s; exact wpAny_bind (wpAny_standAt (wpAny_bind (wpAny_mono h (fun it' s' h' => wpAny_pure (And.intro rfl h')) fun _ _ x => x))))

/-- the inner loop -/
theorem two_inner {J l : Addr} {acc : Value} {cenv : Env} {xs : Array Value} {m : Str → Option Value} {R : Result → Shared → Prop} 
    (hh : A.handled = none) (hb : cenv.kindOf b = some .local) (hp : (cenv.scope.kind == .class || (cenv.scope.kind == .module && cenv.locals != cenv.globals)) = false)
    (hJC : J ≠ cenv.locals) (hlJ : l ≠ J) (hlC : l ≠ cenv.locals)
    (hit : s.heap.IsListIter J l 0) (hl : s.heap.IsList l xs) (hn : s.heap.Ns cenv.locals m)
    (htest : ∀ x h₂ tk₂ m₂ (E' : Value → Shared → Prop), x ∈ xs → h₂.Ns cenv.locals m₂ → m₂ b = some x → (∀ b o, b ≠ cenv.locals → b ≠ J → s.heap.get? b = some o → h₂.get? b = some o) →
      wpAny (model prog w) A (isTrue c cenv (eval c cenv)) (fun ok s₃ => ok = false ∧ Keeps { s with heap := h₂, toks := tk₂ } s₃) E' { s with heap := h₂, toks := tk₂ })
    (hR : ∀ h' tk m', h'.Ns cenv.locals m' → (∀ b o, b ≠ cenv.locals → b ≠ J → s.heap.get? b = some o → h'.get? b = some o) → R (.ok .next) { s with heap := h', toks := tk }) :
    codeAny (model prog w) A (.compLoop (two elt it1 c a b pa pb pc scope pos) 1 (.ref J) acc cenv) R s := by
  refine codeAny_loop rfl
    (fun k s' => ∃ h' tk m' i, s' = { s with heap := h', toks := tk } ∧ h'.IsListIter J l i ∧ h'.IsList l xs ∧ h'.Ns cenv.locals m' ∧ i ≤ xs.size ∧ k = xs.size + 1 - i ∧
      ∀ b o, b ≠ cenv.locals → b ≠ J → s.heap.get? b = some o → h'.get? b = some o) (fun n s₁ hI => ?_) (xs.size + 1)
    ⟨s.heap, s.toks, m, 0, rfl, hit, hl, hn, Nat.zero_le _, rfl, fun _ _ _ _ e => e⟩
  show wpAny _ A ((compTurn (two elt it1 c a b pa pb pc scope pos) 1 (.ref J) acc cenv).onRaise (fun x => do noteFrame x cenv; theTreesLotGoes x)) _ _ s₁
  refine wpAny_noted ?_
  rw [two_turn1]
  obtain ⟨H, tk, m', i, rfl, hit', hl', hn', hi, rfl, hk⟩ := hI
  refine wpAny_bind (wpAny_standAt (wpAny_bind ?_))
  cases hv : xs[i]? with
  | none =>
    refine wpAny_pyNext_list_end hh hit' hl' hv fun h₁ he₁ => ?_
    exact wpAny_pure (hR h₁ tk m' (hn'.extBut he₁ (Ne.symm hJC)) fun b o hbC hbJ e => he₁ b o hbJ (hk b o hbC hbJ e))
  | some v =>
    have hlt : i < xs.size := (Array.getElem?_eq_some_iff.mp hv).1
    have hmem : v ∈ xs := by obtain ⟨h1, rfl⟩ := Array.getElem?_eq_some_iff.mp hv; exact Array.getElem_mem h1
    refine wpAny_pyNext_list_item hit' hl' hv fun h₁ hit₁ hs₁ => ?_
    refine wpAny_bind (wpAny_of_eq (show letOwnedTupleGo (.Name b pb) (.ref J) v = pure () from rfl) ?_)
    refine wpAny_bind (wpAny_assign_Name (wpAny_storeName_local hb (hn'.sameBut hs₁ (Ne.symm hJC)) (fun h₂ hn₂ hs₂ => ?_) hp))
    refine wpAny_bind (wpAny_tests_one (wpAny_mono (htest v _ _ _ _ hmem hn₂ (by simp) fun b o hbC hbJ e => hs₂.extBut b o hbC (hs₁.extBut b o hbJ (hk b o hbC hbJ e))) (fun ok s₃ h₃ => ?_) fun _ _ e => e))
    obtain ⟨rfl, h₃, tk₃, rfl, hk₃⟩ := h₃
    have up₃ : ∀ b o, b ≠ cenv.locals → b ≠ J → H.get? b = some o → h₃.get? b = some o := fun b o hbC hbJ e => hk₃ b o (hs₂.extBut b o hbC (hs₁.extBut b o hbJ e))
    have hit₃ : h₃.IsListIter J l (i + 1) := (hit₁.extBut hs₂.extBut hJC).at fun o e => hk₃ _ o e
    have hl₃ : h₃.IsList l xs := hl'.at fun o e => up₃ l o hlC hlJ e
    exact wpAny_pure ⟨rfl, _, by omega, h₃, tk₃, _, i + 1, rfl, hit₃, hl₃, hn₂.keeps hk₃, hlt, rfl, fun b o hbC hbJ e => up₃ b o hbC hbJ (hk b o hbC hbJ e)⟩

/-- the outer loop -/
theorem two_outer {I ax : Addr} {acc : Value} {cenv : Env} {items : Array Value} {m : Str → Option Value} {R : Result → Shared → Prop} (P : Value → Prop)
    (hh : A.handled = none) (hkf : cenv.scope.kind = .function) (ha : cenv.kindOf a = some .local) (hb : cenv.kindOf b = some .local) (hp : (cenv.scope.kind == .class || (cenv.scope.kind == .module && cenv.locals != cenv.globals)) = false) (hda : (a == ("__debug__" : Str)) = false)
    (hIC : I ≠ cenv.locals) (haI : ax ≠ I) (haC : ax ≠ cenv.locals)
    (hit : s.heap.IsListIter I ax 0) (hl : s.heap.IsList ax items) (hn : s.heap.Ns cenv.locals m)
    (hin : ∀ v ∈ items, ∃ l xs, v = .ref l ∧ s.heap.IsList l xs ∧ l ≠ I ∧ l ≠ cenv.locals ∧ ∀ x ∈ xs, P x)
    (htest : ∀ x h₂ tk₂ m₂ (E' : Value → Shared → Prop), P x → h₂.Ns cenv.locals m₂ → m₂ b = some x → (∀ b o, b ≠ cenv.locals → b ≠ I → s.heap.get? b = some o → h₂.get? b = some o) →
      wpAny (model prog w) A (isTrue c cenv (eval c cenv)) (fun ok s₃ => ok = false ∧ Keeps { s with heap := h₂, toks := tk₂ } s₃) E' { s with heap := h₂, toks := tk₂ })
    (hR : ∀ h' tk m', h'.Ns cenv.locals m' → (∀ b o, b ≠ cenv.locals → b ≠ I → s.heap.get? b = some o → h'.get? b = some o) → R (.ok .next) { s with heap := h', toks := tk }) :
    codeAny (model prog w) A (.compLoop (two elt it1 c a b pa pb pc scope pos) 0 (.ref I) acc cenv) R s := by
  refine codeAny_loop rfl
    (fun k s' => ∃ h' tk m' i, s' = { s with heap := h', toks := tk } ∧ h'.IsListIter I ax i ∧ h'.IsList ax items ∧ h'.Ns cenv.locals m' ∧ i ≤ items.size ∧ k = items.size + 1 - i ∧
      ∀ b o, b ≠ cenv.locals → b ≠ I → s.heap.get? b = some o → h'.get? b = some o) (fun n s₁ hI => ?_) (items.size + 1)
    ⟨s.heap, s.toks, m, 0, rfl, hit, hl, hn, Nat.zero_le _, rfl, fun _ _ _ _ e => e⟩
  show wpAny _ A ((compTurn (two elt it1 c a b pa pb pc scope pos) 0 (.ref I) acc cenv).onRaise (fun x => do noteFrame x cenv; theTreesLotGoes x)) _ _ s₁
  refine wpAny_noted ?_
  rw [two_turn0]
  obtain ⟨H, tk, m', i, rfl, hit', hl', hn', hi, rfl, hk⟩ := hI
  refine wpAny_bind (wpAny_standAt (wpAny_bind ?_))
  cases hv : items[i]? with
  | none =>
    refine wpAny_pyNext_list_end hh hit' hl' hv fun h₁ he₁ => ?_
    exact wpAny_pure (hR h₁ tk m' (hn'.extBut he₁ (Ne.symm hIC)) fun b o hbC hbI e => he₁ b o hbI (hk b o hbC hbI e))
  | some v =>
    have hlt : i < items.size := (Array.getElem?_eq_some_iff.mp hv).1
    have hmem : v ∈ items := by obtain ⟨h1, rfl⟩ := Array.getElem?_eq_some_iff.mp hv; exact Array.getElem_mem h1
    obtain ⟨l, xs, rfl, hlx, hlI, hlC, hP⟩ := hin v hmem
    refine wpAny_pyNext_list_item hit' hl' hv fun h₁ hit₁ hs₁ => ?_
    refine wpAny_bind (wpAny_of_eq (show letOwnedTupleGo (.Name a pa) (.ref I) (.ref l) = pure () from rfl) ?_)
    refine wpAny_bind (wpAny_assign_Name (wpAny_storeName_local ha (hn'.sameBut hs₁ (Ne.symm hIC)) (fun h₂ hn₂ hs₂ => ?_) hp))
    refine wpAny_bind (wpAny_Name (wpAny_loadName_local hkf ha hn₂ (v := .ref l) (by simp) ?_) hda)
    refine wpAny_bind (wpAny_standAt (wpAny_bind (wpAny_of_eq (show foldedSetIterable (.Name a pc) cenv (.ref l) = pure (.ref l) from rfl) (wpAny_bind (wpAny_holding ?_)))))
    have up₂ : ∀ b o, b ≠ cenv.locals → b ≠ I → s.heap.get? b = some o → h₂.get? b = some o := fun b o hbC hbI e => hs₂.extBut b o hbC (hs₁.extBut b o hbI (hk b o hbC hbI e))
    have hlx₂ : h₂.IsList l xs := hlx.at fun o e => up₂ l o hlC hlI e
    refine wpAny_pyIter_list hlx₂ ?_
    refine wpAny_bind (wpAny_runOwn ?_)
    have hpu : ∀ b o, h₂.get? b = some o → (h₂.push { cls := .type "list_iterator", data := .fields #[.ref l, .int 0 0] }).get? b = some o := fun b o e => Heap.get?_push_of_some _ e
    have hJC : h₂.objs.size ≠ cenv.locals := Nat.ne_of_gt hn₂.lt
    have hJI : I ≠ h₂.objs.size := by
      obtain ⟨o, e, _⟩ := hit₁.extBut hs₂.extBut hIC
      exact Nat.ne_of_lt (Heap.lt_size e)
    have hlJ : l ≠ h₂.objs.size := by
      obtain ⟨o, e, _⟩ := hlx₂
      exact Nat.ne_of_lt (Heap.lt_size e)
    have hitJ : (h₂.push { cls := .type "list_iterator", data := .fields #[.ref l, .int 0 0] }).IsListIter h₂.objs.size l 0 := ⟨_, Heap.get?_push_size _ rfl, rfl, rfl⟩
    have key : ∀ (R' : Result → Shared → Prop) (tk₀ : Nat), (∀ h' tk' m₃, h'.Ns cenv.locals m₃ → (∀ b o, b ≠ cenv.locals → h₂.get? b = some o → h'.get? b = some o) → R' (.ok .next) { s with heap := h', toks := tk' }) →
        codeAny (model prog w) A (.compLoop (two elt it1 c a b pa pb pc scope pos) 1 (.ref h₂.objs.size) acc cenv) R' { s with heap := h₂.push { cls := .type "list_iterator", data := .fields #[.ref l, .int 0 0] }, toks := tk₀ } := fun R' tk₀ hR' =>
      two_inner (s := { s with heap := h₂.push { cls := .type "list_iterator", data := .fields #[.ref l, .int 0 0] }, toks := tk₀ }) (J := h₂.objs.size) (l := l) hh hb hp hJC hlJ hlC hitJ (hlx₂.push _) (hn₂.keeps hpu)
        (fun x h₅ tk₅ m₂ E' hx hns hbx hkk => htest x h₅ tk₅ m₂ E' (hP x hx) hns hbx fun b o hbC hbI e => hkk b o hbC (Nat.ne_of_lt (Heap.lt_size (up₂ b o hbC hbI e))) (hpu b o (up₂ b o hbC hbI e)))
        (fun h' tk' m₃ hn₃ hk₃ => hR' h' tk' m₃ hn₃ fun b o hbC e => hk₃ b o hbC (Nat.ne_of_lt (Heap.lt_size e)) (hpu b o e))
    refine two_start1 (key _ _ ?_) (wpAny_pyIter_listiter hitJ (key _ _ ?_))
    all_goals
      intro h' tk' m₃ hn₃ keep
      have hit₃ : h'.IsListIter I ax (i + 1) := (hit₁.extBut hs₂.extBut hIC).at fun o e => keep _ o hIC e
      have hl₃ : h'.IsList ax items := hl'.at fun o e => keep ax o haC (hs₂.extBut ax o haC (hs₁.extBut ax o haI e))
      exact wpAny_pure ⟨rfl, _, by omega, h', tk', m₃, i + 1, rfl, hit₃, hl₃, hn₃, hlt, rfl, fun b o hbC hbI e => keep b o hbC (up₂ b o hbC hbI e)⟩
end
section
variable {c : Cx} {mu ob : Addr → Prop} {σ : Loc} {elt it1 t : Expr} {a b : Str} {pa pb pc : Pos} {scope : Scope} {cl : List (Str × Addr)} {pos : Pos} {wss : List (List AV)}
/-- [.. for a in xs for b in a if t], t never true -/
theorem Ev.compTwo (hclos : closureFor scope c.env = pure cl) (he : Ev (Px.fn c mu ob σ) it1 (.list (wss.map .list))) (hkind : scope.kind = .function) (hcell : ∀ y ∈ scope.names, y.2 ≠ .cell) (hnames : ∀ z ∈ scope.names, z.2 = .local → scope.names.lookup z.1 = some .local)
    (ha : scope.names.lookup a = some .local) (hb : scope.names.lookup b = some .local) (hda : (a == ("__debug__" : Str)) = false) (ht : ∀ (K : Addr) (ob' : Addr → Prop) (w : AV), (∃ ws ∈ wss, w ∈ ws) → EvT (Px.comp c mu ob' σ scope cl K [(b, w)]) t false)
    (hs : ∀ x, foldedSetIterable it1 c.env x = pure x := by intro _; rfl) : Ev (Px.fn c mu ob σ) (two elt it1 t a b pa pb pc scope pos) (.list []) := fun s I Q E hQ => by
  show wpAny _ _ (eval (two elt it1 t a b pa pb pc scope pos) c.env) _ _ _
  rw [eval_ListComp]
  refine wpAny_comprehension_free (env := c.env) (use := none) rfl hs hclos hkind hnames (he s I _ _ fun y h tk ex r => ?_)
  obtain ⟨ax, xs, n, rfl, hba, ho, rs⟩ := r
  have hl : h.IsList ax xs.toArray := ⟨_, ho, rfl, n, rfl⟩
  refine wpAny_pyIter_list (s := { s with heap := h, toks := tk }) hl (wpAny_newObj_type ((NewEnv.plain (F := Pf.fn c mu σ) hcell hkind).2 _ _ _ fun h₁ hns₁ hex₁ hlv₁ _ => ?_))
  dsimp only at hns₁ hex₁ hlv₁ ⊢
  obtain ⟨I0, hI0⟩ : ∃ I0, h.objs.size = I0 := ⟨_, rfl⟩
  generalize hH1 : h.push { cls := .type "list_iterator", data := .fields #[.ref ax, .int 0 0] } = H1 at *
  generalize hH2 : H1.push { cls := .type "list", dict := none, data := .seq ([] : List Value).toArray } = H2 at *
  have z1 : H1.objs.size = I0 + 1 := by rw [← hH1, Heap.size_push, hI0]
  have z2 : H2.objs.size = I0 + 2 := by rw [← hH2, Heap.size_push, z1]
  have e01 : Ext h H1 := fun b o e => hH1 ▸ Heap.get?_push_of_some _ e
  have e12 : Ext H1 H2 := fun b o e => hH2 ▸ Heap.get?_push_of_some _ e
  have old : Ext h h₁ := e01.trans' (e12.trans' hex₁)
  have hit : h₁.IsListIter I0 ax 0 := by
    have : H1.get? I0 = some { cls := .type "list_iterator", data := .fields #[.ref ax, .int 0 0] } := hH1 ▸ hI0 ▸ Heap.get?_push_size _ rfl
    exact ⟨_, hex₁ _ _ (e12 _ _ this), rfl, rfl⟩
  have hacc : h₁.get? (I0 + 1) = some (lst []) := by
    have : H2.get? (I0 + 1) = some (lst []) := by rw [← hH2, ← z1]; exact Heap.get?_push_size _ rfl
    exact hex₁ _ _ this
  rw [z2] at hns₁ ⊢
  rw [z1, hI0]
  have lt : ∀ b o, h.get? b = some o → @LT.lt Nat _ b I0 := fun b o e => hI0 ▸ Heap.lt_size e
  have nN : ∀ k, h.get? (I0 + k) = none := fun k => by
    cases q : h.get? (I0 + k) with
    | none => rfl
    | some o => exact absurd (Nat.lt_of_le_of_lt (Nat.le_add_right _ _) (lt _ _ q)) (Nat.lt_irrefl _)
  have I1 := I.ext ex
  have new : ∀ k, ¬ c.bad mu ob (I0 + k) ∧ ¬ c.ch mu (I0 + k) ∧ c.g.get? (I0 + k) = none := fun k => I1.fresh (nN k)
  have below : ∀ k b o, h.get? b = some o → b ≠ I0 + k := fun k b o e q => by rw [q, nN k] at e; cases e
  have K2 : I0 + 2 ≠ I0 := by omega
  have loop : ∀ tk', codeAny (model PG c.w) c.A (.compLoop (two elt it1 t a b pa pb pc scope pos) 0 (.ref I0) (.ref (I0 + 1)) (compEnvC scope cl (I0 + 2) c.env)) (compPost (model PG c.w) c.A E none Q (.ref (I0 + 1)) (I0 + 2)) { s with heap := h₁, toks := tk' } := fun tk' => by
    refine two_outer (s := { s with heap := h₁, toks := tk' }) (ax := ax) (items := xs.toArray) (fun x => ∃ w, (∃ ws ∈ wss, w ∈ ws) ∧ RV h (c.bad mu ob) w x) rfl hkind (lookup_relabel_local ha) (lookup_relabel_local hb) (by simp [compEnvC, relabel, hkind]) hda (Ne.symm K2) (below 0 ax _ ho) (below 2 ax _ ho) hit (hl.at fun o e => old _ o e) hns₁ (fun v hv => ?_) (fun x h₂ tk₂ m₂ E' hx hn₂ hbx k₂ => ?_) fun h' tk' m' hn' k' => ?_
    · obtain ⟨i, hi, rfl⟩ := List.mem_iff_getElem.mp (List.mem_toArray.mp hv)
      have hi' : i < wss.length := by rw [rs.len, List.length_map] at hi; exact hi
      obtain ⟨z, hz, l, us, k, e, hbl, hlo, rl⟩ := rs.at (i := i) (v := .list wss[i]) (by rw [List.getElem?_map, List.getElem?_eq_getElem hi']; rfl)
      rw [List.getElem?_eq_getElem hi] at hz
      cases hz
      rw [e]
      refine ⟨l, us.toArray, rfl, ⟨_, old _ _ hlo, rfl, k, rfl⟩, below 0 l _ hlo, below 2 l _ hlo, fun x hx => ?_⟩
      obtain ⟨j, hj, rfl⟩ := List.mem_iff_getElem.mp (List.mem_toArray.mp hx)
      have hj' : j < wss[i].length := by rw [← rl.len]; exact hj
      obtain ⟨u, hu, ru⟩ := rl.at (List.getElem?_eq_getElem hj')
      rw [List.getElem?_eq_getElem hj] at hu
      cases hu
      exact ⟨_, ⟨_, List.getElem_mem hi', List.getElem_mem hj'⟩, ru⟩
    · obtain ⟨w, hw, rw⟩ := hx
      have kh : ∀ b o, h.get? b = some o → h₂.get? b = some o := fun b o e => k₂ b o (below 2 b o e) (below 0 b o e) (old _ _ e)
      have off : ∀ a, (a = I0 + 1 ∨ a = I0 + 2) → h.get? a = none := fun a ha => ha.elim (fun q => q ▸ nN 1) fun q => q ▸ nN 2
      have I3 : FnInv c mu (fun a => ob a ∨ (a = I0 + 1 ∨ a = I0 + 2)) σ h₂ := I1.turn (fun a ha => .inl (I.rb a ha)) (fun a ha => ha.elim (fun ha => let ⟨p, q, o, ho⟩ := I1.obs a ha; ⟨p, q, o, kh _ _ ho⟩) fun ha => by
          have f := I1.fresh (off a ha)
          refine ⟨fun q => f.2.1 (.inr (.inl q)), fun x q => f.2.1 (.inr (.inr ⟨x, q⟩)), ?_⟩
          rcases ha with rfl | rfl
          · exact ⟨_, k₂ _ _ (by show I0 + 1 ≠ I0 + 2; omega) (by show I0 + 1 ≠ I0; omega) hacc⟩
          · obtain ⟨o, _, _, e, _⟩ := hn₂; exact ⟨o, e⟩)
        (fun a o _ ho => kh _ _ ho) (fun a o hg => let ⟨_, F, _⟩ := I1.fr; kh _ _ (F.keep _ _ hg)) fun a o hb ho => ⟨fun q => q.elim (fun q => hb (.inl q)) fun q => absurd ((off a q).symm.trans ho) (fun e => nomatch e), kh _ _ ho⟩
      have mv : ∀ a o, ¬ c.bad mu ob a → h.get? a = some o → ¬ ((ob a ∨ (a = I0 + 1 ∨ a = I0 + 2)) ∨ c.ch mu a) ∧ h₂.get? a = some o := fun a o hb ho => ⟨fun q => q.elim (fun q => q.elim (fun q => hb (.inl q)) fun q => absurd ((off a q).symm.trans ho) (fun e => nomatch e)) fun q => hb (.inr q), kh _ _ ho⟩
      refine ht (I0 + 2) (fun a => ob a ∨ (a = I0 + 1 ∨ a = I0 + 2)) w hw { s with heap := h₂, toks := tk₂ } ⟨I3, fun a ha => .inr (.inr (ha.elim id fun ⟨x, hx, _⟩ => absurd hx (lookup_none_cell hcell))), m₂, hn₂, fun x v hx => ?_⟩ _ E' fun h3 tk3 e3 => ⟨rfl, h3, tk3, rfl, e3⟩
      rw [List.lookup_cons] at hx
      cases q : x == b with
      | true =>
        rw [q] at hx; cases hx
        rw [eq_of_beq q]
        exact .inl ⟨hb, _, hbx, rw.move mv⟩
      | false => rw [q] at hx; cases hx
    · refine ⟨m', hn', fun h'' hs'' => hQ _ h'' tk' (fun b o e => ?_) (lst_rv (new 1).1 (hs''.extBut _ _ (by show I0 + 1 ≠ I0 + 2; omega) (k' _ _ (by show I0 + 1 ≠ I0 + 2; omega) (by show I0 + 1 ≠ I0; omega) hacc)) rfl)⟩
      have e := ex b o e
      exact hs''.extBut b o (below 2 b o e) (k' b o (below 2 b o e) (below 0 b o e) (old _ _ e))
  exact codeAny_compStart_list (loop _) (wpAny_pyIter_listiter hit (loop _))
end
end Mine
end
section
open PySem PySem.W PyProof.Rows PySem.Calls PySem.Spec PyProof.Rows.LCg
set_option maxRecDepth 100000
set_option maxHeartbeats 4000000
namespace Mine
/-! dicts of ints, read only -/
noncomputable abbrev iK (w : World) : KeyKind PG w Int := PySem.intKind PG w
noncomputable def dictSm (w : World) (kvs : List (Int × AV)) : Sm where
  rel h bad x := ∃ a o vals, x = .ref a ∧ ¬ bad a ∧ (a == sysModules) = false ∧ h.get? a = some o ∧ o.IsDictOf (iK w) ((kvs.map Prod.fst).zip vals) ∧ RVs h bad (kvs.map Prod.snd) vals
  move := fun T _ ⟨a, o, vals, e, hb, hs, ho, hd, r⟩ => ⟨a, o, vals, e, (T _ _ hb ho).1, hs, (T _ _ hb ho).2, hd, r.move T⟩
theorem zip_at {h : Heap} {bad : Addr → Prop} {kvs : List (Int × AV)} {vals : List Value} (r : RVs h bad (kvs.map Prod.snd) vals) {i : Nat} {k : Int} {x : Value} (e : ((kvs.map Prod.fst).zip vals)[i]? = some (k, x)) : ∃ v, kvs[i]? = some (k, v) ∧ RV h bad v x := by
  obtain ⟨e1, e2⟩ := List.getElem?_zip_eq_some.mp e
  rw [List.getElem?_map] at e1
  cases q : kvs[i]? with
  | none => rw [q] at e1; cases e1
  | some p =>
    rw [q] at e1
    obtain ⟨y, hy, ry⟩ := r.at (i := i) (v := p.2) (by rw [List.getElem?_map, q]; rfl)
    rw [e2] at hy; cases hy
    cases e1
    exact ⟨p.2, rfl, ry⟩
section
variable {P : Px} {pos apos tp : Pos} {d e i : Expr} {kvs : List (Int × AV)}
theorem new_big (P : Px) {s : Shared} (hs : P.inv s) : (s.heap.objs.size == sysModules) = false := by
  obtain ⟨O, m, F⟩ := P.fr s hs
  have h1 := F.ns.lt
  exact beq_eq_false_iff_ne.mpr (Ne.symm (Nat.ne_of_lt (Nat.lt_of_lt_of_le (modules_low O.T.nolimit) (Nat.le_trans F.above (Nat.le_of_lt h1)))))
/-- two names over d.items() -/
theorem It.items {elts : List Expr} {kk : Nat} {pl : Sem Bool} (hd : Ev P d (.sem (dictSm P.c.w kvs)))
    (he : eval (.Call (.Attribute d (Str.ofString "items") apos) [] [] pos) P.env = (do
      let ov ← eval d P.env
      standAt apos.atName
      let (f, first) ← holding [ov] (getMethod ov (Str.ofString "items") pl)
      callWith pos f first (backTo pos (starEach [] P.env)) []) := by rfl) :
    It P (.Tuple elts kk tp) (.Call (.Attribute d (Str.ofString "items") apos) [] [] pos) (kvs.map fun p => .tup [.int p.1, p.2]) := fun s hs Q E hQ =>
  MethodCall_ (hd s hs _ _ fun y h tk ex r => by
    obtain ⟨a, o, vals, rfl, hb, lo, ho, hdo, rs⟩ := r
    have hD : h.DictOf (iK P.c.w) a ((kvs.map Prod.fst).zip vals) := Heap.dictOf_iff.mpr ⟨o, ho, hdo⟩
    refine getMethod_builtin hD.typeIs PySem.F.plainAttrs_dict PySem.F.slot_dict_items PySem.F.type_dict_items hD.mapOf.noDict (callWith_method0 ?_)
    refine call_meetsIn PySem.F.slot_dict_items hD.typeIs PySem.F.entry_dict_items (PySem.F.args_dict_items_1 _) (meets_dict_items (iK P.c.w) a lo) ⟨⟨_, hD⟩, ?_⟩
    have up1 : Ext h (h.push { cls := .type "dict_items", data := .fields #[.ref a] }) := fun b o e => Heap.get?_push_of_some _ e
    obtain ⟨ep, hat⟩ := hD.dictAt
    have hat1 : (h.push { cls := .type "dict_items", data := .fields #[.ref a] }).DictAt (iK P.c.w) a ((kvs.map Prod.fst).zip vals) ep := hat.push _
    refine wpAny_pyIter_items (s := { s with heap := h.push { cls := .type "dict_items", data := .fields #[.ref a] }, toks := tk }) ⟨_, Heap.get?_push_size _ rfl, rfl, rfl⟩ hat1 ?_
    dsimp only
    generalize hI : (h.push { cls := .type "dict_items", data := .fields #[.ref a] }).objs.size = I
    have hIs : @LT.lt Nat _ h.objs.size I := by rw [← hI, Heap.size_push]; exact Nat.lt_succ_self _
    have haI : a ≠ I := Nat.ne_of_lt (Nat.lt_trans (Heap.lt_size ho) hIs)
    have W := kti_itemsTurns (knd := iK P.c.w) (prog := PG) (w := P.c.w) (A := P.c.A) (elts := elts) (kk := kk) (pos := tp) rfl I a haI ((kvs.map Prod.fst).zip vals) ep
    have hlen : ((kvs.map Prod.fst).zip vals).length = (kvs.map fun p => AV.tup [.int p.1, p.2]).length := by rw [List.length_zip, rs.len]; simp
    rw [hlen] at W
    generalize hH : (h.push { cls := .type "dict_items", data := .fields #[.ref a] }).push { cls := .type "dict_itemiterator", data := .fields #[.none, .bool false, .ref a, .int 0 0, .int ((kvs.map Prod.fst).zip vals).length 0, .int ep 0, .none, .none] } = H
    have up2 : Ext h H := fun b o e => hH ▸ Heap.get?_push_of_some _ (up1 b o e)
    have hItr : H.get? I = some { cls := .type "dict_itemiterator", data := .fields #[.none, .bool false, .ref a, .int 0 0, .int ((kvs.map Prod.fst).zip vals).length 0, .int ep 0, .none, .none] } := by rw [← hH, ← hI]; exact Heap.get?_push_size _ rfl
    have st0 : (∃ ok ov, IsItemIter H I a 0 (kvs.map fun p => AV.tup [.int p.1, p.2]).length ep ok ov) ∧ H.DictAt (iK P.c.w) a ((kvs.map Prod.fst).zip vals) ep := ⟨⟨.none, .none, by rw [hlen] at hItr; exact hItr⟩, hat1.at' fun o e => by rw [← hH]; exact Heap.get?_push_of_some _ e⟩
    refine hQ I _ [I] _ _ _ H tk (ex.trans' up2) W st0 (fun s Q E st hq => let ⟨⟨ok, ov, he⟩, _⟩ := st; kcp_self he hq) (fun b hb' => ?_) (fun b hb' hn => ?_) (fun i h' st b hb' => ?_) fun X hX i v h' hi k hp => ?_
    · rw [List.mem_singleton.mp hb']
      refine ⟨?_, _, hItr⟩
      cases q : s.heap.get? I with
      | none => rfl
      | some o => exact absurd (Nat.lt_trans (Heap.lt_size (ex _ _ q)) hIs) (Nat.lt_irrefl _)
    · rcases List.mem_cons.mp hb' with rfl | hb'
      · exact absurd (.head _) hn
      · rw [List.mem_singleton.mp hb']; exact ⟨hb, _, up2 _ _ ho⟩
    · rw [List.mem_singleton.mp hb']
      obtain ⟨⟨ok, ov, e⟩, _⟩ := st
      exact ⟨_, e⟩
    · obtain ⟨T, key, k', x, rfl, hx, hkey, hT⟩ := hp
      obtain ⟨v, hv, rv⟩ := zip_at rs hx
      obtain ⟨t, rfl⟩ := Value.isInt_shape hkey
      have mv : ∀ a' o, ¬ P.bad a' → h.get? a' = some o → ¬ ((P.bad a' ∨ a' ∈ [I]) ∨ X a') ∧ h'.get? a' = some o := fun a' o hb' ho' =>
        have hn : a' ∉ [I] := fun q => Nat.ne_of_lt (Nat.lt_trans (Heap.lt_size ho') hIs) (List.mem_singleton.mp q)
        ⟨fun q => q.elim (fun q => q.elim hb' hn) (fun q => by have := hX _ q; rw [up2 _ _ ho'] at this; cases this), k a' o hn hb' (up2 _ _ ho')⟩
      exact ⟨.tup [.int k', v], by rw [List.getElem?_map, hv]; rfl, T, [.int k' t, x], rfl, hT, ⟨_, _, rfl, ⟨t, rfl⟩, _, _, rfl, rv.move mv, rfl⟩⟩) he
/-- d[k] -/
theorem Ev.itemD {k : Int} {v : AV} (hn : (kvs.map Prod.fst).Nodup) (hv : (k, v) ∈ kvs) (hd : Ev P d (.sem (dictSm P.c.w kvs))) (hi : Ev P i (.int k))
    (hs : ∀ a t, subscripted i false (.ref a) (.int k t) = operate [.ref a, .int k t] (getItem (.ref a) (.int k t)) := by intro _ _; with_unfolding_all rfl) (hg : ∀ a r, letTemporaryGo d (.ref a) r = pure () := by intro _ _; with_unfolding_all rfl) : Ev P (.Subscript d i pos) v := by
  refine Ev.subsc hd hi fun s hs' x y r1 r2 Q E hQ => ?_
  obtain ⟨a, o, vals, rfl, hb, lo, ho, hdo, rs⟩ := r1
  obtain ⟨t, rfl⟩ := r2
  have hD : s.heap.DictOf (iK P.c.w) a ((kvs.map Prod.fst).zip vals) := Heap.dictOf_iff.mpr ⟨o, ho, hdo⟩
  obtain ⟨j, hj⟩ := List.getElem?_of_mem hv
  obtain ⟨y, hy, ry⟩ := rs.at (i := j) (v := v) (by rw [List.getElem?_map, hj]; rfl)
  have hz : ((kvs.map Prod.fst).zip vals)[j]? = some (k, y) := List.getElem?_zip_eq_some.mpr ⟨by rw [List.getElem?_map, hj]; rfl, hy⟩
  have hn' : (((kvs.map Prod.fst).zip vals).map (·.1)).Nodup := by
    rw [List.map_fst_zip (by rw [rs.len]; simp)]; exact hn
  exact subscriptTail_builtin hD.typeIs slot_dict_getitem.lookup (wpAny_getItem_of (intKind_is _ _ _ _) hD.mapOf (valueAt_of_get hn' hz) (hQ y s.heap (s.toks + 1) Ext.rfl' ry)) (hs a t) (hg a)
end
end Mine
end
section
open PySem PySem.W PyProof.Rows PySem.Calls PySem.Spec PyProof.Rows.LCg
set_option maxRecDepth 100000
set_option maxHeartbeats 4000000
namespace Mine
/-! dict displays, dict comprehensions -/
section
variable {F : Pf} {ob : Addr → Prop} {pos : Pos} {kx vx : Expr} {k : Int} {v : AV}
theorem Ev.dict1 (hk : ∀ ob, Ev (F.px ob) kx (.int k)) (hv : ∀ ob, Ev (F.px ob) vx v) : Ev (F.px ob) (.Dict [some kx] [vx] pos) (.sem (dictSm F.c.w [(k, v)])) := fun s hs Q E hQ => by
  have hbig := new_big (F.px ob) hs
  have hs : F.I ob s.heap := hs
  have up : Ext s.heap (s.heap.push { cls := .type "dict", data := .dict #[] }) := fun b o e => Heap.get?_push_of_some _ e
  have hnew : (s.heap.push { cls := .type "dict", data := .dict #[] }).DictOf (iK F.c.w) s.heap.objs.size [] := Heap.DictOf.new s.heap
  refine wpAny_Dict_walk (knd := iK F.c.w) rfl rfl (List.cons_ne_nil _ _) (Nat.le_of_ble_eq_true rfl) (pairTrees_cons_walk ?_)
  generalize hD : s.heap.objs.size = D at hbig hnew ⊢
  have fr : ∀ b ob, s.heap.get? b = some ob → b ≠ D := fun b ob e => hD ▸ Nat.ne_of_lt (Heap.lt_size e)
  have hn : s.heap.get? D = none := hD ▸ heap_end _
  have f := Pf.fresh hs hn
  have I1 : F.I (fun a => ob a ∨ a = D) (s.heap.push { cls := .type "dict", data := .dict #[] }) := F.turn hs (fun a ha => .inl (F.rb hs a ha)) (fun a ha => ha.elim (fun ha => ⟨F.obs hs ha, let ⟨o, ho⟩ := F.lives hs (.inl ha); ⟨o, up _ _ ho⟩⟩) fun ha => ⟨ha ▸ F.nc_of f.2.1, ha ▸ hD ▸ ⟨_, Heap.get?_push_size _ rfl⟩⟩) (fun a o _ ho => up _ _ ho) (fun a o hg => let ⟨_, Fm⟩ := F.fr hs; up _ _ (Fm.keep _ _ hg))
    fun a o hb ho => ⟨fun q => q.elim (fun q => hb (.inl q)) (fr a o ho), up _ _ ho⟩
  refine hk _ { s with heap := s.heap.push { cls := .type "dict", data := .dict #[] } } I1 _ _ fun y h tk e1 r1 => ?_
  obtain ⟨t, rfl⟩ := r1
  refine hv _ { s with heap := h, toks := tk } (F.ext I1 e1) _ _ fun y2 h2 tk2 e2 r2 => pairTrees_nil_walk ?_
  have ex : Ext s.heap h2 := up.trans' (e1.trans' e2)
  refine ⟨[(k, y2)], ⟨intKind_is _ _ k t, rfl, trivial⟩, hnew.keep fun b o e => e2 b o (e1 b o e), fun h' hd hs' => ?_⟩
  obtain ⟨o, ho, hdo⟩ := Heap.dictOf_iff.mp hd
  exact hQ _ h' _ (fun b ob e => hs'.extBut b ob (fr b ob e) (ex b ob e)) ⟨_, o, [y2], rfl, f.1, hbig, ho, hdo, y2, [], rfl, r2.move fun a o hb ho => ⟨fun q => hb (q.elim (fun q => .inl (.inl q)) .inr), hs'.extBut a o (fun q => hb (.inl (.inr q))) ho⟩, rfl⟩
end
noncomputable def AccD (w : World) (h : Heap) (bad : Addr → Prop) (D : Addr) (l : List (Int × AV)) : Prop := ∃ oD vals, h.get? D = some oD ∧ oD.IsDictOf (iK w) ((l.map Prod.fst).zip vals) ∧ RVs h bad (l.map Prod.snd) vals
section
variable {prog : Program} {w : World} {A : Around} {E : Value → Shared → Prop} {s : Shared}
theorem md_loop {kx vx target iter : Expr} {scope : Scope} {pos : Pos} {it : Value} {D : Addr} {cenv : Env} {R : Result → Shared → Prop} (I : Nat → Shared → Prop)
    (turn : ∀ n s, I n s → wpAny (model prog w) A (pyNext it) (fun r s₁ => match r with
      | none => R (.ok .next) s₁
      | some v => wpAny (model prog w) A (letOwnedTupleGo target it v) (fun _ s₀ => wpAny (model prog w) A (assign target cenv v) (fun _ s₃ =>
          wpAny (model prog w) A (eval kx cenv) (fun kv s₄ => wpAny (model prog w) A (eval vx cenv) (fun vv s₅ =>
              wpAny (model prog w) A (dictSet D kv vv) (fun _ s₆ => ∃ m, m < n ∧ I m s₆) (notedBy (model prog w) A cenv fun e s' => R (.error e) s') s₅) (notedBy (model prog w) A cenv fun e s' => R (.error e) s') s₄) (notedBy (model prog w) A cenv fun e s' => R (.error e) s') s₃)
          (notedBy (model prog w) A cenv fun e s' => R (.error e) s') s₀) (notedBy (model prog w) A cenv fun e s' => R (.error e) s') s₁) (notedBy (model prog w) A cenv fun e s' => R (.error e) s') s)
    (n : Nat) (h : I n s) : codeAny (model prog w) A (.compLoop (.DictComp kx vx [⟨target, iter, [], 0⟩] scope pos) 0 it (.ref D) cenv) R s := by
  refine codeAny_loop rfl I (fun n s hI => ?_) n h
  show wpAny _ A ((compTurn (.DictComp kx vx [⟨target, iter, [], 0⟩] scope pos) 0 it (.ref D) cenv).onRaise (fun x => do noteFrame x cenv; theTreesLotGoes x)) _ _ s
  refine wpAny_noted ?_
  rw [compTurn_dict]
  refine wpAny_bind (wpAny_standAt (wpAny_bind (wpAny_mono (turn n s hI) (fun r s₁ h₁ => ?_) fun _ _ h' => h')))
  cases r with
  | none => exact wpAny_pure h₁
  | some v =>
    refine wpAny_bind (wpAny_mono h₁ (fun _ s₀ h₀' => ?_) fun _ _ h' => h')
    refine wpAny_bind (wpAny_mono h₀' (fun _ s₂ h₂ => ?_) fun _ _ h' => h')
    refine wpAny_bind (wpAny_tests_nil ?_)
    exact wpAny_bind (wpAny_bind (wpAny_mono h₂ (fun kv s₄ h₄ => wpAny_bind (wpAny_holding (wpAny_mono h₄ (fun vv s₅ h₅ => wpAny_bind (wpAny_standAt (wpAny_holding (wpAny_mono h₅ (fun _ s₆ h₆ => wpAny_pure ⟨rfl, h₆⟩) fun _ _ h' => h')))) fun _ _ h' => h'))) fun _ _ h' => h'))
end
section
variable {F : Pf} {ob ob' : Addr → Prop}
theorem dcomp_block {tg iter kx vx : Expr} {scope : Scope} {cl : List (Str × Addr)} {cl' : Addr → List (Str × Addr)} {pos : Pos} {ws : List AV} {es : List (Int × AV)} {s : Shared} {I : Addr} {fp wr : List Addr} {Pi Md : Nat → Value → Heap → Prop} {St : Nat → Heap → Prop} {E : Value → Shared → Prop} {RR : Value → Addr → Result → Shared → Prop}
    (hne : NewEnv F scope cl cl') (I1 : F.I (fun a => ob a ∨ a ∈ wr) s.heap) (hnew : ∀ b ∈ wr, ¬ F.ch b ∧ F.c.g.get? b = none) (hwo : ∀ b ∈ wr, ¬ ob b) (hrb : ∀ a, F.rs a → ob a) (W : KTurns PG F.c.w F.c.A tg I fp wr ws.length Pi Md St) (st0 : St 0 s.heap)
    (hself : ∀ (s : Shared) (Q : Value → Shared → Prop) (E : Value → Shared → Prop), St 0 s.heap → Q (.ref I) s → wpAny (model PG F.c.w) F.c.A (pyIter (.ref I)) Q E s) (hfp : ∀ b ∈ fp, ∃ o, s.heap.get? b = some o) (hlive : ∀ i h', St i h' → ∀ b ∈ wr, ∃ o, h'.get? b = some o)
    (hP : ∀ X : Addr → Prop, (∀ a, X a → s.heap.get? a = none) → ∀ i v h', i < ws.length → (∀ a o, a ∉ wr → ¬ (ob a ∨ F.ch a) → s.heap.get? a = some o → h'.get? a = some o) → Pi i v h' → ∃ w, ws[i]? = some w ∧ IV h' (fun a => ((ob a ∨ F.ch a) ∨ a ∈ wr) ∨ X a) w v)
    (hz : ws.length ≤ 1000) (hlen : es.length = ws.length) (hnd : (es.map Prod.fst).Nodup) (he : ∀ (K : Addr) (ob' : Addr → Prop) (i : Nat) (w : AV) (k : Int) (v : AV), ws[i]? = some w → es[i]? = some (k, v) → ∃ own, Binds F.c F.env scope cl' tg w own ∧ Ev (F.el ob' scope (cl' K) K own) kx (.int k) ∧ Ev (F.el ob' scope (cl' K) K own) vx v)
    (hRR : ∀ (D K : Addr) (Z : Addr → Prop) h tk m, (∀ a o, a ∉ wr → s.heap.get? a = some o → h.get? a = some o) → s.heap.get? D = none → s.heap.objs.size = D → (∀ a, Z a → s.heap.get? a = none ∧ a ≠ D) → Z K → AccD F.c.w h (fun a => ((ob a ∨ a = D) ∨ Z a) ∨ F.ch a) D es → h.Ns K m →
      F.I (fun a => (ob a ∨ a = D) ∨ Z a) h → RR (.ref D) K (.ok .next) { s with heap := h, toks := tk }) :
    wpAny (model PG F.c.w) F.c.A newDict (fun acc s₃ => wpAny (model PG F.c.w) F.c.A (newFunctionEnv scope F.env.globals cl [] F.env.qual none .none (some F.env)) (fun cenv s₄ =>
      codeAny (model PG F.c.w) F.c.A (.compStart (.DictComp kx vx [⟨tg, iter, [], 0⟩] scope pos) 0 (.ref I) acc { cenv with scope := relabel scope F.env }) (RR acc cenv.locals) s₄) E s₃) E s := by
  refine wpAny_newObj_type (hne.2 _ _ _ fun h₁ hns₁ hex₁ hlv₁ hcl₁ => ?_)
  dsimp only at hns₁ hex₁ hlv₁ hcl₁ ⊢
  generalize hH2 : s.heap.push { cls := .type "dict", dict := none, data := .dict #[] } = H2 at hns₁ hex₁ hlv₁ hcl₁ ⊢
  have hC : H2.objs.size = s.heap.objs.size + 1 := by rw [← hH2, Heap.size_push]
  obtain ⟨D, hD⟩ : ∃ D, s.heap.objs.size = D := ⟨_, rfl⟩
  obtain ⟨K, hK⟩ : ∃ K, H2.objs.size = K := ⟨_, rfl⟩
  obtain ⟨Z, hZ⟩ : ∃ Z : Addr → Prop, Zc scope (cl' K) K = Z := ⟨_, rfl⟩
  rw [hK] at hns₁ hlv₁ hcl₁ ⊢
  have hZK : Z K := hZ ▸ .inl rfl
  have hZD : ∀ a, Z a → @LT.lt Nat _ D a := fun a ha => Nat.lt_of_lt_of_le (by rw [← hK, ← hD, hC]; exact Nat.lt_succ_self _) (hne.1 K a (hZ ▸ ha))
  have below : ∀ b o, s.heap.get? b = some o → ¬ Z b ∧ b ≠ D := fun b o e => by
    have := Heap.lt_size e
    rw [hD] at this
    exact ⟨fun q => Nat.lt_asymm this (hZD b q), Nat.ne_of_lt this⟩
  have hD0 : s.heap.get? D = none := hD ▸ heap_end _
  have hZ0 : ∀ a, Z a → s.heap.get? a = none ∧ a ≠ D := fun a ha => by
    refine ⟨?_, Ne.symm (Nat.ne_of_lt (hZD a ha))⟩
    cases q : s.heap.get? a with
    | none => rfl
    | some o => exact absurd ha (below a o q).1
  have old : Ext s.heap h₁ := fun b o e => hex₁ b o (hH2 ▸ Heap.get?_push_of_some _ e)
  have hacc : AccD F.c.w h₁ (fun a => ((ob a ∨ a ∈ wr) ∨ a = D ∨ Z a) ∨ F.ch a) D [] := by
    have hn : H2.DictOf (iK F.c.w) D ([] : List (Int × Value)) := hH2 ▸ hD ▸ Heap.DictOf.new s.heap
    obtain ⟨oD, e, hd⟩ := Heap.dictOf_iff.mp hn
    exact ⟨oD, [], hex₁ _ _ e, hd, rfl⟩
  have hDlive : ∃ o, h₁.get? D = some o := let ⟨o, _, e, _⟩ := hacc; ⟨o, e⟩
  rw [hD]
  have gnone : ∀ b, s.heap.get? b = none → ¬ F.ch b ∧ F.c.g.get? b = none := fun b hb => (Pf.fresh I1 hb).2
  have hDn : ∀ a, (a = D ∨ Z a) → s.heap.get? a = none := fun a ha => ha.elim (fun q => q ▸ hD0) fun q => (hZ0 a q).1
  have I2 : F.I (fun a => (ob a ∨ a ∈ wr) ∨ a = D ∨ Z a) h₁ := F.turn I1 (fun a ha => .inl (F.rb I1 a ha))
    (fun a ha => ha.elim (fun ha => ⟨F.obs I1 ha, let ⟨o, ho⟩ := F.lives I1 (.inl ha); ⟨o, old _ _ ho⟩⟩) fun ha => ⟨F.nc_of (gnone a (hDn a ha)).1, ha.elim (fun q => q ▸ hDlive) fun q => hlv₁ a (hZ ▸ q)⟩)
    (fun a o _ ho => old _ _ ho) (fun a o hg => let ⟨_, Fm⟩ := F.fr I1; old _ _ (Fm.keep _ _ hg)) fun a o hb ho => ⟨fun q => q.elim (fun q => hb (.inl q)) fun q => q.elim (fun q => (below a o ho).2 q) fun q => (below a o ho).1 q, old _ _ ho⟩
  have loop : ∀ s₃ : Shared, s₃ = { s with heap := h₁ } →
      codeAny (model PG F.c.w) F.c.A (.compLoop (.DictComp kx vx [⟨tg, iter, [], 0⟩] scope pos) 0 (.ref I) (.ref D) (compEnvC scope (cl' K) K F.env)) (RR (.ref D) K) s₃ := by
    rintro s₃ rfl
    refine md_loop (fun k s' => ∃ h' tk i m', s' = { s with heap := h', toks := tk } ∧ i ≤ ws.length ∧ k = ws.length + 1 - i ∧ St i h' ∧ F.I (fun a => (ob a ∨ a ∈ wr) ∨ a = D ∨ Z a) h' ∧ h'.Ns K m' ∧ (∀ a, Z a → a ≠ K → ∃ v, h'.IsCell a v) ∧ AccD F.c.w h' (fun a => ((ob a ∨ a ∈ wr) ∨ a = D ∨ Z a) ∨ F.ch a) D (es.take i) ∧ (∀ a o, a ∉ wr → s.heap.get? a = some o → h'.get? a = some o)) ?_ (ws.length + 1) ⟨h₁, _, 0, _, rfl, Nat.zero_le _, rfl, W.frame _ _ _ st0 fun b _ o e => old b o e, I2, hns₁, fun a ha => hcl₁ a (hZ ▸ ha), hacc, fun a o _ ho => old _ _ ho⟩
    rintro k s' ⟨h', tk, i, m', rfl, hi, rfl, st, I', hn, hcl', hacc', kh⟩
    have hwl : ∀ b ∈ wr, ¬ Z b ∧ b ≠ D := fun b hb => let ⟨o, ho⟩ := hlive 0 _ st0 b hb; below b o ho
    have hKw : K ∉ wr := fun hm => (hwl K hm).1 hZK
    have hDw : D ∉ wr := fun hm => (hwl D hm).2 rfl
    by_cases hlt : i < ws.length
    · refine W.item i _ _ _ hlt st fun v h2 tk2 hMd k2 => ?_
      refine W.go i v _ _ _ hMd fun h3 hPi st3 k3' => ?_
      have k3 : ∀ b o, b ∉ wr → h'.get? b = some o → h3.get? b = some o := fun b o hb x => k3' b o hb (k2 b o hb x)
      have I3 := Pf.off (Y := fun a => a ∈ wr) I' (fun a ha => ⟨.inl (.inr ha), hnew a ha⟩) k3 fun a ha => hlive _ _ st3 a ha
      obtain ⟨w, hw, iv⟩ := hP (fun a => a = D ∨ Z a) hDn i v h3 hlt (fun a o hn' hb ho => k3 a o hn' (kh a o hn' ho)) hPi
      obtain ⟨⟨kk, u⟩, ho⟩ : ∃ o, es[i]? = some o := ⟨_, List.getElem?_eq_getElem (hlen ▸ hlt)⟩
      obtain ⟨own, hbind, hev1, hev2⟩ := he K (fun a => (ob a ∨ a ∈ wr) ∨ a = D ∨ Z a) i w kk u hw ho
      have hzb : ∀ a, Zc scope (cl' K) K a → (ob a ∨ a ∈ wr) ∨ a = D ∨ Z a := fun a ha => .inr (.inr (hZ ▸ ha))
      refine hbind K _ (fun a => ((ob a ∨ a ∈ wr) ∨ a = D ∨ Z a) ∨ F.ch a) v m' _ _ (iv.move fun a ha => ha.elim (fun q => q.elim (fun q => .inl (q.elim (fun q => .inl (.inl q)) .inr)) .inr) fun q => .inl (.inl (.inr q))) (hn.at' fun o e => k3 _ o hKw e) (fun a ha => .inl (hzb a ha)) (fun a ha hne' => ?_) fun h4 tk4 m2 hown hn4 k4 hcl4 => ?_
      · obtain ⟨v, o, e⟩ := hcl' a (hZ ▸ ha) hne'
        exact ⟨v, o, k3 a o (fun q => (hwl a q).1 (hZ ▸ ha)) e.1, e.2⟩
      rw [hZ] at k4 hcl4
      have live4 : ∀ a, Z a → ∃ o, h4.get? a = some o := fun a ha => (Classical.em (a = K)).elim (fun q => q ▸ (let ⟨o, _, _, e, _⟩ := hn4; ⟨o, e⟩)) fun q => let ⟨_, o, e⟩ := hcl4 a ha q; ⟨o, e.1⟩
      have I4 := Pf.off (Y := Z) I3 (fun a ha => ⟨.inr (.inr ha), gnone a (hZ0 a ha).1⟩) k4 live4
      have hacc4 : AccD F.c.w h4 (fun a => ((ob a ∨ a ∈ wr) ∨ a = D ∨ Z a) ∨ F.ch a) D (es.take i) := by
        obtain ⟨oD, vals, e, hd, rs⟩ := hacc'
        exact ⟨oD, vals, k4 _ _ (fun q => (hZ0 D q).2 rfl) (k3 _ _ hDw e), hd, rs.move fun a o hb ho => ⟨hb, k4 a o (fun q => hb (.inl (.inr (.inr q)))) (k3 a o (fun q => hb (.inl (.inl (.inr q)))) ho)⟩⟩
      have st4 : St (i + 1) h4 := W.frame _ _ _ st3 fun b hb o e => k4 b o (fun q => by obtain ⟨o', e'⟩ := hfp b hb; exact (below b o' e').1 q) e
      have kh4 : ∀ a o, a ∉ wr → s.heap.get? a = some o → h4.get? a = some o := fun a o hn' ho => k4 a o (below a o ho).1 (k3 a o hn' (kh a o hn' ho))
      have inv4 : ∀ h5, Ext h4 h5 → (F.el (fun a => (ob a ∨ a ∈ wr) ∨ a = D ∨ Z a) scope (cl' K) K own).inv { s with heap := h5, toks := 0 } := fun h5 e5 => Px.ok _ { s with heap := h4, toks := 0 } h5 0 ⟨I4, hzb, m2, hn4, hown⟩ e5
      have cl5 : ∀ h5 : Heap, (∀ a o, a ≠ D → h4.get? a = some o → h5.get? a = some o) → ∀ a, Z a → a ≠ K → ∃ v, h5.IsCell a v := fun h5 e5 a ha hne' => let ⟨v, o, e⟩ := hcl4 a ha hne'; ⟨v, o, e5 a o (hZ0 a ha).2 e.1, e.2⟩
      refine hev1 { s with heap := h4, toks := tk4 } (inv4 h4 Ext.rfl') _ _ fun ky h5 tk5 e5 rk => ?_
      obtain ⟨kt, rfl⟩ := rk
      refine hev2 { s with heap := h5, toks := tk5 } (inv4 h5 e5) _ _ fun y h6 tk6 e6 ry => ?_
      have e46 := e5.trans' e6
      obtain ⟨oD, vals, eD, hdo, rs⟩ := hacc4
      have hlv : vals.length = (es.take i).length := by rw [rs.len, List.length_map]
      refine wpAny_dictSet_pairs (s := { s with heap := h6, toks := tk6 }) (hsz := by rw [List.length_zip, hlv, List.length_map, Nat.min_self, List.length_take, sizeLine_eq]; omega) (intKind_is _ _ kk kt) (Heap.dictOf_iff.mpr ⟨oD, e46 _ _ eD, hdo⟩) fun h7 hd7 hs7 => ?_
      have hst : stored (((es.take i).map Prod.fst).zip vals) kk y = ((es.take (i + 1)).map Prod.fst).zip (vals ++ [y]) := by
        rw [List.take_add_one, ho, Option.toList_some, List.map_append, List.zip_append (by rw [List.length_map, hlv]), stored, if_neg]
        · rfl
        · intro q
          obtain ⟨p, hp, e⟩ := List.any_eq_true.mp q
          have hk1 : kk ∈ (es.take i).map Prod.fst := (of_decide_eq_true e) ▸ (List.of_mem_zip (a := p.1) (b := p.2) hp).1
          have h2 : ((es.take (i + 1)).map Prod.fst).Nodup := hnd.sublist ((List.take_sublist _ _).map _)
          rw [List.take_add_one, ho, Option.toList_some, List.map_append, List.nodup_append] at h2
          exact h2.2.2 kk hk1 kk (.head _) rfl
      rw [hst] at hd7
      obtain ⟨oD7, hD7, hdo7⟩ := Heap.dictOf_iff.mp hd7
      have k7 : ∀ a o, a ≠ D → h6.get? a = some o → h7.get? a = some o := fun a o hn' ho => hs7.extBut a o hn' ho
      have I7 := Pf.off (Y := fun a => a = D) (F.ext I4 e46) (by rintro a rfl; exact ⟨.inr (.inl rfl), gnone _ hD0⟩) k7 fun a ha => ⟨_, ha ▸ hD7⟩
      have mv : ∀ a o, ¬ (((ob a ∨ a ∈ wr) ∨ a = D ∨ Z a) ∨ F.ch a) → h6.get? a = some o → ¬ (((ob a ∨ a ∈ wr) ∨ a = D ∨ Z a) ∨ F.ch a) ∧ h7.get? a = some o := fun a o hb ho => ⟨hb, k7 a o (fun q => hb (.inl (.inr (.inl q)))) ho⟩
      refine ⟨ws.length + 1 - (i + 1), by omega, h7, _, i + 1, m2, rfl, hlt, rfl, W.frame _ _ _ st4 fun b hb o e => k7 b o (fun q => by obtain ⟨o', e'⟩ := hfp b hb; exact (below b o' e').2 q) (e46 b o e), I7, hn4.at' fun o e => k7 _ o (hZ0 K hZK).2 (e46 _ o e), cl5 h7 fun a o hn' ho => k7 a o hn' (e46 a o ho), ⟨oD7, vals ++ [y], hD7, hdo7, ?_⟩, fun a o hn' ho => k7 a o (below a o ho).2 (e46 _ _ (kh4 a o hn' ho))⟩
      rw [List.take_add_one, ho, Option.toList_some, List.map_append]
      exact ((rs.ext e46).move mv).append ⟨y, [], rfl, ry.move mv, rfl⟩
    · obtain rfl : i = ws.length := Nat.le_antisymm hi (Nat.not_lt.mp hlt)
      refine W.done _ _ _ st fun h2 tk2 k2 => ?_
      have sub : ∀ b, ((ob b ∨ b = D) ∨ Z b) → (ob b ∨ b ∈ wr) ∨ b = D ∨ Z b := fun b hb => hb.elim (fun q => q.elim (fun q => .inl (.inl q)) fun q => .inr (.inl q)) fun q => .inr (.inr q)
      have I3 : F.I (fun a => (ob a ∨ a = D) ∨ Z a) h2 := F.turn I' (fun a ha => .inl (.inl (hrb a ha))) (fun b hb => ⟨F.obs I' (sub b hb), by
          obtain ⟨o, ho⟩ := F.lives I' (.inl (sub b hb))
          refine ⟨o, k2 b o (fun hm => ?_) ho⟩
          rcases hb with (hb | hb) | hb
          · exact hwo b hm hb
          · exact (hwl b hm).2 hb
          · exact (hwl b hm).1 hb⟩)
        (fun b o hc ho => k2 _ _ (fun hm => (hnew b hm).1 hc) ho) (fun b o hg => let ⟨_, Fm⟩ := F.fr I'; k2 _ _ (fun hm => by rw [(hnew b hm).2] at hg; cases hg) (Fm.keep _ _ hg)) fun b o hb ho => ⟨fun q => hb (.inl (sub b q)), k2 _ _ (fun hm => hb (.inl (.inl (.inr hm)))) ho⟩
      rw [← hlen, List.take_length] at hacc'
      obtain ⟨oD, vals, eD, hdo, rs⟩ := hacc'
      exact hRR D K Z h2 tk2 m' (fun a o hn' ho => k2 a o hn' (kh a o hn' ho)) hD0 hD hZ0 hZK ⟨oD, vals, k2 _ _ hDw eD, hdo, rs.move fun a o hb ho => ⟨fun q => hb (q.elim (fun q => .inl (sub a q)) .inr), k2 a o (fun q => hb (.inl (.inl (.inr q)))) ho⟩⟩ (hn.at' fun o e => k2 _ o hKw e) I3
  exact codeAny_compStart_dict (loop _ rfl) (hself _ _ _ (W.frame _ _ _ st0 fun b _ o e => old b o e) (loop _ rfl))
section
variable {tg iter kx vx : Expr} {scope : Scope} {cl : List (Str × Addr)} {cl' : Addr → List (Str × Addr)} {pos : Pos} {ws : List AV} {es : List (Int × AV)}
theorem dcomp_main {E : Value → Shared → Prop} {RR : Value → Addr → Result → Shared → Prop}
    (hit : It (F.px ob) tg iter ws) (hne : NewEnv F scope cl cl')
    (hz : ws.length ≤ 1000) (hlen : es.length = ws.length) (hnd : (es.map Prod.fst).Nodup) (he : ∀ (K : Addr) (ob' : Addr → Prop) (i : Nat) (w : AV) (k : Int) (v : AV), ws[i]? = some w → es[i]? = some (k, v) → ∃ own, Binds F.c F.env scope cl' tg w own ∧ Ev (F.el ob' scope (cl' K) K own) kx (.int k) ∧ Ev (F.el ob' scope (cl' K) K own) vx v)
    {s : Shared} (I : F.I ob s.heap)
    (hRR : ∀ (D K : Addr) (Z : Addr → Prop) h tk m, (∀ a o, s.heap.get? a = some o → h.get? a = some o) → s.heap.get? D = none → (D == sysModules) = false → (∀ a, Z a → s.heap.get? a = none ∧ a ≠ D) → Z K → AccD F.c.w h (fun a => ((ob a ∨ a = D) ∨ Z a) ∨ F.ch a) D es → h.Ns K m →
      F.I (fun a => (ob a ∨ a = D) ∨ Z a) h → RR (.ref D) K (.ok .next) { s with heap := h, toks := tk }) :
    wpAny (model PG F.c.w) F.c.A (eval iter F.env) (fun xv s₁ => wpAny (model PG F.c.w) F.c.A (pyIter xv) (fun it s₂ => wpAny (model PG F.c.w) F.c.A newDict (fun acc s₃ => wpAny (model PG F.c.w) F.c.A (newFunctionEnv scope F.env.globals cl [] F.env.qual none .none (some F.env)) (fun cenv s₄ =>
      codeAny (model PG F.c.w) F.c.A (.compStart (.DictComp kx vx [⟨tg, iter, [], 0⟩] scope pos) 0 it acc { cenv with scope := relabel scope F.env }) (RR acc cenv.locals) s₄) E s₃) E s₂) E s₁) E s := by
  refine wpAny_mono (hit s I (fun it s₂ => wpAny (model PG F.c.w) F.c.A newDict (fun acc s₃ => wpAny (model PG F.c.w) F.c.A (newFunctionEnv scope F.env.globals cl [] F.env.qual none .none (some F.env)) (fun cenv s₄ =>
      codeAny (model PG F.c.w) F.c.A (.compStart (.DictComp kx vx [⟨tg, iter, [], 0⟩] scope pos) 0 it acc { cenv with scope := relabel scope F.env }) (RR acc cenv.locals) s₄) E s₃) E s₂) E ?_) (fun _ _ h => h) fun _ _ e => e
  intro J fp wr Pi Md St h tk ex W st0 hself hwr hfp hlive hP
  have hnew : ∀ b ∈ wr, ¬ (ob b ∨ F.ch b) ∧ ¬ F.ch b ∧ F.c.g.get? b = none := fun b hb => Pf.fresh I (hwr b hb).1
  have I1 : F.I (fun a => ob a ∨ a ∈ wr) h := F.turn I (fun a ha => .inl (F.rb I a ha)) (fun a ha => ha.elim (fun ha => ⟨F.obs I ha, let ⟨o, ho⟩ := F.lives I (.inl ha); ⟨o, ex _ _ ho⟩⟩) fun ha => ⟨F.nc_of (hnew a ha).2.1, (hwr a ha).2⟩) (fun a o _ ho => ex _ _ ho) (fun a o hg => let ⟨_, Fm⟩ := F.fr I; ex _ _ (Fm.keep _ _ hg))
    fun a o hb ho => ⟨fun q => q.elim (fun q => hb (.inl q)) (fun q => by rw [(hwr a q).1] at ho; cases ho), ex _ _ ho⟩
  have hnone : ∀ b, h.get? b = none → s.heap.get? b = none := fun b e => none_of_ext ex e
  have low := new_big (F.px fun a => ob a ∨ a ∈ wr) (s := { s with heap := h, toks := tk }) I1
  exact dcomp_block (s := { s with heap := h, toks := tk }) hne I1 (fun b hb => (hnew b hb).2) (fun b hb q => (hnew b hb).1 (.inl q)) (F.rb I) W st0 hself (fun b hb => (Classical.em (b ∈ wr)).elim (fun q => (hwr b q).2) fun q => (hfp b hb q).2) hlive (fun X hX i v h' hi k hp => hP X hX i v h' hi k hp) hz hlen hnd he
    fun D K Z h1 tk1 m kh hD hDs hZ hZK hacc hn I2 => hRR D K Z h1 tk1 m (fun a o ho => kh a o (fun q => by rw [(hwr a q).1] at ho; cases ho) (ex _ _ ho)) (hnone _ hD) (hDs ▸ low) (fun a ha => ⟨hnone _ (hZ a ha).1, (hZ a ha).2⟩) hZK hacc hn I2
/-- a dict comprehension -/
theorem Ev.dcomp (hclos : closureFor scope F.env = pure cl) (hit : It (F.px ob) tg iter ws) (hkind : scope.kind = .function) (hne : NewEnv F scope cl cl')
    (hnames : ∀ z ∈ scope.names, z.2 = .local → scope.names.lookup z.1 = some .local)
    (hz : ws.length ≤ 1000) (hlen : es.length = ws.length) (hnd : (es.map Prod.fst).Nodup) (he : ∀ (K : Addr) (ob' : Addr → Prop) (i : Nat) (w : AV) (k : Int) (v : AV), ws[i]? = some w → es[i]? = some (k, v) → ∃ own, Binds F.c F.env scope cl' tg w own ∧ Ev (F.el ob' scope (cl' K) K own) kx (.int k) ∧ Ev (F.el ob' scope (cl' K) K own) vx v)
    (hs : ∀ x, foldedSetIterable iter F.env x = pure x := by intro _; rfl) : Ev (F.px ob) (.DictComp kx vx [⟨tg, iter, [], 0⟩] scope pos) (.sem (dictSm F.c.w es)) := fun s I Q E hQ => by
  show wpAny _ _ (eval (.DictComp kx vx [⟨tg, iter, [], 0⟩] scope pos) F.env) _ _ _
  rw [arm_eval_DictComp]
  refine wpAny_comprehension_free (env := F.env) (use := none) rfl hs hclos hkind hnames (dcomp_main (RR := fun acc C => compPost (model PG F.c.w) F.c.A E none Q acc C) hit hne hz hlen hnd he I ?_)
  rintro D K Z h tk m ex hD hlo hZ hZK ⟨oD, vals, eD, hdo, rs⟩ hn I2
  refine ⟨m, hn, fun h'' hs'' => hQ _ h'' tk (fun a o ho => hs''.extBut a o (fun q => by rw [q, (hZ K hZK).1] at ho; cases ho) (ex a o ho)) ⟨D, oD, vals, rfl, (Pf.fresh I hD).1, hlo, hs''.extBut _ _ (Ne.symm (hZ K hZK).2) eD, hdo, rs.move fun a o hb ho => ⟨fun q => hb (q.elim (fun q => .inl (.inl (.inl q))) .inr), hs''.extBut a o (fun q => hb (.inl (.inr (q ▸ hZK)))) ho⟩⟩⟩
end
/-- x = a dict comprehension -/
theorem Ws.asgDcomp {c : Cx} {mu ob : Addr → Prop} {σ : Loc} {N : Loc → Prop} {R : AV → Prop} {tg iter kx vx : Expr} {scope : Scope} {cl : List (Str × Addr)} {cl' : Addr → List (Str × Addr)} {pos : Pos} {ws : List AV} {es : List (Int × AV)} {y : Str} {py spos : Pos} (hclos : closureFor scope c.env = pure cl) (hit : It (Px.fn c mu ob σ) tg iter ws) (hkind : scope.kind = .function) (hne : NewEnv (Pf.fn c mu σ) scope cl cl')
    (hnames : ∀ z ∈ scope.names, z.2 = .local → scope.names.lookup z.1 = some .local) (hl : Put c y = true)
    (hz : ws.length ≤ 1000) (hlen : es.length = ws.length) (hnd : (es.map Prod.fst).Nodup) (he : ∀ (K : Addr) (ob' : Addr → Prop) (i : Nat) (w : AV) (k : Int) (v : AV), ws[i]? = some w → es[i]? = some (k, v) → ∃ own, Binds c c.env scope cl' tg w own ∧ Ev (Px.comp c mu ob' σ scope (cl' K) K own) kx (.int k) ∧ Ev (Px.comp c mu ob' σ scope (cl' K) K own) vx v)
    (hN : N ((y, .sem (dictSm c.w es)) :: σ))
    (hsw : swapsWith (.DictComp kx vx [⟨tg, iter, [], 0⟩] scope pos) (some (.Name y py)) spos.line c.env = pure true := by rfl)
    (hs : ∀ x, foldedSetIterable iter c.env x = pure x := by intro _; rfl) : Ws c mu ob σ (.Assign [.Name y py] (.DictComp kx vx [⟨tg, iter, [], 0⟩] scope pos) spos) N R := fun s I Q E H => by
  rw [exec_Assign_Name_used _ _ _ _ hsw]
  refine wpAny_bind (wpAny_standAt (wpAny_bind ?_))
  show wpAny _ c.A (do let _ ← comprehension (.DictComp kx vx [⟨tg, iter, [], 0⟩] scope pos) scope c.env _ newDict false (eval iter c.env) (some (assign (.Name y py) c.env))) _ _ s
  refine wpAny_bind (wpAny_mono (wpAny_comprehension_free (env := c.env) (use := some (assign (.Name y py) c.env)) (Q := fun _ s' => Q .next s') rfl hs hclos hkind hnames
    (dcomp_main (F := Pf.fn c mu σ) (RR := fun acc C => compPost (model PG c.w) c.A E (some (assign (.Name y py) c.env)) (fun _ s' => Q .next s') acc C) hit hne hz hlen hnd he I ?_)) (fun _ s' hq => wpAny_pure (wpAny_pure hq)) fun _ _ e => e)
  rintro D K Z h tk m ex hD hlo hZ hZK ⟨oD, vals, eD, hdo, rs⟩ hn I2
  show wpAny _ c.A (assign (.Name y py) c.env (.ref D)) _ _ _
  have fD := I.fresh hD
  have I3 : FnInv c mu (fun a => ob a ∨ Z a) σ h := FnInv.weaken I2 (fun a ha => ha.elim (fun q => .inl (.inl q)) .inr) fun a ha => .inl (I.rb a ha)
  refine wpAny_assign_Name (store_any (s := { s with heap := h, toks := tk }) I3 hl (v := .sem (dictSm c.w es)) ⟨D, oD, vals, rfl, fun q => q.elim (fun q => q.elim (fun q => fD.1 (.inl q)) fun q => (hZ D q).2 rfl) fun q => fD.1 (.inr q), hlo, eD, hdo, rs.move fun a o hb ho => ⟨fun q => hb (q.elim (fun q => .inl (q.elim (fun q => .inl (.inl q)) .inr)) .inr), ho⟩⟩ fun h2 tk2 I4 k2 => ?_)
  have fK := I.fresh (hZ K hZK).1
  have hnK : ∃ m', h2.Ns K m' := let ⟨o, es, ep, ho, r⟩ := hn; ⟨m, o, es, ep, k2 _ _ fK.2.1 ho, r⟩
  obtain ⟨m', hn'⟩ := hnK
  refine ⟨m', hn', fun h'' hs'' => ?_⟩
  have I5 : FnInv c mu ob ((y, .sem (dictSm c.w es)) :: σ) h'' := I4.drop (Y := fun a => a = K) (fun a ha => .inl ha) I.rb (by rintro a rfl; exact ⟨fK.2.1, fK.2.2, .inr hZK, fun q => fK.1 (.inl q)⟩) fun a o hn ho => hs''.extBut a o hn ho
  exact H.1 _ h'' tk2 hN I5 fun a o hc ho => hs''.extBut a o (fun q => by rw [q, (hZ K hZK).1] at ho; cases ho) (k2 a o hc (ex a o ho))
end
end Mine
end
section
open PySem PySem.W PyProof.Rows PySem.Calls PySem.Spec
set_option maxRecDepth 100000
set_option maxHeartbeats 8000000
namespace Mine
/-! zip of two tuples -/
section
variable {prog : Program} {w : World} {A : Around} {E : Value → Shared → Prop} {s : Shared}
theorem tu_next {it l : Addr} {i : Nat} {items} {x : Value} {Q : Value → Shared → Prop} (hit : s.heap.IsTupleIter it l i)
    (hl : s.heap.IsTuple l items) (hx : items[i]? = some x)
    (hQ : ∀ h', h'.IsTupleIter it l (i + 1) → Heap.SameBut it s.heap h' → Q x { s with heap := h' }) :
    wpAny (model prog w) A (Builtin.SmallTypes.nextOf (.ref it)) Q E s := by
  obtain ⟨o, ho, hc, hd⟩ := id hit
  obtain ⟨ol, hol, _, nl, hdl⟩ := hl
  unfold Builtin.SmallTypes.nextOf
  refine wpAny_bind (wpAny_callSpecial?_slot (name := Str.ofString "__next__") hit.typeIs F.slot_tuple_iterator_next
    (wpAny_call_entry F.slot_tuple_iterator_next hit.typeIs F.entry_tuple_iterator_next ?_ (F.args_tuple_iterator_next_1 _)))
  show wpAny _ _ (field (.ref it) 0 >>= _) _ _ s
  refine wpAny_bind (wpAny_field ho hd (x := .ref l) rfl ?_)
  show wpAny _ _ (if (Value.ref l == Value.none) = true then _ else _) _ _ s
  rw [if_neg (show ¬ ((Value.ref l == Value.none) = true) from Bool.false_ne_true)]
  show wpAny _ _ (field (.ref it) 1 >>= _) _ _ s
  refine wpAny_bind (wpAny_field ho hd (x := .int i 0) rfl ?_)
  show wpAny _ _ (seqItems? (.ref l) >>= _) _ _ s
  refine wpAny_bind (wpAny_seqItems hol hdl ?_)
  simp only [Int.toNat_natCast, hx]
  refine wpAny_bind (wpAny_setField ho hd (by simp) (wpAny_pure ⟨x, rfl, wpAny_pure (hQ _ ?_ (Heap.SameBut.update ..))⟩))
  exact ⟨_, Heap.get?_update_self _ ho (Obj.isFreed_of_fields (Obj.data_mapFields hd _)), (Obj.cls_mapFields ..).trans hc, by
    rw [Obj.data_mapFields hd]; simp [rawInt]⟩
theorem tu_end {it l : Addr} {i : Nat} {items} {Q : Value → Shared → Prop} (hh : A.handled = none)
    (hit : s.heap.IsTupleIter it l i) (hl : s.heap.IsTuple l items) (hx : items[i]? = none)
    (hE : ∀ h' e, Heap.ExtBut it s.heap h' → (∃ o, h'.get? e = some o ∧ o.cls = .type "StopIteration") → E (.ref e) { s with heap := h' }) :
    wpAny (model prog w) A (Builtin.SmallTypes.nextOf (.ref it)) Q E s := by
  obtain ⟨o, ho, hc, hd⟩ := id hit
  obtain ⟨ol, hol, _, nl, hdl⟩ := hl
  unfold Builtin.SmallTypes.nextOf
  refine wpAny_bind (wpAny_callSpecial?_slot (name := Str.ofString "__next__") hit.typeIs F.slot_tuple_iterator_next
    (wpAny_call_entry F.slot_tuple_iterator_next hit.typeIs F.entry_tuple_iterator_next ?_ (F.args_tuple_iterator_next_1 _)))
  show wpAny _ _ (field (.ref it) 0 >>= _) _ _ s
  refine wpAny_bind (wpAny_field ho hd (x := .ref l) rfl ?_)
  show wpAny _ _ (if (Value.ref l == Value.none) = true then _ else _) _ _ s
  rw [if_neg (show ¬ ((Value.ref l == Value.none) = true) from Bool.false_ne_true)]
  show wpAny _ _ (field (.ref it) 1 >>= _) _ _ s
  refine wpAny_bind (wpAny_field ho hd (x := .int i 0) rfl ?_)
  show wpAny _ _ (seqItems? (.ref l) >>= _) _ _ s
  refine wpAny_bind (wpAny_seqItems hol hdl ?_)
  simp only [Int.toNat_natCast, hx]
  refine wpAny_bind (wpAny_rule (wpAny_bind (wpAny_setField ho hd (by simp) ?_)))
  show wpAny _ _ (newExc (.type "StopIteration") [] >>= _) _ _ _
  refine wpAny_bind ?_
  simp only [newExc, newTuple]
  refine wpAny_bind (wpAny_newObj_type ?_ (by size_fits))
  refine wpAny_bind (m := firstArgMember _ _) (wpAny_of_eq (a := Value.none) (by first | rfl | (simp only [firstArgMember]; rfl)) ?_)
  refine wpAny_newObj_type ?_ (by size_fits)
  simp only [raiseNew]
  refine wpAny_bind (wpAny_handled ?_)
  first | rw [show A.in1.handled = none from hh] | rw [hh]
  refine wpAny_bind (wpAny_pure (wpAny_throw ?_))
  exact hE _ _ (((Heap.SameBut.update ..).extBut.push _).push _) ⟨_, Heap.get?_push_size _ rfl, rfl⟩
end
theorem Draws.tup {prog : Program} {w : World} {A : Around} (hh : A.handled = none) (it l : Addr) (hne : l ≠ it) (items : Array Value) :
    Draws prog w A it [it, l] items.size (fun i v => items[i]? = some v) (fun i h => h.IsTupleIter it l i ∧ h.IsTuple l items) where
  live := fun _ _ st => let ⟨o, ho, _⟩ := st.1; ⟨o, ho⟩
  frame := fun _ _ _ st hk => ⟨let ⟨o, ho, r⟩ := st.1; ⟨o, hk it (by simp) o ho, r⟩, let ⟨o, ho, r⟩ := st.2; ⟨o, hk l (by simp) o ho, r⟩⟩
  item := fun i s Q E hi st hQ => by
    refine tu_next st.1 st.2 (x := items[i]) (by simp [hi]) fun h' hit' hs' => ?_
    exact hQ _ h' s.toks (by simp [hi]) ⟨hit', st.2.extBut hs'.extBut hne⟩ hs'
  done := fun s Q E st hE => tu_end hh st.1 st.2 (by simp) hE
noncomputable abbrev tzH1 (h : Heap) (l1 : Addr) : Heap := h.push { cls := .type "tuple_iterator", data := .fields #[.ref l1, .int 0 0] }
noncomputable abbrev tzH2 (h : Heap) (l1 l2 : Addr) : Heap := (tzH1 h l1).push { cls := .type "tuple_iterator", data := .fields #[.ref l2, .int 0 0] }
noncomputable abbrev tzH3 (h : Heap) (l1 l2 : Addr) : Heap := (tzH2 h l1 l2).push { cls := .type "tuple", data := .seq #[.ref h.objs.size, .ref (tzH1 h l1).objs.size] }
noncomputable abbrev tzH4 (h : Heap) (l1 l2 : Addr) : Heap := (tzH3 h l1 l2).push { cls := .type "tuple", data := .seq #[.none, .none] }
noncomputable abbrev tzH5 (h : Heap) (l1 l2 : Addr) : Heap := (tzH4 h l1 l2).push { cls := .type "zip", data := .fields #[.none, .bool false, .bool false, .ref (tzH2 h l1 l2).objs.size, .ref (tzH3 h l1 l2).objs.size] }
theorem tz_new (l1 l2 : Addr) (xs ys : Array Value) :
    Meets (Builtin.«zip.__new__» ⟨[.type "zip", .ref l1, .ref l2], []⟩) (fun _ R s => s.heap.IsTuple l1 xs ∧ s.heap.IsTuple l2 ys ∧
      R (.ok (.ret (.ref (tzH4 s.heap l1 l2).objs.size))) { s with heap := tzH5 s.heap l1 l2 }) :=
  .of_wp fun prog w A R s h => by
    obtain ⟨hp, g, d, tk, os⟩ := s; obtain ⟨hl1, hl2, h⟩ := h
    have hsub := sub_zip
    have hL1 : Heap.IsTuple (Shared.heap ⟨hp, g, d, tk, os⟩) l1 xs := hl1
    have hL2 : Heap.IsTuple (Shared.heap ⟨tzH1 hp l1, g, d, tk, os⟩) l2 ys := hl2.push _
    wp_walk using wpAny_pyIter_tuple hL1, wpAny_pyIter_tuple hL2
    exact ⟨_, rfl, h⟩
section
variable {prog : Program} {w : World} {A : Around} {E : Value → Shared → Prop} {s : Shared}
theorem tz_call {l1 l2 : Addr} {xs ys : Array Value} {Q : Value → Shared → Prop} (hl1 : s.heap.IsTuple l1 xs) (hl2 : s.heap.IsTuple l2 ys)
    (h : ∀ h', IsZip h' (s.heap.objs.size + 4) (s.heap.objs.size + 2) (s.heap.objs.size + 3) .none → IsPair h' (s.heap.objs.size + 2) (.ref s.heap.objs.size) (.ref (s.heap.objs.size + 1)) →
      IsPair h' (s.heap.objs.size + 3) .none .none → h'.IsTupleIter s.heap.objs.size l1 0 → h'.IsTupleIter (s.heap.objs.size + 1) l2 0 → h'.objs.size = s.heap.objs.size + 5 →
      (∀ c o, s.heap.get? c = some o → h'.get? c = some o) → Q (.ref (s.heap.objs.size + 4)) { s with heap := h' }) :
    wpAny (model prog w) A (call (.type "zip") [.ref l1, .ref l2]) Q E s := by
  refine callType_new F.called_zip (by decide) (F.typeCall_zip_2 _ _) (F.newCall_zip_2 _ _) (fun obj => F.args_object_init_3 obj _ _) F.entry_zip_new
    (tz_new l1 l2 xs ys) ⟨hl1, hl2, ?_⟩
  have z1 : (tzH1 s.heap l1).objs.size = s.heap.objs.size + 1 := Heap.size_push ..
  have z2 : (tzH2 s.heap l1 l2).objs.size = s.heap.objs.size + 2 := by rw [Heap.size_push, z1]
  have z3 : (tzH3 s.heap l1 l2).objs.size = s.heap.objs.size + 3 := by rw [Heap.size_push, z2]
  have z4 : (tzH4 s.heap l1 l2).objs.size = s.heap.objs.size + 4 := by rw [Heap.size_push, z3]
  have z5 : (tzH5 s.heap l1 l2).objs.size = s.heap.objs.size + 5 := by rw [Heap.size_push, z4]
  have g5 : (tzH5 s.heap l1 l2).get? (tzH4 s.heap l1 l2).objs.size = some _ := Heap.get?_push_size _ rfl
  have g4 : (tzH5 s.heap l1 l2).get? (tzH3 s.heap l1 l2).objs.size = some _ := Heap.get?_push_of_some _ (Heap.get?_push_size _ rfl)
  have g3 : (tzH5 s.heap l1 l2).get? (tzH2 s.heap l1 l2).objs.size = some _ := Heap.get?_push_of_some _ (Heap.get?_push_of_some _ (Heap.get?_push_size _ rfl))
  have g2 : (tzH5 s.heap l1 l2).get? (tzH1 s.heap l1).objs.size = some _ := Heap.get?_push_of_some _ (Heap.get?_push_of_some _ (Heap.get?_push_of_some _ (Heap.get?_push_size _ rfl)))
  have g1 : (tzH5 s.heap l1 l2).get? s.heap.objs.size = some _ := Heap.get?_push_of_some _ (Heap.get?_push_of_some _ (Heap.get?_push_of_some _ (Heap.get?_push_of_some _ (Heap.get?_push_size _ rfl))))
  show _ ∧ _
  rw [z2, z3, z4] at g5
  rw [z1, z2] at g3
  rw [z3] at g4
  rw [z1] at g2
  rw [z4]
  exact ⟨⟨_, g5, rfl⟩, h _ g5 g3 g4 ⟨_, g1, rfl, rfl⟩ ⟨_, g2, rfl, rfl⟩ z5 fun c o x =>
    Heap.get?_push_of_some _ (Heap.get?_push_of_some _ (Heap.get?_push_of_some _ (Heap.get?_push_of_some _ (Heap.get?_push_of_some _ x))))⟩
end
section
variable {prog : Program} {w : World} {A : Around}
variable {z TI TO i1 i2 : Addr} {fp1 fp2 : List Addr} {n1 n2 : Nat} {P1 P2 : Nat → Value → Prop} {S1 S2 : Nat → Heap → Prop}
theorem mz_walksU (hh : A.handled = none) (Z : ZAp z TI TO i1 i2 fp1 fp2) (D1 : Draws prog w A.in1 i1 fp1 n1 P1 S1) (D2 : Draws prog w A.in1 i2 fp2 n2 P2 S2) :
    WalksU prog w A z (z :: TI :: TO :: i1 :: i2 :: (fp1 ++ fp2)) [z, TO, i1, i2] (min n1 n2)
      (fun i vals => ∃ x y, vals = #[x, y] ∧ P1 i x ∧ P2 i y)
      (fun i h => IsZip h z TI TO .none ∧ IsPair h TI (.ref i1) (.ref i2) ∧ (∃ a b, IsPair h TO a b) ∧ S1 i h ∧ S2 i h)
      (fun i T h => T ∉ [z, TO, i1, i2] ∧ IsZip h z TI TO (rawInt T) ∧ IsPair h TI (.ref i1) (.ref i2) ∧ (∃ a b, IsPair h TO a b) ∧ S1 (i + 1) h ∧ S2 (i + 1) h) where
  sub := fun b hb => by simp at hb ⊢; rcases hb with rfl | rfl | rfl | rfl <;> simp
  frame := fun i h h' st hk => by
    obtain ⟨a1, a2, ⟨a, b, a3⟩, a4, a5⟩ := st
    exact ⟨hk z (by simp) _ a1, hk TI (by simp) _ a2, ⟨a, b, hk TO (by simp) _ a3⟩, D1.frame _ _ _ a4 fun c hc o e => hk c (by simp [hc]) o e, D2.frame _ _ _ a5 fun c hc o e => hk c (by simp [hc]) o e⟩
  item := fun i s Q E hi st hQ => by
    obtain ⟨hz, hTI, ⟨a, b, hTO⟩, h1, h2⟩ := st
    have hT : s.TypeIs (.ref z) "zip" := ⟨_, hz, rfl⟩
    have lt : ∀ {c o}, s.heap.get? c = some o → s.heap.objs.size ≠ c := fun e => Nat.ne_of_gt (Heap.lt_size e)
    obtain ⟨o1, e1⟩ := D1.live _ _ h1
    obtain ⟨o2, e2⟩ := D2.live _ _ h2
    unfold pyNext
    exact wpAny_bind (wpAny_attempt (wpAny_callSpecial?_slot (name := Str.ofString "__next__") hT F.slot_zip_next
      (wpAny_call_entry F.slot_zip_next hT F.entry_zip_next
        (mz_item Z D1 D2 hz hTI hTO h1 h2 (by omega) (by omega) fun h' tk x y b1 b2 b3 b4 b5 b6 b7 hk => wpAny_pure (hQ s.heap.objs.size #[x, y] h' tk ⟨x, y, rfl, b1, b2⟩ ⟨_, b7, rfl, _, rfl⟩
          ⟨by simp [lt hz, lt hTO, lt e1, lt e2], b3, hk _ _ Z.TIz Z.TITO Z.TIi1 Z.TIi2 hTI, ⟨_, _, b4⟩, b5, b6⟩
          fun c o hc e => hk c o (fun q => hc (by simp [q])) (fun q => hc (by simp [q])) (fun q => hc (by simp [q])) (fun q => hc (by simp [q])) e)) (F.args_zip_next_1 _))))
  go := fun elts k pos i T s Q E hm hQ => by
    obtain ⟨hTz, hz, hTI, ⟨a, b, hTO⟩, h1, h2⟩ := hm
    refine wpAny_letOwnedTupleGo_zip hz fun h' hz' hs' => hQ h' ⟨hz', hs'.extBut _ _ Z.TIz hTI, ⟨a, b, hs'.extBut _ _ Z.TOz hTO⟩,
      D1.frame _ _ _ h1 fun c hc o e => hs'.extBut _ _ (Z.f1 c hc).1 e, D2.frame _ _ _ h2 fun c hc o e => hs'.extBut _ _ (Z.f2 c hc).1 e⟩ fun c o hc e => hs'.extBut _ _ (fun q => hc (by simp [q])) e
  apart := fun i T h hm => hm.1
  done := fun s Q E st hQ => by
    obtain ⟨hz, hTI, ⟨a, b, hTO⟩, h1, h2⟩ := st
    have hT : s.TypeIs (.ref z) "zip" := ⟨_, hz, rfl⟩
    unfold pyNext
    refine wpAny_bind (wpAny_attempt (wpAny_callSpecial?_slot (name := Str.ofString "__next__") hT F.slot_zip_next
      (wpAny_call_entry F.slot_zip_next hT F.entry_zip_next (mz_end Z D1 D2 hz hTI hTO h1 h2 rfl fun h' tk e hk he => ?_) (F.args_zip_next_1 _))))
    obtain ⟨o, ho, hc⟩ := he
    refine wpAny_bind (wpAny_isInstance (T := "StopIteration") (b := true) ⟨o, ho, hc⟩ isSubtype_stop ?_)
    exact wpAny_pure (hQ h' _ fun c o hc e => hk c o (fun q => hc (by simp [q])) (fun q => hc (by simp [q])) (fun q => hc (by simp [q])) (fun q => hc (by simp [q])) e)
  self := fun i s Q E st hQ => wpAny_pyIter_zip st.1 hQ
end
end Mine
end
section
open PySem PySem.W PyProof.Rows PySem.Calls PySem.Spec
set_option maxRecDepth 100000
set_option maxHeartbeats 8000000
namespace Mine
theorem ints_get {vs : List Value} {ns : List Int} (h : IntsAre vs ns) : ∀ {i : Nat} {v : Value}, vs[i]? = some v → ∃ t, v = .int (ns.getD i 0) t := by
  induction h with
  | nil => intro i v e; simp at e
  | cons a t h ih =>
    intro i v e
    cases i with
    | zero => simp at e; exact ⟨_, e.symm⟩
    | succ i => simp at e; obtain ⟨u, hu⟩ := ih e; exact ⟨u, by simpa using hu⟩
/-! tuple(a + b for a, b in zip(t, u)) -/
structure CodeG (g : Heap) (c P : Addr) : Prop where
  obj : ∃ o vs file tf flags tg inF text tt, g.get? c = some o ∧ o.cls = .type "code" ∧ o.data = .fields vs ∧ vs[11]? = some (.ref P) ∧ vs.getD 18 .none = .str file tf ∧ vs.getD 7 .none = .int flags tg ∧ vs.getD 9 .none = .bool inF ∧ vs.getD 10 .none = .int text tt
  ne : c ≠ P
noncomputable def PsOk (pos : Pos) (ps : Array Value) : Prop := ps = #[] ∨ ∃ c', ps = #[rawInt pos.line, rawInt pos.col, .ref c']
theorem CodeG.isCode {g h : Heap} {c P : Addr} {ps : Array Value} {pos : Pos} (C : CodeG g c P) (hk : ∀ o, g.get? c = some o → h.get? c = some o) (hP : h.get? P = some (tabO ps)) (hps : PsOk pos ps) : h.IsCode c P ps ∧ h.TableAt c P ps := by
  obtain ⟨⟨o, vs, file, tf, flags, tg, inF, text, tt, h1, h2, h3, h4, h5, h6, h7, h8⟩, hne⟩ := C
  refine ⟨⟨o, vs, file, tf, flags, tg, inF, text, tt, tabO ps, hk _ h1, h3, ?_, h5, h6, h7, h8, hP, rfl, ?_, hne⟩, ⟨⟨o, vs, hk _ h1, h2, h3, h4⟩, hP⟩⟩
  · rw [Array.getD_eq_getD_getElem?, h4]; rfl
  · rcases hps with rfl | ⟨c', rfl⟩
    · trivial
    · trivial
noncomputable def GenM (prog : Program) (w : World) (A : Around) (env : Env) (scope : Scope) (cl : List (Str × Addr)) (xa xb : Str) (ifs : List Expr) (elt : Expr) (pos : Pos) (Q : Value → Shared → Prop) (E : Value → Shared → Prop) (it : Value) (s₂ : Shared) : Prop := s₂.heap.NoLimit ∧
      wpAny (model prog w) A (genexprCode env pos (env.qual ++ "<genexpr>") scope) (fun code s₃ => wpAny (model prog w) A (builtinsFor env.globals env.builtins) (fun bi s₄ =>
        ∃ I fp wr n₀ Pt St₀ Mid pz F, it = .ref I ∧ (∀ A' : Around, A'.handled = none → WalksU prog w A' I fp wr n₀ Pt St₀ Mid) ∧ (∀ i vals, Pt i vals → ∃ va vb, vals = #[va, vb]) ∧ St₀ 0 s₄.heap ∧ (∀ b ∈ fp, b < s₄.heap.objs.size) ∧ s₄.heap.NoLimit ∧ cStatics ∉ wr ∧
          (∀ href : Heap, (∀ b o, s₄.heap.get? b = some o → href.get? b = some o) →
            QuietGenTD prog w (genEnv scope cl s₄.heap.objs.size code bi env) xa xb ifs elt (List.range s₄.heap.objs.size) wr Pt pz F href (A.depth + 1) (A.units + 8)) ∧
          (∀ a h₅ tk gs, gs.bare = true → s₄.heap.objs.size < a → h₅.objs.size = a + 1 → (∀ b o, s₄.heap.get? b = some o → h₅.get? b = some o) →
            WalksS prog w A.in4 a (a :: s₄.heap.objs.size :: List.range s₄.heap.objs.size) (s₄.heap.objs.size :: wr) (GenOnlyQ s₄.gens.size) (passing pz n₀ 0).length
              (fun j y => ∃ i, (passing pz n₀ 0)[j]? = some i ∧ F i y) (GenAt prog w A.in4 a s₄.gens.size s₄.heap.objs.size (List.range s₄.heap.objs.size) wr pz n₀ F) →
            GenAt prog w A.in4 a s₄.gens.size s₄.heap.objs.size (List.range s₄.heap.objs.size) wr pz n₀ F 0 { s₄ with gens := s₄.gens.push gs, toks := tk, heap := h₅ } →
            Q (.ref a) { s₄ with gens := s₄.gens.push gs, toks := tk, heap := h₅ })) E s₃) E s₂
section
variable {prog : Program} {w : World} {A : Around} {E : Value → Shared → Prop} {s : Shared}
theorem ge_eval {env : Env} {elt iter : Expr} {xa xb : Str} {pa pb pt : Pos} {kt : Nat} {ifs : List Expr} {scope : Scope} {cl : List (Str × Addr)} {pos : Pos} {Q : Value → Shared → Prop}
    (hh : A.handled = none) (hco : scope.isCoroutine = false) (hclos : closureFor scope env = pure cl) (hcell : ∀ y ∈ scope.names, y.2 ≠ .cell) (h0 : scope.names.lookup (".0" : Str) = some NameKind.local)
    (hxa : scope.names.lookup xa = some .local) (hxb : scope.names.lookup xb = some .local) (hab : xa ≠ xb) (hkind : scope.kind = .function) (hroom : A.depth < recursionLimit)
    (h : wpAny (model prog w) A (eval iter env) (fun xv s₁ => wpAny (model prog w) A (pyIter xv) (GenM prog w A env scope cl xa xb ifs elt pos Q E) E s₁) E s)
    (hs : ∀ x, genFold iter env x = pure x) :
    wpAny (model prog w) A (eval (.GeneratorExp elt [⟨.Tuple [.Name xa pa, .Name xb pb] kt pt, iter, ifs, 0⟩] scope pos) env) Q E s :=
  wpAny_GeneratorExp_walksQTD hh hco hclos hcell h0 hxa hxb hab hkind hroom h hs
/-- what stands behind the generator -/
structure GenBack (prog : Program) (w : World) (A : Around) (g : Heap) (L : Addr) (m : Str → Option Value) (P : Addr) (pos : Pos) (led : List (Addr × Obj)) (ns ms : List Int) (s : Shared) (a : Addr) (s₅ : Shared) : Prop where
  fr : Fr g L s₅.heap m
  gens : AllBare s₅.gens
  os : s₅.os = s.os
  drawn : s₅.drawn = s.drawn
  ledg : ∃ ps', PsOk pos ps' ∧ News g L s₅.heap ((P, tabO ps') :: led)
  gen : ∃ K : Addr, L ≤ K ∧ P ≤ K ∧ (∀ p ∈ led, p.1 ≤ K) ∧ Gen prog w A K a (passing (fun _ => true) (min ns.length ms.length) 0).length (fun j y => ∃ i, (passing (fun _ => true) (min ns.length ms.length) 0)[j]? = some i ∧ ∃ t, y = .int (ns.getD i 0 + ms.getD i 0) t) s₅
theorem zap_new (n T1 T2 : Nat) (h1 : T1 < n) (h2 : T2 < n) : ZAp (n + 4) (n + 2) (n + 3) n (n + 1) [n, T1] [n + 1, T2] where
  TIz := by show @Ne Nat _ _; omega
  TOz := by show @Ne Nat _ _; omega
  i1z := by show @Ne Nat _ _; omega
  i2z := by show @Ne Nat _ _; omega
  TITO := by show @Ne Nat _ _; omega
  TIi1 := by show @Ne Nat _ _; omega
  TIi2 := by show @Ne Nat _ _; omega
  TOi1 := by show @Ne Nat _ _; omega
  TOi2 := by show @Ne Nat _ _; omega
  i12 := by show @Ne Nat _ _; omega
  f1 := fun b hb => by
    simp only [List.mem_cons, List.not_mem_nil, or_false] at hb
    rcases hb with rfl | rfl <;> refine ⟨?_, ?_, ?_⟩ <;> (show @Ne Nat _ _; omega)
  f2 := fun b hb => by
    simp only [List.mem_cons, List.not_mem_nil, or_false] at hb
    rcases hb with rfl | rfl <;> refine ⟨?_, ?_, ?_⟩ <;> (show @Ne Nat _ _; omega)
theorem keeps_refl (s : Shared) : Keeps s s := ⟨s.heap, s.toks, rfl, fun _ _ e => e⟩
theorem gz_zip {g : Heap} {L P c : Addr} {m : Str → Option Value} {ps : Array Value} {led : List (Addr × Obj)} {env : Env} {elt : Expr} {xa xb : Str} {scope : Scope} {cl : List (Str × Addr)} {pos : Pos} {Q : Value → Shared → Prop} {mg : Str → Option Value} {bm : Addr} {ob : Obj} {T1 T2 : Addr} {xs ys : List Value} {ns ms : List Int}
    (F : Fr g L s.heap m) (N : News g L s.heap ((P, tabO ps) :: led)) (hoff : ∀ p ∈ led, p.1 ≠ P) (hC : CodeG g c P) (hcode : env.code = .ref c) (hps : PsOk pos ps) (G : AllBare s.gens) (M : BMod g env.globals mg bm ob) (hlim : g.NoLimit) (hh : A.handled = none)
    (h1 : s.heap.IsTuple T1 xs.toArray) (h2 : s.heap.IsTuple T2 ys.toArray) (j1 : IntsAre xs ns) (j2 : IntsAre ys ms)
    (helt : ∀ (A' : Around) (E' : Value → Shared → Prop) (x y : Int) (tx ty : Tok) (u : Shared) (C : Addr) (code : Value) (m₂ : Str → Option Value), A'.handled = none → u.heap.Ns C m₂ → m₂ xa = some (.int x tx) → m₂ xb = some (.int y ty) →
      wpAny (model prog w) A' (eval elt (genEnv scope cl C code builtinsNs env)) (fun v s₃ => (∃ t, v = .int (x + y) t) ∧ Keeps u s₃) E' u)
    (hQ : ∀ a s₅, GenBack prog w A g L m P pos led ns ms s a s₅ → Q (.ref a) s₅) :
    wpAny (model prog w) A (call (.type "zip") [.ref T1, .ref T2]) (fun xv s₁ => wpAny (model prog w) A (pyIter xv) (GenM prog w A env scope cl xa xb [] elt pos Q E) E s₁) E s := by
  have t1 : T1 < s.heap.objs.size := by obtain ⟨_, e, _⟩ := h1; exact Heap.lt_size e
  have t2 : T2 < s.heap.objs.size := by obtain ⟨_, e, _⟩ := h2; exact Heap.lt_size e
  have hPn : P < s.heap.objs.size := Heap.lt_size (N (P, tabO ps) (.head _)).1
  have gP : g.get? P = none := (N (P, tabO ps) (.head _)).2.2
  have hPL : P ≠ L := (N (P, tabO ps) (.head _)).2.1
  have hLn : L < s.heap.objs.size := F.ns.lt
  have p1 : T1 ≠ P := fun q => by
    obtain ⟨o, e, hc, _⟩ := h1
    rw [q, (N (P, tabO ps) (.head _)).1] at e; cases e; cases hc
  have p2 : T2 ≠ P := fun q => by
    obtain ⟨o, e, hc, _⟩ := h2
    rw [q, (N (P, tabO ps) (.head _)).1] at e; cases e; cases hc
  refine tz_call h1 h2 fun h' hz hTI hTO hi1 hi2 hsz hk => ?_
  refine wpAny_pyIter_zip hz ?_
  generalize hn : s.heap.objs.size = n at *
  have F' : Fr g L h' m := F.keeps hk
  have hP' : h'.get? P = some (tabO ps) := hk _ _ (N _ (.head _)).1
  obtain ⟨hIs, hTab⟩ := hC.isCode (pos := pos) (fun o e => F'.keep _ o e) hP' hps
  refine ⟨hlim.keeps F'.keep, ?_⟩
  have core : ∀ code h₃ tk₃ ps', PsOk pos ps' → Heap.ExtBut P h' h₃ → h'.objs.size ≤ h₃.objs.size → h₃.get? P = some (tabO ps') →
      wpAny (model prog w) A (builtinsFor env.globals env.builtins) (fun bi s₄ =>
        ∃ I fp wr n₀ Pt St₀ Mid pz F, (Value.ref (n + 4)) = .ref I ∧ (∀ A' : Around, A'.handled = none → WalksU prog w A' I fp wr n₀ Pt St₀ Mid) ∧ (∀ i vals, Pt i vals → ∃ va vb, vals = #[va, vb]) ∧ St₀ 0 s₄.heap ∧ (∀ b ∈ fp, b < s₄.heap.objs.size) ∧ s₄.heap.NoLimit ∧ cStatics ∉ wr ∧
          (∀ href : Heap, (∀ b o, s₄.heap.get? b = some o → href.get? b = some o) →
            QuietGenTD prog w (genEnv scope cl s₄.heap.objs.size code bi env) xa xb [] elt (List.range s₄.heap.objs.size) wr Pt pz F href (A.depth + 1) (A.units + 8)) ∧
          (∀ a h₅ tk gs, gs.bare = true → s₄.heap.objs.size < a → h₅.objs.size = a + 1 → (∀ b o, s₄.heap.get? b = some o → h₅.get? b = some o) →
            WalksS prog w A.in4 a (a :: s₄.heap.objs.size :: List.range s₄.heap.objs.size) (s₄.heap.objs.size :: wr) (GenOnlyQ s₄.gens.size) (passing pz n₀ 0).length
              (fun j y => ∃ i, (passing pz n₀ 0)[j]? = some i ∧ F i y) (GenAt prog w A.in4 a s₄.gens.size s₄.heap.objs.size (List.range s₄.heap.objs.size) wr pz n₀ F) →
            GenAt prog w A.in4 a s₄.gens.size s₄.heap.objs.size (List.range s₄.heap.objs.size) wr pz n₀ F 0 { s₄ with gens := s₄.gens.push gs, toks := tk, heap := h₅ } →
            Q (.ref a) { s₄ with gens := s₄.gens.push gs, toks := tk, heap := h₅ })) E { s with heap := h₃, toks := tk₃ } := by
    intro code h₃ tk₃ ps' hps' hx₃ hge hP₃
    have up : ∀ b o, b ≠ P → h'.get? b = some o → h₃.get? b = some o := hx₃
    have F₃ : Fr g L h₃ m := ⟨F'.ns.at' fun o e => up _ o (Ne.symm hPL) e, fun b o e => up b o (fun q => by rw [q, gP] at e; cases e) (F'.keep b o e), F'.above⟩
    have N₃ : News g L h₃ ((P, tabO ps') :: led) := fun p hp => by
      rcases List.mem_cons.mp hp with rfl | hp
      · exact ⟨hP₃, hPL, gP⟩
      · exact ⟨up _ _ (hoff p hp) (hk _ _ (N p (.tail _ hp)).1), (N p (.tail _ hp)).2⟩
    have far : ∀ b, n ≤ b → b ≠ P := fun b hb q => by subst q; exact Nat.lt_irrefl _ (Nat.lt_of_lt_of_le hPn hb)
    refine wpAny_builtinsFor (M.ns.keeps F₃.keep) M.name M.ne (F₃.keep _ _ M.obj) M.cls M.dict M.data ?_
    have gz := up _ _ (far _ (Nat.le_add_right _ _)) hz
    have gTI := up _ _ (far _ (Nat.le_add_right _ _)) hTI
    have gTO := up _ _ (far _ (Nat.le_add_right _ _)) hTO
    obtain ⟨oi1, ei1, ri1⟩ := hi1
    obtain ⟨oi2, ei2, ri2⟩ := hi2
    have gi1 := up _ _ (far _ (Nat.le_refl _)) ei1
    have gi2 := up _ _ (far _ (Nat.le_add_right _ _)) ei2
    obtain ⟨o1, e1, r1⟩ := h1
    obtain ⟨o2, e2, r2⟩ := h2
    have gt1 := up _ _ p1 (hk _ _ e1)
    have gt2 := up _ _ p2 (hk _ _ e2)
    refine ⟨n + 4, _, _, _, _, _, _, fun _ => true, fun i y => ∃ t, y = .int (ns.getD i 0 + ms.getD i 0) t, rfl, fun A' hA' => mz_walksU hA' (zap_new n T1 T2 t1 t2) (Draws.tup (A := A'.in1) hA' n T1 (Nat.ne_of_lt t1) xs.toArray) (Draws.tup (A := A'.in1) hA' (n + 1) T2 (Nat.ne_of_lt (Nat.lt_succ_of_lt t2)) ys.toArray),
      fun i vals ⟨x, y, e, _⟩ => ⟨x, y, e⟩, ⟨gz, gTI, ⟨_, _, gTO⟩, ⟨⟨oi1, gi1, ri1⟩, o1, gt1, r1⟩, ⟨oi2, gi2, ri2⟩, o2, gt2, r2⟩, ?_, hlim.keeps F₃.keep, ?_, ?_, ?_⟩
    · intro b hb
      simp only [List.mem_cons, List.cons_append, List.nil_append, List.not_mem_nil, or_false] at hb
      rcases hb with rfl | rfl | rfl | rfl | rfl | rfl | rfl | rfl | rfl
      · exact Heap.lt_size gz
      · exact Heap.lt_size gTI
      · exact Heap.lt_size gTO
      · exact Heap.lt_size gi1
      · exact Heap.lt_size gi2
      · exact Heap.lt_size gi1
      · exact Heap.lt_size gt1
      · exact Heap.lt_size gi2
      · exact Heap.lt_size gt2
    · obtain ⟨mc, hns, _⟩ := hlim
      have hcl : cStatics < n := Nat.lt_of_lt_of_le hns.lt (Nat.le_trans F.above (Nat.le_of_lt hLn))
      intro hm
      simp only [List.mem_cons, List.not_mem_nil, or_false] at hm
      rcases hm with e | e | e | e <;> (have e' : @Eq Nat _ _ := e; have hcl' : @LT.lt Nat _ cStatics n := hcl; omega)
    · intro href _
      refine ⟨fun A' E' i va vb s₂ m₂ hA _ _ hP hn ha hb hk => wpAny_pure ⟨rfl, keeps_refl _⟩, fun A' E' i va vb s₂ m₂ hA _ _ hP _ hns ha hb hk => ?_⟩
      obtain ⟨x, y, e, q1, q2⟩ := hP
      have ex : va = x := by have := congrArg (fun a => a[0]?) e; simpa using this
      have ey : vb = y := by have := congrArg (fun a => a[1]?) e; simpa using this
      subst ex; subst ey
      obtain ⟨tx, hx⟩ := ints_get j1 (by simpa using q1)
      obtain ⟨ty, hy⟩ := ints_get j2 (by simpa using q2)
      subst hx; subst hy
      exact helt A' E' _ _ tx ty s₂ _ code m₂ hA hns ha hb
    · intro a h₅ tk gs hgb hag hsz₅ hk₅ W hat
      have hlen : min xs.toArray.size ys.toArray.size = min ns.length ms.length := by rw [List.size_toArray, List.size_toArray, j1.length, j2.length]
      have n1 : ∃ k, n = k + 1 := by
        cases n with
        | zero => exact absurd hLn (Nat.not_lt_zero _)
        | succ k => exact ⟨k, rfl⟩
      obtain ⟨k, hk1⟩ := n1
      refine hQ a _ ⟨F₃.keeps hk₅, G.push hgb, rfl, rfl, ⟨ps', hps', N₃.grown hk₅⟩, k, ?_, ?_, ?_, ?_⟩
      · exact Nat.le_of_lt_succ (by rw [hk1] at hLn; exact hLn)
      · exact Nat.le_of_lt_succ (by rw [hk1] at hPn; exact hPn)
      · intro p hp
        have := Heap.lt_size (N p (.tail _ hp)).1
        rw [hn, hk1] at this
        exact Nat.le_of_lt_succ this
      · rw [← hlen]
        refine ⟨_, _, _, _, W, hat, (fun i s' st => st.1.typeIs), List.mem_cons_self, ?_, ?_⟩
        · intro b hb
          show b < h₅.objs.size
          rw [hsz₅]
          rcases List.mem_cons.mp hb with rfl | hb
          · exact Nat.lt_succ_self _
          · rcases List.mem_cons.mp hb with rfl | hb
            · exact Nat.lt_succ_of_lt hag
            · exact Nat.lt_succ_of_lt (Nat.lt_trans (List.mem_range.mp hb) hag)
        · intro b hb
          have big : n ≤ h₃.objs.size := Nat.le_trans (by rw [hsz]; exact Nat.le_add_right _ _) hge
          have kn : k < n := hk1 ▸ Nat.lt_succ_self k
          rcases List.mem_cons.mp hb with rfl | hb
          · exact Nat.lt_of_lt_of_le kn big
          · simp only [List.mem_cons, List.not_mem_nil, or_false] at hb
            rcases hb with rfl | rfl | rfl | rfl
            · exact Nat.lt_of_lt_of_le kn (Nat.le_add_right _ _)
            · exact Nat.lt_of_lt_of_le kn (Nat.le_add_right _ _)
            · exact kn
            · exact Nat.lt_of_lt_of_le kn (Nat.le_add_right _ _)
  rcases hps with rfl | ⟨c', rfl⟩
  · refine wpAny_genexprCodeX hcode hIs hTab rfl fun c' h₃ tk₃ hx₃ hge hlt _ _ htab₃ _ => ?_
    exact core _ h₃ tk₃ _ (.inr ⟨c', by simp⟩) hx₃ (Nat.le_trans hge (Nat.le_of_lt hlt)) htab₃.2
  · refine wpAny_genexprCode_hit (c' := .ref c') hcode hIs (by simp [codeAmong, rawInt]) ?_
    exact core (.ref c') h' _ _ (.inr ⟨c', rfl⟩) (fun _ _ _ e => e) (Nat.le_refl _) hP'
theorem passing_all (n : Nat) : passing (fun _ => true) n 0 = List.range n := by simp [passing]
theorem tup_gen {g : Heap} {L P : Addr} {m : Str → Option Value} {led : List (Addr × Obj)} {pos : Pos} {ns ms : List Int} {a : Addr} {s₀ : Shared} {Q : Value → Shared → Prop} (X : GenBack prog w A g L m P pos led ns ms s₀ a s) (hn : ms.length = ns.length) (hsz : ns.length ≤ 1000)
    (hQ : ∀ (s' : Shared) (D : Addr) (ps' : Array Value) (ys : List Value), s'.os = s₀.os → s'.drawn = s₀.drawn → AllBare s'.gens → PsOk pos ps' → Fr g L s'.heap m → News g L s'.heap ((D, { cls := .type "tuple", data := .seq ys.toArray }) :: (P, tabO ps') :: led) → (∀ p ∈ (P, tabO ps') :: led, p.1 < D) →
      ys.length = ns.length → (∀ (j : Nat) (v : Value), ys[j]? = some v → ∃ t, v = Value.int (ns.getD j 0 + ms.getD j 0) t) → Q (.ref D) s') :
    wpAny (model prog w) A (call (.type "tuple") [.ref a]) Q E s := by
  obtain ⟨F, G, ho, hd, ⟨ps', hps', N⟩, K, hLK, hPK, hK, fp, wr, gg, St, W, hst, hT, hI, hfp, hwr⟩ := X
  refine call_tuple_gen (hsz := by rw [passing_all, List.length_range, sizeLine_eq]; omega) W.in4_3 hT hst hfp hI fun s' acc hm hacc => ?_
  have F₁ : Fr g L s'.heap m := F.moved hm fun b hb => Nat.lt_of_le_of_lt hLK (hwr b hb)
  have hled : ∀ p ∈ (P, tabO ps') :: led, p.1 ≤ K := List.forall_mem_cons.mpr ⟨hPK, hK⟩
  have N₁ : News g L s'.heap ((P, tabO ps') :: led) := fun p hp => ⟨hm.heap _ _ (fun hmem => Nat.lt_irrefl _ (Nat.lt_of_lt_of_le (hwr _ hmem) (hled p hp))) (N p hp).1, (N p hp).2⟩
  have hz : passing (fun _ => true) (min ns.length ms.length) 0 = List.range ns.length := by rw [passing_all, hn, Nat.min_self]
  rw [hz, List.length_range] at hacc
  have up : ∀ b o, s'.heap.get? b = some o → (s'.heap.push { cls := .type "tuple", data := .seq acc }).get? b = some o := fun b o e => Heap.get?_push_of_some _ e
  refine hQ _ _ ps' acc.toList (hm.os.trans ho) (hm.drawn.trans hd) (AllBare.movedS (s' := s') G hm) hps' (F₁.push _) (fun p hp => ?_) (fun p hp => Heap.lt_size (N₁ p hp).1) (by rw [Array.length_toList]; exact hacc.1) (fun j v hv => ?_)
  · rcases List.mem_cons.mp hp with rfl | hp
    · refine ⟨?_, Ne.symm (Nat.ne_of_lt F₁.ns.lt), ?_⟩
      · show (s'.heap.push _).get? s'.heap.objs.size = some _
        exact Heap.get?_push_size _ rfl
      · cases q : g.get? s'.heap.objs.size with
        | none => rfl
        | some o => exact absurd (Heap.lt_size (F₁.keep _ _ q)) (Nat.lt_irrefl _)
    · exact ⟨up _ _ (N₁ p hp).1, (N₁ p hp).2⟩
  · obtain ⟨i, hi, t, e⟩ := hacc.2 j v (by simpa using hv)
    have hj : j < ns.length := by
      have := (List.getElem?_eq_some_iff.mp hv).1
      rw [Array.length_toList, hacc.1] at this
      exact this
    rw [List.getElem?_range hj] at hi
    cases hi
    exact ⟨t, e⟩
end
end Mine
end
section
open PySem PySem.W PyProof.Rows PySem.Calls PySem.Spec PyProof.Rows.LCg
set_option maxRecDepth 100000
set_option maxHeartbeats 4000000
namespace Mine
/-! statements that may run generators: the code's table (51) grows, the generators' list too -/
noncomputable def posG : Pos := { line := 34, col := 42, endLine := 34, endCol := 92 }
noncomputable def tabAt (h : Heap) (gs : Array GenState) : Prop := AllBare gs ∧ ∃ ps, h.get? 51 = some (tabO ps) ∧ PsOk posG ps
/-- all but the table and the frame's names -/
noncomputable def KpG (c : Cx) (h h' : Heap) : Prop := ∀ a o, a ≠ 51 → a ≠ c.L → h.get? a = some o → h'.get? a = some o
structure GFit (c : Cx) (mu ob : Addr → Prop) : Prop where
  ob : ob 51
  mu : ¬ mu 51
  g : c.g.get? 51 = none
noncomputable def SEndG (c : Cx) (mu ob : Addr → Prop) (s : Shared) (N : Loc → Prop) (R : AV → Prop) (Q : Flow → Shared → Prop) : Prop :=
  (∀ σ h tk gs, N σ → FnInv c mu ob σ h → (∀ a o, ¬ c.ch mu a → a ≠ 51 → s.heap.get? a = some o → h.get? a = some o) → tabAt h gs → Q .next { s with heap := h, toks := tk, gens := gs }) ∧
  (∀ r y h tk gs, R r → (∃ m, Fr c.g c.L h m) → RV h c.rb r y → tabAt h gs → Q (.ret y) { s with heap := h, toks := tk, gens := gs })
noncomputable def WgS (c : Cx) (mu ob : Addr → Prop) (σ : Loc) (st : Stmt) (N : Loc → Prop) (R : AV → Prop) : Prop :=
  GFit c mu ob → ∀ s, FnInv c mu ob σ s.heap → tabAt s.heap s.gens → ∀ (Q : Flow → Shared → Prop) (E : Value → Shared → Prop), SEndG c mu ob s N R Q → wpAny (model PG c.w) c.A (exec st c.env) Q E s
noncomputable def Wg (c : Cx) (mu ob : Addr → Prop) (σ : Loc) (ss : List Stmt) (N : Loc → Prop) (R : AV → Prop) : Prop :=
  GFit c mu ob → ∀ s, FnInv c mu ob σ s.heap → tabAt s.heap s.gens → ∀ (Q : Flow → Shared → Prop) (E : Value → Shared → Prop), SEndG c mu ob s N R Q → wpAny (model PG c.w) c.A (execs ss c.env) Q E s
/-- e is evaluated to v, generators may run -/
noncomputable def EvG (c : Cx) (mu ob : Addr → Prop) (σ : Loc) (e : Expr) (v : AV) : Prop :=
  GFit c mu ob → ∀ s, FnInv c mu ob σ s.heap → tabAt s.heap s.gens → ∀ (Q E : Value → Shared → Prop),
    (∀ y h tk gs, FnInv c mu ob σ h → KpG c s.heap h → tabAt h gs → RV h (c.bad mu ob) v y → Q y { s with heap := h, toks := tk, gens := gs }) → wpAny (model PG c.w) c.A (eval e c.env) Q E s
/-- contracts of such calls -/
noncomputable def CtH (w : World) (mg mb : Str → Option Value) (mean : ExcName → Option Value) (f : Addr) (D : Nat) (vs : List AV) (r : AV) : Prop :=
  ∀ (c : Cx) (mu ob : Addr → Prop) (σ : Loc), c.w = w → c.mg = mg → c.mb = mb → c.mean = mean → c.dp + D < recursionLimit → c.un + 8 * D < cLine → GFit c mu ob → ∀ s, FnInv c mu ob σ s.heap → tabAt s.heap s.gens → ∀ ys, RVs s.heap (c.bad mu ob) vs ys → ∀ (Q E : Value → Shared → Prop),
    (∀ y h tk gs, (∀ a o, a ≠ 51 → s.heap.get? a = some o → h.get? a = some o) → tabAt h gs → RV h (c.bad mu ob) r y → Q y { s with heap := h, toks := tk, gens := gs }) → wpAny (model PG c.w) c.A (call (.ref f) ys) Q E s
section
variable {c : Cx} {mu ob : Addr → Prop} {σ : Loc} {N N' : Loc → Prop} {R : AV → Prop} {s : Shared} {Q : Flow → Shared → Prop} {pos px : Pos} {e : Expr} {v : AV} {x : Str}
theorem GFit.ch (G : GFit c mu ob) {h : Heap} (I : FnInv c mu ob σ h) : ¬ c.ch mu 51 := fun q => q.elim G.mu fun q => q.elim (fun q => (I.obs 51 G.ob).1 q) fun ⟨x, q⟩ => (I.obs 51 G.ob).2.1 x q
theorem tabAt.live {h : Heap} {gs : Array GenState} (t : tabAt h gs) : ∃ o, h.get? 51 = some o := let ⟨_, _, e, _⟩ := t; ⟨_, e⟩
theorem tabAt.keep {h h' : Heap} {gs : Array GenState} (t : tabAt h gs) (k : ∀ o, h.get? 51 = some o → h'.get? 51 = some o) : tabAt h' gs := let ⟨b, ps, e, p⟩ := t; ⟨b, ps, k _ e, p⟩
theorem SEndG.later (H : SEndG c mu ob s N R Q) {h : Heap} {tk : Nat} {gs : Array GenState} (k : ∀ a o, ¬ c.ch mu a → a ≠ 51 → s.heap.get? a = some o → h.get? a = some o) : SEndG c mu ob { s with heap := h, toks := tk, gens := gs } N R Q :=
  ⟨fun σ h' tk' gs' n I k' t => H.1 σ h' tk' gs' n I (fun a o hc hn ho => k' a o hc hn (k a o hc hn ho)) t, fun r y h' tk' gs' hr hm rv t => H.2 r y h' tk' gs' hr hm rv t⟩
theorem Wg.nil (h : N σ) : Wg c mu ob σ [] N R := fun G s I t Q E H => wpAny_execs_nil (H.1 σ s.heap s.toks s.gens h I (fun _ _ _ _ x => x) t)
theorem Wg.cons {st : Stmt} {ss : List Stmt} (h : WgS c mu ob σ st (fun σ' => Wg c mu ob σ' ss N R) R) : Wg c mu ob σ (st :: ss) N R := fun G s I t Q E H =>
  wpAny_execs_cons (h G s I t _ E ⟨fun σ' h' tk gs n I' k t' => n G _ I' t' Q E (H.later k), fun r y h' tk gs hr hm rv t' => H.2 r y h' tk gs hr hm rv t'⟩)
/-- a statement that runs none -/
theorem WgS.of {st : Stmt} (h : Ws c mu ob σ st N fun _ => False) : WgS c mu ob σ st N R := fun G s I t Q E H =>
  h s I Q E ⟨fun σ' h' tk n I' k => H.1 σ' h' tk s.gens n I' (fun a o hc _ ho => k a o hc ho) (t.keep fun o ho => k 51 o (G.ch I) ho), fun _ _ _ _ hr => hr.elim⟩
theorem Wg.of {st : Stmt} {ss : List Stmt} (h : Ws c mu ob σ st (fun σ' => Wg c mu ob σ' ss N R) fun _ => False) : Wg c mu ob σ (st :: ss) N R := .cons (.of h)
theorem WgS.ret (hv : Ev (Px.fn c mu ob σ) e v) (hr : R v) : WgS c mu ob σ (.Return (some e) pos) N R := fun G s I t Q E H =>
  wpAny_Return_some (hv s I _ _ fun y h tk ex rv => H.2 v y h tk s.gens hr (let ⟨m, F, _⟩ := (I.ext ex).fr; ⟨m, F⟩) (rv.move fun a o hb ho => ⟨fun q => hb (.inl (I.rb a q)), ho⟩) (t.keep fun o ho => ex 51 o ho))
theorem WgS.ite {body orelse : List Stmt} {b : Bool} (ht : EvT (Px.fn c mu ob σ) e b) (h1 : b = true → Wg c mu ob σ body N R) (h2 : b = false → Wg c mu ob σ orelse N R) : WgS c mu ob σ (.If e body orelse pos) N R := fun G s I t Q E H =>
  wpAny_If (ht s I _ _ fun h tk ex => by
    have k : ∀ a o, ¬ c.ch mu a → a ≠ 51 → s.heap.get? a = some o → h.get? a = some o := fun a o _ _ ho => ex a o ho
    have t' : tabAt h s.gens := t.keep fun o ho => ex 51 o ho
    cases b with
    | true => exact h1 rfl G { s with heap := h, toks := tk } (I.ext ex) t' Q E (H.later (gs := s.gens) k)
    | false => exact h2 rfl G { s with heap := h, toks := tk } (I.ext ex) t' Q E (H.later (gs := s.gens) k))
theorem Ev.toG (h : Ev (Px.fn c mu ob σ) e v) : EvG c mu ob σ e v := fun G s I t Q E hQ =>
  h s I Q E fun y h' tk ex r => hQ y h' tk s.gens (I.ext ex) (fun a o _ _ ho => ex a o ho) (t.keep fun o ho => ex 51 o ho) r
/-- x = e -/
theorem WgS.asg (hv : EvG c mu ob σ e v) (hl : Put c x = true) (hn : N ((x, v) :: σ)) (hs : swapsWith e (some (.Name x px)) pos.line c.env = pure false := by rfl) : WgS c mu ob σ (.Assign [.Name x px] e pos) N R := fun G s I t Q E H =>
  wpAny_Assign_Name (hv G s I t _ _ fun y h tk gs I' k t' rv => store_any (s := { s with heap := h, toks := tk, gens := gs }) I' hl rv fun h' tk' I2 k2 =>
    H.1 _ h' tk' gs hn I2 (fun a o hc hn ho => k2 a o hc (k a o hn (fun q => hc (.inr (.inl q))) ho)) (t'.keep fun o ho => k2 51 o (G.ch I') ho)) hs
/-- a call that may run generators -/
theorem EvG.call {D : Nat} {f : Expr} {rest : List Expr} {vs : List AV} {r : AV} {a : Addr} (hf : Ev (Px.fn c mu ob σ) f (.glob (.ref a))) (hk : keepIn (hd.heap_39 c.w.params) (.ref a) = true) (hl : EvL (Px.fn c mu ob σ) pos (e :: rest) vs) (hc : CtH c.w c.mg c.mb c.mean a D vs r)
    (hdp : c.dp + D < recursionLimit) (hu : c.un + 8 * D < cLine)
    (he : starEach (e :: rest) c.env = (false, eval e c.env) :: starEach rest c.env := by rfl) (hp : (backTo pos (starEach rest c.env)).any (·.1) = false := by rfl)
    (hw : eval (.Call f (e :: rest) [] pos) c.env = (do callWith pos (← eval f c.env) [] (backTo pos (starEach (e :: rest) c.env)) (backToKw pos (keywordEach [] c.env))) := by rfl) : EvG c mu ob σ (.Call f (e :: rest) [] pos) r := fun G s I t Q E hQ =>
  Call_ (hf s I _ _ fun y h tk e1 r1 => by
    cases r1
    have X : ∀ h', Ext s.heap h' → (hd.heap_39 c.w.params).In h' := fun h' e => (Px.fn c mu ob σ).inK (s := { s with heap := h', toks := 0 }) (I.ext e)
    refine callWith_K (X _ e1) hk (hl _ (I.ext e1) _ _ fun ys h2 tk2 e2 r2 => ⟨X _ (e1.trans' e2), ?_⟩) he hp
    have e12 := e1.trans' e2
    refine hc c mu ob σ rfl rfl rfl rfl hdp hu G { s with heap := h2, toks := tk2 } (I.ext e12) (t.keep fun o ho => e12 51 o ho) ys r2 Q E fun y h3 tk3 gs k3 t3 r3 => ?_
    exact hQ y h3 tk3 gs ((I.ext e12).off (Y := fun a => a = 51) (by rintro _ rfl; exact ⟨G.ob, G.ch I, G.g⟩) (fun a o hn ho => k3 a o hn ho) fun a ha => ha ▸ t3.live) (fun a o hn _ ho => k3 a o hn (e12 a o ho)) t3 r3) hw
/-- a for whose body may run generators -/
theorem WgS.forG {tg : Expr} {body : List Stmt} {ws : List AV} {α : Type} (f : AV → Loc → Loc) (τ : α → Loc) (Φ : Nat → α → Prop) (a₀ : α) (hit : ItF (Px.fn c mu ob σ) tg e ws) (h0 : Φ 0 a₀) (hS : Sub (τ a₀) σ)
    (htg : ∀ w ∈ ws, TgS c mu tg w (f w)) (hb : ∀ ob' i a w, Φ i a → ws[i]? = some w → Wg c mu ob' (f w (τ a)) body (fun σ' => ∃ a', Φ (i + 1) a' ∧ Sub (τ a') σ') R) (hx : ∀ a, Φ ws.length a → N (τ a))
    (hs : ∀ x, foldedSetIterable e c.env x = pure x := by intro _; rfl) : WgS c mu ob σ (.For tg e body [] pos) N R := fun G s I t Q E H => by
  refine wpAny_For (wpAny_mono (hit s I (fun it s₂ => codeAny (model PG c.w) c.A (.forLoop tg it body [] c.env) (fun r s' => match r with | .ok f => Q f s' | .error e => cameBackBy (model PG c.w) c.A c.env E e s') s₂) E ?_) (fun _ _ h => h) fun _ _ e => e) hs
  intro J fp wr Pi Md St h tk ex W st0 hwr hfp hlive hP
  have I0 : FnInv c mu ob σ h := I.ext ex
  let ob' : Addr → Prop := fun a => ob a ∨ a ∈ wr
  have hnew : ∀ b ∈ wr, b ≠ c.L ∧ (∀ x, c.cl.lookup x ≠ some b) ∧ ¬ mu b ∧ c.g.get? b = none := fun b hb => by
    have hn := (hwr b hb).1
    refine ⟨fun q => ?_, fun z q => ?_, fun q => ?_, ?_⟩
    · obtain ⟨_, e⟩ := I.lives (a := b) (.inr (.inr (.inl q))); rw [hn] at e; cases e
    · obtain ⟨_, e⟩ := I.lives (a := b) (.inr (.inr (.inr ⟨z, q⟩))); rw [hn] at e; cases e
    · obtain ⟨_, e⟩ := I.lives (a := b) (.inr (.inl q)); rw [hn] at e; cases e
    · obtain ⟨m, F, _⟩ := I.fr
      cases q : c.g.get? b with
      | none => rfl
      | some o => rw [F.keep _ _ q] at hn; cases hn
  have I1 : FnInv c mu ob' σ h := I.turn (fun a ha => .inl (I.rb a ha)) (fun a ha => ha.elim (fun ha => let ⟨p, q, o, ho⟩ := I.obs a ha; ⟨p, q, o, ex _ _ ho⟩) fun ha => ⟨(hnew a ha).1, (hnew a ha).2.1, (hwr a ha).2⟩) (fun a o _ ho => ex _ _ ho) (fun a o hg => let ⟨_, F, _⟩ := I.fr; ex _ _ (F.keep _ _ hg))
    fun a o hb ho => ⟨fun q => q.elim (fun q => hb (.inl q)) (fun q => by rw [(hwr a q).1] at ho; cases ho), ex _ _ ho⟩
  -- what a step of the iterator leaves
  have step : ∀ {τ' : Loc} {h₁ h₂ : Heap} {i : Nat}, FnInv c mu ob' τ' h₁ → St i h₂ → (∀ b o, b ∉ wr → h₁.get? b = some o → h₂.get? b = some o) → FnInv c mu ob' τ' h₂ := fun {τ' h₁ h₂ i} I' st k =>
    I'.turn I'.rb (fun a ha => ha.elim (fun ha => ⟨(I'.obs a (.inl ha)).1, (I'.obs a (.inl ha)).2.1, by
        by_cases hm : a ∈ wr
        · exact hlive i h₂ st a hm
        · obtain ⟨_, _, o, ho⟩ := I'.obs a (.inl ha); exact ⟨o, k _ _ hm ho⟩⟩) fun ha => ⟨(hnew a ha).1, (hnew a ha).2.1, hlive i h₂ st a ha⟩)
      (fun a o hc ho => k _ _ (fun hm => hc.elim (fun q => (hnew a hm).2.2.1 q) fun q => q.elim (fun q => (hnew a hm).1 q) fun ⟨z, q⟩ => (hnew a hm).2.1 z q) ho)
      (fun a o hg => let ⟨_, F, _⟩ := I'.fr; k _ _ (fun hm => by rw [(hnew a hm).2.2.2] at hg; cases hg) (F.keep _ _ hg)) fun a o hb ho => ⟨fun q => hb (.inl q), k _ _ (fun hm => hb (.inl (.inr hm))) ho⟩
  have nw51 : 51 ∉ wr := fun hm => by obtain ⟨o, e⟩ := t.live; rw [(hwr 51 hm).1] at e; cases e
  have G' : GFit c mu ob' := ⟨.inl G.ob, G.mu, G.g⟩
  refine codeAny_forLoop_any (fun k s' => ∃ i a h' tk' gs, Φ i a ∧ i ≤ ws.length ∧ k = ws.length + 1 - i ∧ s' = { s with heap := h', toks := tk', gens := gs } ∧ FnInv c mu ob' (τ a) h' ∧ tabAt h' gs ∧ St i h' ∧ (∀ a o, a ∉ wr → ¬ c.ch mu a → a ≠ 51 → h.get? a = some o → h'.get? a = some o)) ?_ (ws.length + 1) ⟨0, a₀, h, tk, s.gens, h0, Nat.zero_le _, rfl, rfl, I1.sub hS, t.keep fun o ho => ex 51 o ho, st0, fun _ _ _ _ _ ho => ho⟩
  rintro k _ ⟨i, a, h1, tk1, gs1, ha, hin, rfl, rfl, I2, t1, st, kh⟩
  by_cases hlt : i < ws.length
  · refine W.item i _ _ _ hlt st fun v h2 tk2 hMd hk2 => ?_
    refine W.go i v _ _ _ hMd fun h3 hPi st3 hk3 => ?_
    have k3 : ∀ b o, b ∉ wr → h1.get? b = some o → h3.get? b = some o := fun b o hb x => hk3 b o hb (hk2 b o hb x)
    have I3 := step I2 st3 k3
    have kh3 : ∀ a o, a ∉ wr → ¬ c.ch mu a → a ≠ 51 → h.get? a = some o → h3.get? a = some o := fun a o hn hc h5 ho => k3 a o hn (kh a o hn hc h5 ho)
    have t3 : tabAt h3 gs1 := t1.keep fun o ho => k3 51 o nw51 ho
    obtain ⟨w, hw', iv⟩ := hP i v h3 hlt (fun a o hn hb ho => kh3 a o hn (fun q => hb (.inr q)) (fun q => hb (.inl (q ▸ G.ob))) ho) hPi
    refine htg w (List.mem_of_getElem? hw') ob' (τ a) { s with heap := h3, toks := tk2, gens := gs1 } _ _ v I3 (iv.move fun a q => q.elim (fun q => q.elim (fun q => .inl (.inl q)) .inr) fun q => .inl (.inr q)) fun h4 tk4 I4 k4 => ?_
    refine hb ob' i a w ha hw' G' _ I4 (t3.keep fun o ho => k4 51 o (G.ch I) ho) _ _ ⟨fun σ' h5 tk5 gs5 n5 I5 k5 t5 => ?_, fun r y h5 tk5 gs5 hr hm rv t5 => ?_⟩
    · obtain ⟨a', ha', hS'⟩ := n5
      have k35 : ∀ b o, ¬ c.ch mu b → b ≠ 51 → h3.get? b = some o → h5.get? b = some o := fun b o hc hn ho => k5 b o hc hn (k4 b o hc ho)
      refine ⟨ws.length + 1 - (i + 1), by omega, i + 1, a', h5, tk5, gs5, ha', hlt, rfl, rfl, I5.sub hS', t5, ?_, fun b o hn hc h51 ho => k35 b o hc h51 (kh3 b o hn hc h51 ho)⟩
      refine W.frame _ _ _ st3 fun b hb5 o ho => k35 b o (fun q => ?_) (fun q => (hfp b hb5 (q ▸ nw51)).1 (.inl (q ▸ G.ob))) ho
      by_cases hm : b ∈ wr
      · exact q.elim (fun q => (hnew b hm).2.2.1 q) fun q => q.elim (fun q => (hnew b hm).1 q) fun ⟨z, q⟩ => (hnew b hm).2.1 z q
      · exact (hfp b hb5 hm).1 (.inr q)
    · exact H.2 r y h5 tk5 gs5 hr hm rv t5
  · obtain rfl : i = ws.length := by omega
    refine W.done _ _ _ st fun h2 tk2 hk2 => wpAny_execs_nil ?_
    have I3 : FnInv c mu ob (τ a) h2 := I2.turn I.rb (fun b hb => ⟨(I.obs b hb).1, (I.obs b hb).2.1, by
        by_cases hm : b ∈ wr
        · obtain ⟨_, _, o, ho⟩ := I.obs b hb; rw [(hwr b hm).1] at ho; cases ho
        · obtain ⟨_, _, o, ho⟩ := I2.obs b (.inl hb); exact ⟨o, hk2 _ _ hm ho⟩⟩)
      (fun b o hc ho => hk2 _ _ (fun hm => hc.elim (fun q => (hnew b hm).2.2.1 q) fun q => q.elim (fun q => (hnew b hm).1 q) fun ⟨z, q⟩ => (hnew b hm).2.1 z q) ho)
      (fun b o hg => let ⟨_, F, _⟩ := I2.fr; hk2 _ _ (fun hm => by rw [(hnew b hm).2.2.2] at hg; cases hg) (F.keep _ _ hg)) fun b o hb ho => ⟨fun q => hb (.inl (.inl q)), hk2 _ _ (fun hm => hb (.inl (.inr hm))) ho⟩
    exact H.1 _ h2 tk2 gs1 (hx a ha) I3 (fun b o hc h51 ho => hk2 _ _ (fun hm => by rw [(hwr b hm).1] at ho; cases ho) (kh b o (fun hm => by rw [(hwr b hm).1] at ho; cases ho) hc h51 (ex _ _ ho))) (t1.keep fun o ho => hk2 51 o nw51 ho)
end
section
variable {w : World} {mg mb : Str → Option Value} {mean : ExcName → Option Value} {f : Addr} {D : Nat} {vs : List AV} {r : AV}
  {name qual : Str} {params : Arguments} {body : List Stmt} {scope : Scope} {dV kV doc pm cdv ct oc : Value} {an od : Option Addr} {osl : Array (Option Value)}
theorem ctH_of (names : List Str) (ho : (hd.heap_39 w.params).lookup f = some ⟨oc, od, .func (fnOf name qual params body scope dV kV doc pm an cdv ct), osl⟩) (hcd : codeIn (hd.heap_39 w.params) cdv qual = true)
    (hD : 0 < D) (hbind : ∀ s ys, ys.length = vs.length → BindsTo s (fnOf name qual params body scope dV kV doc pm an cdv ct) ⟨ys, []⟩ (names.zip ys)) (hln : vs.length = names.length) (hloc : ∀ x ∈ names, scope.names.lookup x = some .local) (hnd : names.Nodup)
    (h : ∀ (dp un : Nat) (gd : Option (List Code)) (outer : List Env) (A₀ : Around) (base g : Heap) (L : Addr) (ob : Addr → Prop), dp + D < recursionLimit + 1 → un + 8 * D < cLine + 3 →
      Wg ⟨w, mg, mb, mean, dp, un, gd, qual, scope, L, f, cdv, [], outer, A₀, base, g, ob⟩ (fun _ => False) ob (names.zip vs) body (fun _ => False) (fun v => v = r))
    (hco : scope.isCoroutine = false) (hgen : scope.isGenerator = false) (hk : scope.kind = .function) (hcell : ∀ x ∈ scope.names, x.2 ≠ .cell) : CtH w mg mb mean f D vs r := by
  rintro c mu ob σ rfl rfl rfl rfl hdp hu G s I t ys rv Q E hQ
  obtain ⟨m, F, -⟩ := I.fr
  obtain ⟨hgs, ps, hps, hpo⟩ := t
  refine wpAny_call ?_
  have hl := rv.len
  have N1 : News c.g c.L s.heap [(51, tabO ps)] := fun p hp => by rw [List.mem_singleton.mp hp]; exact ⟨hps, (I.obs 51 G.ob).1, G.g⟩
  obtain ⟨FG, BG, st, -⟩ := groundX (A := c.A) (R := fun _ _ => True) (env := c.env) I.ok.B F N1 rfl rfl I.ok.k
  refine codeAny_call_def (fd := fnX name qual params body scope [] dV kV doc pm an cdv ct) (body := body) (binds := names.zip ys) (by show c.dp < recursionLimit; omega) ((I.ok.X.keeps F.keep) _ _ ho) rfl (I.ok.T.nolimit.keeps F.keep) (codeRec_of (I.ok.X.keeps F.keep) hcd) rfl (hbind s ys hl) hcell
    (fun p hp => hloc p.1 (zip_names (hl.trans hln) ▸ List.mem_map_of_mem hp)) (fun h₁ hns hk₁ => ?_) hco hgen hk
  have F' : Fr (hideAll s.heap [51]) s.heap.objs.size h₁ (fun y => (names.zip ys).reverse.lookup y) := ⟨hns, fun b o e => hk₁ b o (of_hideAll _ e), Nat.le_of_eq (hideAll_size _ _)⟩
  have new : ∀ a, c.bad mu ob a → a ≠ s.heap.objs.size := fun a ha => let ⟨_, e⟩ := I.lives ha; Nat.ne_of_lt (Heap.lt_size e)
  have I' : FnInv ⟨c.w, c.mg, c.mb, c.mean, c.dp + 1, c.un + 3, c.gd, qual, scope, s.heap.objs.size, f, cdv, [], _, _, c.base, hideAll s.heap [51], c.bad mu ob⟩ (fun _ => False) (c.bad mu ob) (names.zip vs) h₁ :=
    { ok := ⟨BG, I.ok.X.keeps st, I.ok.T.keeps st, hk⟩
      rb := fun a ha => ha
      obs := fun a ha => ⟨new a ha, fun x => nil_lookup, (I.lives ha).imp fun o e => hk₁ _ _ e⟩
      mus := fun _ h => h.elim
      cells := fun x a e => absurd e nil_lookup
      inj := fun x y a e => absurd e nil_lookup
      fr := ⟨_, F', fun x v hx => by
        obtain ⟨y, hy, ry⟩ := zip_lookup rv hx
        refine .inl ⟨hloc x ?_, y, ?_, (ry.move fun a o hb ho => ⟨fun q => ?_, hk₁ _ _ ho⟩).rm⟩
        · rw [← zip_names (hl.trans hln) (ys := ys)]
          exact key_of hy
        · show (names.zip ys).reverse.lookup x = some y
          rw [rev_lookup (by rw [zip_names (hl.trans hln)]; exact hnd)]; exact hy
        · rcases q with q | q | rfl | ⟨_, e⟩
          · exact hb q
          · exact q
          · exact absurd (Heap.lt_size ho) (Nat.lt_irrefl _)
          · exact absurd e nil_lookup⟩ }
  refine wpAny_mono (h (c.dp + 1) (c.un + 3) c.gd _ _ c.base _ s.heap.objs.size (c.bad mu ob) (by omega) (by omega) ⟨.inl G.ob, fun h => h, hideAll_none _ (.head _)⟩ { s with heap := h₁, toks := _ } I' ⟨hgs, ps, hk₁ _ _ hps, hpo⟩
    (fun fl s' => ∃ y h' tk' gs', fl = .ret y ∧ s' = { s with heap := h', toks := tk', gens := gs' } ∧ (∃ m, Fr (hideAll s.heap [51]) s.heap.objs.size h' m) ∧ RV h' (c.bad mu ob) r y ∧ tabAt h' gs') (fun _ _ => False) ⟨fun _ _ _ _ n => n.elim, ?_⟩) (fun fl s' hl => ?_) fun _ _ y => y.elim
  · rintro _ y h' tk' gs' rfl hm ry t'
    exact ⟨y, h', tk', gs', rfl, rfl, hm, ry, t'⟩
  · obtain ⟨y, h', tk', gs', rfl, rfl, ⟨m', F''⟩, ry, t'⟩ := hl
    exact hQ y h' tk' gs' (fun b o hn e => F''.keep b o (hideAll_get _ e fun hm => hn (List.mem_singleton.mp hm))) t' ry
end
/-! a dict that the frame changes -/
noncomputable def dictCn (w : World) (kvs : List (Int × AV)) : Cn where
  rel o h bad := ∃ vals, o.IsDictOf (iK w) ((kvs.map Prod.fst).zip vals) ∧ RVs h bad (kvs.map Prod.snd) vals
  move := fun T ⟨vals, hd, r⟩ => ⟨vals, hd, r.move T⟩
noncomputable abbrev mutD (w : World) (a : Addr) (kvs : List (Int × AV)) : AV := .mutS a (dictCn w kvs)
section
variable {c : Cx} {mu ob : Addr → Prop} {σ : Loc} {N : Loc → Prop} {R : AV → Prop} {s : Shared} {pos px p1 p2 : Pos} {e i : Expr} {x : Str} {a : Addr} {kvs : List (Int × AV)} {k : Int} {v : AV}
theorem load_mutS {C : Cn} {Q : Value → Shared → Prop} {E : Value → Shared → Prop} (I : FnInv c mu ob σ s.heap) (hx : σ.lookup x = some (.mutS a C)) (hd : (x == ("__debug__" : Str)) = false)
    (h : ∀ o, s.heap.get? a = some o → C.rel o s.heap (c.bad mu ob) → Q (.ref a) s) : wpAny (model PG c.w) c.A (eval (.Name x px) c.env) Q E s := by
  obtain ⟨m, F, V⟩ := I.fr
  refine wpAny_Name ?_ hd
  rcases V x _ hx with ⟨hk, y, hy, rfl, -, o, ho, r⟩ | ⟨hk, b, ob, y, ha, hb, hdt, rfl, -, o, ho, r⟩
  · exact wpAny_loadName_local (env := c.env) I.ok.k hk F.ns hy (h o ho r)
  · exact wpAny_loadName_cell (env := c.env) I.ok.k hk ha ⟨_, hb, hdt⟩ (h o ho r)
/-- the object that x alone holds is changed -/
theorem FnInv.setS {h h' : Heap} {o' : Obj} {C C' : Cn} (I : FnInv c mu ob σ h) (hx : σ.lookup x = some (.mutS a C)) (ho1 : only x σ = true) (hs : Heap.SameBut a h h') (ho : h'.get? a = some o') (r0 : C'.rel o' h (c.bad mu ob)) :
    FnInv c mu ob ((x, .mutS a C') :: σ) h' ∧ Kp (c.ch mu) h h' := by
  obtain ⟨m, F, V⟩ := I.fr
  have hma : mu a := by
    rcases V x _ hx with ⟨_, y, _, r⟩ | ⟨_, b, o, y, _, _, _, r⟩
    · exact r.2.1
    · exact r.2.1
  obtain ⟨haL, hac, hag, -⟩ := I.mus a hma
  have T : ∀ b o, ¬ c.bad mu ob b → h.get? b = some o → ¬ c.bad mu ob b ∧ h'.get? b = some o := fun b o hb ho' => ⟨hb, (hs.2 b fun q => hb (.inr (.inl (q ▸ hma)))).trans ho'⟩
  have live : ∀ b o, h.get? b = some o → ∃ o, h'.get? b = some o := fun b o ho' => by
    by_cases q : b = a
    · exact ⟨_, q ▸ ho⟩
    · exact ⟨o, (hs.2 b q).trans ho'⟩
  refine ⟨{ ok := I.ok, rb := I.rb, obs := fun b hb => let ⟨p, q, o, ho'⟩ := I.obs b hb; ⟨p, q, live b o ho'⟩, mus := fun b hb => let ⟨p, q, g, o, ho'⟩ := I.mus b hb; ⟨p, q, g, live b o ho'⟩,
            cells := fun z b hb => let ⟨p, q, o, w, ho', hd⟩ := I.cells z b hb; ⟨p, q, o, w, (hs.2 b fun q => hac z (q ▸ hb)).trans ho', hd⟩, inj := I.inj, fr := ?_ }, fun b o hb ho' => (hs.2 b fun q => hb (.inl (q ▸ hma))).trans ho'⟩
  obtain ⟨oL, es, ep, hL, r⟩ := F.ns
  refine ⟨m, ⟨⟨oL, es, ep, (hs.2 _ (Ne.symm haL)).trans hL, r⟩, fun b o hg => (hs.2 b fun q => by rw [q, hag] at hg; cases hg).trans (F.keep _ _ hg), F.above⟩, fun z w hz => ?_⟩
  rw [List.lookup_cons] at hz
  by_cases q : z = x
  · subst q
    simp only [beq_self_eq_true, Option.some.injEq] at hz
    subst hz
    rcases V z _ hx with ⟨k, y, hy, e, -⟩ | ⟨k, b, o, y, hb, ho', hd, e, -⟩
    · exact .inl ⟨k, y, hy, e, hma, o', ho, C'.move T r0⟩
    · exact .inr ⟨k, b, o, y, hb, (hs.2 b fun q => hac z (q ▸ hb)).trans ho', hd, e, hma, o', ho, C'.move T r0⟩
  · have hb : (z == x) = false := beq_eq_false_iff_ne.mpr q
    rw [hb] at hz
    have hst := only.spec ho1 z w q hz
    rcases V z w hz with ⟨k, y, hy, r⟩ | ⟨k, b, o, y, hb, ho', hd, r⟩
    · exact .inl ⟨k, y, hy, r.still_turn hst T⟩
    · exact .inr ⟨k, b, o, y, hb, (hs.2 b fun q => hac z (q ▸ hb)).trans ho', hd, r.still_turn hst T⟩
theorem Wg.newD {ss : List Stmt} {dp : Pos} (hl : c.cs.names.lookup x = some .local) (h : ∀ a, ¬ c.rb a → (a == sysModules) = false → Wg c (fun b => mu b ∨ b = a) ob ((x, mutD c.w a []) :: σ) ss (fun _ => False) R)
    (hs : swapsWith (.Dict [] [] dp) (some (.Name x px)) pos.line c.env = pure false := by rfl) : Wg c mu ob σ (.Assign [.Name x px] (.Dict [] [] dp) pos :: ss) (fun _ => False) R := fun G s I t Q E H => by
  refine wpAny_execs_cons (wpAny_Assign_Name (wpAny_Dict_empty ?_) hs)
  obtain ⟨a, ha⟩ : ∃ a, s.heap.objs.size = a := ⟨_, rfl⟩
  have hbig := new_big (Px.fn c mu ob σ) (s := s) I
  have ex : Ext s.heap (s.heap.push { cls := .type "dict", data := .dict #[] }) := fun b o e => Heap.get?_push_of_some _ e
  have hn : s.heap.get? a = none := ha ▸ heap_end _
  obtain ⟨o, ho, hdo⟩ : ∃ o, (s.heap.push { cls := .type "dict", data := .dict #[] }).get? a = some o ∧ o.IsDictOf (iK c.w) ([] : List (Int × Value)) := Heap.dictOf_iff.mp (ha ▸ Heap.DictOf.new s.heap)
  rw [ha] at hbig ⊢
  have I1 := I.ext ex
  generalize s.heap.push { cls := .type "dict", data := .dict #[] } = h1 at *
  have hlive : ∀ b, c.bad mu ob b → b ≠ a := fun b hb q => by
    obtain ⟨o, ho'⟩ := I.lives hb
    rw [q, hn] at ho'; cases ho'
  obtain ⟨m, F, V⟩ := I1.fr
  refine wpAny_storeName_local (env := c.env) hl F.ns (fun h2 hn2 hs2 => ?_) (by show (c.cs.kind == .class || (c.cs.kind == .module && c.L != mainGlobals)) = false; rw [I.ok.k]; rfl)
  have hrb : ¬ c.rb a := fun q => hlive a (.inl (I.rb a q)) rfl
  have haL : a ≠ c.L := fun q => hlive c.L (.inr (.inr (.inl rfl))) q.symm
  have hac : ∀ z, c.cl.lookup z ≠ some a := fun z q => hlive a (.inr (.inr (.inr ⟨z, q⟩))) rfl
  have ho2 : h2.get? a = some o := (hs2.2 a haL).trans ho
  have T : ∀ b o, ¬ c.bad mu ob b → s.heap.get? b = some o → ¬ c.bad (fun b => mu b ∨ b = a) ob b ∧ h2.get? b = some o := fun b o hb ho' => by
    have hba : b ≠ a := fun q => by rw [q, hn] at ho'; cases ho'
    refine ⟨fun q => q.elim (fun q => hb (.inl q)) fun q => q.elim (fun q => q.elim (fun q => hb (.inr (.inl q))) hba) fun q => hb (.inr (.inr q)), ?_⟩
    exact (hs2.2 b fun q => hb (.inr (.inr (.inl q)))).trans (ex _ _ ho')
  have I2 : FnInv c (fun b => mu b ∨ b = a) ob ((x, mutD c.w a []) :: σ) h2 :=
    { ok := I.ok
      rb := I.rb
      obs := fun b hb => let ⟨p, q, o, ho'⟩ := I1.obs b hb; ⟨p, q, o, (hs2.2 b p).trans ho'⟩
      mus := fun b hb => hb.elim (fun hb => let ⟨p, q, g, o, ho'⟩ := I1.mus b hb; ⟨p, q, g, o, (hs2.2 b p).trans ho'⟩) fun q => q ▸ ⟨haL, hac, (let ⟨_, F0, _⟩ := I.fr; none_of_ext (h' := s.heap) (fun b o e => F0.keep b o e) hn), _, ho2⟩
      cells := fun z b hb => let ⟨p, q, o, w, ho', hd⟩ := I1.cells z b hb; ⟨p, q, o, w, (hs2.2 b p).trans ho', hd⟩
      inj := I.inj
      fr := by
        obtain ⟨m0, F0, V0⟩ := I.fr
        have hm : m = m0 := ns_unique F.ns (Fr.ext F0 ex).ns
        subst hm
        refine ⟨_, F.set hn2 hs2, fun z w hz => ?_⟩
        rw [List.lookup_cons] at hz
        by_cases q : z = x
        · subst q
          simp only [beq_self_eq_true, Option.some.injEq] at hz
          subst hz
          exact .inl ⟨hl, .ref a, by simp, rfl, .inr rfl, o, ho2, [], hdo, rfl⟩
        · have hb : (z == x) = false := beq_eq_false_iff_ne.mpr q
          rw [hb] at hz
          have U : ∀ b o, mu b → s.heap.get? b = some o → h2.get? b = some o := fun b o hm ho' => (hs2.2 b (I.mus b hm).1).trans (ex _ _ ho')
          rcases V0 z w hz with ⟨k, y', hy, r'⟩ | ⟨k, b, o, y', hb', ho', hd, r'⟩
          · exact .inl ⟨k, y', by simp [q, hy], (RM.turn T U r').more fun b hb => .inl hb⟩
          · exact .inr ⟨k, b, o, y', hb', (hs2.2 b (I.cells z b hb').1).trans (ex _ _ ho'), hd, (RM.turn T U r').more fun b hb => .inl hb⟩ }
  have l51 : 51 ≠ c.L := (I.obs 51 G.ob).1
  have a51 : 51 ≠ a := fun q => by obtain ⟨o, e⟩ := t.live; rw [q, hn] at e; cases e
  exact h a hrb hbig ⟨G.ob, fun q => q.elim G.mu a51, G.g⟩ ⟨h2, s.gens, s.drawn, _, s.os⟩ I2 (t.keep fun o ho => (hs2.2 51 l51).trans (ex 51 o ho)) Q E ⟨fun _ _ _ _ n => n.elim, fun r y h' tk' gs' hr hm rv t' => H.2 r y h' tk' gs' hr hm rv t'⟩
/-- the value at k is put -/
noncomputable def putK (kvs : List (Int × AV)) (k : Int) (v : AV) : List (Int × AV) := if kvs.any (fun kv => kv.1 = k) then kvs.map (fun kv => if kv.1 = k then (kv.1, v) else kv) else kvs ++ [(k, v)]
theorem any_zip {k : Int} : ∀ {kvs : List (Int × AV)} {vals : List Value}, vals.length = kvs.length → ((kvs.map Prod.fst).zip vals).any (fun kv => kv.1 = k) = kvs.any (fun kv => kv.1 = k)
  | [], [], _ => rfl
  | _ :: kvs, _ :: vals, h => by
    rw [List.map_cons, List.zip_cons_cons, List.any_cons, List.any_cons, any_zip (Nat.succ.inj h)]
theorem map_zip {h : Heap} {bad : Addr → Prop} {k : Int} {v : AV} {y : Value} (ry : RV h bad v y) : ∀ {kvs : List (Int × AV)} {vals : List Value}, RVs h bad (kvs.map Prod.snd) vals →
    ∃ vals', ((kvs.map Prod.fst).zip vals).map (fun kv => if kv.1 = k then (kv.1, y) else kv) = ((kvs.map fun kv => if kv.1 = k then (kv.1, v) else kv).map Prod.fst).zip vals' ∧ RVs h bad ((kvs.map fun kv => if kv.1 = k then (kv.1, v) else kv).map Prod.snd) vals'
  | [], _, r => by cases r; exact ⟨[], rfl, rfl⟩
  | p :: kvs, _, ⟨z, zs, e, r, rs⟩ => by
    subst e
    obtain ⟨vals', e1, e2⟩ := map_zip (k := k) ry rs
    by_cases q : p.1 = k
    · refine ⟨y :: vals', ?_, ?_⟩
      · simp only [List.map_cons, List.zip_cons_cons, q, if_true, e1]
      · simp only [List.map_cons, q, if_true]; exact ⟨y, vals', rfl, ry, e2⟩
    · refine ⟨z :: vals', ?_, ?_⟩
      · simp only [List.map_cons, List.zip_cons_cons, q, if_false, e1]
      · simp only [List.map_cons, q, if_false]; exact ⟨z, vals', rfl, r, e2⟩
theorem put_zip {h : Heap} {bad : Addr → Prop} {k : Int} {v : AV} {y : Value} {kvs : List (Int × AV)} {vals : List Value} (rs : RVs h bad (kvs.map Prod.snd) vals) (ry : RV h bad v y) :
    ∃ vals', stored ((kvs.map Prod.fst).zip vals) k y = ((putK kvs k v).map Prod.fst).zip vals' ∧ RVs h bad ((putK kvs k v).map Prod.snd) vals' := by
  have hlen : vals.length = kvs.length := by rw [rs.len, List.length_map]
  unfold stored putK
  rw [any_zip hlen]
  split
  · exact map_zip ry rs
  · refine ⟨vals ++ [y], ?_, ?_⟩
    · rw [List.map_append, List.zip_append (by rw [List.length_map, hlen])]; rfl
    · rw [List.map_append]; exact rs.append ⟨y, [], rfl, ry, rfl⟩
end
section
variable {c : Cx} {mu ob : Addr → Prop} {σ : Loc} {N : Loc → Prop} {R : AV → Prop} {s : Shared} {pos px p1 p2 : Pos} {e i l : Expr} {x : Str} {a : Addr} {kvs : List (Int × AV)} {k : Int} {v : AV}
/-- x[i], x a dict of the frame's own -/
theorem Ev.itemMD (hx : σ.lookup x = some (mutD c.w a kvs)) (hi : Ev (Px.fn c mu ob σ) i (.int k)) (hnd : (kvs.map Prod.fst).Nodup) (hv : (k, v) ∈ kvs) (hd : (x == ("__debug__" : Str)) = false := by decide)
    (hs : ∀ a t, subscripted i false (.ref a) (.int k t) = operate [.ref a, .int k t] (getItem (.ref a) (.int k t)) := by intro _ _; with_unfolding_all rfl) (hg : ∀ a r, letTemporaryGo (.Name x px) (.ref a) r = pure () := by intro _ _; with_unfolding_all rfl) : Ev (Px.fn c mu ob σ) (.Subscript (.Name x px) i pos) v := fun s I Q E hQ => by
  refine Subscript_ (load_mutS I hx hd fun o ho ⟨vals, hdo, rs⟩ => hi s I _ _ fun y h1 tk1 e1 r1 => ?_)
  obtain ⟨t, rfl⟩ := r1
  have hD : h1.DictOf (iK c.w) a ((kvs.map Prod.fst).zip vals) := Heap.dictOf_iff.mpr ⟨o, e1 _ _ ho, hdo⟩
  obtain ⟨j, hj⟩ := List.getElem?_of_mem hv
  obtain ⟨y, hy, ry⟩ := rs.at (i := j) (v := v) (by rw [List.getElem?_map, hj]; rfl)
  have hz : ((kvs.map Prod.fst).zip vals)[j]? = some (k, y) := List.getElem?_zip_eq_some.mpr ⟨by rw [List.getElem?_map, hj]; rfl, hy⟩
  have hn' : (((kvs.map Prod.fst).zip vals).map (·.1)).Nodup := by
    rw [List.map_fst_zip (by rw [rs.len]; simp)]; exact hnd
  exact subscriptTail_builtin (s := { s with heap := h1, toks := tk1 }) hD.typeIs slot_dict_getitem.lookup (wpAny_getItem_of (intKind_is _ _ _ _) hD.mapOf (valueAt_of_get hn' hz) (hQ y h1 (tk1 + 1) e1 (ry.ext e1))) (hs a t) (hg a)
/-- l in x -/
theorem EvT.inMD (hl : Ev (Px.fn c mu ob σ) l (.int k)) (hx : σ.lookup x = some (mutD c.w a kvs)) (hlo : (a == sysModules) = false) (hd : (x == ("__debug__" : Str)) = false := by decide) (hm : behindInMarks .In (.Name x px) = false := by with_unfolding_all rfl) :
    EvT (Px.fn c mu ob σ) (.Compare l [.In] [.Name x px] pos) (kvs.any fun kv => kv.1 = k) := fun s I Q E hQ =>
  wpAny_isTrue_Compare1 (hl s I _ _ fun y h1 tk1 e1 r1 => by
    obtain ⟨t, rfl⟩ := r1
    refine load_mutS (s := { s with heap := h1, toks := tk1 }) (I.ext e1) hx hd fun o ho ⟨vals, hdo, rs⟩ => ?_
    have hD : h1.DictOf (iK c.w) a ((kvs.map Prod.fst).zip vals) := Heap.dictOf_iff.mpr ⟨o, ho, hdo⟩
    refine wpAny_in_of (intKind_is _ _ _ _) hlo hD.mapOf ?_
    rw [show (valueAt ((kvs.map Prod.fst).zip vals) k).isSome = kvs.any (fun kv => kv.1 = k) by
      rw [← any_zip (vals := vals) (by rw [rs.len, List.length_map]), valueAt, Option.isSome_map, Bool.eq_iff_iff, List.find?_isSome, List.any_eq_true]]
    exact wpAny_truthy_bool (hQ h1 (tk1 + 1) e1)) hm
/-- x[i] = e -/
theorem WgS.setD (hx : σ.lookup x = some (mutD c.w a kvs)) (he : EvG c mu ob σ e v) (hi : Ev (Px.fn c mu ob σ) i (.int k)) (hz : kvs.length ≤ 1000) (hn : N ((x, mutD c.w a (putK kvs k v)) :: σ)) (ho1 : only x σ = true := by rfl) (hd : (x == ("__debug__" : Str)) = false := by decide)
    (hs : swapsWith e (some (.Subscript (.Name x px) i p1)) pos.line c.env = pure false := by rfl) : WgS c mu ob σ (.Assign [.Subscript (.Name x px) i p1] e pos) N R := fun G s I t Q E H => by
  refine wpAny_Assign_Subscript (he G s I t _ _ fun y h1 tk1 gs I1 k1 t1 r1 => load_mutS (s := { s with heap := h1, toks := tk1, gens := gs }) I1 hx hd fun o ho ⟨vals, hdo, rs⟩ => hi { s with heap := h1, toks := tk1, gens := gs } I1 _ _ fun y2 h2 tk2 e2 r2 => ?_) hs
  obtain ⟨u, rfl⟩ := r2
  refine wpAny_setItem_pairs (s := { s with heap := h2, toks := tk2, gens := gs }) (hsz := by rw [List.length_zip, List.length_map, rs.len, List.length_map, Nat.min_self, sizeLine_eq]; omega) (intKind_is _ _ _ _) (Heap.dictOf_iff.mpr ⟨o, e2 _ _ ho, hdo⟩) fun h3 hd3 hs3 => ?_
  obtain ⟨vals', ev, rv⟩ := put_zip (k := k) (rs.ext e2) (r1.ext e2)
  rw [ev] at hd3
  obtain ⟨o3, ho3, hdo3⟩ := Heap.dictOf_iff.mp hd3
  obtain ⟨I3, k3⟩ := (I1.ext e2).setS (C' := dictCn c.w (putK kvs k v)) hx ho1 hs3 ho3 ⟨vals', hdo3, rv⟩
  exact H.1 _ h3 _ gs hn I3 (fun b ob hc h51 hob => k3 b ob hc (e2 _ _ (k1 b ob h51 (fun q => hc (.inr (.inl q))) hob))) (t1.keep fun o ho => k3 51 o (G.ch I1) (e2 _ _ ho))
/-- return x, the dict that was changed -/
theorem WgS.retD (hx : σ.lookup x = some (mutD c.w a kvs)) (ha : ¬ c.rb a) (hlo : (a == sysModules) = false) (hr : R (.sem (dictSm c.w kvs))) (hd : (x == ("__debug__" : Str)) = false := by decide) : WgS c mu ob σ (.Return (some (.Name x px)) pos) N R := fun G s I t Q E H =>
  wpAny_Return_some (load_mutS I hx hd fun o ho ⟨vals, hdo, rs⟩ => H.2 (.sem (dictSm c.w kvs)) _ s.heap s.toks s.gens hr (let ⟨m, F, _⟩ := I.fr; ⟨m, F⟩) ⟨a, o, vals, rfl, ha, hlo, ho, hdo, rs.move fun b o hb ho' => ⟨fun q => hb (.inl (I.rb b q)), ho'⟩⟩ t)
/-- isinstance(x, tuple) -/
theorem Cv.isTup {P : Px} {vs : List AV} : Cv P (.builtin "isinstance") [.tup vs, .glob (.type "tuple")] (.bool true) := fun s I ys rr Q E hQ => by
  obtain ⟨_, _, rfl, ⟨b, xs, n, rfl, hb, ho, rs⟩, _, _, rfl, rfl, rfl⟩ := rr
  exact call_isinstance (isinstance_true (Tx := "tuple") PySem.F.isi_meta_tuple PySem.F.sub_tuple_tuple) ⟨⟨_, ho, rfl⟩, hQ _ s.heap s.toks Ext.rfl' rfl⟩
end
end Mine
end
section
open PySem PySem.W PyProof.Rows PySem.Calls PySem.Spec PyProof.Rows.LCg
set_option maxRecDepth 100000
set_option maxHeartbeats 4000000
namespace Mine
/-! tuple(i + j for i, j in zip(t, u)) within a def whose code's table is 51 -/
theorem codeG_55 {w : World} {g : Heap} (X : (hd.heap_39 w.params).In g) : CodeG g 55 51 :=
  ⟨⟨_, _, _, _, _, _, _, _, _, X 55 _ (by with_unfolding_all rfl), rfl, rfl, rfl, rfl, rfl, rfl, rfl⟩, by decide⟩
theorem gen_elt {prog : Program} {w : World} {A' : Around} {E' : Value → Shared → Prop} {x y : Int} {tx ty : Tok} {u : Shared} {C : Addr} {code : Value} {m₂ : Str → Option Value} {scope : Scope} {cl : List (Str × Addr)} {env : Env} {p1 p2 p3 : Pos} {a b : Str}
    (hns : u.heap.Ns C m₂) (ha : m₂ a = some (.int x tx)) (hb : m₂ b = some (.int y ty))
    (hk : scope.kind = .function) (hl : (genEnv scope cl C code builtinsNs env).kindOf a = some .local) (hl2 : (genEnv scope cl C code builtinsNs env).kindOf b = some .local) (hda : (a == ("__debug__" : Str)) = false) (hdb : (b == ("__debug__" : Str)) = false) :
    wpAny (model prog w) A' (eval (.BinOp (.Name a p1) .Add (.Name b p2) p3) (genEnv scope cl C code builtinsNs env)) (fun v s₃ => (∃ t, v = .int (x + y) t) ∧ Keeps u s₃) E' u := by
  refine wpAny_BinOp (wpAny_Name (wpAny_loadName_local hk hl hns ha ?_) hda)
  refine wpAny_Name (wpAny_loadName_local hk hl2 hns hb ?_) hdb
  exact PyProof.Rows.add_int ⟨⟨_, rfl⟩, ⟨u.heap, _, rfl, fun _ _ e => e⟩⟩
/-- all that lives beside the ground, the frame's names and P -/
theorem all_led {g h : Heap} {L P : Addr} {m : Str → Option Value} (F : Fr g L h m) : ∃ led, News g L h led ∧ (∀ p ∈ led, p.1 ≠ P) ∧ ∀ a o, a ≠ P → a ≠ L → h.get? a = some o → g.get? a = some o ∨ (a, o) ∈ led := by
  refine ⟨(List.range h.objs.size).filterMap fun a => if a = P ∨ a = L ∨ (g.get? a).isSome = true then none else (h.get? a).map fun o => (a, o), fun p hp => ?_, fun p hp => ?_, fun a o h1 h2 ho => ?_⟩
  · obtain ⟨a, -, e⟩ := List.mem_filterMap.mp hp
    split at e
    · cases e
    · rename_i hn
      obtain ⟨o, ho, rfl⟩ := Option.map_eq_some_iff.mp e
      refine ⟨ho, fun q => hn (.inr (.inl q)), ?_⟩
      cases q : g.get? a with
      | none => rfl
      | some o' => exact absurd (.inr (.inr (by rw [q]; rfl))) hn
  · obtain ⟨a, -, e⟩ := List.mem_filterMap.mp hp
    split at e
    · cases e
    · rename_i hn
      obtain ⟨o, ho, rfl⟩ := Option.map_eq_some_iff.mp e
      exact fun q => hn (.inl q)
  · cases q : g.get? a with
    | some o' =>
      have := F.keep a o' q
      rw [ho] at this; cases this
      exact .inl rfl
    | none =>
      refine .inr (List.mem_filterMap.mpr ⟨a, List.mem_range.mpr (Heap.lt_size ho), ?_⟩)
      rw [if_neg (fun h => h.elim h1 fun h => h.elim h2 fun h => by rw [q] at h; cases h), ho]; rfl
theorem ints_are {h : Heap} {bad : Addr → Prop} : ∀ {is : List Int} {xs : List Value}, RVs h bad (is.map .int) xs → IntsAre xs is
  | [], _, r => by cases r; exact .nil
  | i :: is, _, ⟨_, _, e, ⟨t, q⟩, rs⟩ => by subst e; subst q; exact .cons _ _ (ints_are rs)
theorem are_ints {h : Heap} {bad : Addr → Prop} : ∀ {is : List Int} {xs : List Value}, xs.length = is.length → (∀ j v, xs[j]? = some v → ∃ t, v = Value.int (is.getD j 0) t) → RVs h bad (is.map .int) xs
  | [], [], _, _ => rfl
  | i :: is, x :: xs, hl, h => ⟨x, xs, rfl, h 0 x rfl, are_ints (Nat.succ.inj hl) fun j v e => h (j + 1) v e⟩
section
variable {c : Cx} {mu ob : Addr → Prop} {σ : Loc}
theorem FnInv.genR {h h' : Heap} {m : Str → Option Value} (I : FnInv c mu ob σ h) (G : GFit c mu ob) (F0 : Fr c.g c.L h m) (F : Fr c.g c.L h' m) (k : KpG c h h') (live : ∃ o, h'.get? 51 = some o) : FnInv c mu ob σ h' := by
  have n51 : ∀ a o, c.ch mu a → a ≠ c.L → h.get? a = some o → h'.get? a = some o := fun a o hc hL ho => k a o (fun q => G.ch I (q ▸ hc)) hL ho
  refine { ok := I.ok, rb := I.rb, obs := fun a ha => ⟨(I.obs a ha).1, (I.obs a ha).2.1, ?_⟩, mus := fun a ha => let ⟨p, q, g, o, ho⟩ := I.mus a ha; ⟨p, q, g, o, n51 _ _ (.inl ha) p ho⟩,
            cells := fun x a ha => let ⟨p, q, o, v, ho, hd⟩ := I.cells x a ha; ⟨p, q, o, v, n51 _ _ (.inr (.inr ⟨x, ha⟩)) p ho, hd⟩, inj := I.inj, fr := ?_ }
  · by_cases q : a = 51
    · exact q ▸ live
    · obtain ⟨hL, _, o, ho⟩ := I.obs a ha; exact ⟨o, k a o q hL ho⟩
  obtain ⟨m', F', V⟩ := I.fr
  have hm : m' = m := ns_unique F'.ns F0.ns
  subst hm
  have T : ∀ a o, ¬ c.bad mu ob a → h.get? a = some o → ¬ c.bad mu ob a ∧ h'.get? a = some o := fun a o hb ho => ⟨hb, k a o (fun q => hb (.inl (q ▸ G.ob))) (fun q => hb (.inr (.inr (.inl q)))) ho⟩
  have U : ∀ a o, mu a → h.get? a = some o → h'.get? a = some o := fun a o hm ho => n51 _ _ (.inl hm) (I.mus a hm).1 ho
  exact ⟨m', F, fun x v hx => (V x v hx).imp (fun ⟨k1, y, hy, r⟩ => ⟨k1, y, hy, r.move T U⟩) fun ⟨k1, a, o, y, ha, ho, hd, r⟩ => ⟨k1, a, o, y, ha, n51 _ _ (.inr (.inr ⟨x, ha⟩)) (I.cells x a ha).1 ho, hd, r.move T U⟩⟩
noncomputable def addI (f x : List Int) : List Int := (List.range f.length).map fun i => f.getD i 0 + x.getD i 0
theorem EvG.genTup {zp np mp p1 p2 p3 pos tp pg : Pos} {kt : Nat} {ft fz ea eb : Expr} {scope : Scope} {cl : List (Str × Addr)} {a b : Str} {is js : List Int}
    (hft : Ev (Px.fn c mu ob σ) ft (.glob (.type "tuple"))) (hfz : Ev (Px.fn c mu ob σ) fz (.glob (.type "zip"))) (hl : EvL (Px.fn c mu ob σ) zp [ea, eb] [.tup (is.map .int), .tup (js.map .int)])
    (hccd : c.ccd = .ref 55) (hdp : c.dp < recursionLimit) (hln : js.length = is.length) (hsz : is.length ≤ 1000)
    (hpg : pg = posG) (hco : scope.isCoroutine = false) (hclos : closureFor scope c.env = pure cl) (hcell : ∀ y ∈ scope.names, y.2 ≠ .cell) (h0 : scope.names.lookup (".0" : Str) = some NameKind.local)
    (hxa : scope.names.lookup a = some .local) (hxb : scope.names.lookup b = some .local) (hab : a ≠ b) (hkind : scope.kind = .function)
    (hl1 : ∀ C code, (genEnv scope cl C code builtinsNs c.env).kindOf a = some .local) (hl2 : ∀ C code, (genEnv scope cl C code builtinsNs c.env).kindOf b = some .local) (hda : (a == ("__debug__" : Str)) = false) (hdb : (b == ("__debug__" : Str)) = false)
    (hs : ∀ x, genFold (.Call fz [ea, eb] [] zp) c.env x = pure x)
    (he1 : starEach [.GeneratorExp (.BinOp (.Name a p1) .Add (.Name b p2) p3) [⟨.Tuple [.Name a np, .Name b mp] kt tp, .Call fz [ea, eb] [] zp, [], 0⟩] scope pg] c.env = (false, eval (.GeneratorExp (.BinOp (.Name a p1) .Add (.Name b p2) p3) [⟨.Tuple [.Name a np, .Name b mp] kt tp, .Call fz [ea, eb] [] zp, [], 0⟩] scope pg) c.env) :: starEach [] c.env)
    (hw1 : eval (.Call ft [.GeneratorExp (.BinOp (.Name a p1) .Add (.Name b p2) p3) [⟨.Tuple [.Name a np, .Name b mp] kt tp, .Call fz [ea, eb] [] zp, [], 0⟩] scope pg] [] pos) c.env = (do callWith pos (← eval ft c.env) [] (backTo pos (starEach [.GeneratorExp (.BinOp (.Name a p1) .Add (.Name b p2) p3) [⟨.Tuple [.Name a np, .Name b mp] kt tp, .Call fz [ea, eb] [] zp, [], 0⟩] scope pg] c.env)) (backToKw pos (keywordEach [] c.env))))
    (he : starEach [ea, eb] c.env = (false, eval ea c.env) :: starEach [eb] c.env := by rfl) (hp : (backTo zp (starEach [eb] c.env)).any (·.1) = false := by rfl)
    (hw : eval (.Call fz [ea, eb] [] zp) c.env = (do callWith zp (← eval fz c.env) [] (backTo zp (starEach [ea, eb] c.env)) (backToKw zp (keywordEach [] c.env))) := by rfl) :
    EvG c mu ob σ (.Call ft [.GeneratorExp (.BinOp (.Name a p1) .Add (.Name b p2) p3) [⟨.Tuple [.Name a np, .Name b mp] kt tp, .Call fz [ea, eb] [] zp, [], 0⟩] scope pg] [] pos) (.tup ((addI is js).map .int)) := fun G s I t Q E hQ => by
  subst hpg
  refine Call_ (hft s I _ _ fun y h1 tk1 e1 r1 => ?_) hw1
  cases r1
  refine Pv.callWith_type1 (args_cons (ge_eval rfl hco hclos hcell h0 hxa hxb hab hkind hdp (Call_ (hfz { s with heap := h1, toks := tk1 } (I.ext e1) _ _ fun y h2 tk2 e2 r2 => ?_) hw) hs) he1) he1 rfl
  cases r2
  refine Pv.callWith_type1 (hl { s with heap := h2, toks := tk2 } ((I.ext e1).ext e2) _ _ fun ys h3 tk3 e3 r3 => ?_) he hp
  have I3 : FnInv c mu ob σ h3 := ((I.ext e1).ext e2).ext e3
  have e13 := e1.trans' (e2.trans' e3)
  obtain ⟨_, _, rfl, ⟨T1, xs, n1, rfl, b1, o1, q1⟩, _, _, rfl, ⟨T2, zs, n2, rfl, b2, o2, q2⟩, rfl⟩ := r3
  obtain ⟨hgs, ps, hps, hpo⟩ := t
  obtain ⟨m, F, -⟩ := I3.fr
  obtain ⟨led, N, hoff, hall⟩ := all_led (P := 51) F
  have N1 : News c.g c.L h3 ((51, tabO ps) :: led) := List.forall_mem_cons.mpr ⟨⟨e13 _ _ hps, (I.obs 51 G.ob).1, G.g⟩, N⟩
  obtain ⟨bm, obm, MB⟩ := bmod_of_top I.ok.T
  refine gz_zip (s := { s with heap := h3, toks := tk3 }) (c := 55) F N1 hoff (codeG_55 I.ok.X) hccd hpo hgs MB I.ok.T.nolimit rfl ⟨_, o1, rfl, _, rfl⟩ ⟨_, o2, rfl, _, rfl⟩ (ints_are q1) (ints_are q2) (fun A' E' x y tx ty u C code m₂ hA hns ha hb => gen_elt hns ha hb hkind (hl1 C code) (hl2 C code) hda hdb) fun a9 s9 gb => ?_
  refine args_nil (tup_gen gb hln hsz fun s10 D10 ps10 ys10 ho10 hd10 hG10 hps10 F10 N10 lt10 hly hys => ?_)
  have k10 : KpG c s.heap s10.heap := fun a' o ha hL ho => by
    rcases hall a' o ha hL (e13 _ _ ho) with q | q
    · exact F10.keep _ _ q
    · exact (N10 _ (.tail _ (.tail _ q))).1
  have t51 := (N10 (51, tabO ps10) (.tail _ (.head _))).1
  have hn3 : h3.get? D10 = none := by
    cases q : h3.get? D10 with
    | none => rfl
    | some o =>
      exfalso
      have hDL : D10 ≠ c.L := (N10 _ (.head _)).2.1
      have hD5 : D10 ≠ 51 := Ne.symm (Nat.ne_of_lt (lt10 _ (.head _)))
      rcases hall D10 o hD5 hDL q with q' | q'
      · have := (N10 _ (.head _)).2.2; rw [q'] at this; cases this
      · exact Nat.lt_irrefl _ (lt10 _ (.tail _ q'))
  have hbD : ¬ c.bad mu ob D10 := fun q => by
    obtain ⟨o, ho⟩ := I3.lives q
    rw [hn3] at ho; cases ho
  have I10 : FnInv c mu ob σ s10.heap := I3.genR G F F10 (fun a' o ha hL ho => by
    rcases hall a' o ha hL ho with q | q
    · exact F10.keep _ _ q
    · exact (N10 _ (.tail _ (.tail _ q))).1) ⟨_, t51⟩
  have hs10 : s10 = { s with heap := s10.heap, toks := s10.toks, gens := s10.gens } := by
    cases s10; cases s; cases ho10; cases hd10; rfl
  rw [hs10]
  refine hQ _ s10.heap s10.toks s10.gens I10 k10 ⟨hG10, ps10, t51, hps10⟩ ⟨D10, ys10, _, rfl, hbD, (N10 _ (.head _)).1, are_ints (by rw [hly]; simp [addI]) fun j v hv => ?_⟩
  obtain ⟨t, e⟩ := hys j v hv
  have hj : j < is.length := hly ▸ (List.getElem?_eq_some_iff.mp hv).1
  refine ⟨t, e.trans ?_⟩
  rw [show (addI is js).getD j 0 = is.getD j 0 + js.getD j 0 by
    unfold addI
    rw [List.getD_eq_getElem?_getD, List.getElem?_map, List.getElem?_range hj]; rfl]
end
end Mine
end
section
open PySem PySem.W PyProof.Rows PySem.Calls PySem.Spec PyProof.Rows.LCg
set_option maxRecDepth 100000
set_option maxHeartbeats 4000000
namespace Mine
section
variable {w : World} {mg mb : Str → Option Value} {mean : ExcName → Option Value} {f : Addr} {D : Nat} {vs : List AV} {r : AV}
  {name qual : Str} {params : Arguments} {body : List Stmt} {scope : Scope} {dV kV doc pm cdv ct oc : Value} {an od : Option Addr} {osl : Array (Option Value)}
theorem ctH_ofC (names : List Str) (ho : (hd.heap_39 w.params).lookup f = some ⟨oc, od, .func (fnOf name qual params body scope dV kV doc pm an cdv ct), osl⟩) (hcd : codeIn (hd.heap_39 w.params) cdv qual = true)
    (hD : 0 < D) (hbind : ∀ s ys, ys.length = vs.length → BindsTo s (fnOf name qual params body scope dV kV doc pm an cdv ct) ⟨ys, []⟩ (names.zip ys)) (hln : vs.length = names.length) (hloc : (names.all fun y => scope.names.lookup y == some .local || scope.names.lookup y == some .cell) = true) (hnd : names.Nodup)
    (h : ∀ (dp un : Nat) (gd : Option (List Code)) (outer : List Env) (A₀ : Around) (base g : Heap) (L : Addr) (ob : Addr → Prop), dp + D < recursionLimit + 1 → un + 8 * D < cLine + 3 →
      Wg ⟨w, mg, mb, mean, dp, un, gd, qual, scope, L, f, cdv, cellsFrom (L + 1) scope.names [], outer, A₀, base, g, ob⟩ (fun _ => False) ob (names.zip vs) body (fun _ => False) (fun v => v = r))
    (hco : scope.isCoroutine = false) (hgen : scope.isGenerator = false) (hk : scope.kind = .function) : CtH w mg mb mean f D vs r := by
  rintro c mu ob σ rfl rfl rfl rfl hdp hu G s I0 t ys rv Q E hQ
  obtain ⟨m, F, -⟩ := I0.fr
  have O := I0.ok
  obtain ⟨hgs, ps, hps, hpo⟩ := t
  refine wpAny_call ?_
  have hl := rv.len
  have hzn : (names.zip ys).map (·.1) = names := zip_names (hl.trans hln)
  have N1 : News c.g c.L s.heap [(51, tabO ps)] := fun p hp => by rw [List.mem_singleton.mp hp]; exact ⟨hps, (I0.obs 51 G.ob).1, G.g⟩
  obtain ⟨FG, BG, st, -⟩ := groundX (A := c.A) (R := fun _ _ => True) (env := c.env) O.B F N1 rfl rfl O.k
  have hkind : ((names.zip ys).all fun y => scope.names.lookup y.1 == some .local || scope.names.lookup y.1 == some .cell) = true := by
    rw [List.all_eq_true] at hloc ⊢
    exact fun p hp => hloc p.1 (hzn ▸ List.mem_map_of_mem hp)
  refine codeAny_call_function (by show c.dp < recursionLimit; omega) ((O.X.keeps F.keep) _ _ ho) rfl hco hgen rfl (codeRec_of (O.X.keeps F.keep) hcd) (hbind s ys hl _ _ _ _ ?_)
  refine wpAny_newFunctionEnv_cells hk (kindsX hkind _) fun env' he s' x => ?_
  subst he
  refine ⟨((O.T.nolimit.keeps F.keep)).keeps x.toInCall.keep, codeAny_func ?_⟩
  obtain ⟨h₁, tk, rfl, _⟩ := x.done
  have hk₁ : ∀ b o, s.heap.get? b = some o → h₁.get? b = some o := x.toInCall.keep
  have F' : Fr (hideAll s.heap [51]) s.heap.objs.size h₁ (bindL (envOfC qual scope s.heap.objs.size f cdv).kindOf (names.zip ys) fun _ => none) := ⟨x.toInCall.ns, fun b o e => hk₁ b o (of_hideAll _ e), Nat.le_of_eq (hideAll_size _ _)⟩
  have new : ∀ a, c.bad mu ob a → @LT.lt Nat _ a s.heap.objs.size := fun a ha => let ⟨_, e⟩ := I0.lives ha; Heap.lt_size e
  have above : ∀ y a, (cellsFrom (s.heap.objs.size + 1) scope.names []).lookup y = some a → @LT.lt Nat _ s.heap.objs.size a := fun y a e => x.above y a (lookup_mem e)
  have T : ∀ a o, ¬ c.bad mu ob a → s.heap.get? a = some o → ¬ (c.bad mu ob a ∨ False ∨ a = s.heap.objs.size ∨ ∃ y, (cellsFrom (s.heap.objs.size + 1) scope.names []).lookup y = some a) ∧ h₁.get? a = some o := fun a o hb ho => ⟨fun q => by
    rcases q with q | q | q | ⟨_, e⟩
    · exact hb q
    · exact q
    · exact Nat.ne_of_lt (Heap.lt_size ho) q
    · exact Nat.lt_asymm (Heap.lt_size ho) (above _ _ e), hk₁ _ _ ho⟩
  have I : FnInv ⟨c.w, c.mg, c.mb, c.mean, c.dp + 1, c.un + 3, c.gd, qual, scope, s.heap.objs.size, f, cdv, cellsFrom (s.heap.objs.size + 1) scope.names [], _, _, c.base, hideAll s.heap [51], c.bad mu ob⟩ (fun _ => False) (c.bad mu ob) (names.zip vs) h₁ :=
    { ok := ⟨BG, O.X.keeps st, O.T.keeps st, hk⟩
      rb := fun a ha => ha
      obs := fun a ha => ⟨Nat.ne_of_lt (new a ha), fun y e => Nat.lt_asymm (new a ha) (above y a e), (I0.lives ha).imp fun o e => hk₁ _ _ e⟩
      mus := fun _ h => h.elim
      cells := fun y a e => ⟨Nat.ne_of_gt (above y a e), none_of_ext (h' := s.heap) (fun b o e => of_hideAll _ e) (Heap.get?_none_of_le (Nat.le_of_lt (above y a e))), let ⟨o, p, q⟩ := x.cell y a e; ⟨o, _, p, q⟩⟩
      inj := fun y z a e1 e2 => pair_inj x.apart (lookup_mem e1) (lookup_mem e2)
      fr := ⟨_, F', fun y v hx => by
        obtain ⟨z, hz, rz⟩ := zip_lookup rv hx
        rcases kindsX hkind (s.heap.objs.size + 1) (y, z) (lookup_mem hz) with q | ⟨q, q2⟩
        · exact .inl ⟨q, z, bindL_at q (by rw [hzn]; exact hnd) hz, (rz.move T).rm⟩
        · obtain ⟨a, ha⟩ := Option.isSome_iff_exists.mp q2
          obtain ⟨o, p, d⟩ := x.cell y a ha
          refine .inr ⟨q, a, o, z, ha, p, d.trans (congrArg _ (bindC_at (fun q' => ?_) (by rw [hzn]; exact hnd) hz)), (rz.move T).rm⟩
          have q' : scope.names.lookup y = some .local := q'
          rw [q] at q'; cases q'⟩ }
  refine wpAny_mono (h (c.dp + 1) (c.un + 3) c.gd _ _ c.base _ s.heap.objs.size (c.bad mu ob) (by omega) (by omega) ⟨.inl G.ob, fun h => h, hideAll_none _ (.head _)⟩ { s with heap := h₁, toks := tk } I ⟨hgs, ps, hk₁ _ _ hps, hpo⟩
    (fun fl s' => ∃ y h' tk' gs', fl = .ret y ∧ s' = { s with heap := h', toks := tk', gens := gs' } ∧ (∃ m, Fr (hideAll s.heap [51]) s.heap.objs.size h' m) ∧ RV h' (c.bad mu ob) r y ∧ tabAt h' gs') (fun _ _ => False) ⟨fun _ _ _ _ n => n.elim, ?_⟩) (fun fl s' hl => ?_) fun _ _ y => y.elim
  · rintro _ y h' tk' gs' rfl hm ry t'
    exact ⟨y, h', tk', gs', rfl, rfl, hm, ry, t'⟩
  · obtain ⟨y, h', tk', gs', rfl, rfl, ⟨m', F''⟩, ry, t'⟩ := hl
    exact hQ y h' tk' gs' (fun b o hn e => F''.keep b o (hideAll_get _ e fun hm => hn (List.mem_singleton.mp hm))) t' ry
end
theorem rvs_drop {h : Heap} {bad : Addr → Prop} : ∀ (k : Nat) {vs : List AV} {xs : List Value}, RVs h bad vs xs → RVs h bad (vs.drop k) (xs.drop k)
  | 0, _, _, r => r
  | _ + 1, [], _, r => by cases r; rfl
  | k + 1, _ :: _, _, ⟨_, _, e, _, rs⟩ => by subst e; exact rvs_drop k rs
section
variable {P : Px} {pos sp : Pos} {v a b l r : Expr} {vs : List AV}
/-- t[k:] of a tuple -/
theorem Ev.partT {k : Nat} (hz : vs.length ≤ 1000) (h1 : 1 ≤ k) (hk : k ≤ vs.length) (hv : Ev P v (.tup vs)) (hb : Ev P b (.int (k : Nat)))
    (hs : ∀ t r, subscripted (.Slice (some b) none none sp) false (.ref t) (.ref r) = operate [.ref r, .ref t] (getItem (.ref t) (.ref r)) := by intro _ _; with_unfolding_all rfl)
    (ht : ∀ t r, letTemporaryGo v (.ref t) r = pure () := by intro _ _; with_unfolding_all rfl) : Ev P (.Subscript v (.Slice (some b) none none sp) pos) (.tup (vs.drop k)) := fun s hs0 Q E hQ =>
  Subscript_ (hv s hs0 _ _ fun y h tk e r => by
    obtain ⟨al, xs, n, rfl, hbad, ho, rs⟩ := r
    refine wpAny_Slice (evalPart_some_step (hb _ (P.ok _ _ _ hs0 e) _ _ fun y2 h2 tk2 e2 r2 => evalPart_none_step (evalPart_none_step ?_)))
    obtain ⟨u2, rfl⟩ := r2
    have hT : IsTup h2 al xs.toArray := ⟨_, e2 _ _ ho, rfl, n, rfl⟩
    have up : Ext h2 (h2.push { cls := .type "slice", data := .fields #[.int k u2, .none, .none] }) := fun b o e => Heap.get?_push_of_some _ e
    have hT' := hT.keeps up
    have up2 : Ext (h2.push { cls := .type "slice", data := .fields #[.int k u2, .none, .none] }) ((h2.push { cls := .type "slice", data := .fields #[.int k u2, .none, .none] }).push { cls := .type "tuple", data := .seq (xs.drop k).toArray }) := fun b o e => Heap.get?_push_of_some _ e
    have ex := (e.trans' e2).trans' (up.trans' up2)
    refine subscriptTail_ops (s := { s with heap := h2.push { cls := .type "slice", data := .fields #[.int k u2, .none, .none] }, toks := tk2 }) hT'.typeIs slot_tuple_getitem.lookup
      (getItem_tuple_from (s := { s with heap := h2.push { cls := .type "slice", data := .fields #[.int k u2, .none, .none] }, toks := tk2 }) hT' (Heap.IsSliceOf.new ..) h1 (by rw [List.size_toArray, rs.len]; exact hk) ?_ (by rw [List.size_toArray, rs.len, sizeLine_eq]; omega)) (hs _ _) (ht _)
    refine hQ _ _ tk2 ex ⟨_, xs.drop k, _, rfl, fun q => ?_, Heap.get?_push_size _ rfl, rvs_drop k (rs.ext (e2.trans' (up.trans' up2)))⟩
    obtain ⟨o, e⟩ := P.low _ _ hs0 q
    exact Nat.lt_irrefl _ (Heap.lt_size (up _ _ (e2 _ _ ((‹Ext s.heap h› : Ext s.heap h) _ _ e)))))
/-- tuples of ints, alike -/
theorem Ev.neSameT {ns : List Int} (hu : P.c.un + 64 < cLine) (hl : Ev P l (.tup (ns.map .int))) (hr : Ev P r (.tup (ns.map .int))) (hm : behindInMarks .NotEq r = false := by with_unfolding_all rfl) : EvT P (.Compare l [.NotEq] [r] pos) false :=
  hl.cmp hr (hm := hm) fun s _ x y r1 r2 Q E hQ => by
    obtain ⟨a, us, n, rfl, -, ho, rs⟩ := r1
    obtain ⟨b, vs, n2, rfl, -, ho2, rs2⟩ := r2
    have la : s.heap.IsTuple a us.toArray := ⟨_, ho, rfl, n, rfl⟩
    have lb : s.heap.IsTuple b vs.toArray := ⟨_, ho2, rfl, n2, rfl⟩
    refine cmp_ofNotEq (SeqAt.RcNeAt.tuples (A := P.c.A) (e := fun _ => true) la lb (by show P.c.un < cLine; omega) (fun j h1 h2 => ?_) PG P.c.w E _ ?_)
    · have hj : j < ns.length := by rw [List.size_toArray, rs.len, List.length_map] at h1; exact h1
      obtain ⟨x, hx, t, rfl⟩ := rs.at (i := j) (v := .int ns[j]) (by rw [List.getElem?_map, List.getElem?_eq_getElem hj]; rfl)
      obtain ⟨y, hy, u, rfl⟩ := rs2.at (i := j) (v := .int ns[j]) (by rw [List.getElem?_map, List.getElem?_eq_getElem hj]; rfl)
      have := SeqAt.EqAt.int_int (A := P.c.A.in1) (s := s) ns[j] t ns[j] u
      rw [beq_self_eq_true] at this
      have e1 : us.toArray[j] = .int ns[j] t := by rw [List.getElem_toArray]; rw [List.getElem?_eq_getElem (by simpa using h1)] at hx; exact Option.some.inj hx
      have e2 : vs.toArray[j] = .int ns[j] u := by rw [List.getElem_toArray]; rw [List.getElem?_eq_getElem (by simpa using h2)] at hy; exact Option.some.inj hy
      rw [e1, e2]; exact this
    · rw [show ((List.range (min us.toArray.size vs.toArray.size)).all (fun _ => true) && us.toArray.size == vs.toArray.size) = true by
        rw [Bool.and_eq_true]; exact ⟨List.all_eq_true.mpr fun _ _ => rfl, by rw [List.size_toArray, List.size_toArray, rs.len, rs2.len]; exact beq_self_eq_true _⟩]
      exact hQ s.heap s.toks Ext.rfl'
end
section
variable {c : Cx} {mu ob : Addr → Prop} {σ : Loc} {pos : Pos} {kx vx tg iter : Expr} {k : Int} {v : AV} {scope : Scope} {cl : List (Str × Addr)} {cl' : Addr → List (Str × Addr)} {ws : List AV} {es : List (Int × AV)}
theorem Ev.dict1F {w : World} (hk : ∀ ob, Ev (Px.fn c mu ob σ) kx (.int k)) (hv : ∀ ob, Ev (Px.fn c mu ob σ) vx v) (hw : c.w = w := by rfl) : Ev (Px.fn c mu ob σ) (.Dict [some kx] [vx] pos) (.sem (dictSm w [(k, v)])) := hw ▸ Ev.dict1 (F := Pf.fn c mu σ) hk hv
theorem Ev.dcompF {w : World} (hclos : closureFor scope c.env = pure cl) (hit : It (Px.fn c mu ob σ) tg iter ws) (hkind : scope.kind = .function) (hne : NewEnv (Pf.fn c mu σ) scope cl cl')
    (hnames : ∀ z ∈ scope.names, z.2 = .local → scope.names.lookup z.1 = some .local)
    (hz : ws.length ≤ 1000) (hlen : es.length = ws.length) (hnd : (es.map Prod.fst).Nodup) (he : ∀ (K : Addr) (ob' : Addr → Prop) (i : Nat) (w : AV) (k : Int) (v : AV), ws[i]? = some w → es[i]? = some (k, v) → ∃ own, Binds c c.env scope cl' tg w own ∧ Ev (Px.comp c mu ob' σ scope (cl' K) K own) kx (.int k) ∧ Ev (Px.comp c mu ob' σ scope (cl' K) K own) vx v)
    (hs : ∀ x, foldedSetIterable iter c.env x = pure x := by intro _; rfl) (hw : c.w = w := by rfl) : Ev (Px.fn c mu ob σ) (.DictComp kx vx [⟨tg, iter, [], 0⟩] scope pos) (.sem (dictSm w es)) := hw ▸ Ev.dcomp (F := Pf.fn c mu σ) hclos hit hkind hne hnames hz hlen hnd he hs
end
end Mine
end
section
open PySem PySem.W PyProof.Rows PySem.Calls PySem.Spec
set_option maxRecDepth 100000
set_option maxHeartbeats 4000000
namespace Mine
/-! a list of ints, of whatever shell -/
noncomputable def lsSm (xs : List Int) : Sm where
  rel h bad x := ∃ a vs, x = .ref a ∧ ¬ bad a ∧ h.IsList a vs.toArray ∧ RVs h bad (xs.map .int) vs
  move := fun T x r => by
    obtain ⟨a, vs, e, hb, ⟨o, ho, r⟩, rs⟩ := r
    exact ⟨a, vs, e, (T _ _ hb ho).1, ⟨o, (T _ _ hb ho).2, r⟩, rs.move T⟩
section
variable {P : Px} {pos : Pos} {e i : Expr} {xs : List Int}
theorem Ev.itemS {k v : Int} (he : Ev P e (.sem (lsSm xs))) (hi : Ev P i (.int k)) (h0 : 0 ≤ k) (hf : k < 2 ^ 63) (hv : (xs.map AV.int)[k.toNat]? = some (.int v))
    (hs : ∀ l u, subscripted i false (.ref l) (.int k u) = operate [.ref l, .int k u] (getItem (.ref l) (.int k u)) := by intro _ _; with_unfolding_all rfl) : Ev P (.Subscript e i pos) (.int v) := fun s I Q E hQ =>
  Subscript_ (he s I _ _ fun y h tk ex r => hi _ (P.ok _ _ _ I ex) _ _ fun y1 h1 tk1 e1 r1 => by
    obtain ⟨u, rfl⟩ := r1
    obtain ⟨a, vs, rfl, hb, ⟨o, ho, hc⟩, rs⟩ := r
    obtain ⟨z, hz, rz⟩ := (rs.ext e1).at hv
    exact item_listR (s := { s with heap := h1, toks := tk1 }) ⟨o, e1 _ _ ho, hc⟩ h0 hf (by rw [List.getElem?_toArray]; exact hz) (hQ z h1 tk1 (ex.trans' e1) rz) (hs a u))
theorem Cv.lenSm (hz : xs.length ≤ 1000000) : Cv P (.builtin "len") [.sem (lsSm xs)] (.int (xs.length : Nat)) := fun s hs ys rr Q E hQ => by
  obtain ⟨_, _, rfl, ⟨a, vs, rfl, hb, hl, rs⟩, rfl⟩ := rr
  have hlen := rs.len
  rw [List.length_map] at hlen
  refine Calls.call_len_list hl (by rw [List.size_toArray, hlen]; omega) (hQ _ _ _ Ext.rfl' ⟨s.toks + 1, ?_⟩)
  rw [List.size_toArray, hlen]
end
end Mine
end
section
open PySem PySem.W PyProof.Rows PySem.Calls PySem.Spec
set_option maxRecDepth 100000
set_option maxHeartbeats 4000000
namespace Mine
noncomputable def low1 (c : Nat) : Nat := if 65 ≤ c ∧ c ≤ 90 then c + 32 else c
theorem lower_ch {c : Nat} (h : c < 128) : Txt.lower (ch c) = ch (low1 c) :=
  (by decide +kernel : ∀ c, c < 128 → Txt.lower (ch c) = ch (low1 c)) c h
theorem ch_inj {c d : Nat} : ch c = ch d ↔ c = d := by
  constructor
  · intro h; injection h with h; injection h with h; injection h
  · rintro rfl; rfl
noncomputable def substC (c d : Nat) : Int := if c = d then 0 else if low1 c = low1 d then 1 else 2
theorem Ev.lower {P : Px} {o : Expr} {x : Str} {pl : Sem Bool} {apos pos : Pos} (ho : Ev P o (.str x)) (hf : x.length ≤ 5592405)
    (he : eval (.Call (.Attribute o (Str.ofString "lower") apos) [] [] pos) P.env = (do
      let ov ← eval o P.env
      standAt apos.atName
      let (f, first) ← holding [ov] (getMethod ov (Str.ofString "lower") pl)
      callWith pos f first (backTo pos (starEach [] P.env)) []) := by rfl) : Ev P (.Call (.Attribute o (Str.ofString "lower") apos) [] [] pos) (.str (Txt.lower x)) := fun s hs Q E hQ =>
  MethodCall_ (ho s hs _ _ fun y h tk e r => by
    obtain ⟨t, rfl⟩ := r
    exact GM.lower (callWith_method0 (SCL.lower hf fun _ => hQ _ h _ e ⟨_, rfl⟩))) he
theorem fill_JW1 : (hd.heap_39, PySem.Challenge.rw_jc0009_01) = (hd.heap_39, PySem.Challenge.rw_jc0009_01) := by
  k_fill
  exact rfl
theorem subst_v {w : World} {mg mb : Str → Option Value} {mean : ExcName → Option Value} (c d : Nat) (hc : c < 128) (hd : d < 128) : CtV w mg mb mean 63 1 [.str (ch c), .str (ch d)] (.int (substC c d)) := by
  k_dflt (refine' ctv_of [Str.ofString "ch_a", Str.ofString "ch_b"] ?ho ?hcd ?hD ?hb ?hln ?hl ?hnd ?km ?c1 ?c2 ?c3 ?c4; (case ho => k_is); (case hcd => k_is); (case hD => decide); (case hb => exact fun s => len2 fun _ _ => BindsTo.of_eq rfl); (case hln => rfl); (case hl => decide); (case hnd => decide); (case c1 => exact rfl); (case c2 => exact rfl); (case c3 => exact rfl); (case c4 => decide))
  intro dp un gd outer A₀ base g L ob h1 h2
  refine .cons (.ite (Ev.seq (Ev.name rfl) (Ev.name rfl)) (fun q => .cons (.ret Ev.cInt ?_)) fun q => .nil (.cons (.ite (Ev.seq (Ev.lower (Ev.name rfl) (Nat.le_of_ble_eq_true rfl)) (Ev.lower (Ev.name rfl) (Nat.le_of_ble_eq_true rfl))) (fun q2 => .cons (.ret (Ev.globI rfl (by k_is)) ?_)) fun q2 => .nil (.cons (.ret (Ev.globI rfl (by k_is)) ?_)))))
  · rw [substC, if_pos (ch_inj.mp (beq_iff_eq.mp q))]
  · rw [lower_ch hc, lower_ch hd] at q2
    rw [substC, if_neg fun e => (beq_eq_false_iff_ne.mp q) (ch_inj.mpr e), if_pos (ch_inj.mp (beq_iff_eq.mp q2))]
  · rw [lower_ch hc, lower_ch hd] at q2
    rw [substC, if_neg fun e => (beq_eq_false_iff_ne.mp q) (ch_inj.mpr e), if_neg fun e => (beq_eq_false_iff_ne.mp q2) (ch_inj.mpr e)]
/-! a line -/
noncomputable def lineL (b c : Nat) : List Nat := List.replicate (b - min b 2) 32 ++ c :: List.replicate (min b 2) 32
noncomputable def lineS (b c : Nat) : Str := ⟨(lineL b c).toArray⟩
theorem mul_blank (n : Nat) (h : n ≤ 16) : Txt.mul (Str.ofString " ") (n : Int) = ⟨(List.replicate n 32).toArray⟩ :=
  (by decide +kernel : ∀ n : Nat, n < 17 → Txt.mul (Str.ofString " ") (n : Int) = ⟨(List.replicate n 32).toArray⟩) n (by omega)
theorem line_eq {b c : Nat} (h : b ≤ 12) : Txt.mul (Str.ofString " ") ((b : Int) - (if (2 : Int) < (b : Int) then (2 : Int) else (b : Int))) ++ ch c ++ Txt.mul (Str.ofString " ") (if (2 : Int) < (b : Int) then (2 : Int) else (b : Int)) = lineS b c := by
  have e1 : ((b : Int) - (if (2 : Int) < (b : Int) then (2 : Int) else (b : Int))) = ((b - min b 2 : Nat) : Int) := by split <;> omega
  have e2 : (if (2 : Int) < (b : Int) then (2 : Int) else (b : Int)) = ((min b 2 : Nat) : Int) := by split <;> omega
  rw [e1, e2, mul_blank _ (by omega), mul_blank _ (by omega)]
  show Str.append (Str.append _ _) _ = _
  unfold Str.append ch lineS lineL
  simp
theorem behind_bounds {b : Nat} (h : b ≤ 12) {x : Int} (e : x = if (2 : Int) < (b : Int) then (2 : Int) else (b : Int)) : 0 ≤ x ∧ x ≤ b ∧ x ≤ 2 := by
  subst e; split <;> omega
theorem len_mul_blank {i : Int} (h0 : 0 ≤ i) (h1 : i ≤ 12) : (Txt.mul (Str.ofString " ") i).length ≤ 12 := by
  obtain ⟨n, rfl⟩ := Int.eq_ofNat_of_zero_le h0
  rw [mul_blank n (by omega)]
  show (List.replicate n 32).toArray.size ≤ 12
  simp; omega
theorem len_app (x y : Str) : (x ++ y).length = x.length + y.length := by
  show (Str.append x y).length = _
  simp [Str.append, Str.length]
theorem blank_len : (Str.ofString " ").length ≤ 16 := by decide
theorem line_v {w : World} {mg mb : Str → Option Value} {mean : ExcName → Option Value} (b c : Nat) (hb : b ≤ 12) (hc : c < 128) : CtV w mg mb mean 84 1 [.int b, .str (ch c)] (.str (lineS b c)) := by
  k_dflt (refine' ctv_of [Str.ofString "blanks", Str.ofString "letter"] ?ho ?hcd ?hD ?hb ?hln ?hl ?hnd ?km ?c1 ?c2 ?c3 ?c4; (case ho => k_is); (case hcd => k_is); (case hD => decide); (case hb => exact fun s => len2 fun _ _ => BindsTo.of_eq rfl); (case hln => rfl); (case hl => decide); (case hnd => decide); (case c1 => exact rfl); (case c2 => exact rfl); (case c3 => exact rfl); (case c4 => decide))
  intro dp un gd outer A₀ base g L ob h1 h2
  obtain ⟨x, hx⟩ : ∃ x, x = if (2 : Int) < (b : Int) then (2 : Int) else (b : Int) := ⟨_, rfl⟩
  obtain ⟨b0, b1, b2⟩ := behind_bounds hb hx
  have l1 := len_mul_blank (i := (b : Int) - x) (by omega) (by omega)
  have l2 := len_mul_blank (i := x) (by omega) (by omega)
  have l3 : (ch c).length = 1 := rfl
  refine .cons (.asg (Ev.callB (Ev.built rfl (by k_is) rfl (by decide)) (.cons (Ev.name rfl) (.cons Ev.cInt .nil)) Cv.min2) rfl (.cons (.ret ?_ (congrArg AV.str (line_eq hb)))))
  rw [← hx]
  exact Ev.addS (by rw [len_app]; omega) (Ev.addS (by omega) (Ev.mulS blank_len (by omega) (by omega) Ev.cStr (Ev.sub (Ev.name rfl) (Ev.name rfl))) (Ev.name rfl)) (Ev.mulS blank_len (by omega) (by omega) Ev.cStr (Ev.name rfl))
end Mine
end
section
open PySem PySem.W PyProof.Rows PySem.Calls PySem.Spec PySem.Builtin PySem.Builtin.Str PySem.StrLaws
set_option maxRecDepth 100000
set_option maxHeartbeats 4000000
namespace Mine
theorem slice_eq (x : Str) (l u : Option Int) : Txt.slice x l u = sliceText x l u := rfl
theorem slice_ij {l : List Nat} {i j : Nat} (h : i ≤ j) (hj : j ≤ l.length) : Txt.slice (txt l) (some (i : Int)) (some (j : Int)) = txt ((l.drop i).take (j - i)) := by
  rw [slice_eq, sliceText_nat _ h (by rw [len_txt]; exact hj)]
theorem length_lineL (b c : Nat) : (lineL b c).length = b + 1 := by
  unfold lineL
  simp only [List.length_append, List.length_replicate, List.length_cons]
  omega
/-- the blanks ahead and behind -/
noncomputable def Parts (b p q : Nat) : Prop := p = b - min b 2 ∧ q = min b 2
theorem Parts.of (b : Nat) : ∃ p q, Parts b p q ∧ b = p + q := ⟨_, _, ⟨rfl, rfl⟩, by omega⟩
noncomputable def pat (b : Nat) : List Bool := List.replicate (b - min b 2) false ++ true :: List.replicate (min b 2) false
theorem lineL_pat (b c : Nat) : lineL b c = (pat b).map fun q => if q then c else 32 := by
  unfold lineL pat
  rw [List.map_append, List.map_cons, List.map_replicate, List.map_replicate]; rfl
theorem pat_get : ∀ b, b < 13 → ∀ k, k < b + 1 → (pat b)[k]? = some (decide (k = b - min b 2)) := by decide +kernel
theorem pat_cut : ∀ b, b < 13 → ∀ k, k < b - min b 2 + 1 → ∀ j, j < min b 2 + 1 → (j = 0 ∨ k = b - min b 2) → ((pat b).drop k).take (b - j + 1 - k) = pat (b - k - j) := by decide +kernel
theorem get_lineL {b c k p q : Nat} (P : Parts b p q) (hb : b ≤ 12) (h : k ≤ b) : (lineL b c)[k]? = some (if k = p then c else 32) := by
  rw [lineL_pat, List.getElem?_map, pat_get b (Nat.lt_succ_of_le hb) k (Nat.lt_succ_of_le h), P.1]
  show some _ = some _
  congr 1
  by_cases e : k = b - min b 2
  · rw [if_pos e, decide_eq_true e]; rfl
  · rw [if_neg e, decide_eq_false e]; rfl
theorem cut_lineL {b c k j p q : Nat} (P : Parts b p q) (hb : b ≤ 12) (hk : k ≤ p) (hj : j ≤ q) (h : j = 0 ∨ k = p) : ((lineL b c).drop k).take (b - j + 1 - k) = lineL (b - k - j) c := by
  obtain ⟨rfl, rfl⟩ := P
  rw [lineL_pat, lineL_pat, ← List.map_drop, ← List.map_take, pat_cut b (Nat.lt_succ_of_le hb) k (Nat.lt_succ_of_le hk) j (Nat.lt_succ_of_le hj) h]
noncomputable def takeN (b : Nat) (a : Int) : Nat := if a < 0 then b else min a.toNat b
theorem len_lineS (b c : Nat) : (lineS b c).length = b + 1 := by rw [show lineS b c = txt (lineL b c) from rfl, len_txt, length_lineL]
theorem blank_ch : Str.ofString " " = ch 32 := by decide +kernel
theorem lkI {σ : Loc} {x : Str} {i j : Int} (h : σ.lookup x = some (.int i)) (e : i = j) : σ.lookup x = some (.int j) := e ▸ h
/-- the sign at place k is a blank -/
theorem blank_at {b c k : Nat} (hc : c ≠ 32) (d : Nat) : (ch (if k = d then c else 32) == Str.ofString " ") = decide (k ≠ d) := by
  rw [blank_ch]
  by_cases h : k = d
  · rw [if_pos h, decide_eq_false (fun q => q h)]
    exact beq_eq_false_iff_ne.mpr fun e => hc (ch_inj.mp e)
  · rw [if_neg h, decide_eq_true h]
    exact beq_self_eq_true _
theorem taken_end {k j p q : Nat} {a : Int} (hk2 : 0 ≤ a → (k : Int) ≤ a) (hk1 : k ≤ p) (hk3 : a - (k : Int) = 0 ∨ k = p) (hj1 : j ≤ q) (hj2 : 0 ≤ a → (k : Int) + j ≤ a) (hj3 : a - (k : Int) - j = 0 ∨ j = q) (hj4 : j = 0 ∨ k = p) : p + q - k - j = p + q - takeN (p + q) a := by
  by_cases h : a < 0
  · rw [takeN, if_pos h]
    clear hk2 hj2
    omega
  · rw [takeN, if_neg h]
    obtain ⟨n, rfl⟩ := Int.eq_ofNat_of_zero_le (Int.not_lt.mp h)
    have hj2 := hj2 (Int.natCast_nonneg _)
    clear hk2 h
    rw [Int.toNat_natCast]
    rcases hj3 with e | e
    · rw [Nat.min_eq_left (by clear hk3 hj4; omega)]
      clear hk3 hj4 hj2; omega
    · rcases hk3 with e2 | e2
      · rw [Nat.min_eq_left (by clear hj4; omega)]
        clear hj4; omega
      · rw [Nat.min_eq_right (by clear hj4; omega)]
        clear hj4; omega
theorem strip_end {b c k j p q : Nat} {a : Int} (P : Parts b p q) (hpq : b = p + q) (hb : b ≤ 12) (hk1 : k ≤ p) (hk2 : 0 ≤ a → (k : Int) ≤ a) (hk3 : a - (k : Int) = 0 ∨ k = p) (hj1 : j ≤ q) (hj2 : 0 ≤ a → (k : Int) + j ≤ a) (hj3 : a - (k : Int) - j = 0 ∨ j = q) (hj4 : j = 0 ∨ k = p) :
    Txt.slice (lineS b c) (some (k : Int)) (some (((b - j : Nat) : Int) + 1)) = lineS (b - takeN b a) c := by
  have e1 : (((b - j : Nat) : Int) + 1) = ((b - j + 1 : Nat) : Int) := rfl
  have e2 : k ≤ b - j + 1 := by clear hk2 hk3 hj2 hj3 hj4 hb; omega
  have e3 : b - j + 1 ≤ b + 1 := Nat.succ_le_succ (Nat.sub_le _ _)
  rw [e1, show lineS b c = txt (lineL b c) from rfl, slice_ij e2 (by rw [length_lineL]; exact e3), cut_lineL P hb hk1 hj1 hj4, hpq, taken_end hk2 hk1 hk3 hj1 hj2 hj3 hj4]; rfl
theorem fill_JW2 : (hd.heap_39, PySem.Challenge.rw_jc0009_01) = (hd.heap_39, PySem.Challenge.rw_jc0009_01) := by
  k_fill
  exact rfl
theorem test_off {i : Int} {p : Bool} (h : ((i != 0) && (p && true)) = false) : i = 0 ∨ p = false := by
  cases p with
  | false => exact .inr rfl
  | true => left; simpa using h
theorem test_on {i : Int} {p : Bool} (h : ((i != 0) && (p && true)) = true) : i ≠ 0 ∧ p = true := by
  simpa using h
theorem strip_v {w : World} {mg mb : Str → Option Value} {mean : ExcName → Option Value} (b c : Nat) (a : Int) (hb : b ≤ 12) (hc : c < 128) (hc2 : c ≠ 32) : CtV w mg mb mean 21 1 [.str (lineS b c), .int a] (.str (lineS (b - takeN b a) c)) := by
  k_dflt (refine' ctv_of [Str.ofString "s", Str.ofString "amount"] ?ho ?hcd ?hD ?hb ?hln ?hl ?hnd ?km ?c1 ?c2 ?c3 ?c4; (case ho => k_is); (case hcd => k_is); (case hD => decide); (case hb => exact fun s => len2 fun _ _ => BindsTo.of_eq rfl); (case hln => rfl); (case hl => decide); (case hnd => decide); (case c1 => exact rfl); (case c2 => exact rfl); (case c3 => exact rfl); (case c4 => decide))
  intro dp un gd outer A₀ base g L ob h1 h2
  clear h1 h2
  obtain ⟨p, q, P, hpq⟩ := Parts.of b
  refine .cons (.asg Ev.cInt rfl (.cons (.while (α := Nat) (fun k => [(Str.ofString "lpos", .int k), (Str.ofString "amount", .int (a - k)), (Str.ofString "s", .str (lineS b c))]) (fun k => k ≤ p ∧ (0 ≤ a → (k : Int) ≤ a)) (fun k => b - k)
    (fun k => (a - k != 0) && (ch (if k = p then c else 32) == Str.ofString " " && true)) 0 ⟨Nat.zero_le _, fun h => h⟩ (List.forall_mem_cons.mpr ⟨rfl, List.forall_mem_cons.mpr ⟨lkI rfl (by omega), List.forall_mem_cons.mpr ⟨rfl, List.forall_mem_nil _⟩⟩⟩)
    (fun k hk => .and (.cons (.int (Ev.name rfl)) fun _ => .cons (Ev.seq (Ev.item (idx_pos (by rw [length_lineL]; omega)) (get_lineL P hb (by omega)) (by rw [length_lineL]; omega) (Ev.name rfl) (Ev.name rfl)) Ev.cStr) fun _ => .nil))
    (fun k hk z => ?_) fun k hk z => ?_)))
  · obtain ⟨q1, q2⟩ := test_on z
    rw [blank_at (b := b) hc2, decide_eq_true_eq] at q2
    exact .cons (.addI rfl rfl Ev.cInt (.cons (.subI rfl rfl Ev.cInt (.nil ⟨k + 1, ⟨by omega, fun h => by have := hk.2 h; omega⟩, by omega, List.forall_mem_cons.mpr ⟨lkI rfl rfl, List.forall_mem_cons.mpr ⟨lkI rfl (by omega), List.forall_mem_cons.mpr ⟨rfl, List.forall_mem_nil _⟩⟩⟩⟩))))
  have hk3 : a - (k : Int) = 0 ∨ k = p := (test_off z).imp id fun q2 => by
    rw [blank_at (b := b) hc2, decide_eq_false_iff_not] at q2
    exact Classical.not_not.mp q2
  obtain ⟨hk1, hk2⟩ := hk
  have hl : (lineS b c).length ≤ 1000000 := by rw [len_lineS]; omega
  refine .cons (.asg (Ev.sub (Ev.callB (Ev.built rfl (by k_is) rfl (by decide)) (.cons (Ev.name rfl) .nil) (Cv.lenS hl)) Ev.cInt) rfl (.cons (.while (α := Nat) (fun j => [(Str.ofString "rpos", .int ((b - j : Nat) : Int)), (Str.ofString "amount", .int (a - k - j)), (Str.ofString "lpos", .int k), (Str.ofString "s", .str (lineS b c))])
    (fun j => j ≤ q ∧ (0 ≤ a → (k : Int) + j ≤ a) ∧ (j = 0 ∨ k = p)) (fun j => b - j)
    (fun j => (a - k - j != 0) && (ch (if b - j = p then c else 32) == Str.ofString " " && true)) 0 ⟨Nat.zero_le _, fun h => by have := hk2 h; omega, .inl rfl⟩ (List.forall_mem_cons.mpr ⟨lkI rfl (by rw [len_lineS]; omega), List.forall_mem_cons.mpr ⟨lkI rfl (by omega), List.forall_mem_cons.mpr ⟨rfl, List.forall_mem_cons.mpr ⟨rfl, List.forall_mem_nil _⟩⟩⟩⟩)
    (fun j hj => .and (.cons (.int (Ev.name rfl)) fun _ => .cons (Ev.seq (Ev.item (idx_pos (by rw [length_lineL]; omega)) (get_lineL P hb (by omega)) (by rw [length_lineL]; omega) (Ev.name rfl) (Ev.name rfl)) Ev.cStr) fun _ => .nil))
    (fun j hj z => ?_) fun j hj z => ?_)))
  · obtain ⟨q1, q2⟩ := test_on z
    rw [blank_at (b := b) hc2, decide_eq_true_eq] at q2
    exact .cons (.subI rfl rfl Ev.cInt (.cons (.subI rfl rfl Ev.cInt (.nil ⟨j + 1, ⟨by omega, fun h => by have := hj.2.1 h; omega, by omega⟩, by omega, List.forall_mem_cons.mpr ⟨lkI rfl (by omega), List.forall_mem_cons.mpr ⟨lkI rfl (by omega), List.forall_mem_cons.mpr ⟨rfl, List.forall_mem_cons.mpr ⟨rfl, List.forall_mem_nil _⟩⟩⟩⟩⟩))))
  have hj3 : a - (k : Int) - j = 0 ∨ j = q := (test_off z).imp id fun q2 => by
    rw [blank_at (b := b) hc2, decide_eq_false_iff_not] at q2
    have := Classical.not_not.mp q2
    omega
  exact .cons (.ret (Ev.cutSS hl (Ev.name rfl) (Ev.name rfl) (Ev.add (Ev.name rfl) Ev.cInt)) (congrArg AV.str (strip_end P hpq hb hk1 hk2 hk3 hj.1 hj.2.1 hj3 hj.2.2)))
end Mine
end
section
open PySem PySem.W PyProof.Rows PySem.Calls PySem.Spec
set_option maxRecDepth 100000
set_option maxHeartbeats 4000000
namespace Mine
/-! what _levenshtein_distance computes -/
noncomputable def cpre : List Nat → List Nat → Nat
  | x :: a, y :: b => if x = y then cpre a b + 1 else 0
  | _, _ => 0
theorem cpre_le_l : ∀ a b, cpre a b ≤ a.length
  | [], _ => Nat.le_refl _
  | x :: a, [] => Nat.zero_le _
  | x :: a, y :: b => by
    unfold cpre
    split
    · exact Nat.succ_le_succ (cpre_le_l a b)
    · exact Nat.zero_le _
theorem cpre_le_r : ∀ a b, cpre a b ≤ b.length
  | [], _ => Nat.zero_le _
  | x :: a, [] => Nat.zero_le _
  | x :: a, y :: b => by
    unfold cpre
    split
    · exact Nat.succ_le_succ (cpre_le_r a b)
    · exact Nat.zero_le _
theorem cpre_lt : ∀ {a b : List Nat} {k : Nat}, k ≤ cpre a b → k < a.length → k < b.length → a.getD k 0 = b.getD k 0 → k < cpre a b
  | [], _, _, _, h, _, _ => absurd h (Nat.not_lt_zero _)
  | _ :: _, [], _, _, _, h, _ => absurd h (Nat.not_lt_zero _)
  | x :: a, y :: b, 0, _, _, _, e => by
    have e' : x = y := by simpa using e
    unfold cpre
    rw [if_pos e']; exact Nat.succ_pos _
  | x :: a, y :: b, k + 1, h, h1, h2, e => by
    unfold cpre at h ⊢
    split at h <;> rename_i q
    · rw [if_pos q]
      exact Nat.succ_lt_succ (cpre_lt (Nat.le_of_succ_le_succ h) (Nat.lt_of_succ_lt_succ h1) (Nat.lt_of_succ_lt_succ h2) (by simpa using e))
    · exact absurd h (Nat.not_succ_le_zero _)
theorem cpre_eq : ∀ {a b : List Nat} {k : Nat}, k ≤ cpre a b → (a.length ≤ k ∨ b.length ≤ k ∨ a.getD k 0 ≠ b.getD k 0) → k = cpre a b
  | [], b, k, h, _ => by unfold cpre at h ⊢; omega
  | x :: a, [], k, h, _ => by unfold cpre at h ⊢; omega
  | x :: a, y :: b, 0, _, e => by
    unfold cpre
    rw [if_neg]
    rcases e with e | e | e
    · exact absurd e (Nat.not_succ_le_zero _)
    · exact absurd e (Nat.not_succ_le_zero _)
    · simpa using e
  | x :: a, y :: b, k + 1, h, e => by
    unfold cpre at h ⊢
    split at h <;> rename_i q
    · rw [if_pos q]
      congr 1
      refine cpre_eq (Nat.le_of_succ_le_succ h) ?_
      rcases e with e | e | e
      · exact .inl (Nat.le_of_succ_le_succ e)
      · exact .inr (.inl (Nat.le_of_succ_le_succ e))
      · exact .inr (.inr (by simpa using e))
    · exact absurd h (Nat.not_succ_le_zero _)
theorem cpre_comm : ∀ a b, cpre a b = cpre b a
  | [], [] => rfl
  | [], _ :: _ => rfl
  | _ :: _, [] => rfl
  | x :: a, y :: b => by
    unfold cpre
    by_cases h : x = y
    · rw [if_pos h, if_pos h.symm, cpre_comm a b]
    · rw [if_neg h, if_neg fun e => h e.symm]
noncomputable def csuf (a b : List Nat) : Nat := cpre a.reverse b.reverse
theorem rev_getD {l : List Nat} {j : Nat} (h : j < l.length) : l.reverse.getD j 0 = l.getD (l.length - 1 - j) 0 := by
  rw [List.getD_eq_getElem?_getD, List.getD_eq_getElem?_getD, List.getElem?_reverse h]
noncomputable def cutL (a b : List Nat) : List Nat := a.drop (cpre a b)
noncomputable def cutR (a b : List Nat) : List Nat := a.take (a.length - csuf a b)

structure IS where
  row : List Int
  d : Int
  r : Int
  mn : Int
noncomputable def istep (bc : Nat) (a : List Nat) (S : IS) (i : Nat) : IS :=
  { row := S.row.set i (if S.d + substC bc (a.getD i 0) < (if S.row.getD i 0 < S.r then S.row.getD i 0 else S.r) + 2 then S.d + substC bc (a.getD i 0) else (if S.row.getD i 0 < S.r then S.row.getD i 0 else S.r) + 2),
    d := S.row.getD i 0,
    r := if S.d + substC bc (a.getD i 0) < (if S.row.getD i 0 < S.r then S.row.getD i 0 else S.r) + 2 then S.d + substC bc (a.getD i 0) else (if S.row.getD i 0 < S.r then S.row.getD i 0 else S.r) + 2,
    mn := if (if S.d + substC bc (a.getD i 0) < (if S.row.getD i 0 < S.r then S.row.getD i 0 else S.r) + 2 then S.d + substC bc (a.getD i 0) else (if S.row.getD i 0 < S.r then S.row.getD i 0 else S.r) + 2) < S.mn
      then (if S.d + substC bc (a.getD i 0) < (if S.row.getD i 0 < S.r then S.row.getD i 0 else S.r) + 2 then S.d + substC bc (a.getD i 0) else (if S.row.getD i 0 < S.r then S.row.getD i 0 else S.r) + 2) else S.mn }
noncomputable def irun (bc : Nat) (a : List Nat) : Nat → Nat → IS → IS
  | 0, _, S => S
  | k + 1, i, S => irun bc a k (i + 1) (istep bc a S i)
noncomputable def maxS : Int := 9223372036854775807
noncomputable def levD (a b : List Nat) (M : Int) : Nat → Nat → List Int → Int → Int
  | 0, _, _, res => res
  | k + 1, j, row, _ =>
    if M < (irun (b.getD j 0) a a.length 0 ⟨row, (j : Int) * 2, (j : Int) * 2, maxS⟩).mn then M + 1
    else levD a b M k (j + 1) (irun (b.getD j 0) a a.length 0 ⟨row, (j : Int) * 2, (j : Int) * 2, maxS⟩).row (irun (b.getD j 0) a a.length 0 ⟨row, (j : Int) * 2, (j : Int) * 2, maxS⟩).r
noncomputable def row0 (n : Nat) : List Int := (List.range n).map fun (i : Nat) => 2 + (i : Int) * 2
noncomputable def levS (a b : List Nat) (M : Int) : Int :=
  if ((b.length : Int) - a.length) * 2 > M then M + 1 else levD a b M b.length 0 (row0 a.length) 0
noncomputable def levT (a b : List Nat) (M : Int) : Int :=
  if a = [] ∨ b = [] then 2 * ((a.length : Int) + b.length)
  else if b.length < a.length then levS b a M else levS a b M
noncomputable def lev (a b : List Nat) (M : Int) : Int :=
  if a = b then 0 else levT (cutR (cutL a b) (cutL b a)) (cutR (cutL b a) (cutL a b)) M
end Mine
end
section
open PySem PySem.W PyProof.Rows PySem.Calls PySem.Spec PySem.Builtin PySem.Builtin.Str PySem.StrLaws
set_option maxRecDepth 100000
set_option maxHeartbeats 4000000
namespace Mine
theorem slice_from {l : List Nat} {i : Nat} (h : i ≤ l.length) : Txt.slice (txt l) (some (i : Int)) none = txt (l.drop i) := by
  rw [slice_eq]
  unfold sliceText
  rw [sliceIdx_none_hi]
  have e := sliceText_nat (txt l) (a := i) (b := (txt l).length) (by rw [len_txt]; exact h) (Nat.le_refl _)
  unfold sliceText at e
  rw [e, len_txt]
  show txt ((l.drop i).take (l.length - i)) = txt (l.drop i)
  rw [← List.length_drop, List.take_length]
theorem slice_none (l : List Nat) : Txt.slice (txt l) none none = txt l := by
  rw [slice_eq]
  unfold sliceText
  rw [sliceIdx_none_lo, sliceIdx_none_hi]
  have e := sliceText_nat (txt l) (a := 0) (b := (txt l).length) (Nat.zero_le _) (Nat.le_refl _)
  unfold sliceText at e
  rw [show ((0 : Nat) : Int) = 0 from rfl] at e
  rw [e, len_txt]
  show txt ((l.drop 0).take (l.length - 0)) = txt l
  rw [List.drop_zero, Nat.sub_zero, List.take_length]
theorem idx_neg (n j : Nat) (h0 : 0 < j) (h : j ≤ n) : strSliceIndices none (some (-(j : Int))) 1 n = strSliceIndices none (some ((n - j : Nat) : Int)) 1 n := by
  have a : (-(j : Int)) < 0 := by omega
  have b : ¬ (((n - j : Nat) : Int) < 0) := by omega
  unfold strSliceIndices
  simp only [if_pos a, if_neg b]
  rw [show (-(j : Int) + (n : Int)) = ((n - j : Nat) : Int) by omega]
theorem slice_upneg {l : List Nat} {j : Nat} (h0 : 0 < j) (h : j ≤ l.length) : Txt.slice (txt l) none (some (-(j : Int))) = txt (l.take (l.length - j)) := by
  rw [slice_eq]
  unfold sliceText
  rw [idx_neg _ j h0 (by rw [len_txt]; exact h), sliceIdx_none_lo]
  have e := sliceText_nat (txt l) (a := 0) (b := (txt l).length - j) (Nat.zero_le _) (Nat.sub_le ..)
  unfold sliceText at e
  rw [show ((0 : Nat) : Int) = 0 from rfl] at e
  rw [e, len_txt]
  show txt ((l.drop 0).take (l.length - j - 0)) = _
  rw [List.drop_zero, Nat.sub_zero]
theorem getD_some {l : List Nat} {k : Nat} (h : k < l.length) : l[k]? = some (l.getD k 0) := by
  rw [List.getD_eq_getElem?_getD, List.getElem?_eq_getElem h]; rfl
section
variable {P : Px} {pos sp : Pos} {v e i l r : Expr} {x : List Nat}
theorem Ev.from {k : Nat} {y : List Nat} (hx : x.length ≤ 1000000) (hk : k ≤ x.length) (hy : x.drop k = y) (hv : Ev P v (.str (txt x))) (ha : Ev P e (.int k))
    (hs : ∀ t r, subscripted (.Slice (some e) none none sp) false (.str (txt x) t) (.ref r) = operate [.ref r, .str (txt x) t] (getItem (.str (txt x) t) (.ref r)) := by intro _ _; with_unfolding_all rfl)
    (ht : ∀ t r, letTemporaryGo v (.str (txt x) t) r = pure () := by intro _ _; with_unfolding_all rfl) : Ev P (.Subscript v (.Slice (some e) none none sp) pos) (.str (txt y)) :=
  hy ▸ slice_from hk ▸ Ev.cutSN (by rw [len_txt]; exact hx) hv ha hs ht
theorem Ev.orNone {p : Int} {p1 p2 : Pos} {k : Nat} (he : Ev P e (.int p)) : Ev P (.BoolOp .Or [e, .Constant .none k p1] p2) (match (if p = 0 then Option.none else some p) with | some j => .int j | none => .none) := fun s hs Q E hQ =>
  BoolOp_or (he s hs _ _ fun y h tk ex r => by
    obtain ⟨t, rfl⟩ := r
    refine PySem.P.truthy_int ?_
    by_cases q : p = 0
    · subst q
      exact BoolOp_one (Ev.cNone _ (P.ok _ _ _ hs ex) Q E fun y h' tk' e' r' => hQ y h' tk' (ex.trans' e') r')
    · rw [if_pos (bne_iff_ne.mpr q)]
      refine hQ _ h tk ex ?_
      rw [if_neg q]
      exact ⟨t, rfl⟩)
theorem Ev.upto {j : Nat} {y : List Nat} {p1 p2 : Pos} {k : Nat} (hx : x.length ≤ 1000000) (hj : j ≤ x.length) (hy : x.take (x.length - j) = y) (hv : Ev P v (.str (txt x))) (he : Ev P e (.int (-(j : Int))))
    (hs : ∀ t r, subscripted (.Slice none (some (.BoolOp .Or [e, .Constant .none k p1] p2)) none sp) false (.str (txt x) t) (.ref r) = operate [.ref r, .str (txt x) t] (getItem (.str (txt x) t) (.ref r)) := by intro _ _; with_unfolding_all rfl)
    (ht : ∀ t r, letTemporaryGo v (.str (txt x) t) r = pure () := by intro _ _; with_unfolding_all rfl) : Ev P (.Subscript v (.Slice none (some (.BoolOp .Or [e, .Constant .none k p1] p2)) none sp) pos) (.str (txt y)) := by
  refine Ev.cutN (by rw [len_txt]; exact hx) hv he.orNone ?_ hs ht
  subst hy
  by_cases q : j = 0
  · subst q
    rw [if_pos (by simp), Nat.sub_zero, List.take_length]; exact slice_none x
  · rw [if_neg (by omega)]; exact slice_upneg (by omega) hj
theorem EvT.txt (hx : x.length ≤ 1000000) (he : Ev P e (.str (txt x))) (hp : isTrue e P.env (eval e P.env) = (do let v ← eval e P.env; standAt e.pos; holding [v] (truthy v)) := by rfl) : EvT P e (!x.isEmpty) := by
  have : (((Mine.txt x).length : Int) != 0) = !x.isEmpty := by
    rw [len_txt]
    cases x with
    | nil => rfl
    | cons a l => exact bne_iff_ne.mpr (Int.ofNat_ne_zero.mpr (Nat.succ_ne_zero _))
  exact this ▸ EvT.str (by rw [len_txt]; exact hx) he hp
theorem Ev.ceq {c d : Nat} (hl : Ev P l (.str (ch c))) (hr : Ev P r (.str (ch d))) (hm : behindInMarks .Eq r = false := by with_unfolding_all rfl) : EvT P (.Compare l [.Eq] [r] pos) (decide (c = d)) := by
  have : (ch c == ch d) = decide (c = d) := by
    by_cases q : c = d
    · rw [q, decide_eq_true rfl]; exact beq_self_eq_true _
    · rw [decide_eq_false q]; exact beq_eq_false_iff_ne.mpr fun e => q (ch_inj.mp e)
  exact this ▸ Ev.seq hl hr hm
theorem Ev.getD {k : Nat} (hl : x.length ≤ 1000000) (hk : k < x.length) (hv : Ev P v (.str (txt x))) (hi : Ev P i (.int k))
    (hs : ∀ t u, subscripted i false (.str (txt x) t) (.int k u) = operate [.str (txt x) t, .int k u] (getItem (.str (txt x) t) (.int k u)) := by intro _ _; with_unfolding_all rfl) : Ev P (.Subscript v i pos) (.str (ch (x.getD k 0))) :=
  Ev.item (idx_pos hk) (getD_some hk) hl hv hi hs
theorem Ev.back {j : Nat} (hl : x.length ≤ 1000000) (hk : j < x.length) (hv : Ev P v (.str (txt x))) (hi : Ev P i (.int (-(j : Int) - 1)))
    (hs : ∀ t u, subscripted i false (.str (txt x) t) (.int (-(j : Int) - 1) u) = operate [.str (txt x) t, .int (-(j : Int) - 1) u] (getItem (.str (txt x) t) (.int (-(j : Int) - 1) u)) := by intro _ _; with_unfolding_all rfl) : Ev P (.Subscript v i pos) (.str (ch (x.reverse.getD j 0))) :=
  Ev.item (idx_back hk) (by rw [rev_getD hk]; exact getD_some (by omega)) hl hv hi hs
theorem Cv.lenT (hf : x.length ≤ 1000000) : Cv P (.builtin "len") [.str (txt x)] (.int (x.length : Nat)) := by
  have := Cv.lenS (P := P) (x := txt x) (by rw [len_txt]; exact hf)
  rwa [len_txt] at this
end
theorem Ws.cut {c : Cx} {mu ob : Addr → Prop} {σ τ : Loc} {st : Stmt} {N : Loc → Prop} {R : AV → Prop} (h : Ws c mu ob σ st (fun σ' => Sub τ σ') R) (hn : N τ) : Ws c mu ob σ st N R := fun s I Q E H =>
  h s I Q E ⟨fun σ' h' tk hS I' k => H.1 τ h' tk hn (I'.sub hS) k, H.2⟩
theorem drop_on {l : List Nat} {k : Nat} (h : (!(l.drop k).isEmpty) = true) : k < l.length := by
  rw [Bool.not_eq_true', List.isEmpty_eq_false_iff] at h
  exact Nat.lt_of_not_le fun q => h (List.drop_eq_nil_of_le q)
theorem drop_off {l : List Nat} {k : Nat} (h : (!(l.drop k).isEmpty) = false) : l.length ≤ k := by
  rw [Bool.not_eq_false', List.isEmpty_iff] at h
  exact List.drop_eq_nil_iff.mp h
theorem take_on {l : List Nat} {j : Nat} (h : (!(l.take (l.length - j)).isEmpty) = true) : j < l.length := by
  rw [Bool.not_eq_true', List.isEmpty_eq_false_iff] at h
  exact Nat.lt_of_not_le fun q => h (by rw [Nat.sub_eq_zero_of_le q]; rfl)
theorem take_off {l : List Nat} {j : Nat} (h : (!(l.take (l.length - j)).isEmpty) = false) : l.length ≤ j := by
  rw [Bool.not_eq_false', List.isEmpty_iff, List.take_eq_nil_iff] at h
  rcases h with h | h
  · exact Nat.sub_eq_zero_iff_le.mp h
  · rw [h]; exact Nat.zero_le _
theorem and3_on {p q r : Bool} (h : (p && (q && (r && true))) = true) : p = true ∧ q = true ∧ r = true := by simpa using h
theorem and3_off {p q r : Bool} (h : (p && (q && (r && true))) = false) : p = false ∨ q = false ∨ r = false := by revert h; cases p <;> cases q <;> cases r <;> simp
theorem rng_at {n i : Nat} {w : AV} (h : ((List.range n).map fun i => AV.int (i : Nat))[i]? = some w) : i < n ∧ w = .int (i : Nat) := by
  have hi := (List.getElem?_eq_some_iff.mp h).1
  rw [List.length_map, List.length_range] at hi
  rw [List.getElem?_map, List.getElem?_range hi] at h
  exact ⟨hi, (Option.some.inj h).symm⟩
theorem rng_len {n : Nat} : ((List.range n).map fun i => AV.int (i : Nat)).length = n := by rw [List.length_map, List.length_range]
theorem rng_rv {n : Nat} : ∀ w ∈ (List.range n).map fun i => AV.int (i : Nat), ∀ h bad v, IV h bad w v → RV h bad w v := fun w hw h bad v iv => by
  obtain ⟨i, _, rfl⟩ := List.mem_map.mp hw
  exact iv
noncomputable abbrev ILs (l : List Int) : List AV := l.map .int
theorem ints_at {l : List Int} {k : Nat} (h : k < l.length) : (ILs l)[k]? = some (.int (l.getD k 0)) := by
  rw [List.getElem?_map, List.getD_eq_getElem?_getD, List.getElem?_eq_getElem h]; rfl
theorem ints_set {l : List Int} {k : Nat} {v : Int} : (ILs l).set k (.int v) = ILs (l.set k v) := List.map_set.symm
theorem small22 : ∀ n : Nat, n < 31 → Builtin.Range.small 2 (2 * ((n : Int) + 1)) 2 = true := by decide +kernel
theorem size22 : ∀ n : Nat, n < 31 → Builtin.Range.rangeSize 2 (2 * ((n : Int) + 1)) 2 = (n : Int) := by decide +kernel
theorem py22 : ∀ n : Nat, n < 31 → Builtin.divisionGoesByPylong (2 * ((n : Int) + 1) - 2) 2 = false := by decide +kernel
theorem lkS {σ : Loc} {x : Str} {i j : List Nat} (h : σ.lookup x = some (.str (txt i))) (e : i = j) : σ.lookup x = some (.str (txt j)) := e ▸ h
theorem lkM {σ : Loc} {x : Str} {a : Addr} {i j : List AV} (h : σ.lookup x = some (.mut a i)) (e : i = j) : σ.lookup x = some (.mut a j) := e ▸ h
theorem fill_JW3 : (hd.heap_39, PySem.Challenge.rw_jc0009_01) = (hd.heap_39, PySem.Challenge.rw_jc0009_01) := by
  k_fill
  exact rfl
theorem lev_v {w : World} {mg mb : Str → Option Value} {mean : ExcName → Option Value} (la lb : List Nat) (M : Int) (hla : la.length ≤ 30) (hlb : lb.length ≤ 30) (hca : ∀ x ∈ la, x < 128) (hcb : ∀ x ∈ lb, x < 128) :
    CtV w mg mb mean 70 2 [.str (txt la), .str (txt lb), .int M] (.int (lev la lb M)) := by
  k_dflt (refine' ctv_of [Str.ofString "a", Str.ofString "b", Str.ofString "max_cost"] ?ho ?hcd ?hD ?hb ?hln ?hl ?hnd ?km ?c1 ?c2 ?c3 ?c4; (case ho => k_is); (case hcd => k_is); (case hD => decide); (case hb => exact fun s => len3 fun _ _ _ => BindsTo.of_eq rfl); (case hln => rfl); (case hl => decide); (case hnd => decide); (case c1 => exact rfl); (case c2 => exact rfl); (case c3 => exact rfl); (case c4 => decide))
  intro dp un gd outer A₀ base g L ob h1 h2
  have d1 : dp + 1 < recursionLimit := by omega
  have d2 : un + 8 * 1 < cLine := by omega
  clear h1 h2
  have big : ∀ {n : Nat}, n ≤ 30 → n ≤ 1000000 := fun h => Nat.le_trans h (by decide)
  refine .cons (.ite (Ev.seq (Ev.name rfl) (Ev.name rfl)) (fun q => .cons (.ret Ev.cInt (by rw [lev, if_pos (txt_inj.mp (beq_iff_eq.mp q))]))) fun q => .nil ?_)
  have q : ¬ la = lb := fun h => (beq_eq_false_iff_ne.mp q) (txt_inj.mpr h)
  refine .cons (.asg Ev.cInt rfl (.cons (.while (α := Nat) (fun k => [(Str.ofString "pre", .int k), (Str.ofString "a", .str (txt la)), (Str.ofString "b", .str (txt lb)), (Str.ofString "max_cost", .int M)]) (fun k => k ≤ cpre la lb) (fun k => la.length - k)
    (fun k => !(la.drop k).isEmpty && (!(lb.drop k).isEmpty && (decide (la.getD k 0 = lb.getD k 0) && true))) 0 (Nat.zero_le _) (List.forall_mem_cons.mpr ⟨rfl, List.forall_mem_cons.mpr ⟨rfl, List.forall_mem_cons.mpr ⟨rfl, List.forall_mem_cons.mpr ⟨rfl, List.forall_mem_nil _⟩⟩⟩⟩)
    (fun k hk => .and (.cons (.txt (by rw [List.length_drop]; omega) (Ev.from (big hla) (Nat.le_trans hk (cpre_le_l _ _)) rfl (Ev.name rfl) (Ev.name rfl))) fun qa => .cons (.txt (by rw [List.length_drop]; omega) (Ev.from (big hlb) (Nat.le_trans hk (cpre_le_r _ _)) rfl (Ev.name rfl) (Ev.name rfl))) fun qb =>
      .cons (Ev.ceq (Ev.getD (big hla) (drop_on qa) (Ev.name rfl) (Ev.name rfl)) (Ev.getD (big hlb) (drop_on qb) (Ev.name rfl) (Ev.name rfl))) fun _ => .nil))
    (fun k hk qe => ?_) fun k hk qe => ?_)))
  · obtain ⟨qa, qb, qc⟩ := and3_on qe
    have hlt := cpre_lt hk (drop_on qa) (drop_on qb) (of_decide_eq_true qc)
    have := drop_on qa
    exact .cons (.addI rfl rfl Ev.cInt (.nil ⟨k + 1, hlt, by omega, List.forall_mem_cons.mpr ⟨rfl, List.forall_mem_cons.mpr ⟨rfl, List.forall_mem_cons.mpr ⟨rfl, List.forall_mem_cons.mpr ⟨rfl, List.forall_mem_nil _⟩⟩⟩⟩⟩))
  obtain rfl : k = cpre la lb := cpre_eq hk (by
    rcases and3_off qe with q | q | q
    · exact .inl (drop_off q)
    · exact .inr (.inl (drop_off q))
    · exact .inr (.inr (of_decide_eq_false q)))
  have hlev : lev la lb M = levT (cutR (cutL la lb) (cutL lb la)) (cutR (cutL lb la) (cutL la lb)) M := by rw [lev, if_neg q]
  obtain ⟨a1, ha1⟩ : ∃ x, la.drop (cpre la lb) = x := ⟨_, rfl⟩
  obtain ⟨b1, hb1⟩ : ∃ x, lb.drop (cpre la lb) = x := ⟨_, rfl⟩
  rw [show cutL la lb = a1 from ha1, show cutL lb la = b1 by rw [cutL, cpre_comm]; exact hb1] at hlev
  have hA1 : a1.length ≤ 30 := by rw [← ha1, List.length_drop]; omega
  have hB1 : b1.length ≤ 30 := by rw [← hb1, List.length_drop]; omega
  have hcA : ∀ x ∈ a1, x < 128 := fun x hx => hca x (List.mem_of_mem_drop (ha1 ▸ hx))
  have hcB : ∀ x ∈ b1, x < 128 := fun x hx => hcb x (List.mem_of_mem_drop (hb1 ▸ hx))
  have ea := cpre_le_l la lb
  have eb := cpre_le_r la lb
  refine .cons (.asg (Ev.from (big hla) ea ha1 (Ev.name rfl) (Ev.name rfl)) rfl (.cons (.asg (Ev.from (big hlb) eb hb1 (Ev.name rfl) (Ev.name rfl)) rfl (.cons (.asg Ev.cInt rfl (.cons (.cut (τ := [(Str.ofString "post", .int (-((csuf a1 b1 : Nat) : Int))), (Str.ofString "a", .str (txt a1)), (Str.ofString "b", .str (txt b1)), (Str.ofString "max_cost", .int M)]) ?_ ?_)))))))
  · clear hlev ha1 hb1 ea eb hk qe q hca hcb hla hlb d1 d2 hcA hcB
    have hs1 : csuf a1 b1 ≤ a1.length := by have := cpre_le_l a1.reverse b1.reverse; rwa [List.length_reverse] at this
    have hs2 : csuf a1 b1 ≤ b1.length := by have := cpre_le_r a1.reverse b1.reverse; rwa [List.length_reverse] at this
    refine .while (α := Nat) (fun j => [(Str.ofString "post", .int (-(j : Int))), (Str.ofString "a", .str (txt a1)), (Str.ofString "b", .str (txt b1)), (Str.ofString "max_cost", .int M)]) (fun j => j ≤ csuf a1 b1) (fun j => a1.length - j)
      (fun j => !(a1.take (a1.length - j)).isEmpty && (!(b1.take (b1.length - j)).isEmpty && (decide (a1.reverse.getD j 0 = b1.reverse.getD j 0) && true))) 0 (Nat.zero_le _) (List.forall_mem_cons.mpr ⟨rfl, List.forall_mem_cons.mpr ⟨rfl, List.forall_mem_cons.mpr ⟨rfl, List.forall_mem_cons.mpr ⟨rfl, List.forall_mem_nil _⟩⟩⟩⟩)
      (fun j hj => .and (.cons (.txt (Nat.le_trans (List.length_take_le _ _) (Nat.le_trans (Nat.sub_le _ _) (big hA1))) (Ev.upto (big hA1) (Nat.le_trans hj hs1) rfl (Ev.name rfl) (Ev.name rfl))) fun qa => .cons (.txt (Nat.le_trans (List.length_take_le _ _) (Nat.le_trans (Nat.sub_le _ _) (big hB1))) (Ev.upto (big hB1) (Nat.le_trans hj hs2) rfl (Ev.name rfl) (Ev.name rfl))) fun qb =>
        .cons (Ev.ceq (Ev.back (big hA1) (take_on qa) (Ev.name rfl) (Ev.sub (Ev.name rfl) Ev.cInt)) (Ev.back (big hB1) (take_on qb) (Ev.name rfl) (Ev.sub (Ev.name rfl) Ev.cInt))) fun _ => .nil))
      (fun j hj q => ?_) fun j hj q => ?_
    · obtain ⟨qa, qb, qc⟩ := and3_on q
      have la := take_on qa
      have hlt := cpre_lt (a := a1.reverse) (b := b1.reverse) hj (by rw [List.length_reverse]; exact la) (by rw [List.length_reverse]; exact take_on qb) (of_decide_eq_true qc)
      exact .cons (.subI rfl rfl Ev.cInt (.nil ⟨j + 1, hlt, by omega, List.forall_mem_cons.mpr ⟨lkI rfl (by clear hA1 hB1 hs1 hs2 hj hlt la; omega), List.forall_mem_cons.mpr ⟨rfl, List.forall_mem_cons.mpr ⟨rfl, List.forall_mem_cons.mpr ⟨rfl, List.forall_mem_nil _⟩⟩⟩⟩⟩))
    · obtain rfl : j = csuf a1 b1 := cpre_eq hj (by
        rcases and3_off q with q | q | q
        · exact .inl (by rw [List.length_reverse]; exact take_off q)
        · exact .inr (.inl (by rw [List.length_reverse]; exact take_off q))
        · exact .inr (.inr (of_decide_eq_false q)))
      exact List.forall_mem_cons.mpr ⟨rfl, List.forall_mem_cons.mpr ⟨rfl, List.forall_mem_cons.mpr ⟨rfl, List.forall_mem_cons.mpr ⟨rfl, List.forall_mem_nil _⟩⟩⟩⟩
  clear ha1 hb1 ea eb hk qe q hca hcb hla hlb
  obtain ⟨a2, ha2⟩ : ∃ x, a1.take (a1.length - csuf a1 b1) = x := ⟨_, rfl⟩
  obtain ⟨b2, hb2⟩ : ∃ x, b1.take (b1.length - csuf a1 b1) = x := ⟨_, rfl⟩
  rw [show cutR a1 b1 = a2 from ha2, show cutR b1 a1 = b2 by rw [cutR, show csuf b1 a1 = csuf a1 b1 from cpre_comm _ _]; exact hb2] at hlev
  have hA2 : a2.length ≤ 30 := by rw [← ha2, List.length_take]; omega
  have hB2 : b2.length ≤ 30 := by rw [← hb2, List.length_take]; omega
  have hcA2 : ∀ x ∈ a2, x < 128 := fun x hx => hcA x (List.mem_of_mem_take (ha2 ▸ hx))
  have hcB2 : ∀ x ∈ b2, x < 128 := fun x hx => hcB x (List.mem_of_mem_take (hb2 ▸ hx))
  have hs1 : csuf a1 b1 ≤ a1.length := by have := cpre_le_l a1.reverse b1.reverse; rwa [List.length_reverse] at this
  have hs2 : csuf a1 b1 ≤ b1.length := by have := cpre_le_r a1.reverse b1.reverse; rwa [List.length_reverse] at this
  refine .cons (.asg (Ev.upto (big hA1) hs1 ha2 (Ev.name rfl) (Ev.name rfl)) rfl (.cons (.asg (Ev.upto (big hB1) hs2 hb2 (Ev.name rfl) (Ev.name rfl)) rfl (.cons (.ite (.or (.cons (.not (.txt (big hA2) (Ev.name rfl))) fun _ => .cons (.not (.txt (big hB2) (Ev.name rfl))) fun _ => .nil)) (fun z => ?_) fun z => .nil ?_)))))
  · have e1 : 2 * ((a2.length : Int) + b2.length) = lev la lb M := by
      rw [hlev, levT, if_pos]
      rw [Bool.or_false, Bool.not_not, Bool.not_not, Bool.or_eq_true, List.isEmpty_iff, List.isEmpty_iff] at z
      exact z
    exact .cons (.ret (Ev.mul (.of_left (intBits_le_64 (by decide) (by decide))) (Ev.globI rfl (by k_is)) (Ev.add (Ev.callB (Ev.built rfl (by k_is) rfl (by decide)) (.cons (Ev.name rfl) .nil) (Cv.lenT (big hA2))) (Ev.callB (Ev.built rfl (by k_is) rfl (by decide)) (.cons (Ev.name rfl) .nil) (Cv.lenT (big hB2))))) (congrArg AV.int e1))
  clear ha2 hb2 hs1 hs2 hA1 hB1 hcA hcB
  rw [Bool.or_false, Bool.not_not, Bool.not_not, Bool.or_eq_false_iff, List.isEmpty_eq_false_iff, List.isEmpty_eq_false_iff] at z
  rw [levT, if_neg (fun h => h.elim z.1 z.2)] at hlev
  refine .cons (.ite (.or (.cons (Ev.gt (Ev.callB (Ev.built rfl (by k_is) rfl (by decide)) (.cons (Ev.name rfl) .nil) (Cv.lenT (big hA2))) (Ev.globI rfl (by k_is))) fun _ => .cons (Ev.gt (Ev.callB (Ev.built rfl (by k_is) rfl (by decide)) (.cons (Ev.name rfl) .nil) (Cv.lenT (big hB2))) (Ev.globI rfl (by k_is))) fun _ => .nil)) (fun q => ?_) fun _ => .nil ?_)
  · rw [Bool.or_false, Bool.or_eq_true, decide_eq_true_eq, decide_eq_true_eq] at q
    exact absurd q (by omega)
  have hlev3 : lev la lb M = levS (if b2.length < a2.length then b2 else a2) (if b2.length < a2.length then a2 else b2) M := by rw [hlev]; split <;> rfl
  have hle : (if b2.length < a2.length then b2 else a2).length ≤ 30 ∧ (if b2.length < a2.length then a2 else b2).length ≤ 30 := by split <;> exact ⟨by assumption, by assumption⟩
  have hcs : (∀ x ∈ (if b2.length < a2.length then b2 else a2), x < 128) ∧ (∀ x ∈ (if b2.length < a2.length then a2 else b2), x < 128) := by split <;> exact ⟨by assumption, by assumption⟩
  obtain ⟨sa, hsa⟩ : ∃ x, (if b2.length < a2.length then b2 else a2) = x := ⟨_, rfl⟩
  obtain ⟨sb, hsb⟩ : ∃ x, (if b2.length < a2.length then a2 else b2) = x := ⟨_, rfl⟩
  rw [hsa, hsb] at hlev3 hle hcs
  refine .cons (.cut (τ := [(Str.ofString "a", .str (txt sa)), (Str.ofString "b", .str (txt sb)), (Str.ofString "max_cost", .int M)]) (.ite (Ev.lt (Ev.callB (Ev.built rfl (by k_is) rfl (by decide)) (.cons (Ev.name rfl) .nil) (Cv.lenT (big hB2))) (Ev.callB (Ev.built rfl (by k_is) rfl (by decide)) (.cons (Ev.name rfl) .nil) (Cv.lenT (big hA2)))) (fun q => ?_) fun q => ?_) ?_)
  · have q : b2.length < a2.length := Int.ofNat_lt.mp (of_decide_eq_true q)
    rw [if_pos q] at hsa hsb
    exact .cons (.swap (names := [Str.ofString "a", Str.ofString "b"]) (.cons (Ev.name rfl) (.cons (Ev.name rfl) .nil)) (Nat.le_of_ble_eq_true rfl) rfl (List.forall_mem_cons.mpr ⟨rfl, List.forall_mem_cons.mpr ⟨rfl, List.forall_mem_nil _⟩⟩) (.nil (List.forall_mem_cons.mpr ⟨lkS rfl hsa, List.forall_mem_cons.mpr ⟨lkS rfl hsb, List.forall_mem_cons.mpr ⟨rfl, List.forall_mem_nil _⟩⟩⟩)))
  · have q : ¬ b2.length < a2.length := fun h => of_decide_eq_false q (Int.ofNat_lt.mpr h)
    rw [if_neg q] at hsa hsb
    exact .nil (List.forall_mem_cons.mpr ⟨lkS rfl hsa, List.forall_mem_cons.mpr ⟨lkS rfl hsb, List.forall_mem_cons.mpr ⟨rfl, List.forall_mem_nil _⟩⟩⟩)
  clear hsa hsb hlev z hA2 hB2 hcA2 hcB2
  obtain ⟨hA, hB⟩ := hle
  obtain ⟨hca, hcb⟩ := hcs
  have two : ∀ {i : Int}, IntMulOk i 2 := fun {i} => .of_right (intBits_le_64 (by decide) (by decide))
  have two' : ∀ {i : Int}, IntMulOk 2 i := fun {i} => .of_left (intBits_le_64 (by decide) (by decide))
  refine .cons (.ite (Ev.gt (Ev.mul two (Ev.sub (Ev.callB (Ev.built rfl (by k_is) rfl (by decide)) (.cons (Ev.name rfl) .nil) (Cv.lenT (big hB))) (Ev.callB (Ev.built rfl (by k_is) rfl (by decide)) (.cons (Ev.name rfl) .nil) (Cv.lenT (big hA)))) (Ev.globI rfl (by k_is))) (Ev.name rfl)) (fun q => ?_) fun q => .nil ?_)
  · exact .cons (.ret (Ev.add (Ev.name rfl) Ev.cInt) (congrArg AV.int (by rw [hlev3, levS, if_pos (of_decide_eq_true q)])))
  rw [levS, if_neg (of_decide_eq_false q)] at hlev3
  clear q
  refine .new (EvNew.range (n := sa.length) (Ev.built rfl (by k_is) rfl (by decide)) (Ev.built rfl (by k_is) rfl (by decide)) (Ev.globI rfl (by k_is)) (Ev.mul two' (Ev.globI rfl (by k_is)) (Ev.add (Ev.callB (Ev.built rfl (by k_is) rfl (by decide)) (.cons (Ev.name rfl) .nil) (Cv.lenT (big hA))) Ev.cInt)) (Ev.globI rfl (by k_is)) (by decide)
    (small22 _ (Nat.lt_succ_of_le hA)) (size22 _ (Nat.lt_succ_of_le hA)) (Nat.le_trans hA (by decide)) (py22 _ (Nat.lt_succ_of_le hA))) rfl fun r _ => ?_
  refine .cons (.asg Ev.cInt rfl (.cons (.for (α := List Int × Int) (fun c => [(Str.ofString "row", .mut r (ILs c.1)), (Str.ofString "result", .int c.2), (Str.ofString "a", .str (txt sa)), (Str.ofString "b", .str (txt sb)), (Str.ofString "max_cost", .int M)])
    (fun i c => c.1.length = sa.length ∧ lev la lb M = levD sa sb M (sb.length - i) i c.1 c.2) (row0 sa.length, 0) (It.range (k := sb.length) rfl (big hB) (Ev.built rfl (by k_is) rfl (by decide)) (Ev.callB (Ev.built rfl (by k_is) rfl (by decide)) (.cons (Ev.name rfl) .nil) (Cv.lenT (big hB)))) rfl
    ⟨by rw [row0, List.length_map, List.length_range], hlev3⟩ (List.forall_mem_cons.mpr ⟨lkM rfl (by show _ = List.map _ (List.map _ _); rw [List.map_map]; rfl), List.forall_mem_cons.mpr ⟨rfl, List.forall_mem_cons.mpr ⟨rfl, List.forall_mem_cons.mpr ⟨rfl, List.forall_mem_cons.mpr ⟨rfl, List.forall_mem_nil _⟩⟩⟩⟩⟩) rng_rv ?_ ?_)))
  · clear hlev3
    rintro ob' i ⟨row, res⟩ w ⟨hl, hlv⟩ hw
    obtain ⟨hi, rfl⟩ := rng_at hw
    clear hw
    obtain ⟨bc, hbc⟩ : ∃ bc, sb.getD i 0 = bc := ⟨_, rfl⟩
    have hbc' : bc < 128 := by
      rw [← hbc, List.getD_eq_getElem?_getD, List.getElem?_eq_getElem hi]
      exact hcb _ (List.getElem_mem _)
    rw [show sb.length - i = (sb.length - (i + 1)) + 1 by omega, levD, hbc] at hlv
    refine .cons (.asg (hbc ▸ Ev.getD (big hB) hi (Ev.name rfl) (Ev.name rfl)) rfl (.cons (.asg2 (Ev.mul two (Ev.name rfl) (Ev.globI rfl (by k_is))) rfl rfl (.cons (.asg Ev.cInt rfl (.cons (.for (α := IS) (fun S => [(Str.ofString "row", .mut r (ILs S.row)), (Str.ofString "result", .int S.r), (Str.ofString "distance", .int S.d), (Str.ofString "minimum", .int S.mn), (Str.ofString "bchar", .str (ch bc)), (Str.ofString "a", .str (txt sa)), (Str.ofString "b", .str (txt sb)), (Str.ofString "max_cost", .int M)])
      (fun x S => S.row.length = sa.length ∧ irun bc sa sa.length 0 ⟨row, (i : Int) * 2, (i : Int) * 2, maxS⟩ = irun bc sa (sa.length - x) x S) ⟨row, (i : Int) * 2, (i : Int) * 2, maxS⟩ (It.range (k := sa.length) rfl (big hA) (Ev.built rfl (by k_is) rfl (by decide)) (Ev.callB (Ev.built rfl (by k_is) rfl (by decide)) (.cons (Ev.name rfl) .nil) (Cv.lenT (big hA)))) rfl
      ⟨hl, rfl⟩ (List.forall_mem_cons.mpr ⟨rfl, List.forall_mem_cons.mpr ⟨rfl, List.forall_mem_cons.mpr ⟨rfl, List.forall_mem_cons.mpr ⟨rfl, List.forall_mem_cons.mpr ⟨rfl, List.forall_mem_cons.mpr ⟨rfl, List.forall_mem_cons.mpr ⟨rfl, List.forall_mem_cons.mpr ⟨rfl, List.forall_mem_nil _⟩⟩⟩⟩⟩⟩⟩⟩) rng_rv ?_ ?_)))))))
    · clear hlv hl hcb hB
      rintro ob'' x S w ⟨hl, hrun⟩ hw
      obtain ⟨hx, rfl⟩ := rng_at hw
      clear hw
      have hac : sa.getD x 0 < 128 := by
        rw [List.getD_eq_getElem?_getD, List.getElem?_eq_getElem hx]
        exact hca _ (List.getElem_mem _)
      have hxr : x < S.row.length := hl.symm ▸ hx
      have hx62 : (x : Int) < 2 ^ 63 := by clear hl hi hrun hac hbc' hxr d1 d2; omega
      have erun : irun bc sa (sa.length - x) x S = irun bc sa (sa.length - (x + 1)) (x + 1) (istep bc sa S x) := by
        rw [show sa.length - x = (sa.length - (x + 1)) + 1 by omega]; rfl
      have elen : (istep bc sa S x).row.length = sa.length := (List.length_set ..).trans hl
      refine .cons (.asg (Ev.add (Ev.name rfl) (Ev.callF (Ev.glob rfl (by k_is)) (by k_is) (.cons (Ev.name rfl) (.cons (Ev.getD (big hA) hx (Ev.name rfl) (Ev.name rfl)) .nil)) (subst_v bc (sa.getD x 0) hbc' hac _ rfl rfl rfl rfl d1 d2))) rfl
        (.cons (.asg (Ev.itemM rfl (Ev.name rfl) (Int.natCast_nonneg _) hx62 (ints_at hxr)) rfl
        (.cons (.asg (Ev.add (Ev.callB (Ev.built rfl (by k_is) rfl (by decide)) (.cons (Ev.name rfl) (.cons (Ev.name rfl) .nil)) Cv.min2) (Ev.globI rfl (by k_is))) rfl
        (.cons (.asg (Ev.callB (Ev.built rfl (by k_is) rfl (by decide)) (.cons (Ev.name rfl) (.cons (Ev.name rfl) .nil)) Cv.min2) rfl
        (.cons (.setI rfl (Ev.name rfl) (Ev.name rfl) (Int.natCast_nonneg _) hx62 (by rw [List.length_map]; exact Int.ofNat_lt.mpr hxr)
        (.cons (.ite (Ev.lt (Ev.name rfl) (Ev.name rfl)) (fun q => ?_) fun q => ?_)))))))))))
      · exact .cons (.asg (Ev.name rfl) rfl (.nil (.nil ⟨istep bc sa S x, ⟨elen, hrun.trans erun⟩, List.forall_mem_cons.mpr ⟨lkM rfl ints_set, List.forall_mem_cons.mpr ⟨rfl, List.forall_mem_cons.mpr ⟨rfl, List.forall_mem_cons.mpr ⟨lkI rfl (if_pos (of_decide_eq_true q)).symm, List.forall_mem_cons.mpr ⟨rfl, List.forall_mem_cons.mpr ⟨rfl, List.forall_mem_cons.mpr ⟨rfl, List.forall_mem_cons.mpr ⟨rfl, List.forall_mem_nil _⟩⟩⟩⟩⟩⟩⟩⟩⟩)))
      · exact .nil (.nil ⟨istep bc sa S x, ⟨elen, hrun.trans erun⟩, List.forall_mem_cons.mpr ⟨lkM rfl ints_set, List.forall_mem_cons.mpr ⟨rfl, List.forall_mem_cons.mpr ⟨rfl, List.forall_mem_cons.mpr ⟨lkI rfl (if_neg (of_decide_eq_false q)).symm, List.forall_mem_cons.mpr ⟨rfl, List.forall_mem_cons.mpr ⟨rfl, List.forall_mem_cons.mpr ⟨rfl, List.forall_mem_cons.mpr ⟨rfl, List.forall_mem_nil _⟩⟩⟩⟩⟩⟩⟩⟩⟩)
    · rintro S ⟨hl', hrun⟩
      rw [rng_len, Nat.sub_self] at hrun
      rw [hrun] at hlv
      refine .cons (.ite (Ev.gt (Ev.name rfl) (Ev.name rfl)) (fun q => .cons (.ret (Ev.add (Ev.name rfl) Ev.cInt) (congrArg AV.int ?_))) fun q => .nil (.nil ⟨(S.row, S.r), ⟨hl', ?_⟩, List.forall_mem_cons.mpr ⟨rfl, List.forall_mem_cons.mpr ⟨rfl, List.forall_mem_cons.mpr ⟨rfl, List.forall_mem_cons.mpr ⟨rfl, List.forall_mem_cons.mpr ⟨rfl, List.forall_mem_nil _⟩⟩⟩⟩⟩⟩))
      · exact (hlv.trans (if_pos (of_decide_eq_true q))).symm
      · exact hlv.trans (if_neg (of_decide_eq_false q))
  · rintro ⟨row, res⟩ ⟨hl, hlv⟩
    rw [rng_len, Nat.sub_self] at hlv
    exact .cons (.ret (Ev.name rfl) (congrArg AV.int hlv.symm))
end Mine
end
section
open PySem PySem.W PyProof.Rows PySem.Calls PySem.Spec
set_option maxRecDepth 100000
set_option maxHeartbeats 4000000
namespace Mine
theorem zw_some {α β γ : Type} {f : α → β → γ} {l : List α} {m : List β} {i : Nat} {w : γ} (h : (List.zipWith f l m)[i]? = some w) : ∃ a b, l[i]? = some a ∧ m[i]? = some b ∧ w = f a b := by
  rw [List.getElem?_zipWith] at h
  cases ha : l[i]? with
  | none => rw [ha] at h; cases h
  | some a =>
    cases hb : m[i]? with
    | none => rw [ha, hb] at h; cases h
    | some b => rw [ha, hb] at h; cases h; exact ⟨a, b, rfl, rfl, rfl⟩
theorem map_some' {α β : Type} {f : α → β} {l : List α} {i : Nat} {w : β} (h : (l.map f)[i]? = some w) : ∃ a, l[i]? = some a ∧ w = f a := by
  rw [List.getElem?_map] at h
  cases ha : l[i]? with
  | none => rw [ha] at h; cases h
  | some a => rw [ha] at h; cases h; exact ⟨a, rfl, rfl⟩
/-- four lines -/
noncomputable def linesL (bs : List Nat) (cs : List Nat) : List AV := List.zipWith (fun b c => AV.str (lineS b c)) bs cs
noncomputable def abde : List Nat := [97, 98, 100, 101]
theorem fill_JW4 : (hd.heap_39, PySem.Challenge.rw_jc0009_01) = (hd.heap_39, PySem.Challenge.rw_jc0009_01) := by
  k_fill
  exact rfl
theorem lines_v {w : World} {mg mb : Str → Option Value} {mean : ExcName → Option Value} (bs : List Nat) (hl4 : bs.length ≤ 4) (hb : ∀ b ∈ bs, b ≤ 12) : CtV w mg mb mean 89 2 [.list (bs.map fun b => .int (b : Nat))] (.list (linesL bs abde)) := by
  k_dflt (refine' ctv_of [Str.ofString "row"] ?ho ?hcd ?hD ?hb ?hln ?hl ?hnd ?km ?c1 ?c2 ?c3 ?c4; (case ho => k_is); (case hcd => k_is); (case hD => decide); (case hb => exact fun s => len1 fun _ => BindsTo.of_eq rfl); (case hln => rfl); (case hl => decide); (case hnd => decide); (case c1 => exact rfl); (case c2 => exact rfl); (case c3 => exact rfl); (case c4 => decide))
  intro dp un gd outer A₀ base g L ob h1 h2
  refine .cons (.ret (Ev.compL (ct := none) (os := (linesL bs abde).map some) rfl (by with_unfolding_all rfl) (It.zipS (cs := abde) (Ev.built rfl (by k_is) rfl (by decide)) (Ev.name rfl) Ev.cStr (by decide +kernel)) rfl (by decide) (by decide) ?_ ?_ ?_) ?_)
  · rw [List.length_zipWith, List.length_map, List.length_map]; exact Nat.le_trans (Nat.min_le_left _ _) (Nat.le_trans hl4 (by decide))
  · rw [List.length_map, linesL, List.length_zipWith, List.length_zipWith, List.length_map, List.length_map]
  · intro K ob' i w' o hw ho
    obtain ⟨u, v, hu, hv, rfl⟩ := zw_some hw
    obtain ⟨b, hb', rfl⟩ := map_some' hu
    obtain ⟨c, hc', rfl⟩ := map_some' hv
    obtain ⟨r, hr, rfl⟩ := map_some' ho
    obtain ⟨b2, c2, e1, e2, rfl⟩ := zw_some hr
    rw [hb'] at e1; cases e1
    rw [hc'] at e2; cases e2
    exact ⟨_, Binds.pair rfl rfl rfl (by decide), _, rfl, Ev.callF (Ev.globC rfl rfl (by k_is)) (by k_is) (.cons (Ev.nameC rfl rfl rfl) (.cons (Ev.nameC rfl rfl rfl) .nil)) (line_v b c (hb _ (List.mem_of_getElem? hb')) ((by decide : ∀ c ∈ abde, c < 128) c (List.mem_of_getElem? hc')) _ rfl rfl rfl rfl (by simp only [Pf.el, Pf.fn] at *; omega) (by simp only [Pf.el, Pf.fn] at *; omega))⟩
  · rw [all_some]
end Mine
end
section
open PySem PySem.W PyProof.Rows PySem.Calls PySem.Spec
set_option maxRecDepth 100000
set_option maxHeartbeats 4000000
namespace Mine
theorem lineL_lt {b c : Nat} (hc : c < 128) : ∀ x ∈ lineL b c, x < 128 := fun x hx => by
  rcases List.mem_append.mp hx with h | h
  · rw [(List.mem_replicate.mp h).2]; decide
  · rcases List.mem_cons.mp h with rfl | h
    · exact hc
    · rw [(List.mem_replicate.mp h).2]; decide
theorem lev_lines_v {w : World} {mg mb : Str → Option Value} {mean : ExcName → Option Value} (a b c d : Nat) (M : Int) (ha : a ≤ 12) (hb : b ≤ 12) (hc : c < 128) (hd : d < 128) : CtV w mg mb mean 70 2 [.str (lineS a c), .str (lineS b d), .int M] (.int (lev (lineL a c) (lineL b d) M)) :=
  lev_v _ _ M (by rw [length_lineL]; omega) (by rw [length_lineL]; omega) (lineL_lt hc) (lineL_lt hd)
theorem lev_all' : ∀ b, b < 13 → ∀ c, c ∈ abde → lev (lineL (b - takeN b (-1)) c) (lineL b c) (2 * ((b + 1 : Nat) : Int) - 2) = 2 * ((b : Nat) : Int) := by
  decide +kernel
theorem abde_lt : ∀ c ∈ abde, c < 128 ∧ c ≠ 32 := by decide
theorem levw_v {w : World} {mg mb : Str → Option Value} {mean : ExcName → Option Value} (b c : Nat) (hb : b ≤ 12) (hc : c ∈ abde) : CtV w mg mb mean 70 2 [.str (lineS (b - takeN b (-1)) c), .str (lineS b c), .int (2 * ((b + 1 : Nat) : Int) - 2)] (.int (2 * ((b : Nat) : Int))) := by
  rw [← lev_all' b (Nat.lt_succ_of_le hb) c hc]
  exact lev_lines_v _ b c c _ (Nat.le_trans (Nat.sub_le _ _) hb) hb (abde_lt c hc).1 (abde_lt c hc).1
theorem linesL_at {bs : List Nat} {i : Nat} {w : AV} (h : (linesL bs abde)[i]? = some w) : ∃ b c, bs[i]? = some b ∧ c ∈ abde ∧ w = .str (lineS b c) :=
  let ⟨b, c, e1, e2, e⟩ := zw_some h; ⟨b, c, e1, List.mem_of_getElem? e2, e⟩
theorem linesL_len {bs : List Nat} (h : bs.length ≤ 4) : (linesL bs abde).length = bs.length := by
  rw [linesL, List.length_zipWith]; exact Nat.min_eq_left h
theorem fill_JW5 : (hd.heap_39, PySem.Challenge.rw_jc0009_01) = (hd.heap_39, PySem.Challenge.rw_jc0009_01) := by
  k_fill
  exact rfl
theorem weights_v {w : World} {mg mb : Str → Option Value} {mean : ExcName → Option Value} (bs : List Nat) (hl4 : bs.length ≤ 4) (hb : ∀ b ∈ bs, b ≤ 12) : CtV w mg mb mean 108 4 [.list (linesL bs abde)] (.list (bs.map fun b => .int (2 * ((b : Nat) : Int)))) := by
  k_dflt (refine' ctv_of [Str.ofString "lines"] ?ho ?hcd ?hD ?hb ?hln ?hl ?hnd ?km ?c1 ?c2 ?c3 ?c4; (case ho => k_is); (case hcd => k_is); (case hD => decide); (case hb => exact fun s => len1 fun _ => BindsTo.of_eq rfl); (case hln => rfl); (case hl => decide); (case hnd => decide); (case c1 => exact rfl); (case c2 => exact rfl); (case c3 => exact rfl); (case c4 => decide))
  intro dp un gd outer A₀ base g L ob h1 h2
  have d1 : dp + 1 < recursionLimit := by omega
  have d2 : un + 8 * 1 < cLine := by omega
  have d3 : dp + 2 < recursionLimit := by omega
  have d4 : un + 8 * 2 < cLine := by omega
  clear h1 h2
  refine .cons (.ret (Ev.compL (ct := none) (os := (bs.map fun b => AV.int (2 * ((b : Nat) : Int))).map some) rfl (by with_unfolding_all rfl) (It.list (Ev.name rfl)) rfl (by decide) (by decide) ?_ ?_ ?_) ?_)
  · rw [linesL_len hl4]; exact Nat.le_trans hl4 (by decide)
  · rw [List.length_map, List.length_map, linesL_len hl4]
  · intro K ob' i w' o hw ho
    obtain ⟨b, c, hb', hc, rfl⟩ := linesL_at hw
    obtain ⟨r, hr, rfl⟩ := map_some' ho
    obtain ⟨b2, e1, rfl⟩ := map_some' hr
    rw [hb'] at e1; cases e1
    have hb12 := hb _ (List.mem_of_getElem? hb')
    have hlen : (lineS b c).length = b + 1 := by rw [show lineS b c = txt (lineL b c) from rfl, len_txt, length_lineL]
    exact ⟨_, Binds.name rfl rfl fun _ _ _ h => h, _, rfl, Ev.callF (Ev.globC rfl rfl (by k_is)) (by k_is) (.cons (Ev.callF (Ev.globC rfl rfl (by k_is)) (by k_is) (.cons (Ev.nameC rfl rfl rfl) (.cons (Ev.neg Ev.cInt) .nil)) (strip_v b c (-1) hb12 (abde_lt c hc).1 (abde_lt c hc).2 _ rfl rfl rfl rfl d1 d2)) (.cons (Ev.nameC rfl rfl rfl)
      (.cons (Ev.sub (Ev.mul (.of_left (intBits_le_64 (by decide) (by decide))) Ev.cInt (Ev.callB (Ev.builtC rfl rfl (by k_is) rfl (by decide)) (.cons (Ev.nameC rfl rfl rfl) .nil) (hlen ▸ Cv.lenS (x := lineS b c) (by rw [hlen]; omega)))) Ev.cInt) .nil))) (levw_v b c hb12 hc _ rfl rfl rfl rfl d3 d4)⟩
  · rw [all_some]
end Mine
end
section
open PySem PySem.W PyProof.Rows PySem.Calls PySem.Spec
set_option maxRecDepth 100000
set_option maxHeartbeats 4000000
namespace Mine
noncomputable def ltr (k : Nat) : Nat := abde.getD k 97
noncomputable def farN (a b : Nat) : Int := 2 + 2 * ((a - b : Nat) + (b - a : Nat))
noncomputable def farOk (a b i j : Nat) : Bool := lev (lineL a (ltr i)) (lineL b (ltr j)) 40 == farN a b && lev (lineL a (ltr i)) (lineL b (ltr j)) (farN a b - 2) == farN a b - 1
theorem far_all : ((List.range 4).all fun j => (List.range j).all fun i => (List.range 13).all fun a => (List.range (13 - a)).all fun b => farOk a b i j) = true := by decide +kernel
theorem far_ok {a b i j : Nat} (hij : i < j) (hj : j < 4) (h : a + b ≤ 12) : lev (lineL a (ltr i)) (lineL b (ltr j)) 40 = farN a b ∧ lev (lineL a (ltr i)) (lineL b (ltr j)) (farN a b - 2) = farN a b - 1 := by
  have e := far_all
  rw [List.all_eq_true] at e
  have e := e j (List.mem_range.mpr hj)
  rw [List.all_eq_true] at e
  have e := e i (List.mem_range.mpr hij)
  rw [List.all_eq_true] at e
  have e := e a (List.mem_range.mpr (by omega))
  rw [List.all_eq_true] at e
  have e := e b (List.mem_range.mpr (by omega))
  unfold farOk at e
  rw [Bool.and_eq_true, beq_iff_eq, beq_iff_eq] at e
  exact e
theorem ltr_lt {k : Nat} (h : k < 4) : ltr k < 128 := (by decide : ∀ k, k < 4 → ltr k < 128) k h
theorem linesL_get {bs : List Nat} {k : Nat} (h4 : bs.length = 4) (hk : k < 4) : (linesL bs abde)[k]? = some (.str (lineS (bs.getD k 0) (ltr k))) := by
  have h1 : bs[k]? = some (bs.getD k 0) := by rw [List.getD_eq_getElem?_getD, List.getElem?_eq_getElem (h4 ▸ hk)]; rfl
  have h2 : abde[k]? = some (ltr k) := by rw [ltr, List.getD_eq_getElem?_getD, List.getElem?_eq_getElem (show k < abde.length from hk)]; rfl
  rw [linesL, List.getElem?_zipWith, h1, h2]
theorem pair_sum {bs : List Nat} {j k : Nat} (h : bs.sum ≤ 12) (hl : bs.length = 4) (hjk : j < k) (hk : k < 4) : bs.getD j 0 + bs.getD k 0 ≤ 12 := by
  match bs, hl with
  | [b0, b1, b2, b3], _ =>
    simp only [List.sum_cons, List.sum_nil] at h
    have hj' : j = 0 ∨ j = 1 ∨ j = 2 := by omega
    have hk' : k = 1 ∨ k = 2 ∨ k = 3 := by omega
    rcases hj' with rfl | rfl | rfl <;> rcases hk' with rfl | rfl | rfl <;> simp at hjk ⊢ <;> omega
/-- the distances to the lines before k -/
noncomputable def farT (bs : List Nat) (k j : Nat) : List Int := (List.range j).map fun j => farN (bs.getD j 0) (bs.getD k 0)
noncomputable def farS (bs : List Nat) (k : Nat) : List Int := (List.range k).flatMap fun k => farT bs k k
theorem farT_succ {bs : List Nat} {k j : Nat} : farT bs k (j + 1) = farT bs k j ++ [farN (bs.getD j 0) (bs.getD k 0)] := by rw [farT, List.range_succ, List.map_append]; rfl
theorem farS_succ {bs : List Nat} {k : Nat} : farS bs (k + 1) = farS bs k ++ farT bs k k := by rw [farS, List.range_succ, List.flatMap_append]; simp [farS]
theorem farT_len {bs : List Nat} {k j : Nat} : (farT bs k j).length = j := by rw [farT, List.length_map, List.length_range]
theorem farS_len {bs : List Nat} : ∀ k, k ≤ 4 → (farS bs k).length ≤ 4 * k
  | 0, _ => Nat.zero_le _
  | k + 1, h => by
    rw [farS_succ, List.length_append, farT_len]
    have := farS_len (bs := bs) k (Nat.le_of_succ_le h)
    omega
theorem fill_JW6 : (hd.heap_39, PySem.Challenge.rw_jc0009_01) = (hd.heap_39, PySem.Challenge.rw_jc0009_01) := by
  k_fill
  exact rfl
theorem apart_v {w : World} {mg mb : Str → Option Value} {mean : ExcName → Option Value} (bs : List Nat) (h4 : bs.length = 4) (hb : bs.sum ≤ 12) : CtV w mg mb mean 120 4 [.list (linesL bs abde)] (.list (ILs (farS bs 4))) := by
  k_dflt (refine' ctv_of [Str.ofString "lines"] ?ho ?hcd ?hD ?hb ?hln ?hl ?hnd ?km ?c1 ?c2 ?c3 ?c4; (case ho => k_is); (case hcd => k_is); (case hD => decide); (case hb => exact fun s => len1 fun _ => BindsTo.of_eq rfl); (case hln => rfl); (case hl => decide); (case hnd => decide); (case c1 => exact rfl); (case c2 => exact rfl); (case c3 => exact rfl); (case c4 => decide))
  intro dp un gd outer A₀ base g L ob h1 h2
  have d3 : dp + 2 < recursionLimit := by omega
  have d4 : un + 8 * 2 < cLine := by omega
  clear h1 h2
  refine .new (EvNew.disp .nil (by decide)) rfl fun r hr => ?_
  have gt : ∀ k, k < 4 → (linesL bs abde)[((k : Nat) : Int).toNat]? = some (.str (lineS (bs.getD k 0) (ltr k))) := fun k hk => linesL_get h4 hk
  have f62 : ∀ k, k < 4 → ((k : Nat) : Int) < 2 ^ 63 := fun k hk => Int.lt_of_lt_of_le (Int.ofNat_lt.mpr hk) (by decide)
  have far40 : ∀ (mg mb : Str → Option Value) (mean : ExcName → Option Value) (j k : Nat), j < k → k < 4 → CtV w mg mb mean 70 2 [.str (lineS (bs.getD j 0) (ltr j)), .str (lineS (bs.getD k 0) (ltr k)), .int 40] (.int (farN (bs.getD j 0) (bs.getD k 0))) := fun mg mb mean j k hjk hk => by
    have hs := pair_sum hb h4 hjk hk
    rw [← (far_ok hjk hk hs).1]
    exact lev_lines_v _ _ _ _ _ (by omega) (by omega) (ltr_lt (Nat.lt_trans hjk hk)) (ltr_lt hk)
  have farM : ∀ (mg mb : Str → Option Value) (mean : ExcName → Option Value) (j k : Nat), j < k → k < 4 → CtV w mg mb mean 70 2 [.str (lineS (bs.getD j 0) (ltr j)), .str (lineS (bs.getD k 0) (ltr k)), .int (farN (bs.getD j 0) (bs.getD k 0) - 2)] (.int (farN (bs.getD j 0) (bs.getD k 0) - 1)) := fun mg mb mean j k hjk hk => by
    have hs := pair_sum hb h4 hjk hk
    rw [← (far_ok hjk hk hs).2]
    exact lev_lines_v _ _ _ _ _ (by omega) (by omega) (ltr_lt (Nat.lt_trans hjk hk)) (ltr_lt hk)
  clear hb
  refine .cons (.for (α := Nat) (fun k => [(Str.ofString "apart", .mut r (ILs (farS bs k))), (Str.ofString "lines", .list (linesL bs abde))]) (fun i k => k = i) 0 (It.range (k := 4) rfl (by decide) (Ev.built rfl (by k_is) rfl (by decide)) Ev.cInt) rfl rfl (List.forall_mem_cons.mpr ⟨rfl, List.forall_mem_cons.mpr ⟨rfl, List.forall_mem_nil _⟩⟩) rng_rv ?_ ?_)
  · rintro ob' _ k w rfl hw
    obtain ⟨hk, rfl⟩ := rng_at hw
    clear hw
    refine .cons (.for (α := Nat) (fun j => [(Str.ofString "apart", .mut r (ILs (farS bs k ++ farT bs k j))), (Str.ofString "k", .int (k : Nat)), (Str.ofString "lines", .list (linesL bs abde))]) (fun i j => j = i) 0 (It.range (k := k) rfl (Nat.le_trans (Nat.le_of_lt hk) (by decide)) (Ev.built rfl (by k_is) rfl (by decide)) (Ev.name rfl)) rfl rfl (List.forall_mem_cons.mpr ⟨lkM rfl (by rw [show farT bs k 0 = [] from rfl, List.append_nil]), List.forall_mem_cons.mpr ⟨rfl, List.forall_mem_cons.mpr ⟨rfl, List.forall_mem_nil _⟩⟩⟩) rng_rv ?_ ?_)
    · rintro ob'' _ j w rfl hw
      obtain ⟨hj, rfl⟩ := rng_at hw
      clear hw
      have hj4 := Nat.lt_trans hj hk
      refine .cons (.asg (Ev.callF (Ev.glob rfl (by k_is)) (by k_is) (.cons (Ev.itemL (Ev.name rfl) (Ev.name rfl) (Int.natCast_nonneg _) (f62 j hj4) (gt j hj4)) (.cons (Ev.itemL (Ev.name rfl) (Ev.name rfl) (Int.natCast_nonneg _) (f62 k hk) (gt k hk)) (.cons Ev.cInt .nil))) (far40 _ _ _ j k hj hk _ rfl rfl rfl rfl d3 d4)) rfl
        (.cons (.ite (.or (.cons (Ev.isNotT (Ev.callT (Ev.built rfl (by k_is) rfl (by decide)) (.cons (Ev.name rfl) .nil) Cv.tyInt) (Ev.built rfl (by k_is) rfl (by decide))) fun _ => .cons (Ev.ne (Ev.callF (Ev.glob rfl (by k_is)) (by k_is) (.cons (Ev.itemL (Ev.name rfl) (Ev.name rfl) (Int.natCast_nonneg _) (f62 j hj4) (gt j hj4)) (.cons (Ev.itemL (Ev.name rfl) (Ev.name rfl) (Int.natCast_nonneg _) (f62 k hk) (gt k hk)) (.cons (Ev.sub (Ev.name rfl) Ev.cInt) .nil))) (farM _ _ _ j k hj hk _ rfl rfl rfl rfl d3 d4)) (Ev.sub (Ev.name rfl) Ev.cInt)) fun _ => .nil)) (fun q => ?_) fun _ => .nil (.cons (.app rfl (Ev.name rfl) ?_ (.nil ⟨j + 1, rfl, List.forall_mem_cons.mpr ⟨lkM rfl ?_, List.forall_mem_cons.mpr ⟨rfl, List.forall_mem_cons.mpr ⟨rfl, List.forall_mem_nil _⟩⟩⟩⟩))))))
      · exact absurd q (by rw [Bool.false_or, Bool.or_false, bne_self_eq_false]; exact Bool.false_ne_true)
      · rw [List.length_map, List.length_append, farT_len]
        have := farS_len (bs := bs) k (Nat.le_of_lt hk)
        omega
      · rw [farT_succ, ← List.append_assoc, ILs, ILs, List.map_append (l₂ := [_])]; rfl
    · rintro j rfl
      rw [rng_len]
      exact .nil ⟨k + 1, rfl, List.forall_mem_cons.mpr ⟨lkM rfl (by rw [farS_succ]), List.forall_mem_cons.mpr ⟨rfl, List.forall_mem_nil _⟩⟩⟩
  · rintro k rfl
    exact .cons (.retM rfl hr rfl)
end Mine
end
section
open PySem PySem.W PyProof.Rows PySem.Calls PySem.Spec
set_option maxRecDepth 100000
set_option maxHeartbeats 4000000
namespace Mine
noncomputable def ABDE : List Nat := [65, 66, 68, 69]
noncomputable def awayN (b n : Nat) : Int := 1 + 2 * (((b - n : Nat) : Int) + ((n - b : Nat) : Int))
theorem away_all : ∀ b, b < 13 → ∀ n, n < 4 → ∀ i, i < 4 → lev (lineL b (abde.getD i 0)) (lineL n (ABDE.getD i 0)) 40 = awayN b n := by decide +kernel
theorem away_v {w : World} {mg mb : Str → Option Value} {mean : ExcName → Option Value} {b n i c d : Nat} (hb : b ≤ 12) (hn : n ≤ 3) (hc : abde[i]? = some c) (hd : ABDE[i]? = some d) : CtV w mg mb mean 70 2 [.str (lineS b c), .str (lineS n d), .int 40] (.int (awayN b n)) := by
  have hi : i < 4 := (List.getElem?_eq_some_iff.mp hc).1
  have e := away_all b (Nat.lt_succ_of_le hb) n (Nat.lt_succ_of_le hn) i hi
  rw [List.getD_eq_getElem?_getD, hc, List.getD_eq_getElem?_getD, hd] at e
  rw [← e]
  exact lev_lines_v _ _ _ _ _ hb (Nat.le_trans hn (by decide)) (abde_lt c (List.mem_of_getElem? hc)).1 ((by decide : ∀ d ∈ ABDE, d < 128) d (List.mem_of_getElem? hd))
noncomputable def leftS (bs : List Nat) (n : Nat) : Int := (bs.map fun b => ((b - n : Nat) : Int)).sum
theorem away_sum (n : Nat) : ∀ bs : List Nat, (bs.map fun b => awayN b n).sum = 4 * leftS bs n + (bs.length : Int) * (1 + 2 * n) - 2 * (bs.sum : Nat)
  | [] => by simp [leftS]
  | b :: bs => by
    have ih := away_sum n bs
    simp only [leftS, List.map_cons, List.sum_cons, List.length_cons] at ih ⊢
    rw [ih, awayN]
    have h1 : ((n - b : Nat) : Int) = n + ((b - n : Nat) : Int) - b := by omega
    rw [h1, Int.natCast_add, Int.natCast_add, Int.add_mul]
    omega
theorem takeN_nat {b n : Nat} : b - takeN b (n : Int) = b - n := by
  unfold takeN
  rw [if_neg (by omega), Int.toNat_natCast]
  omega
theorem fill_JW7 : (hd.heap_39, PySem.Challenge.rw_jc0009_01) = (hd.heap_39, PySem.Challenge.rw_jc0009_01) := by
  k_fill
  exact rfl
theorem judged_v {w : World} {mg mb : Str → Option Value} {mean : ExcName → Option Value} (bs : List Nat) (f0 f1 f2 f3 f4 : Int) (ts : List Nat) (h4 : bs.length = 4) (hsum : bs.sum ≤ 12) (hb : ∀ b ∈ bs, b ≤ 12) (hts : ∀ t ∈ ts, t ≤ 3)
    (H1 : (farS bs 4).sum = 2 * (f1 + f2 + f3) - 3 * f4 + 12) (H3 : f4 = 2 * (bs.sum : Nat)) (H2 : ∀ n : Nat, n ≤ 3 → MaxIs ((List.range 5).map fun k => [f0, f1, f2, f3, f4].getD k 0 - 2 * (k : Nat) * n) (2 * leftS bs n)) :
    CtV w mg mb mean 125 20 [.list (linesL bs abde), .list (ILs [f0, f1, f2, f3, f4]), .list (ILs (ts.map fun t => ((t : Nat) : Int)))] (.bool true) := by
  k_dflt (refine' ctv_ofC [Str.ofString "lines", Str.ofString "front", Str.ofString "counts"] ?ho ?hcd ?hD ?hb ?hln ?hl ?hnd ?km ?c1 ?c2 ?c3; (case ho => k_is); (case hcd => k_is); (case hD => decide); (case hb => exact fun s => len3 fun _ _ _ => BindsTo.of_eq rfl); (case hln => rfl); (case hl => decide); (case hnd => decide); (case c1 => exact rfl); (case c2 => exact rfl); (case c3 => exact rfl))
  intro dp un gd outer A₀ base g L ob h1 h2
  have d1 : dp + 1 < recursionLimit := by omega
  have d2 : un + 8 * 1 < cLine := by omega
  have d3 : dp + 2 < recursionLimit := by omega
  have d4 : un + 8 * 2 < cLine := by omega
  have d5 : dp + 4 < recursionLimit := by omega
  have d6 : un + 8 * 4 < cLine := by omega
  have d7 : un + 64 < cLine := by omega
  clear h1 h2
  refine .cons (.ite (Ev.ne (Ev.callB (Ev.built rfl (by k_is) rfl (by decide)) (.cons (Ev.callF (Ev.glob rfl (by k_is)) (by k_is) (.cons (Ev.name rfl) .nil) (apart_v bs h4 hsum _ rfl rfl rfl rfl d5 d6)) .nil) Cv.sumL)
    (Ev.add (Ev.sub (Ev.mul (.of_left (intBits_le_64 (by decide) (by decide))) Ev.cInt (Ev.callB (Ev.built rfl (by k_is) rfl (by decide)) (.cons (Ev.partSS (Nat.le_of_ble_eq_true rfl) (Ev.name rfl) Ev.cInt Ev.cInt) .nil) (Cv.sumL (ns := [f1, f2, f3])))) (Ev.mul (.of_left (intBits_le_64 (by decide) (by decide))) Ev.cInt (Ev.itemL (Ev.name rfl) Ev.cInt (by decide) (by decide) rfl))) Ev.cInt)) (fun q => ?_) fun _ => .nil ?_)
  · rw [H1] at q
    exact absurd q (by simp [← Int.add_assoc])
  refine .cons (.for (α := Unit) (fun _ => [(Str.ofString "front", .list (ILs [f0, f1, f2, f3, f4])), (Str.ofString "lines", .list (linesL bs abde))]) (fun _ _ => True) () (It.list (Ev.name rfl)) rfl trivial (List.forall_mem_cons.mpr ⟨rfl, List.forall_mem_cons.mpr ⟨rfl, List.forall_mem_nil _⟩⟩) ?_ ?_ ?_)
  · intro w hw h bad v iv
    obtain ⟨i, _, rfl⟩ := List.mem_map.mp hw
    exact iv
  · rintro ob' i _ w - hw
    obtain ⟨t, ht, rfl⟩ := map_at hw
    obtain ⟨n, hn', rfl⟩ := map_at ht
    have hn := hts n (List.mem_of_getElem? hn')
    clear hw ht hn' H1
    refine .cons (.asg (Ev.callB (Ev.built rfl (by k_is) rfl (by decide)) (.cons (Ev.compA (vs := ILs (bs.map fun b => ((b - n : Nat) : Int))) (by with_unfolding_all rfl) (It.list (Ev.name rfl)) rfl (by decide) (by decide) ?_ ?_ ?_) .nil) Cv.sumL) rfl
      (.cons (.asgCompA (vs := ILs (bs.map fun b => awayN b n)) (by with_unfolding_all rfl) (It.zipS (cs := ABDE) (Ev.built rfl (by k_is) rfl (by decide)) (Ev.name rfl) Ev.cStr (by decide +kernel)) rfl (by decide) (by decide) rfl ?_ ?_ ?_
        (.cons (.ite (.or (.cons (Ev.ne (Ev.mul (.of_left (intBits_le_64 (by decide) (by decide))) Ev.cInt (Ev.name rfl)) (Ev.callB (Ev.built rfl (by k_is) rfl (by decide)) (.cons (Ev.compA (vs := ILs ((List.range 5).map fun k => [f0, f1, f2, f3, f4].getD k 0 - 2 * (k : Nat) * n)) (by with_unfolding_all rfl) (It.range (k := 5) rfl (by decide) (Ev.built rfl (by k_is) rfl (by decide)) Ev.cInt) rfl (by decide) (by decide) ?_ ?_ ?_) .nil) (Cv.maxL (H2 n hn)))) fun _ =>
          .cons (Ev.neL (ns := []) (ms := []) d7 (Ev.compN (by with_unfolding_all rfl) (It.list (Ev.name rfl)) rfl (by decide) (by decide) ?_ ?_) (EvNew.ev (EvNew.disp .nil (by decide)))) fun _ => .nil)) (fun q => ?_) fun _ => .nil
            (.cons (.ite (Ev.ne (Ev.callB (Ev.built rfl (by k_is) rfl (by decide)) (.cons (Ev.name rfl) .nil) Cv.sumL) (Ev.sub (Ev.add (Ev.add (Ev.mul (.of_left (intBits_le_64 (by decide) (by decide))) Ev.cInt (Ev.name rfl)) Ev.cInt) (Ev.mul (.of_left (intBits_le_64 (by decide) (by decide))) Ev.cInt (Ev.name rfl))) (Ev.itemL (Ev.name rfl) Ev.cInt (by decide) (by decide) rfl))) (fun q => ?_) fun _ => .nil (.nil ⟨(), trivial, List.forall_mem_cons.mpr ⟨rfl, List.forall_mem_cons.mpr ⟨rfl, List.forall_mem_nil _⟩⟩⟩))))))))
    · rw [linesL_len (Nat.le_of_eq h4), h4]; decide
    · rw [List.length_map, List.length_map, linesL_len (Nat.le_of_eq h4)]
    · intro K ob'' j w u hw hu
      obtain ⟨b, c, hb', hc, rfl⟩ := linesL_at hw
      obtain ⟨r, hr, rfl⟩ := map_at hu
      obtain ⟨b2, e1, rfl⟩ := map_at hr
      rw [hb'] at e1; cases e1
      have hb12 := hb _ (List.mem_of_getElem? hb')
      have hlen : (lineS (b - n) c).length = b - n + 1 := by rw [show lineS (b - n) c = txt (lineL (b - n) c) from rfl, len_txt, length_lineL]
      have hst := strip_v (w := w) (mg := mg) (mb := mb) (mean := mean) b c (n : Int) hb12 (abde_lt c hc).1 (abde_lt c hc).2
      rw [takeN_nat] at hst
      rw [show ((b - n : Nat) : Int) = ((b - n + 1 : Nat) : Int) - 1 by omega]
      exact ⟨_, Binds.name rfl rfl fun _ _ _ h => h, Ev.sub (Ev.callB (Ev.builtC rfl rfl (by k_is) rfl (by decide)) (.cons (Ev.callF (Ev.globC rfl rfl (by k_is)) (by k_is) (.cons (Ev.nameC rfl rfl rfl) (.cons (Ev.freeC rfl rfl rfl rfl rfl) .nil)) (hst _ rfl rfl rfl rfl d1 d2)) .nil) (hlen ▸ Cv.lenS (x := lineS (b - n) c) (by rw [hlen]; omega))) Ev.cInt⟩
    · rw [List.length_zipWith, linesL_len (Nat.le_of_eq h4), h4]; decide
    · rw [List.length_map, List.length_map, List.length_zipWith, linesL_len (Nat.le_of_eq h4), h4]; decide
    · intro K ob'' j w u hw hu
      obtain ⟨x, y, hx, hy, rfl⟩ := zw_some hw
      obtain ⟨b, c, hb', hc, rfl⟩ := zw_some hx
      obtain ⟨d, hd, rfl⟩ := map_at hy
      obtain ⟨r, hr, rfl⟩ := map_at hu
      obtain ⟨b2, e1, rfl⟩ := map_at hr
      rw [hb'] at e1; cases e1
      have hb12 := hb _ (List.mem_of_getElem? hb')
      exact ⟨_, Binds.pair rfl rfl rfl (by decide), Ev.callF (Ev.globC rfl rfl (by k_is)) (by k_is) (.cons (Ev.nameC rfl rfl rfl) (.cons (Ev.callF (Ev.globC rfl rfl (by k_is)) (by k_is) (.cons (Ev.freeC rfl rfl rfl rfl rfl) (.cons (Ev.nameC rfl rfl rfl) .nil)) (line_v n d (Nat.le_trans hn (by decide)) ((by decide : ∀ d ∈ ABDE, d < 128) d (List.mem_of_getElem? hd)) _ rfl rfl rfl rfl d1 d2)) (.cons Ev.cInt .nil))) (away_v hb12 hn hc hd _ rfl rfl rfl rfl d3 d4)⟩
    · decide
    · rfl
    · intro K ob'' j w u hw hu
      obtain ⟨hk, rfl⟩ := rng_at hw
      obtain ⟨r, hr, rfl⟩ := map_at hu
      obtain ⟨k, e1, rfl⟩ := map_at hr
      rw [List.getElem?_range hk] at e1; cases e1
      exact ⟨_, Binds.name rfl rfl fun _ _ _ h => h, Ev.sub (Ev.itemL (Ev.freeC rfl rfl rfl rfl rfl) (Ev.nameC rfl rfl rfl) (Int.natCast_nonneg _) (by omega) (ints_at (l := [f0, f1, f2, f3, f4]) hk)) (Ev.mul (.of_left (intBits_le_64 (by omega) (by omega))) (Ev.mul (.of_left (intBits_le_64 (by decide) (by decide))) Ev.cInt (Ev.nameC rfl rfl rfl)) (Ev.freeC rfl rfl rfl rfl rfl))⟩
    · rw [List.length_map, List.length_map, h4]; decide
    · intro K ob'' j w hw
      obtain ⟨r, hr, rfl⟩ := map_at hw
      exact ⟨_, Binds.name rfl rfl fun _ _ _ h => h, Ev.isNotT (Ev.callT (Ev.builtC rfl rfl (by k_is) rfl (by decide)) (.cons (Ev.nameC rfl rfl rfl) .nil) Cv.tyInt) (Ev.builtC rfl rfl (by k_is) rfl (by decide))⟩
    · exact absurd q (by rw [leftS, bne_self_eq_false]; exact Bool.false_ne_true)
    · rw [away_sum, h4, H3] at q
      refine absurd ?_ (bne_iff_ne.mp q)
      rw [leftS]
      clear H2 H3 q hb hts hsum
      generalize (bs.map fun b => ((b - n : Nat) : Int)).sum = S
      omega
  · intro _ _
    exact .cons (.ret Ev.cBool rfl)
end Mine
end
section
open PySem PySem.W PyProof.Rows PySem.Calls PySem.Spec
set_option maxRecDepth 100000
set_option maxHeartbeats 4000000
namespace Mine
noncomputable def eTk (ns : List Int) (x : Int) : Int := if ns.getD (x.fmod 4).toNat 0 < (x.fdiv 16).fmod 5 then ns.getD (x.fmod 4).toNat 0 else (x.fdiv 16).fmod 5
noncomputable def eSub (ns : List Int) (x : Int) : List Int := ns.set (x.fmod 4).toNat (ns.getD (x.fmod 4).toNat 0 - eTk ns x)
noncomputable def eStep (ns : List Int) (x : Int) : List Int := (eSub ns x).set ((x.fdiv 4).fmod 4).toNat ((eSub ns x).getD ((x.fdiv 4).fmod 4).toNat 0 + eTk ns x)
theorem fold_at {α : Type} {f : α → Int → α} {ms : List Int} {i : Nat} {a : α} {x : Int} (h : ms[i]? = some x) : (ms.drop i).foldl f a = (ms.drop (i + 1)).foldl f (f a x) := by
  obtain ⟨hi, rfl⟩ := List.getElem?_eq_some_iff.mp h
  rw [List.drop_eq_getElem_cons hi, List.foldl_cons]
theorem m4 (x : Int) : 0 ≤ x.fmod 4 ∧ x.fmod 4 < 2 ^ 63 ∧ (x.fmod 4).toNat < 4 := by
  have h1 := Int.fmod_nonneg_of_pos x (b := 4) (by decide)
  have h2 := Int.fmod_lt_of_pos x (b := 4) (by decide)
  omega
theorem fill_JW8 : (hd.heap_39, PySem.Challenge.rw_jc0009_01) = (hd.heap_39, PySem.Challenge.rw_jc0009_01) := by
  k_fill
  exact rfl
theorem end_v {w : World} {mg mb : Str → Option Value} {mean : ExcName → Option Value} (ns ms : List Int) (hl : ns.length = 4) (hx3 : ms.length ≤ 4) : CtV w mg mb mean 96 2 [.list (ILs ns), .list (ILs ms)] (.list (ILs (ms.foldl eStep ns))) := by
  k_dflt (refine' ctv_of [Str.ofString "start", Str.ofString "moves"] ?ho ?hcd ?hD ?hb ?hln ?hl ?hnd ?km ?c1 ?c2 ?c3 ?c4; (case ho => k_is); (case hcd => k_is); (case hD => decide); (case hb => exact fun s => len2 fun _ _ => BindsTo.of_eq rfl); (case hln => rfl); (case hl => decide); (case hnd => decide); (case c1 => exact rfl); (case c2 => exact rfl); (case c3 => exact rfl); (case c4 => decide))
  intro dp un gd outer A₀ base g L ob h1 h2
  clear h1 h2
  refine .new (EvNew.copy (Ev.built rfl (by k_is) rfl (by decide)) (Ev.name rfl) (by rw [List.length_map, hl]; decide)) rfl fun r hr => ?_
  refine .cons (.for (α := List Int) (fun cs => [(Str.ofString "row", .mut r (ILs cs))]) (fun i cs => cs.length = 4 ∧ ms.foldl eStep ns = (ms.drop i).foldl eStep cs) ns (It.list (Ev.name rfl)) rfl ⟨hl, rfl⟩ (List.forall_mem_cons.mpr ⟨rfl, List.forall_mem_nil _⟩) ?_ ?_ ?_)
  · intro w hw h bad v iv
    obtain ⟨i, _, rfl⟩ := List.mem_map.mp hw
    exact iv
  · rintro ob' i cs w ⟨hc, hf⟩ hw
    obtain ⟨x, hx, rfl⟩ := map_at hw
    rw [fold_at hx] at hf
    clear hw hx
    obtain ⟨a0, a1, a2⟩ := m4 x
    obtain ⟨b0, b1, b2⟩ := m4 (x.fdiv 4)
    have e1 : (eSub cs x).length = 4 := (List.length_set ..).trans hc
    refine .cons (.asg (Ev.callB (Ev.built rfl (by k_is) rfl (by decide)) (.cons (Ev.mod (by decide) (Ev.fdiv (by decide) (Ev.name rfl) Ev.cInt) Ev.cInt) (.cons (Ev.itemM rfl (Ev.mod (by decide) (Ev.name rfl) Ev.cInt) a0 a1 (ints_at (hc.symm ▸ a2))) .nil)) Cv.min2) rfl
      (.cons (.augM rfl (Ev.mod (by decide) (Ev.name rfl) Ev.cInt) (Ev.name rfl) a0 a1 (ints_at (hc.symm ▸ a2)) ?_ PySem.P.isub_int)))
    refine .cons (.augM (vs := ILs (eSub cs x)) (lkM rfl ints_set) (Ev.mod (by decide) (Ev.fdiv (by decide) (Ev.name rfl) Ev.cInt) Ev.cInt) (Ev.name rfl) b0 b1 (ints_at (e1.symm ▸ b2)) ?_ iadd_int)
    exact .nil ⟨eStep cs x, ⟨(List.length_set ..).trans e1, hf⟩, List.forall_mem_cons.mpr ⟨lkM rfl ints_set, List.forall_mem_nil _⟩⟩
  · rintro cs ⟨_, hf⟩
    rw [List.length_map, List.drop_length] at hf
    exact .cons (.retM rfl hr (congrArg (fun l => AV.list (ILs l)) hf.symm))
end Mine
end
section
open PySem PySem.W PyProof.Rows PySem.Calls PySem.Spec
set_option maxRecDepth 100000
set_option maxHeartbeats 4000000
namespace Mine
noncomputable def mSub (bs : List Nat) (x : Int) : List Nat := bs.set (x.fmod 4).toNat (bs.getD (x.fmod 4).toNat 0 - takeN (bs.getD (x.fmod 4).toNat 0) ((x.fdiv 16).fmod 5))
noncomputable def mStep (bs : List Nat) (x : Int) : List Nat := (mSub bs x).set ((x.fdiv 4).fmod 4).toNat ((mSub bs x).getD ((x.fdiv 4).fmod 4).toNat 0 + takeN (bs.getD (x.fmod 4).toNat 0) ((x.fdiv 16).fmod 5))
theorem sumN_set {x : Nat} : ∀ {ns : List Nat} {j : Nat}, j < ns.length → (ns.set j x).sum + ns.getD j 0 = ns.sum + x
  | [], _, h => absurd h (Nat.not_lt_zero _)
  | a :: r, 0, _ => by
    show (x :: r).sum + a = (a :: r).sum + x
    rw [List.sum_cons, List.sum_cons]
    omega
  | a :: r, j + 1, h => by
    have e := sumN_set (x := x) (ns := r) (j := j) (Nat.lt_of_succ_lt_succ h)
    show (a :: r.set j x).sum + r.getD j 0 = (a :: r).sum + x
    rw [List.sum_cons, List.sum_cons]
    omega
theorem getN_sum : ∀ {ns : List Nat} {j : Nat}, ns.getD j 0 ≤ ns.sum
  | [], _ => by simp
  | a :: r, 0 => by
    show a ≤ (a :: r).sum
    rw [List.sum_cons]; omega
  | a :: r, j + 1 => by
    rw [List.sum_cons]
    have := getN_sum (ns := r) (j := j)
    show r.getD j 0 ≤ a + r.sum
    omega
theorem takeN_le {b : Nat} {a : Int} : takeN b a ≤ b := by
  unfold takeN; split <;> omega
theorem lev_strip' : ∀ b, b < 13 → ∀ a, a < 5 → ∀ i, i < 4 → lev (lineL b (ltr i)) (lineL (b - takeN b ((a : Nat) : Int)) (ltr i)) (2 * ((a : Nat) : Int)) = 2 * ((takeN b (a : Int) : Nat) : Int) := by
  decide +kernel
theorem linesL_set {bs : List Nat} {k v : Nat} (h4 : bs.length = 4) (hk : k < 4) : (linesL bs abde).set k (.str (lineS v (ltr k))) = linesL (bs.set k v) abde := by
  match bs, h4 with
  | [b0, b1, b2, b3], _ =>
    have : k = 0 ∨ k = 1 ∨ k = 2 ∨ k = 3 := by omega
    rcases this with rfl | rfl | rfl | rfl <;> rfl
theorem Ev.intE {P : Px} {e : Expr} {i j : Int} (h : Ev P e (.int i)) (q : i = j) : Ev P e (.int j) := q ▸ h
theorem ltr_ok {k : Nat} (h : k < 4) : ltr k < 128 ∧ ltr k ≠ 32 := (by decide : ∀ k, k < 4 → ltr k < 128 ∧ ltr k ≠ 32) k h
theorem mStep_sum {bs : List Nat} (h : bs.length = 4) (x : Int) : (mStep bs x).sum = bs.sum ∧ (mStep bs x).length = 4 ∧ (mSub bs x).getD ((x.fdiv 4).fmod 4).toNat 0 + takeN (bs.getD (x.fmod 4).toNat 0) ((x.fdiv 16).fmod 5) ≤ bs.sum := by
  obtain ⟨-, -, a2⟩ := m4 x
  obtain ⟨-, -, b2⟩ := m4 (x.fdiv 4)
  have e1 : (mSub bs x).length = 4 := (List.length_set ..).trans h
  have f4 := takeN_le (b := bs.getD (x.fmod 4).toNat 0) (a := (x.fdiv 16).fmod 5)
  have f5 := sumN_set (x := bs.getD (x.fmod 4).toNat 0 - takeN (bs.getD (x.fmod 4).toNat 0) ((x.fdiv 16).fmod 5)) (h.symm ▸ a2 : (x.fmod 4).toNat < bs.length)
  have f6 := getN_sum (ns := mSub bs x) (j := ((x.fdiv 4).fmod 4).toNat)
  have f9 := sumN_set (x := (mSub bs x).getD ((x.fdiv 4).fmod 4).toNat 0 + takeN (bs.getD (x.fmod 4).toNat 0) ((x.fdiv 16).fmod 5)) (ns := mSub bs x) (j := ((x.fdiv 4).fmod 4).toNat) (e1.symm ▸ b2)
  refine ⟨?_, (List.length_set ..).trans e1, ?_⟩
  · show ((mSub bs x).set _ _).sum = _
    rw [show mSub bs x = bs.set (x.fmod 4).toNat (bs.getD (x.fmod 4).toNat 0 - takeN (bs.getD (x.fmod 4).toNat 0) ((x.fdiv 16).fmod 5)) from rfl] at *
    omega
  · rw [show mSub bs x = bs.set (x.fmod 4).toNat (bs.getD (x.fmod 4).toNat 0 - takeN (bs.getD (x.fmod 4).toNat 0) ((x.fdiv 16).fmod 5)) from rfl] at *
    omega
theorem fill_JW9 : (hd.heap_39, PySem.Challenge.rw_jc0009_01) = (hd.heap_39, PySem.Challenge.rw_jc0009_01) := by
  k_fill
  exact rfl
theorem moved_v {w : World} {mg mb : Str → Option Value} {mean : ExcName → Option Value} (bs : List Nat) (ms : List Int) (h4 : bs.length = 4) (hsum : bs.sum ≤ 12) : CtV w mg mb mean 103 4 [.list (linesL bs abde), .list (ILs ms)] (.list (linesL (ms.foldl mStep bs) abde)) := by
  k_dflt (refine' ctv_of [Str.ofString "lines", Str.ofString "moves"] ?ho ?hcd ?hD ?hb ?hln ?hl ?hnd ?km ?c1 ?c2 ?c3 ?c4; (case ho => k_is); (case hcd => k_is); (case hD => decide); (case hb => exact fun s => len2 fun _ _ => BindsTo.of_eq rfl); (case hln => rfl); (case hl => decide); (case hnd => decide); (case c1 => exact rfl); (case c2 => exact rfl); (case c3 => exact rfl); (case c4 => decide))
  intro dp un gd outer A₀ base g L ob h1 h2
  have d1 : dp + 1 < recursionLimit := by omega
  have d2 : un + 8 * 1 < cLine := by omega
  have d3 : dp + 2 < recursionLimit := by omega
  have d4 : un + 8 * 2 < cLine := by omega
  clear h1 h2
  refine .new (EvNew.copy (Ev.built rfl (by k_is) rfl (by decide)) (Ev.name rfl) (by rw [linesL_len (Nat.le_of_eq h4), h4]; decide)) rfl fun r hr => ?_
  refine .cons (.for (α := List Nat) (fun cs => [(Str.ofString "rows", .mut r (linesL cs abde))]) (fun i cs => (cs.length = 4 ∧ cs.sum ≤ 12) ∧ ms.foldl mStep bs = (ms.drop i).foldl mStep cs) bs (It.list (Ev.name rfl)) rfl ⟨⟨h4, hsum⟩, rfl⟩ (List.forall_mem_cons.mpr ⟨rfl, List.forall_mem_nil _⟩) ?_ ?_ ?_)
  · intro w hw h bad v iv
    obtain ⟨i, _, rfl⟩ := List.mem_map.mp hw
    exact iv
  · rintro ob' i cs w ⟨⟨hc, hs⟩, hf⟩ hw
    obtain ⟨x, hx, rfl⟩ := map_at hw
    rw [fold_at hx] at hf
    clear hw hx hsum h4
    obtain ⟨a0, a1, a2⟩ := m4 x
    obtain ⟨b0, b1, b2⟩ := m4 (x.fdiv 4)
    obtain ⟨e1, e2, e3⟩ := mStep_sum hc x
    have c0 : (mSub cs x).length = 4 := (List.length_set ..).trans hc
    have c1 : cs.getD (x.fmod 4).toNat 0 ≤ 12 := Nat.le_trans getN_sum hs
    obtain ⟨a, ha, ha5⟩ : ∃ a : Nat, (x.fdiv 16).fmod 5 = a ∧ a < 5 := by
      have h1 := Int.fmod_nonneg_of_pos (x.fdiv 16) (b := 5) (by decide)
      have h2 := Int.fmod_lt_of_pos (x.fdiv 16) (b := 5) (by decide)
      exact ⟨_, (Int.toNat_of_nonneg h1).symm, by omega⟩
    have hlev : CtV w mg mb mean 70 2 [.str (lineS (cs.getD (x.fmod 4).toNat 0) (ltr (x.fmod 4).toNat)), .str (lineS (cs.getD (x.fmod 4).toNat 0 - takeN (cs.getD (x.fmod 4).toNat 0) ((x.fdiv 16).fmod 5)) (ltr (x.fmod 4).toNat)), .int (2 * (x.fdiv 16).fmod 5)] (.int (2 * ((takeN (cs.getD (x.fmod 4).toNat 0) ((x.fdiv 16).fmod 5) : Nat) : Int))) := by
      rw [ha, ← lev_strip' _ (Nat.lt_succ_of_le c1) a ha5 _ a2]
      exact lev_lines_v _ _ _ _ _ c1 (Nat.le_trans (Nat.sub_le _ _) c1) (ltr_lt a2) (ltr_lt a2)
    obtain ⟨t, ht⟩ : ∃ t, takeN (cs.getD (x.fmod 4).toNat 0) ((x.fdiv 16).fmod 5) = t := ⟨_, rfl⟩
    have hst := strip_v (w := w) (mg := mg) (mb := mb) (mean := mean) (cs.getD (x.fmod 4).toNat 0) (ltr (x.fmod 4).toNat) ((x.fdiv 16).fmod 5) c1 (ltr_ok a2).1 (ltr_ok a2).2
    have hM : mSub cs x = cs.set (x.fmod 4).toNat (cs.getD (x.fmod 4).toNat 0 - t) := by rw [← ht]; rfl
    have hS : mStep cs x = (mSub cs x).set ((x.fdiv 4).fmod 4).toNat ((mSub cs x).getD ((x.fdiv 4).fmod 4).toNat 0 + t) := by rw [← ht]; rfl
    rw [ht] at hst hlev e3
    have hl : (lineS ((mSub cs x).getD ((x.fdiv 4).fmod 4).toNat 0) (ltr ((x.fdiv 4).fmod 4).toNat)).length = (mSub cs x).getD ((x.fdiv 4).fmod 4).toNat 0 + 1 := by rw [show lineS ((mSub cs x).getD ((x.fdiv 4).fmod 4).toNat 0) (ltr ((x.fdiv 4).fmod 4).toNat) = txt (lineL ((mSub cs x).getD ((x.fdiv 4).fmod 4).toNat 0) (ltr ((x.fdiv 4).fmod 4).toNat)) from rfl, len_txt, length_lineL]
    have f7 : (2 * (t : Int)).fdiv 2 = t := by rw [Int.fdiv_eq_ediv_of_nonneg _ (by decide)]; omega
    have f8 : (2 * (t : Int)).fmod 2 = 0 := by rw [Int.fmod_eq_emod_of_nonneg _ (by decide)]; omega
    clear ht ha ha5
    refine .cons (.swap (names := [Str.ofString "source", Str.ofString "goal", Str.ofString "amount"]) (.cons (Ev.mod (by decide) (Ev.name rfl) Ev.cInt) (.cons (Ev.mod (by decide) (Ev.fdiv (by decide) (Ev.name rfl) Ev.cInt) Ev.cInt) (.cons (Ev.mod (by decide) (Ev.fdiv (by decide) (Ev.name rfl) Ev.cInt) Ev.cInt) .nil))) (Nat.le_of_ble_eq_true rfl) rfl (List.forall_mem_cons.mpr ⟨rfl, List.forall_mem_cons.mpr ⟨rfl, List.forall_mem_cons.mpr ⟨rfl, List.forall_mem_nil _⟩⟩⟩)
      (.cons (.asg (Ev.callF (Ev.glob rfl (by k_is)) (by k_is) (.cons (Ev.itemM rfl (Ev.name rfl) a0 a1 (linesL_get hc a2)) (.cons (Ev.name rfl) .nil)) (hst _ rfl rfl rfl rfl d1 d2)) rfl
      (.cons (.asgT (names := [Str.ofString "came", Str.ofString "odd"]) (Ev.callB (Ev.built rfl (by k_is) rfl (by decide)) (.cons (Ev.callF (Ev.glob rfl (by k_is)) (by k_is) (.cons (Ev.itemM rfl (Ev.name rfl) a0 a1 (linesL_get hc a2)) (.cons (Ev.name rfl) (.cons (Ev.mul (.of_left (intBits_le_64 (by decide) (by decide))) Ev.cInt (Ev.name rfl)) .nil))) (hlev _ rfl rfl rfl rfl d3 d4)) (.cons Ev.cInt .nil)) (Cv.divmod (by decide))) (.cons .name (.cons .name .nil)) rfl (List.forall_mem_cons.mpr ⟨rfl, List.forall_mem_cons.mpr ⟨rfl, List.forall_mem_nil _⟩⟩)
      (.cons (.ite (Ev.ne (Ev.name rfl) Ev.cInt) (fun q => ?_) fun _ => .nil
      (.cons (.setI rfl (Ev.name rfl) (Ev.name rfl) a0 a1 ?_
      (.cons (.setI (vs := linesL (mSub cs x) abde) (lkM rfl ?_) (Ev.callF (Ev.glob rfl (by k_is)) (by k_is) (.cons (Ev.intE (Ev.add (Ev.sub (Ev.callB (Ev.built rfl (by k_is) rfl (by decide)) (.cons (Ev.itemM (vs := linesL (mSub cs x) abde) (lkM rfl ?_) (Ev.name rfl) b0 b1 (linesL_get c0 b2)) .nil) (hl ▸ Cv.lenS ?_)) Ev.cInt) (Ev.name rfl)) ?_) (.cons (Ev.item (l := abde) (k := (x.fdiv 4).fmod 4) (j := ((x.fdiv 4).fmod 4).toNat) ?_ ?_ (by decide) Ev.cStr (Ev.name rfl)) .nil)) (line_v ((mSub cs x).getD ((x.fdiv 4).fmod 4).toNat 0 + t) (ltr ((x.fdiv 4).fmod 4).toNat) (Nat.le_trans e3 hs) (ltr_lt b2) _ rfl rfl rfl rfl d1 d2)) (Ev.name rfl) b0 b1 ?_
      (.nil ⟨mStep cs x, ⟨⟨e2, e1.symm ▸ hs⟩, hf⟩, List.forall_mem_cons.mpr ⟨lkM rfl ?_, List.forall_mem_nil _⟩⟩))))))))))))
    · exact absurd q (by rw [f8]; exact Bool.false_ne_true)
    · rw [linesL_len (Nat.le_of_eq hc), hc]; clear hst hlev f7 f8 hl; omega
    · rw [hM]; exact linesL_set hc a2
    · rw [hM]; exact linesL_set hc a2
    · rw [f7]; clear hst hlev f7 f8 hl; omega
    · obtain ⟨z, hz⟩ := Int.eq_ofNat_of_zero_le b0
      rw [hz, Int.toNat_natCast] at b2 ⊢
      exact idx_pos b2
    · rw [ltr, List.getD_eq_getElem?_getD, List.getElem?_eq_getElem (show ((x.fdiv 4).fmod 4).toNat < abde.length from b2)]; rfl
    · rw [linesL_len (Nat.le_of_eq c0), c0]; clear hst hlev f7 f8 hl; omega
    · rw [hS]; exact linesL_set c0 b2
    · rw [hl]; exact Nat.le_trans (Nat.succ_le_succ (Nat.le_trans (Nat.le_trans (Nat.le_add_right _ _) e3) hs)) (by decide)
  · rintro cs ⟨_, hf⟩
    rw [List.length_map, List.drop_length] at hf
    exact .cons (.retM rfl hr (congrArg (fun l => AV.list (linesL l abde)) hf.symm))
end Mine
end
section
open PySem PySem.W PyProof.Rows PySem.Calls PySem.Spec
set_option maxRecDepth 100000
set_option maxHeartbeats 4000000
namespace Mine
noncomputable def lessI (xs ys : List Int) (k : Nat) : Option Int := if xs.getD k 0 < ys.getD k 0 then some (k : Nat) else none
noncomputable def lessL (xs ys : List Int) : List Int := (List.range 5).filterMap (lessI xs ys)
theorem pick_map {f : Nat → Option Int} : ∀ ks : List Nat, (ks.map fun k => (f k).map AV.int).filterMap id = ILs (ks.filterMap f)
  | [] => rfl
  | k :: ks => by
    rw [List.map_cons]
    cases h : f k with
    | none => rw [List.filterMap_cons_none h]; exact pick_map ks
    | some i => rw [List.filterMap_cons_some h]; exact congrArg (AV.int i :: ·) (pick_map ks)
theorem Ev.listE {P : Px} {e : Expr} {i j : List AV} (h : Ev P e (.list i)) (q : i = j) : Ev P e (.list j) := q ▸ h
theorem fill_JW10 : (hd.heap_39, PySem.Challenge.rw_jc0009_01) = (hd.heap_39, PySem.Challenge.rw_jc0009_01) := by
  k_fill
  exact rfl
theorem less_v {w : World} {mg mb : Str → Option Value} {mean : ExcName → Option Value} (xs ys : List Int) (hx : xs.length = 5) (hy : ys.length = 5) : CtV w mg mb mean 135 12 [.list [.list (ILs xs), .list (ILs ys)]] (.bool (!decide (lessL xs ys = []))) := by
  k_dflt (refine' ctv_ofC [Str.ofString "rows"] ?ho ?hcd ?hD ?hb ?hln ?hl ?hnd ?km ?c1 ?c2 ?c3; (case ho => k_is); (case hcd => k_is); (case hD => decide); (case hb => exact fun s => len1 fun _ => BindsTo.of_eq rfl); (case hln => rfl); (case hl => decide); (case hnd => decide); (case c1 => exact rfl); (case c2 => exact rfl); (case c3 => exact rfl))
  intro dp un gd outer A₀ base g L ob h1 h2
  have d7 : un + 64 < cLine := by omega
  clear h1 h2
  refine .cons (.ret (Ev.neLV (ns := lessL xs ys) (ms := []) d7 (Ev.listE (Ev.compL (ct := some _) (os := (List.range 5).map fun k => (lessI xs ys k).map AV.int) rfl (by with_unfolding_all rfl) (It.range (k := 5) rfl (by decide) (Ev.built rfl (by k_is) rfl (by decide)) Ev.cInt) rfl (by decide) (by decide) (by decide) rfl ?_) (pick_map (List.range 5))) (EvNew.ev (EvNew.disp .nil (by decide)))) rfl)
  intro K ob' j w' o hw ho
  obtain ⟨hk, rfl⟩ := rng_at hw
  obtain ⟨k, e1, rfl⟩ := map_at ho
  rw [List.getElem?_range hk] at e1; cases e1
  refine ⟨_, Binds.name rfl rfl fun _ _ _ h => h, _, Ev.lt (Ev.itemL (Ev.itemL (Ev.freeC rfl rfl rfl rfl rfl) Ev.cInt (by decide) (by decide) rfl) (Ev.nameC rfl rfl rfl) (Int.natCast_nonneg _) (by omega) (ints_at (hx.symm ▸ hk))) (Ev.itemL (Ev.itemL (Ev.freeC rfl rfl rfl rfl rfl) Ev.cInt (by decide) (by decide) rfl) (Ev.nameC rfl rfl rfl) (Int.natCast_nonneg _) (by omega) (ints_at (hy.symm ▸ hk))), fun q => ?_, fun q => ⟨_, ?_, Ev.nameC rfl rfl rfl⟩⟩
  · exact congrArg (Option.map AV.int) (if_neg (of_decide_eq_false q))
  · exact congrArg (Option.map AV.int) (if_pos (of_decide_eq_true q))
end Mine
end
section
open PySem PySem.W PyProof.Rows PySem.Calls PySem.Spec
set_option maxRecDepth 100000
set_option maxHeartbeats 4000000
namespace Mine
/-- what compare hands back -/
noncomputable def cmpF (dr wy p1 w1 p2 w2 : Int) : Int := if w1 < w2 then -dr else if w2 < w1 then dr else if p1 < p2 then -wy else if p2 < p1 then wy else 0
noncomputable abbrev pairsL (dr wy : Int) : List AV := [.tup [.int 1, .int dr], .tup [.int 0, .int wy]]
noncomputable abbrev cmpS (w : World) (dr wy : Int) : AV := .sem (obSm w.params 45 (Str.ofString "comp_select_list") (pairsL dr wy))
theorem fill_JW11 : (hd.heap_39, PySem.Challenge.rw_jc0009_01) = (hd.heap_39, PySem.Challenge.rw_jc0009_01) := by
  k_fill
  exact rfl
noncomputable def putP : AV → Loc → Loc
  | .tup [a, b], σ => (Str.ofString "direction", b) :: (Str.ofString "index", a) :: σ
  | _, σ => σ
theorem compare_v {w : World} {mg mb : Str → Option Value} {mean : ExcName → Option Value} (dr wy p1 w1 p2 w2 : Int) : CtV w mg mb mean 42 2 [cmpS w dr wy, .tup [.int p1, .int w1], .tup [.int p2, .int w2]] (.int (cmpF dr wy p1 w1 p2 w2)) := by
  k_dflt (refine' ctv_of [Str.ofString "self", Str.ofString "left", Str.ofString "right"] ?ho ?hcd ?hD ?hb ?hln ?hl ?hnd ?km ?c1 ?c2 ?c3 ?c4; (case ho => k_is); (case hcd => k_is); (case hD => decide); (case hb => exact fun s => len3 fun _ _ _ => BindsTo.of_eq rfl); (case hln => rfl); (case hl => decide); (case hnd => decide); (case c1 => exact rfl); (case c2 => exact rfl); (case c3 => exact rfl); (case c4 => decide))
  intro dp un gd outer A₀ base g L ob h1 h2
  refine .cons (Ws.forG putP (fun _ : Unit => [Str.ofString "self", Str.ofString "left", Str.ofString "right"].zip [cmpS w dr wy, .tup [.int p1, .int w1], .tup [.int p2, .int w2]]) (fun i _ => (1 ≤ i → w1 = w2) ∧ (2 ≤ i → p1 = p2)) () (It.listT (Ev.attr (Ev.name rfl) (by k_is) (by k_is) (by k_is) (by k_is))).toF ⟨fun h => absurd h (by decide), fun h => absurd h (by decide)⟩ (fun p hp => by simp at hp; rcases hp with rfl | rfl | rfl <;> rfl) ?_ ?_ ?_)
  · intro v hv
    rcases List.mem_cons.mp hv with rfl | hv
    · exact TgS.pair rfl rfl
    · rw [List.mem_singleton.mp hv]; exact TgS.pair rfl rfl
  · rintro ob' i _ v ⟨g1, g2⟩ hv
    obtain ⟨k, d, a, b, n, rfl, hk, k1, k2, ha, hb, hlt, hgt, heq⟩ : ∃ (k d a b : Int) (n : Nat), v = .tup [.int k, .int d] ∧ seqIndex? k 2 = some n ∧ -(2 ^ 63) ≤ k ∧ k < 2 ^ 63 ∧ [AV.int p1, .int w1][n]? = some (.int a) ∧ [AV.int p2, .int w2][n]? = some (.int b) ∧
        (a < b → cmpF dr wy p1 w1 p2 w2 = -d) ∧ (¬ a < b → b < a → cmpF dr wy p1 w1 p2 w2 = d) ∧ (¬ a < b → ¬ b < a → (1 ≤ i + 1 → w1 = w2) ∧ (2 ≤ i + 1 → p1 = p2)) := by
      match i, hv with
      | 0, hv => cases hv; exact ⟨1, dr, w1, w2, 1, rfl, by decide, by decide, by decide, rfl, rfl, fun h => if_pos h, fun h h' => (if_neg h).trans (if_pos h'), fun h h' => ⟨fun _ => by omega, fun h => absurd h (by decide)⟩⟩
      | 1, hv =>
        cases hv
        have e := g1 (by decide)
        subst e
        exact ⟨0, wy, p1, p2, 0, rfl, by decide, by decide, by decide, rfl, rfl, fun h => by simp [cmpF, h], fun h h' => by simp [cmpF, h, h'], fun h h' => ⟨fun _ => rfl, fun _ => by omega⟩⟩
      | i + 2, hv => simp at hv
    refine .cons (Ws.asg (Ev.itemT (Nat.le_of_ble_eq_true rfl) (Ev.name rfl) (Ev.name rfl) hk k1 k2 ha) rfl ?_)
    refine .cons (Ws.asg (Ev.itemT (Nat.le_of_ble_eq_true rfl) (Ev.name rfl) (Ev.name rfl) hk k1 k2 hb) rfl ?_)
    refine .cons (Ws.ite (Ev.lt (Ev.name rfl) (Ev.name rfl)) (fun q => .cons (Ws.ret (Ev.neg (Ev.name rfl)) (congrArg AV.int (hlt (of_decide_eq_true q)).symm))) fun q => .nil ?_)
    refine .cons (Ws.ite (Ev.gt (Ev.name rfl) (Ev.name rfl)) (fun q2 => .cons (Ws.ret (Ev.name rfl) (congrArg AV.int (hgt (of_decide_eq_false q) (of_decide_eq_true q2)).symm))) fun q2 => .nil (.nil ⟨(), heq (of_decide_eq_false q) (of_decide_eq_false q2), fun p hp => ?_⟩))
    simp at hp
    rcases hp with rfl | rfl | rfl <;> rfl
  · rintro _ ⟨g1, g2⟩
    refine .cons (.ret Ev.cInt ?_)
    have e1 := g1 (Nat.le_of_ble_eq_true rfl)
    have e2 := g2 (Nat.le_of_ble_eq_true rfl)
    subst e1; subst e2
    simp [cmpF]
end Mine
end
section
set_option maxRecDepth 100000
set_option maxHeartbeats 4000000
namespace Mine
/-! the rows in their order: plain -/
noncomputable abbrev IP := Int × Int
noncomputable def ltR (dr wy : Int) (a b : IP) : Bool := decide (cmpF dr wy a.1 a.2 b.1 b.2 < 0)
noncomputable def CLt (wy : Int) (a b : IP) : Prop := b.2 < a.2 ∨ (a.2 = b.2 ∧ wy * a.1 < wy * b.1)
theorem ltR_iff {dr wy : Int} (hd : dr < 0) (hw : wy = 1 ∨ wy = -1) {a b : IP} : ltR dr wy a b = true ↔ CLt wy a b := by
  unfold ltR cmpF CLt
  rw [decide_eq_true_iff]
  rcases hw with rfl | rfl <;> (repeat' split) <;> omega
noncomputable def insR (dr wy : Int) (os : List IP) (T : IP) : List IP := os.filter (fun r => ltR dr wy r T) ++ [T] ++ os.filter (fun r => ltR dr wy T r)
noncomputable def rowsI (ws : List Int) : List IP := ws.zipIdx.map fun p => ((p.2 : Int), p.1)
noncomputable def ordI (dr wy : Int) (rs : List IP) : List IP := rs.foldl (insR dr wy) []
noncomputable def frontsL (dr wy : Int) (ws : List Int) : List Int := (List.range 5).map fun k => (((ordI dr wy (rowsI ws)).take k).map (·.2)).sum
section
variable {dr wy : Int}
theorem CLt.total (hw : wy = 1 ∨ wy = -1) {a b : IP} (h : a.1 ≠ b.1) : CLt wy a b ∧ ¬ CLt wy b a ∨ ¬ CLt wy a b ∧ CLt wy b a := by
  unfold CLt
  rcases hw with rfl | rfl <;> omega
theorem CLt.trans {a b c : IP} (h : CLt wy a b) (h' : CLt wy b c) : CLt wy a c := by
  unfold CLt at *
  omega
theorem insR_perm (hd : dr < 0) (hw : wy = 1 ∨ wy = -1) {T : IP} : ∀ {os : List IP}, (∀ r ∈ os, r.1 ≠ T.1) → (insR dr wy os T).Perm (T :: os)
  | [], _ => .refl _
  | r :: os, h => by
    have ih := insR_perm hd hw fun x hx => h x (.tail _ hx)
    unfold insR at ih ⊢
    rcases CLt.total hw (h r (.head _)) with ⟨h1, h2⟩ | ⟨h1, h2⟩
    · have e1 : List.filter (fun r => ltR dr wy r T) (r :: os) = r :: List.filter (fun r => ltR dr wy r T) os := List.filter_cons_of_pos ((ltR_iff hd hw).mpr h1)
      have e2 : List.filter (fun r => ltR dr wy T r) (r :: os) = List.filter (fun r => ltR dr wy T r) os := List.filter_cons_of_neg fun q => h2 ((ltR_iff hd hw).mp q)
      rw [e1, e2]
      exact (ih.cons r).trans (.swap ..)
    · have e1 : List.filter (fun r => ltR dr wy r T) (r :: os) = List.filter (fun r => ltR dr wy r T) os := List.filter_cons_of_neg fun q => h1 ((ltR_iff hd hw).mp q)
      have e2 : List.filter (fun r => ltR dr wy T r) (r :: os) = r :: List.filter (fun r => ltR dr wy T r) os := List.filter_cons_of_pos ((ltR_iff hd hw).mpr h2)
      rw [e1, e2]
      exact List.perm_middle.trans ((ih.cons r).trans (.swap ..))
theorem insR_pair (hd : dr < 0) (hw : wy = 1 ∨ wy = -1) {T : IP} {os : List IP} (h : os.Pairwise (CLt wy)) : (insR dr wy os T).Pairwise (CLt wy) := by
  have A : ∀ r ∈ os.filter (fun r => ltR dr wy r T), CLt wy r T := fun r hr => (ltR_iff hd hw).mp (List.mem_filter.mp hr).2
  have B : ∀ r ∈ os.filter (fun r => ltR dr wy T r), CLt wy T r := fun r hr => (ltR_iff hd hw).mp (List.mem_filter.mp hr).2
  unfold insR
  rw [List.append_assoc, List.singleton_append, List.pairwise_append, List.pairwise_cons]
  refine ⟨h.filter _, ⟨B, h.filter _⟩, fun a ha b hb => ?_⟩
  rcases List.mem_cons.mp hb with rfl | hb
  · exact A a ha
  · exact (A a ha).trans (B b hb)
theorem ordI_spec (hd : dr < 0) (hw : wy = 1 ∨ wy = -1) : ∀ (rs os : List IP), ((os ++ rs).map (·.1)).Nodup → os.Pairwise (CLt wy) → (rs.foldl (insR dr wy) os).Perm (os ++ rs) ∧ (rs.foldl (insR dr wy) os).Pairwise (CLt wy)
  | [], os, _, h => by rw [List.append_nil]; exact ⟨.refl _, h⟩
  | r :: rs, os, hn, h => by
    have hp : (insR dr wy os r).Perm (r :: os) := insR_perm hd hw fun x hx e => by
      rw [List.map_append, List.nodup_append] at hn
      exact hn.2.2 _ (List.mem_map_of_mem hx) _ (List.mem_map_of_mem (.head _)) e
    have hp' : (insR dr wy os r ++ rs).Perm (os ++ r :: rs) := (hp.append_right rs).trans List.perm_middle.symm
    obtain ⟨p, q⟩ := ordI_spec hd hw rs (insR dr wy os r) ((hp'.map (·.1)).nodup_iff.mpr hn) (insR_pair hd hw h)
    exact ⟨p.trans hp', q⟩
end
theorem rowsI_fst (ws : List Int) : ((rowsI ws).map (·.1)).Nodup := by
  have : (rowsI ws).map (·.1) = (List.range ws.length).map fun (i : Nat) => (i : Int) := by
    apply List.ext_getElem
    · simp [rowsI]
    · intro i h1 h2; simp [rowsI]
  rw [this]
  rw [List.nodup_iff_pairwise_ne, List.pairwise_map]
  exact (List.nodup_iff_pairwise_ne.mp List.nodup_range).imp fun h e => h (Int.ofNat.inj e)
theorem rowsI_snd (ws : List Int) : (rowsI ws).map (·.2) = ws := by
  apply List.ext_getElem
  · simp [rowsI]
  · intro i h1 h2; simp [rowsI]
theorem order_spec {dr wy : Int} (hd : dr < 0) (hw : wy = 1 ∨ wy = -1) (ws : List Int) : (ordI dr wy (rowsI ws)).Perm (rowsI ws) ∧ (ordI dr wy (rowsI ws)).Pairwise (CLt wy) :=
  ordI_spec hd hw (rowsI ws) [] (rowsI_fst ws) .nil
theorem fronts_spec {dr wy : Int} (hd : dr < 0) (hw : wy = 1 ∨ wy = -1) {ws : List Int} (h4 : ws.length = 4) :
    ∃ q0 q1 q2 q3, frontsL dr wy ws = [0, q0, q0 + q1, q0 + q1 + q2, q0 + q1 + q2 + q3] ∧ q1 ≤ q0 ∧ q2 ≤ q1 ∧ q3 ≤ q2 ∧ [q0, q1, q2, q3].Perm ws := by
  obtain ⟨p, q⟩ := order_spec hd hw ws
  have hl : (ordI dr wy (rowsI ws)).length = 4 := p.length_eq.trans (by rw [rowsI, List.length_map, List.length_zipIdx, h4])
  have pw := p.map (·.2)
  rw [rowsI_snd] at pw
  unfold frontsL
  generalize ordI dr wy (rowsI ws) = os at *
  match os, hl with
  | [a, b, c, d], _ =>
    refine ⟨a.2, b.2, c.2, d.2, ?_, ?_, ?_, ?_, pw⟩
    · simp [List.range_succ, Int.add_assoc]
    all_goals
      simp only [List.pairwise_cons, List.mem_cons, CLt] at q
    · have := q.1 b (.inl rfl); omega
    · have := q.2.1 c (.inl rfl); omega
    · have := q.2.2.1 d (.inl rfl); omega
end Mine
end
section
open PySem PySem.W PyProof.Rows PySem.Calls PySem.Spec
set_option maxRecDepth 100000
set_option maxHeartbeats 4000000
namespace Mine
noncomputable def wayX (x : Int) : Int := if (x.fdiv 768).fmod 2 == 0 then 1 else -1
noncomputable def drX (x : Int) : Int := -1 - (x.fdiv 256).fmod 3
theorem wayX_two (x : Int) : wayX x = 1 ∨ wayX x = -1 := by unfold wayX; split <;> simp
theorem drX_neg (x : Int) : drX x < 0 := by
  have := Int.fmod_nonneg_of_pos (x.fdiv 256) (b := 3) (by decide)
  unfold drX; omega
/-- rows as values -/
noncomputable def rV (r : IP) : AV := .tup [.int r.1, .int r.2]
noncomputable def rS (r : IP) : AV := .sem (tupSm [.int r.1, .int r.2])
section
variable {P : Px} {e : Expr}
theorem Ev.unsem {vs : List AV} (h : Ev P e (.sem (tupSm vs))) : Ev P e (.tup vs) := h
theorem Ev.toSem {vs : List AV} (h : Ev P e (.tup vs)) : Ev P e (.sem (tupSm vs)) := h
theorem Ev.castL {vs ws : List AV} (h : vs = ws) (he : Ev P e (.list vs)) : Ev P e (.list ws) := h ▸ he
theorem rvs_rows {h : Heap} {bad : Addr → Prop} : ∀ {os : List IP} {xs : List Value}, RVs h bad (os.map rS) xs → RVs h bad (os.map rV) xs
  | [], _, r => r
  | _ :: _, _, ⟨y, ys, e, r, rs⟩ => ⟨y, ys, e, r, rvs_rows rs⟩
theorem Ev.rows {os : List IP} (h : Ev P e (.list (os.map rS))) : Ev P e (.list (os.map rV)) := fun s hs Q E hQ => h s hs Q E fun y h' tk ex ⟨a, xs, n, e, hb, ho, rs⟩ => hQ y h' tk ex ⟨a, xs, n, e, hb, ho, rvs_rows rs⟩
end
theorem fill_JW12 : (hd.heap_39, PySem.Challenge.rw_jc0009_01) = (hd.heap_39, PySem.Challenge.rw_jc0009_01) := by
  k_fill
  exact rfl
theorem filt_some {α β : Type} (p : α → Bool) (f : α → β) : ∀ l : List α, (l.map fun a => if p a = true then some (f a) else none).filterMap id = (l.filter p).map f
  | [] => rfl
  | a :: l => by
    rw [List.map_cons, List.filter_cons, List.filterMap_cons, filt_some p f l]
    cases p a <;> rfl
theorem ords_step {dr wy : Int} {ws : List Int} {i : Nat} {r : IP} (h : (rowsI ws)[i]? = some r) : insR dr wy (((rowsI ws).take i).foldl (insR dr wy) []) r = ((rowsI ws).take (i + 1)).foldl (insR dr wy) [] := by
  rw [List.take_add_one, h, List.foldl_append]
  rfl
theorem enum_rows (ws : List Int) : enumL (ws.map .int) = (rowsI ws).map rS := by
  apply List.ext_getElem
  · simp [enumL, rowsI]
  · intro i h1 h2; simp [enumL, rowsI, rS]
theorem ords_len {dr wy : Int} (hd : dr < 0) (hw : wy = 1 ∨ wy = -1) (ws : List Int) (i : Nat) : (((rowsI ws).take i).foldl (insR dr wy) []).length ≤ ws.length := by
  have h := (ordI_spec hd hw ((rowsI ws).take i) [] ((rowsI_fst ws).sublist ((List.take_sublist _ _).map _)) .nil).1.length_eq
  rw [h, List.nil_append, List.length_take, rowsI, List.length_map, List.length_zipIdx]
  exact Nat.min_le_right _ _
theorem fronts_v {w : World} {mg mb : Str → Option Value} {mean : ExcName → Option Value} (ws : List Int) (h4 : ws.length = 4) (x : Int) : CtV w mg mb mean 113 20 [.list (ws.map .int), .int x] (.list ((frontsL (drX x) (wayX x) ws).map .int)) := by
  k_dflt (refine' ctv_ofC [Str.ofString "weights", Str.ofString "x"] ?ho ?hcd ?hD ?hb ?hln ?hl ?hnd ?km ?c1 ?c2 ?c3; (case ho => k_is); (case hcd => k_is); (case hD => decide); (case hb => exact fun s => len2 fun _ _ => BindsTo.of_eq rfl); (case hln => rfl); (case hl => decide); (case hnd => decide); (case c1 => exact rfl); (case c2 => exact rfl); (case c3 => exact rfl))
  intro dp un gd outer A₀ base g L ob h1 h2
  have d1 : dp + 4 < recursionLimit := by omega
  have d2 : dp + 2 < recursionLimit := by omega
  have d3 : un + 8 * 2 < cLine := by omega
  have d7 : un + 64 < cLine := by omega
  clear h1 h2
  obtain ⟨wy, hwy⟩ : ∃ wy, wayX x = wy := ⟨_, rfl⟩
  obtain ⟨dr, hdr⟩ : ∃ dr, drX x = dr := ⟨_, rfl⟩
  rw [hwy, hdr]
  have ww : wy = 1 ∨ wy = -1 := hwy ▸ wayX_two x
  have wd : dr < 0 := hdr ▸ drX_neg x
  refine .cons (Ws.asg (v := .int wy) (Ev.ifE (Ev.eq (Ev.mod (by decide) (Ev.fdiv (by decide) (Ev.name rfl) Ev.cInt) Ev.cInt) Ev.cInt) (fun q => ?_) fun q => ?_) rfl ?_)
  · rw [← hwy, wayX, if_pos q]; exact Ev.cInt
  · rw [← hwy, wayX, if_neg (by rw [q]; exact Bool.false_ne_true)]; exact Ev.neg Ev.cInt
  refine .cons (Ws.asg (v := cmpS w dr wy) (Ev.callF (Ev.glob rfl (by k_is)) (by k_is) (.cons (EvNew.ev (EvNew.disp (.cons (Ev.tup (.cons Ev.cInt (.cons (Ev.sub (Ev.neg Ev.cInt) (Ev.mod (by decide) (Ev.fdiv (by decide) (Ev.name rfl) Ev.cInt) Ev.cInt)) .nil)) (Nat.le_of_ble_eq_true rfl)) (.cons (Ev.tup (.cons Ev.cInt (.cons (Ev.name rfl) .nil)) (Nat.le_of_ble_eq_true rfl)) .nil)) (Nat.le_of_ble_eq_true rfl))) .nil) ?_) rfl ?_)
  · rw [show (-1 - (x.fdiv 256).fmod 3 : Int) = dr from hdr]
    exact Cv.mk (fI := 35) (by k_is) (by k_is) (by k_is) (by k_is) (by k_is) (by k_is) (by k_is) (by k_is) (by k_is) (fun s x y => BindsTo.of_eq rfl) rfl rfl (by decide) d1 (by decide) (by decide) rfl rfl rfl (by decide)
  refine .cons (Ws.asg (EvNew.ev (EvNew.disp .nil (by decide))) rfl ?_)
  refine .cons (Ws.forG (fun v => ((Str.ofString "row", v) :: ·)) (α := List IP) (fun os => [(Str.ofString "order", .list (os.map rS)), (Str.ofString "comparer", cmpS w dr wy), (Str.ofString "way", .int wy), (Str.ofString "weights", .list (ws.map .int)), (Str.ofString "x", .int x)]) (fun i os => os = ((rowsI ws).take i).foldl (insR dr wy) []) [] (ItF.enum (Ev.built rfl (by k_is) rfl (by decide)) (Ev.name rfl)) rfl (fun p hp => by simp at hp; rcases hp with rfl | rfl | rfl | rfl | rfl <;> rfl) ?_ ?_ ?_)
  · intro v hv
    rw [enum_rows] at hv
    obtain ⟨r, _, rfl⟩ := List.mem_map.mp hv
    exact TgS.name rfl fun _ _ _ h => h
  · rintro ob' i os v hos hv
    rw [enum_rows] at hv
    obtain ⟨T, hT, rfl⟩ := map_at hv
    have hl : os.length ≤ 4 := hos ▸ h4 ▸ ords_len wd ww ws i
    have step := ords_step (dr := dr) (wy := wy) hT
    rw [← hos] at step
    clear hv hT
    refine .cons (Ws.asgComp (os := os.map fun r => if ltR dr wy r T = true then some (rS r) else none) (ct := some _) rfl (by with_unfolding_all rfl) (It.list (Ev.name rfl)) rfl (by decide) (by decide) rfl ?_ ?_ ?_ ?_)
    · rw [List.length_map]; omega
    · rw [List.length_map, List.length_map]
    · intro K ob2 j u o hu ho
      obtain ⟨r, hr, rfl⟩ := map_at hu
      obtain ⟨r2, hr2, rfl⟩ := map_at ho
      rw [hr] at hr2; cases hr2
      refine ⟨_, Binds.name rfl rfl fun _ _ _ h => h, ltR dr wy r T, Ev.lt (Ev.meth (by k_is) (by k_is) (by k_is) (by decide) (by k_is) rfl (Ev.freeC rfl rfl rfl rfl rfl) (.cons (Ev.unsem (Ev.nameC rfl rfl rfl)) (.cons (Ev.unsem (Ev.freeC rfl rfl rfl rfl rfl)) .nil)) (compare_v dr wy r.1 r.2 T.1 T.2 _ rfl rfl rfl rfl d2 d3)) Ev.cInt, fun q => if_neg (by rw [q]; exact Bool.false_ne_true), fun q => ⟨_, if_pos q, Ev.nameC rfl rfl rfl⟩⟩
    rw [filt_some]
    refine .cons (Ws.asgComp (os := os.map fun r => if ltR dr wy T r = true then some (rS r) else none) (ct := some _) rfl (by with_unfolding_all rfl) (It.list (Ev.name rfl)) rfl (by decide) (by decide) rfl ?_ ?_ ?_ ?_)
    · rw [List.length_map]; omega
    · rw [List.length_map, List.length_map]
    · intro K ob2 j u o hu ho
      obtain ⟨r, hr, rfl⟩ := map_at hu
      obtain ⟨r2, hr2, rfl⟩ := map_at ho
      rw [hr] at hr2; cases hr2
      refine ⟨_, Binds.name rfl rfl fun _ _ _ h => h, ltR dr wy T r, Ev.lt (Ev.meth (by k_is) (by k_is) (by k_is) (by decide) (by k_is) rfl (Ev.freeC rfl rfl rfl rfl rfl) (.cons (Ev.unsem (Ev.freeC rfl rfl rfl rfl rfl)) (.cons (Ev.unsem (Ev.nameC rfl rfl rfl)) .nil)) (compare_v dr wy T.1 T.2 r.1 r.2 _ rfl rfl rfl rfl d2 d3)) Ev.cInt, fun q => if_neg (by rw [q]; exact Bool.false_ne_true), fun q => ⟨_, if_pos q, Ev.nameC rfl rfl rfl⟩⟩
    rw [filt_some]
    have l1 := List.length_filter_le (fun r => ltR dr wy r T) os
    have l2 := List.length_filter_le (ltR dr wy T) os
    refine .cons (Ws.asg (Ev.addL ?_ (Ev.addL ?_ (Ev.name rfl) (EvNew.ev (EvNew.disp (.cons (Ev.name rfl) .nil) (Nat.le_of_ble_eq_true rfl)))) (Ev.name rfl)) rfl (.nil ⟨_, step, ?_⟩))
    · rw [List.length_append, List.length_map, List.length_map]; simp only [List.length_cons, List.length_nil]; omega
    · rw [List.length_map]; simp only [List.length_cons, List.length_nil]; omega
    · rw [insR, List.map_append, List.map_append]
      exact List.forall_mem_cons.mpr ⟨rfl, List.forall_mem_cons.mpr ⟨rfl, List.forall_mem_cons.mpr ⟨rfl, List.forall_mem_cons.mpr ⟨rfl, List.forall_mem_cons.mpr ⟨rfl, List.forall_mem_nil _⟩⟩⟩⟩⟩
  · rintro os hos
    rw [enum_rows, List.length_map, List.take_length] at hos
    obtain ⟨p, q⟩ := order_spec wd ww ws
    have hF : frontsL dr wy ws = (List.range 5).map fun k => ((os.take k).map (·.2)).sum := by rw [hos]; rfl
    have hl : os.length = 4 := by
      rw [hos]
      exact p.length_eq.trans (by rw [rowsI, List.length_map, List.length_zipIdx, h4])
    have hq : os.Pairwise (CLt wy) := hos ▸ q
    rw [hF]
    clear hF hos p q h4 hwy hdr wd
    obtain ⟨a, b, c, d, rfl⟩ : ∃ a b c d, os = [a, b, c, d] := by
      match os, hl with
      | [a, b, c, d], _ => exact ⟨a, b, c, d, rfl⟩
    have hc : ∀ k, k < 3 → ∃ r t, [a, b, c, d][k]? = some r ∧ [a, b, c, d][k + 1]? = some t ∧ CLt wy r t ∧ ([a, b, c, d].getD k a) = r ∧ ([a, b, c, d].getD (k + 1) a) = t := fun k hk => by
      simp only [List.pairwise_cons, List.mem_cons] at hq
      match k, hk with
      | 0, _ => exact ⟨a, b, rfl, rfl, hq.1 b (.inl rfl), rfl, rfl⟩
      | 1, _ => exact ⟨b, c, rfl, rfl, hq.2.1 c (.inl rfl), rfl, rfl⟩
      | 2, _ => exact ⟨c, d, rfl, rfl, hq.2.2.1 d (.inl rfl), rfl, rfl⟩
    have mulOk : ∀ z : Int, IntMulOk wy z := fun z => by rcases ww with rfl | rfl <;> exact IntMulOk.of_left (by decide)
    clear hq ww
    refine .cons (Ws.asgCompA (vs := (List.range 3).map fun k => .tup [rS ([a, b, c, d].getD k a), rS ([a, b, c, d].getD (k + 1) a)]) (by with_unfolding_all rfl) (It.range (k := 3) ?_ (by decide) (Ev.built rfl (by k_is) rfl (by decide)) (Ev.sub (Ev.callB (Ev.built rfl (by k_is) rfl (by decide)) (.cons (Ev.name rfl) .nil) (Cv.lenL (Nat.le_of_ble_eq_true rfl))) Ev.cInt)) rfl (by decide) (by decide) rfl (by decide) rfl ?_ ?_)
    · rfl
    · intro K ob2 j u o hu ho
      obtain ⟨hk, rfl⟩ := rng_at hu
      obtain ⟨k, hk', rfl⟩ := map_at ho
      rw [List.getElem?_range hk] at hk'; cases hk'
      obtain ⟨r, t, e1, e2, -, g1, g2⟩ := hc j hk
      rw [g1, g2]
      exact ⟨_, Binds.name rfl rfl fun _ _ _ h => h, Ev.tup (.cons (Ev.itemL (Ev.freeC rfl rfl rfl rfl rfl) (Ev.nameC rfl rfl rfl) (Int.natCast_nonneg _) (by omega) (by rw [List.getElem?_map, Int.toNat_natCast, e1]; rfl)) (.cons (Ev.itemL (Ev.freeC rfl rfl rfl rfl rfl) (Ev.add (Ev.nameC rfl rfl rfl) Ev.cInt) (by omega) (by omega) (by rw [List.getElem?_map, show ((j : Int) + 1).toNat = j + 1 from rfl, e2]; rfl)) .nil)) (Nat.le_of_ble_eq_true rfl)⟩
    refine .cons (Ws.ite (.or (.cons (Ev.ne (Ev.callB (Ev.built rfl (by k_is) rfl (by decide)) (.cons (Ev.name rfl) .nil) (Cv.lenL (Nat.le_of_ble_eq_true rfl))) Ev.cInt) fun _ => .cons (Ev.neL (ns := []) (ms := []) d7 (Ev.compN (by with_unfolding_all rfl) (It.listT (Ev.name rfl)) rfl (by decide) (by decide) (by rw [List.length_map]; decide) ?_) (EvNew.ev (EvNew.disp .nil (by decide)))) fun _ => .nil)) (fun q => Bool.noConfusion (q : false = true)) fun _ => .nil ?_)
    · intro K ob2 j u hu
      obtain ⟨k, hk', rfl⟩ := map_at hu
      have hj : j < 3 := by have := (List.getElem?_eq_some_iff.mp hk').1; rwa [List.length_range] at this
      rw [List.getElem?_range hj] at hk'; cases hk'
      obtain ⟨r, t, -, -, lt, g1, g2⟩ := hc j hj
      rw [g1, g2]
      refine ⟨_, Binds.pair rfl rfl rfl (by decide), ?_⟩
      have e : ((r.2 == t.2) && (decide (wy * t.1 < wy * r.1) && true)) = false := by
        rcases lt with h | ⟨h1, h2⟩
        · rw [Bool.and_eq_false_iff]; exact .inl (beq_eq_false_iff_ne.mpr (by omega))
        · rw [Bool.and_eq_false_iff, Bool.and_eq_false_iff]; exact .inr (.inl (decide_eq_false (by omega)))
      refine e ▸ EvT.and (.cons (Ev.eq (Ev.itemT (Nat.le_of_ble_eq_true rfl) (Ev.unsem (Ev.nameC rfl rfl rfl)) Ev.cInt (n := 1) rfl (by decide) (by decide) rfl) (Ev.itemT (Nat.le_of_ble_eq_true rfl) (Ev.unsem (Ev.nameC rfl rfl rfl)) Ev.cInt (n := 1) rfl (by decide) (by decide) rfl)) fun _ =>
        .cons (Ev.gt (Ev.mul (mulOk _) (Ev.freeC rfl rfl rfl rfl rfl) (Ev.itemT (Nat.le_of_ble_eq_true rfl) (Ev.unsem (Ev.nameC rfl rfl rfl)) Ev.cInt (n := 0) rfl (by decide) (by decide) rfl)) (Ev.mul (mulOk _) (Ev.freeC rfl rfl rfl rfl rfl) (Ev.itemT (Nat.le_of_ble_eq_true rfl) (Ev.unsem (Ev.nameC rfl rfl rfl)) Ev.cInt (n := 0) rfl (by decide) (by decide) rfl))) fun _ => .nil)
    refine .cons (Ws.ret (Ev.compA (vs := ((List.range 5).map fun k => (([a, b, c, d].take k).map (·.2)).sum).map .int) (by with_unfolding_all rfl) (It.range (k := 5) rfl (by decide) (Ev.built rfl (by k_is) rfl (by decide)) Ev.cInt) rfl (by decide) (by decide) (by decide) rfl ?_) rfl)
    intro K ob2 j u o hu ho
    obtain ⟨hk, rfl⟩ := rng_at hu
    obtain ⟨z, hz, rfl⟩ := map_at ho
    obtain ⟨k, hk', rfl⟩ := map_at hz
    rw [List.getElem?_range hk] at hk'; cases hk'
    clear hu ho hz
    have ht : pickV ([a, b, c, d].map rS) none (some (j : Int)) = ([a, b, c, d].take j).map rS := by
      match j, hk with
      | 0, _ => rfl
      | 1, _ => rfl
      | 2, _ => rfl
      | 3, _ => rfl
      | 4, _ => rfl
    refine ⟨_, Binds.name rfl rfl fun _ _ _ h => h, Ev.callB (Ev.builtC rfl rfl (by k_is) rfl (by decide)) (.cons (Ev.nest (Ev.compPA (vs := (([a, b, c, d].take j).map (·.2)).map .int) (cl := []) (cl' := fun _ => []) (by with_unfolding_all rfl) (It.listT (Ev.rows (Ev.castL ht (Ev.partN (Nat.le_of_ble_eq_true rfl) (Ev.flat fun _ => Ev.freeC rfl rfl rfl rfl rfl) (Ev.flat fun _ => Ev.nameC rfl rfl rfl))))) rfl (NewEnv.plain (by decide) rfl) (by decide) ?_ ?_ ?_)) .nil) Cv.sumL⟩
    · rw [List.length_map, List.length_take]; exact Nat.le_trans (Nat.min_le_left _ _) (by omega)
    · simp only [List.length_map]
    · intro K2 ob3 i u o hu ho
      obtain ⟨r, hr, rfl⟩ := map_at hu
      obtain ⟨z, hz, rfl⟩ := map_at ho
      obtain ⟨r2, hr2, rfl⟩ := map_at hz
      rw [hr] at hr2; cases hr2
      exact ⟨_, Binds.pair rfl rfl rfl (by decide), Ev.nameC rfl rfl rfl⟩
end Mine
end
section
open PySem PySem.W PyProof.Rows PySem.Calls PySem.Spec
set_option maxRecDepth 100000
set_option maxHeartbeats 4000000
namespace Mine
noncomputable def cStep (xs cs : List Int) (k : Nat) : List Int := cs.set (k % 4) (cs.getD (k % 4) 0 + xs.getD k 0)
noncomputable def cellsF (xs : List Int) : List Int := (List.range xs.length).foldl (cStep xs) [1075, 36, 78, 19]
theorem cStep_len (xs cs : List Int) (k : Nat) : (cStep xs cs k).length = cs.length := List.length_set ..
theorem cfold_len (xs : List Int) : ∀ (ks : List Nat) (cs : List Int), (ks.foldl (cStep xs) cs).length = cs.length
  | [], _ => rfl
  | k :: ks, cs => (cfold_len xs ks _).trans (cStep_len ..)
theorem cells_len (xs : List Int) : (cellsF xs).length = 4 := cfold_len xs _ _
theorem m4n (k : Nat) : (k : Int).fmod 4 = ((k % 4 : Nat) : Int) := by
  rw [Int.fmod_eq_emod_of_nonneg _ (by decide)]; rfl
theorem fill_JW13 : (hd.heap_39, PySem.Challenge.rw_jc0009_01) = (hd.heap_39, PySem.Challenge.rw_jc0009_01) := by
  k_fill
  exact rfl
theorem cells_v {w : World} {mg mb : Str → Option Value} {mean : ExcName → Option Value} (xs : List Int) (hx : xs.length ≤ 63) : CtV w mg mb mean 77 2 [.sem (lsSm xs)] (.list (ILs (cellsF xs))) := by
  k_dflt (refine' ctv_of [Str.ofString "script"] ?ho ?hcd ?hD ?hb ?hln ?hl ?hnd ?km ?c1 ?c2 ?c3 ?c4; (case ho => k_is); (case hcd => k_is); (case hD => decide); (case hb => exact fun s => len1 fun _ => BindsTo.of_eq rfl); (case hln => rfl); (case hl => decide); (case hnd => decide); (case c1 => exact rfl); (case c2 => exact rfl); (case c3 => exact rfl); (case c4 => decide))
  intro dp un gd outer A₀ base g L ob h1 h2
  clear h1 h2
  refine .new (EvNew.disp (vs := ILs [1075, 36, 78, 19]) (.cons Ev.cInt (.cons Ev.cInt (.cons Ev.cInt (.cons Ev.cInt .nil)))) (by decide)) rfl fun r hr => ?_
  refine .cons (.for (α := List Int) (fun cs => [(Str.ofString "cells", .mut r (ILs cs)), (Str.ofString "script", .sem (lsSm xs))]) (fun i cs => cs = (List.range i).foldl (cStep xs) [1075, 36, 78, 19]) [1075, 36, 78, 19] (It.range (k := xs.length) ?_ (by omega) (Ev.built rfl (by k_is) rfl (by decide)) (Ev.callB (Ev.built rfl (by k_is) rfl (by decide)) (.cons (Ev.name rfl) .nil) (Cv.lenSm ?_))) rfl rfl (List.forall_mem_cons.mpr ⟨rfl, List.forall_mem_cons.mpr ⟨rfl, List.forall_mem_nil _⟩⟩) ?_ ?_ ?_)
  · rfl
  · omega
  · intro w hw h bad v iv
    obtain ⟨i, _, rfl⟩ := List.mem_map.mp hw
    exact iv
  · rintro ob' i cs w hcs hw
    obtain ⟨hi, rfl⟩ := rng_at hw
    have hc : cs.length = 4 := hcs ▸ cfold_len xs _ _
    have h4 : (i : Int).fmod 4 = ((i % 4 : Nat) : Int) := m4n i
    have hm : i % 4 < cs.length := Nat.lt_of_lt_of_eq (Nat.mod_lt _ (by decide)) hc.symm
    refine .cons (.augM rfl (Ev.mod (by decide) (Ev.name rfl) Ev.cInt) (Ev.itemS (Ev.name rfl) (Ev.name rfl) (Int.natCast_nonneg _) (by omega) (ints_at (k := i) hi)) (h4 ▸ Int.natCast_nonneg _) (h4 ▸ by omega) (v := cs.getD (i % 4) 0) (by rw [h4, Int.toNat_natCast]; exact ints_at hm) ?_ iadd_int)
    refine .nil ⟨cStep xs cs i, ?_, List.forall_mem_cons.mpr ⟨?_, List.forall_mem_cons.mpr ⟨rfl, List.forall_mem_nil _⟩⟩⟩
    · rw [List.range_succ, List.foldl_append, ← hcs]; rfl
    · rw [h4, Int.toNat_natCast, ints_set]; rfl
  · rintro cs hcs
    rw [List.length_map, List.length_range] at hcs
    exact .cons (.retM rfl hr (congrArg (fun l => AV.list (ILs l)) hcs))
end Mine
end
section
open PySem PySem.W PyProof.Rows PySem.Calls PySem.Spec
namespace Mine
/-! add_callers: what it makes -/
noncomputable abbrev TT := List (Int × List Int)
noncomputable def kvA (l : TT) : List (Int × AV) := l.map fun x => (x.1, .tup (x.2.map .int))
noncomputable def addF (f x : List Int) : List Int := (List.range 4).map fun i => f.getD i 0 + x.getD i 0
noncomputable def addStep (a : TT) (kf : Int × List Int) : TT :=
  if a.any (fun x => x.1 = kf.1) then a.map (fun x => if x.1 = kf.1 then (x.1, addF kf.2 x.2) else x) else a ++ [kf]
noncomputable def addL (a b : TT) : TT := b.foldl addStep a
noncomputable def ok4 (l : TT) : Prop := (∀ x ∈ l, x.2.length = 4) ∧ (l.map (·.1)).Nodup
theorem kvA_keys (l : TT) : (kvA l).map Prod.fst = l.map (·.1) := by rw [kvA, List.map_map]; rfl
theorem kvA_any (l : TT) (k : Int) : ((kvA l).any fun kv => kv.1 = k) = l.any fun x => x.1 = k := by rw [kvA, List.any_map]; rfl
theorem kvA_at {l : TT} {i : Nat} {v : AV} (h : ((kvA l).map fun p => AV.tup [.int p.1, p.2])[i]? = some v) : ∃ x, l[i]? = some x ∧ v = .tup [.int x.1, .tup (x.2.map .int)] := by
  rw [kvA, List.map_map, List.getElem?_map] at h
  cases q : l[i]? with
  | none => rw [q] at h; cases h
  | some x => rw [q] at h; cases h; exact ⟨x, rfl, rfl⟩
theorem addF_len (f x : List Int) : (addF f x).length = 4 := by simp [addF]
theorem addI_F {f x : List Int} (h : f.length = 4) : addI f x = addF f x := by rw [addI, h]; rfl
/-- a key that is new -/
theorem put_new {l : TT} {x : Int × List Int} (h : (l.any fun y => y.1 = x.1) = false) : putK (kvA l) x.1 (.tup (x.2.map .int)) = kvA (l ++ [x]) := by
  unfold putK
  rw [kvA_any, h, if_neg Bool.false_ne_true, kvA, kvA, List.map_append]; rfl
theorem put_old {l : TT} {k : Int} {f x : List Int} (hl : f.length = 4) (hn : (l.map (·.1)).Nodup) (hx : (k, x) ∈ l) : putK (kvA l) k (.tup ((addI f x).map .int)) = kvA (addStep l (k, f)) := by
  have ha : (l.any fun y => y.1 = k) = true := List.any_eq_true.mpr ⟨_, hx, decide_eq_true rfl⟩
  unfold putK addStep
  rw [kvA_any, ha, if_pos rfl, if_pos rfl, kvA, kvA, List.map_map, List.map_map]
  refine List.map_congr_left fun y hy => ?_
  by_cases q : y.1 = k
  · have : y = (k, x) := by
      clear ha
      induction l with
      | nil => cases hy
      | cons z l ih =>
        rw [List.map_cons, List.nodup_cons] at hn
        rcases List.mem_cons.mp hx with e1 | e1 <;> rcases List.mem_cons.mp hy with e2 | e2
        · rw [e1, e2]
        · exact absurd (by rw [← e1]; show k ∈ _; rw [← q]; exact List.mem_map_of_mem e2) hn.1
        · subst e2
          exact absurd (by rw [q]; exact List.mem_map_of_mem e1) hn.1
        · exact ih hn.2 e1 e2
    subst this
    simp [addI_F hl]
  · simp [q]
theorem addStep_new {l : TT} {x : Int × List Int} (h : (l.any fun y => y.1 = x.1) = false) : addStep l x = l ++ [x] := by
  unfold addStep; rw [h, if_neg Bool.false_ne_true]
theorem addStep_ok {l : TT} {x : Int × List Int} (h : ok4 l) (hx : x.2.length = 4) : ok4 (addStep l x) := by
  cases q : l.any fun y => y.1 = x.1 with
  | false =>
    rw [addStep_new q]
    refine ⟨fun y hy => (List.mem_append.mp hy).elim (h.1 y) fun hy => List.mem_singleton.mp hy ▸ hx, ?_⟩
    rw [List.map_append]
    refine List.nodup_append.mpr ⟨h.2, by simp, fun a ha b hb e => ?_⟩
    obtain ⟨y, hy, rfl⟩ := List.mem_map.mp ha
    rw [List.map_singleton, List.mem_singleton] at hb
    exact List.any_eq_false.mp q y hy (decide_eq_true (e.trans hb))
  | true =>
    unfold addStep
    rw [q, if_pos rfl]
    refine ⟨fun y hy => ?_, ?_⟩
    · obtain ⟨z, hz, rfl⟩ := List.mem_map.mp hy
      split
      · exact addF_len _ _
      · exact h.1 z hz
    · rw [List.map_map, List.map_congr_left (g := (·.1)) fun y _ => by show (if y.1 = x.1 then (y.1, addF x.2 y.2) else y).1 = y.1; split <;> rfl]
      exact h.2
theorem addStep_len (l : TT) (x : Int × List Int) : (addStep l x).length ≤ l.length + 1 := by
  unfold addStep; split <;> simp
theorem addL_take {T S : TT} {i : Nat} {x : Int × List Int} (h : S[i]? = some x) : addL T (S.take (i + 1)) = addStep (addL T (S.take i)) x := by
  unfold addL; rw [List.take_add_one, h, List.foldl_append]; rfl
theorem addL_ok {T : TT} : ∀ {S : TT}, ok4 T → (∀ x ∈ S, x.2.length = 4) → ok4 (addL T S) ∧ (addL T S).length ≤ T.length + S.length
  | [], h, _ => ⟨h, Nat.le_refl _⟩
  | x :: S, h, hS => by
    have h1 := addL_ok (S := S) (addStep_ok h (hS x (.head _))) fun y hy => hS y (.tail _ hy)
    refine ⟨h1.1, Nat.le_trans h1.2 ?_⟩
    have := addStep_len T x
    rw [List.length_cons]; omega
theorem take_new {T : TT} {i : Nat} {x : Int × List Int} (h : ok4 T) (hx : T[i]? = some x) : T.take (i + 1) = T.take i ++ [x] ∧ ((T.take i).any fun y => y.1 = x.1) = false := by
  have e : T.take (i + 1) = T.take i ++ [x] := by rw [List.take_add_one, hx]; rfl
  refine ⟨e, ?_⟩
  have h2 : ((T.take (i + 1)).map (·.1)).Nodup := h.2.sublist ((List.take_sublist _ _).map _)
  rw [e, List.map_append] at h2
  rw [List.any_eq_false]
  intro y hy q
  exact (List.nodup_append.mp h2).2.2 y.1 (List.mem_map_of_mem hy) x.1 (by simp) (of_decide_eq_true q)
end Mine
end
section
open PySem PySem.W PyProof.Rows PySem.Calls PySem.Spec
set_option maxRecDepth 100000
set_option maxHeartbeats 4000000
namespace Mine
theorem fill_JW14 : (hd.heap_39, PySem.Challenge.rw_jc0009_01) = (hd.heap_39, PySem.Challenge.rw_jc0009_01) := by
  k_fill
  exact rfl
noncomputable def putFC : AV → Loc → Loc
  | .tup [a, b], σ => (Str.ofString "caller", b) :: (Str.ofString "func", a) :: σ
  | _, σ => σ
theorem add_v {w : World} {mg mb : Str → Option Value} {mean : ExcName → Option Value} (T S : TT) (hT : ok4 T) (hS : ∀ x ∈ S, x.2.length = 4) (lT : T.length ≤ 100) (lS : S.length ≤ 100) : CtH w mg mb mean 56 20 [.sem (dictSm w (kvA T)), .sem (dictSm w (kvA S))] (.sem (dictSm w (kvA (addL T S)))) := by
  k_dflt (refine' ctH_of [Str.ofString "target", Str.ofString "source"] ?ho ?hcd ?hD ?hb ?hln ?hl ?hnd ?km ?c1 ?c2 ?c3 ?c4; (case ho => k_is); (case hcd => k_is); (case hD => decide); (case hb => exact fun s => len2 fun _ _ => BindsTo.of_eq rfl); (case hln => rfl); (case hl => decide); (case hnd => decide); (case c1 => exact rfl); (case c2 => exact rfl); (case c3 => exact rfl); (case c4 => decide))
  intro dp un gd outer A₀ base g L ob h1 h2
  have d1 : dp < recursionLimit := by omega
  clear h1 h2
  refine Wg.newD rfl fun a ha lo => ?_
  refine .cons (WgS.forG putFC (α := TT) (fun R => [(Str.ofString "new_callers", mutD w a (kvA R)), (Str.ofString "target", .sem (dictSm w (kvA T))), (Str.ofString "source", .sem (dictSm w (kvA S)))]) (fun i R => R = T.take i) [] (It.items (Ev.name rfl)).toF rfl (fun p hp => by simp at hp; rcases hp with rfl | rfl | rfl <;> rfl) ?_ ?_ ?_)
  · intro v hv
    obtain ⟨i, hi⟩ := List.getElem?_of_mem hv
    obtain ⟨x, _, rfl⟩ := kvA_at hi
    exact TgS.pair rfl rfl
  · rintro ob' i R v hR hv
    obtain ⟨x, hx, rfl⟩ := kvA_at hv
    obtain ⟨t1, t2⟩ := take_new hT hx
    have lR : R.length ≤ 100 := by rw [hR, List.length_take]; omega
    refine .cons (WgS.setD rfl (Ev.toG (Ev.name rfl)) (Ev.name rfl) (by rw [kvA, List.length_map]; omega) (.nil ⟨R ++ [x], hR ▸ t1.symm, fun p hp => ?_⟩))
    simp at hp
    rcases hp with rfl | rfl | rfl
    · rw [← put_new (hR ▸ t2)]; rfl
    · rfl
    · rfl
  rintro _ rfl
  rw [List.length_map, show (kvA T).length = T.length from List.length_map .., List.take_length]
  refine .cons (WgS.forG putFC (α := TT) (fun R => [(Str.ofString "new_callers", mutD w a (kvA R)), (Str.ofString "target", .sem (dictSm w (kvA T))), (Str.ofString "source", .sem (dictSm w (kvA S)))]) (fun i R => R = addL T (S.take i)) T (It.items (Ev.name rfl)).toF rfl (fun p hp => by simp at hp; rcases hp with rfl | rfl | rfl <;> rfl) ?_ ?_ ?_)
  · intro v hv
    obtain ⟨i, hi⟩ := List.getElem?_of_mem hv
    obtain ⟨x, _, rfl⟩ := kvA_at hi
    exact TgS.pair rfl rfl
  · rintro ob' i R v hR hv
    obtain ⟨⟨k, f⟩, hx, rfl⟩ := kvA_at hv
    have hf : f.length = 4 := hS (k, f) (List.mem_of_getElem? hx)
    have hok := addL_ok (T := T) (S := S.take i) hT fun x h => hS x (List.mem_of_mem_take h)
    rw [← hR] at hok
    have lR : R.length ≤ 200 := by have := hok.2; rw [List.length_take] at this; omega
    have step := addL_take (T := T) hx
    rw [← hR] at step
    refine .cons (WgS.ite (EvT.inMD (Ev.name rfl) rfl lo) (fun q => ?_) fun q => ?_)
    · rw [kvA_any] at q
      obtain ⟨⟨k', x⟩, hxR, hk⟩ := List.any_eq_true.mp q
      obtain rfl := of_decide_eq_true hk
      have hxl := hok.1.1 _ hxR
      refine .cons (WgS.ite (EvT.bool (Ev.callB (Ev.built rfl (by k_is) rfl (by decide)) (.cons (Ev.name rfl) (.cons (Ev.built rfl (by k_is) rfl (by decide)) .nil)) Cv.isTup)) (fun _ => ?_) nofun)
      refine .cons (WgS.setD rfl (EvG.genTup (is := f) (js := x) (Ev.built rfl (by k_is) rfl (by decide)) (Ev.built rfl (by k_is) rfl (by decide)) (.cons (Ev.name rfl) (.cons (Ev.itemMD rfl (Ev.name rfl) (by rw [kvA_keys]; exact hok.1.2) (List.mem_map_of_mem (f := fun x : Int × List Int => (x.1, AV.tup (x.2.map .int))) hxR)) .nil)) rfl d1 (hxl.trans hf.symm) (by rw [hf]; decide) rfl rfl (by with_unfolding_all rfl) (by decide) rfl rfl rfl (by decide) rfl (fun _ _ => rfl) (fun _ _ => rfl) rfl rfl (by intro _; rfl) rfl rfl) (Ev.name rfl) (by rw [kvA, List.length_map]; omega) (.nil (.nil (.nil ⟨addStep R (k', f), step.symm, fun p hp => ?_⟩))))
      simp at hp
      rcases hp with rfl | rfl | rfl
      · rw [← put_old hf hok.1.2 hxR]; rfl
      · rfl
      · rfl
    · rw [kvA_any] at q
      refine .cons (WgS.setD rfl (Ev.toG (Ev.name rfl)) (Ev.name rfl) (by rw [kvA, List.length_map]; omega) (.nil (.nil ⟨R ++ [(k, f)], ?_, fun p hp => ?_⟩)))
      · rw [step, addStep_new q]
      · simp at hp
        rcases hp with rfl | rfl | rfl
        · rw [← put_new q]; rfl
        · rfl
        · rfl
  rintro _ rfl
  rw [List.length_map, show (kvA S).length = S.length from List.length_map .., List.take_length]
  exact .cons (WgS.retD rfl ha lo rfl)
end Mine
end
section
set_option maxRecDepth 100000
set_option maxHeartbeats 4000000
namespace Mine
/-! the products: coefficients of Π (z + p) -/
noncomputable def cstep (c : Nat → Int) (p : Int) : Nat → Int := fun k => (match k with | 0 => 0 | k + 1 => c k) + c k * p
theorem cstep_comm (c : Nat → Int) (p q : Int) : cstep (cstep c p) q = cstep (cstep c q) p := by
  funext k
  unfold cstep
  match k with
  | 0 => simp only [Int.zero_add]; rw [Int.mul_assoc, Int.mul_assoc, Int.mul_comm p q]
  | 1 => simp only [Int.zero_add]; grind
  | k + 2 => simp only []; grind
noncomputable def c0 : Nat → Int := fun k => if k = 0 then 1 else 0
noncomputable def cf (ps : List Int) : Nat → Int := ps.foldl cstep c0
theorem cf_perm {a b : List Int} (h : a.Perm b) : cf a = cf b := by
  unfold cf
  exact h.foldl_eq' (fun x _ y _ z => cstep_comm z x y) c0
/-- of sorted rows -/
noncomputable def pw (q : Nat) : Int := 3 ^ (2 * q)
noncomputable def cfq (q0 q1 q2 q3 k : Nat) : Int := cf [pw q0, pw q1, pw q2, pw q3] k
noncomputable def fq (q0 q1 q2 q3 k : Nat) : Nat := match k with | 0 => 0 | 1 => q0 | 2 => q0 + q1 | 3 => q0 + q1 + q2 | _ => q0 + q1 + q2 + q3
/-- all sorted rows of four with the sum S -/
noncomputable def sumAll (S : Nat) (P : Nat → Nat → Nat → Nat → Bool) : Bool := (List.range (S + 1)).all fun q0 => (List.range (Nat.min q0 (S - q0) + 1)).all fun q1 => (List.range (Nat.min q1 (S - q0 - q1) + 1)).all fun q2 => !(Nat.ble (S - q0 - q1 - q2) q2) || P q0 q1 q2 (S - q0 - q1 - q2)
theorem sumAll_at {S : Nat} {P : Nat → Nat → Nat → Nat → Bool} (h : sumAll S P = true) {q0 q1 q2 q3 : Nat} (h1 : q1 ≤ q0) (h2 : q2 ≤ q1) (h3 : q3 ≤ q2) (hs : q0 + q1 + q2 + q3 = S) : P q0 q1 q2 q3 = true := by
  unfold sumAll at h
  rw [List.all_eq_true] at h
  have h := h q0 (List.mem_range.mpr (by omega))
  rw [List.all_eq_true] at h
  have h := h q1 (List.mem_range.mpr (Nat.lt_succ_of_le (Nat.le_min.mpr ⟨h1, by omega⟩)))
  rw [List.all_eq_true] at h
  have h := h q2 (List.mem_range.mpr (Nat.lt_succ_of_le (Nat.le_min.mpr ⟨h2, by omega⟩)))
  rw [show S - q0 - q1 - q2 = q3 by omega, Nat.ble_eq_true_of_le h3] at h
  simpa using h
noncomputable def sortedAll (N : Nat) (P : Nat → Nat → Nat → Nat → Bool) : Bool := (List.range (N + 1)).all fun S => sumAll S P
theorem sortedAll_at {N : Nat} {P : Nat → Nat → Nat → Nat → Bool} (h : sortedAll N P = true) {q0 q1 q2 q3 : Nat} (h1 : q1 ≤ q0) (h2 : q2 ≤ q1) (h3 : q3 ≤ q2) (hs : q0 + q1 + q2 + q3 ≤ N) : P q0 q1 q2 q3 = true := by
  unfold sortedAll at h
  rw [List.all_eq_true] at h
  exact sumAll_at (h (q0 + q1 + q2 + q3) (List.mem_range.mpr (by omega))) h1 h2 h3 rfl
noncomputable def bndB (q0 q1 q2 q3 : Nat) : Bool := (List.range 5).all fun k => decide ((3 : Int) ^ (2 * fq q0 q1 q2 q3 k) ≤ cfq q0 q1 q2 q3 (4 - k)) && decide (cfq q0 q1 q2 q3 (4 - k) ≤ 6 * 3 ^ (2 * fq q0 q1 q2 q3 k))
theorem bnd_all : sortedAll 12 bndB = true := by decide +kernel
theorem bnd {q0 q1 q2 q3 k : Nat} (h1 : q1 ≤ q0) (h2 : q2 ≤ q1) (h3 : q3 ≤ q2) (hs : q0 + q1 + q2 + q3 ≤ 12) (hk : k < 5) :
    (3 : Int) ^ (2 * fq q0 q1 q2 q3 k) ≤ cfq q0 q1 q2 q3 (4 - k) ∧ cfq q0 q1 q2 q3 (4 - k) ≤ 6 * 3 ^ (2 * fq q0 q1 q2 q3 k) := by
  have h := sortedAll_at bnd_all h1 h2 h3 hs
  unfold bndB at h
  rw [List.all_eq_true] at h
  have h := h k (List.mem_range.mpr hk)
  simpa using h
/-- the coefficients as sums of products of natural numbers -/
noncomputable def coe4 (a b c d k : Nat) : Nat := match k with | 0 => a * b * c * d | 1 => a * b * c + a * b * d + a * c * d + b * c * d | 2 => a * b + a * c + a * d + b * c + b * d + c * d | 3 => a + b + c + d | _ => 1
theorem pw_nat (q : Nat) : pw q = ((9 ^ q : Nat) : Int) := by
  unfold pw
  rw [Int.pow_mul, Int.natCast_pow]
  rfl
theorem cfq_coe4 {q0 q1 q2 q3 k : Nat} (hk : k < 5) : cfq q0 q1 q2 q3 k = (coe4 (9 ^ q0) (9 ^ q1) (9 ^ q2) (9 ^ q3) k : Nat) := by
  unfold cfq
  rw [pw_nat, pw_nat, pw_nat, pw_nat]
  generalize 9 ^ q0 = a
  generalize 9 ^ q1 = b
  generalize 9 ^ q2 = c
  generalize 9 ^ q3 = d
  match k, hk with
  | 0, _ => simp only [cf, List.foldl, cstep, c0, coe4, Int.natCast_mul]; grind
  | 1, _ => simp only [cf, List.foldl, cstep, c0, coe4, Int.natCast_mul, Int.natCast_add]; grind
  | 2, _ => simp only [cf, List.foldl, cstep, c0, coe4, Int.natCast_mul, Int.natCast_add]; grind
  | 3, _ => simp only [cf, List.foldl, cstep, c0, coe4, Int.natCast_mul, Int.natCast_add]; grind
  | 4, _ => simp only [cf, List.foldl, cstep, c0, coe4]; grind
noncomputable def domN (a b c d x y z t : Nat) : Bool := Nat.ble (coe4 x y z t 0) (coe4 a b c d 0) && (Nat.ble (coe4 x y z t 1) (coe4 a b c d 1) && (Nat.ble (coe4 x y z t 2) (coe4 a b c d 2) && Nat.ble (coe4 x y z t 3) (coe4 a b c d 3)))
noncomputable def domB (q0 q1 q2 q3 : Nat) : Bool := sumAll (q0 + q1 + q2 + q3) fun r0 r1 r2 r3 => !(Nat.ble r0 q0) || !(Nat.ble (r0 + r1) (q0 + q1)) || !(Nat.ble (r0 + r1 + r2) (q0 + q1 + q2)) ||
  domN (9 ^ q0) (9 ^ q1) (9 ^ q2) (9 ^ q3) (9 ^ r0) (9 ^ r1) (9 ^ r2) (9 ^ r3)
theorem dom_all : sortedAll 12 domB = true := by decide +kernel
theorem dom {q0 q1 q2 q3 r0 r1 r2 r3 k : Nat} (h1 : q1 ≤ q0) (h2 : q2 ≤ q1) (h3 : q3 ≤ q2) (hs : q0 + q1 + q2 + q3 ≤ 12) (g1 : r1 ≤ r0) (g2 : r2 ≤ r1) (g3 : r3 ≤ r2) (e : r0 + r1 + r2 + r3 = q0 + q1 + q2 + q3)
    (d0 : r0 ≤ q0) (d1 : r0 + r1 ≤ q0 + q1) (d2 : r0 + r1 + r2 ≤ q0 + q1 + q2) (hk : k < 5) : cfq r0 r1 r2 r3 k ≤ cfq q0 q1 q2 q3 k := by
  have h := sumAll_at (sortedAll_at dom_all h1 h2 h3 hs) g1 g2 g3 e
  rw [Nat.ble_eq_true_of_le d0, Nat.ble_eq_true_of_le d1, Nat.ble_eq_true_of_le d2] at h
  simp only [Bool.not_true, Bool.false_or] at h
  simp only [domN, Bool.and_eq_true] at h
  obtain ⟨k0, k1, k2, k3⟩ := h
  rw [cfq_coe4 hk, cfq_coe4 hk]
  refine Int.ofNat_le.mpr ?_
  match k, hk with
  | 0, _ => exact Nat.le_of_ble_eq_true k0
  | 1, _ => exact Nat.le_of_ble_eq_true k1
  | 2, _ => exact Nat.le_of_ble_eq_true k2
  | 3, _ => exact Nat.le_of_ble_eq_true k3
  | 4, _ => exact Nat.le_refl _
end Mine
end
section
open PySem PySem.W PyProof.Rows PySem.Calls PySem.Spec
namespace Mine
/-! products: what its loop makes -/
noncomputable def upL (a : TT) : TT := a.map fun x => (x.1 + 1, x.2)
noncomputable def scL (a : TT) (pq : Int × Int) : TT := a.map fun x => (x.1, [x.2.getD 0 0 * pq.1, x.2.getD 1 0 * pq.2, x.2.getD 2 0 * pq.2, x.2.getD 3 0 * pq.1])
noncomputable def stepT (a : TT) (pq : Int × Int) : TT := addL (upL a) (scL a pq)
noncomputable def tabL (l : List (Int × Int)) : List (Int × List Int) := l.foldl stepT [(0, [1, 1, 1, 1])]
noncomputable def wholeL (l : List (Int × Int)) : Int × Int := l.foldl (fun a pq => (a.1 * (1 + pq.1), a.2 * (1 + pq.2))) (1, 1)
theorem tabL_keys (l : List (Int × Int)) (h : l.length ≤ 4) : (tabL l).map (·.1) = (List.range (l.length + 1)).reverse.map (fun k : Nat => (k : Int)) := by
  match l, h with
  | [], _ => rfl
  | [a], _ => simp [tabL, stepT, upL, scL, addL, addStep]; rfl
  | [a, b], _ => simp [tabL, stepT, upL, scL, addL, addStep]; rfl
  | [a, b, c], _ => simp [tabL, stepT, upL, scL, addL, addStep]; rfl
  | [a, b, c, d], _ => simp [tabL, stepT, upL, scL, addL, addStep]; rfl
theorem tabL_len (l : List (Int × Int)) (h : l.length ≤ 4) : (tabL l).length = l.length + 1 := by
  have := congrArg List.length (tabL_keys l h)
  simpa using this
theorem tabL_take {l : List (Int × Int)} {i : Nat} {x : Int × Int} (h : l[i]? = some x) : tabL (l.take (i + 1)) = stepT (tabL (l.take i)) x := by
  unfold tabL
  rw [List.take_add_one, h, List.foldl_append]
  rfl
theorem wholeL_take {l : List (Int × Int)} {i : Nat} {x : Int × Int} (h : l[i]? = some x) : wholeL (l.take (i + 1)) = ((wholeL (l.take i)).1 * (1 + x.1), (wholeL (l.take i)).2 * (1 + x.2)) := by
  unfold wholeL
  rw [List.take_add_one, h, List.foldl_append]
  rfl
noncomputable def mkT (n : Nat) (A B : Nat → Int) : List (Int × List Int) := (List.range (n + 1)).reverse.map fun (k : Nat) => ((k : Int), [A k, B k, B k, A k])
theorem mk_step0 (A B : Nat → Int) (p q : Int) (hA : A 1 = 0) (hB : B 1 = 0) : stepT (mkT 0 A B) (p, q) = mkT 1 (cstep A p) (cstep B q) := by
  simp [mkT, stepT, upL, scL, addL, addStep, addF, cstep, List.range, List.range.loop, hA, hB]
theorem mk_step1 (A B : Nat → Int) (p q : Int) (hA : A 2 = 0) (hB : B 2 = 0) : stepT (mkT 1 A B) (p, q) = mkT 2 (cstep A p) (cstep B q) := by
  simp [mkT, stepT, upL, scL, addL, addStep, addF, cstep, List.range, List.range.loop, hA, hB]
  omega
theorem mk_step2 (A B : Nat → Int) (p q : Int) (hA : A 3 = 0) (hB : B 3 = 0) : stepT (mkT 2 A B) (p, q) = mkT 3 (cstep A p) (cstep B q) := by
  simp [mkT, stepT, upL, scL, addL, addStep, addF, cstep, List.range, List.range.loop, hA, hB]
  omega
theorem mk_step3 (A B : Nat → Int) (p q : Int) (hA : A 4 = 0) (hB : B 4 = 0) : stepT (mkT 3 A B) (p, q) = mkT 4 (cstep A p) (cstep B q) := by
  simp [mkT, stepT, upL, scL, addL, addStep, addF, cstep, List.range, List.range.loop, hA, hB]
  omega
theorem cstep_high {A : Nat → Int} {n : Nat} (h : ∀ k, n < k → A k = 0) (p : Int) : ∀ k, n + 1 < k → cstep A p k = 0 := by
  intro k hk
  unfold cstep
  match k with
  | k + 1 => simp only [h k (by omega), h (k + 1) (by omega), Int.zero_mul, Int.add_zero]
theorem c0_high : ∀ k, 0 < k → c0 k = 0 := fun k hk => by unfold c0; rw [if_neg (by omega)]
theorem tabL_cf {l : List (Int × Int)} (h : l.length = 4) : tabL l = mkT 4 (cf (l.map (·.1))) (cf (l.map (·.2))) := by
  match l, h with
  | [(p0, q0), (p1, q1), (p2, q2), (p3, q3)], _ =>
    have e0 : ([(0, [1, 1, 1, 1])] : List (Int × List Int)) = mkT 0 c0 c0 := rfl
    unfold tabL cf
    simp only [List.foldl_cons, List.foldl_nil, List.map_cons, List.map_nil]
    rw [e0, mk_step0 _ _ _ _ (c0_high 1 (by omega)) (c0_high 1 (by omega)), mk_step1 _ _ _ _ (cstep_high c0_high _ 2 (by omega)) (cstep_high c0_high _ 2 (by omega)),
      mk_step2 _ _ _ _ (cstep_high (cstep_high c0_high _) _ 3 (by omega)) (cstep_high (cstep_high c0_high _) _ 3 (by omega)),
      mk_step3 _ _ _ _ (cstep_high (cstep_high (cstep_high c0_high _) _) _ 4 (by omega)) (cstep_high (cstep_high (cstep_high c0_high _) _) _ 4 (by omega))]
theorem sum_range_succ (f : Nat → Int) (m : Nat) : ((List.range (m + 1)).map f).sum = ((List.range m).map f).sum + f m := by
  rw [List.range_succ, List.map_append, List.sum_append]
  simp only [List.map_cons, List.map_nil, List.sum_cons, List.sum_nil, Int.add_zero]
theorem sum_step {A : Nat → Int} {n : Nat} (p : Int) (hA : ∀ k, n < k → A k = 0) : ((List.range (n + 2)).map (cstep A p)).sum = ((List.range (n + 1)).map A).sum * (1 + p) := by
  have gen : ∀ m, ((List.range (m + 1)).map (cstep A p)).sum = ((List.range m).map A).sum + ((List.range (m + 1)).map fun k => A k * p).sum := by
    intro m
    induction m with
    | zero => simp [List.range, List.range.loop, cstep]
    | succ m ih =>
      rw [sum_range_succ _ (m + 1), ih, sum_range_succ (fun k => A k * p) (m + 1), sum_range_succ A m]
      simp only [cstep]
      omega
  have sc : ∀ m, ((List.range m).map fun k => A k * p).sum = ((List.range m).map A).sum * p := by
    intro m
    induction m with
    | zero => simp
    | succ m ih => rw [sum_range_succ, ih, sum_range_succ, Int.add_mul]
  rw [gen, sc, sum_range_succ _ (n + 1), hA (n + 1) (by omega), Int.add_zero, Int.mul_add, Int.mul_one]
theorem cf_sum {l : List (Int × Int)} (h : l.length = 4) : ((List.range 5).map (cf (l.map (·.1)))).sum = (wholeL l).1 ∧ ((List.range 5).map (cf (l.map (·.2)))).sum = (wholeL l).2 := by
  match l, h with
  | [x0, x1, x2, x3], _ =>
    have one : ∀ a b c d : Int, ((List.range 5).map (cstep (cstep (cstep (cstep c0 a) b) c) d)).sum = 1 * (1 + a) * (1 + b) * (1 + c) * (1 + d) := by
      intro a b c d
      rw [sum_step (n := 3) d (cstep_high (cstep_high (cstep_high c0_high _) _) _), sum_step (n := 2) c (cstep_high (cstep_high c0_high _) _), sum_step (n := 1) b (cstep_high c0_high _), sum_step (n := 0) a c0_high]
      rfl
    exact ⟨one _ _ _ _, one _ _ _ _⟩
theorem sc_len (a : TT) (pq : Int × Int) : ∀ x ∈ scL a pq, x.2.length = 4 := fun x h => by
  obtain ⟨y, _, rfl⟩ := List.mem_map.mp h; rfl
theorem up_ok {a : TT} (h : ok4 a) : ok4 (upL a) := by
  refine ⟨fun x hx => ?_, ?_⟩
  · obtain ⟨y, hy, rfl⟩ := List.mem_map.mp hx; exact h.1 y hy
  · have e : (upL a).map (·.1) = (a.map (·.1)).map (· + 1) := by rw [upL, List.map_map, List.map_map]; rfl
    rw [e]
    refine List.Pairwise.map _ (fun a b hab q => hab ?_) h.2
    have q' : a + 1 = b + 1 := q
    omega
theorem tabL_ok (l : List (Int × Int)) : ok4 (tabL l) := by
  unfold tabL
  have : ∀ (l : List (Int × Int)) (a : TT), ok4 a → ok4 (l.foldl stepT a) := by
    intro l
    induction l with
    | nil => exact fun a h => h
    | cons x l ih => exact fun a h => ih _ (addL_ok (up_ok h) (sc_len a x)).1
  exact this l _ ⟨fun x hx => by rw [List.mem_singleton.mp hx]; rfl, by simp⟩
noncomputable def powsN (fn ln : List Nat) : List (Int × Int) := (fn.zip ln).map fun x => (3 ^ x.1, 3 ^ x.2)
theorem powsN_len {fn ln : List Nat} (h : fn.length = 4) (h' : ln.length = 4) : (powsN fn ln).length = 4 := by
  unfold powsN; rw [List.length_map, List.length_zip, h, h']; rfl
theorem powsN_fst {fn ln : List Nat} (h : fn.length = 4) (h' : ln.length = 4) : (powsN fn ln).map (·.1) = fn.map (fun n => (3 : Int) ^ n) ∧ (powsN fn ln).map (·.2) = ln.map (fun n => (3 : Int) ^ n) := by
  match fn, ln, h, h' with
  | [a, b, c, d], [e, f, g, i], _, _ => exact ⟨rfl, rfl⟩
theorem bits3 : ∀ n : Nat, n ≤ 24 → Builtin.Int.intBits (3 ^ n) ≤ 64 := by decide +kernel
theorem bits31 : ∀ n : Nat, n ≤ 24 → Builtin.Int.intBits (1 + 3 ^ n) ≤ 64 := by decide +kernel
theorem pows_at {fn ln : List Nat} (hf : ∀ n ∈ fn, n ≤ 24) (hl : ∀ n ∈ ln, n ≤ 24) {i : Nat} {w : AV} (h : (List.zipWith (fun u v => AV.tup [u, v]) (fn.map fun n => .int (n : Nat)) (ln.map fun n => .int (n : Nat)))[i]? = some w) :
    ∃ m n : Nat, w = .tup [.int (m : Nat), .int (n : Nat)] ∧ (powsN fn ln)[i]? = some (3 ^ m, 3 ^ n) ∧ m ≤ 24 ∧ n ≤ 24 := by
  rw [List.getElem?_zipWith, List.getElem?_map, List.getElem?_map] at h
  unfold powsN
  rw [List.getElem?_map]
  cases q : fn[i]? with
  | none => rw [q] at h; cases h
  | some m =>
    cases q2 : ln[i]? with
    | none => rw [q, q2] at h; cases h
    | some n =>
      rw [q, q2] at h
      cases h
      exact ⟨m, n, rfl, by rw [List.getElem?_zip_eq_some (z := (m, n)) |>.mpr ⟨q, q2⟩]; rfl, hf m (List.mem_of_getElem? q), hl n (List.mem_of_getElem? q2)⟩
end Mine
end
section
open PySem PySem.W PyProof.Rows PySem.Calls PySem.Spec
set_option maxRecDepth 100000
set_option maxHeartbeats 4000000
namespace Mine
theorem fill_JW15 : (hd.heap_39, PySem.Challenge.rw_jc0009_01) = (hd.heap_39, PySem.Challenge.rw_jc0009_01) := by
  k_fill
  exact rfl
noncomputable def putMN : AV → Loc → Loc
  | .tup [a, b], σ => (Str.ofString "n", b) :: (Str.ofString "m", a) :: σ
  | _, σ => σ
noncomputable def fS (A B : Nat → Int) (k : Nat) : AV := .sem (tupSm ([A k, B k, B k, A k].map .int))
theorem kvA_two {T : TT} {g : Int × List Int → Int × List Int} {j : Nat} {w v : AV} {k : Int} (hw : ((kvA T).map fun p => AV.tup [.int p.1, p.2])[j]? = some w) (hv : (kvA (T.map g))[j]? = some (k, v)) : ∃ x ∈ T, w = .tup [.int x.1, .tup (x.2.map .int)] ∧ k = (g x).1 ∧ v = .tup ((g x).2.map .int) := by
  obtain ⟨x, hx, rfl⟩ := kvA_at hw
  rw [kvA, List.map_map, List.getElem?_map, hx] at hv
  cases hv
  exact ⟨x, List.mem_of_getElem? hx, rfl, rfl, rfl⟩
noncomputable def nL (l : List Nat) : List AV := l.map fun n => .int (n : Nat)
noncomputable def five (A : Nat → Int) : List Int := [A 0, A 1, A 2, A 3, A 4]
theorem products_v {w : World} {mg mb : Str → Option Value} {mean : ExcName → Option Value} (fn ln : List Nat) (h4 : fn.length = 4) (h4' : ln.length = 4) (hf : ∀ n ∈ fn, n ≤ 24) (hl : ∀ n ∈ ln, n ≤ 24) :
    CtH w mg mb mean 130 40 [.list (nL fn), .list (nL ln)] (.list [.list ((five (cf (fn.map fun n => 3 ^ n))).map .int), .list ((five (cf (ln.map fun n => 3 ^ n))).map .int)]) := by
  k_dflt (refine' ctH_ofC [Str.ofString "first", Str.ofString "last"] ?ho ?hcd ?hD ?hb ?hln ?hl ?hnd ?km ?c1 ?c2 ?c3; (case ho => k_is); (case hcd => k_is); (case hD => decide); (case hb => exact fun s => len2 fun _ _ => BindsTo.of_eq rfl); (case hln => rfl); (case hl => decide); (case hnd => decide); (case c1 => exact rfl); (case c2 => exact rfl); (case c3 => exact rfl))
  intro dp un gd outer A₀ base g L ob h1 h2
  have d1 : dp + 20 < recursionLimit := by omega
  have d2 : un + 8 * 20 < cLine := by omega
  have d3 : un + 64 < cLine := by omega
  clear h1 h2
  refine Wg.of ?_
  refine Ws.asg (v := .sem (dictSm w [(0, .tup [.int 1, .int 1, .int 1, .int 1])])) ?a ?b ?c ?d
  case b => rfl
  case d => rfl
  case a =>
    refine Ev.dict1F ?_ ?_
    · exact fun _ => Ev.cInt
    · exact fun _ => Ev.tup (.cons Ev.cInt (.cons Ev.cInt (.cons Ev.cInt (.cons Ev.cInt .nil)))) (Nat.le_of_ble_eq_true rfl)
  refine .of (Ws.asg (v := .list ([1, 1].map .int)) (EvNew.ev (EvNew.disp (.cons Ev.cInt (.cons Ev.cInt .nil)) (Nat.le_of_ble_eq_true rfl))) rfl ?_)
  refine .cons (WgS.forG putMN (α := TT × Int × Int) (fun a => [(Str.ofString "table", .sem (dictSm w (kvA a.1))), (Str.ofString "wholes", .list ([a.2.1, a.2.2].map .int)), (Str.ofString "first", .list (nL fn)), (Str.ofString "last", .list (nL ln))]) (fun i a => a.1 = tabL ((powsN fn ln).take i) ∧ a.2 = wholeL ((powsN fn ln).take i)) ([(0, [1, 1, 1, 1])], 1, 1) (It.zipL (Ev.built rfl (by k_is) rfl (by decide)) (Ev.name rfl) (Ev.name rfl)).toF ⟨rfl, rfl⟩ (fun p hp => by simp at hp; rcases hp with rfl | rfl | rfl | rfl <;> rfl) ?_ ?_ ?_)
  · intro v hv
    obtain ⟨i, hi⟩ := List.getElem?_of_mem hv
    obtain ⟨m, n, rfl, -⟩ := pows_at hf hl hi
    exact TgS.pair rfl rfl
  · rintro ob' i ⟨T, X, Y⟩ v ⟨hT, hXY⟩ hv
    obtain ⟨m, n, rfl, hpq, hm, hn⟩ := pows_at hf hl hv
    have hT : T = _ := hT
    have hXY : (X, Y) = _ := hXY
    have tk := tabL_take hpq
    have wk := wholeL_take hpq
    have okT : ok4 T := by have := tabL_ok ((powsN fn ln).take i); rwa [← hT] at this
    have lT : T.length ≤ 5 := by
      have hi : i < 4 := by have := (List.getElem?_eq_some_iff.mp hpq).1; rwa [powsN_len h4 h4'] at this
      have := tabL_len ((powsN fn ln).take i) (by rw [List.length_take]; omega)
      rw [← hT, List.length_take] at this; omega
    rw [← hT] at tk
    rw [← hXY] at wk
    have b3m := bits3 m hm
    have b3n := bits3 n hn
    have b4m := bits31 m hm
    have b4n := bits31 n hn
    clear hv hpq hT hXY
    refine .of (Ws.asgT (names := [Str.ofString "p", Str.ofString "q"]) (Ev.tup (.cons (Ev.pow (by omega) (by decide) Ev.cInt (Ev.name rfl)) (.cons (Ev.pow (by omega) (by decide) Ev.cInt (Ev.name rfl)) .nil)) (Nat.le_of_ble_eq_true rfl)) (.cons .name (.cons .name .nil)) rfl (List.forall_mem_cons.mpr ⟨rfl, List.forall_mem_cons.mpr ⟨rfl, List.forall_mem_nil _⟩⟩) ?_)
    generalize (3 : Int) ^ m = p at *
    generalize (3 : Int) ^ n = q at *
    refine .of (Ws.asgDcomp (es := kvA (upL T)) (cl := []) (cl' := fun _ => []) rfl (It.items (Ev.name rfl)) rfl (NewEnv.plain (by decide) rfl) (by decide) rfl ?_ ?_ ?_ ?_ ?_)
    · rw [List.length_map, kvA, List.length_map]; exact Nat.le_trans lT (by decide)
    · rw [List.length_map, kvA, kvA, List.length_map, List.length_map, upL, List.length_map]
    · rw [kvA_keys]; exact (up_ok okT).2
    · intro K ob2 j w k v hw hv
      obtain ⟨x, -, rfl, rfl, rfl⟩ := kvA_two (g := fun x => (x.1 + 1, x.2)) hw hv
      exact ⟨_, Binds.pair rfl rfl rfl (by decide), Ev.add (Ev.nameC rfl rfl rfl) Ev.cInt, Ev.nameC rfl rfl rfl⟩
    refine .cons (WgS.asg (EvG.call (vs := [.sem (dictSm w (kvA (upL T))), .sem (dictSm w (kvA (scL T (p, q))))]) (Ev.glob rfl (by k_is)) (by k_is) (.cons (Ev.name rfl) (.cons (Ev.dcompF (by with_unfolding_all rfl) (It.items (Ev.name rfl)) rfl (NewEnv.plain (by decide) rfl) (by decide) ?_ ?_ ?_ ?_) .nil)) (add_v (upL T) (scL T (p, q)) (up_ok okT) (sc_len T (p, q)) ?_ ?_) d1 d2) rfl ?_)
    · rw [List.length_map, kvA, List.length_map]; exact Nat.le_trans lT (by decide)
    · rw [List.length_map, kvA, kvA, List.length_map, List.length_map, scL, List.length_map]
    · rw [kvA_keys, scL, List.map_map]; exact okT.2
    · intro K ob2 j w k v hw hv
      obtain ⟨x, hx, rfl, rfl, rfl⟩ := kvA_two (g := fun x => (x.1, [x.2.getD 0 0 * p, x.2.getD 1 0 * q, x.2.getD 2 0 * q, x.2.getD 3 0 * p])) hw hv
      obtain ⟨k, f⟩ := x
      have hfl := okT.1 _ hx
      match f, hfl with
      | [f0, f1, f2, f3], _ =>
        exact ⟨_, Binds.pair rfl rfl rfl (by decide), Ev.nameC rfl rfl rfl, Ev.tup (.cons (Ev.mul (.of_right b3m) (Ev.itemT (n := 0) (Nat.le_of_ble_eq_true rfl) (Ev.nameC rfl rfl rfl) Ev.cInt rfl (by decide) (by decide) rfl) (Ev.freeC rfl rfl rfl rfl rfl)) (.cons (Ev.mul (.of_right b3n) (Ev.itemT (n := 1) (Nat.le_of_ble_eq_true rfl) (Ev.nameC rfl rfl rfl) Ev.cInt rfl (by decide) (by decide) rfl) (Ev.freeC rfl rfl rfl rfl rfl))
          (.cons (Ev.mul (.of_right b3n) (Ev.itemT (n := 2) (Nat.le_of_ble_eq_true rfl) (Ev.nameC rfl rfl rfl) Ev.cInt rfl (by decide) (by decide) rfl) (Ev.freeC rfl rfl rfl rfl rfl)) (.cons (Ev.mul (.of_right b3m) (Ev.itemT (n := 3) (Nat.le_of_ble_eq_true rfl) (Ev.nameC rfl rfl rfl) Ev.cInt rfl (by decide) (by decide) rfl) (Ev.freeC rfl rfl rfl rfl rfl)) .nil)))) (Nat.le_of_ble_eq_true rfl)⟩
    · rw [upL, List.length_map]; omega
    · rw [scL, List.length_map]; omega
    refine .of (Ws.asg (v := .list ([X * (1 + p), Y * (1 + q)].map .int)) (EvNew.ev (EvNew.disp (.cons (Ev.mul (.of_right b4m) (Ev.itemL (v := .int X) (Ev.name rfl) Ev.cInt (by decide) (by decide) rfl) (Ev.add Ev.cInt (Ev.name rfl))) (.cons (Ev.mul (.of_right b4n) (Ev.itemL (v := .int Y) (Ev.name rfl) Ev.cInt (by decide) (by decide) rfl) (Ev.add Ev.cInt (Ev.name rfl))) .nil)) (Nat.le_of_ble_eq_true rfl))) rfl (.nil ⟨(stepT T (p, q), X * (1 + p), Y * (1 + q)), ⟨tk.symm, wk.symm⟩, fun z hz => ?_⟩))
    simp at hz
    rcases hz with rfl | rfl | rfl | rfl <;> rfl
  · rintro ⟨T, X, Y⟩ ⟨hT, hXY⟩
    have e4 := powsN_len h4 h4'
    rw [List.take_of_length_le (by rw [e4, List.length_zipWith, nL, nL, List.length_map, List.length_map, h4, h4']; decide)] at hT hXY
    obtain ⟨sA, sB⟩ := cf_sum e4
    rw [tabL_cf e4, (powsN_fst h4 h4').1, (powsN_fst h4 h4').2] at hT
    rw [(powsN_fst h4 h4').1, ← hXY] at sA
    rw [(powsN_fst h4 h4').2, ← hXY] at sB
    generalize cf (fn.map fun n => (3 : Int) ^ n) = A at *
    generalize cf (ln.map fun n => (3 : Int) ^ n) = B at *
    dsimp only at hT sA sB
    subst hT
    clear hXY e4
    have kT : ((mkT 4 A B).map (·.1)).Nodup := by show ([4, 3, 2, 1, 0] : List Int).Nodup; decide
    refine .of (Ws.asg (Ev.compA (vs := (List.range 5).map (fS A B)) (by with_unfolding_all rfl) (It.range (k := 5) rfl (by decide) (Ev.built rfl (by k_is) rfl (by decide)) Ev.cInt) rfl (by decide) (by decide) (Nat.le_of_ble_eq_true rfl) (by rw [List.length_map, List.length_map]) ?_) rfl ?_)
    · intro K ob2 j w' u hw hu
      obtain ⟨hj, rfl⟩ := rng_at hw
      obtain ⟨j', hj', rfl⟩ := map_at hu
      obtain rfl : j' = j := by rw [List.getElem?_range hj] at hj'; exact (Option.some.inj hj').symm
      refine ⟨_, Binds.name rfl rfl fun _ _ _ h => h, Ev.toSem (Ev.itemD (kvs := kvA (mkT 4 A B)) (k := (j' : Int)) (by rw [kvA_keys]; exact kT) (List.mem_map_of_mem (f := fun x : Int × List Int => (x.1, AV.tup (x.2.map .int))) (a := ((j' : Int), [A j', B j', B j', A j'])) ?_) (Ev.freeC rfl rfl rfl rfl rfl) (Ev.nameC rfl rfl rfl))⟩
      exact List.mem_map.mpr ⟨j', List.mem_reverse.mpr (List.mem_range.mpr hj), rfl⟩
    refine .cons (WgS.ite (b := false) (Ev.neL (ns := []) (ms := []) d3 (Ev.compN (by with_unfolding_all rfl) (It.list (Ev.name rfl)) rfl (by decide) (by decide) (Nat.le_of_ble_eq_true rfl) ?_) (EvNew.ev (EvNew.disp .nil (Nat.le_of_ble_eq_true rfl)))) nofun fun _ => .nil ?_)
    · intro K ob2 j w' hw
      obtain ⟨j', hj', rfl⟩ := map_at hw
      refine ⟨_, Binds.name rfl rfl fun _ _ _ h => h, EvT.or (.cons (Ev.isNotT (Ev.callT (Ev.builtC rfl rfl (by k_is) rfl (by decide)) (.cons (Ev.unsem (Ev.nameC rfl rfl rfl)) .nil) Cv.tyTup) (Ev.builtC rfl rfl (by k_is) rfl (by decide))) fun _ => .cons (Ev.neSameT (ns := [B j', A j']) d3 (Ev.partT (k := 2) (vs := [A j', B j', B j', A j'].map .int) (Nat.le_of_ble_eq_true rfl) (by decide) (Nat.le_of_ble_eq_true rfl) (Ev.unsem (Ev.nameC rfl rfl rfl)) Ev.cInt)
        (Ev.tup (.cons (Ev.itemT (n := 1) (Nat.le_of_ble_eq_true rfl) (Ev.unsem (Ev.nameC rfl rfl rfl)) Ev.cInt rfl (by decide) (by decide) rfl) (.cons (Ev.itemT (n := 0) (Nat.le_of_ble_eq_true rfl) (Ev.unsem (Ev.nameC rfl rfl rfl)) Ev.cInt rfl (by decide) (by decide) rfl) .nil)) (Nat.le_of_ble_eq_true rfl))) fun _ => .nil)⟩
    refine .of (Ws.asgCompP (ct := none) (os := [some (.list ((five A).map .int)), some (.list ((five B).map .int))]) rfl (by with_unfolding_all rfl) (It.range (k := 2) rfl (by decide) (Ev.built rfl (by k_is) rfl (by decide)) Ev.cInt) rfl (NewEnv.cell (x := Str.ofString "side") (fun _ => rfl) (fun _ => rfl) ?_) (by decide) rfl (Nat.le_of_ble_eq_true rfl) rfl ?_ ?_)
    · intro y hy
      have := lookup_mem hy
      simp only [List.mem_cons, Prod.mk.injEq, reduceCtorEq, and_false, or_false, false_or, List.not_mem_nil, and_true] at this
      exact this
    · intro K ob2 j w' o hw ho
      obtain ⟨hj, rfl⟩ := rng_at hw
      match j, hj with
      | 0, _ =>
        cases ho
        refine ⟨_, Binds.cell rfl rfl rfl fun _ _ _ h => h, _, rfl, Ev.nest (Ev.compPA (vs := (List.range 5).map fun k => .int (A k)) (by with_unfolding_all rfl) (It.list (Ev.flat fun _ => Ev.freeC rfl rfl rfl rfl rfl)) rfl (NewEnv.plain (by decide) rfl) (by decide) (Nat.le_of_ble_eq_true rfl) rfl ?_)⟩
        intro K2 ob3 j2 w2 u2 hw2 hu2
        obtain ⟨j', hj', rfl⟩ := map_at hw2
        rw [List.getElem?_map, hj'] at hu2
        cases hu2
        exact ⟨_, Binds.name rfl rfl fun _ _ _ h => h, Ev.itemT (n := 0) (Nat.le_of_ble_eq_true rfl) (Ev.unsem (Ev.nameC rfl rfl rfl)) (Ev.ownC rfl rfl rfl rfl rfl) rfl (by decide) (by decide) rfl⟩
      | 1, _ =>
        cases ho
        refine ⟨_, Binds.cell rfl rfl rfl fun _ _ _ h => h, _, rfl, Ev.nest (Ev.compPA (vs := (List.range 5).map fun k => .int (B k)) (by with_unfolding_all rfl) (It.list (Ev.flat fun _ => Ev.freeC rfl rfl rfl rfl rfl)) rfl (NewEnv.plain (by decide) rfl) (by decide) (Nat.le_of_ble_eq_true rfl) rfl ?_)⟩
        intro K2 ob3 j2 w2 u2 hw2 hu2
        obtain ⟨j', hj', rfl⟩ := map_at hw2
        rw [List.getElem?_map, hj'] at hu2
        cases hu2
        exact ⟨_, Binds.name rfl rfl fun _ _ _ h => h, Ev.itemT (n := 1) (Nat.le_of_ble_eq_true rfl) (Ev.unsem (Ev.nameC rfl rfl rfl)) (Ev.ownC rfl rfl rfl rfl rfl) rfl (by decide) (by decide) rfl⟩
    refine .cons (WgS.ret (Ev.ifE (Ev.eqL (ns := [X, Y]) (ms := [X, Y]) d3 (Ev.compA (vs := [.int X, .int Y]) (by with_unfolding_all rfl) (It.list (Ev.name rfl)) rfl (by decide) (by decide) (Nat.le_of_ble_eq_true rfl) rfl ?_) (Ev.name rfl)) (fun _ => Ev.name rfl) (fun q => (of_decide_eq_false q rfl).elim)) rfl)
    subst sA
    subst sB
    intro K ob2 j w' u hw hu
    match j, hw, hu with
    | 0, hw, hu => cases hw; cases hu; exact ⟨_, Binds.name rfl rfl fun _ _ _ h => h, Ev.callB (Ev.builtC rfl rfl (by k_is) rfl (by decide)) (.cons (Ev.nameC rfl rfl rfl) .nil) (Cv.sumL (ns := five A))⟩
    | 1, hw, hu => cases hw; cases hu; exact ⟨_, Binds.name rfl rfl fun _ _ _ h => h, Ev.callB (Ev.builtC rfl rfl (by k_is) rfl (by decide)) (.cons (Ev.nameC rfl rfl rfl) .nil) (Cv.sumL (ns := five B))⟩
    | j + 2, hw, _ => cases hw
end Mine
end
section
open PySem PySem.W PyProof.Rows PySem.Calls PySem.Spec PyProof.Rows.LCg
set_option maxRecDepth 100000
set_option maxHeartbeats 4000000
namespace Mine
section
variable {P : Px} {pos : Pos} {e f l m r : Expr}
/-- not e, as a value -/
theorem Ev.notV {b : Bool} (he : Ev P e (.bool b)) : Ev P (.UnaryOp .Not e pos) (.bool (!b)) := fun s hs Q E hQ =>
  UnaryOp_ (he s hs _ _ fun y h tk ex r => by cases r; exact not_of (wpAny_truthy_bool (hQ _ h tk ex rfl)))
/-- e or f, as a value -/
theorem Ev.orV {a b : Bool} (he : Ev P e (.bool a)) (hf : a = false → Ev P f (.bool b)) : Ev P (.BoolOp .Or [e, f] pos) (.bool (a || b)) := fun s hs Q E hQ =>
  BoolOp_or (he s hs _ _ fun y h tk ex r => by
    cases r
    refine wpAny_truthy_bool ?_
    cases a with
    | true => exact hQ _ h tk ex rfl
    | false => exact BoolOp_one (hf rfl _ (P.ok _ _ _ hs ex) _ _ fun y h2 tk2 e2 r => hQ y h2 tk2 (ex.trans' e2) r))
/-- i <= j <= k, which holds -/
theorem EvT.le2 {i j k : Int} (h1 : i ≤ j) (h2 : j ≤ k) (hl : Ev P l (.int i)) (hm : Ev P m (.int j)) (hr : Ev P r (.int k)) (hq : lastMarks [.LtE, .LtE] [m, r] = false := by with_unfolding_all rfl) : EvT P (.Compare l [.LtE, .LtE] [m, r] pos) true := fun s hs Q E hQ =>
  isTrue_chain (hl s hs _ _ fun x h tk ex rx => test_link (hm _ (P.ok _ _ _ hs ex) _ _ fun y h2' tk2 e2 ry => by
    obtain ⟨t, rfl⟩ := rx
    obtain ⟨u, rfl⟩ := ry
    refine PySem.P.le_int (wpAny_truthy_bool ?_)
    rw [decide_eq_true h1, if_pos rfl]
    exact test_last (hr _ (P.ok _ _ _ (P.ok _ h tk hs ex) e2) _ _ fun z h3 tk3 e3 rz => by
      obtain ⟨v, rfl⟩ := rz
      refine PySem.P.le_int (wpAny_truthy_bool ?_)
      rw [decide_eq_true h2]
      exact hQ h3 tk3 (ex.trans' (e2.trans' e3))))) hq
end
/-- judged, where the counts are some small list -/
theorem judged_s {w : World} {mg mb : Str → Option Value} {mean : ExcName → Option Value} (bs : List Nat) (f0 f1 f2 f3 f4 : Int) (h4 : bs.length = 4) (hsum : bs.sum ≤ 12) (hb : ∀ b ∈ bs, b ≤ 12)
    (H1 : (farS bs 4).sum = 2 * (f1 + f2 + f3) - 3 * f4 + 12) (H3 : f4 = 2 * (bs.sum : Nat)) (H2 : ∀ n : Nat, n ≤ 3 → MaxIs ((List.range 5).map fun k => [f0, f1, f2, f3, f4].getD k 0 - 2 * (k : Nat) * n) (2 * leftS bs n)) :
    CtV w mg mb mean 125 20 [.list (linesL bs abde), .list (ILs [f0, f1, f2, f3, f4]), .sem smallSm] (.bool true) := fun P h1 h2 h3 h5 h6 h7 s hs ys rv Q E hQ => by
  obtain ⟨x, _, rfl, rx, y, _, rfl, ry, z, _, rfl, ⟨ts, hts, rz⟩, rfl⟩ := rv
  exact judged_v bs f0 f1 f2 f3 f4 ts h4 hsum hb hts H1 H3 H2 P h1 h2 h3 h5 h6 h7 s hs _ ⟨x, _, rfl, rx, y, _, rfl, ry, z, _, rfl, rz, rfl⟩ Q E hQ
end Mine
end
section
set_option maxRecDepth 100000
set_option maxHeartbeats 4000000
namespace Mine
/-! rows and sorted rows -/
theorem sum_perm {a b : List Int} (h : a.Perm b) : a.sum = b.sum := by
  induction h with
  | nil => rfl
  | cons x _ ih => simp only [List.sum_cons, ih]
  | swap x y l => simp only [List.sum_cons]; omega
  | trans _ _ ih1 ih2 => exact ih1.trans ih2
theorem map_sum_perm {a b : List Int} (f : Int → Int) (h : a.Perm b) : (a.map f).sum = (b.map f).sum := sum_perm (h.map f)
noncomputable def spread (l : List Int) : Int := (l.map fun x => (l.map fun y => ((x - y).natAbs : Int)).sum).sum
theorem spread_perm {a b : List Int} (h : a.Perm b) : spread a = spread b := by
  unfold spread
  have e : (fun x => (a.map fun y => ((x - y).natAbs : Int)).sum) = fun x => (b.map fun y => ((x - y).natAbs : Int)).sum := by
    funext x; exact map_sum_perm _ h
  rw [e]; exact map_sum_perm _ h
theorem farN_abs (a b : Nat) : farN a b = 2 + ((2 * (a : Int) - 2 * b).natAbs : Int) := by unfold farN; omega
theorem abs_back (x y : Int) : ((y - x).natAbs : Int) = ((x - y).natAbs : Int) := by omega
theorem abs_self (x : Int) : ((x - x).natAbs : Int) = 0 := by omega
theorem abs_up {x y : Int} (h : y ≤ x) : ((x - y).natAbs : Int) = x - y := by omega
theorem abs_dn {x y : Int} (h : y ≤ x) : ((y - x).natAbs : Int) = x - y := by omega
theorem far_sorted {b0 b1 b2 b3 : Nat} {q0 q1 q2 q3 : Int} (h : [q0, q1, q2, q3].Perm [2 * (b0 : Int), 2 * b1, 2 * b2, 2 * b3]) (h1 : q1 ≤ q0) (h2 : q2 ≤ q1) (h3 : q3 ≤ q2) :
    (farS [b0, b1, b2, b3] 4).sum = 12 + (3 * q0 + q1 - q2 - 3 * q3) := by
  have e := spread_perm h
  unfold spread at e
  have h02 : q2 ≤ q0 := by omega
  have h03 : q3 ≤ q0 := by omega
  have h13 : q3 ≤ q1 := by omega
  simp only [List.map_cons, List.map_nil, List.sum_cons, List.sum_nil, abs_self, abs_up h1, abs_up h2, abs_up h3, abs_up h02, abs_up h03, abs_up h13, abs_dn h1, abs_dn h2, abs_dn h3, abs_dn h02, abs_dn h03, abs_dn h13,
    abs_back (2 * (b0 : Int)) (2 * (b1 : Int)), abs_back (2 * (b0 : Int)) (2 * (b2 : Int)), abs_back (2 * (b0 : Int)) (2 * (b3 : Int)), abs_back (2 * (b1 : Int)) (2 * (b2 : Int)), abs_back (2 * (b1 : Int)) (2 * (b3 : Int)), abs_back (2 * (b2 : Int)) (2 * (b3 : Int))] at e
  rw [show (farS [b0, b1, b2, b3] 4).sum = farN b0 b1 + (farN b0 b2 + (farN b1 b2 + (farN b0 b3 + (farN b1 b3 + (farN b2 b3 + 0))))) from rfl]
  simp only [farN_abs]
  generalize ((2 * (b0 : Int) - 2 * (b1 : Int)).natAbs : Int) = x01 at *
  generalize ((2 * (b0 : Int) - 2 * (b2 : Int)).natAbs : Int) = x02 at *
  generalize ((2 * (b0 : Int) - 2 * (b3 : Int)).natAbs : Int) = x03 at *
  generalize ((2 * (b1 : Int) - 2 * (b2 : Int)).natAbs : Int) = x12 at *
  generalize ((2 * (b1 : Int) - 2 * (b3 : Int)).natAbs : Int) = x13 at *
  generalize ((2 * (b2 : Int) - 2 * (b3 : Int)).natAbs : Int) = x23 at *
  clear h
  omega
theorem mx_hi {x t : Int} (h : 2 * t ≤ x) : max (x - 2 * t) 0 = x - 2 * t := by omega
theorem mx_lo {x t : Int} (h : ¬ 2 * t ≤ x) : max (x - 2 * t) 0 = 0 := by omega
theorem max_core {q0 q1 q2 q3 t z : Int} (h1 : q1 ≤ q0) (h2 : q2 ≤ q1) (h3 : q3 ≤ q2) (e : max (q0 - 2 * t) 0 + (max (q1 - 2 * t) 0 + (max (q2 - 2 * t) 0 + (max (q3 - 2 * t) 0 + 0))) = z) :
    MaxIs [0 - 2 * 0 * t, q0 - 2 * 1 * t, q0 + q1 - 2 * 2 * t, q0 + q1 + q2 - 2 * 3 * t, q0 + q1 + q2 + q3 - 2 * 4 * t] z := by
  unfold MaxIs
  simp only [List.mem_cons, List.not_mem_nil, or_false, forall_eq_or_imp, forall_eq]
  by_cases c3 : 2 * t ≤ q3
  · rw [mx_hi c3, mx_hi (by omega), mx_hi (by omega), mx_hi (by omega)] at e
    exact ⟨.inr (.inr (.inr (.inr (by omega)))), by omega, by omega, by omega, by omega, by omega⟩
  by_cases c2 : 2 * t ≤ q2
  · rw [mx_lo c3, mx_hi c2, mx_hi (by omega), mx_hi (by omega)] at e
    exact ⟨.inr (.inr (.inr (.inl (by omega)))), by omega, by omega, by omega, by omega, by omega⟩
  by_cases c1 : 2 * t ≤ q1
  · rw [mx_lo c3, mx_lo c2, mx_hi c1, mx_hi (by omega)] at e
    exact ⟨.inr (.inr (.inl (by omega))), by omega, by omega, by omega, by omega, by omega⟩
  by_cases c0 : 2 * t ≤ q0
  · rw [mx_lo c3, mx_lo c2, mx_lo c1, mx_hi c0] at e
    exact ⟨.inr (.inl (by omega)), by omega, by omega, by omega, by omega, by omega⟩
  · rw [mx_lo c3, mx_lo c2, mx_lo c1, mx_lo c0] at e
    exact ⟨.inl (by omega), by omega, by omega, by omega, by omega, by omega⟩
theorem max_sorted {b0 b1 b2 b3 : Nat} {q0 q1 q2 q3 t : Int} (h : [q0, q1, q2, q3].Perm [2 * (b0 : Int), 2 * b1, 2 * b2, 2 * b3]) (h1 : q1 ≤ q0) (h2 : q2 ≤ q1) (h3 : q3 ≤ q2) (ht : 0 ≤ t) :
    MaxIs [0 - 2 * 0 * t, q0 - 2 * 1 * t, q0 + q1 - 2 * 2 * t, q0 + q1 + q2 - 2 * 3 * t, q0 + q1 + q2 + q3 - 2 * 4 * t] (2 * (((b0 - t.toNat : Nat) : Int) + (b1 - t.toNat : Nat) + (b2 - t.toNat : Nat) + (b3 - t.toNat : Nat))) := by
  have e := map_sum_perm (fun x => max (x - 2 * t) 0) h
  simp only [List.map_cons, List.map_nil, List.sum_cons, List.sum_nil] at e
  have k : ∀ b : Nat, max (2 * (b : Int) - 2 * t) 0 = 2 * ((b - t.toNat : Nat) : Int) := fun b => by omega
  rw [k, k, k, k] at e
  refine max_core h1 h2 h3 (e.trans ?_)
  generalize ((b0 - t.toNat : Nat) : Int) = y0
  generalize ((b1 - t.toNat : Nat) : Int) = y1
  generalize ((b2 - t.toNat : Nat) : Int) = y2
  generalize ((b3 - t.toNat : Nat) : Int) = y3
  omega
theorem max_left {b0 b1 b2 b3 : Nat} {q0 q1 q2 q3 : Int} (h : [q0, q1, q2, q3].Perm [2 * (b0 : Int), 2 * b1, 2 * b2, 2 * b3]) (h1 : q1 ≤ q0) (h2 : q2 ≤ q1) (h3 : q3 ≤ q2) (n : Nat) :
    MaxIs ((List.range 5).map fun k => [0, q0, q0 + q1, q0 + q1 + q2, q0 + q1 + q2 + q3].getD k 0 - 2 * (k : Nat) * n) (2 * leftS [b0, b1, b2, b3] n) := by
  have := max_sorted (t := (n : Nat)) h h1 h2 h3 (Int.natCast_nonneg n)
  rw [Int.toNat_natCast] at this
  have e : leftS [b0, b1, b2, b3] n = ((b0 - n : Nat) : Int) + (b1 - n : Nat) + (b2 - n : Nat) + (b3 - n : Nat) := by
    simp only [leftS, List.map_cons, List.map_nil, List.sum_cons, List.sum_nil]; omega
  rw [e]
  exact this
end Mine
end
section
set_option maxRecDepth 100000
set_option maxHeartbeats 1000000
namespace Mine
/-! the moves: lines and numbers go alike -/
noncomputable def lcast (bs : List Nat) : List Int := bs.map fun (b : Nat) => (b : Int)
theorem lcast_getD (bs : List Nat) (i : Nat) : (lcast bs).getD i 0 = ((bs.getD i 0 : Nat) : Int) := by
  unfold lcast
  rw [List.getD_eq_getElem?_getD, List.getElem?_map, List.getD_eq_getElem?_getD]
  cases bs[i]? <;> rfl
theorem lcast_set (bs : List Nat) (i b : Nat) : lcast (bs.set i b) = (lcast bs).set i (b : Int) := by
  unfold lcast
  rw [List.map_set]
theorem taken_eq (b : Nat) (t : Int) (h : 0 ≤ t) : (if (b : Int) < t then (b : Int) else t) = ((takeN b t : Nat) : Int) := by
  have e : takeN b t = min t.toNat b := by unfold takeN; rw [if_neg (by omega)]
  rw [e]
  split <;> omega
theorem step_eq (bs : List Nat) (x : Int) : eStep (lcast bs) x = lcast (mStep bs x) := by
  have ht : 0 ≤ (x.fdiv 16).fmod 5 := Int.fmod_nonneg_of_pos _ (by decide)
  have e1 : eTk (lcast bs) x = ((takeN (bs.getD (x.fmod 4).toNat 0) ((x.fdiv 16).fmod 5) : Nat) : Int) := by
    unfold eTk
    rw [lcast_getD, taken_eq _ _ ht]
  have hle : takeN (bs.getD (x.fmod 4).toNat 0) ((x.fdiv 16).fmod 5) ≤ bs.getD (x.fmod 4).toNat 0 := by
    unfold takeN
    split <;> omega
  have e2 : eSub (lcast bs) x = lcast (mSub bs x) := by
    unfold eSub mSub
    rw [lcast_set, lcast_getD, e1]
    congr 1
    omega
  unfold eStep mStep
  rw [lcast_set, e2, lcast_getD, e1]
  congr 1
theorem fold_eq (ms : List Int) : ∀ bs : List Nat, ms.foldl eStep (lcast bs) = lcast (ms.foldl mStep bs) := by
  induction ms with
  | nil => intro bs; rfl
  | cons x ms ih => intro bs; rw [List.foldl_cons, List.foldl_cons, step_eq, ih]
theorem fold_sum (ms : List Int) : ∀ bs : List Nat, bs.length = 4 → (ms.foldl mStep bs).sum = bs.sum := by
  induction ms with
  | nil => intro bs _; rfl
  | cons x ms ih =>
    intro bs h
    obtain ⟨e, hl, -⟩ := mStep_sum h x
    rw [List.foldl_cons, ih _ hl, e]
end Mine
end
section
set_option maxRecDepth 100000
set_option maxHeartbeats 1000000
namespace Mine
/-! the last plain laws: the products' bounds, and that no coefficient is less -/
theorem half {p : Int} {b0 b1 b2 b3 : Nat} (h : p ∈ [2 * (b0 : Int), 2 * b1, 2 * b2, 2 * b3]) : ∃ q : Nat, p = 2 * (q : Int) := by
  simp only [List.mem_cons, List.not_mem_nil, or_false] at h
  rcases h with h | h | h | h <;> exact ⟨_, h⟩
theorem halves {b0 b1 b2 b3 : Nat} {p0 p1 p2 p3 : Int} (h : [p0, p1, p2, p3].Perm [2 * (b0 : Int), 2 * b1, 2 * b2, 2 * b3]) :
    ∃ q0 q1 q2 q3 : Nat, p0 = 2 * (q0 : Int) ∧ p1 = 2 * (q1 : Int) ∧ p2 = 2 * (q2 : Int) ∧ p3 = 2 * (q3 : Int) := by
  obtain ⟨q0, e0⟩ := half (h.mem_iff.mp (by simp : p0 ∈ [p0, p1, p2, p3]))
  obtain ⟨q1, e1⟩ := half (h.mem_iff.mp (by simp : p1 ∈ [p0, p1, p2, p3]))
  obtain ⟨q2, e2⟩ := half (h.mem_iff.mp (by simp : p2 ∈ [p0, p1, p2, p3]))
  obtain ⟨q3, e3⟩ := half (h.mem_iff.mp (by simp : p3 ∈ [p0, p1, p2, p3]))
  exact ⟨q0, q1, q2, q3, e0, e1, e2, e3⟩
noncomputable def p3 (f : Int) : Int := 3 ^ f.toNat
theorem p3_two (q : Nat) : p3 (2 * (q : Int)) = pw q := by
  unfold p3 pw
  congr 1
theorem cf_halves {b0 b1 b2 b3 q0 q1 q2 q3 : Nat} (h : [2 * (q0 : Int), 2 * q1, 2 * q2, 2 * q3].Perm [2 * (b0 : Int), 2 * b1, 2 * b2, 2 * b3]) (k : Nat) :
    cf ([2 * (b0 : Int), 2 * b1, 2 * b2, 2 * b3].map p3) k = cfq q0 q1 q2 q3 k := by
  rw [← cf_perm (h.map p3)]
  unfold cfq
  simp only [List.map_cons, List.map_nil, p3_two]
noncomputable def frL (p0 p1 p2 p3 : Int) : List Int := [0, p0, p0 + p1, p0 + p1 + p2, p0 + p1 + p2 + p3]
theorem frL_fq {q0 q1 q2 q3 k : Nat} (hk : k < 5) : (frL (2 * (q0 : Int)) (2 * q1) (2 * q2) (2 * q3)).getD k 0 = ((2 * fq q0 q1 q2 q3 k : Nat) : Int) := by
  match k, hk with
  | 0, _ => rfl
  | 1, _ => simp [frL, fq]
  | 2, _ => simp [frL, fq]; omega
  | 3, _ => simp [frL, fq]; omega
  | 4, _ => simp [frL, fq]; omega
theorem cfL_getD (c : Nat → Int) {k : Nat} (hk : k < 5) : [c 0, c 1, c 2, c 3, c 4].getD k 0 = c k := by
  match k, hk with
  | 0, _ => rfl
  | 1, _ => rfl
  | 2, _ => rfl
  | 3, _ => rfl
  | 4, _ => rfl
theorem sumP {a b : List Int} (h : a.Perm b) : a.sum = b.sum := by
  induction h with
  | nil => rfl
  | cons x _ ih => simp only [List.sum_cons, ih]
  | swap x y l => simp only [List.sum_cons]; omega
  | trans _ _ ih1 ih2 => exact ih1.trans ih2
theorem row_bounds {b0 b1 b2 b3 : Nat} {p0 p1 p2 p3' : Int} (h : [p0, p1, p2, p3'].Perm [2 * (b0 : Int), 2 * b1, 2 * b2, 2 * b3]) (h1 : p1 ≤ p0) (h2 : p2 ≤ p1) (h3 : p3' ≤ p2) (hs : b0 + b1 + b2 + b3 ≤ 12) {k : Nat} (hk : k < 5) :
    0 ≤ (frL p0 p1 p2 p3').getD k 0 ∧ (frL p0 p1 p2 p3').getD k 0 ≤ 24 ∧ 3 ^ ((frL p0 p1 p2 p3').getD k 0).toNat ≤ cf ([2 * (b0 : Int), 2 * b1, 2 * b2, 2 * b3].map p3) (4 - k) ∧ cf ([2 * (b0 : Int), 2 * b1, 2 * b2, 2 * b3].map p3) (4 - k) ≤ 6 * 3 ^ ((frL p0 p1 p2 p3').getD k 0).toNat := by
  obtain ⟨q0, q1, q2, q3, rfl, rfl, rfl, rfl⟩ := halves h
  have e := sumP h
  have hq : q0 + q1 + q2 + q3 ≤ 12 := by simp only [List.sum_cons, List.sum_nil] at e; omega
  have b := bnd (q0 := q0) (q1 := q1) (q2 := q2) (q3 := q3) (k := k) (by omega) (by omega) (by omega) hq hk
  rw [cf_halves h, frL_fq hk]
  have hf : fq q0 q1 q2 q3 k ≤ 12 := by
    match k, hk with
    | 0, _ => exact Nat.zero_le _
    | 1, _ => show q0 ≤ 12; omega
    | 2, _ => show q0 + q1 ≤ 12; omega
    | 3, _ => show q0 + q1 + q2 ≤ 12; omega
    | 4, _ => show q0 + q1 + q2 + q3 ≤ 12; omega
  refine ⟨by omega, by omega, ?_, ?_⟩
  · rw [Int.toNat_natCast]; exact b.1
  · rw [Int.toNat_natCast]; exact b.2
noncomputable def lessB (xs ys : List Int) : Bool := !decide (lessL xs ys = [])
theorem lessB_false {ns ms : List Int} : lessB ns ms = false ↔ ∀ k, k < 5 → ms.getD k 0 ≤ ns.getD k 0 := by
  unfold lessB lessL lessI
  rw [Bool.not_eq_false', decide_eq_true_eq, List.filterMap_eq_nil_iff]
  simp only [List.mem_range]
  refine forall_congr' fun k => forall_congr' fun hk => ?_
  split
  · rename_i q; exact ⟨fun h => (nomatch h), fun h => absurd q (by omega)⟩
  · rename_i q; exact ⟨fun _ => by omega, fun _ => rfl⟩
theorem less_dom {b0 b1 b2 b3 d0 d1 d2 d3 : Nat} {p0 p1 p2 p3' q0 q1 q2 q3' : Int} (h : [p0, p1, p2, p3'].Perm [2 * (b0 : Int), 2 * b1, 2 * b2, 2 * b3]) (h1 : p1 ≤ p0) (h2 : p2 ≤ p1) (h3 : p3' ≤ p2)
    (g : [q0, q1, q2, q3'].Perm [2 * (d0 : Int), 2 * d1, 2 * d2, 2 * d3]) (g1 : q1 ≤ q0) (g2 : q2 ≤ q1) (g3 : q3' ≤ q2) (hs : b0 + b1 + b2 + b3 ≤ 12) (hd : d0 + d1 + d2 + d3 = b0 + b1 + b2 + b3)
    (hl : lessB (frL p0 p1 p2 p3') (frL q0 q1 q2 q3') = false) {cA cB : Nat → Int} (eA : cA = cf ([2 * (b0 : Int), 2 * b1, 2 * b2, 2 * b3].map p3)) (eB : cB = cf ([2 * (d0 : Int), 2 * d1, 2 * d2, 2 * d3].map p3)) :
    lessB [cA 0, cA 1, cA 2, cA 3, cA 4] [cB 0, cB 1, cB 2, cB 3, cB 4] = false := by
  subst eA; subst eB
  obtain ⟨x0, x1, x2, x3, rfl, rfl, rfl, rfl⟩ := halves h
  obtain ⟨y0, y1, y2, y3, rfl, rfl, rfl, rfl⟩ := halves g
  have e := sumP h
  have e' := sumP g
  simp only [List.sum_cons, List.sum_nil] at e e'
  have hl := lessB_false.mp hl
  have l1 := hl 1 (by omega)
  have l2 := hl 2 (by omega)
  have l3 := hl 3 (by omega)
  rw [frL_fq (by omega), frL_fq (by omega)] at l1 l2 l3
  simp only [fq] at l1 l2 l3
  refine lessB_false.mpr fun k hk => ?_
  rw [cfL_getD _ hk, cfL_getD _ hk, cf_halves h, cf_halves g]
  exact dom (by omega) (by omega) (by omega) (by omega) (by omega) (by omega) (by omega) (by omega) (by omega) (by omega) (by omega) hk
end Mine
end
section
open PySem PySem.W PyProof.Rows PySem.Calls PySem.Spec
set_option maxRecDepth 100000
set_option maxHeartbeats 2000000
namespace Mine
/-! the top: add_callers' code table, laid aside; the end of the law -/
theorem tab51 {w : World} {mg mb : Str → Option Value} {mean : ExcName → Option Value} {h : Heap} (X : (hd.heap_39 w.params).In h) (T : Top hd.view_39 (looseW hd.view_39 []) mean mg mb h) : h.get? 51 = some (tabO #[]) ∧ isCodeTable h 51 := by
  obtain ⟨a, b⟩ := tab_of (x := Str.ofString "add_callers") (c := 55) (P := 51) T X (by rfl) (by kernel_rfl)
  refine ⟨b, ?_⟩
  obtain ⟨o, vs, h1, h2, h3, h4⟩ : ∃ o vs, h.get? 55 = some o ∧ o.cls = .type "code" ∧ o.data = .fields vs ∧ vs[11]? = some (.ref 51) := ⟨_, _, X 55 _ (by with_unfolding_all rfl), rfl, rfl, rfl⟩
  exact ⟨55, o, vs, h1, h2, h3, h4⟩
theorem old_of {h h' : Heap} {ps : Array Value} (ht : isCodeTable h 51) (h51 : h.get? 51 = some (tabO #[])) (hk : ∀ b o, b ≠ 51 → h.get? b = some o → h'.get? b = some o) (hP : h'.get? 51 = some (tabO ps)) : OldK h h' := by
  refine ⟨fun b o e => ?_, fun b o e => ?_⟩
  · by_cases hb : b = 51
    · subst hb
      rw [h51] at e; cases e
      exact .inr (.inl ⟨ht, rfl, #[], ps, rfl, by rw [hP, Array.empty_append]⟩)
    · exact .inl (hk b o hb e)
  · by_cases hb : b = 51
    · subst hb; exact ⟨_, hP⟩
    · exact ⟨o, hk b o hb e⟩
theorem of_some {α : Type} {o : Option α} {a b : α} {C : Prop} (h1 : o = some a) (h2 : o = some b) (k : a = b → C) : C := by
  rw [h1] at h2
  injection h2 with h2
  exact k h2
/-- the record of the law's def -/
noncomputable def LawD (d : DefRec) : Prop := (recsOf hd.view_39).find? (fun e => e.name == Str.ofString "law") = some d
theorem start_val (x p : Int) : ∃ b : Nat, (x.fdiv p).fmod 4 = (b : Int) ∧ b ≤ 3 := by
  have h0 := Int.fmod_nonneg_of_pos (x.fdiv p) (show (0 : Int) < 4 by decide)
  have h1 := Int.fmod_lt_of_pos (x.fdiv p) (show (0 : Int) < 4 by decide)
  exact ⟨((x.fdiv p).fmod 4).toNat, by omega, by omega⟩
end Mine
end
section
open PySem PySem.W PyProof.Rows PySem.Calls PySem.Spec
set_option maxRecDepth 100000
set_option maxHeartbeats 4000000
namespace Mine
theorem fill_JW16 : (hd.heap_39, PySem.Challenge.rw_jc0009_01) = (hd.heap_39, PySem.Challenge.rw_jc0009_01) := by
  k_fill
  exact rfl
theorem fold_len4 : ∀ (ms : List Int) (bs : List Nat), bs.length = 4 → (ms.foldl mStep bs).length = 4
  | [], _, h => h
  | x :: ms, bs, h => fold_len4 ms _ (mStep_sum h x).2.1
theorem four_mem {b0 b1 b2 b3 n : Nat} (h : b0 + b1 + b2 + b3 ≤ n) : ∀ b ∈ [b0, b1, b2, b3], b ≤ n := by
  simp only [List.mem_cons, List.not_mem_nil, or_false, forall_eq_or_imp, forall_eq]; omega
theorem four_mem2 {b0 b1 b2 b3 : Nat} (h : b0 + b1 + b2 + b3 ≤ 12) : ∀ b ∈ [2 * b0, 2 * b1, 2 * b2, 2 * b3], b ≤ 24 := by
  simp only [List.mem_cons, List.not_mem_nil, or_false, forall_eq_or_imp, forall_eq]; omega
noncomputable def putTwo (x y : Str) : AV → Loc → Loc
  | .tup [a, b], σ => (y, b) :: (x, a) :: σ
  | _, σ => σ
theorem EvT.cast {P : Px} {e : Expr} {b b' : Bool} (h : EvT P e b) (q : b = b') : EvT P e b' := q ▸ h
theorem law_g {w : World} {mg mb : Str → Option Value} {mean : ExcName → Option Value} {d : DefRec} (hLaw : LawD d) (xs : List Int) (hx : xs.length ≤ 63) (fa : Addr) (cdv : Value)
    (dp un : Nat) (gd : Option (List Code)) (outer : List Env) (A₀ : Around) (base g : Heap) (L : Addr) (ob : Addr → Prop) (h1 : dp + 100 < recursionLimit + 1) (h2 : un + 8 * 100 < cLine + 3) :
    Wg ⟨w, mg, mb, mean, dp, un, gd, d.name, d.scope, L, fa, cdv, cellsFrom (L + 1) d.scope.names [], outer, A₀, base, g, ob⟩ (fun _ => False) ob [(Str.ofString "script", .sem (lsSm xs))] d.body (fun _ => False) (fun v => v = .bool true) := by
  refine of_some (by rfl) hLaw ?_
  rintro rfl
  dsimp only
  have e2 : dp + 2 < recursionLimit := by omega
  have e4 : dp + 4 < recursionLimit := by omega
  have e12 : dp + 12 < recursionLimit := by omega
  have e20 : dp + 20 < recursionLimit := by omega
  have e40 : dp + 40 < recursionLimit := by omega
  have u2 : un + 8 * 2 < cLine := by omega
  have u4 : un + 8 * 4 < cLine := by omega
  have u12 : un + 8 * 12 < cLine := by omega
  have u20 : un + 8 * 20 < cLine := by omega
  have u40 : un + 8 * 40 < cLine := by omega
  have d3 : un + 64 < cLine := by omega
  clear h1 h2
  refine .of (Ws.asg (Ev.callF (Ev.glob rfl (by k_is)) (by k_is) (.cons (Ev.name rfl) .nil) (cells_v xs hx _ rfl rfl rfl rfl e2 u2)) rfl ?_)
  have hcl := cells_len xs
  generalize cellsF xs = cs at *
  match cs, hcl with
  | [x, m1, m2, m3], _ =>
  clear hcl
  refine .of (Ws.asgT (names := [Str.ofString "x", Str.ofString "moves"]) (vs := [.int x, .list (ILs [m1, m2, m3])]) (Ev.tup (.cons (Ev.itemL (v := .int x) (Ev.name rfl) Ev.cInt (by decide) (by decide) rfl) (.cons (Ev.castL (vs := pickV (ILs [x, m1, m2, m3]) (some 1) none) (by with_unfolding_all rfl) (Ev.partS (Nat.le_of_ble_eq_true rfl) (Ev.name rfl) Ev.cInt)) .nil)) (Nat.le_of_ble_eq_true rfl)) (.cons .name (.cons .name .nil)) rfl (List.forall_mem_cons.mpr ⟨rfl, List.forall_mem_cons.mpr ⟨rfl, List.forall_mem_nil _⟩⟩) ?_)
  refine .of (Ws.asgCompA (vs := (List.range 4).map fun k => .int ((x.fdiv (4 ^ k)).fmod 4)) (by with_unfolding_all rfl) (It.range (k := 4) rfl (by decide) (Ev.built rfl (by k_is) rfl (by decide)) Ev.cInt) rfl (by decide) (by decide) rfl (Nat.le_of_ble_eq_true rfl) rfl ?_ ?_)
  · intro K ob2 j w' u hw hu
    obtain ⟨hj, rfl⟩ := rng_at hw
    obtain ⟨j', hj', rfl⟩ := map_at hu
    obtain rfl : j' = j := by rw [List.getElem?_range hj] at hj'; exact (Option.some.inj hj').symm
    have hd : Builtin.divisionGoesByPylong x (4 ^ j') = false ∧ (4 : Int) ^ j' ≠ 0 := by
      match j', hj with
      | 0, _ => exact ⟨PyProof.noPylong_of_log2 (by decide +kernel), by decide⟩
      | 1, _ => exact ⟨PyProof.noPylong_of_log2 (by decide +kernel), by decide⟩
      | 2, _ => exact ⟨PyProof.noPylong_of_log2 (by decide +kernel), by decide⟩
      | 3, _ => exact ⟨PyProof.noPylong_of_log2 (by decide +kernel), by decide⟩
    exact ⟨_, Binds.name rfl rfl fun _ _ _ h => h, Ev.mod (by decide) (Ev.fdiv hd.2 (Ev.freeC rfl rfl rfl rfl rfl) (Ev.pow (n := j') (by omega) (by decide) Ev.cInt (Ev.nameC rfl rfl rfl)) hd.1) Ev.cInt⟩
  obtain ⟨b0, f0, hb0⟩ := start_val x (4 ^ 0)
  obtain ⟨b1, f1, hb1⟩ := start_val x (4 ^ 1)
  obtain ⟨b2, f2, hb2⟩ := start_val x (4 ^ 2)
  obtain ⟨b3, f3, hb3⟩ := start_val x (4 ^ 3)
  have hst : ((List.range 4).map fun k => AV.int ((x.fdiv (4 ^ k)).fmod 4)) = nL [b0, b1, b2, b3] := by
    show [AV.int ((x.fdiv (4 ^ 0)).fmod 4), AV.int ((x.fdiv (4 ^ 1)).fmod 4), AV.int ((x.fdiv (4 ^ 2)).fmod 4), AV.int ((x.fdiv (4 ^ 3)).fmod 4)] = _
    rw [f0, f1, f2, f3]; rfl
  rw [hst]
  clear hst f0 f1 f2 f3
  have hs12 : b0 + b1 + b2 + b3 ≤ 12 := by omega
  refine .of (Ws.asg (EvNew.ev (EvNew.disp (.cons (Ev.callF (Ev.glob rfl (by k_is)) (by k_is) (.cons (Ev.name rfl) .nil) (lines_v [b0, b1, b2, b3] (Nat.le_of_ble_eq_true rfl) (four_mem hs12) _ rfl rfl rfl rfl e2 u2)) (.cons (Ev.callF (Ev.glob rfl (by k_is)) (by k_is) (.cons (Ev.callF (Ev.glob rfl (by k_is)) (by k_is) (.cons (Ev.name rfl) .nil) (lines_v [b0, b1, b2, b3] (Nat.le_of_ble_eq_true rfl) (four_mem hs12) _ rfl rfl rfl rfl e2 u2)) (.cons (Ev.name rfl) .nil)) (moved_v [b0, b1, b2, b3] [m1, m2, m3] rfl (by simp only [List.sum_cons, List.sum_nil]; omega) _ rfl rfl rfl rfl e4 u4)) .nil)) (Nat.le_of_ble_eq_true rfl))) rfl ?_)
  have hl4 := fold_len4 [m1, m2, m3] [b0, b1, b2, b3] rfl
  have hds := fold_sum [m1, m2, m3] [b0, b1, b2, b3] rfl
  have heq := fold_eq [m1, m2, m3] [b0, b1, b2, b3]
  generalize [m1, m2, m3].foldl mStep [b0, b1, b2, b3] = ds at *
  match ds, hl4 with
  | [d0, d1, d2, d3'], _ =>
  clear hl4
  simp only [List.sum_cons, List.sum_nil] at hds
  have hd12 : d0 + d1 + d2 + d3' ≤ 12 := by omega
  refine .cons (WgS.ite (b := false) (Ev.neSame (xs := [lineS d0 97, lineS d1 98, lineS d2 100, lineS d3' 101]) d3 (Ev.itemL (v := .list (linesL [d0, d1, d2, d3'] abde)) (Ev.name rfl) Ev.cInt (by decide) (by decide) rfl)
    (Ev.callF (Ev.glob rfl (by k_is)) (by k_is) (.cons (Ev.castL (ws := nL [d0, d1, d2, d3']) (congrArg ILs heq) (Ev.callF (Ev.glob rfl (by k_is)) (by k_is) (.cons (Ev.name rfl) (.cons (Ev.name rfl) .nil)) (end_v (lcast [b0, b1, b2, b3]) [m1, m2, m3] rfl (Nat.le_of_ble_eq_true rfl) _ rfl rfl rfl rfl e2 u2))) .nil) (lines_v [d0, d1, d2, d3'] (Nat.le_of_ble_eq_true rfl) (four_mem hd12) _ rfl rfl rfl rfl e2 u2))) nofun fun _ => .nil ?_)
  clear heq
  refine .of (Ws.asgCompA (vs := [.list (ILs [2 * (b0 : Int), 2 * b1, 2 * b2, 2 * b3]), .list (ILs [2 * (d0 : Int), 2 * d1, 2 * d2, 2 * d3'])]) (by with_unfolding_all rfl) (It.list (Ev.name rfl)) rfl (by decide) (by decide) rfl (Nat.le_of_ble_eq_true rfl) rfl ?_ ?_)
  · intro K ob2 j w' u hw hu
    match j, hw, hu with
    | 0, hw, hu => cases hw; cases hu; exact ⟨_, Binds.name rfl rfl fun _ _ _ h => h, Ev.callF (Ev.globC rfl rfl (by k_is)) (by k_is) (.cons (Ev.nameC rfl rfl rfl) .nil) (weights_v [b0, b1, b2, b3] (Nat.le_of_ble_eq_true rfl) (four_mem hs12) _ rfl rfl rfl rfl e4 u4)⟩
    | 1, hw, hu => cases hw; cases hu; exact ⟨_, Binds.name rfl rfl fun _ _ _ h => h, Ev.callF (Ev.globC rfl rfl (by k_is)) (by k_is) (.cons (Ev.nameC rfl rfl rfl) .nil) (weights_v [d0, d1, d2, d3'] (Nat.le_of_ble_eq_true rfl) (four_mem hd12) _ rfl rfl rfl rfl e4 u4)⟩
    | j + 2, hw, _ => cases hw
  refine .cons (WgS.ite (b := false) (Ev.neL (ns := []) (ms := []) d3 (Ev.compTwo (wss := [ILs [2 * (b0 : Int), 2 * b1, 2 * b2, 2 * b3], ILs [2 * (d0 : Int), 2 * d1, 2 * d2, 2 * d3']]) (by with_unfolding_all rfl) (Ev.name rfl) rfl (by decide) (by decide) rfl rfl (by decide) ?_) (EvNew.ev (EvNew.disp .nil (Nat.le_of_ble_eq_true rfl)))) nofun fun _ => .nil ?_)
  · rintro K ob2 w' ⟨ws, hws, hw⟩
    obtain ⟨i, rfl⟩ : ∃ i, w' = .int i := by
      rcases List.mem_cons.mp hws with rfl | hws
      · obtain ⟨i, _, rfl⟩ := List.mem_map.mp hw; exact ⟨i, rfl⟩
      · rw [List.mem_singleton.mp hws] at hw
        obtain ⟨i, _, rfl⟩ := List.mem_map.mp hw; exact ⟨i, rfl⟩
    exact Ev.isNotT (Ev.callT (Ev.builtC rfl rfl (by k_is) rfl (by decide)) (.cons (Ev.nameC rfl rfl rfl) .nil) Cv.tyInt) (Ev.builtC rfl rfl (by k_is) rfl (by decide))
  have cA := fronts_v (w := w) (mg := mg) (mb := mb) (mean := mean) [2 * (b0 : Int), 2 * b1, 2 * b2, 2 * b3] rfl x
  have cB := fronts_v (w := w) (mg := mg) (mb := mb) (mean := mean) [2 * (d0 : Int), 2 * d1, 2 * d2, 2 * d3'] rfl x
  obtain ⟨p0, p1, p2, p3', hfA, hp1, hp2, hp3, hpp⟩ := fronts_spec (drX_neg x) (wayX_two x) (ws := [2 * (b0 : Int), 2 * b1, 2 * b2, 2 * b3]) rfl
  obtain ⟨q0, q1, q2, q3, hfB, hq1, hq2, hq3, hqp⟩ := fronts_spec (drX_neg x) (wayX_two x) (ws := [2 * (d0 : Int), 2 * d1, 2 * d2, 2 * d3']) rfl
  rw [hfA] at cA
  rw [hfB] at cB
  clear hfA hfB
  refine .of (Ws.asgCompA (vs := [.list (ILs (frL p0 p1 p2 p3')), .list (ILs (frL q0 q1 q2 q3))]) (by with_unfolding_all rfl) (It.list (Ev.name rfl)) rfl (by decide) (by decide) rfl (Nat.le_of_ble_eq_true rfl) rfl ?_ ?_)
  · intro K ob2 j w' u hw hu
    match j, hw, hu with
    | 0, hw, hu => cases hw; cases hu; exact ⟨_, Binds.name rfl rfl fun _ _ _ h => h, Ev.callF (Ev.globC rfl rfl (by k_is)) (by k_is) (.cons (Ev.nameC rfl rfl rfl) (.cons (Ev.freeC rfl rfl rfl rfl rfl) .nil)) (cA _ rfl rfl rfl rfl e20 u20)⟩
    | 1, hw, hu => cases hw; cases hu; exact ⟨_, Binds.name rfl rfl fun _ _ _ h => h, Ev.callF (Ev.globC rfl rfl (by k_is)) (by k_is) (.cons (Ev.nameC rfl rfl rfl) (.cons (Ev.freeC rfl rfl rfl rfl rfl) .nil)) (cB _ rfl rfl rfl rfl e20 u20)⟩
    | j + 2, hw, _ => cases hw
  clear cA cB
  have hfp : p0 + p1 + p2 + p3' = 2 * ((b0 + b1 + b2 + b3 : Nat) : Int) := by
    have := sum_perm hpp
    simp only [List.sum_cons, List.sum_nil] at this
    omega
  have hfq : q0 + q1 + q2 + q3 = 2 * ((b0 + b1 + b2 + b3 : Nat) : Int) := by
    have := sum_perm hqp
    simp only [List.sum_cons, List.sum_nil] at this
    omega
  have h3 : ∀ b ∈ [b0, b1, b2, b3], b ≤ 3 := by
    simp only [List.mem_cons, List.not_mem_nil, or_false, forall_eq_or_imp, forall_eq]; omega
  refine .cons (WgS.forG (putTwo (Str.ofString "lines") (Str.ofString "front")) (α := Unit) (fun _ => [(Str.ofString "fronts", .list [.list (ILs (frL p0 p1 p2 p3')), .list (ILs (frL q0 q1 q2 q3))]), (Str.ofString "weights", .list [.list (ILs [2 * (b0 : Int), 2 * b1, 2 * b2, 2 * b3]), .list (ILs [2 * (d0 : Int), 2 * d1, 2 * d2, 2 * d3'])]), (Str.ofString "rows", .list [.list (linesL [b0, b1, b2, b3] abde), .list (linesL [d0, d1, d2, d3'] abde)]), (Str.ofString "start", .list (nL [b0, b1, b2, b3]))]) (fun _ _ => True) () (It.zipL (Ev.built rfl (by k_is) rfl (by decide)) (Ev.name rfl) (Ev.name rfl)).toF trivial (fun p hp => by simp at hp; rcases hp with rfl | rfl | rfl | rfl <;> rfl) ?_ ?_ ?_)
  · exact List.forall_mem_cons.mpr ⟨TgS.pair rfl rfl, List.forall_mem_cons.mpr ⟨TgS.pair rfl rfl, List.forall_mem_nil _⟩⟩
  · rintro ob' i _ v - hv
    obtain ⟨c0, c1, c2, c3, g0, g1, g2, g3, rfl, hc, hg, G1, G2, G3, Gp⟩ : ∃ (c0 c1 c2 c3 : Nat) (g0 g1 g2 g3 : Int), v = .tup [.list (linesL [c0, c1, c2, c3] abde), .list (ILs (frL g0 g1 g2 g3))] ∧ c0 + c1 + c2 + c3 = b0 + b1 + b2 + b3 ∧ g0 + g1 + g2 + g3 = 2 * ((b0 + b1 + b2 + b3 : Nat) : Int) ∧ g1 ≤ g0 ∧ g2 ≤ g1 ∧ g3 ≤ g2 ∧ [g0, g1, g2, g3].Perm [2 * (c0 : Int), 2 * c1, 2 * c2, 2 * c3] := by
      match i, hv with
      | 0, hv => cases hv; exact ⟨b0, b1, b2, b3, p0, p1, p2, p3', rfl, rfl, hfp, hp1, hp2, hp3, hpp⟩
      | 1, hv => cases hv; exact ⟨d0, d1, d2, d3', q0, q1, q2, q3, rfl, by omega, hfq, hq1, hq2, hq3, hqp⟩
      | i + 2, hv => cases hv
    clear hv hpp hqp hfp hfq hp1 hp2 hp3 hq1 hq2 hq3
    refine .cons (WgS.ite (b := false) (EvT.cast (b := false || (false || (!true || false))) (EvT.or (.cons (Ev.eqLen (vs := ILs (frL g0 g1 g2 g3)) (ws := []) d3 (Nat.succ_ne_zero 4) (Ev.name rfl) (EvNew.ev (EvNew.disp .nil (Nat.le_of_ble_eq_true rfl)))) fun _ => .cons (EvT.cast (b' := false) (Ev.ne (Ev.itemL (v := .int (g0 + g1 + g2 + g3)) (Ev.name rfl) Ev.cInt (by decide) (by decide) rfl) (Ev.mul (.of_left (intBits_le_64 (by decide) (by decide))) Ev.cInt (Ev.callB (Ev.built rfl (by k_is) rfl (by decide)) (.cons (Ev.name rfl) .nil) (Cv.sumL (ns := [(b0 : Int), b1, b2, b3]))))) ?_) fun _ =>
      .cons (EvT.not (EvT.bool (Ev.callF (Ev.glob rfl (by k_is)) (by k_is) (.cons (Ev.name rfl) (.cons (Ev.name rfl) (.cons (Ev.callB (Ev.built rfl (by k_is) rfl (by decide)) (.cons (Ev.callT (Ev.built rfl (by k_is) rfl (by decide)) (.cons (Ev.name rfl) .nil) (Cv.set (ns := [b0, b1, b2, b3]) h3)) .nil) (Cv.sorted h3)) .nil))) (judged_s [c0, c1, c2, c3] 0 g0 (g0 + g1) (g0 + g1 + g2) (g0 + g1 + g2 + g3) rfl ?_ ?_ ?_ ?_ ?_ _ rfl rfl rfl rfl e20 u20)))) fun _ => .nil)) rfl) nofun fun _ => .nil (.nil ⟨(), trivial, fun z hz => ?_⟩))
    · rw [bne_eq_false_iff_eq]
      simp only [List.sum_cons, List.sum_nil]; omega
    · simp only [List.sum_cons, List.sum_nil]; omega
    · exact four_mem (by omega)
    · rw [far_sorted Gp G1 G2 G3]; omega
    · simp only [List.sum_cons, List.sum_nil]; omega
    · exact fun n _ => max_left Gp G1 G2 G3 n
    · simp at hz
      rcases hz with rfl | rfl | rfl | rfl <;> rfl
  rintro _ -
  refine .cons (WgS.asg (EvG.call (vs := [.list (nL [2 * b0, 2 * b1, 2 * b2, 2 * b3]), .list (nL [2 * d0, 2 * d1, 2 * d2, 2 * d3'])]) (Ev.glob rfl (by k_is)) (by k_is) (.cons (Ev.castL (vs := ILs [2 * (b0 : Int), 2 * b1, 2 * b2, 2 * b3]) rfl (Ev.itemL (v := .list (ILs [2 * (b0 : Int), 2 * b1, 2 * b2, 2 * b3])) (Ev.name rfl) Ev.cInt (by decide) (by decide) rfl)) (.cons (Ev.castL (vs := ILs [2 * (d0 : Int), 2 * d1, 2 * d2, 2 * d3']) rfl (Ev.itemL (v := .list (ILs [2 * (d0 : Int), 2 * d1, 2 * d2, 2 * d3'])) (Ev.name rfl) Ev.cInt (by decide) (by decide) rfl)) .nil))
    (products_v [2 * b0, 2 * b1, 2 * b2, 2 * b3] [2 * d0, 2 * d1, 2 * d2, 2 * d3'] rfl rfl (four_mem2 hs12) (four_mem2 hd12)) e40 u40) rfl ?_)
  obtain ⟨A, eA⟩ : ∃ A, A = cf ([2 * b0, 2 * b1, 2 * b2, 2 * b3].map fun n => (3 : Int) ^ n) := ⟨_, rfl⟩
  obtain ⟨B, eB⟩ : ∃ B, B = cf ([2 * d0, 2 * d1, 2 * d2, 2 * d3'].map fun n => (3 : Int) ^ n) := ⟨_, rfl⟩
  rw [← eA, ← eB]
  replace eA : A = cf ([2 * (b0 : Int), 2 * b1, 2 * b2, 2 * b3].map p3) := eA
  replace eB : B = cf ([2 * (d0 : Int), 2 * d1, 2 * d2, 2 * d3'].map p3) := eB
  refine .cons (WgS.ite (b := false) (Ev.eqLen (vs := [.list (ILs (five A)), .list (ILs (five B))]) (ws := []) d3 (Nat.succ_ne_zero 1) (Ev.name rfl) (EvNew.ev (EvNew.disp .nil (Nat.le_of_ble_eq_true rfl)))) nofun fun _ => .nil ?_)
  refine .cons (WgS.forG (putTwo (Str.ofString "front") (Str.ofString "row")) (α := Unit) (fun _ => [(Str.ofString "products", .list [.list (ILs (five A)), .list (ILs (five B))]), (Str.ofString "fronts", .list [.list (ILs (frL p0 p1 p2 p3')), .list (ILs (frL q0 q1 q2 q3))])]) (fun _ _ => True) () (It.zipL (Ev.built rfl (by k_is) rfl (by decide)) (Ev.name rfl) (Ev.name rfl)).toF trivial (fun p hp => by simp at hp; rcases hp with rfl | rfl <;> rfl) ?_ ?_ ?_)
  · exact List.forall_mem_cons.mpr ⟨TgS.pair rfl rfl, List.forall_mem_cons.mpr ⟨TgS.pair rfl rfl, List.forall_mem_nil _⟩⟩
  · rintro ob' i _ v - hv
    obtain ⟨g0, g1, g2, g3, C, rfl, hC⟩ : ∃ (g0 g1 g2 g3 : Int) (C : Nat → Int), v = .tup [.list (ILs (frL g0 g1 g2 g3)), .list (ILs (five C))] ∧ ∀ k, k < 5 → 0 ≤ (frL g0 g1 g2 g3).getD k 0 ∧ (frL g0 g1 g2 g3).getD k 0 ≤ 24 ∧ 3 ^ ((frL g0 g1 g2 g3).getD k 0).toNat ≤ C (4 - k) ∧ C (4 - k) ≤ 6 * 3 ^ ((frL g0 g1 g2 g3).getD k 0).toNat := by
      match i, hv with
      | 0, hv => cases hv; exact ⟨p0, p1, p2, p3', A, rfl, fun k hk => eA ▸ row_bounds hpp hp1 hp2 hp3 hs12 hk⟩
      | 1, hv => cases hv; exact ⟨q0, q1, q2, q3, B, rfl, fun k hk => eB ▸ row_bounds hqp hq1 hq2 hq3 hd12 hk⟩
      | i + 2, hv => cases hv
    clear hv hpp hqp hfp hfq hp1 hp2 hp3 hq1 hq2 hq3 eA eB
    refine .cons (WgS.ite (b := false) (Ev.neL (ns := []) (ms := []) d3 (Ev.compN (by with_unfolding_all rfl) (It.range (k := 5) rfl (by decide) (Ev.built rfl (by k_is) rfl (by decide)) Ev.cInt) rfl (by decide) (by decide) (Nat.le_of_ble_eq_true rfl) ?_) (EvNew.ev (EvNew.disp .nil (Nat.le_of_ble_eq_true rfl)))) nofun fun _ => .nil (.nil ⟨(), trivial, fun z hz => ?_⟩))
    · intro K ob2 j w' hw
      obtain ⟨hj, rfl⟩ := rng_at hw
      obtain ⟨k0, k1, k2, k3⟩ := hC j hj
      have hfr := ints_at (l := frL g0 g1 g2 g3) (k := j) hj
      generalize (frL g0 g1 g2 g3).getD j 0 = fk at *
      obtain ⟨n, rfl⟩ : ∃ n : Nat, fk = n := ⟨fk.toNat, by omega⟩
      rw [Int.toNat_natCast] at k2 k3
      have ht : (4 - ((j : Nat) : Int)).toNat = 4 - j := by omega
      have hrw := ints_at (l := five C) (k := 4 - j) (by show 4 - j < 5; omega)
      rw [show (five C).getD (4 - j) 0 = C (4 - j) from cfL_getD C (by omega)] at hrw
      replace hrw : (ILs (five C))[(4 - ((j : Nat) : Int)).toNat]? = some (.int (C (4 - j))) := by rw [ht]; exact hrw
      have hn : n ≤ 1000000 := by omega
      have hj1 : 0 ≤ 4 - ((j : Nat) : Int) := by omega
      have hj2 : 4 - ((j : Nat) : Int) < 2 ^ 63 := by omega
      have hj3 : ((j : Nat) : Int) < 2 ^ 63 := by omega
      clear hC k0 k1 hw
      exact ⟨_, Binds.name rfl rfl fun _ _ _ h => h, EvT.cast (b := !true) (EvT.not (EvT.le2 k2 k3 (Ev.pow hn (by decide) Ev.cInt (Ev.itemL (v := .int (n : Nat)) (Ev.freeC rfl rfl rfl rfl rfl) (Ev.nameC rfl rfl rfl) (Int.natCast_nonneg _) hj3 hfr)) (Ev.itemL (v := .int (C (4 - j))) (Ev.freeC rfl rfl rfl rfl rfl) (Ev.sub Ev.cInt (Ev.nameC rfl rfl rfl)) hj1 hj2 hrw) (Ev.mul (.of_left (intBits_le_64 (by decide) (by decide))) Ev.cInt (Ev.pow hn (by decide) Ev.cInt (Ev.itemL (v := .int (n : Nat)) (Ev.freeC rfl rfl rfl rfl rfl) (Ev.nameC rfl rfl rfl) (Int.natCast_nonneg _) hj3 hfr))))) rfl⟩
    · simp at hz
      rcases hz with rfl | rfl <;> rfl
  rintro _ -
  refine .cons (WgS.ret (Ev.orV (Ev.callF (Ev.glob rfl (by k_is)) (by k_is) (.cons (Ev.name rfl) .nil) (less_v (frL p0 p1 p2 p3') (frL q0 q1 q2 q3) rfl rfl _ rfl rfl rfl rfl e12 u12)) fun _ => Ev.notV (Ev.callF (Ev.glob rfl (by k_is)) (by k_is) (.cons (Ev.name rfl) .nil) (less_v (five A) (five B) rfl rfl _ rfl rfl rfl rfl e12 u12))) ?_)
  congr 1
  cases hq : !decide (lessL (frL p0 p1 p2 p3') (frL q0 q1 q2 q3) = []) with
  | true => rfl
  | false =>
    have := less_dom hpp hp1 hp2 hp3 hqp hq1 hq2 hq3 hs12 (by omega) hq eA eB
    have : (!decide (lessL (five A) (five B) = [])) = false := this
    rw [this]; rfl
end Mine
end
section
open PySem PySem.W PyProof.Rows PySem.Calls PySem.Spec
set_option maxRecDepth 100000
set_option maxHeartbeats 2000000
namespace Mine
theorem law_shape {d : DefRec} (hLaw : LawD d) : d.scope.kind = .function ∧ d.scope.names.lookup (Str.ofString "script") = some .local ∧ ∀ L, cellsFrom (L + 1) d.scope.names [] = [(Str.ofString "row", L + 3), (Str.ofString "front", L + 2), (Str.ofString "x", L + 1)] := by
  refine of_some (by rfl) hLaw ?_
  rintro rfl
  exact ⟨rfl, rfl, fun L => rfl⟩
theorem law_use {w : World} {mg mb : Str → Option Value} {mean : ExcName → Option Value} {d : DefRec} (hLaw : LawD d) {fa : Addr} {cdv : Value} {s₁ : Shared} {h₁ : Heap} {tk : Nat} {sc : Addr} {vs : List Value} {xs : List Int} {cells : List (Addr × Obj)} {Q : Flow → Shared → Prop} {E : Value → Shared → Prop}
    (KX : (hd.heap_39 w.params).In s₁.heap) (T : Top hd.view_39 (looseW hd.view_39 []) mean mg mb s₁.heap)
    (F : Fr s₁.heap s₁.heap.objs.size h₁ (bindL (envOfC d.name d.scope s₁.heap.objs.size fa cdv).kindOf [(Str.ofString "script", .ref sc)] fun _ => none)) (N : News s₁.heap s₁.heap.objs.size h₁ cells)
    (Y : CellsAre (bindC (envOfC d.name d.scope s₁.heap.objs.size fa cdv).kindOf [(Str.ofString "script", .ref sc)] fun _ => none) (cellsFrom (s₁.heap.objs.size + 1) d.scope.names []) cells)
    (hl : s₁.heap.IsList sc vs.toArray) (hI : IntsAre vs xs) (hlen : xs.length ≤ 63) (hg : s₁.gens = #[])
    (hQ : ∀ fl s', s'.os = s₁.os → AllBare s'.gens → OldK s₁.heap s'.heap → mval fl = .bool true → Q fl s') :
    wpAny (model PySem.Challenge.rw_jc0009_01.row.prog w) (callerA.deeper (envOfC d.name d.scope s₁.heap.objs.size fa cdv)) (execs d.body (envOfC d.name d.scope s₁.heap.objs.size fa cdv)) Q E { s₁ with heap := h₁, toks := tk } := by
  obtain ⟨h51, hct⟩ := tab51 KX T
  obtain ⟨hkind, hsc, hcf⟩ := law_shape hLaw
  obtain ⟨L, hL⟩ : ∃ L, s₁.heap.objs.size = L := ⟨_, rfl⟩
  have l51 : @LT.lt Nat _ 51 L := hL ▸ Heap.lt_size h51
  obtain ⟨o, ho, hc, n, hdat⟩ := id hl
  have lsc : @LT.lt Nat _ sc L := hL ▸ Heap.lt_size ho
  have hs51 : sc ≠ 51 := fun e => by
    rw [e, h51] at ho
    cases ho
    cases hc
  have hg51 : (s₁.heap.hide 51).get? 51 = none := hideAll_none [51] (h := s₁.heap) (.head _)
  have F' : Fr (s₁.heap.hide 51) L h₁ _ := ⟨hL ▸ F.ns, fun b o e => F.keep b o (Heap.of_hide e), hL ▸ Nat.le_of_eq (Heap.hide_size s₁.heap 51)⟩
  have hY := Y
  rw [hL, hcf] at hY
  have cell : ∀ x a, (cellsFrom (L + 1) d.scope.names []).lookup x = some a → @LT.lt Nat _ L a ∧ ∃ o v, (a, o) ∈ cells ∧ o.data = .cell v := by
    rw [hcf]
    intro x a hx
    have hm := lookup_mem hx
    obtain ⟨o1, o2, o3, hE, y1, y2, y3⟩ := hY.three
    subst hE
    simp only [List.mem_cons, List.not_mem_nil, or_false, Prod.mk.injEq] at hm
    rcases hm with ⟨-, rfl⟩ | ⟨-, rfl⟩ | ⟨-, rfl⟩
    · exact ⟨Nat.lt_add_of_pos_right (by decide), _, _, .head _, y1⟩
    · exact ⟨Nat.lt_add_of_pos_right (by decide), _, _, .tail _ (.head _), y2⟩
    · exact ⟨Nat.lt_add_of_pos_right (by decide), _, _, .tail _ (.tail _ (.head _)), y3⟩
  have inj : ∀ x y a, (cellsFrom (L + 1) d.scope.names []).lookup x = some a → (cellsFrom (L + 1) d.scope.names []).lookup y = some a → x = y := by
    rw [hcf]
    intro x y a hx hy
    have h1 := lookup_mem hx
    have h2 := lookup_mem hy
    simp only [List.mem_cons, List.not_mem_nil, or_false, Prod.mk.injEq] at h1 h2
    have e3 : ∀ i j : Nat, i ≠ j → (L + i : Nat) ≠ L + j := fun i j h => by omega
    rcases h1 with ⟨rfl, rfl⟩ | ⟨rfl, rfl⟩ | ⟨rfl, rfl⟩ <;> rcases h2 with ⟨rfl, q⟩ | ⟨rfl, q⟩ | ⟨rfl, q⟩ <;> first | rfl | exact absurd q (e3 _ _ (by decide))
  have hns : Heap.Ns h₁ L (bindL (envOfC d.name d.scope s₁.heap.objs.size fa cdv).kindOf [(Str.ofString "script", .ref sc)] fun _ => none) := F'.ns
  have I : FnInv ⟨w, mg, mb, mean, 1 + claimMargin + 1, 7, some [], d.name, d.scope, L, fa, cdv, cellsFrom (L + 1) d.scope.names [], [], callerA, s₁.heap.hide 51, s₁.heap.hide 51, fun a => a = 51⟩ (fun _ => False) (fun a => a = 51) [(Str.ofString "script", .sem (lsSm xs))] h₁ :=
    { ok := ⟨below_caller _, in_hide KX (by with_unfolding_all rfl), top_hide T h51, hkind⟩
      rb := fun a h => h
      obs := fun a h => by
        subst h
        exact ⟨Nat.ne_of_lt l51, fun x e => Nat.lt_asymm l51 (cell x _ e).1, _, F.keep _ _ h51⟩
      mus := fun _ h => h.elim
      cells := fun x a e => by
        obtain ⟨lt, o, v, hm, hd⟩ := cell x a e
        obtain ⟨n1, n2, n3⟩ := N _ hm
        refine ⟨Nat.ne_of_gt lt, ?_, o, v, n1, hd⟩
        cases q : (s₁.heap.hide 51).get? a with
        | none => rfl
        | some o => have := n3; rw [Heap.of_hide q] at this; cases this
      inj := inj
      fr := by
        refine ⟨_, F', fun x v hx => ?_⟩
        rw [List.lookup_cons] at hx
        cases q : x == Str.ofString "script" with
        | false => rw [q] at hx; cases hx
        | true =>
          rw [q] at hx
          cases hx
          obtain rfl := eq_of_beq q
          refine .inl ⟨hsc, .ref sc, bindL_at hsc (by simp) (by simp), sc, vs, rfl, ?_, ⟨o, F.keep _ _ ho, hc, n, hdat⟩, are_ints hI.length fun j v hv => ints_getD hI hv⟩
          rintro (q | q | rfl | ⟨y, q⟩)
          · exact hs51 q
          · exact q
          · exact Nat.lt_irrefl _ lsc
          · exact Nat.lt_asymm lsc (cell y _ q).1 }
  subst hL
  refine law_g hLaw xs hlen fa cdv (1 + claimMargin + 1) 7 (some []) [] callerA (s₁.heap.hide 51) (s₁.heap.hide 51) s₁.heap.objs.size (fun a => a = 51) (by decide) (by decide) ⟨rfl, fun h => h, hg51⟩ { s₁ with heap := h₁, toks := tk } I ⟨.of_eq hg, #[], F.keep _ _ h51, .inl rfl⟩ Q E
    ⟨fun _ _ _ _ n => n.elim, fun r y h tk' gs hr hm rv t => ?_⟩
  subst hr
  cases rv
  obtain ⟨m, F2⟩ := hm
  obtain ⟨hb, ps, hps, -⟩ := t
  exact hQ _ _ rfl hb (old_of hct h51 (fun b o hn e => F2.keep b o ((Heap.hide_ne _ hn).trans e)) hps) rfl
end Mine
end
section
open PySem PySem.W PyProof.Rows PySem.Calls PySem.Spec
set_option maxRecDepth 100000
set_option maxHeartbeats 2000000
theorem PySem.Challenge.cw_jc0009_01_holds : PySem.Challenge.rw_jc0009_01.Holds := by
  refine Mine.hd (by rfl) (by rfl) (by rfl) ?_
  lgec_go0
  (rename Top _ _ _ _ _ _ => T9)
  (rename PySem.W.Frag.In _ _ => KX9)
  (rename Fr _ _ _ _ => F9)
  (rename News _ _ _ _ => N9)
  (rename CellsAre _ _ _ => Y9)
  (rename IntsAre _ _ => hI9)
  (rename Heap.IsList _ _ _ => hL9)
  (rename (_ = #[]) => hg9)
  (rename (¬ _ < ((List.length _ : Nat) : Int)) => hlen9)
  refine Mine.law_use (d := _) (by rfl) KX9 T9 F9 N9 Y9 hL9 hI9 (by omega) hg9 (fun fl s' ho hG hK hv => ?_)
  show GoodWG _ _ _ _ _ (.ok (.ret (Mine.mval fl))) _
  rw [hv]
  refine ⟨.inl ⟨.bool true, .bool true, [], rfl, raisesW_false (by wrow_none_raised), .bool true, postW_of (by wrow_shape) (by wtm_val) ?_, unshared_nil⟩, hK, ho, hG⟩
  rfl
end
