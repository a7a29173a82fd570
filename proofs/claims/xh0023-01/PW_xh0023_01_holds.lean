import PyProof.Rows.All
import Wide.All
import OpenK.AllK
import KE.KNest
import KE.KRevIter
import KE.KTurns
import KE.KTurnsDict
import Wide.FinOn
import Lean
import PySem.Challenge.RW_xh0023_01
set_option Elab.async false
section
open PySem PySem.W PyProof.Rows
set_option Elab.async false
namespace Mine
/-! the head, by hand: the objects that the law can come to, the functions' texts by their places in the row's program -/
noncomputable def nthS : List Stmt → Nat → Stmt
  | s :: _, 0 => s
  | _ :: r, n + 1 => nthS r n
  | [], _ => .Pass ⟨0, 0, 0, 0⟩
noncomputable def st (i : Nat) : Stmt := nthS PySem.Challenge.pw_xh0023_01.main.body i
noncomputable def subS : Stmt → List Stmt
  | .ClassDef _ _ _ b _ _ _ _ _ _ _ => b
  | _ => []
noncomputable def mt (i j : Nat) : Stmt := nthS (subS (st i)) j
noncomputable def fdA : Stmt → Arguments
  | .FunctionDef _ a _ _ _ _ _ _ _ _ => a
  | _ => ⟨[], [], none, [], [], none, []⟩
noncomputable def fdB : Stmt → List Stmt
  | .FunctionDef _ _ b _ _ _ _ _ _ _ => b
  | _ => []
noncomputable def fdS : Stmt → Scope
  | .FunctionDef _ _ _ _ _ _ s _ _ _ => s
  | _ => ⟨.function, [], false, false, []⟩
noncomputable def hd.heap_39 : Params → Frag := fun P =>
  (nat_lit 2, { cls := Value.none, data := Data.dict #[] }) ::
  (nat_lit 3, { cls := Value.type "dict", data := Data.dict #[{ hash := PyData.keyHash P (Str.ofString "__name__"), key := Value.str (Str.ofString "__name__") 165, val := Value.str (Str.ofString "law_xh0023_01") 378 }, { hash := PyData.keyHash P (Str.ofString "__doc__"), key := Value.str (Str.ofString "__doc__") 166, val := Value.none }, { hash := PyData.keyHash P (Str.ofString "__package__"), key := Value.str (Str.ofString "__package__") 167, val := Value.none }, { hash := PyData.keyHash P (Str.ofString "__loader__"), key := Value.str (Str.ofString "__loader__") 168, val := Value.builtin "__main__.__loader__#opaque" }, { hash := PyData.keyHash P (Str.ofString "__spec__"), key := Value.str (Str.ofString "__spec__") 169, val := Value.none }, { hash := PyData.keyHash P (Str.ofString "__annotations__"), key := Value.str (Str.ofString "__annotations__") 170, val := Value.ref 6 }, { hash := PyData.keyHash P (Str.ofString "__builtins__"), key := Value.str (Str.ofString "__builtins__") 171, val := Value.ref 4 }, { hash := PyData.keyHash P (Str.ofString "__file__"), key := Value.str (Str.ofString "__file__") 173, val := Value.str (Str.ofString "/claim/cut.py") 172 }, { hash := PyData.keyHash P (Str.ofString "__cached__"), key := Value.str (Str.ofString "__cached__") 174, val := Value.none }, { hash := PyData.keyHash P (Str.ofString "_DIV_LIMIT"), key := Value.str (Str.ofString "_DIV_LIMIT") 190, val := Value.int 4000 189 }, { hash := PyData.keyHash P (Str.ofString "_div2n1n"), key := Value.str (Str.ofString "_div2n1n") 207, val := Value.ref 21 }, { hash := PyData.keyHash P (Str.ofString "_div3n2n"), key := Value.str (Str.ofString "_div3n2n") 221, val := Value.ref 28 }, { hash := PyData.keyHash P (Str.ofString "_int2digits"), key := Value.str (Str.ofString "_int2digits") 232, val := Value.ref 35 }, { hash := PyData.keyHash P (Str.ofString "_digits2int"), key := Value.str (Str.ofString "_digits2int") 243, val := Value.ref 42 }, { hash := PyData.keyHash P (Str.ofString "_divmod_pos"), key := Value.str (Str.ofString "_divmod_pos") 258, val := Value.ref 49 }, { hash := PyData.keyHash P (Str.ofString "int_divmod"), key := Value.str (Str.ofString "int_divmod") 268, val := Value.ref 56 }, { hash := PyData.keyHash P (Str.ofString "TupleComp"), key := Value.str (Str.ofString "TupleComp") 312, val := Value.ref 80 }, { hash := PyData.keyHash P (Str.ofString "add_func_stats"), key := Value.str (Str.ofString "add_func_stats") 330, val := Value.ref 91 }, { hash := PyData.keyHash P (Str.ofString "add_callers"), key := Value.str (Str.ofString "add_callers") 341, val := Value.ref 98 }, { hash := PyData.keyHash P (Str.ofString "count_calls"), key := Value.str (Str.ofString "count_calls") 350, val := Value.ref 105 }, { hash := PyData.keyHash P (Str.ofString "ENDMARKER"), key := Value.str (Str.ofString "ENDMARKER") 354, val := Value.int 0 353 }, { hash := PyData.keyHash P (Str.ofString "NT_OFFSET"), key := Value.str (Str.ofString "NT_OFFSET") 356, val := Value.int 256 355 }, { hash := PyData.keyHash P (Str.ofString "ISTERMINAL"), key := Value.str (Str.ofString "ISTERMINAL") 363, val := Value.ref 112 }, { hash := PyData.keyHash P (Str.ofString "ISNONTERMINAL"), key := Value.str (Str.ofString "ISNONTERMINAL") 370, val := Value.ref 119 }, { hash := PyData.keyHash P (Str.ofString "ISEOF"), key := Value.str (Str.ofString "ISEOF") 377, val := Value.ref 126 }, { hash := PyData.keyHash P (Str.ofString "_law_rules"), key := Value.str (Str.ofString "_law_rules") 385, val := Value.ref 131 }, { hash := PyData.keyHash P (Str.ofString "_law_ways"), key := Value.str (Str.ofString "_law_ways") 403, val := Value.ref 138 }, { hash := PyData.keyHash P (Str.ofString "_law_trees"), key := Value.str (Str.ofString "_law_trees") 409, val := Value.ref 143 }, { hash := PyData.keyHash P (Str.ofString "_law_quotient"), key := Value.str (Str.ofString "_law_quotient") 422, val := Value.ref 150 }, { hash := PyData.keyHash P (Str.ofString "_law_step"), key := Value.str (Str.ofString "_law_step") 428, val := Value.ref 155 }, { hash := PyData.keyHash P (Str.ofString "law"), key := Value.str (Str.ofString "law") 434, val := Value.ref 160 }] 31 }) ::
  (nat_lit 15, { cls := Value.type "tuple", data := Data.seq #[] }) ::
  (nat_lit 17, { cls := Value.type "tuple", data := Data.seq #[Value.str (Str.ofString "a") 194, Value.str (Str.ofString "b") 195, Value.str (Str.ofString "n") 196, Value.str (Str.ofString "pad") 197, Value.str (Str.ofString "half_n") 198, Value.str (Str.ofString "mask") 199, Value.str (Str.ofString "b1") 200, Value.str (Str.ofString "b2") 201, Value.str (Str.ofString "q1") 202, Value.str (Str.ofString "r") 203, Value.str (Str.ofString "q2") 204] }) ::
  (nat_lit 18, { cls := Value.type "tuple", data := Data.seq #[] }) ::
  (nat_lit 20, { cls := Value.type "code", data := Data.fields #[Value.str (Str.ofString "_div2n1n") 191, Value.str (Str.ofString "_div2n1n") 192, Value.str (Str.ofString "/claim/cut.py") 193, Value.int 3 0, Value.int 3 0, Value.int 0 0, Value.int 0 0, Value.int 3 0, Value.ref 15, Value.bool true, Value.int 181 0, Value.ref 16, Value.none, Value.ref 17, Value.ref 18, Value.ref 19, Value.int 205 0, Value.int 3 0, Value.str (Str.ofString "/claim/cut.py") 206] }) ::
  (nat_lit 21, ⟨Value.type "function", none, .func ⟨Str.ofString "_div2n1n", Str.ofString "_div2n1n", fdA (st 2), .stmts (fdB (st 2)), fdS (st 2), (3), ([]), (Value.none), (Value.none), (Value.none), (Value.str (Str.ofString "cpy313._pylong") 187), (none), (Value.ref 20), (Value.none), (0)⟩, #[]⟩) ::
  (nat_lit 22, { cls := Value.type "tuple", data := Data.seq #[] }) ::
  (nat_lit 24, { cls := Value.type "tuple", data := Data.seq #[Value.str (Str.ofString "a12") 211, Value.str (Str.ofString "a3") 212, Value.str (Str.ofString "b") 213, Value.str (Str.ofString "b1") 214, Value.str (Str.ofString "b2") 215, Value.str (Str.ofString "n") 216, Value.str (Str.ofString "q") 217, Value.str (Str.ofString "r") 218] }) ::
  (nat_lit 25, { cls := Value.type "tuple", data := Data.seq #[] }) ::
  (nat_lit 27, { cls := Value.type "code", data := Data.fields #[Value.str (Str.ofString "_div3n2n") 208, Value.str (Str.ofString "_div3n2n") 209, Value.str (Str.ofString "/claim/cut.py") 210, Value.int 19 0, Value.int 6 0, Value.int 0 0, Value.int 0 0, Value.int 3 0, Value.ref 22, Value.bool true, Value.int 181 0, Value.ref 23, Value.none, Value.ref 24, Value.ref 25, Value.ref 26, Value.int 219 0, Value.int 19 0, Value.str (Str.ofString "/claim/cut.py") 220] }) ::
  (nat_lit 28, ⟨Value.type "function", none, .func ⟨Str.ofString "_div3n2n", Str.ofString "_div3n2n", fdA (st 3), .stmts (fdB (st 3)), fdS (st 3), (3), ([]), (Value.none), (Value.none), (Value.none), (Value.str (Str.ofString "cpy313._pylong") 187), (none), (Value.ref 27), (Value.none), (0)⟩, #[]⟩) ::
  (nat_lit 29, { cls := Value.type "tuple", data := Data.seq #[] }) ::
  (nat_lit 31, { cls := Value.type "tuple", data := Data.seq #[Value.str (Str.ofString "a") 225, Value.str (Str.ofString "n") 226] }) ::
  (nat_lit 32, { cls := Value.type "tuple", data := Data.seq #[Value.str (Str.ofString "n") 227, Value.str (Str.ofString "a_digits") 228, Value.str (Str.ofString "inner") 229] }) ::
  (nat_lit 34, { cls := Value.type "code", data := Data.fields #[Value.str (Str.ofString "_int2digits") 222, Value.str (Str.ofString "_int2digits") 223, Value.str (Str.ofString "/claim/cut.py") 224, Value.int 29 0, Value.int 2 0, Value.int 0 0, Value.int 0 0, Value.int 3 0, Value.ref 29, Value.bool true, Value.int 181 0, Value.ref 30, Value.none, Value.ref 31, Value.ref 32, Value.ref 33, Value.int 230 0, Value.int 29 0, Value.str (Str.ofString "/claim/cut.py") 231] }) ::
  (nat_lit 35, ⟨Value.type "function", none, .func ⟨Str.ofString "_int2digits", Str.ofString "_int2digits", fdA (st 4), .stmts (fdB (st 4)), fdS (st 4), (3), ([]), (Value.none), (Value.none), (Value.none), (Value.str (Str.ofString "cpy313._pylong") 187), (none), (Value.ref 34), (Value.none), (0)⟩, #[]⟩) ::
  (nat_lit 36, { cls := Value.type "tuple", data := Data.seq #[] }) ::
  (nat_lit 38, { cls := Value.type "tuple", data := Data.seq #[Value.str (Str.ofString "digits") 236, Value.str (Str.ofString "n") 237] }) ::
  (nat_lit 39, { cls := Value.type "tuple", data := Data.seq #[Value.str (Str.ofString "digits") 238, Value.str (Str.ofString "n") 239, Value.str (Str.ofString "inner") 240] }) ::
  (nat_lit 41, { cls := Value.type "code", data := Data.fields #[Value.str (Str.ofString "_digits2int") 233, Value.str (Str.ofString "_digits2int") 234, Value.str (Str.ofString "/claim/cut.py") 235, Value.int 45 0, Value.int 2 0, Value.int 0 0, Value.int 0 0, Value.int 3 0, Value.ref 36, Value.bool true, Value.int 181 0, Value.ref 37, Value.none, Value.ref 38, Value.ref 39, Value.ref 40, Value.int 241 0, Value.int 45 0, Value.str (Str.ofString "/claim/cut.py") 242] }) ::
  (nat_lit 42, ⟨Value.type "function", none, .func ⟨Str.ofString "_digits2int", Str.ofString "_digits2int", fdA (st 5), .stmts (fdB (st 5)), fdS (st 5), (3), ([]), (Value.none), (Value.none), (Value.none), (Value.str (Str.ofString "cpy313._pylong") 187), (none), (Value.ref 41), (Value.none), (0)⟩, #[]⟩) ::
  (nat_lit 43, { cls := Value.type "tuple", data := Data.seq #[] }) ::
  (nat_lit 45, { cls := Value.type "tuple", data := Data.seq #[Value.str (Str.ofString "a") 247, Value.str (Str.ofString "b") 248, Value.str (Str.ofString "n") 249, Value.str (Str.ofString "a_digits") 250, Value.str (Str.ofString "r") 251, Value.str (Str.ofString "q_digits") 252, Value.str (Str.ofString "a_digit") 253, Value.str (Str.ofString "q_digit") 254, Value.str (Str.ofString "q") 255] }) ::
  (nat_lit 46, { cls := Value.type "tuple", data := Data.seq #[] }) ::
  (nat_lit 48, { cls := Value.type "code", data := Data.fields #[Value.str (Str.ofString "_divmod_pos") 244, Value.str (Str.ofString "_divmod_pos") 245, Value.str (Str.ofString "/claim/cut.py") 246, Value.int 54 0, Value.int 2 0, Value.int 0 0, Value.int 0 0, Value.int 3 0, Value.ref 43, Value.bool true, Value.int 181 0, Value.ref 44, Value.none, Value.ref 45, Value.ref 46, Value.ref 47, Value.int 256 0, Value.int 54 0, Value.str (Str.ofString "/claim/cut.py") 257] }) ::
  (nat_lit 49, ⟨Value.type "function", none, .func ⟨Str.ofString "_divmod_pos", Str.ofString "_divmod_pos", fdA (st 6), .stmts (fdB (st 6)), fdS (st 6), (3), ([]), (Value.none), (Value.none), (Value.none), (Value.str (Str.ofString "cpy313._pylong") 187), (none), (Value.ref 48), (Value.none), (0)⟩, #[]⟩) ::
  (nat_lit 50, { cls := Value.type "tuple", data := Data.seq #[] }) ::
  (nat_lit 52, { cls := Value.type "tuple", data := Data.seq #[Value.str (Str.ofString "a") 262, Value.str (Str.ofString "b") 263, Value.str (Str.ofString "q") 264, Value.str (Str.ofString "r") 265] }) ::
  (nat_lit 53, { cls := Value.type "tuple", data := Data.seq #[] }) ::
  (nat_lit 55, { cls := Value.type "code", data := Data.fields #[Value.str (Str.ofString "int_divmod") 259, Value.str (Str.ofString "int_divmod") 260, Value.str (Str.ofString "/claim/cut.py") 261, Value.int 65 0, Value.int 2 0, Value.int 0 0, Value.int 0 0, Value.int 3 0, Value.ref 50, Value.bool true, Value.int 181 0, Value.ref 51, Value.none, Value.ref 52, Value.ref 53, Value.ref 54, Value.int 266 0, Value.int 65 0, Value.str (Str.ofString "/claim/cut.py") 267] }) ::
  (nat_lit 56, ⟨Value.type "function", none, .func ⟨Str.ofString "int_divmod", Str.ofString "int_divmod", fdA (st 7), .stmts (fdB (st 7)), fdS (st 7), (3), ([]), (Value.none), (Value.none), (Value.none), (Value.str (Str.ofString "cpy313._pylong") 187), (none), (Value.ref 55), (Value.none), (0)⟩, #[]⟩) ::
  (nat_lit 64, { cls := Value.type "tuple", data := Data.seq #[] }) ::
  (nat_lit 66, { cls := Value.type "tuple", data := Data.seq #[Value.str (Str.ofString "self") 286, Value.str (Str.ofString "comp_select_list") 287] }) ::
  (nat_lit 67, { cls := Value.type "tuple", data := Data.seq #[] }) ::
  (nat_lit 69, { cls := Value.type "code", data := Data.fields #[Value.str (Str.ofString "__init__") 283, Value.str (Str.ofString "TupleComp.__init__") 284, Value.str (Str.ofString "/claim/cut.py") 285, Value.int 79 0, Value.int 2 0, Value.int 0 0, Value.int 0 0, Value.int 3 0, Value.ref 64, Value.bool true, Value.int 181 0, Value.ref 65, Value.none, Value.ref 66, Value.ref 67, Value.ref 68, Value.int 288 0, Value.int 79 0, Value.str (Str.ofString "/claim/cut.py") 289] }) ::
  (nat_lit 70, ⟨Value.type "function", none, .func ⟨Str.ofString "__init__", Str.ofString "TupleComp.__init__", fdA (mt 9 0), .stmts (fdB (mt 9 0)), fdS (mt 9 0), (3), ([]), (Value.none), (Value.none), (Value.none), (Value.str (Str.ofString "cpy313.pstats") 269), (none), (Value.ref 69), (Value.none), (0)⟩, #[]⟩) ::
  (nat_lit 71, { cls := Value.type "tuple", data := Data.seq #[] }) ::
  (nat_lit 73, { cls := Value.type "tuple", data := Data.seq #[Value.str (Str.ofString "self") 294, Value.str (Str.ofString "left") 295, Value.str (Str.ofString "right") 296, Value.str (Str.ofString "index") 297, Value.str (Str.ofString "direction") 298, Value.str (Str.ofString "l") 299, Value.str (Str.ofString "r") 300] }) ::
  (nat_lit 74, { cls := Value.type "tuple", data := Data.seq #[] }) ::
  (nat_lit 76, { cls := Value.type "code", data := Data.fields #[Value.str (Str.ofString "compare") 291, Value.str (Str.ofString "TupleComp.compare") 292, Value.str (Str.ofString "/claim/cut.py") 293, Value.int 82 0, Value.int 3 0, Value.int 0 0, Value.int 0 0, Value.int 3 0, Value.ref 71, Value.bool true, Value.int 181 0, Value.ref 72, Value.none, Value.ref 73, Value.ref 74, Value.ref 75, Value.int 301 0, Value.int 82 0, Value.str (Str.ofString "/claim/cut.py") 302] }) ::
  (nat_lit 77, ⟨Value.type "function", none, .func ⟨Str.ofString "compare", Str.ofString "TupleComp.compare", fdA (mt 9 1), .stmts (fdB (mt 9 1)), fdS (mt 9 1), (3), ([]), (Value.none), (Value.none), (Value.none), (Value.str (Str.ofString "cpy313.pstats") 269), (none), (Value.ref 76), (Value.none), (0)⟩, #[]⟩) ::
  (nat_lit 78, { cls := Value.type "tuple", data := Data.seq #[Value.str (Str.ofString "comp_select_list") 304] }) ::
  (nat_lit 79, { cls := Value.type "dict", data := Data.dict #[{ hash := PyData.keyHash P (Str.ofString "__module__"), key := Value.str (Str.ofString "__module__") 278, val := Value.str (Str.ofString "cpy313.pstats") 269 }, { hash := PyData.keyHash P (Str.ofString "__firstlineno__"), key := Value.str (Str.ofString "__firstlineno__") 282, val := Value.int 77 281 }, { hash := PyData.keyHash P (Str.ofString "__init__"), key := Value.str (Str.ofString "__init__") 290, val := Value.ref 70 }, { hash := PyData.keyHash P (Str.ofString "compare"), key := Value.str (Str.ofString "compare") 303, val := Value.ref 77 }, { hash := PyData.keyHash P (Str.ofString "__static_attributes__"), key := Value.str (Str.ofString "__static_attributes__") 305, val := Value.ref 78 }, { hash := PyData.keyHash P (Str.ofString "__dict__"), key := Value.str (Str.ofString "__dict__") 307, val := Value.ref 81 }, { hash := PyData.keyHash P (Str.ofString "__weakref__"), key := Value.str (Str.ofString "__weakref__") 309, val := Value.ref 82 }, { hash := PyData.keyHash P (Str.ofString "__doc__"), key := Value.str (Str.ofString "__doc__") 310, val := Value.none }] 4 }) ::
  (nat_lit 80, { cls := Value.type "type", data := Data.cls { name := Str.ofString "TupleComp", bases := [Value.type "object"], mro := [Value.ref 80, Value.type "object"], ns := 79, qualname := Str.ofString "TupleComp" }, slots := #[none, none, some (Value.str (Str.ofString "TupleComp") 271), some (Value.str (Str.ofString "TupleComp") 279), some (Value.builtin "object.__new__"), some (Value.bool true)] }) ::
  (nat_lit 81, { cls := Value.type "getset_descriptor", data := Data.fields #[Value.str (Str.ofString "__dict__") 306, Value.ref 80, Value.builtin "function.__dict__", Value.builtin "function.__dict__#set"] }) ::
  (nat_lit 82, { cls := Value.type "getset_descriptor", data := Data.fields #[Value.str (Str.ofString "__weakref__") 308, Value.ref 80, Value.builtin "ExceptionGroup.__weakref__", Value.none] }) ::
  (nat_lit 85, { cls := Value.type "tuple", data := Data.seq #[] }) ::
  (nat_lit 87, { cls := Value.type "tuple", data := Data.seq #[Value.str (Str.ofString "target") 316, Value.str (Str.ofString "source") 317, Value.str (Str.ofString "cc") 318, Value.str (Str.ofString "nc") 319, Value.str (Str.ofString "tt") 320, Value.str (Str.ofString "ct") 321, Value.str (Str.ofString "callers") 322, Value.str (Str.ofString "t_cc") 323, Value.str (Str.ofString "t_nc") 324, Value.str (Str.ofString "t_tt") 325, Value.str (Str.ofString "t_ct") 326, Value.str (Str.ofString "t_callers") 327] }) ::
  (nat_lit 88, { cls := Value.type "tuple", data := Data.seq #[] }) ::
  (nat_lit 90, { cls := Value.type "code", data := Data.fields #[Value.str (Str.ofString "add_func_stats") 313, Value.str (Str.ofString "add_func_stats") 314, Value.str (Str.ofString "/claim/cut.py") 315, Value.int 91 0, Value.int 2 0, Value.int 0 0, Value.int 0 0, Value.int 3 0, Value.ref 85, Value.bool true, Value.int 181 0, Value.ref 86, Value.none, Value.ref 87, Value.ref 88, Value.ref 89, Value.int 328 0, Value.int 91 0, Value.str (Str.ofString "/claim/cut.py") 329] }) ::
  (nat_lit 91, ⟨Value.type "function", none, .func ⟨Str.ofString "add_func_stats", Str.ofString "add_func_stats", fdA (st 10), .stmts (fdB (st 10)), fdS (st 10), (3), ([]), (Value.none), (Value.none), (Value.none), (Value.str (Str.ofString "cpy313.pstats") 269), (none), (Value.ref 90), (Value.none), (0)⟩, #[]⟩) ::
  (nat_lit 92, { cls := Value.type "tuple", data := Data.seq #[] }) ::
  (nat_lit 94, { cls := Value.type "tuple", data := Data.seq #[Value.str (Str.ofString "target") 334, Value.str (Str.ofString "source") 335, Value.str (Str.ofString "new_callers") 336, Value.str (Str.ofString "func") 337, Value.str (Str.ofString "caller") 338] }) ::
  (nat_lit 95, { cls := Value.type "tuple", data := Data.seq #[] }) ::
  (nat_lit 97, { cls := Value.type "code", data := Data.fields #[Value.str (Str.ofString "add_callers") 331, Value.str (Str.ofString "add_callers") 332, Value.str (Str.ofString "/claim/cut.py") 333, Value.int 95 0, Value.int 2 0, Value.int 0 0, Value.int 0 0, Value.int 3 0, Value.ref 92, Value.bool true, Value.int 181 0, Value.ref 93, Value.none, Value.ref 94, Value.ref 95, Value.ref 96, Value.int 339 0, Value.int 95 0, Value.str (Str.ofString "/claim/cut.py") 340] }) ::
  (nat_lit 98, ⟨Value.type "function", none, .func ⟨Str.ofString "add_callers", Str.ofString "add_callers", fdA (st 11), .stmts (fdB (st 11)), fdS (st 11), (3), ([]), (Value.none), (Value.none), (Value.none), (Value.str (Str.ofString "cpy313.pstats") 269), (none), (Value.ref 97), (Value.none), (0)⟩, #[]⟩) ::
  (nat_lit 99, { cls := Value.type "tuple", data := Data.seq #[] }) ::
  (nat_lit 101, { cls := Value.type "tuple", data := Data.seq #[Value.str (Str.ofString "callers") 345, Value.str (Str.ofString "nc") 346, Value.str (Str.ofString "calls") 347] }) ::
  (nat_lit 102, { cls := Value.type "tuple", data := Data.seq #[] }) ::
  (nat_lit 104, { cls := Value.type "code", data := Data.fields #[Value.str (Str.ofString "count_calls") 342, Value.str (Str.ofString "count_calls") 343, Value.str (Str.ofString "/claim/cut.py") 344, Value.int 108 0, Value.int 1 0, Value.int 0 0, Value.int 0 0, Value.int 3 0, Value.ref 99, Value.bool true, Value.int 181 0, Value.ref 100, Value.none, Value.ref 101, Value.ref 102, Value.ref 103, Value.int 348 0, Value.int 108 0, Value.str (Str.ofString "/claim/cut.py") 349] }) ::
  (nat_lit 105, ⟨Value.type "function", none, .func ⟨Str.ofString "count_calls", Str.ofString "count_calls", fdA (st 12), .stmts (fdB (st 12)), fdS (st 12), (3), ([]), (Value.none), (Value.none), (Value.none), (Value.str (Str.ofString "cpy313.pstats") 269), (none), (Value.ref 104), (Value.none), (0)⟩, #[]⟩) ::
  (nat_lit 106, { cls := Value.type "tuple", data := Data.seq #[] }) ::
  (nat_lit 108, { cls := Value.type "tuple", data := Data.seq #[Value.str (Str.ofString "x") 360] }) ::
  (nat_lit 109, { cls := Value.type "tuple", data := Data.seq #[] }) ::
  (nat_lit 111, { cls := Value.type "code", data := Data.fields #[Value.str (Str.ofString "ISTERMINAL") 357, Value.str (Str.ofString "ISTERMINAL") 358, Value.str (Str.ofString "/claim/cut.py") 359, Value.int 116 0, Value.int 1 0, Value.int 0 0, Value.int 0 0, Value.int 3 0, Value.ref 106, Value.bool true, Value.int 181 0, Value.ref 107, Value.none, Value.ref 108, Value.ref 109, Value.ref 110, Value.int 361 0, Value.int 116 0, Value.str (Str.ofString "/claim/cut.py") 362] }) ::
  (nat_lit 112, ⟨Value.type "function", none, .func ⟨Str.ofString "ISTERMINAL", Str.ofString "ISTERMINAL", fdA (st 16), .stmts (fdB (st 16)), fdS (st 16), (3), ([]), (Value.none), (Value.none), (Value.none), (Value.str (Str.ofString "cpy313.token") 351), (none), (Value.ref 111), (Value.none), (0)⟩, #[]⟩) ::
  (nat_lit 113, { cls := Value.type "tuple", data := Data.seq #[] }) ::
  (nat_lit 115, { cls := Value.type "tuple", data := Data.seq #[Value.str (Str.ofString "x") 367] }) ::
  (nat_lit 116, { cls := Value.type "tuple", data := Data.seq #[] }) ::
  (nat_lit 118, { cls := Value.type "code", data := Data.fields #[Value.str (Str.ofString "ISNONTERMINAL") 364, Value.str (Str.ofString "ISNONTERMINAL") 365, Value.str (Str.ofString "/claim/cut.py") 366, Value.int 118 0, Value.int 1 0, Value.int 0 0, Value.int 0 0, Value.int 3 0, Value.ref 113, Value.bool true, Value.int 181 0, Value.ref 114, Value.none, Value.ref 115, Value.ref 116, Value.ref 117, Value.int 368 0, Value.int 118 0, Value.str (Str.ofString "/claim/cut.py") 369] }) ::
  (nat_lit 119, ⟨Value.type "function", none, .func ⟨Str.ofString "ISNONTERMINAL", Str.ofString "ISNONTERMINAL", fdA (st 17), .stmts (fdB (st 17)), fdS (st 17), (3), ([]), (Value.none), (Value.none), (Value.none), (Value.str (Str.ofString "cpy313.token") 351), (none), (Value.ref 118), (Value.none), (0)⟩, #[]⟩) ::
  (nat_lit 120, { cls := Value.type "tuple", data := Data.seq #[] }) ::
  (nat_lit 122, { cls := Value.type "tuple", data := Data.seq #[Value.str (Str.ofString "x") 374] }) ::
  (nat_lit 123, { cls := Value.type "tuple", data := Data.seq #[] }) ::
  (nat_lit 125, { cls := Value.type "code", data := Data.fields #[Value.str (Str.ofString "ISEOF") 371, Value.str (Str.ofString "ISEOF") 372, Value.str (Str.ofString "/claim/cut.py") 373, Value.int 120 0, Value.int 1 0, Value.int 0 0, Value.int 0 0, Value.int 3 0, Value.ref 120, Value.bool true, Value.int 181 0, Value.ref 121, Value.none, Value.ref 122, Value.ref 123, Value.ref 124, Value.int 375 0, Value.int 120 0, Value.str (Str.ofString "/claim/cut.py") 376] }) ::
  (nat_lit 126, ⟨Value.type "function", none, .func ⟨Str.ofString "ISEOF", Str.ofString "ISEOF", fdA (st 18), .stmts (fdB (st 18)), fdS (st 18), (3), ([]), (Value.none), (Value.none), (Value.none), (Value.str (Str.ofString "cpy313.token") 351), (none), (Value.ref 125), (Value.none), (0)⟩, #[]⟩) ::
  (nat_lit 127, { cls := Value.type "tuple", data := Data.seq #[] }) ::
  (nat_lit 130, { cls := Value.type "code", data := Data.fields #[Value.str (Str.ofString "_law_rules") 380, Value.str (Str.ofString "_law_rules") 381, Value.str (Str.ofString "/claim/cut.py") 382, Value.int 123 0, Value.int 2 0, Value.int 0 0, Value.int 0 0, Value.int 3 0, Value.ref 127, Value.bool true, Value.int 181 0, Value.ref 128, Value.none, Value.none, Value.none, Value.ref 129, Value.int 383 0, Value.int 123 0, Value.str (Str.ofString "/claim/cut.py") 384] }) ::
  (nat_lit 131, ⟨Value.type "function", none, .func ⟨Str.ofString "_law_rules", Str.ofString "_law_rules", fdA (st 20), .stmts (fdB (st 20)), fdS (st 20), (3), ([]), (Value.none), (Value.none), (Value.none), (Value.str (Str.ofString "law_xh0023_01") 378), (none), (Value.ref 130), (Value.none), (0)⟩, #[]⟩) ::
  (nat_lit 132, { cls := Value.type "tuple", data := Data.seq #[] }) ::
  (nat_lit 134, { cls := Value.type "tuple", data := Data.seq #[Value.str (Str.ofString "kids") 389, Value.str (Str.ofString "left") 390, Value.str (Str.ofString "trees") 391, Value.str (Str.ofString "order") 392, Value.str (Str.ofString "turned") 393, Value.str (Str.ofString "told") 394, Value.str (Str.ofString "size") 395, Value.str (Str.ofString "state") 396, Value.str (Str.ofString "many") 397, Value.str (Str.ofString "number") 398, Value.str (Str.ofString "more") 399, Value.str (Str.ofString "way") 400] }) ::
  (nat_lit 135, { cls := Value.type "tuple", data := Data.seq #[] }) ::
  (nat_lit 137, { cls := Value.type "code", data := Data.fields #[Value.str (Str.ofString "_law_ways") 386, Value.str (Str.ofString "_law_ways") 387, Value.str (Str.ofString "/claim/cut.py") 388, Value.int 133 0, Value.int 5 0, Value.int 0 0, Value.int 0 0, Value.int 3 0, Value.ref 132, Value.bool true, Value.int 181 0, Value.ref 133, Value.none, Value.ref 134, Value.ref 135, Value.ref 136, Value.int 401 0, Value.int 133 0, Value.str (Str.ofString "/claim/cut.py") 402] }) ::
  (nat_lit 138, ⟨Value.type "function", none, .func ⟨Str.ofString "_law_ways", Str.ofString "_law_ways", fdA (st 21), .stmts (fdB (st 21)), fdS (st 21), (3), ([]), (Value.none), (Value.none), (Value.none), (Value.str (Str.ofString "law_xh0023_01") 378), (none), (Value.ref 137), (Value.none), (0)⟩, #[]⟩) ::
  (nat_lit 139, { cls := Value.type "tuple", data := Data.seq #[] }) ::
  (nat_lit 142, { cls := Value.type "code", data := Data.fields #[Value.str (Str.ofString "_law_trees") 404, Value.str (Str.ofString "_law_trees") 405, Value.str (Str.ofString "/claim/cut.py") 406, Value.int 143 0, Value.int 3 0, Value.int 0 0, Value.int 0 0, Value.int 3 0, Value.ref 139, Value.bool true, Value.int 181 0, Value.ref 140, Value.none, Value.none, Value.none, Value.ref 141, Value.int 407 0, Value.int 143 0, Value.str (Str.ofString "/claim/cut.py") 408] }) ::
  (nat_lit 143, ⟨Value.type "function", none, .func ⟨Str.ofString "_law_trees", Str.ofString "_law_trees", fdA (st 22), .stmts (fdB (st 22)), fdS (st 22), (3), ([]), (Value.none), (Value.none), (Value.none), (Value.str (Str.ofString "law_xh0023_01") 378), (none), (Value.ref 142), (Value.none), (0)⟩, #[]⟩) ::
  (nat_lit 144, { cls := Value.type "tuple", data := Data.seq #[] }) ::
  (nat_lit 146, { cls := Value.type "tuple", data := Data.seq #[Value.str (Str.ofString "number") 413, Value.str (Str.ofString "over") 414, Value.str (Str.ofString "way") 415, Value.str (Str.ofString "one") 416, Value.str (Str.ofString "two") 417, Value.str (Str.ofString "quotient") 418, Value.str (Str.ofString "rest") 419] }) ::
  (nat_lit 147, { cls := Value.type "tuple", data := Data.seq #[] }) ::
  (nat_lit 149, { cls := Value.type "code", data := Data.fields #[Value.str (Str.ofString "_law_quotient") 410, Value.str (Str.ofString "_law_quotient") 411, Value.str (Str.ofString "/claim/cut.py") 412, Value.int 161 0, Value.int 3 0, Value.int 0 0, Value.int 0 0, Value.int 3 0, Value.ref 144, Value.bool true, Value.int 181 0, Value.ref 145, Value.none, Value.ref 146, Value.ref 147, Value.ref 148, Value.int 420 0, Value.int 161 0, Value.str (Str.ofString "/claim/cut.py") 421] }) ::
  (nat_lit 150, ⟨Value.type "function", none, .func ⟨Str.ofString "_law_quotient", Str.ofString "_law_quotient", fdA (st 23), .stmts (fdB (st 23)), fdS (st 23), (3), ([]), (Value.none), (Value.none), (Value.none), (Value.str (Str.ofString "law_xh0023_01") 378), (none), (Value.ref 149), (Value.none), (0)⟩, #[]⟩) ::
  (nat_lit 151, { cls := Value.type "tuple", data := Data.seq #[] }) ::
  (nat_lit 154, { cls := Value.type "code", data := Data.fields #[Value.str (Str.ofString "_law_step") 423, Value.str (Str.ofString "_law_step") 424, Value.str (Str.ofString "/claim/cut.py") 425, Value.int 170 0, Value.int 5 0, Value.int 0 0, Value.int 0 0, Value.int 3 0, Value.ref 151, Value.bool true, Value.int 181 0, Value.ref 152, Value.none, Value.none, Value.none, Value.ref 153, Value.int 426 0, Value.int 170 0, Value.str (Str.ofString "/claim/cut.py") 427] }) ::
  (nat_lit 155, ⟨Value.type "function", none, .func ⟨Str.ofString "_law_step", Str.ofString "_law_step", fdA (st 24), .stmts (fdB (st 24)), fdS (st 24), (3), ([]), (Value.none), (Value.none), (Value.none), (Value.str (Str.ofString "law_xh0023_01") 378), (none), (Value.ref 154), (Value.none), (0)⟩, #[]⟩) ::
  (nat_lit 156, { cls := Value.type "tuple", data := Data.seq #[] }) ::
  (nat_lit 159, { cls := Value.type "code", data := Data.fields #[Value.str (Str.ofString "law") 429, Value.str (Str.ofString "law") 430, Value.str (Str.ofString "/claim/cut.py") 431, Value.int 187 0, Value.int 1 0, Value.int 0 0, Value.int 0 0, Value.int 3 0, Value.ref 156, Value.bool true, Value.int 181 0, Value.ref 157, Value.none, Value.none, Value.none, Value.ref 158, Value.int 432 0, Value.int 187 0, Value.str (Str.ofString "/claim/cut.py") 433] }) ::
  (nat_lit 160, ⟨Value.type "function", none, .func ⟨Str.ofString "law", Str.ofString "law", fdA (st 25), .stmts (fdB (st 25)), fdS (st 25), (3), ([]), (Value.none), (Value.none), (Value.none), (Value.str (Str.ofString "law_xh0023_01") 378), (none), (Value.ref 159), (Value.none), (0)⟩, #[]⟩) ::
  []

noncomputable def asK : List Addr := [2, 3, 15, 17, 18, 20, 21, 22, 24, 25, 27, 28, 29, 31, 32, 34, 35, 36, 38, 39, 41, 42, 43, 45, 46, 48, 49, 50, 52, 53, 55, 56, 64, 66, 67, 69, 70, 71, 73, 74, 76, 77, 78, 79, 80, 81, 82, 85, 87, 88, 90, 91, 92, 94, 95, 97, 98, 99, 101, 102, 104, 105, 106, 108, 109, 111, 112, 113, 115, 116, 118, 119, 120, 122, 123, 125, 126, 127, 130, 131, 132, 134, 135, 137, 138, 139, 142, 143, 144, 146, 147, 149, 150, 151, 154, 155, 156, 159, 160]
noncomputable def hd.view_39 : Program := { PySem.Challenge.rw_xh0023_01.row.toRowW.prog with main := { PySem.Challenge.rw_xh0023_01.row.toRowW.prog.main with body := [st 1, st 2, st 3, st 4, st 5, st 6, st 7, st 9, st 10, st 11, st 12, st 14, st 15, st 16, st 17, st 18, st 20, st 21, st 22, st 23, st 24, st 25] } }
theorem asK_eq : ∀ P, asK = (hd.heap_39 P).map (·.1) := fun P => by kernel_rfl
-- here too, for the functions of the run
theorem leftK : LeftO (PySem.Challenge.rw_xh0023_01.row.toRowW.prog) hd.view_39 [] (fun s => xlAt hd.view_39 [] s && recOk (RowW.records PySem.Challenge.rw_xh0023_01.row.toRowW) s) (Hook.obs (kmHook hd.heap_39 asK asK_eq [37, 30])) (Hook.val (kmHook hd.heap_39 asK asK_eq [37, 30])) 1930 := by
  intro w
  delta openEnds fencedOpening topFrom
  rw [PySem.W.Fast.te10274390034422433532, PySem.W.Fast.te14082659384304107361, PySem.W.Fast.te14289696077712309145, PySem.W.Fast.te1435165496053646825, PySem.W.Fast.te8920871248978507458, PySem.W.Fast.te14364793385576792824, PySem.W.Fast.te4187177175401517315, PySem.W.Fast.te5923862056798008813]
  kernel_rfl
-- the names that end in long numbers are the library's own quick twins (of wellSaid, of the run): the kernel looks at those
theorem saidK : PySem.Challenge.rw_xh0023_01.wellSaid = true := by
  rw [PySem.W.Fast.te9446332074065402090]
  delta PySem.W.Fast.tw9446332074065402090
  repeat' (with_reducible refine look_both ?_ ?_)
  rotate_right 1
  all_goals try (delta PySem.W.Fast.tw17960256430627541270; repeat' (with_reducible refine look_both ?_ ?_))
  all_goals try (delta PySem.W.Fast.tw2436336058641802641; repeat' (with_reducible refine look_both ?_ ?_))
  all_goals try (delta PySem.W.Fast.tw12908688711261696721; repeat' (with_reducible refine look_both ?_ ?_))
  all_goals decide +kernel
end Mine
end
section
open PySem PySem.W PySem.Calls PyProof.Rows
set_option Elab.async false
set_option linter.unusedVariables false
namespace Mine

/-! ## heaps in part -/
abbrev PH := Addr → Option Obj
noncomputable def Le (H H' : PH) : Prop := ∀ a o, H a = some o → H' a = some o
noncomputable def Ext (H : PH) (h : Heap) : Prop := ∀ a o, H a = some o → h.get? a = some o
theorem Le.refl (H : PH) : Le H H := fun _ _ e => e
theorem Le.trans {H₁ H₂ H₃ : PH} (x : Le H₁ H₂) (y : Le H₂ H₃) : Le H₁ H₃ := fun a o e => y a o (x a o e)
noncomputable def addO (H : PH) (a : Addr) (o : Obj) : PH := fun b => if b = a then some o else H b
theorem addO_self (H : PH) (a : Addr) (o : Obj) : addO H a o a = some o := if_pos rfl
theorem addO_ne {H : PH} {a b : Addr} {o : Obj} (h : b ≠ a) : addO H a o b = H b := if_neg h
theorem le_addO {H : PH} {a : Addr} {o : Obj} (h : H a = none) : Le H (addO H a o) := fun b o' e => by
  by_cases q : b = a
  · subst q; rw [h] at e; cases e
  · rw [addO_ne q]; exact e
theorem Ext.fresh {H : PH} {h : Heap} (x : Ext H h) {a : Addr} (ha : h.objs.size ≤ a) : H a = none := by
  cases q : H a with
  | none => rfl
  | some o => exact absurd (Heap.lt_size (x _ _ q)) (Nat.not_lt.mpr ha)
theorem Ext.lt {H : PH} {h : Heap} (x : Ext H h) {a : Addr} {o : Obj} (e : H a = some o) : a < h.objs.size := Heap.lt_size (x _ _ e)
theorem Ext.mono {H : PH} {h h' : Heap} (x : Ext H h) (k : ∀ b o, h.get? b = some o → h'.get? b = some o) : Ext H h' := fun a o e => k _ _ (x a o e)
theorem Ext.addO {H : PH} {h : Heap} {a : Addr} {o : Obj} (x : Ext H h) (e : h.get? a = some o) : Ext (addO H a o) h := fun b o' e' => by
  by_cases q : b = a
  · subst q; rw [addO_self] at e'; cases e'; exact e
  · rw [addO_ne q] at e'; exact x _ _ e'

/-! ## data -/
inductive Dat where
  | int (i : Int) | bool (b : Bool) | none
  | list (l : List Dat) | tup (l : List Dat) | dict (l : List (Int × Int)) | items (l : List (Int × Int)) | vals (l : List (Int × Int)) | ord (d : Dat) | slice (lo hi st : Option Int) | val (v : Value)
  | fn (name qual : Str) (params : Arguments) (body : List Stmt) (scope : Scope) (clos : List (Str × Addr))

abbrev listO (vs : List Value) (n : Nat) : Obj := { cls := .type "list", data := .seq vs.toArray n }
abbrev tupO (vs : List Value) (n : Nat) : Obj := { cls := .type "tuple", data := .seq vs.toArray n }

section
variable (prog : Program) (w : World)
inductive IntVals : List (Int × Value) → List (Int × Int) → Prop
  | nil : IntVals [] []
  | cons {k i : Int} {t : Tok} {xs : List (Int × Value)} {ys : List (Int × Int)} : IntVals xs ys → IntVals ((k, .int i t) :: xs) ((k, i) :: ys)
noncomputable def DictO (o : Obj) (kvs : List (Int × Value)) : Prop :=
  ∃ es ep, o.ExactDict ∧ o.data = .dict es ep ∧ KeysOf (intKind prog w) es ∧ Pairs (intKind prog w) es.toList kvs ∧ (kvs.map (·.1)).Nodup

mutual
inductive Rep (H : PH) : Value → Dat → Prop
  | int (i : Int) (t : Tok) : Rep H (.int i t) (.int i)
  | bool (b : Bool) : Rep H (.bool b) (.bool b)
  | none : Rep H .none .none
  | val (v : Value) : Rep H v (.val v)
  | list {a : Addr} {vs : List Value} {n : Nat} {ds : List Dat} : H a = some (listO vs n) → Reps H vs ds → Rep H (.ref a) (.list ds)
  | tup {a : Addr} {vs : List Value} {n : Nat} {ds : List Dat} : H a = some (tupO vs n) → Reps H vs ds → Rep H (.ref a) (.tup ds)
  | dict {a : Addr} {o : Obj} {kvs : List (Int × Value)} {ps : List (Int × Int)} : H a = some o → (a == sysModules) = false → DictO prog w o kvs → IntVals kvs ps → Rep H (.ref a) (.dict ps)
  | items {a d : Addr} {o : Obj} {ps : List (Int × Int)} : H a = some o → o.cls = .type "dict_items" → o.data = .fields #[.ref d] → Rep H (.ref d) (.dict ps) → Rep H (.ref a) (.items ps)
  | vals {a d : Addr} {o : Obj} {ps : List (Int × Int)} : H a = some o → o.cls = .type "dict_values" → o.data = .fields #[.ref d] → Rep H (.ref d) (.dict ps) → Rep H (.ref a) (.vals ps)
  | ord {x dx : Addr} {es : List DictEntry} {n : Nat} {v : Value} {d : Dat} : H x = some (instObj 80 dx) → H dx = some (dictOf es n) → getL "comp_select_list" es = some (some v) → getL "compare" es = some Option.none → handedIn v = true → Rep H v d → Rep H (.ref x) (.ord d)
  | slice {a : Addr} {vl vu vk : Value} {lo hi st : Option Int} : H a = some ({ cls := .type "slice", data := .fields #[vl, vu, vk] } : Obj) → IsPart vl lo → IsPart vu hi → IsPart vk st → Rep H (.ref a) (.slice lo hi st)
  | fn {f c' : Addr} {doc pm ctv : Value} {oc : Obj} {vs : Array Value} {t : Tok} {name qual : Str} {params : Arguments} {body : List Stmt} {scope : Scope} {clos : List (Str × Addr)} : H f = some (fnMade name qual params body scope clos doc pm c' ctv) → H c' = some oc → oc.data = .fields vs → vs[1]? = some (.str qual t) → Rep H (.ref f) (.fn name qual params body scope clos)
inductive Reps (H : PH) : List Value → List Dat → Prop
  | nil : Reps H [] []
  | cons {v : Value} {d : Dat} {vs : List Value} {ds : List Dat} : Rep H v d → Reps H vs ds → Reps H (v :: vs) (d :: ds)
end
end
section
variable {prog : Program} {w : World} {H H' : PH}
theorem Rep.mono (k : Le H H') {v : Value} {d : Dat} (r : Rep prog w H v d) : Rep prog w H' v d :=
  Rep.rec (motive_1 := fun v d _ => Rep prog w H' v d) (motive_2 := fun vs ds _ => Reps prog w H' vs ds)
    .int .bool .none .val (fun e _ h => .list (k _ _ e) h) (fun e _ h => .tup (k _ _ e) h) (fun e m r s => .dict (k _ _ e) m r s) (fun e c d _ h => .items (k _ _ e) c d h) (fun e c d _ h => .vals (k _ _ e) c d h)
    (fun e e' g g' hi _ h => .ord (k _ _ e) (k _ _ e') g g' hi h) (fun e a b c => .slice (k _ _ e) a b c) (fun e e' d v => .fn (k _ _ e) (k _ _ e') d v) .nil (fun _ _ h r => .cons h r) r
theorem Reps.mono (k : Le H H') {vs : List Value} {ds : List Dat} (R : Reps prog w H vs ds) : Reps prog w H' vs ds := by
  induction vs generalizing ds with
  | nil => cases R; exact .nil
  | cons v vs ih => cases R with | cons h r => exact .cons (h.mono k) (ih r)
theorem Reps.length {vs : List Value} {ds : List Dat} (R : Reps prog w H vs ds) : vs.length = ds.length := by
  induction vs generalizing ds with
  | nil => cases R; rfl
  | cons v vs ih => cases R with | cons h r => exact congrArg (· + 1) (ih r)
theorem uncons {α : Type} {l : List α} {n : Nat} (h : l.length = n + 1) : ∃ a r, l = a :: r ∧ r.length = n := by
  cases l with
  | nil => cases h
  | cons a r => exact ⟨a, r, rfl, Nat.succ.inj h⟩
theorem Reps.get {vs : List Value} {ds : List Dat} (R : Reps prog w H vs ds) : ∀ {i : Nat} {d : Dat}, ds[i]? = some d → ∃ v, vs[i]? = some v ∧ Rep prog w H v d := by
  induction vs generalizing ds with
  | nil => cases R; intro i d e; simp at e
  | cons v vs ih =>
    cases R with
    | cons h r =>
      intro i d e
      cases i with
      | zero => simp at e; subst e; exact ⟨v, rfl, h⟩
      | succ i => simp at e ⊢; exact ih r e
theorem Reps.append {vs vs' : List Value} {ds ds' : List Dat} (R : Reps prog w H vs ds) (R' : Reps prog w H vs' ds') : Reps prog w H (vs ++ vs') (ds ++ ds') := by
  induction vs generalizing ds with
  | nil => cases R; exact R'
  | cons v vs ih => cases R with | cons h r => exact .cons h (ih r)
end

/-! ## objects that are kept up to a frame's slots -/
noncomputable def ObjLe (o o' : Obj) : Prop := o' = o ∨ (o.cls = .type "frame" ∧ ∃ sl, o' = { o with slots := sl })
end Mine
end
section
open PySem PySem.W PySem.Calls PyProof.Rows
set_option Elab.async false
set_option linter.unusedVariables false
namespace Mine

/-! ## the two tables of made code -/
structure Tb where
  P : Addr
  line : Nat
  col : Nat
  qual : Str
noncomputable def TabOk (tb : Tb) (H : PH) (h : Heap) : Prop :=
  ∃ ps, h.get? tb.P = some (tabObj ps) ∧ (ps = #[] ∨ ∃ c oc vs t, ps = #[rawInt tb.line, rawInt tb.col, .ref c] ∧ H c = some oc ∧ oc.data = .fields vs ∧ vs[1]? = some (.str tb.qual t))
noncomputable def TabsOk (tbs : List Tb) (H : PH) (h : Heap) : Prop := ∀ tb ∈ tbs, TabOk tb H h

/-- what stays fixed through the whole run: the ghost of the top's heap, the tables -/
structure GX where
  hG : Heap
  sm : sysModules < hG.objs.size
  nolim : hG.NoLimit
  tbs : List Tb
noncomputable def GX.tw (G : GX) : List Addr := G.tbs.map (·.P)
noncomputable def frs (l : List Env) : List Addr := l.filterMap (·.frame)

/-- from (H, h) to (H', h'): what lives stays (frames up to slots), but for X and the tables; what is new to H' was not alive, or is of X -/
structure Step (G : GX) (l : List Env) (X : List Addr) (H : PH) (h : Heap) (H' : PH) (h' : Heap) : Prop where
  le : Le H H'
  ext : Ext H' h'
  new : ∀ a o, H' a = some o → H a = some o ∨ h.get? a = none ∨ a ∈ X
  old : ∀ a o, a ∉ G.tw → a ∉ X → h.get? a = some o → ∃ sl, h'.get? a = some { o with slots := sl } ∧ (a ∉ frs l → sl = o.slots)
  alive : ∀ a o, h.get? a = some o → ∃ o', h'.get? a = some o'
  tabs : TabsOk G.tbs H' h'

section
variable {G : GX} {l : List Env} {X : List Addr} {H H' H'' : PH} {h h' h'' : Heap}
theorem Step.refl (e : Ext H h) (t : TabsOk G.tbs H h) : Step G l X H h H h :=
  ⟨Le.refl _, e, fun _ _ e => .inl e, fun _ o _ _ e => ⟨o.slots, e, fun _ => rfl⟩, fun _ o e => ⟨o, e⟩, t⟩
theorem dead_back (al : ∀ a o, h.get? a = some o → ∃ o', h'.get? a = some o') {a : Addr} (e : h'.get? a = none) : h.get? a = none := by
  cases q : h.get? a with
  | none => rfl
  | some o => obtain ⟨o', q'⟩ := al a o q; rw [e] at q'; cases q'
theorem Step.trans' {X' : List Addr} (x : Step G l X H h H' h') (y : Step G l X' H' h' H'' h'') (hX : ∀ a ∈ X', a ∈ X ∨ h.get? a = none) : Step G l X H h H'' h'' where
  le := x.le.trans y.le
  ext := y.ext
  new := fun a o e => by
    rcases y.new a o e with e | e | e
    · exact x.new a o e
    · exact .inr (.inl (dead_back x.alive e))
    · exact .inr ((hX a e).elim .inr .inl)
  old := fun a o h1 h2 e => by
    obtain ⟨sl, e1, n1⟩ := x.old a o h1 h2 e
    obtain ⟨sl', e2, n2⟩ := y.old a _ h1 (fun q => (hX a q).elim h2 fun q => by rw [q] at e; cases e) e1
    exact ⟨sl', e2, fun q => (n2 q).trans (n1 q)⟩
  alive := fun a o e => by
    obtain ⟨o', e'⟩ := x.alive a o e
    exact y.alive a o' e'
  tabs := y.tabs
theorem Step.trans (x : Step G l X H h H' h') (y : Step G l [] H' h' H'' h'') : Step G l X H h H'' h'' := x.trans' y fun _ q => nomatch q
theorem Step.weakX {X' : List Addr} (x : Step G l X H h H' h') (s : ∀ a ∈ X, a ∈ X' ∨ h.get? a = none) : Step G l X' H h H' h' where
  le := x.le
  ext := x.ext
  new := fun a o e => by
    rcases x.new a o e with e | e | e
    · exact .inl e
    · exact .inr (.inl e)
    · exact .inr ((s a e).elim .inr .inl)
  old := fun a o h1 h2 e => x.old a o h1 (fun q => (s a q).elim h2 fun q => by rw [q] at e; cases e) e
  alive := x.alive
  tabs := x.tabs
theorem TabOk.mono {tb : Tb} (x : TabOk tb H h) (k : Le H H') (e : ∀ o, h.get? tb.P = some o → h'.get? tb.P = some o) : TabOk tb H' h' := by
  obtain ⟨ps, h1, h2⟩ := x
  refine ⟨ps, e _ h1, h2.imp id ?_⟩
  rintro ⟨c, oc, vs, t, r1, r2, r⟩
  exact ⟨c, oc, vs, t, r1, k _ _ r2, r⟩
theorem TabsOk.mono {tbs : List Tb} (x : TabsOk tbs H h) (k : Le H H') (e : ∀ a o, a ∈ tbs.map (·.P) → h.get? a = some o → h'.get? a = some o) : TabsOk tbs H' h' :=
  fun tb hb => (x tb hb).mono k fun o => e _ o (List.mem_map_of_mem hb)
/-- a step that keeps all that lives -/
theorem Step.of (t : TabsOk G.tbs H h) (k : Le H H') (e : Ext H' h') (n : ∀ a o, H' a = some o → H a = some o ∨ h.get? a = none) (old : ∀ a o, h.get? a = some o → h'.get? a = some o) : Step G l X H h H' h' :=
  ⟨k, e, fun a o q => (n a o q).imp id .inl, fun a o _ _ q => ⟨o.slots, old a o q, fun _ => rfl⟩, fun a o q => ⟨o, old a o q⟩, t.mono k fun a o _ q => old a o q⟩
end

/-! ## mutable objects -/
inductive MD where
  | list (ds : List Dat)
  | dict (ps : List (Int × Int))
  | ro (md : MD)
noncomputable def MD.w : MD → Bool
  | .ro _ => false
  | _ => true
abbrev Rho := List (Str × Dat)
abbrev Mu := List (Addr × MD)
section
variable (prog : Program) (w : World)
noncomputable def MRep (H : PH) (o : Obj) : MD → Prop
  | .list ds => ∃ vs n, o = listO vs n ∧ Reps prog w H vs ds
  | .dict ps => ∃ kvs, DictO prog w o kvs ∧ IntVals kvs ps
  | .ro md => MRep H o md

structure FrOk (G : GX) (l : List Env) (H : PH) (h : Heap) : Prop where
  all : ∀ env ∈ l, env.scope.kind ≠ .module ∧ ∃ L o es ep, env.frame = some L ∧ h.get? L = some o ∧ o.data = .dict es ep ∧ H L = none ∧ G.hG.objs.size ≤ L

/-- what is being handled: nothing, or an exception without a context -/
noncomputable def HOk (A : Around) (H : PH) : Prop := A.handled = none ∨ ∃ e oe vs, A.handled = some (.ref e) ∧ H e = some oe ∧ oe.data = .fields vs ∧ vs[2]? = some .none
theorem HOk.mono {A : Around} {H H' : PH} (k : Le H H') (x : HOk A H) : HOk A H' := x.imp id fun ⟨e, oe, vs, h1, h2, r⟩ => ⟨e, oe, vs, h1, k _ _ h2, r⟩
/-- the state of one activation -/
structure St (G : GX) (l : List Env) (A : Around) (env : Env) (ρ : Rho) (μ : Mu) (H : PH) (h : Heap) : Prop where
  ext : Ext H h
  hok : HOk A H
  afr : A.frames = some l
  glob : ∀ b o, G.hG.get? b = some o → H b = some o
  tabs : TabsOk G.tbs H h
  tout : ∀ a ∈ G.tw, H a = none ∧ a < G.hG.objs.size
  fr : FrOk G l H h
  frle : ∀ a ∈ frs l, a ≤ env.locals
  frin : ∀ L, env.frame = some L → L ∈ frs l
  kind : env.scope.kind = .function
  genv : env.globals = mainGlobals
  benv : env.builtins = builtinsNs
  base : G.hG.objs.size ≤ env.locals
  outL : H env.locals = none
  loc : ∃ m, h.Ns env.locals m ∧ ∀ x d, ρ.lookup x = some d → env.kindOf x = some .local → ∃ v, m x = some v ∧ Rep prog w H v d
  cel : ∀ x d, ρ.lookup x = some d → env.kindOf x ≠ some .local → (env.kindOf x = some .cell ∨ env.kindOf x = some .free) ∧ ∃ c v, env.cells.lookup x = some c ∧ h.IsCell c (some v) ∧ Rep prog w H v d
  cells : ∀ x c, (x, c) ∈ env.cells → H c = none ∧ G.hG.objs.size ≤ c ∧ (env.frame = some env.locals → env.kindOf x = some .cell → env.locals < c) ∧ ∃ v, h.IsCell c v
  apart : env.cells.Pairwise fun x y => x.2 ≠ y.2
  cdom : env.frame = some env.locals → ∀ x, env.kindOf x = some .cell → (env.cells.lookup x).isSome = true
  own : ∀ p ∈ μ, H p.1 = none ∧ G.hG.objs.size ≤ p.1 ∧ p.1 ∉ frs l ∧ p.1 ≠ env.locals ∧ ∃ o, h.get? p.1 = some o ∧ MRep prog w H o p.2
  nodup : (μ.map (·.1)).Nodup
end
section
variable {prog : Program} {w : World} {G : GX} {l : List Env} {X : List Addr} {H H' H'' : PH} {h h' h'' : Heap} {env : Env} {ρ ρ' : Rho} {μ μ' : Mu} {A : Around}
theorem MRep.mono {o : Obj} (k : Le H H') {md : MD} (x : MRep prog w H o md) : MRep prog w H' o md := by
  induction md with
  | list _ => obtain ⟨vs, n, e, r⟩ := x; exact ⟨vs, n, e, r.mono k⟩
  | dict _ => exact x
  | ro md ih => exact ih x
/-- which objects may be written, and of whence they are -/
structure MuLe (μ : Mu) (h : Heap) (μ' : Mu) : Prop where
  all : ∀ p ∈ μ', p.1 ∈ μ.map (·.1) ∨ h.get? p.1 = none
  own : ∀ p ∈ μ', p.2.w = true → (∃ q ∈ μ, q.1 = p.1 ∧ q.2.w = true) ∨ h.get? p.1 = none
theorem MuLe.refl : MuLe μ h μ := ⟨fun p hp => .inl (List.mem_map_of_mem hp), fun p hp hw => .inl ⟨p, hp, rfl, hw⟩⟩
theorem MuLe.trans {μ'' : Mu} (x : MuLe μ h μ') (y : MuLe μ' h' μ'') (dead : ∀ a, h'.get? a = none → h.get? a = none) : MuLe μ h μ'' where
  all := fun p hp => by
    rcases y.all p hp with q | q
    · obtain ⟨p', hp', e⟩ := List.mem_map.mp q
      have e : p'.1 = p.1 := e
      rw [← e]; exact x.all p' hp'
    · exact .inr (dead _ q)
  own := fun p hp hw => by
    rcases y.own p hp hw with ⟨p', hp', e, hw'⟩ | q
    · rw [← e]; exact x.own p' hp' hw'
    · exact .inr (dead _ q)

theorem cell_not_frame {c : Addr} {v : Option Value} (F : FrOk G l H h) (x : h.IsCell c v) : c ∉ frs l := fun hm => by
  obtain ⟨e, he, hf⟩ := List.mem_filterMap.mp hm
  obtain ⟨_, L, o, es, ep, h1, h2, h3, _⟩ := F.all e he
  rw [h1] at hf; cases hf
  obtain ⟨o', ho, hd⟩ := x
  rw [h2] at ho; cases ho
  rw [h3] at hd; cases hd

theorem St.ltL (S : St prog w G l A env ρ μ H h) : env.locals < h.objs.size := let ⟨_, n, _⟩ := S.loc; n.lt
theorem St.liveL (S : St prog w G l A env ρ μ H h) : ∃ o, h.get? env.locals = some o := by
  obtain ⟨_, ⟨o, _, _, e, _⟩, _⟩ := S.loc
  exact ⟨o, e⟩
theorem St.tlt (S : St prog w G l A env ρ μ H h) {a : Addr} (ha : a ∈ G.tw) : a < env.locals := Nat.lt_of_lt_of_le (S.tout a ha).2 S.base

theorem Ns.up {L : Addr} {m : Str → Option Value} (n : h.Ns L m) (e : ∀ o, h.get? L = some o → ∃ sl, h'.get? L = some { o with slots := sl }) : h'.Ns L m := by
  obtain ⟨o, es, ep, e1, e2, r⟩ := n
  obtain ⟨sl, e3⟩ := e o e1
  exact ⟨_, es, ep, e3, e2, r⟩

/-- an address that lives and is not known stays unknown -/
theorem Step.out (st : Step G l [] H h H' h') {a : Addr} (e : H a = none) (hl : ∃ o, h.get? a = some o) : H' a = none := by
  cases q : H' a with
  | none => rfl
  | some o' =>
    rcases st.new a o' q with y | y | y
    · rw [e] at y; cases y
    · obtain ⟨o, z⟩ := hl; rw [y] at z; cases z
    · exact nomatch y
theorem FrOk.step (F : FrOk G l H h) (st : Step G l [] H h H' h') (ht : ∀ a ∈ G.tw, a < G.hG.objs.size) : FrOk G l H' h' :=
  ⟨fun e he => by
    obtain ⟨h1, L, o, es, ep, h2, h3, h4, h5, h6⟩ := F.all e he
    obtain ⟨sl, e1, _⟩ := st.old L o (fun q => absurd (ht L q) (Nat.not_lt.mpr h6)) (fun q => nomatch q) h3
    exact ⟨h1, L, _, es, ep, h2, e1, h4, st.out h5 ⟨_, h3⟩, h6⟩⟩

/-- an expression's step keeps the activation -/
theorem St.step (S : St prog w G l A env ρ μ H h) (st : Step G l [] H h H' h') : St prog w G l A env ρ μ H' h' where
  ext := st.ext
  hok := S.hok.mono st.le
  afr := S.afr
  glob := fun b o e => st.le _ _ (S.glob b o e)
  tabs := st.tabs
  tout := fun a ha => by
    refine ⟨st.out (S.tout a ha).1 ?_, (S.tout a ha).2⟩
    obtain ⟨tb, hb, rfl⟩ := List.mem_map.mp ha
    obtain ⟨ps, e, _⟩ := S.tabs tb hb
    exact ⟨_, e⟩
  fr := S.fr.step st fun a ha => (S.tout a ha).2
  frle := S.frle
  frin := S.frin
  kind := S.kind
  genv := S.genv
  benv := S.benv
  base := S.base
  outL := st.out S.outL S.liveL
  loc := by
    obtain ⟨m, hn, hv⟩ := S.loc
    refine ⟨m, Ns.up hn fun o e => ?_, fun x d hx hk => ?_⟩
    · obtain ⟨sl, e1, _⟩ := st.old _ o (fun q => absurd (S.tlt q) (Nat.lt_irrefl _)) (fun q => nomatch q) e
      exact ⟨sl, e1⟩
    · obtain ⟨v, h1, h2⟩ := hv x d hx hk
      exact ⟨v, h1, h2.mono st.le⟩
  cel := fun x d hx hk => by
    obtain ⟨h1, c, v, h2, h3, h4⟩ := S.cel x d hx hk
    refine ⟨h1, c, v, h2, ?_, h4.mono st.le⟩
    obtain ⟨o, ho, hd⟩ := id h3
    have hc := S.cells x c (mem_of_lookup h2)
    obtain ⟨sl, e1, e2⟩ := st.old c o (fun q => absurd (S.tout c q).2 (Nat.not_lt.mpr hc.2.1)) (fun q => nomatch q) ho
    exact ⟨_, e1, hd⟩
  cells := fun x c hm => by
    obtain ⟨h1, h2, h3, v, h4⟩ := S.cells x c hm
    obtain ⟨o, ho, hd⟩ := id h4
    obtain ⟨sl, e1, e2⟩ := st.old c o (fun q => absurd (S.tout c q).2 (Nat.not_lt.mpr h2)) (fun q => nomatch q) ho
    exact ⟨st.out h1 ⟨_, ho⟩, h2, h3, v, _, e1, hd⟩
  apart := S.apart
  cdom := S.cdom
  own := fun p hp => by
    obtain ⟨h1, h2, h3, h4, o, ho, hr⟩ := S.own p hp
    obtain ⟨sl, e1, e2⟩ := st.old p.1 o (fun q => absurd (S.tout p.1 q).2 (Nat.not_lt.mpr h2)) (fun q => nomatch q) ho
    have e3 : ({ o with slots := sl } : Obj) = o := by rw [e2 h3]
    rw [e3] at e1
    exact ⟨st.out h1 ⟨_, ho⟩, h2, h3, h4, o, e1, hr.mono st.le⟩
  nodup := S.nodup

/-- forgetting and renaming what is known of the names -/
theorem St.weak (S : St prog w G l A env ρ μ H h) (hs : ∀ x d', ρ'.lookup x = some d' → ∃ d, ρ.lookup x = some d ∧ ∀ v, Rep prog w H v d → Rep prog w H v d') : St prog w G l A env ρ' μ H h :=
  { S with
    loc := by
      obtain ⟨m, hn, hv⟩ := S.loc
      refine ⟨m, hn, fun x d' hx hk => ?_⟩
      obtain ⟨d, h1, h2⟩ := hs x d' hx
      obtain ⟨v, h3, h4⟩ := hv x d h1 hk
      exact ⟨v, h3, h2 v h4⟩
    cel := fun x d' hx hk => by
      obtain ⟨d, h1, h2⟩ := hs x d' hx
      obtain ⟨q, c, v, h3, h4, h5⟩ := S.cel x d h1 hk
      exact ⟨q, c, v, h3, h4, h2 v h5⟩ }
end

/-! ## the judgements -/
section
variable (prog : Program) (w : World) (G : GX) (l : List Env)
/-- from the activation's state, the tree t yields what R says; nothing that stood is changed -/
structure Tr {α : Type} (A : Around) (env : Env) (ρ : Rho) (μ : Mu) (H : PH) (t : Sem α) (R : PH → α → Prop) : Prop where
  run : ∀ (s : Shared) (Q : α → Shared → Prop) (E : Value → Shared → Prop), St prog w G l A env ρ μ H s.heap →
    (∀ a H' h' tk, Step G l [] H s.heap H' h' → R H' a → Q a { s with heap := h', toks := tk }) → wpAny (model prog w) A t Q E s
noncomputable def Ev (A : Around) (env : Env) (ρ : Rho) (μ : Mu) (e : PySem.Expr) (d : Dat) : Prop :=
  ∀ H, Tr prog w G l A env ρ μ H (eval e env) fun H' v => Rep prog w H' v d
end
section
variable {prog : Program} {w : World} {G : GX} {l : List Env} {A : Around} {env : Env} {ρ : Rho} {μ : Mu} {H : PH}
theorem Tr.bind {α β : Type} {t : Sem α} {f : α → Sem β} {R : PH → α → Prop} {R' : PH → β → Prop} (h : Tr prog w G l A env ρ μ H t R)
    (k : ∀ a H', Le H H' → R H' a → Tr prog w G l A env ρ μ H' (f a) R') : Tr prog w G l A env ρ μ H (t >>= f) R' := by
  refine ⟨fun s Q E S hQ => ?_⟩
  with_reducible refine wpAny_bind (h.run s _ E S fun a H' h' tk st hR => ?_)
  exact (k a H' st.le hR).run _ Q E (S.step st) fun b H'' h'' tk' st' hR' => hQ b H'' h'' tk' (st.trans st') hR'
theorem Tr.pure {α : Type} {a : α} {R : PH → α → Prop} (h : R H a) : Tr prog w G l A env ρ μ H (pure a) R := by
  refine ⟨fun s Q E S hQ => ?_⟩
  with_reducible refine wpAny_pure ?_
  exact hQ a H s.heap s.toks (.refl S.ext S.tabs) h
theorem Tr.mono {α : Type} {t : Sem α} {R R' : PH → α → Prop} (h : Tr prog w G l A env ρ μ H t R) (k : ∀ H' a, Le H H' → R H' a → R' H' a) : Tr prog w G l A env ρ μ H t R' :=
  ⟨fun s Q E S hQ => h.run s Q E S fun a H' h' tk st hR => hQ a H' h' tk st (k H' a st.le hR)⟩
theorem Tr.holding {α : Type} {vs : List Value} {t : Sem α} {R : PH → α → Prop} (h : Tr prog w G l A env ρ μ H t R) : Tr prog w G l A env ρ μ H (holding vs t) R := by
  refine ⟨fun s Q E S hQ => ?_⟩
  with_reducible refine wpAny_holding ?_
  exact h.run s Q E S hQ
theorem Tr.standAt {α : Type} {p : Pos} {f : Unit → Sem α} {R : PH → α → Prop} (h : Tr prog w G l A env ρ μ H (f ()) R) : Tr prog w G l A env ρ μ H (standAt p >>= f) R := by
  refine ⟨fun s Q E S hQ => ?_⟩
  with_reducible refine wpAny_bind (wpAny_standAt ?_)
  exact h.run s Q E S hQ
end
end Mine
end
section
open PySem PySem.W PySem.Calls PyProof.Rows
set_option Elab.async false
set_option linter.unusedVariables false
namespace Mine
section
variable {prog : Program} {w : World} {G : GX} {l : List Env} {A : Around} {env : Env} {ρ : List (Str × Dat)} {μ : List (Addr × MD)} {H : PH}

theorem Tr.operate {ops : List Value} {t : Sem Value} {R : PH → Value → Prop} (h : Tr prog w G l A env ρ μ H t R) : Tr prog w G l A env ρ μ H (operate ops t) R := by
  refine ⟨fun s Q E S hQ => ?_⟩
  with_reducible refine wpAny_operating ?_
  exact h.run s Q E S hQ
/-- a rule of the library that leaves the heap and makes one int -/
theorem Tr.mkInt {t : Sem Value} {c : Int}
    (h : ∀ (s : Shared) (Q : Value → Shared → Prop) (E : Value → Shared → Prop), Q (.int c s.toks) { s with toks := s.toks + 1 } → wpAny (model prog w) A t Q E s) :
    Tr prog w G l A env ρ μ H t fun H' v => Rep prog w H' v (.int c) :=
  ⟨fun s Q E S hQ => by with_reducible exact h s Q E (hQ _ H s.heap _ (.refl S.ext S.tabs) (.int _ _))⟩
theorem Tr.val {α : Type} {t : Sem α} {v : α} {R : PH → α → Prop} (hr : R H v)
    (h : ∀ (s : Shared) (Q : α → Shared → Prop) (E : Value → Shared → Prop), St prog w G l A env ρ μ H s.heap → Q v s → wpAny (model prog w) A t Q E s) : Tr prog w G l A env ρ μ H t R :=
  ⟨fun s Q E S hQ => by with_reducible exact h s Q E S (hQ _ H s.heap s.toks (.refl S.ext S.tabs) hr)⟩

theorem Ev.int {i : Int} {k : Nat} {pos : Pos} : Ev prog w G l A env ρ μ (.Constant (.int i) k pos) (.int i) := fun H =>
  .mkInt fun s Q E h => by with_reducible exact wpAny_Constant_int h
theorem Ev.cbool {b : Bool} {k : Nat} {pos : Pos} : Ev prog w G l A env ρ μ (.Constant (.bool b) k pos) (.bool b) := fun H => by
  rw [eval_Constant, show constValue env (.bool b) = pure (Value.bool b) from rfl]
  exact Tr.pure (Rep.bool b)

theorem Ev.name {x : Str} {pos : Pos} {d : Dat} (hx : ρ.lookup x = some d) (hd : (x == ("__debug__" : Str)) = false := by decide) (hn : (x == ("__classdict__" : Str)) = false := by decide) :
    Ev prog w G l A env ρ μ (.Name x pos) d := fun H => by
  refine ⟨fun s Q E S hQ => ?_⟩
  with_reducible refine wpAny_Name ?_ hd
  by_cases hk : env.kindOf x = some .local
  · obtain ⟨m, hm, hv⟩ := S.loc
    obtain ⟨v, h1, h2⟩ := hv x d hx hk
    with_reducible refine wpAny_loadName_local S.kind hk hm h1 ?_
    exact hQ v H s.heap s.toks (.refl S.ext S.tabs) h2
  · obtain ⟨hk', c, v, h1, h2, h3⟩ := S.cel x d hx hk
    have q := hQ v H s.heap s.toks (.refl S.ext S.tabs) h3
    rcases hk' with hk' | hk'
    · with_reducible exact wpAny_loadName_cell S.kind hk' h1 h2 q
    · with_reducible exact wpAny_loadName_free S.kind hk' h1 h2 q hn

theorem Ev.glob {K : Frag} {mg : Str → Option Value} {x : Str} {pos : Pos} {v : Value} {d : Dat} (XK : K.In G.hG) (hg : G.hG.Ns mainGlobals mg) (e : nsIn K mainGlobals x = some (some v)) (hr : ∀ H, Rep prog w H v d)
    (hk : env.kindOf x = some .globalImplicit := by rfl) (hd : (x == ("__debug__" : Str)) = false := by decide) : Ev prog w G l A env ρ μ (.Name x pos) d := fun H => by
  refine Tr.val (hr H) fun s Q E S hQ => ?_
  have hg' : s.heap.Ns env.globals mg := by rw [S.genv]; exact hg.keeps fun b o e => S.ext _ _ (S.glob b o e)
  with_reducible exact Name_function_global S.kind hk (loadGlobal_global hg' (mg_of XK hg e) hQ) hd
theorem Ev.bglob {K : Frag} {p : Program} {loose : List Str} {mg mb : Str → Option Value} {x : Str} {pos : Pos} {v : Value} (XK : K.In G.hG) (T : TopRead p loose mg mb G.hG) (e : nsIn K mainGlobals x = some none)
    (hv : bootBuiltins x = some v) (hnm : x ≠ "__name__")
    (hk : env.kindOf x = some .globalImplicit := by rfl) (hd : (x == ("__debug__" : Str)) = false := by decide) : Ev prog w G l A env ρ μ (.Name x pos) (.val v) := fun H => by
  refine Tr.val (Rep.val v) fun s Q E S hQ => ?_
  have hg' : s.heap.Ns env.globals mg := by rw [S.genv]; exact T.g.keeps fun b o e => S.ext _ _ (S.glob b o e)
  have hb' : s.heap.Ns env.builtins mb := by rw [S.benv]; exact T.b.keeps fun b o e => S.ext _ _ (S.glob b o e)
  with_reducible exact Name_function_global S.kind hk (loadGlobal_builtin hg' (mg_none_of XK T.g e) hb' ((T.builtins x hnm).trans hv) hQ) hd

/-! ### operators -/
noncomputable def BinSem (prog : Program) (w : World) (G : GX) (l : List Env) (A : Around) (env : Env) (ρ : Rho) (μ : Mu) (op : Operator) (a b d : Dat) : Prop :=
  ∀ H va vb, Rep prog w H va a → Rep prog w H vb b → Tr prog w G l A env ρ μ H (binaryOp op va vb) fun H' v => Rep prog w H' v d
theorem Ev.bin {e₁ e₂ : PySem.Expr} {op : Operator} {pos : Pos} {a b d : Dat} (h₁ : Ev prog w G l A env ρ μ e₁ a) (h₂ : Ev prog w G l A env ρ μ e₂ b) (h : BinSem prog w G l A env ρ μ op a b d) :
    Ev prog w G l A env ρ μ (.BinOp e₁ op e₂ pos) d := fun H => by
  rw [eval_BinOp]
  exact (h₁ H).bind fun va H₁ k1 r1 => (h₂ H₁).holding.bind fun vb H₂ k2 r2 => Tr.standAt (Tr.operate (h H₂ va vb (r1.mono k2) r2))
theorem BinSem.ints {op : Operator} {a b c : Int}
    (h : ∀ (s : Shared) (t u : Tok) (Q : Value → Shared → Prop) (E : Value → Shared → Prop), Q (.int c s.toks) { s with toks := s.toks + 1 } → wpAny (model prog w) A (binaryOp op (.int a t) (.int b u)) Q E s) :
    BinSem prog w G l A env ρ μ op (.int a) (.int b) (.int c) := fun H va vb ra rb => by
  cases ra; cases rb
  exact Tr.mkInt fun s Q E hq => by with_reducible exact h s _ _ Q E hq
theorem BinSem.add {a b : Int} : BinSem prog w G l A env ρ μ .Add (.int a) (.int b) (.int (a + b)) := .ints fun s t u Q E h => by with_reducible exact add_int h
theorem BinSem.sub {a b : Int} : BinSem prog w G l A env ρ μ .Sub (.int a) (.int b) (.int (a - b)) := .ints fun s t u Q E h => by with_reducible exact sub_int h
theorem BinSem.mul {a b : Int} (hm : IntMulOk a b) : BinSem prog w G l A env ρ μ .Mult (.int a) (.int b) (.int (a * b)) := .ints fun s t u Q E h => by with_reducible exact P.mul_int h hm
theorem BinSem.fdiv {a b : Int} (hb : b ≠ 0) (hl : b.natAbs.log2 < 9000) : BinSem prog w G l A env ρ μ .FloorDiv (.int a) (.int b) (.int (a.fdiv b)) :=
  .ints fun s t u Q E h => by with_reducible exact floordiv_int hb h (.inl (PyProof.noPylong_of_log2 hl))
theorem BinSem.fmod {a b : Int} (hb : b ≠ 0) : BinSem prog w G l A env ρ μ .Mod (.int a) (.int b) (.int (a.fmod b)) := .ints fun s t u Q E h => by with_reducible exact mod_int' hb h
theorem BinSem.pow {a n : Int} (hn : 0 ≤ n) (hs : (Builtin.Int.intBits a : Int) * n ≤ 2 ^ 27) : BinSem prog w G l A env ρ μ .Pow (.int a) (.int n) (.int (a ^ n.toNat)) := .ints fun s t u Q E h => by with_reducible exact pow_int hn hs h
theorem BinSem.shl {a n : Int} (hn : 0 ≤ n) (hs : (Builtin.Int.intBits a : Int) + n ≤ 2 ^ 27) : BinSem prog w G l A env ρ μ .LShift (.int a) (.int n) (.int (a * 2 ^ n.toNat)) := .ints fun s t u Q E h => by with_reducible exact lshift_int hn hs h
theorem BinSem.shr {a n : Int} (hn : 0 ≤ n) : BinSem prog w G l A env ρ μ .RShift (.int a) (.int n) (.int (a.fdiv (2 ^ n.toNat))) := .ints fun s t u Q E h => by with_reducible exact rshift_int hn h
theorem BinSem.xor {a b : Int} : BinSem prog w G l A env ρ μ .BitXor (.int a) (.int b) (.int (Builtin.bitXor a b)) := .ints fun s t u Q E h => by with_reducible exact xor_int h

theorem Ev.neg {e : PySem.Expr} {pos : Pos} {a : Int} (h₁ : Ev prog w G l A env ρ μ e (.int a)) : Ev prog w G l A env ρ μ (.UnaryOp .USub e pos) (.int (-a)) := fun H => by
  rw [arm_eval_UnaryOp]
  exact (h₁ H).bind fun va H₁ k1 r1 => by cases r1; exact Tr.standAt (Tr.holding (.mkInt fun s Q E h => by with_reducible exact neg_int h))
theorem Ev.inv {e : PySem.Expr} {pos : Pos} {a : Int} (h₁ : Ev prog w G l A env ρ μ e (.int a)) : Ev prog w G l A env ρ μ (.UnaryOp .Invert e pos) (.int (Builtin.bitNot a)) := fun H => by
  rw [arm_eval_UnaryOp]
  exact (h₁ H).bind fun va H₁ k1 r1 => by cases r1; exact Tr.standAt (Tr.holding (.mkInt fun s Q E h => by with_reducible exact invert_int h))

/-! ### comparisons and tests -/
noncomputable def CmpSem (prog : Program) (w : World) (G : GX) (l : List Env) (A : Around) (env : Env) (ρ : Rho) (μ : Mu) (op : CmpOp) (a b : Dat) (c : Bool) : Prop :=
  ∀ H va vb, Rep prog w H va a → Rep prog w H vb b → Tr prog w G l A env ρ μ H (compareOp op va vb) fun _ v => v = .bool c
theorem Ev.cmp {e₁ e₂ : PySem.Expr} {op : CmpOp} {pos : Pos} {a b : Dat} {c : Bool} (h₁ : Ev prog w G l A env ρ μ e₁ a) (h₂ : Ev prog w G l A env ρ μ e₂ b) (h : CmpSem prog w G l A env ρ μ op a b c)
    (hm : behindInMarks op e₂ = false := by rfl) : Ev prog w G l A env ρ μ (.Compare e₁ [op] [e₂] pos) (.bool c) := fun H => by
  rw [eval_Compare1, markedBehindIn_of_false hm]
  exact (h₁ H).bind fun va H₁ k1 r1 => (h₂ H₁).holding.bind fun vb H₂ k2 r2 => Tr.standAt (Tr.operate ((h H₂ va vb (r1.mono k2) r2).mono fun H' a _ e => e ▸ .bool c))
/-- the test of an if, a while, a clause -/
noncomputable def EvT (prog : Program) (w : World) (G : GX) (l : List Env) (A : Around) (env : Env) (ρ : Rho) (μ : Mu) (e : PySem.Expr) (b : Bool) : Prop :=
  ∀ H, Tr prog w G l A env ρ μ H (isTrue e env (eval e env)) fun _ r => r = b
theorem Tr.truthyB {b c : Bool} (h : b = c) : Tr prog w G l A env ρ μ H (truthy (.bool b)) fun _ r => r = c := .val h fun s Q E S hQ => by with_reducible exact wpAny_truthy_bool hQ
theorem EvT.cmp {e₁ e₂ : PySem.Expr} {op : CmpOp} {pos : Pos} {a b : Dat} {c : Bool} (h₁ : Ev prog w G l A env ρ μ e₁ a) (h₂ : Ev prog w G l A env ρ μ e₂ b) (h : CmpSem prog w G l A env ρ μ op a b c)
    (hm : behindInMarks op e₂ = false := by rfl) : EvT prog w G l A env ρ μ (.Compare e₁ [op] [e₂] pos) c := fun H => by
  rw [isTrue_Compare1, markedBehindIn_of_false hm]
  exact (h₁ H).bind fun va H₁ k1 r1 => (h₂ H₁).holding.bind fun vb H₂ k2 r2 => Tr.standAt ((Tr.operate (h H₂ va vb (r1.mono k2) r2)).bind fun v H₃ k3 e => by subst e; exact Tr.holding (.truthyB rfl))
theorem Ev.ite {t e₁ e₂ : PySem.Expr} {pos : Pos} {c : Bool} {d : Dat} (ht : EvT prog w G l A env ρ μ t c) (h₁ : c = true → Ev prog w G l A env ρ μ e₁ d) (h₂ : c = false → Ev prog w G l A env ρ μ e₂ d) :
    Ev prog w G l A env ρ μ (.IfExp t e₁ e₂ pos) d := fun H => by
  rw [arm_eval_IfExp]
  refine (ht H).bind fun b H₁ k1 r1 => ?_
  subst r1
  cases b
  · exact h₂ rfl H₁
  · exact h₁ rfl H₁
theorem CmpSem.ints {op : CmpOp} {a b : Int} {c : Bool} (h : ∀ (s : Shared) (t u : Tok) (Q : Value → Shared → Prop) (E : Value → Shared → Prop), Q (.bool c) s → wpAny (model prog w) A (compareOp op (.int a t) (.int b u)) Q E s) :
    CmpSem prog w G l A env ρ μ op (.int a) (.int b) c := fun H va vb ra rb => by
  cases ra; cases rb
  exact Tr.val rfl fun s Q E S hQ => by with_reducible exact h s _ _ Q E hQ
theorem CmpSem.lt {a b : Int} : CmpSem prog w G l A env ρ μ .Lt (.int a) (.int b) (decide (a < b)) := .ints fun s t u Q E h => by with_reducible exact lt_int h
theorem CmpSem.gt {a b : Int} : CmpSem prog w G l A env ρ μ .Gt (.int a) (.int b) (decide (b < a)) := .ints fun s t u Q E h => by with_reducible exact gt_int h
theorem CmpSem.le {a b : Int} : CmpSem prog w G l A env ρ μ .LtE (.int a) (.int b) (decide (a ≤ b)) := .ints fun s t u Q E h => by with_reducible exact le_int h
theorem CmpSem.ge {a b : Int} : CmpSem prog w G l A env ρ μ .GtE (.int a) (.int b) (decide (b ≤ a)) := .ints fun s t u Q E h => by with_reducible exact ge_int h
theorem CmpSem.eq {a b : Int} : CmpSem prog w G l A env ρ μ .Eq (.int a) (.int b) (a == b) := .ints fun s t u Q E h => by with_reducible exact eq_int h
theorem CmpSem.ne {a b : Int} : CmpSem prog w G l A env ρ μ .NotEq (.int a) (.int b) (a != b) := .ints fun s t u Q E h => by with_reducible exact ne_int h
end
end Mine
end
section
open PySem PySem.W PySem.Calls PyProof.Rows
set_option Elab.async false
set_option linter.unusedVariables false
namespace Mine
section
variable {prog : Program} {w : World} {G : GX} {l : List Env} {A : Around} {env : Env} {ρ : List (Str × Dat)} {μ : List (Addr × MD)} {H : PH}

/-- one new object, at the heap's end -/
theorem Tr.alloc {α : Type} {t : Sem α} {o : Obj} {r : Addr → α} {R : PH → α → Prop} (hr : ∀ a, H a = none → R (addO H a o) (r a))
    (h : ∀ (s : Shared) (Q : α → Shared → Prop) (E : Value → Shared → Prop), St prog w G l A env ρ μ H s.heap → (∀ tk, Q (r s.heap.objs.size) { s with heap := s.heap.push o, toks := tk }) → wpAny (model prog w) A t Q E s)
    (hf : o.isFreed = false := by rfl) : Tr prog w G l A env ρ μ H t R := by
  refine ⟨fun s Q E S hQ => ?_⟩
  with_reducible refine h s Q E S fun tk => ?_
  have hn : H s.heap.objs.size = none := S.ext.fresh (Nat.le_refl _)
  refine hQ _ (addO H s.heap.objs.size o) _ tk (Step.of S.tabs (le_addO hn) ((S.ext.mono fun b o' e => Heap.get?_push_of_some _ e).addO (Heap.get?_push_size _ hf)) (fun a o' e => ?_) fun a o' e => Heap.get?_push_of_some _ e) (hr _ hn)
  by_cases q : a = s.heap.objs.size
  · right
    rw [q]
    cases z : s.heap.get? s.heap.objs.size with
    | none => rfl
    | some o => exact absurd (Heap.lt_size z) (Nat.lt_irrefl _)
  · rw [addO_ne q] at e; exact .inl e

theorem Rep.tupNew {vs : List Value} {ds : List Dat} {n : Nat} {a : Addr} (hn : H a = Option.none) (r : Reps prog w H vs ds) : Rep prog w (addO H a (tupO vs n)) (.ref a) (.tup ds) := .tup (addO_self ..) (r.mono (le_addO hn))
theorem Rep.listNew {vs : List Value} {ds : List Dat} {n : Nat} {a : Addr} (hn : H a = Option.none) (r : Reps prog w H vs ds) : Rep prog w (addO H a (listO vs n)) (.ref a) (.list ds) := .list (addO_self ..) (r.mono (le_addO hn))

theorem sizeLine_of {n : Nat} (h : n ≤ 16777216) : n ≤ sizeLine := by rw [sizeLine_eq]; exact h
theorem Tr.newTuple {vs : List Value} {ds : List Dat} (r : Reps prog w H vs ds) (hs : ds.length ≤ 16777216) : Tr prog w G l A env ρ μ H (newTuple vs) fun H' v => Rep prog w H' v (.tup ds) :=
  .alloc (o := tupO vs 0) (r := fun a => .ref a) (fun a hn => .tupNew hn r) fun s Q E S hQ => by with_reducible exact wpAny_newTuple (hQ s.toks) (sizeLine_of (r.length ▸ hs))
theorem Tr.newList {vs : List Value} {ds : List Dat} (r : Reps prog w H vs ds) (hs : ds.length ≤ 16777216) : Tr prog w G l A env ρ μ H (newList vs) fun H' v => Rep prog w H' v (.list ds) :=
  .alloc (o := listO vs 0) (r := fun a => .ref a) (fun a hn => .listNew hn r) fun s Q E S hQ => by with_reducible exact wpAny_newList (hQ s.toks) (sizeLine_of (r.length ▸ hs))

/-! ### several expressions -/
noncomputable def plainArg (e : PySem.Expr) : Bool := match e with
  | .Starred .. => false
  | _ => true
inductive Evs (prog : Program) (w : World) (G : GX) (l : List Env) (A : Around) (env : Env) (ρ : Rho) (μ : Mu) : List PySem.Expr → List Dat → Prop
  | nil : Evs prog w G l A env ρ μ [] []
  | cons {e : PySem.Expr} {es : List PySem.Expr} {d : Dat} {ds : List Dat} (h : Ev prog w G l A env ρ μ e d) (hs : Evs prog w G l A env ρ μ es ds) (he : plainArg e = true := by rfl) : Evs prog w G l A env ρ μ (e :: es) (d :: ds)
theorem starEach_plain {e : PySem.Expr} {es : List PySem.Expr} (h : plainArg e = true) : starEach (e :: es) env = (false, eval e env) :: starEach es env := by
  cases e <;> first | rfl | cases h
theorem spliced_cons_eq {x : Sem Value} {rest : List (Bool × Sem Value)} : spliced ((false, x) :: rest) = (do let v ← x; let r ← holding [v] (spliced rest); pure ([v] ++ r)) := by
  rw [spliced]
  simp only [Bool.false_eq_true, if_false, pure_bind]
theorem Evs.run {es : List PySem.Expr} {ds : List Dat} (h : Evs prog w G l A env ρ μ es ds) (pos : Pos) :
    ∀ H, (backTo pos (starEach es env)).any (·.1) = false ∧ Tr prog w G l A env ρ μ H (spliced (backTo pos (starEach es env))) fun H' vs => Reps prog w H' vs ds := by
  induction h with
  | nil => exact fun H => ⟨rfl, Tr.pure .nil⟩
  | @cons e es d ds h hs he ih =>
    intro H
    rw [starEach_plain he, show backTo pos ((false, eval e env) :: starEach es env) = (false, eval e env) :: backTo pos (starEach es env) from rfl]
    refine ⟨by rw [List.any_cons, (ih H).1]; rfl, ?_⟩
    rw [spliced_cons_eq]
    exact (h H).bind fun v H₁ k1 r1 => ((ih H₁).2).holding.bind fun vs H₂ k2 r2 => Tr.pure (.cons (r1.mono k2) r2)

theorem Ev.tuple {es : List PySem.Expr} {ds : List Dat} {k : Nat} {pos : Pos} (h : Evs prog w G l A env ρ μ es ds) (hs : ds.length ≤ 16777216 := by first | decide | (simp only [List.length_cons, List.length_nil]; decide)) : Ev prog w G l A env ρ μ (.Tuple es k pos) (.tup ds) := fun H => by
  rw [arm_eval_Tuple]
  exact Tr.standAt (((h.run pos H).2).bind fun vs H₁ k1 r1 => Tr.newTuple r1 hs)
theorem Ev.list {es : List PySem.Expr} {ds : List Dat} {pos : Pos} (h : Evs prog w G l A env ρ μ es ds) (hs : ds.length ≤ 16777216 := by first | decide | (simp only [List.length_cons, List.length_nil]; decide)) : Ev prog w G l A env ρ μ (.List es pos) (.list ds) := fun H => by
  rw [arm_eval_List]
  exact Tr.standAt (((h.run pos H).2).bind fun vs H₁ k1 r1 => Tr.newList r1 hs)

/-! ### subscripts -/
noncomputable def SubSem (prog : Program) (w : World) (G : GX) (l : List Env) (A : Around) (env : Env) (ρ : Rho) (μ : Mu) (value slice : PySem.Expr) (a i d : Dat) : Prop :=
  ∀ H va vi, Rep prog w H va a → Rep prog w H vi i → Tr prog w G l A env ρ μ H (subscriptTail value slice va vi) fun H' v => Rep prog w H' v d
theorem Ev.sub {value slice : PySem.Expr} {pos : Pos} {a i d : Dat} (h₁ : Ev prog w G l A env ρ μ value a) (h₂ : Ev prog w G l A env ρ μ slice i) (h : SubSem prog w G l A env ρ μ value slice a i d) :
    Ev prog w G l A env ρ μ (.Subscript value slice pos) d := fun H => by
  rw [eval_Subscript]
  exact (h₁ H).bind fun va H₁ k1 r1 => (h₂ H₁).holding.bind fun vi H₂ k2 r2 => Tr.standAt (h H₂ va vi (r1.mono k2) r2)

theorem Ext.isList {h : Heap} {a : Addr} {vs : List Value} {n : Nat} (x : Ext H h) (e : H a = some (listO vs n)) : h.IsList a vs.toArray := ⟨_, x _ _ e, rfl, n, rfl⟩
theorem Ext.isTup {h : Heap} {a : Addr} {vs : List Value} {n : Nat} (x : Ext H h) (e : H a = some (tupO vs n)) : IsTup h a vs.toArray := ⟨_, x _ _ e, rfl, n, rfl⟩
theorem seqIndex_of {k : Int} {n : Nat} (h0 : 0 ≤ k) (h1 : k.toNat < n) : seqIndex? k n = some k.toNat := by
  unfold seqIndex?
  have e : ¬ k < 0 := by (first | lia | omega)
  have e2 : k < (n : Int) := by (first | lia | omega)
  simp [e, e2, h0]
noncomputable def plainSlice (slice : PySem.Expr) : Bool := match slice with
  | .Slice .. => false
  | _ => true
theorem subscripted_plain {slice : PySem.Expr} (h : plainSlice slice = true) (o i : Value) : subscripted slice false o i = operate [o, i] (getItem o i) := by
  cases slice <;> first | rfl | cases h
theorem SubSem.list {value slice : PySem.Expr} {ds : List Dat} {k : Int} {d : Dat} (h0 : 0 ≤ k) (hd : ds[k.toNat]? = some d) (hk : k < 2 ^ 63) (hs : plainSlice slice = true := by rfl) :
    SubSem prog w G l A env ρ μ value slice (.list ds) (.int k) d := fun H va vi ra ri => by
  cases ri
  cases ra with
  | list e r =>
    obtain ⟨v, hv, rv⟩ := r.get hd
    refine Tr.val rv fun s Q E S hQ => ?_
    with_reducible exact tail_any (S.ext.isList e).typeIs slot_list_getitem.lookup (wpAny_getItem_list (S.ext.isList e) h0 hk (by simpa using hv) hQ) (subscripted_plain hs _ _)
theorem SubSem.tup {value slice : PySem.Expr} {ds : List Dat} {k : Int} {d : Dat} (h0 : 0 ≤ k) (hd : ds[k.toNat]? = some d) (hk : k < 2 ^ 63) (hs : plainSlice slice = true := by rfl) :
    SubSem prog w G l A env ρ μ value slice (.tup ds) (.int k) d := fun H va vi ra ri => by
  cases ri
  cases ra with
  | tup e r =>
    obtain ⟨v, hv, rv⟩ := r.get hd
    have hlt : k.toNat < _ := (List.getElem?_eq_some_iff.mp hv).1
    refine Tr.val rv fun s Q E S hQ => ?_
    with_reducible exact tail_any (S.ext.isTup e).typeIs slot_tuple_getitem.lookup (getItem_tuple (S.ext.isTup e) (by (first | lia -abstractProof | omega)) hk (by rw [List.size_toArray]; exact seqIndex_of h0 hlt) (by simpa using hv) hQ) (subscripted_plain hs _ _)
theorem SubSem.own {value slice : PySem.Expr} {p : Addr} {ds : List Dat} {k : Int} {d : Dat} (hm : (p, MD.list ds) ∈ μ ∨ (p, MD.ro (.list ds)) ∈ μ) (h0 : 0 ≤ k) (hd : ds[k.toNat]? = some d) (hk : k < 2 ^ 63) (hs : plainSlice slice = true := by rfl) :
    SubSem prog w G l A env ρ μ value slice (.val (.ref p)) (.int k) d := fun H va vi ra ri => by
  cases ri
  cases ra with
  | val =>
    refine ⟨fun s Q E S hQ => ?_⟩
    have hown : ∃ o, s.heap.get? p = some o ∧ ∃ vs n, o = listO vs n ∧ Reps prog w H vs ds := by
      rcases hm with hm | hm
      · obtain ⟨_, _, _, _, o, ho, hr⟩ := S.own _ hm; exact ⟨o, ho, hr⟩
      · obtain ⟨_, _, _, _, o, ho, hr⟩ := S.own _ hm; exact ⟨o, ho, hr⟩
    obtain ⟨o, ho, vs, n, rfl, r⟩ := hown
    obtain ⟨v, hv, rv⟩ := r.get hd
    have hL : s.heap.IsList p vs.toArray := ⟨_, ho, rfl, n, rfl⟩
    have q := hQ v H s.heap s.toks (.refl S.ext S.tabs) rv
    with_reducible exact tail_any hL.typeIs slot_list_getitem.lookup (wpAny_getItem_list hL h0 hk (by simpa using hv) q) (subscripted_plain hs _ _)

/-! ### calls -/
noncomputable def KeepOk (prog : Program) (w : World) (H : PH) (f : Value) : Prop := ∃ k, (k = Keeper.frame ∨ k = Keeper.machine ∨ k = Keeper.boundFrame) ∧ ∀ h, Ext H h → Looks (model prog w) h (keeperOf f) k
theorem KeepOk.plain {f : Value} (h : ∀ a, f ≠ .ref a) : KeepOk prog w H f := ⟨.machine, .inr (.inl rfl), fun _ _ => by
  refine Looks.of_pure ?_
  cases f with
  | ref a => exact absurd rfl (h a)
  | _ => rfl⟩
theorem KeepOk.func {a : Addr} {o : Obj} {fd : FuncData} (e : H a = some o) (hd : o.data = .func fd) : KeepOk prog w H (.ref a) := ⟨.frame, .inl rfl, fun h x => by
  unfold keeperOf
  refine (Looks.ld (part := none) (x _ _ e)).andThen ?_
  rw [hd]
  exact .now⟩
theorem Tr.callWith {pos : Pos} {f : Value} {first : List Value} {es : List PySem.Expr} {ds : List Dat} {p : Pos} {R : PH → Value → Prop} (hk : KeepOk prog w H f) (he : Evs prog w G l A env ρ μ es ds)
    (hc : ∀ H' vs, Le H H' → Reps prog w H' vs ds → Tr prog w G l A env ρ μ H' (call f (first ++ vs)) R) :
    Tr prog w G l A env ρ μ H (callWith pos f first (backTo p (starEach es env)) (backToKw p (keywordEach [] env))) R := by
  obtain ⟨h1, h2⟩ := he.run p H
  refine ⟨fun s Q E S hQ => ?_⟩
  obtain ⟨k', hk', L⟩ := hk
  have fin : ∀ vs H' h' tk, Step G l [] H s.heap H' h' → Reps prog w H' vs ds →
      Ext H h' ∧ wpAny (model prog w) A (call f (first ++ vs)) Q E { s with heap := h', toks := tk } := fun vs H' h' tk st r =>
    ⟨fun a o e => st.ext a o (st.le a o e), (hc H' vs st.le r).run _ Q E (S.step st) fun v H'' h'' tk' st' r' => hQ v H'' h'' tk' (st.trans st') r'⟩
  have hany : ((backTo p (starEach es env)).any (·.1) || ([] : List (Option Str × Sem Value)).any (·.1.isNone)) = false := by rw [h1]; rfl
  rw [show backToKw p (keywordEach [] env) = [] from rfl]
  with_reducible refine callWith_of (P := fun h => Ext H h) hany (fun h e => ⟨k', hk', L h e⟩) ?_
  cases he with
  | nil =>
    show wpAny (model prog w) A (evalArgs f true [] []) _ E s
    with_reducible refine evalArgs_nil3 ?_
    exact fin [] H s.heap s.toks (.refl S.ext S.tabs) .nil
  | @cons e es d ds h hs he =>
    rw [starEach_plain he] at h2 ⊢
    show wpAny (model prog w) A (evalArgs f true ((false, eval e env) :: backTo p (starEach es env)) []) _ E s
    with_reducible refine evalArgs_plain ?_
    exact h2.run s _ E S fun vs H' h' tk st r => fin vs H' h' tk st r
end
end Mine
end
section
open PySem PySem.W PySem.Calls PyProof.Rows
set_option Elab.async false
set_option linter.unusedVariables false
namespace Mine
section
variable {prog : Program} {w : World} {G : GX} {l : List Env} {A : Around} {env : Env} {ρ : List (Str × Dat)} {μ : List (Addr × MD)} {H : PH}

noncomputable def CallSem (prog : Program) (w : World) (G : GX) (l : List Env) (A : Around) (env : Env) (ρ : Rho) (μ : Mu) (f : Value) (ds : List Dat) (d : Dat) : Prop :=
  ∀ H vs, Reps prog w H vs ds → Tr prog w G l A env ρ μ H (call f vs) fun H' v => Rep prog w H' v d
noncomputable def KeepG (prog : Program) (w : World) (G : GX) (f : Value) : Prop := ∀ H : PH, (∀ b o, G.hG.get? b = some o → H b = some o) → KeepOk prog w H f
theorem KeepG.plain {f : Value} (h : ∀ a, f ≠ .ref a) : KeepG prog w G f := fun _ _ => .plain h
theorem KeepG.K {K : Frag} {f : Value} (XK : K.In G.hG) (e : keepIn K f = true) : KeepG prog w G f := fun H k => by
  obtain ⟨k', h1, _⟩ := looks_keep (M := model prog w) e XK
  have : ∀ h, Ext H h → K.In h := fun h x => XK.keeps fun b o q => x _ _ (k b o q)
  obtain ⟨k', h1, h2⟩ := keeps_K (M := model prog w) e _ XK
  refine ⟨k', h1, fun h x => h2.keeps fun b o q => x _ _ (k b o q)⟩

theorem Ev.callName {x : Str} {np pos : Pos} {es : List PySem.Expr} {ds : List Dat} {f : Value} {d : Dat} (hf : Ev prog w G l A env ρ μ (.Name x np) (.val f)) (hk : KeepG prog w G f) (he : Evs prog w G l A env ρ μ es ds)
    (hc : CallSem prog w G l A env ρ μ f ds d) : Ev prog w G l A env ρ μ (.Call (.Name x np) es [] pos) d := fun H => by
  rw [arm_eval_Call_Name']
  refine (hf H).bind fun v H₁ k1 r1 => ?_
  cases r1
  refine ⟨fun s Q E S hQ => ?_⟩
  exact (Tr.callWith (hk H₁ S.glob) he fun H' vs _ r => by rw [List.nil_append]; exact hc H' vs r).run s Q E S hQ

/-- a method of a built-in type -/
theorem Ev.meth {o : PySem.Expr} {name : Str} {apos pos : Pos} {es : List PySem.Expr} {ds : List Dat} {T id : String} {a d : Dat} (ho : Ev prog w G l A env ρ μ o a) (pa : PlainAttrs T) (slot : Slot T name id)
    (hty : typeOf (.builtin id) = pure (.type "method_descriptor"))
    (hT : ∀ H v (s : Shared), St prog w G l A env ρ μ H s.heap → Rep prog w H v a → s.TypeIs v T ∧ (∀ b, v = .ref b → ∃ ob, s.heap.get? b = some ob ∧ ob.dict = none))
    (he : Evs prog w G l A env ρ μ es ds) (hc : ∀ H v vs, Rep prog w H v a → Reps prog w H vs ds → Tr prog w G l A env ρ μ H (call (.builtin id) (v :: vs)) fun H' r => Rep prog w H' r d)
    (hbase : attributeBase o name env (eval o env) = eval o env := by rfl) (hline : (apos.endLine == pos.line) = true := by rfl) (hn : es.length < 29 := by decide) :
    Ev prog w G l A env ρ μ (.Call (.Attribute o name apos) es [] pos) d := fun H => by
  rw [arm_eval_Call, hbase]
  refine (ho H).bind fun v H₁ k1 r1 => Tr.standAt ?_
  have hform : methodCallForm (es.length + ([] : List Keyword).length) (backTo pos (starEach es env)) (backToKw pos (keywordEach [] env)) = true := by
    have h1 := (he.run pos H₁).1
    show ((backTo pos (starEach es env)).all (fun x => !x.1) && ([] : List (Option Str × Sem Value)).all (fun x => x.1.isSome) && decide (es.length + 0 + 0 < 30)) = true
    have h2 : (backTo pos (starEach es env)).all (fun x => !x.1) = true := by
      rw [List.all_eq_not_any_not]
      simpa using h1
    rw [h2]
    simp; (first | lia -abstractProof | omega)
  have hpos : methodCallPos true o env apos pos = pure pos := by unfold methodCallPos; simp [hline]
  unfold methodCall
  rw [hform, hpos]
  refine ⟨fun s Q E S hQ => ?_⟩
  obtain ⟨t1, t2⟩ := hT H₁ v s S r1
  with_reducible refine wpAny_bind (wpAny_holding (getMethod_builtin t1 pa slot hty t2 ?_))
  dsimp only [pure_bind]
  exact (Tr.callWith (R := fun H' r => Rep prog w H' r d) (.plain (by intro _ e; cases e)) he fun H' vs k r => hc H' v vs (r1.mono k) r).run s Q E S hQ
end
end Mine
end
section
open PySem PySem.W PySem.Calls PyProof.Rows
set_option Elab.async false
set_option linter.unusedVariables false
namespace Mine
section
variable {prog : Program} {w : World} {G : GX} {l : List Env} {A : Around} {env : Env} {ρ ρ' : List (Str × Dat)} {μ μ' : List (Addr × MD)} {H H' : PH} {h h' : Heap}

/-! ## changes of the activation's own objects -/
theorem St.cell_ne_L (S : St prog w G l A env ρ μ H h) {x : Str} {c : Addr} (hm : (x, c) ∈ env.cells) : c ≠ env.locals := fun e => by
  obtain ⟨_, _, _, v, o, ho, hd⟩ := S.cells x c hm
  obtain ⟨m, ⟨oL, es, ep, hL, hLd, _⟩, _⟩ := S.loc
  rw [e, hL] at ho; cases ho
  rw [hLd] at hd; cases hd
theorem MRep.notCell {o : Obj} {v : Option Value} {md : MD} (x : MRep prog w H o md) (hd : o.data = .cell v) : False := by
  induction md with
  | list ds => obtain ⟨vs, n, e, _⟩ := x; subst e; cases hd
  | dict ps => obtain ⟨kvs, ⟨es, ep, _, hd', _⟩, _⟩ := x; rw [hd'] at hd; cases hd
  | ro md ih => exact ih x
theorem St.own_ne_cell (S : St prog w G l A env ρ μ H h) {p : Addr × MD} (hp : p ∈ μ) {x : Str} {c : Addr} (hm : (x, c) ∈ env.cells) : p.1 ≠ c := fun e => by
  obtain ⟨_, _, _, v, o, ho, hd⟩ := S.cells x c hm
  obtain ⟨_, _, _, _, o', ho', hr⟩ := S.own p hp
  rw [e, ho] at ho'; cases ho'
  obtain ⟨a, md⟩ := p
  exact hr.notCell hd
theorem Ext.sameBut {b : Addr} (x : Ext H h) (hb : H b = none) (hs : Heap.SameBut b h h') : Ext H h' := fun a o e =>
  (hs.2 a fun q => by rw [q, hb] at e; cases e).trans (x a o e)
theorem Step.sameBut {W : List Addr} {b : Addr} (x : Ext H h) (t : TabsOk G.tbs H h) (hb : H b = none) (hlo : b ∈ W) (ht : b ∉ G.tw) (hs : Heap.SameBut b h h') (al : ∃ o, h'.get? b = some o) : Step G l W H h H h' where
  le := Le.refl _
  ext := x.sameBut hb hs
  new := fun a o e => .inl e
  old := fun a o h2 h3 e => ⟨o.slots, (hs.2 a fun q => by subst q; exact h3 hlo).trans e, fun _ => rfl⟩
  alive := fun a o e => by
    by_cases q : a = b
    · subst q; exact al
    · exact ⟨o, (hs.2 a q).trans e⟩
  tabs := t.mono (Le.refl _) fun a o ha e => (hs.2 a fun q => ht (q ▸ ha)).trans e
theorem FrOk.sameBut {b : Addr} (F : FrOk G l H h) (hs : Heap.SameBut b h h') (hb : b ∉ frs l) : FrOk G l H h' := ⟨fun e he => by
  obtain ⟨h1, L, o, es, ep, h2, h3, h4⟩ := F.all e he
  exact ⟨h1, L, o, es, ep, h2, (hs.2 L fun q => hb (q ▸ List.mem_filterMap.mpr ⟨e, he, h2⟩)).trans h3, h4⟩⟩

/-- what an activation may write -/
noncomputable def wr (env : Env) (μ : List (Addr × MD)) : List Addr := env.locals :: ((env.cells.map (·.2)).filter (fun c => decide (env.locals < c)) ++ (μ.filter (·.2.w)).map (·.1))
theorem wr_L : env.locals ∈ wr env μ := .head _
theorem wr_cell {x : Str} {c : Addr} (h : (x, c) ∈ env.cells) (hl : env.locals < c) : c ∈ wr env μ := .tail _ (List.mem_append_left _ (List.mem_filter.mpr ⟨List.mem_map.mpr ⟨_, h, rfl⟩, decide_eq_true hl⟩))
theorem wr_own {p : Addr × MD} (h : p ∈ μ) (hw : p.2.w = true) : p.1 ∈ wr env μ := .tail _ (List.mem_append_right _ (List.mem_map_of_mem (List.mem_filter.mpr ⟨h, hw⟩)))
theorem wr_sub (h : MuLe μ h' μ') : ∀ a ∈ wr env μ', a ∈ wr env μ ∨ h'.get? a = none := fun a ha => by
  rcases List.mem_cons.mp ha with rfl | ha
  · exact .inl wr_L
  · rcases List.mem_append.mp ha with q | q
    · exact .inl (.tail _ (List.mem_append_left _ q))
    · obtain ⟨p, hp, rfl⟩ := List.mem_map.mp q
      obtain ⟨hp, hw⟩ := List.mem_filter.mp hp
      rcases h.own p hp hw with ⟨q, hq, e, hw'⟩ | z
      · rw [← e]; exact .inl (wr_own hq hw')
      · exact .inr z
/-- a local name is bound -/
theorem St.setLocal (S : St prog w G l A env ρ μ H h) {x : Str} {v : Value} {d : Dat} (hk : env.kindOf x = some .local) (r : Rep prog w H v d)
    {m : Str → Option Value} (hm : ∀ y d', ρ.lookup y = some d' → env.kindOf y = some .local → ∃ v', m y = some v' ∧ Rep prog w H v' d')
    (hn : h'.Ns env.locals fun y => if y = x then some v else m y) (hs : Heap.SameBut env.locals h h') : St prog w G l A env ((x, d) :: ρ) μ H h' ∧ Step G l (wr env μ) H h H h' := by
  have ht : env.locals ∉ G.tw := fun q => absurd (S.tlt q) (Nat.lt_irrefl _)
  have stp : Step G l (wr env μ) H h H h' := .sameBut S.ext S.tabs S.outL wr_L ht hs (let ⟨o, _, _, e, _⟩ := hn; ⟨o, e⟩)
  refine ⟨{ S with ext := stp.ext, tabs := stp.tabs, fr := ?_, loc := ⟨_, hn, ?_⟩, cel := ?_, cells := ?_, own := ?_ }, stp⟩
  · refine ⟨fun e he => ?_⟩
    obtain ⟨h1, L, o, es, ep, h2, h3, h4, h5⟩ := S.fr.all e he
    by_cases q : L = env.locals
    · obtain ⟨o', es', ep', e1, e2, _⟩ := hn
      exact ⟨h1, L, o', es', ep', h2, q ▸ e1, e2, h5⟩
    · exact ⟨h1, L, o, es, ep, h2, (hs.2 L q).trans h3, h4, h5⟩
  · intro y d' hy hky
    rw [List.lookup_cons] at hy
    by_cases q : y = x
    · subst q
      rw [beq_self_eq_true] at hy
      cases hy
      exact ⟨v, by rw [if_pos rfl], r⟩
    · rw [beq_eq_false_iff_ne.mpr q] at hy
      obtain ⟨v', e1, e2⟩ := hm y d' hy hky
      exact ⟨v', by rw [if_neg q]; exact e1, e2⟩
  · intro y d' hy hky
    rw [List.lookup_cons] at hy
    by_cases q : y = x
    · subst q; exact absurd hk hky
    · rw [beq_eq_false_iff_ne.mpr q] at hy
      obtain ⟨k, c, v', e1, ⟨o, ho, hd⟩, e3⟩ := S.cel y d' hy hky
      exact ⟨k, c, v', e1, ⟨o, (hs.2 c (S.cell_ne_L (mem_of_lookup e1))).trans ho, hd⟩, e3⟩
  · intro y c hm
    obtain ⟨e1, e2, e3, v', o, ho, hd⟩ := S.cells y c hm
    exact ⟨e1, e2, e3, v', o, (hs.2 c (S.cell_ne_L hm)).trans ho, hd⟩
  · intro p hp
    obtain ⟨e1, e2, e3, e4, o, ho, hr⟩ := S.own p hp
    exact ⟨e1, e2, e3, e4, o, (hs.2 p.1 e4).trans ho, hr⟩

/-- a name that comprehensions close over is bound -/
theorem St.setCell (S : St prog w G l A env ρ μ H h) {x : Str} {c : Addr} {v : Value} {d : Dat} (hk : env.kindOf x = some .cell) (hc : env.cells.lookup x = some c) (hL : env.locals < c) (r : Rep prog w H v d)
    (hn : h'.IsCell c (some v)) (hs : Heap.SameBut c h h') : St prog w G l A env ((x, d) :: ρ) μ H h' ∧ Step G l (wr env μ) H h H h' := by
  obtain ⟨c1, c2, _, v0, c4⟩ := S.cells x c (mem_of_lookup hc)
  have hF := cell_not_frame S.fr c4
  have ht : c ∉ G.tw := fun q => absurd (S.tout c q).2 (Nat.not_lt.mpr c2)
  have stp : Step G l (wr env μ) H h H h' := .sameBut S.ext S.tabs c1 (wr_cell (mem_of_lookup hc) hL) ht hs (let ⟨o, e, _⟩ := hn; ⟨o, e⟩)
  obtain ⟨m, hm, hv⟩ := S.loc
  refine ⟨{ S with ext := stp.ext, tabs := stp.tabs, fr := S.fr.sameBut hs hF, loc := ⟨m, hm.sameBut hs (Nat.ne_of_lt hL), ?_⟩, cel := ?_, cells := ?_, own := ?_ }, stp⟩
  · intro y d' hy hky
    rw [List.lookup_cons] at hy
    by_cases q : y = x
    · subst q; rw [hk] at hky; cases hky
    · rw [beq_eq_false_iff_ne.mpr q] at hy
      exact hv y d' hy hky
  · intro y d' hy hky
    rw [List.lookup_cons] at hy
    by_cases q : y = x
    · subst q
      rw [beq_self_eq_true] at hy
      cases hy
      exact ⟨.inl hk, c, v, hc, hn, r⟩
    · rw [beq_eq_false_iff_ne.mpr q] at hy
      obtain ⟨k, c', v', e1, ⟨o, ho, hd⟩, e3⟩ := S.cel y d' hy hky
      have hcc : c' ≠ c := fun e => q (name_of_addr S.apart (mem_of_lookup e1) (e ▸ mem_of_lookup hc))
      exact ⟨k, c', v', e1, ⟨o, (hs.2 c' hcc).trans ho, hd⟩, e3⟩
  · intro y c' hm'
    obtain ⟨e1, e2, e3, v', o, ho, hd⟩ := S.cells y c' hm'
    by_cases q : c' = c
    · subst q; exact ⟨e1, e2, e3, _, hn⟩
    · exact ⟨e1, e2, e3, v', o, (hs.2 c' q).trans ho, hd⟩
  · intro p hp
    obtain ⟨e1, e2, e3, e4, o, ho, hr⟩ := S.own p hp
    exact ⟨e1, e2, e3, e4, o, (hs.2 p.1 (S.own_ne_cell hp (mem_of_lookup hc))).trans ho, hr⟩

/-- an own object is written -/
theorem St.setOwn {a : Addr} {md md' : MD} {μ₁ μ₂ : List (Addr × MD)} {o' : Obj} (S : St prog w G l A env ρ (μ₁ ++ (a, md) :: μ₂) H h) (hw : md.w = true) (hn : h'.get? a = some o') (r : MRep prog w H o' md') (hs : Heap.SameBut a h h') :
    St prog w G l A env ρ (μ₁ ++ (a, md') :: μ₂) H h' ∧ Step G l (wr env (μ₁ ++ (a, md) :: μ₂)) H h H h' := by
  have hma : (a, md) ∈ μ₁ ++ (a, md) :: μ₂ := List.mem_append_right _ (.head _)
  obtain ⟨a1, a2, a3, a4, _⟩ := S.own _ hma
  have ht : a ∉ G.tw := fun q => absurd (S.tout a q).2 (Nat.not_lt.mpr a2)
  have stp : Step G l (wr env (μ₁ ++ (a, md) :: μ₂)) H h H h' := .sameBut S.ext S.tabs a1 (wr_own hma hw) ht hs ⟨_, hn⟩
  obtain ⟨m, hm, hv⟩ := S.loc
  have hnd : (μ₁.map (·.1) ++ a :: μ₂.map (·.1)).Nodup := by have q := S.nodup; rw [List.map_append, List.map_cons] at q; exact q
  refine ⟨{ S with ext := stp.ext, tabs := stp.tabs, fr := S.fr.sameBut hs a3, loc := ⟨m, hm.sameBut hs (Ne.symm a4), hv⟩, cel := ?_, cells := ?_, own := ?_, nodup := by rw [List.map_append, List.map_cons]; exact hnd }, stp⟩
  · intro y d' hy hky
    obtain ⟨k, c', v', e1, ⟨o, ho, hd⟩, e3⟩ := S.cel y d' hy hky
    exact ⟨k, c', v', e1, ⟨o, (hs.2 c' (Ne.symm (S.own_ne_cell hma (mem_of_lookup e1)))).trans ho, hd⟩, e3⟩
  · intro y c' hm'
    obtain ⟨e1, e2, e3, v', o, ho, hd⟩ := S.cells y c' hm'
    exact ⟨e1, e2, e3, v', o, (hs.2 c' (Ne.symm (S.own_ne_cell hma hm'))).trans ho, hd⟩
  · intro p hp
    have other : p ∈ μ₁ ∨ p ∈ μ₂ → (H p.1 = none ∧ G.hG.objs.size ≤ p.1 ∧ p.1 ∉ frs l ∧ p.1 ≠ env.locals ∧ ∃ o, h'.get? p.1 = some o ∧ MRep prog w H o p.2) := fun hp' => by
      have hpm : p ∈ μ₁ ++ (a, md) :: μ₂ := List.mem_append.mpr (hp'.imp id fun q => .tail _ q)
      obtain ⟨e1, e2, e3, e4, o, ho, hr⟩ := S.own p hpm
      have hne : p.1 ≠ a := fun e => by
        obtain ⟨n1, n2, n3⟩ := List.nodup_append.mp hnd
        rcases hp' with q | q
        · exact n3 p.1 (List.mem_map_of_mem q) a (.head _) e
        · exact (List.nodup_cons.mp n2).1 (e ▸ List.mem_map_of_mem (f := fun z : Addr × MD => z.1) q)
      exact ⟨e1, e2, e3, e4, o, (hs.2 p.1 hne).trans ho, hr⟩
    rcases List.mem_append.mp hp with q | q
    · exact other (.inl q)
    · rcases List.mem_cons.mp q with rfl | q
      · exact ⟨a1, a2, a3, a4, o', hn, r⟩
      · exact other (.inr q)

/-- a new own object -/
theorem St.newOwn (S : St prog w G l A env ρ μ H h) {o : Obj} {md : MD} (hf : o.isFreed = false) (r : MRep prog w H o md) :
    St prog w G l A env ρ ((h.objs.size, md) :: μ) H (h.push o) ∧ Step G l [] H h H (h.push o) := by
  have stp : Step G l [] H h H (h.push o) := Step.of S.tabs (Le.refl _) (S.ext.mono fun b o e => Heap.get?_push_of_some _ e) (fun _ _ e => .inl e) fun a o e => Heap.get?_push_of_some _ e
  have S' := S.step stp
  refine ⟨{ S' with own := ?_, nodup := ?_ }, stp⟩
  · intro p hp
    rcases List.mem_cons.mp hp with rfl | hp
    · exact ⟨S.ext.fresh (Nat.le_refl _), Nat.le_of_lt (Nat.lt_of_le_of_lt S.base S.ltL), fun q => absurd (S.frle _ q) (Nat.not_le.mpr S.ltL), Nat.ne_of_gt S.ltL, o, Heap.get?_push_size _ hf, r⟩
    · exact S'.own p hp
  · rw [List.map_cons]
    refine List.nodup_cons.mpr ⟨fun hm => ?_, S.nodup⟩
    obtain ⟨p, hp, e⟩ := List.mem_map.mp hm
    obtain ⟨_, _, _, _, o, ho, _⟩ := S.own p hp
    have e' : p.1 = h.objs.size := e
    exact absurd (Heap.lt_size ho) (by rw [e']; exact Nat.lt_irrefl _)

/-- an own object is written no more -/
theorem St.freeze {a : Addr} {md : MD} {μ₁ μ₂ : List (Addr × MD)} (S : St prog w G l A env ρ (μ₁ ++ (a, md) :: μ₂) H h) (hw : md.w = true) :
    ∃ o, MRep prog w H o md ∧ H a = none ∧ St prog w G l A env ρ (μ₁ ++ μ₂) (addO H a o) h ∧ Step G l (wr env (μ₁ ++ (a, md) :: μ₂)) H h (addO H a o) h := by
  have hma : (a, md) ∈ μ₁ ++ (a, md) :: μ₂ := List.mem_append_right _ (.head _)
  obtain ⟨a1, a2, a3, a4, o, ho, hr⟩ := S.own _ hma
  have k : Le H (addO H a o) := le_addO a1
  have stp : Step G l (wr env (μ₁ ++ (a, md) :: μ₂)) H h (addO H a o) h := ⟨k, S.ext.addO ho, fun b o' e => by
      by_cases q : b = a
      · exact .inr (.inr (by rw [q]; exact wr_own (p := (a, md)) hma hw))
      · rw [addO_ne q] at e; exact .inl e, fun b o' _ _ e => ⟨_, e, fun _ => rfl⟩, fun b o' e => ⟨_, e⟩, S.tabs.mono k fun _ _ _ e => e⟩
  obtain ⟨m, hm, hv⟩ := S.loc
  have hnd : (μ₁.map (·.1) ++ a :: μ₂.map (·.1)).Nodup := by have q := S.nodup; rw [List.map_append, List.map_cons] at q; exact q
  refine ⟨o, hr, a1, { S with ext := stp.ext, tabs := stp.tabs, hok := S.hok.mono k, glob := fun b o' e => k _ _ (S.glob b o' e), tout := ?_, fr := ?_, outL := by rw [addO_ne (Ne.symm a4)]; exact S.outL, loc := ⟨m, hm, fun x d hx hk => ?_⟩, cel := ?_, cells := ?_, own := ?_, nodup := ?_ }, stp⟩
  · intro b hb
    have hba : b ≠ a := fun q => absurd (S.tout b hb).2 (Nat.not_lt.mpr (q ▸ a2))
    rw [addO_ne hba]; exact S.tout b hb
  · refine ⟨fun e he => ?_⟩
    obtain ⟨h1, L, o', es, ep, h2, h3, h4, h5, h6⟩ := S.fr.all e he
    have hLa : L ≠ a := fun q => a3 (q ▸ List.mem_filterMap.mpr ⟨e, he, h2⟩)
    exact ⟨h1, L, o', es, ep, h2, h3, h4, by rw [addO_ne hLa]; exact h5, h6⟩
  · obtain ⟨v, e1, e2⟩ := hv x d hx hk
    exact ⟨v, e1, e2.mono k⟩
  · intro y d' hy hky
    obtain ⟨kk, c', v', e1, e2, e3⟩ := S.cel y d' hy hky
    exact ⟨kk, c', v', e1, e2, e3.mono k⟩
  · intro y c' hm'
    obtain ⟨e1, e2⟩ := S.cells y c' hm'
    exact ⟨by rw [addO_ne (Ne.symm (S.own_ne_cell hma hm'))]; exact e1, e2⟩
  · intro p hp
    have hpm : p ∈ μ₁ ++ (a, md) :: μ₂ := List.mem_append.mpr ((List.mem_append.mp hp).imp id fun q => .tail _ q)
    obtain ⟨e1, e2, e3, e4, o', ho', hr'⟩ := S.own p hpm
    have hne : p.1 ≠ a := fun e => by
      obtain ⟨n1, n2, n3⟩ := List.nodup_append.mp hnd
      rcases List.mem_append.mp hp with q | q
      · exact n3 p.1 (List.mem_map_of_mem q) a (.head _) e
      · exact (List.nodup_cons.mp n2).1 (e ▸ List.mem_map_of_mem (f := fun z : Addr × MD => z.1) q)
    exact ⟨by rw [addO_ne hne]; exact e1, e2, e3, e4, o', ho', hr'.mono k⟩
  · rw [List.map_append]
    obtain ⟨n1, n2, n3⟩ := List.nodup_append.mp hnd
    exact List.nodup_append.mpr ⟨n1, (List.nodup_cons.mp n2).2, fun x hx y hy => n3 x hx y (.tail _ hy)⟩
end
end Mine
end
section
open PySem PySem.W PySem.Calls PyProof.Rows
set_option Elab.async false
set_option linter.unusedVariables false
namespace Mine

section
variable (prog : Program) (w : World) (G : GX) (l : List Env) (A : Around) (env : Env)
/-- a tree that may change the activation -/
structure TS {α : Type} (H : PH) (t : Sem α) (ρ : Rho) (μ : Mu) (Φ : PH → α → Rho → Mu → Prop) : Prop where
  run : ∀ (s : Shared) (Q : α → Shared → Prop) (E : Value → Shared → Prop), St prog w G l A env ρ μ H s.heap →
    (∀ a ρ' μ' H' h' tk, St prog w G l A env ρ' μ' H' h' → Step G l (wr env μ) H s.heap H' h' → MuLe μ s.heap μ' → Φ H' a ρ' μ' → Q a { s with heap := h', toks := tk }) →
    wpAny (model prog w) A t Q E s
inductive AF where
  | next | brk | cont
  | ret (d : Dat)
inductive FRep (H : PH) : Flow → AF → Prop
  | next : FRep H .next .next
  | brk : FRep H .brk .brk
  | cont : FRep H .cont .cont
  | ret {v : Value} {d : Dat} : Rep prog w H v d → FRep H (.ret v) (.ret d)
noncomputable def WP (t : Sem Flow) (ρ : Rho) (μ : Mu) (Φ : AF → Rho → Mu → Prop) : Prop := ∀ H, TS prog w G l A env H t ρ μ fun H' f ρ' μ' => ∃ af, FRep prog w H' f af ∧ Φ af ρ' μ'
end
section
variable {prog : Program} {w : World} {G : GX} {l : List Env} {A : Around} {env : Env} {ρ ρ' : Rho} {μ μ' : Mu} {H : PH}
theorem TS.bind {α β : Type} {t : Sem α} {f : α → Sem β} {Φ : PH → α → Rho → Mu → Prop} {Ψ : PH → β → Rho → Mu → Prop} (h : TS prog w G l A env H t ρ μ Φ)
    (k : ∀ a H' ρ' μ', Le H H' → Φ H' a ρ' μ' → TS prog w G l A env H' (f a) ρ' μ' Ψ) : TS prog w G l A env H (t >>= f) ρ μ Ψ := by
  refine ⟨fun s Q E S hQ => ?_⟩
  with_reducible refine wpAny_bind (h.run s _ E S fun a ρ' μ' H' h' tk S' st hm hΦ => ?_)
  refine (k a H' ρ' μ' st.le hΦ).run _ Q E S' fun b ρ'' μ'' H'' h'' tk' S'' st' hm' hΨ => hQ b ρ'' μ'' H'' h'' tk' S'' (st.trans' st' (wr_sub hm)) (hm.trans hm' fun a q => dead_back st.alive q) hΨ
theorem TS.ofTr {α : Type} {t : Sem α} {R : PH → α → Prop} {Φ : PH → α → Rho → Mu → Prop} (h : Tr prog w G l A env ρ μ H t R) (k : ∀ H' a, Le H H' → R H' a → Φ H' a ρ μ) : TS prog w G l A env H t ρ μ Φ :=
  ⟨fun s Q E S hQ => h.run s Q E S fun a H' h' tk st hR => hQ a ρ μ H' h' tk (S.step st) (st.weakX fun _ q => nomatch q) .refl (k H' a st.le hR)⟩
theorem TS.pure {α : Type} {a : α} {Φ : PH → α → Rho → Mu → Prop} (h : Φ H a ρ μ) : TS prog w G l A env H (pure a) ρ μ Φ := .ofTr (R := fun H' a' => H' = H ∧ a' = a) (.pure ⟨rfl, rfl⟩) fun H' a' _ e => by obtain ⟨rfl, rfl⟩ := e; exact h
theorem TS.mono {α : Type} {t : Sem α} {Φ Ψ : PH → α → Rho → Mu → Prop} (h : TS prog w G l A env H t ρ μ Φ) (k : ∀ H' a ρ' μ', Le H H' → Φ H' a ρ' μ' → Ψ H' a ρ' μ') : TS prog w G l A env H t ρ μ Ψ :=
  ⟨fun s Q E S hQ => h.run s Q E S fun a ρ' μ' H' h' tk S' st hm hΦ => hQ a ρ' μ' H' h' tk S' st hm (k H' a ρ' μ' st.le hΦ)⟩
theorem TS.standAt {α : Type} {p : Pos} {f : Unit → Sem α} {Φ : PH → α → Rho → Mu → Prop} (h : TS prog w G l A env H (f ()) ρ μ Φ) : TS prog w G l A env H (standAt p >>= f) ρ μ Φ := by
  refine ⟨fun s Q E S hQ => ?_⟩
  with_reducible refine wpAny_bind (wpAny_standAt ?_)
  exact h.run s Q E S hQ
theorem TS.holding {α : Type} {vs : List Value} {t : Sem α} {Φ : PH → α → Rho → Mu → Prop} (h : TS prog w G l A env H t ρ μ Φ) : TS prog w G l A env H (holding vs t) ρ μ Φ := by
  refine ⟨fun s Q E S hQ => ?_⟩
  with_reducible refine wpAny_holding ?_
  exact h.run s Q E S hQ
theorem TS.bindTr {α β : Type} {t : Sem α} {f : α → Sem β} {R : PH → α → Prop} {Ψ : PH → β → Rho → Mu → Prop} (h : Tr prog w G l A env ρ μ H t R)
    (k : ∀ a H', Le H H' → R H' a → TS prog w G l A env H' (f a) ρ μ Ψ) : TS prog w G l A env H (t >>= f) ρ μ Ψ :=
  (TS.ofTr (Φ := fun H' a ρ' μ' => R H' a ∧ ρ' = ρ ∧ μ' = μ) h fun _ _ _ r => ⟨r, rfl, rfl⟩).bind fun a H' ρ' μ' k' ⟨r, e1, e2⟩ => by subst e1; subst e2; exact k a H' k' r
/-- begin again from less -/
theorem TS.weak {α : Type} {t : Sem α} {Φ : PH → α → Rho → Mu → Prop} (h : TS prog w G l A env H t ρ' μ Φ) (hs : ∀ x d', ρ'.lookup x = some d' → ∃ d, ρ.lookup x = some d ∧ ∀ v, Rep prog w H v d → Rep prog w H v d') : TS prog w G l A env H t ρ μ Φ :=
  ⟨fun s Q E S hQ => h.run s Q E (S.weak hs) hQ⟩

/-- a name is bound -/
theorem TS.store {x : Str} {v : Value} {d : Dat} {Φ : PH → Unit → Rho → Mu → Prop} (hk : env.kindOf x = some .local ∨ (env.kindOf x = some .cell ∧ env.frame = some env.locals)) (r : Rep prog w H v d)
    (h : Φ H () ((x, d) :: ρ) μ) : TS prog w G l A env H (storeName env x v) ρ μ Φ := by
  refine ⟨fun s Q E S hQ => ?_⟩
  rcases hk with hk | ⟨hk, hf⟩
  · obtain ⟨m, hm, hv⟩ := S.loc
    have hp : (env.scope.kind == .class || (env.scope.kind == .module && env.locals != env.globals)) = false := by rw [S.kind]; rfl
    with_reducible refine wpAny_storeName_local hk hm (fun h' hn hs => ?_) hp
    obtain ⟨S', st⟩ := S.setLocal hk r hv hn hs
    exact hQ () _ _ H h' _ S' st .refl h
  · obtain ⟨c, hc⟩ := Option.isSome_iff_exists.mp (S.cdom hf x hk)
    obtain ⟨_, _, hL, v0, hv0⟩ := S.cells x c (mem_of_lookup hc)
    with_reducible refine wpAny_storeName_cell S.kind hk hc hv0 fun h' hn hs => ?_
    obtain ⟨S', st⟩ := S.setCell hk hc (hL hf hk) r hn hs
    exact hQ () _ _ H h' _ S' st .refl h
theorem TS.bindName {x : Str} {v : Value} {d : Dat} {Φ : PH → Unit → Rho → Mu → Prop} (hk : env.kindOf x = some .local ∨ (env.kindOf x = some .cell ∧ env.frame = some env.locals)) (r : Rep prog w H v d)
    (h : Φ H () ((x, d) :: ρ) μ) : TS prog w G l A env H (bindName env x v) ρ μ Φ := by
  refine ⟨fun s Q E S hQ => ?_⟩
  with_reducible refine wpAny_bindName ?_
  exact (TS.store hk r h).run s Q E S hQ

/-! ### statements -/
theorem WP.nil {Φ : AF → Rho → Mu → Prop} (h : Φ .next ρ μ) : WP prog w G l A env (execs [] env) ρ μ Φ := fun H => by
  rw [execs_nil]
  exact TS.pure ⟨.next, .next, h⟩
theorem WP.cons {st : Stmt} {rest : List Stmt} {Φ : AF → Rho → Mu → Prop}
    (h : WP prog w G l A env (exec st env) ρ μ fun af ρ' μ' => match af with | .next => WP prog w G l A env (execs rest env) ρ' μ' Φ | af => Φ af ρ' μ') : WP prog w G l A env (execs (st :: rest) env) ρ μ Φ := fun H => by
  rw [execs_cons]
  refine (h H).bind fun f H' ρ' μ' k hf => ?_
  obtain ⟨af, hr, hΦ⟩ := hf
  cases hr with
  | next => exact hΦ H'
  | brk => exact TS.pure ⟨_, .brk, hΦ⟩
  | cont => exact TS.pure ⟨_, .cont, hΦ⟩
  | ret r => exact TS.pure ⟨_, .ret r, hΦ⟩
theorem WP.mono {t : Sem Flow} {Φ Ψ : AF → Rho → Mu → Prop} (h : WP prog w G l A env t ρ μ Φ) (k : ∀ a ρ' μ', Φ a ρ' μ' → Ψ a ρ' μ') : WP prog w G l A env t ρ μ Ψ := fun H =>
  (h H).mono fun H' a ρ' μ' _ ⟨af, r, h⟩ => ⟨af, r, k _ _ _ h⟩
theorem WP.weak {t : Sem Flow} {Φ : AF → Rho → Mu → Prop} (h : WP prog w G l A env t ρ' μ Φ) (hs : ∀ x d', ρ'.lookup x = some d' → ρ.lookup x = some d') : WP prog w G l A env t ρ μ Φ := fun H =>
  (h H).weak fun x d' hx => ⟨d', hs x d' hx, fun _ r => r⟩
theorem WP.ret {e : PySem.Expr} {pos : Pos} {d : Dat} {Φ : AF → Rho → Mu → Prop} (h : Ev prog w G l A env ρ μ e d) (k : Φ (.ret d) ρ μ) : WP prog w G l A env (exec (.Return (some e) pos) env) ρ μ Φ := fun H => by
  rw [exec_Return_some]
  exact TS.standAt (.bindTr (h H) fun v H' _ r => TS.pure ⟨_, .ret r, k⟩)
theorem WP.ifs {t : PySem.Expr} {b : Bool} {body orelse : List Stmt} {pos : Pos} {Φ : AF → Rho → Mu → Prop} (h : EvT prog w G l A env ρ μ t b) (k₁ : b = true → WP prog w G l A env (execs body env) ρ μ Φ) (k₂ : b = false → WP prog w G l A env (execs orelse env) ρ μ Φ) :
    WP prog w G l A env (exec (.If t body orelse pos) env) ρ μ Φ := fun H => by
  rw [exec_If]
  refine TS.standAt (.bindTr (h H) fun v H' _ r => ?_)
  subst r
  cases v
  · exact k₂ rfl H'
  · exact k₁ rfl H'
/-- x = e, where the value may lay own objects -/
theorem WP.assignTS {x : Str} {xp : Pos} {value : PySem.Expr} {pos : Pos} {Ψ : Dat → Rho → Mu → Prop} {Φ : AF → Rho → Mu → Prop}
    (h : ∀ H, TS prog w G l A env H (eval value env) ρ μ fun H' v ρ' μ' => ∃ d, Rep prog w H' v d ∧ Ψ d ρ' μ') (k : ∀ d ρ' μ', Ψ d ρ' μ' → Φ .next ((x, d) :: ρ') μ')
    (hk : env.kindOf x = some .local ∨ (env.kindOf x = some .cell ∧ env.frame = some env.locals)) (hs : swapsWith value (some (.Name x xp)) pos.line env = pure false := by rfl) :
    WP prog w G l A env (exec (.Assign [.Name x xp] value pos) env) ρ μ Φ := fun H => by
  rw [exec_Assign_Name env x xp value pos hs]
  refine TS.standAt ((h H).bind fun v H' ρ' μ' _ ⟨d, r, hΨ⟩ => TS.standAt ?_)
  exact (TS.bindName (Φ := fun H'' _ ρ'' μ'' => ρ'' = (x, d) :: ρ' ∧ μ'' = μ') hk r ⟨rfl, rfl⟩).bind fun _ H'' ρ'' μ'' _ ⟨e1, e2⟩ => by subst e1; subst e2; exact TS.pure ⟨_, .next, k _ _ _ hΨ⟩
theorem WP.assign {x : Str} {xp : Pos} {value : PySem.Expr} {pos : Pos} {d : Dat} {Φ : AF → Rho → Mu → Prop} (h : Ev prog w G l A env ρ μ value d) (k : Φ .next ((x, d) :: ρ) μ)
    (hk : env.kindOf x = some .local ∨ (env.kindOf x = some .cell ∧ env.frame = some env.locals) := by first | exact .inl rfl | exact .inr ⟨rfl, rfl⟩) (hs : swapsWith value (some (.Name x xp)) pos.line env = pure false := by rfl) :
    WP prog w G l A env (exec (.Assign [.Name x xp] value pos) env) ρ μ Φ :=
  .assignTS (Ψ := fun d' ρ' μ' => d' = d ∧ ρ' = ρ ∧ μ' = μ) (fun H => .ofTr (h H) fun H' v _ r => ⟨d, r, rfl, rfl, rfl⟩) (fun d' ρ' μ' ⟨e1, e2, e3⟩ => by subst e1; subst e2; subst e3; exact k) hk hs
/-- x op= e, of ints and of whatever else gives a value -/
theorem WP.aug {x : Str} {xp : Pos} {op : Operator} {value : PySem.Expr} {pos : Pos} {a b d : Dat} {Φ : AF → Rho → Mu → Prop} (hx : ρ.lookup x = some a) (h : Ev prog w G l A env ρ μ value b)
    (hop : ∀ H va vb, Rep prog w H va a → Rep prog w H vb b → Tr prog w G l A env ρ μ H (inplaceOp op va vb) fun H' v => Rep prog w H' v d) (k : Φ .next ((x, d) :: ρ) μ)
    (hk : env.kindOf x = some .local ∨ (env.kindOf x = some .cell ∧ env.frame = some env.locals) := by first | exact .inl rfl | exact .inr ⟨rfl, rfl⟩) (hd : (x == ("__debug__" : Str)) = false := by decide) (hn : (x == ("__classdict__" : Str)) = false := by decide) :
    WP prog w G l A env (exec (.AugAssign (.Name x xp) op value pos) env) ρ μ Φ := fun H => by
  rw [exec_AugAssign_Name]
  have hname : Tr prog w G l A env ρ μ H (loadName env x) fun H' v => Rep prog w H' v a := by
    refine ⟨fun s Q E S hQ => ?_⟩
    by_cases hk : env.kindOf x = some .local
    · obtain ⟨m, hm, hv⟩ := S.loc
      obtain ⟨v, h1, h2⟩ := hv x a hx hk
      with_reducible refine wpAny_loadName_local S.kind hk hm h1 ?_
      exact hQ v H s.heap s.toks (.refl S.ext S.tabs) h2
    · obtain ⟨hk', c, v, h1, h2, h3⟩ := S.cel x a hx hk
      have q := hQ v H s.heap s.toks (.refl S.ext S.tabs) h3
      rcases hk' with hk' | hk'
      · with_reducible exact wpAny_loadName_cell S.kind hk' h1 h2 q
      · with_reducible exact wpAny_loadName_free S.kind hk' h1 h2 q hn
  refine TS.standAt (.bindTr hname fun va H₁ k1 r1 => .bindTr (h H₁).holding fun vb H₂ k2 r2 => TS.standAt (.bindTr (Tr.operate (hop H₂ va vb (r1.mono k2) r2)) fun v H₃ k3 r3 => TS.standAt ?_))
  exact (TS.bindName (Φ := fun H'' _ ρ'' μ'' => ρ'' = (x, d) :: ρ ∧ μ'' = μ) hk r3 ⟨rfl, rfl⟩).bind fun _ H'' ρ'' μ'' _ ⟨e1, e2⟩ => by subst e1; subst e2; exact TS.pure ⟨_, .next, k⟩
theorem iaddSem {a b : Int} : ∀ H va vb, Rep prog w H va (.int a) → Rep prog w H vb (.int b) → Tr prog w G l A env ρ μ H (inplaceOp .Add va vb) fun H' v => Rep prog w H' v (.int (a + b)) := fun H va vb ra rb => by
  cases ra; cases rb
  exact Tr.mkInt fun s Q E hq => by with_reducible exact iadd_int hq
end
end Mine
end
section
open PySem PySem.W PySem.Calls PyProof.Rows
set_option Elab.async false
set_option linter.unusedVariables false
namespace Mine
section
variable {prog : Program} {w : World} {A : Around} {E : Value → Shared → Prop} {s : Shared} {H : PH}

theorem entry_unchain : entryFor table "proto.unchain" = some Builtin.«proto.unchain» := entryFor_of_tree (by kernel_rfl)

/-- a new StopIteration, whatever is being handled -/
theorem wpAny_stop {α : Type} {Q : α → Shared → Prop} (hok : HOk A H) (x : Ext H s.heap)
    (k : ∀ h' e, (∀ b o, s.heap.get? b = some o → h'.get? b = some o) → (∃ o, h'.get? e = some o ∧ o.cls = .type "StopIteration") → E (.ref e) { s with heap := h' }) :
    wpAny (model prog w) A (newExc (.type "StopIteration") [] >>= fun e => (raiseNew e : Sem α)) Q E s := by
  refine wpAny_bind ?_
  simp only [newExc, newTuple]
  with_reducible refine wpAny_bind ?_
  refine wpAny_newObj_type ?_ (by size_fits)
  refine wpAny_bind (m := firstArgMember _ _) (wpAny_of_eq (a := Value.none) (by first | rfl | (simp only [firstArgMember]; rfl)) ?_)
  refine wpAny_newObj_type ?_ (by size_fits)
  dsimp only
  generalize hh1 : s.heap.push { cls := .type "tuple", data := .seq ([] : List Value).toArray } = h1
  have k1 : ∀ b o, s.heap.get? b = some o → h1.get? b = some o := fun b o e => by rw [← hh1]; exact Heap.get?_push_of_some _ e
  generalize hdt : (Data.fields _ : Data) = dt
  generalize ho : ({ cls := .type "StopIteration", data := dt } : Obj) = oe
  have hd : ∃ vs, oe.data = .fields vs := by subst ho; subst hdt; exact ⟨_, rfl⟩
  have hsz : ∀ vs, oe.data = .fields vs → 2 < vs.size := fun vs e => by subst ho; subst hdt; cases e; show 2 < 6; (first | lia | omega)
  have hc : oe.cls = .type "StopIteration" := by subst ho; rfl
  have hfr : oe.isFreed = false := by subst ho; subst hdt; rfl
  clear ho hdt
  have he := Heap.get?_push_size h1 hfr
  have k2 : ∀ b o, s.heap.get? b = some o → (h1.push oe).get? b = some o := fun b o e => Heap.get?_push_of_some _ (k1 b o e)
  delta raiseNew
  dsimp only
  with_reducible refine wpAny_bind (wpAny_handled ?_)
  rcases hok with hn | ⟨h, oh, vs, hs, hH, hdh, hx⟩
  · rw [hn]
    dsimp only
    with_reducible refine wpAny_throw ?_
    exact k _ _ k2 ⟨_, he, hc⟩
  · rw [hs]
    have hne : (Value.ref h != Value.ref h1.objs.size) = true := by
      rw [bne_iff_ne]
      intro e
      injection e with e
      have h2 := k1 _ _ (x _ _ hH)
      rw [e] at h2
      exact absurd (Heap.lt_size h2) (Nat.lt_irrefl _)
    dsimp only
    rw [if_pos hne]
    have hh : (h1.push oe).get? h = some oh := k2 _ _ (x _ _ hH)
    with_reducible refine wpAny_bind ?_
    with_reducible refine wpAny_holding ?_
    with_reducible refine wpAny_runValue ?_
    with_reducible refine codeAny_builtin entry_unchain ?_
    have e0 : Builtin.«proto.unchain» ⟨[.ref h1.objs.size, .ref h, .ref h, .bool false], []⟩ = (do
        let context ← field (.ref h) 2
        if context == .none then return ← ret .none
        if context == .ref h1.objs.size then
          rule "raise.context-cycle-cut"
          setField (.ref h) 2 .none
          return ← ret .none
        if context == .ref h then rule "raise.context-old-cycle"; return ← ret .none
        let slow ← if false then field (.ref h) 2 else pure (.ref h)
        again (.builtin "proto.unchain" ⟨[.ref h1.objs.size, context, slow, .bool !false], []⟩)) := rfl
    rw [e0]
    with_reducible refine wpAny_bind (wpAny_field hh hdh hx ?_)
    dsimp only
    rw [if_pos (by rfl)]
    rw [show (ret Value.none : Sem Fin) = pure (.done (.ret .none)) from rfl]
    with_reducible refine wpAny_pure ?_
    dsimp only
    obtain ⟨vs', hd'⟩ := hd
    rw [show (do updateField h1.objs.size 2 (Value.ref h); throw (Value.ref h1.objs.size) : Sem α) = (setField (.ref h1.objs.size) 2 (.ref h) >>= fun _ => throw (Value.ref h1.objs.size)) from rfl]
    with_reducible refine wpAny_bind (wpAny_setField he hd' (hsz _ hd') ?_)
    with_reducible refine wpAny_throw ?_
    refine k _ _ (fun b o e => ?_) ⟨_, Heap.get?_update_self _ he (Obj.isFreed_of_fields (Obj.data_mapFields hd' _)), (Obj.cls_mapFields ..).trans hc⟩
    have hb : b ≠ h1.objs.size := fun q => by
      have := k1 _ _ e
      rw [q] at this
      exact absurd (Heap.lt_size this) (Nat.lt_irrefl _)
    exact (Heap.get?_update_other _ _ (Ne.symm hb)).trans (k2 _ _ e)
end
end Mine
end
section
open PySem PySem.W PySem.Calls PyProof.Rows
set_option Elab.async false
set_option linter.unusedVariables false
namespace Mine
section
variable {prog : Program} {w : World} {A : Around} {E : Value → Shared → Prop} {s : Shared} {H : PH}
theorem HOk.in1 (x : HOk A H) : HOk A.in1 H := x
theorem next_tuple_endH {it t : Addr} {i : Nat} {items} {Q : Option Value → Shared → Prop} (hok : HOk A H) (x : Ext H s.heap) (hi : H it = none)
    (hit : IsTupIter s.heap it t i) (ht : IsTup s.heap t items) (hx : items[i]? = none)
    (hQ : ∀ h', Heap.ExtBut it s.heap h' → Q none { s with heap := h' }) : wpAny (model prog w) A (pyNext (.ref it)) Q E s := by
  obtain ⟨o, ho, hc, hd⟩ := id hit
  obtain ⟨ol, hol, _, nl, hdl⟩ := ht
  unfold pyNext
  refine wpAny_bind (wpAny_attempt (wpAny_callSpecial?_slot (name := Str.ofString "__next__") hit.typeIs slot_tupleiter_next
    (wpAny_call_entry slot_tupleiter_next hit.typeIs entry_tupleiter_next ?_ (args_tupleiter_next _))))
  show wpAny _ _ (field (.ref it) 0 >>= _) _ _ s
  with_reducible refine wpAny_bind (wpAny_field ho hd (x := .ref t) rfl ?_)
  show wpAny _ _ (if (Value.ref t == Value.none) = true then _ else _) _ _ s
  rw [if_neg (show ¬ ((Value.ref t == Value.none) = true) from Bool.false_ne_true)]
  show wpAny _ _ (field (.ref it) 1 >>= _) _ _ s
  with_reducible refine wpAny_bind (wpAny_field ho hd (x := .int i 0) rfl ?_)
  show wpAny _ _ (seqItems? (.ref t) >>= _) _ _ s
  with_reducible refine wpAny_bind (wpAny_seqItems hol hdl ?_)
  simp only [Int.toNat_natCast, hx]
  with_reducible refine wpAny_bind (wpAny_rule (wpAny_bind ?_))
  refine wpAny_setField ho hd (by simp) ?_
  refine wpAny_stop (H := H) hok.in1 ?_ fun h' e k he => ?_
  · exact x.sameBut hi (Heap.SameBut.update ..)
  · refine wpAny_bind (wpAny_isInstance (T := "StopIteration") (b := true) he isSubtype_stop ?_)
    exact wpAny_pure (hQ _ fun b o hb e' => k b o ((Heap.SameBut.update s.heap it _).extBut b o hb e'))
theorem unpackItems_tupleH {t : Addr} {items : Array Value} {Q : List Value → Shared → Prop} (hok : HOk A H) (x : Ext H s.heap) (ht : IsTup s.heap t items)
    (hQ : ∀ h', Heap.ExtBut s.heap.objs.size s.heap h' → Q items.toList { s with heap := h' }) : wpAny (model prog w) A (unpackItems (.ref t) items.size none) Q E s := by
  have hlt : t ≠ s.heap.objs.size := by obtain ⟨o, ho, _⟩ := ht; exact Nat.ne_of_lt (Heap.lt_size ho)
  unfold unpackItems
  with_reducible refine wpAny_bind ?_
  · unfold notIterableAtAll
    refine wpAny_bind (wpAny_specialOf ht.typeIs slot_tuple_iter.lookup ?_)
    refine wpAny_pure ?_
    simp only [Bool.false_eq_true, if_false]
    with_reducible refine wpAny_bind (wpAny_holding (iter_tuple ht ?_))
    have hnew : IsTupIter (s.heap.push { cls := .type "tuple_iterator", data := .fields #[.ref t, .int 0 0] }) s.heap.objs.size t 0 := ⟨_, Heap.get?_push_size _ rfl, rfl, rfl⟩
    with_reducible refine wpAny_bind (wpAny_holding (draw_tuple hlt items.size 0 _ _ hnew (ht.push _) (by (first | lia | omega)) fun h₁ hit₁ hs₁ => ?_))
    have hall : List.take items.size (List.drop 0 items.toList) = items.toList := by
      rw [List.drop_zero]; exact List.take_of_length_le (by simp)
    rw [hall]
    rw [if_neg (by simp)]
    have ht₁ : IsTup h₁ t items := (ht.push _).extBut hs₁.extBut hlt
    have x₁ : Ext H h₁ := (x.mono fun b o e => Heap.get?_push_of_some _ e).sameBut (x.fresh (Nat.le_refl _)) hs₁
    with_reducible refine wpAny_bind (wpAny_holding (next_tuple_endH (H := H) hok x₁ (x.fresh (Nat.le_refl _)) hit₁ ht₁ (by simp) fun h₂ he₂ => ?_))
    simp only [Option.isSome_none, Bool.false_eq_true, if_false]
    with_reducible refine wpAny_pure ?_
    exact hQ h₂ fun b o hb e => he₂ b o hb (hs₁.extBut b o hb (Heap.get?_push_of_some _ e))
end
end Mine
end
section
open PySem PySem.W PySem.Calls PyProof.Rows
set_option Elab.async false
set_option linter.unusedVariables false
namespace Mine
section
variable {prog : Program} {w : World} {G : GX} {l : List Env} {A : Around} {env : Env} {ρ ρ' ρ'' : Rho} {μ μ' : Mu} {H : PH}

/-! ### binding a target -/
noncomputable def Bnd (env : Env) (x : Str) : Prop := env.kindOf x = some .local ∨ (env.kindOf x = some .cell ∧ env.frame = some env.locals) ∨ (env.kindOf x = some .cell ∧ ∃ c, env.cells.lookup x = some c ∧ env.locals < c)
inductive Targs (env : Env) : List PySem.Expr → List Dat → Rho → Rho → Prop
  | nil {ρ : Rho} : Targs env [] [] ρ ρ
  | cons {x : Str} {pos : Pos} {d : Dat} {es : List PySem.Expr} {ds : List Dat} {ρ ρ' : Rho} (h : Targs env es ds ((x, d) :: ρ) ρ') (hk : Bnd env x := by first | exact .inl rfl | exact .inr (.inl ⟨rfl, rfl⟩) | exact .inr (.inr ⟨rfl, _, rfl, Nat.lt_succ_self _⟩)) : Targs env (.Name x pos :: es) (d :: ds) ρ ρ'
inductive Targ (env : Env) : PySem.Expr → Dat → Rho → Rho → Prop
  | name {x : Str} {pos : Pos} {d : Dat} {ρ : Rho} (hk : Bnd env x := by first | exact .inl rfl | exact .inr (.inl ⟨rfl, rfl⟩) | exact .inr (.inr ⟨rfl, _, rfl, Nat.lt_succ_self _⟩)) : Targ env (.Name x pos) d ρ ((x, d) :: ρ)
  | tup {es : List PySem.Expr} {k : Nat} {pos : Pos} {ds : List Dat} {ρ ρ' : Rho} (h : Targs env es ds ρ ρ') : Targ env (.Tuple es k pos) (.tup ds) ρ ρ'
/-- what an iterator brings for a target -/
noncomputable def isTupT : PySem.Expr → Bool
  | .Tuple .. => true
  | _ => false
noncomputable def TItm (prog : Program) (w : World) (target : PySem.Expr) (H : PH) (h : Heap) (v : Value) (d : Dat) : Prop :=
  (isTupT target = true → ∃ T vs ds, v = .ref T ∧ d = .tup ds ∧ IsTup h T (List.toArray vs) ∧ Reps prog w H vs ds) ∧ (isTupT target = false → Rep prog w H v d)
theorem TItm.mono {target : PySem.Expr} {H' : PH} {h h' : Heap} {v : Value} {d : Dat} (k : Le H H') (e : ∀ b o, h.get? b = some o → h'.get? b = some o) (x : TItm prog w target H h v d) : TItm prog w target H' h' v d := by
  refine ⟨fun q => ?_, fun q => (x.2 q).mono k⟩
  obtain ⟨T, vs, ds, h1, h2, ⟨o, ho, r⟩, h4⟩ := x.1 q
  exact ⟨T, vs, ds, h1, h2, ⟨o, e _ _ ho, r⟩, h4.mono k⟩
theorem TItm.of {target : PySem.Expr} {h : Heap} {v : Value} {d : Dat} (x : Ext H h) (r : Rep prog w H v d) (hd : isTupT target = true → ∃ ds, d = .tup ds) : TItm prog w target H h v d := by
  refine ⟨fun q => ?_, fun _ => r⟩
  obtain ⟨ds, rfl⟩ := hd q
  cases r with
  | tup e r => exact ⟨_, _, _, rfl, rfl, x.isTup e, r⟩
theorem TItm.ofRep {target : PySem.Expr} {h : Heap} {v : Value} {ds : List Dat} (x : Ext H h) (r : Rep prog w H v (.tup ds)) : TItm prog w target H h v (.tup ds) := .of x r fun _ => ⟨_, rfl⟩

/-- a name is bound: one of the activation's, or a cell of a comprehension's own -/
theorem TS.bindB {x : Str} {v : Value} {d : Dat} {Φ : PH → Unit → Rho → Mu → Prop} (hk : Bnd env x) (r : Rep prog w H v d) (h : Φ H () ((x, d) :: ρ) μ) : TS prog w G l A env H (PySem.bindName env x v) ρ μ Φ := by
  rcases hk with hk | hk | ⟨hk, c, hc, hL⟩
  · exact TS.bindName (.inl hk) r h
  · exact TS.bindName (.inr hk) r h
  · refine ⟨fun s Q E S hQ => ?_⟩
    with_reducible refine wpAny_bindName ?_
    obtain ⟨_, _, _, v0, hv0⟩ := S.cells x c (mem_of_lookup hc)
    with_reducible refine wpAny_storeName_cell S.kind hk hc hv0 fun h' hn hs => ?_
    obtain ⟨S', st⟩ := S.setCell hk hc hL r hn hs
    exact hQ () _ _ H h' _ S' st .refl h
theorem Targs.run {es : List PySem.Expr} {ds : List Dat} (h : Targs env es ds ρ ρ') : ∀ {H : PH} {vs : List Value}, Reps prog w H vs ds →
    (assignEach es env).length = vs.length ∧ (assignEach es env).findIdx? (·.1) = none ∧
    TS prog w G l A env H (assignInOrder ((assignEach es env).map (·.2)) vs) ρ μ fun H' _ ρ'' μ'' => H' = H ∧ ρ'' = ρ' ∧ μ'' = μ := by
  induction h with
  | nil =>
    intro H vs r
    cases r
    exact ⟨rfl, rfl, TS.pure ⟨rfl, rfl, rfl⟩⟩
  | @cons x pos d es ds ρ ρ' h hk ih =>
    intro H vs r
    cases r with
    | @cons v _ vs _ rv rs =>
      obtain ⟨h1, h2, h3⟩ := ih rs
      refine ⟨congrArg (· + 1) h1, ?_, ?_⟩
      · show List.findIdx? (·.1) ((false, assign (.Name x pos) env) :: assignEach es env) = none
        rw [List.findIdx?_cons, h2]; rfl
      · show TS prog w G l A env H (do holding vs (assign (.Name x pos) env v); assignInOrder ((assignEach es env).map (·.2)) vs) ρ μ _
        have hb : TS prog w G l A env H (assign (.Name x pos) env v) ρ μ fun H' _ ρ'' μ'' => H' = H ∧ ρ'' = (x, d) :: ρ ∧ μ'' = μ := by
          rw [PySem.assign_Name]
          exact TS.standAt (TS.bindB hk rv ⟨rfl, rfl, rfl⟩)
        refine (TS.holding hb).bind fun _ H' ρ₁ μ₁ k hx9 => ?_
        obtain ⟨e1, e2, e3⟩ := hx9
        subst e1; subst e2; subst e3
        exact h3
theorem assign_run {target : PySem.Expr} {d : Dat} {s : Shared} {v : Value} {Q : Unit → Shared → Prop} {E : Value → Shared → Prop} (ht : Targ env target d ρ ρ') (S : St prog w G l A env ρ μ H s.heap) (r : TItm prog w target H s.heap v d)
    (hQ : ∀ h' tk, St prog w G l A env ρ' μ H h' → Step G l (wr env μ) H s.heap H h' → Q () { s with heap := h', toks := tk }) : wpAny (model prog w) A (assign target env v) Q E s := by
  cases ht with
  | @name x pos d ρ hk =>
    have r : Rep prog w H v d := r.2 rfl
    have hb : TS prog w G l A env H (assign (.Name x pos) env v) ρ μ fun H' _ ρ'' μ'' => H' = H ∧ ρ'' = (x, d) :: ρ ∧ μ'' = μ := by
      rw [PySem.assign_Name]
      exact TS.standAt (TS.bindB hk r ⟨rfl, rfl, rfl⟩)
    refine hb.run s Q E S fun a ρ₁ μ₁ H₁ h₁ tk S₁ st _ hx9 => ?_
    obtain ⟨e1, e2, e3⟩ := hx9
    subst e1; subst e2; subst e3
    exact hQ h₁ tk S₁ st
  | @tup es k pos ds ρ ρ' h =>
    obtain ⟨T, vs, ds', rfl, e, hT, rs⟩ := r.1 rfl
    cases e
    obtain ⟨h1, h2, h3⟩ := h.run (prog := prog) (w := w) (G := G) (l := l) (A := A) (μ := μ) rs
    have e0 : assign (.Tuple es k pos) env (.ref T) = (do standAt pos; let vs ← holding [.ref T] (unpackItems (.ref T) (assignEach es env).length ((assignEach es env).findIdx? (·.1))); assignInOrder ((assignEach es env).map (·.2)) vs) := by
      rw [arm_assign_Tuple]; rfl
    rw [e0, h1, h2]
    with_reducible refine wpAny_bind (wpAny_standAt (wpAny_bind (wpAny_holding ?_)))
    have e1 : vs.length = vs.toArray.size := by simp
    rw [e1]
    with_reducible refine unpackItems_tupleH S.hok S.ext hT fun h₁ hs₁ => ?_
    have old : ∀ b o, s.heap.get? b = some o → h₁.get? b = some o := fun b o e => hs₁ b o (Nat.ne_of_lt (Heap.lt_size e)) e
    have st₁ : Step G l [] H s.heap H h₁ := Step.of S.tabs (Le.refl _) (S.ext.mono old) (fun _ _ e => .inl e) old
    have S₁ := S.step st₁
    refine h3.run _ _ E S₁ fun a ρ₁ μ₁ H₁ h₂ tk S₂ st _ hx9 => ?_
    obtain ⟨e1, e2, e3⟩ := hx9
    subst e1; subst e2; subst e3
    exact hQ h₂ tk S₂ ((st₁.weakX fun _ q => nomatch q).trans' st fun a ha => .inl ha)

end
end Mine
end
section
open PySem PySem.W PySem.Calls PyProof.Rows
set_option Elab.async false
set_option linter.unusedVariables false
namespace Mine
section
variable {prog : Program} {w : World} {G : GX} {l : List Env} {A : Around} {env : Env} {ρ ρ' ρ'' : Rho} {μ μ' : Mu} {H H' H₀ : PH} {h h' h₀ : Heap}

/-- addresses that were not alive are none of the activation's -/
structure Apart (G : GX) (l : List Env) (env : Env) (W : List Addr) : Prop where
  tw : ∀ b ∈ W, b ∉ G.tw
  L : ∀ b ∈ W, b ≠ env.locals
  cell : ∀ b ∈ W, ∀ x, (x, b) ∉ env.cells
  fr : ∀ b ∈ W, b ∉ frs l
theorem St.apartW (S : St prog w G l A env ρ μ H h) {W : List Addr} (hW : ∀ b ∈ W, h.get? b = none) : Apart G l env W where
  tw := fun b hb q => by
    obtain ⟨tb, ht, e⟩ := List.mem_map.mp q
    obtain ⟨ps, e1, _⟩ := S.tabs tb ht
    rw [e, hW b hb] at e1; cases e1
  L := fun b hb e => by obtain ⟨o, z⟩ := S.liveL; rw [← e, hW b hb] at z; cases z
  cell := fun b hb x hm => by obtain ⟨_, _, _, v, o, e, _⟩ := S.cells x b hm; rw [hW b hb] at e; cases e
  fr := fun b hb hm => by
    obtain ⟨e, he, hf⟩ := List.mem_filterMap.mp hm
    obtain ⟨_, L, o, es, ep, h1, h2, _⟩ := S.fr.all e he
    rw [h1] at hf; cases hf
    rw [hW _ hb] at h2; cases h2
theorem St.iter (S : St prog w G l A env ρ μ H h) {W : List Addr} (ap : Apart G l env W) (hW : ∀ b ∈ W, H b = none) (hμ : ∀ p ∈ μ, p.1 ∉ W) (keep : ∀ b o, b ∉ W → h.get? b = some o → h'.get? b = some o) :
    St prog w G l A env ρ μ H h' := by
  have hx : Ext H h' := fun a o e => keep a o (fun q => by rw [hW a q] at e; cases e) (S.ext a o e)
  have ht : TabsOk G.tbs H h' := S.tabs.mono (Le.refl _) fun a o ha e => keep a o (fun q => ap.tw a q ha) e
  refine { S with ext := hx, tabs := ht, fr := ⟨fun e he => ?_⟩, loc := ?_, cel := ?_, cells := ?_, own := ?_ }
  · obtain ⟨h1, L, o, es, ep, h2, h3, h4⟩ := S.fr.all e he
    exact ⟨h1, L, o, es, ep, h2, keep L o (fun q => ap.fr L q (List.mem_filterMap.mpr ⟨e, he, h2⟩)) h3, h4⟩
  · obtain ⟨m, hm, hv⟩ := S.loc
    exact ⟨m, hm.at' fun o e => keep _ o (fun q => ap.L _ q rfl) e, hv⟩
  · intro x d hx hk
    obtain ⟨k, c, v, e1, ⟨o, ho, hd⟩, e3⟩ := S.cel x d hx hk
    exact ⟨k, c, v, e1, ⟨o, keep c o (fun q => ap.cell c q x (mem_of_lookup e1)) ho, hd⟩, e3⟩
  · intro x c hm
    obtain ⟨e1, e2, e3, v, o, ho, hd⟩ := S.cells x c hm
    exact ⟨e1, e2, e3, v, o, keep c o (fun q => ap.cell c q x hm) ho, hd⟩
  · intro p hp
    obtain ⟨e1, e2, e3, e4, o, ho, hr⟩ := S.own p hp
    exact ⟨e1, e2, e3, e4, o, keep p.1 o (hμ p hp) ho, hr⟩
theorem Step.iter {X W : List Addr} (x : Step G l X H₀ h₀ H h) (hW : ∀ b ∈ W, h₀.get? b = none) (S : St prog w G l A env ρ μ H h') (keep : ∀ b o, b ∉ W → h.get? b = some o → h'.get? b = some o) : Step G l X H₀ h₀ H h' where
  le := x.le
  ext := S.ext
  new := x.new
  old := fun a o h1 h2 e => by
    obtain ⟨sl, e1, n1⟩ := x.old a o h1 h2 e
    exact ⟨sl, keep a _ (fun q => by rw [hW a q] at e; cases e) e1, n1⟩
  alive := fun a o e => by
    obtain ⟨o', e1⟩ := x.alive a o e
    exact ⟨o', keep a _ (fun q => by rw [hW a q] at e; cases e) e1⟩
  tabs := S.tabs
theorem Apart.wr {W : List Addr} (ap : Apart G l env W) (hμ : ∀ p ∈ μ, p.1 ∉ W) : ∀ b ∈ W, b ∉ wr env μ := fun b hb hm => by
  rcases List.mem_cons.mp hm with e | hm
  · exact ap.L b hb e
  · rcases List.mem_append.mp hm with q | q
    · obtain ⟨p, hp, e⟩ := List.mem_map.mp (List.mem_filter.mp q).1
      exact ap.cell b hb p.1 (by rw [← e]; exact hp)
    · obtain ⟨p, hp, e⟩ := List.mem_map.mp q
      exact hμ p (List.mem_filter.mp hp).1 (e ▸ hb)

structure ItOk (prog : Program) (w : World) (A : Around) (target : PySem.Expr) (H : PH) (h : Heap) (new : Addr → Prop) (it : Value) (ds : List Dat) : Prop where
  ex : ∃ (I : Addr) (fp W : List Addr) (P Md : Nat → Value → Heap → Prop) (Si : Nat → Heap → Prop), it = .ref I ∧ KTurns prog w A target I fp W ds.length P Md Si ∧ Si 0 h ∧ (∀ i h, Si i h → ∀ b ∈ W, ∃ o, h.get? b = some o) ∧
    (∀ b ∈ W, H b = none ∧ new b) ∧ (∀ b ∈ fp, b ∈ W ∨ ∃ o, H b = some o) ∧ (∀ i v h', Ext H h' → P i v h' → ∃ d, ds[i]? = some d ∧ TItm prog w target H h' v d) ∧
    ∀ i (s : Shared) (Q : Value → Shared → Prop) (E : Value → Shared → Prop), Si i s.heap → Q (.ref I) s → wpAny (model prog w) A (pyIter (.ref I)) Q E s
structure EvIt (prog : Program) (w : World) (G : GX) (l : List Env) (A : Around) (env : Env) (ρ : Rho) (μ : Mu) (target iter : PySem.Expr) (ds : List Dat) : Prop where
  run : ∀ H (s : Shared) (Q : Value → Shared → Prop) (E : Value → Shared → Prop), St prog w G l A env ρ μ H s.heap →
    (∀ it H' h' tk, Step G l [] H s.heap H' h' → ItOk prog w A target H' h' (fun b => s.heap.get? b = none) it ds → Q it { s with heap := h', toks := tk }) →
    wpAny (model prog w) A (eval iter env) (fun x s₁ => wpAny (model prog w) A (pyIter x) Q E s₁) E s

noncomputable def Sub (ρ ρ' : Rho) : Prop := ∀ x d, ρ.lookup x = some d → ρ'.lookup x = some d
theorem Sub.nil : Sub [] ρ := fun _ _ e => nomatch e
theorem Sub.cons {x : Str} {d : Dat} (h : ρ'.lookup x = some d) (k : Sub ρ ρ') : Sub ((x, d) :: ρ) ρ' := fun y d' e => by
  rw [List.lookup_cons] at e
  by_cases q : y = x
  · subst q; rw [beq_self_eq_true] at e; cases e; exact h
  · rw [beq_eq_false_iff_ne.mpr q] at e; exact k y d' e
theorem Sub.refl : Sub ρ ρ := fun _ _ e => e
theorem St.sub (S : St prog w G l A env ρ μ H h) (k : Sub ρ' ρ) : St prog w G l A env ρ' μ H h := S.weak fun x d' e => ⟨d', k x d' e, fun _ r => r⟩

/-- the invariant of a loop, below the code -/
structure LoopInv (prog : Program) (w : World) (G : GX) (l : List Env) (A : Around) (env : Env) (μ : Mu) (H₀ H : PH) (h₀ : Heap) (W : List Addr) (Si : Nat → Heap → Prop) (J : Nat → Rho → Mu → Prop) (n i : Nat) (h' : Heap) (H' : PH) (ρ' : Rho) (μ' : Mu) : Prop where
  si : Si i h'
  st : St prog w G l A env ρ' μ' H' h'
  step : Step G l (wr env μ) H₀ h₀ H' h'
  new : MuLe μ h₀ μ'
  apart : ∀ p ∈ μ', p.1 ∉ W
  none : ∀ b ∈ W, H' b = none
  le : Le H H'
  j : J i ρ' μ'
  lt : i ≤ n

theorem loop_run {target : PySem.Expr} {body : List Stmt} {ds : List Dat} {R : Result → Shared → Prop} {it : Value} {s : Shared} (J : Nat → Rho → Mu → Prop) {Φ : AF → Rho → Mu → Prop}
    (S₀ : St prog w G l A env ρ μ H₀ h₀) (st₀ : Step G l [] H₀ h₀ H s.heap) (hit : ItOk prog w A target H s.heap (fun b => h₀.get? b = none) it ds) {ρ₀ : Rho} (hs₀ : Sub ρ₀ ρ) (h0 : J 0 ρ₀ μ)
    (step : ∀ i d ρ' μ', ds[i]? = some d → J i ρ' μ' → ∃ ρ'', Targ env target d ρ' ρ'' ∧ WP prog w G l A env (execs body env) ρ'' μ' fun af ρ₁ μ₁ => match af with
      | .next | .cont => ∃ ρ₂, Sub ρ₂ ρ₁ ∧ J (i + 1) ρ₂ μ₁
      | .brk => Φ .next ρ₁ μ₁
      | .ret d => Φ (.ret d) ρ₁ μ₁)
    (done : ∀ ρ' μ', J ds.length ρ' μ' → Φ .next ρ' μ')
    (hR : ∀ f af ρ' μ' H' h' tk, St prog w G l A env ρ' μ' H' h' → Step G l (wr env μ) H₀ h₀ H' h' → MuLe μ h₀ μ' → FRep prog w H' f af → Φ af ρ' μ' → R (.ok f) { s with heap := h', toks := tk }) :
    codeAny (model prog w) A (.forLoop target it body [] env) R s := by
  obtain ⟨I, fp, W, P, Md, Si, rfl, K, hsi, hlive, hW, hfp, hP, _⟩ := hit.ex
  have ap : Apart G l env W := S₀.apartW fun b hb => (hW b hb).2
  have hμ : ∀ p ∈ μ, p.1 ∉ W := fun p hp hb => by
    obtain ⟨_, _, _, _, o, ho, _⟩ := S₀.own p hp
    rw [(hW _ hb).2] at ho; cases ho
  refine codeAny_forLoop_any (fun k s' => ∃ h' tk H' ρ' μ' i, s' = { s with heap := h', toks := tk } ∧ LoopInv prog w G l A env μ H₀ H h₀ W Si J ds.length i h' H' ρ' μ' ∧ k = ds.length + 1 - i) ?_ (ds.length + 1)
    ⟨s.heap, s.toks, H, ρ₀, μ, 0, rfl, ⟨hsi, (S₀.step st₀).sub hs₀, (st₀.weakX fun _ q => nomatch q), .refl, hμ, fun b hb => (hW b hb).1, Le.refl _, h0, Nat.zero_le _⟩, rfl⟩
  rintro k s' ⟨h', tk, H', ρ', μ', i, rfl, V, rfl⟩
  by_cases hlt : i < ds.length
  · with_reducible refine K.item i _ _ _ hlt V.si fun v h₁ tk₁ hMd hk₁ => ?_
    with_reducible refine K.go i v _ _ _ hMd fun h₂ hPv hsi₂ hk₂ => ?_
    have keep : ∀ b o, b ∉ W → h'.get? b = some o → h₂.get? b = some o := fun b o hb e => hk₂ b o hb (hk₁ b o hb e)
    have S₂ := V.st.iter ap V.none V.apart keep
    have st₂ := V.step.iter (fun b hb => (hW b hb).2) S₂ keep
    obtain ⟨d, hd, hT⟩ := hP i v h₂ (fun a o e => S₂.ext a o (V.le a o e)) hPv
    obtain ⟨ρ₃, hTa, hB⟩ := step i d ρ' μ' hd V.j
    refine assign_run (s := { s with heap := h₂, toks := tk₁ }) hTa S₂ (hT.mono V.le fun _ _ e => e) fun h₃ tk₃ S₃ st₃ => ?_
    refine (hB H').run { s with heap := h₃, toks := tk₃ } _ _ S₃ fun f ρ₄ μ₄ H₄ h₄ tk₄ S₄ st₄ hm₄ hx9 => ?_
    obtain ⟨af, hf, hΦ⟩ := hx9
    have hXμ : ∀ a ∈ wr env μ', a ∈ wr env μ ∨ h₀.get? a = none := wr_sub V.new
    have stA := (st₂.trans' st₃ hXμ).trans' st₄ hXμ
    have live₂ : ∀ b ∈ W, ∃ o, h₂.get? b = some o := hlive _ _ hsi₂
    have out := ap.wr V.apart
    have keep₄ : ∀ b o, b ∉ G.tw → b ∉ wr env μ' → b ∉ frs l → h₂.get? b = some o → h₄.get? b = some o := fun b o q1 q2 q3 e => by
      obtain ⟨sl, e1, n1⟩ := (st₃.trans' st₄ fun _ q => .inl q).old b o q1 q2 e
      have e2 : ({ o with slots := sl } : Obj) = o := by rw [n1 q3]
      rw [e2] at e1; exact e1
    have none₄ : ∀ b ∈ W, H₄ b = Option.none := fun b hb => by
      cases q : H₄ b with
      | none => rfl
      | some o =>
        rcases (st₃.trans' st₄ fun _ q => .inl q).new b o q with z | z | z
        · rw [V.none b hb] at z; cases z
        · obtain ⟨o', e⟩ := live₂ b hb; rw [show h₂.get? b = none from z] at e; cases e
        · exact absurd z (out b hb)
    have new₄ : MuLe μ h₀ μ₄ := V.new.trans hm₄ fun a q => dead_back (st₂.trans' st₃ hXμ).alive q
    have apart₄ : ∀ p ∈ μ₄, p.1 ∉ W := fun p hp hb => by
      rcases hm₄.all p hp with q | q
      · obtain ⟨p', hp', e⟩ := List.mem_map.mp q
        have e : p'.1 = p.1 := e
        exact V.apart p' hp' (e ▸ hb)
      · obtain ⟨o', e⟩ := live₂ _ hb
        obtain ⟨o'', e'⟩ := st₃.alive _ _ e
        rw [show h₃.get? p.1 = none from q] at e'; cases e'
    have next : (∃ ρ₂, Sub ρ₂ ρ₄ ∧ J (i + 1) ρ₂ μ₄) → ∃ m, m < ds.length + 1 - i ∧ ∃ h'' tk'' H'' ρ'' μ'' j, ({ s with heap := h₄, toks := tk₄ } : Shared) = { s with heap := h'', toks := tk'' } ∧ LoopInv prog w G l A env μ H₀ H h₀ W Si J ds.length j h'' H'' ρ'' μ'' ∧ m = ds.length + 1 - j := fun ⟨ρ₂, hs, hj⟩ => by
      refine ⟨ds.length + 1 - (i + 1), by omega, h₄, tk₄, H₄, ρ₂, μ₄, i + 1, rfl, ⟨?_, S₄.sub hs, stA, new₄, apart₄, none₄, (V.le.trans st₄.le), hj, hlt⟩, rfl⟩
      refine K.frame _ _ _ hsi₂ fun b hb o e => ?_
      rcases hfp b hb with q | ⟨o', q⟩
      · exact keep₄ b o (ap.tw b q) (out b q) (ap.fr b q) e
      · have q' := V.le _ _ q
        have e' := S₂.ext _ _ q'
        rw [e] at e'; cases e'
        exact S₄.ext _ _ (st₄.le _ _ q')
    cases hf with
    | next => exact next hΦ
    | cont => exact next hΦ
    | brk => exact hR _ _ _ _ _ _ _ S₄ stA new₄ .next hΦ
    | ret r => exact hR _ _ _ _ _ _ _ S₄ stA new₄ (.ret r) hΦ
  · have hin : i = ds.length := Nat.le_antisymm V.lt (Nat.not_lt.mp hlt)
    subst hin
    with_reducible refine K.done _ _ _ V.si fun h₁ tk₁ hk₁ => ?_
    with_reducible refine wpAny_execs_nil ?_
    have S₁ := V.st.iter ap V.none V.apart hk₁
    exact hR _ _ _ _ _ _ _ S₁ (V.step.iter (fun b hb => (hW b hb).2) S₁ hk₁) V.new .next (done _ _ V.j)
theorem WP.for {target iter : PySem.Expr} {body : List Stmt} {pos : Pos} {ds : List Dat} {Φ : AF → Rho → Mu → Prop} (J : Nat → Rho → Mu → Prop) (hit : EvIt prog w G l A env ρ μ target iter ds) {ρ₀ : Rho} (hs₀ : Sub ρ₀ ρ) (h0 : J 0 ρ₀ μ)
    (step : ∀ i d ρ' μ', ds[i]? = some d → J i ρ' μ' → ∃ ρ'', Targ env target d ρ' ρ'' ∧ WP prog w G l A env (execs body env) ρ'' μ' fun af ρ₁ μ₁ => match af with
      | .next | .cont => ∃ ρ₂, Sub ρ₂ ρ₁ ∧ J (i + 1) ρ₂ μ₁
      | .brk => Φ .next ρ₁ μ₁
      | .ret d => Φ (.ret d) ρ₁ μ₁)
    (done : ∀ ρ' μ', J ds.length ρ' μ' → Φ .next ρ' μ') (hs : ∀ x, foldedSetIterable iter env x = pure x := by intro _; rfl) :
    WP prog w G l A env (exec (.For target iter body [] pos) env) ρ μ Φ := fun H => by
  refine ⟨fun s Q E S hQ => ?_⟩
  with_reducible refine wpAny_For (hit.run H s _ E S fun it H' h' tk st hI => ?_) hs
  refine loop_run (s := { s with heap := h', toks := tk }) J S st hI hs₀ h0 step done fun f af ρ' μ' H'' h'' tk' S' st' hn hf hΦ => ?_
  exact hQ f ρ' μ' H'' h'' tk' S' st' hn ⟨af, hf, hΦ⟩
theorem WP.forR {target iter : PySem.Expr} {body : List Stmt} {pos : Pos} {ds : List Dat} {Φ : AF → Rho → Mu → Prop} (R : Nat → Rho) (M : Nat → Mu) (hit : EvIt prog w G l A env ρ μ target iter ds) (h0 : Sub (R 0) ρ) (hm : μ = M 0)
    (step : ∀ i d, ds[i]? = some d → ∃ ρ'', Targ env target d (R i) ρ'' ∧ WP prog w G l A env (execs body env) ρ'' (M i) fun af ρ₁ μ₁ => match af with
      | .next | .cont => Sub (R (i + 1)) ρ₁ ∧ μ₁ = M (i + 1)
      | .brk => Φ .next ρ₁ μ₁
      | .ret d => Φ (.ret d) ρ₁ μ₁)
    (done : Φ .next (R ds.length) (M ds.length)) (hs : ∀ x, foldedSetIterable iter env x = pure x := by intro _; rfl) :
    WP prog w G l A env (exec (.For target iter body [] pos) env) ρ μ Φ := by
  refine WP.for (fun i ρ' μ' => ρ' = R i ∧ μ' = M i) hit h0 ⟨rfl, hm⟩ (fun i d ρ' μ' hd hJ => ?_) (fun ρ' μ' hJ => ?_) hs
  · obtain ⟨rfl, rfl⟩ := hJ
    obtain ⟨ρ'', h1, h2⟩ := step i d hd
    refine ⟨ρ'', h1, h2.mono fun af ρ₁ μ₁ h => ?_⟩
    cases af with
    | next => exact ⟨_, h.1, rfl, h.2⟩
    | cont => exact ⟨_, h.1, rfl, h.2⟩
    | brk => exact h
    | ret d => exact h
  · obtain ⟨rfl, rfl⟩ := hJ
    exact done
end
end Mine
end
section
open PySem PySem.W PySem.Calls PyProof.Rows
set_option Elab.async false
set_option linter.unusedVariables false
namespace Mine
section
variable {prog : Program} {w : World} {G : GX} {l : List Env} {A : Around} {env : Env} {ρ ρ' ρ'' : Rho} {μ μ' : Mu} {H H' H₀ : PH} {h h' h₀ : Heap} {target : PySem.Expr}

theorem Reps.back {vs : List Value} {ds : List Dat} (R : Reps prog w H vs ds) : ∀ {i : Nat} {v : Value}, vs[i]? = some v → ∃ d, ds[i]? = some d ∧ Rep prog w H v d := by
  induction vs generalizing ds with
  | nil => intro i v e; simp at e
  | cons v vs ih =>
    cases R with
    | @cons _ d _ ds h r =>
      intro i u e
      cases i with
      | zero => simp at e; subst e; exact ⟨d, rfl, h⟩
      | succ i => simp at e ⊢; exact ih r e
theorem Step.push (S : St prog w G l A env ρ μ H h) (o : Obj) : Step G l [] H h H (h.push o) :=
  Step.of S.tabs (Le.refl _) (S.ext.mono fun b o e => Heap.get?_push_of_some _ e) (fun _ _ e => .inl e) fun a o e => Heap.get?_push_of_some _ e
theorem Step.grow (S : St prog w G l A env ρ μ H h) (k : ∀ b o, h.get? b = some o → h'.get? b = some o) : Step G l [] H h H h' :=
  Step.of S.tabs (Le.refl _) (S.ext.mono k) (fun _ _ e => .inl e) k
theorem St.freshH (S : St prog w G l A env ρ μ H h) {a : Addr} (ha : h.objs.size ≤ a) : H a = none := S.ext.fresh ha
theorem fresh_get {h : Heap} {a : Addr} (ha : h.objs.size ≤ a) : h.get? a = none := by
  cases e : h.get? a with
  | none => rfl
  | some o' => exact absurd (Heap.lt_size e) (Nat.not_lt.mpr ha)
theorem Reps.one {vs : List Value} {d : Dat} (r : Reps prog w H vs [d]) : ∃ v, vs = [v] ∧ Rep prog w H v d := by
  cases r with
  | cons h r => cases r; exact ⟨_, rfl, h⟩
theorem Reps.two {vs : List Value} {d d' : Dat} (r : Reps prog w H vs [d, d']) : ∃ v v', vs = [v, v'] ∧ Rep prog w H v d ∧ Rep prog w H v' d' := by
  cases r with
  | cons h r => obtain ⟨v', rfl, h'⟩ := r.one; exact ⟨_, _, rfl, h, h'⟩
theorem Reps.three {vs : List Value} {d d' d'' : Dat} (r : Reps prog w H vs [d, d', d'']) : ∃ v v' v'', vs = [v, v', v''] ∧ Rep prog w H v d ∧ Rep prog w H v' d' ∧ Rep prog w H v'' d'' := by
  cases r with
  | cons h r => obtain ⟨v', v'', rfl, h', h''⟩ := r.two; exact ⟨_, _, _, rfl, h, h', h''⟩
theorem Rep.isInt {v : Value} {i : Int} (r : Rep prog w H v (.int i)) : ∃ t, v = .int i t := by cases r; exact ⟨_, rfl⟩
theorem Rep.isVal {v u : Value} (r : Rep prog w H v (.val u)) : v = u := by cases r; rfl
theorem Ev.at {e : PySem.Expr} {d : Dat} (h : Ev prog w G l A env ρ μ e d) (H : PH) : Tr prog w G l A env ρ μ H (eval e env) fun H' v => Rep prog w H' v d := h H
/-- one new iterator, over one frozen object -/
theorem ItOk.one {A : Around} {ax : Addr} {o : Obj} {n : Nat} {P Md : Nat → Value → Heap → Prop} {Si : Nat → Heap → Prop} {ds : List Dat} {oi : Obj} {new : Addr → Prop} (S : St prog w G l A env ρ μ H h) (ho : H ax = some o) (hn : n = ds.length) (hnew : new h.objs.size)
    (K : KTurns prog w A target h.objs.size [h.objs.size, ax] [h.objs.size] n P Md Si) (h0 : Si 0 (h.push oi)) (live : ∀ i h', Si i h' → ∃ o, h'.get? h.objs.size = some o)
    (hself : ∀ i (s : Shared) (Q : Value → Shared → Prop) (E : Value → Shared → Prop), Si i s.heap → Q (.ref h.objs.size) s → wpAny (model prog w) A (pyIter (.ref h.objs.size)) Q E s) (hP : ∀ i v h', Ext H h' → P i v h' → ∃ d, ds[i]? = some d ∧ TItm prog w target H h' v d) : ItOk prog w A target H (h.push oi) new (.ref h.objs.size) ds where
  ex := by
    subst hn
    exact ⟨_, _, _, _, _, _, rfl, K, h0, fun i h' s b hb => by rw [List.mem_singleton.mp hb]; exact live i h' s, fun b hb => by rw [List.mem_singleton.mp hb]; exact ⟨S.freshH (Nat.le_refl _), hnew⟩,
      fun b hb => by
        rcases List.mem_cons.mp hb with e | hb
        · exact .inl (by simp [e])
        · rw [List.mem_singleton.mp hb]; exact .inr ⟨_, ho⟩, hP, hself⟩
theorem EvIt.list {iter : PySem.Expr} {ds : List Dat} (hi : Ev prog w G l A env ρ μ iter (.list ds)) (hh : A.handled = none) (hd : isTupT target = true → ∀ d ∈ ds, ∃ ds, d = Dat.tup ds := by exact fun e => absurd e Bool.false_ne_true) : EvIt prog w G l A env ρ μ target iter ds where
  run := fun H s Q E S hQ => by
    with_reducible refine (hi.at H).run s _ E S fun v H' h' tk st r => ?_
    cases r with
    | @list ax vs n ds e r =>
      have S' := S.step st
      have hL : h'.IsList ax vs.toArray := st.ext.isList e
      have hne : ax ≠ h'.objs.size := Nat.ne_of_lt (st.ext.lt e)
      with_reducible refine wpAny_pyIter_list (s := { s with heap := h', toks := tk }) hL ?_
      refine hQ _ H' _ tk (st.trans (Step.push S' _)) ?_
      refine ItOk.one (n := vs.toArray.size) S' e (by simp [r.length]) (dead_back st.alive (fresh_get (Nat.le_refl _))) (KTurns.ofWalks (Walks.list hh _ ax hne vs.toArray) fun i v s Q E st q => letGo_listiter st.1 q)
        ⟨⟨_, Heap.get?_push_size _ rfl, rfl, rfl⟩, hL.at fun o e => Heap.get?_push_of_some _ e⟩ (fun i h' si => let ⟨⟨o, ho, _⟩, _⟩ := si; ⟨o, ho⟩) (Walks.list hh _ ax hne vs.toArray).self fun i v h₂ x hp => ?_
      have hp : vs.toArray[i]? = some v := hp
      obtain ⟨d, hd', rd⟩ := r.back (i := i) (by simpa using hp)
      exact ⟨d, hd', .of x rd fun e => hd e d (List.mem_of_getElem? hd')⟩
theorem EvIt.tuple {iter : PySem.Expr} {ds : List Dat} (hi : Ev prog w G l A env ρ μ iter (.tup ds)) (hh : A.handled = none) (hd : isTupT target = true → ∀ d ∈ ds, ∃ ds, d = Dat.tup ds := by exact fun e => absurd e Bool.false_ne_true) : EvIt prog w G l A env ρ μ target iter ds where
  run := fun H s Q E S hQ => by
    with_reducible refine (hi.at H).run s _ E S fun v H' h' tk st r => ?_
    cases r with
    | @tup ax vs n ds e r =>
      have S' := S.step st
      have hL : h'.IsTuple ax vs.toArray := st.ext.isTup e
      have hne : ax ≠ h'.objs.size := Nat.ne_of_lt (st.ext.lt e)
      with_reducible refine wpAny_pyIter_tuple (s := { s with heap := h', toks := tk }) hL ?_
      refine hQ _ H' _ tk (st.trans (Step.push S' _)) ?_
      refine ItOk.one (n := vs.toArray.size) S' e (by simp [r.length]) (dead_back st.alive (fresh_get (Nat.le_refl _))) (KTurns.ofWalks (Walks.tuple hh _ ax hne vs.toArray) fun i v s Q E st q => letGo_tupleiter st.1 q)
        ⟨⟨_, Heap.get?_push_size _ rfl, rfl, rfl⟩, hL.at fun o e => Heap.get?_push_of_some _ e⟩ (fun i h' si => let ⟨⟨o, ho, _⟩, _⟩ := si; ⟨o, ho⟩) (Walks.tuple hh _ ax hne vs.toArray).self fun i v h₂ x hp => ?_
      have hp : vs.toArray[i]? = some v := hp
      obtain ⟨d, hd', rd⟩ := r.back (i := i) (by simpa using hp)
      exact ⟨d, hd', .of x rd fun e => hd e d (List.mem_of_getElem? hd')⟩

/-! ### calls whose value is walked over -/
theorem callWith_run {pos : Pos} {f : Value} {first : List Value} {es : List PySem.Expr} {ds : List Dat} {p : Pos} {s : Shared} {Q : Value → Shared → Prop} {E : Value → Shared → Prop} (S : St prog w G l A env ρ μ H s.heap) (hk : KeepOk prog w H f) (he : Evs prog w G l A env ρ μ es ds)
    (hc : ∀ vs H' h' tk, Step G l [] H s.heap H' h' → Reps prog w H' vs ds → wpAny (model prog w) A (call f (first ++ vs)) Q E { s with heap := h', toks := tk }) :
    wpAny (model prog w) A (callWith pos f first (backTo p (starEach es env)) (backToKw p (keywordEach [] env))) Q E s := by
  obtain ⟨h1, h2⟩ := he.run p H
  obtain ⟨k', hk', L⟩ := hk
  have fin : ∀ vs H' h' tk, Step G l [] H s.heap H' h' → Reps prog w H' vs ds →
      Ext H h' ∧ wpAny (model prog w) A (call f (first ++ vs)) Q E { s with heap := h', toks := tk } := fun vs H' h' tk st r =>
    ⟨fun a o e => st.ext a o (st.le a o e), hc vs H' h' tk st r⟩
  have hany : ((backTo p (starEach es env)).any (·.1) || ([] : List (Option Str × Sem Value)).any (·.1.isNone)) = false := by rw [h1]; rfl
  rw [show backToKw p (keywordEach [] env) = [] from rfl]
  with_reducible refine callWith_of (P := fun h => Ext H h) hany (fun h e => ⟨k', hk', L h e⟩) ?_
  cases he with
  | nil =>
    show wpAny (model prog w) A (evalArgs f true [] []) _ E s
    with_reducible refine evalArgs_nil3 ?_
    exact fin [] H s.heap s.toks (.refl S.ext S.tabs) .nil
  | @cons e es d ds h hs he =>
    rw [starEach_plain he] at h2 ⊢
    show wpAny (model prog w) A (evalArgs f true ((false, eval e env) :: backTo p (starEach es env)) []) _ E s
    with_reducible refine evalArgs_plain ?_
    exact h2.run s _ E S fun vs H' h' tk st r => fin vs H' h' tk st r
theorem EvIt.callName {x : Str} {np pos : Pos} {es : List PySem.Expr} {ds items : List Dat} {f : Value} (hf : Ev prog w G l A env ρ μ (.Name x np) (.val f)) (hk : KeepG prog w G f) (he : Evs prog w G l A env ρ μ es ds)
    (hc : ∀ H vs (s : Shared) (Q : Value → Shared → Prop) (E : Value → Shared → Prop), St prog w G l A env ρ μ H s.heap → Reps prog w H vs ds → (∀ it H' h' tk, Step G l [] H s.heap H' h' → ItOk prog w A target H' h' (fun b => s.heap.get? b = none) it items → Q it { s with heap := h', toks := tk }) →
      wpAny (model prog w) A (call f vs) (fun x s₁ => wpAny (model prog w) A (pyIter x) Q E s₁) E s) : EvIt prog w G l A env ρ μ target (.Call (.Name x np) es [] pos) items where
  run := fun H s Q E S hQ => by
    rw [arm_eval_Call_Name']
    with_reducible refine wpAny_bind ((hf.at H).run s _ E S fun v H₁ h₁ tk₁ st₁ r => ?_)
    cases r
    have S₁ := S.step st₁
    refine callWith_run (s := { s with heap := h₁, toks := tk₁ }) S₁ (hk H₁ S₁.glob) he fun vs H₂ h₂ tk₂ st₂ r₂ => ?_
    rw [List.nil_append]
    have st := st₁.trans st₂
    refine hc H₂ vs { s with heap := h₂, toks := tk₂ } Q E (S.step st) r₂ fun it H₃ h₃ tk₃ st₃ hI => ?_
    refine hQ it H₃ h₃ tk₃ (st.trans st₃) ⟨?_⟩
    obtain ⟨I, fp, W, P, Md, Si, e, K, h0, hl, hW, hr⟩ := hI.ex
    exact ⟨I, fp, W, P, Md, Si, e, K, h0, hl, fun b hb => ⟨(hW b hb).1, dead_back st.alive (hW b hb).2⟩, hr⟩

noncomputable def rng (a c : Int) (n : Nat) : List Dat := (List.range n).map fun (i : Nat) => .int (a + (i : Int) * c)
theorem rng_get {a c : Int} {n i : Nat} (h : i < n) : (rng a c n)[i]? = some (.int (a + (i : Int) * c)) := by
  unfold rng
  rw [List.getElem?_map, List.getElem?_range h]; rfl
theorem range_iter {x : Str} {xp : Pos} {r : Addr} {a b c : Int} {t u v : Tok} {n : Nat} {s : Shared} {Q : Value → Shared → Prop} {E : Value → Shared → Prop} (S : St prog w G l A env ρ μ H s.heap) (hh : A.handled = none) (hr : IsRange s.heap r a b c t u v) (hs : Builtin.Range.small a b c = true) (hn : Builtin.Range.rangeSize a b c = n) {new : Addr → Prop} (hnew : new s.heap.objs.size)
    (hQ : ∀ it h', Step G l [] H s.heap H h' → ItOk prog w A (.Name x xp) H h' new it (rng a c n) → Q it { s with heap := h' }) : wpAny (model prog w) A (pyIter (.ref r)) Q E s := by
  refine wpAny_pyIter_range hr hs ?_
  refine hQ _ _ (Step.push S _) ⟨?_⟩
  rw [show (rng a c n).length = n by simp [rng]]
  refine ⟨_, _, _, _, _, _, rfl, KTurns.ofWalks (Walks.range hh s.heap.objs.size a c n).bound fun _ _ _ _ _ _ q => wpAny_pure q, ?_, ?_, ?_, fun b hb => .inl hb, ?_, (Walks.range hh s.heap.objs.size a c n).self⟩
  · show IsRangeIter _ _ _ _ _
    rw [hn]; simpa using Heap.get?_push_size _ rfl
  · intro i h' si b hb
    rw [List.mem_singleton.mp hb]
    exact ⟨_, si⟩
  · intro b hb
    rw [List.mem_singleton.mp hb]
    exact ⟨S.freshH (Nat.le_refl _), hnew⟩
  · rintro i v h' _ ⟨hi, t, rfl⟩
    exact ⟨_, rng_get hi, fun q => absurd q Bool.false_ne_true, fun _ => .int _ _⟩
theorem small_of {a b : Int} (h : -(2 ^ 62) ≤ a ∧ a < 2 ^ 62 ∧ -(2 ^ 62) ≤ b ∧ b < 2 ^ 62) : Builtin.Range.small a b 1 = true := small_one h.1 h.2.1 h.2.2.1 h.2.2.2
theorem EvIt.range1 {x y : Str} {xp np pos : Pos} {e : PySem.Expr} {b : Int} (hf : Ev prog w G l A env ρ μ (.Name x np) (.val (.type "range"))) (he : Evs prog w G l A env ρ μ [e] [.int b]) (hh : A.handled = none) (hb : -(2 ^ 62) ≤ b ∧ b < 2 ^ 62) :
    EvIt prog w G l A env ρ μ (.Name y xp) (.Call (.Name x np) [e] [] pos) (rng 0 1 b.toNat) := .callName hf (.plain (by intro _ e; cases e)) he fun H vs s Q E S r hQ => by
  obtain ⟨v, rfl, r1⟩ := r.one
  obtain ⟨t, rfl⟩ := r1.isInt
  refine call_range_1 ?_
  have st := Step.push S { cls := .type "range", data := .fields #[.int 0 s.toks, .int b t, .int 1 (s.toks + 1)] }
  refine range_iter (x := y) (xp := xp) (n := b.toNat) (new := fun b => s.heap.get? b = none) (S.step st) hh (IsRange.new ..) (small_of ⟨by (first | lia -abstractProof | omega), by (first | lia -abstractProof | omega), hb⟩) (by rw [rangeSize_nat]; simp) (fresh_get (by rw [Heap.size_push]; (first | lia -abstractProof | omega))) fun it h' st' hI => ?_
  exact hQ it H h' _ (st.trans st') hI
theorem EvIt.range2 {x y : Str} {xp np pos : Pos} {e₁ e₂ : PySem.Expr} {a b : Int} (hf : Ev prog w G l A env ρ μ (.Name x np) (.val (.type "range"))) (he : Evs prog w G l A env ρ μ [e₁, e₂] [.int a, .int b]) (hh : A.handled = none) (hb : -(2 ^ 62) ≤ a ∧ a < 2 ^ 62 ∧ -(2 ^ 62) ≤ b ∧ b < 2 ^ 62) :
    EvIt prog w G l A env ρ μ (.Name y xp) (.Call (.Name x np) [e₁, e₂] [] pos) (rng a 1 (b - a).toNat) := .callName hf (.plain (by intro _ e; cases e)) he fun H vs s Q E S r hQ => by
  obtain ⟨v, v', rfl, r1, r2⟩ := r.two
  obtain ⟨t, rfl⟩ := r1.isInt
  obtain ⟨u, rfl⟩ := r2.isInt
  refine call_range_2 ?_
  have st := Step.push S { cls := .type "range", data := .fields #[.int a t, .int b u, .int 1 s.toks] }
  refine range_iter (x := y) (xp := xp) (n := (b - a).toNat) (new := fun b => s.heap.get? b = none) (S.step st) hh (IsRange.new ..) (small_of hb) (by rw [rangeSize_nat]) (fresh_get (by rw [Heap.size_push]; (first | lia | omega))) fun it h' st' hI => ?_
  exact hQ it H h' _ (st.trans st') hI
theorem EvIt.range3 {x y : Str} {xp np pos : Pos} {e₁ e₂ e₃ : PySem.Expr} {a b c : Int} {n : Nat} (hf : Ev prog w G l A env ρ μ (.Name x np) (.val (.type "range"))) (he : Evs prog w G l A env ρ μ [e₁, e₂, e₃] [.int a, .int b, .int c]) (hh : A.handled = none) (hc : c ≠ 0) (hs : Builtin.Range.small a b c = true) (hn : Builtin.Range.rangeSize a b c = n) (hl : c.natAbs.log2 < 9000) :
    EvIt prog w G l A env ρ μ (.Name y xp) (.Call (.Name x np) [e₁, e₂, e₃] [] pos) (rng a c n) := .callName hf (.plain (by intro _ e; cases e)) he fun H vs s Q E S r hQ => by
  obtain ⟨v, v', v'', rfl, r1, r2, r3⟩ := r.three
  obtain ⟨t, rfl⟩ := r1.isInt
  obtain ⟨u, rfl⟩ := r2.isInt
  obtain ⟨v, rfl⟩ := r3.isInt
  refine call_range_3 hc ?_ (.inl (PyProof.noPylong_of_log2 hl))
  have st := Step.push S { cls := .type "range", data := .fields #[.int a t, .int b u, .int c v] }
  refine range_iter (x := y) (xp := xp) (n := n) (new := fun b => s.heap.get? b = none) (S.step st) hh (IsRange.new ..) hs hn (fresh_get (by rw [Heap.size_push]; (first | lia | omega))) fun it h' st' hI => ?_
  exact hQ it H h' _ (st.trans st') hI
end
end Mine
end
section
open PySem PySem.W PySem.Calls PyProof.Rows
set_option Elab.async false
set_option linter.unusedVariables false
namespace Mine
section
variable {prog : Program} {w : World} {G : GX} {l : List Env} {A : Around} {env env' : Env} {ρ ρ' ρc : Rho} {μ μ' μc : Mu} {H H' H₀ : PH} {h h' h₀ : Heap}

/-- the state of a callee -/
theorem St.callee (S : St prog w G l A env ρ μ H h) (old : ∀ b o, h.get? b = some o → h₀.get? b = some o) (hL : h.objs.size = env'.locals) (hf : env'.frame = some env'.locals) (hk : env'.scope.kind = .function)
    (hg : env'.globals = mainGlobals) (hb : env'.builtins = builtinsNs) {m : Str → Option Value} (hn : h₀.Ns env'.locals m)
    (hl : ∀ x d, ρ'.lookup x = some d → env'.kindOf x = some .local → ∃ v, m x = some v ∧ Rep prog w H v d)
    (hc : ∀ x d, ρ'.lookup x = some d → env'.kindOf x ≠ some .local → (env'.kindOf x = some .cell ∨ env'.kindOf x = some .free) ∧ ∃ c v, env'.cells.lookup x = some c ∧ h₀.IsCell c (some v) ∧ Rep prog w H v d)
    (hcells : ∀ x c, (x, c) ∈ env'.cells → H c = none ∧ G.hG.objs.size ≤ c ∧ (env'.kindOf x = some .cell → env'.locals < c) ∧ ∃ v, h₀.IsCell c v)
    (hap : env'.cells.Pairwise fun x y => x.2 ≠ y.2) (hcd : ∀ x, env'.kindOf x = some .cell → (env'.cells.lookup x).isSome = true) (hμ : ∀ p ∈ μc, p ∈ μ ∨ ∃ md, p.2 = .ro md ∧ ((p.1, md) ∈ μ ∨ (p.1, MD.ro md) ∈ μ)) (hnd : (μc.map (·.1)).Nodup) :
    St prog w G (env' :: l) (A.deeper env') env' ρ' μc H h₀ := by
  have hx : Ext H h₀ := S.ext.mono old
  have hbase : G.hG.objs.size ≤ h.objs.size := Nat.le_trans S.base (Nat.le_of_lt S.ltL)
  have hframes : frs (env' :: l) = env'.locals :: frs l := by unfold frs; rw [List.filterMap_cons, hf]
  obtain ⟨oL, esL, epL, hoL, hdL, _⟩ := id hn
  exact {
    ext := hx
    hok := S.hok
    afr := by show A.frames.map (env' :: ·) = _; rw [S.afr]; rfl
    glob := S.glob
    tabs := S.tabs.mono (Le.refl _) fun a o _ e => old a o e
    tout := S.tout
    fr := ⟨fun e he => by
      rcases List.mem_cons.mp he with rfl | he
      · exact ⟨by rw [hk]; decide, _, oL, esL, epL, hf, hoL, hdL, by rw [← hL]; exact S.freshH (Nat.le_refl _), by rw [← hL]; exact hbase⟩
      · obtain ⟨h1, L, o, es, ep, h2, h3, h4⟩ := S.fr.all e he
        exact ⟨h1, L, o, es, ep, h2, old L o h3, h4⟩⟩
    frle := fun a ha => by
      rw [hframes] at ha
      rcases List.mem_cons.mp ha with rfl | ha
      · exact Nat.le_refl _
      · rw [← hL]; exact Nat.le_trans (S.frle a ha) (Nat.le_of_lt S.ltL)
    frin := fun L hL' => by
      rw [hframes]; rw [hf] at hL'; cases hL'; exact .head _
    kind := hk
    genv := hg
    benv := hb
    base := by rw [← hL]; exact hbase
    outL := by rw [← hL]; exact S.freshH (Nat.le_refl _)
    loc := ⟨m, hn, hl⟩
    cel := hc
    cells := fun x c hm => let ⟨a, b, c, d⟩ := hcells x c hm; ⟨a, b, fun _ => c, d⟩
    apart := hap
    cdom := fun _ => hcd
    own := fun p hp => by
      obtain ⟨h1, h2, h3, h4, o, ho, hr⟩ : H p.1 = none ∧ G.hG.objs.size ≤ p.1 ∧ p.1 ∉ frs l ∧ p.1 ≠ env.locals ∧ ∃ o, h.get? p.1 = some o ∧ MRep prog w H o p.2 := by
        rcases hμ p hp with q | ⟨md, e, q | q⟩
        · exact S.own p q
        · obtain ⟨a, b⟩ := p; dsimp only at e q; subst e; exact S.own (a, md) q
        · obtain ⟨a, b⟩ := p; dsimp only at e; subst e; exact S.own _ q
      have hlt := Heap.lt_size ho
      refine ⟨h1, h2, fun q => ?_, fun q => ?_, o, old _ o ho, hr⟩
      · rw [hframes] at q
        rcases List.mem_cons.mp q with q | q
        · rw [q, ← hL] at hlt; exact Nat.lt_irrefl _ hlt
        · exact h3 q
      · rw [q, ← hL] at hlt; exact Nat.lt_irrefl _ hlt
    nodup := hnd }
/-- what the callee did, to its caller -/
theorem Step.leave (S : St prog w G l A env ρ μ H h) (old : ∀ b o, h.get? b = some o → h₀.get? b = some o) (hL : h.objs.size = env'.locals) (hf : env'.frame = some env'.locals) {X : List Addr} (hX : ∀ p ∈ μc, p.2.w = true → p.1 ∈ X) (st : Step G (env' :: l) (wr env' μc) H h₀ H' h') : Step G l X H h H' h' := by
  have hframes : frs (env' :: l) = env'.locals :: frs l := by unfold frs; rw [List.filterMap_cons, hf]
  have hdead : ∀ a, env'.locals ≤ a → h.get? a = none := fun a ha => fresh_get (by rw [hL]; exact ha)
  have hwr : ∀ a ∈ wr env' μc, h.get? a = none ∨ a ∈ X := fun a ha => by
    rcases List.mem_cons.mp ha with rfl | ha
    · exact .inl (hdead _ (Nat.le_refl _))
    · rcases List.mem_append.mp ha with q | q
      · exact .inl (hdead _ (Nat.le_of_lt (of_decide_eq_true (List.mem_filter.mp q).2)))
      · obtain ⟨p, hp, rfl⟩ := List.mem_map.mp q
        exact .inr (hX p (List.mem_filter.mp hp).1 (List.mem_filter.mp hp).2)
  exact {
    le := st.le
    ext := st.ext
    new := fun a o e => by
      rcases st.new a o e with q | q | q
      · exact .inl q
      · exact .inr (.inl (by cases z : h.get? a with | none => rfl | some o' => rw [old a o' z] at q; cases q))
      · exact .inr (hwr a q)
    old := fun a o h1 h2 e => by
      have n1 : a ∉ wr env' μc := fun q => (hwr a q).elim (fun z => by rw [z] at e; cases e) h2
      obtain ⟨sl, e1, n2⟩ := st.old a o h1 n1 (old a o e)
      refine ⟨sl, e1, fun q => n2 fun z => ?_⟩
      rw [hframes] at z
      rcases List.mem_cons.mp z with z | z
      · have := Heap.lt_size e; rw [z, ← hL] at this; exact Nat.lt_irrefl _ this
      · exact q z
    alive := fun a o e => st.alive a o (old a o e)
    tabs := st.tabs }

structure FnFacts (fd : FuncData) (body : List Stmt) (H : PH) (a : Addr) : Prop where
  at_ : ∃ o, H a = some o ∧ o.data = .func fd
  code : ∃ c oc vs t, fd.code = .ref c ∧ H c = some oc ∧ oc.data = .fields vs ∧ vs[1]? = some (.str fd.qualname t)
  body : fd.body = .stmts body
  globals : fd.globals = mainGlobals
  builtins : fd.builtins = builtinsNs
  kind : fd.scope.kind = .function
  co : fd.scope.isCoroutine = false
  gen : fd.scope.isGenerator = false
/-- the function binds the names in turn -/
noncomputable def BindsPos (fd : FuncData) (ps : List Str) (H : PH) (n : Nat) : Prop := ∀ (s : Shared) (vals : List Value), Ext H s.heap → vals.length = n → BindsTo s fd ⟨vals, []⟩ (ps.zip vals)

theorem zip_lookup {vs : List Value} {ds : List Dat} (r : Reps prog w H vs ds) : ∀ (ps : List Str) (x : Str) (d : Dat), ps.Nodup → (ps.zip ds).lookup x = some d → ∃ v, (ps.zip vs).lookup x = some v ∧ Rep prog w H v d := by
  induction vs generalizing ds with
  | nil => cases r; intro ps x d _ e; cases ps <;> simp at e
  | cons v vs ih =>
    cases r with
    | @cons _ d₀ _ ds rv rs =>
      intro ps x d hnd e
      cases ps with
      | nil => simp at e
      | cons y ps =>
        rw [List.zip_cons_cons, List.lookup_cons] at e ⊢
        by_cases q : (x == y) = true
        · rw [q] at e ⊢; cases e; exact ⟨v, rfl, rv⟩
        · rw [Bool.not_eq_true] at q; rw [q] at e ⊢; exact ih rs ps x d (List.nodup_cons.mp hnd).2 e
theorem lookup_reverse {β : Type} : ∀ (l : List (Str × β)) (x : Str), (l.map (·.1)).Nodup → l.reverse.lookup x = l.lookup x
  | [], _, _ => rfl
  | (y, b) :: r, x, h => by
    have hn := (List.nodup_cons.mp h).1
    rw [List.reverse_cons, List.lookup_append, lookup_reverse r x (List.nodup_cons.mp h).2, List.lookup_cons]
    by_cases q : (x == y) = true
    · have e : x = y := eq_of_beq q
      have : r.lookup x = none := by
        cases z : r.lookup x with
        | none => rfl
        | some b' => exact absurd (List.mem_map_of_mem (f := (·.1)) (mem_of_lookup z)) (e ▸ hn)
      rw [this, q]; simp [List.lookup_cons, q]
    · rw [Bool.not_eq_true] at q
      rw [q]; simp [List.lookup_cons, q]
theorem zip_fst {α β : Type} : ∀ (xs : List α) (ys : List β), xs.length = ys.length → (xs.zip ys).map (·.1) = xs
  | [], _, _ => by simp
  | x :: xs, [], h => by simp at h
  | x :: xs, y :: ys, h => by simp [zip_fst xs ys (by simpa using h)]

/-- a function without cells of its own is called -/
theorem call_plain {fd : FuncData} {body : List Stmt} {a : Addr} {ps : List Str} {vals : List Value} {ds : List Dat} {s : Shared} {Q : Value → Shared → Prop} {E : Value → Shared → Prop} {X : List Addr}
    (S : St prog w G l A env ρ μ H s.heap) (F : FnFacts fd body H a) (hroom : A.depth < recursionLimit) (hb : BindsPos fd ps H ds.length) (r : Reps prog w H vals ds) (hlen : ps.length = ds.length) (hnd : ps.Nodup)
    (hloc : ∀ x ∈ ps, fd.scope.names.lookup x = some .local) (hcell : ∀ x ∈ fd.scope.names, x.2 ≠ .cell)
    (hclos : ∀ x c, (x, c) ∈ fd.closure → H c = none ∧ G.hG.objs.size ≤ c ∧ ∃ v, s.heap.IsCell c v) (hap : fd.closure.Pairwise fun x y => x.2 ≠ y.2)
    (hρ : ∀ x d, ρc.lookup x = some d → fd.scope.names.lookup x = some .free ∧ ∃ c v, fd.closure.lookup x = some c ∧ s.heap.IsCell c (some v) ∧ Rep prog w H v d)
    (hμ : ∀ p ∈ μc, p ∈ μ ∨ ∃ md, p.2 = .ro md ∧ ((p.1, md) ∈ μ ∨ (p.1, MD.ro md) ∈ μ)) (hndμ : (μc.map (·.1)).Nodup) (hX : ∀ p ∈ μc, p.2.w = true → p.1 ∈ X)
    (k : WP prog w (G := G) (callEnv fd s.heap.objs.size a :: l) (A.deeper (callEnv fd s.heap.objs.size a)) (callEnv fd s.heap.objs.size a) (execs body (callEnv fd s.heap.objs.size a)) ((ps.zip ds).reverse ++ ρc) μc fun af ρ' μ' =>
      ∃ d, (af = .ret d ∨ (af = .next ∧ d = .none)) ∧ ∀ v H' h' tk, Rep prog w H' v d → Step G l X H s.heap H' h' → St prog w G (callEnv fd s.heap.objs.size a :: l) (A.deeper (callEnv fd s.heap.objs.size a)) (callEnv fd s.heap.objs.size a) ρ' μ' H' h' → Q v { s with heap := h', toks := tk }) :
    wpAny (model prog w) A (call (.ref a) vals) Q E s := by
  obtain ⟨o, ho, hd⟩ := F.at_
  have hcd : s.heap.CodeRec fd.code fd.qualname := by
    obtain ⟨c, oc, vs, t, h1, h2, h3, h4⟩ := F.code
    exact ⟨c, oc, vs, t, h1, S.ext _ _ h2, h3, h4⟩
  have hvl : vals.length = ds.length := r.length
  have hfst : (ps.zip vals).map (·.1) = ps := zip_fst ps vals (hlen.trans hvl.symm)
  have hmem : ∀ x ∈ ps.zip vals, x.1 ∈ ps := fun x hx => by have := List.mem_map_of_mem (f := (·.1)) hx; rw [hfst] at this; exact this
  have hlim : s.heap.NoLimit := G.nolim.keeps fun b o e => S.ext _ _ (S.glob b o e)
  have kind : ∀ x, (callEnv fd s.heap.objs.size a).kindOf x = fd.scope.names.lookup x := fun x => rfl
  refine wpAny_call (codeAny_call_def hroom (S.ext _ _ ho) hd hlim hcd F.body (hb s vals S.ext hvl) hcell (fun x hx => hloc x.1 (hmem x hx)) (fun h₀ hns old => ?_) F.co F.gen F.kind)
  have hns' : h₀.Ns (callEnv fd s.heap.objs.size a).locals fun x => (ps.zip vals).lookup x := by
    have e : (fun x => (ps.zip vals).reverse.lookup x) = fun x => (ps.zip vals).lookup x := funext fun x => lookup_reverse _ x (by rw [hfst]; exact hnd)
    rw [← e]; exact hns
  have hdn : ((ps.zip ds).map (·.1)).Nodup := by rw [zip_fst ps ds hlen]; exact hnd
  have hpl : ∀ x d, (ps.zip ds).lookup x = some d → x ∈ ps := fun x d e => by
    have := List.mem_map_of_mem (f := (·.1)) (mem_of_lookup e); rw [zip_fst ps ds hlen] at this; exact this
  have S' : St prog w G (callEnv fd s.heap.objs.size a :: l) (A.deeper (callEnv fd s.heap.objs.size a)) (callEnv fd s.heap.objs.size a) ((ps.zip ds).reverse ++ ρc) μc H h₀ := by
    refine S.callee old rfl rfl F.kind F.globals F.builtins hns' (fun x d hx hk => ?_) (fun x d hx hk => ?_) (fun x c hm => ?_) hap (fun x hk => ?_) hμ hndμ
    · rw [List.lookup_append, lookup_reverse _ x hdn] at hx
      cases q : (ps.zip ds).lookup x with
      | some d' => rw [q] at hx; cases hx; exact zip_lookup r ps x _ hnd q
      | none =>
        rw [q] at hx
        have := (hρ x d hx).1
        rw [kind] at hk; rw [hk] at this; cases this
    · rw [List.lookup_append, lookup_reverse _ x hdn] at hx
      cases q : (ps.zip ds).lookup x with
      | some d' => exact absurd (hloc x (hpl x d' q)) hk
      | none =>
        rw [q] at hx
        obtain ⟨h1, c, v, h2, ⟨o, h3, h3'⟩, h4⟩ := hρ x d hx
        exact ⟨.inr h1, c, v, h2, ⟨o, old c o h3, h3'⟩, h4⟩
    · obtain ⟨h1, h2, v, o, h3, h3'⟩ := hclos x c hm
      exact ⟨h1, h2, fun hk => absurd rfl (hcell (x, .cell) (mem_of_lookup hk)), v, o, old c o h3, h3'⟩
    · exact absurd rfl (hcell (x, .cell) (mem_of_lookup hk))
  refine (k H).run { s with heap := h₀, toks := _ } _ _ S' fun f ρ' μ' H' h' tk S'' st _ hx9 => ?_
  obtain ⟨af, hf, d, haf, hq⟩ := hx9
  have stp : Step G l X H s.heap H' h' := Step.leave S old rfl rfl hX st
  rcases haf with rfl | ⟨rfl, rfl⟩
  · cases hf with | ret rv => exact hq _ H' h' tk rv stp S''
  · cases hf; exact hq _ H' h' tk .none stp S''

/-- a function with cells of its own is called -/
theorem call_cells {fd : FuncData} {body : List Stmt} {a : Addr} {ps : List Str} {vals : List Value} {ds : List Dat} {s : Shared} {Q : Value → Shared → Prop} {E : Value → Shared → Prop} {X : List Addr}
    (S : St prog w G l A env ρ μ H s.heap) (F : FnFacts fd body H a) (hroom : A.depth < recursionLimit) (hb : BindsPos fd ps H ds.length) (r : Reps prog w H vals ds) (hlen : ps.length = ds.length) (hnd : ps.Nodup)
    (hloc : ∀ x ∈ ps, fd.scope.names.lookup x = some .local ∨ fd.scope.names.lookup x = some .cell) (hclo : fd.closure = []) (hcn : ((cellsFrom 0 fd.scope.names []).map (·.1)).Nodup)
    (hμ : ∀ p ∈ μc, p ∈ μ ∨ ∃ md, p.2 = .ro md ∧ ((p.1, md) ∈ μ ∨ (p.1, MD.ro md) ∈ μ)) (hndμ : (μc.map (·.1)).Nodup) (hX : ∀ p ∈ μc, p.2.w = true → p.1 ∈ X)
    (k : WP prog w (G := G) (callEnvC fd s.heap.objs.size a :: l) (A.deeper (callEnvC fd s.heap.objs.size a)) (callEnvC fd s.heap.objs.size a) (execs body (callEnvC fd s.heap.objs.size a)) (ps.zip ds) μc fun af ρ' μ' =>
      ∃ d, (af = .ret d ∨ (af = .next ∧ d = .none)) ∧ ∀ v H' h' tk, Rep prog w H' v d → Step G l X H s.heap H' h' → St prog w G (callEnvC fd s.heap.objs.size a :: l) (A.deeper (callEnvC fd s.heap.objs.size a)) (callEnvC fd s.heap.objs.size a) ρ' μ' H' h' → Q v { s with heap := h', toks := tk }) :
    wpAny (model prog w) A (call (.ref a) vals) Q E s := by
  obtain ⟨o, ho, hd⟩ := F.at_
  have hcd : s.heap.CodeRec fd.code fd.qualname := by
    obtain ⟨c, oc, vs, t, h1, h2, h3, h4⟩ := F.code
    exact ⟨c, oc, vs, t, h1, S.ext _ _ h2, h3, h4⟩
  have hvl : vals.length = ds.length := r.length
  have hfst : (ps.zip vals).map (·.1) = ps := zip_fst ps vals (hlen.trans hvl.symm)
  have hmem : ∀ x ∈ ps.zip vals, x.1 ∈ ps := fun x hx => by have := List.mem_map_of_mem (f := (·.1)) hx; rw [hfst] at this; exact this
  have hlim : s.heap.NoLimit := G.nolim.keeps fun b o e => S.ext _ _ (S.glob b o e)
  have kind : ∀ x, (callEnvC fd s.heap.objs.size a).kindOf x = fd.scope.names.lookup x := fun x => rfl
  have hcs : ∀ x, fd.scope.names.lookup x = some .cell → ((cellsFrom (s.heap.objs.size + 1) fd.scope.names []).lookup x).isSome = true := fun x hx => cellsFrom_some _ _ _ (.inl hx)
  refine wpAny_call (codeAny_call_function hroom (S.ext _ _ ho) hd F.co F.gen F.body hcd (hb s vals S.ext hvl _ _ _ _ ?_))
  rw [hclo]
  refine wpAny_newFunctionEnv_cells F.kind (fun x hx => (hloc x.1 (hmem x hx)).imp id fun q => ⟨q, hcs x.1 q⟩) fun env' he s' x => ?_
  subst he
  refine ⟨hlim.keeps x.toInCall.keep, codeAny_func ?_⟩
  have old := x.toInCall.keep
  have hns := x.toInCall.ns
  have hcell := x.cell
  have habove := x.above
  have hapart := x.apart
  obtain ⟨h₀, tk, rfl, _⟩ := x.done
  have look : ∀ (ys : List (Str × Value)) (m : Str → Option Value) (kindOf : Str → Option NameKind) (x : Str), (ys.map (·.1)).Nodup →
      (kindOf x = some .local → bindL kindOf ys m x = (ys.lookup x).or (m x)) ∧ (kindOf x ≠ some .local → bindC kindOf ys m x = (ys.lookup x).or (m x)) := by
    intro ys
    induction ys with
    | nil => intro m kindOf x _; exact ⟨fun _ => rfl, fun _ => rfl⟩
    | cons y ys ih =>
      obtain ⟨y, v⟩ := y
      intro m kindOf x hnd
      have hn := (List.nodup_cons.mp hnd).1
      have hn' : ys.lookup y = none := by
        cases z : ys.lookup y with
        | none => rfl
        | some b' => exact absurd (List.mem_map_of_mem (f := (·.1)) (mem_of_lookup z)) hn
      have ih' := fun m => ih m kindOf x (List.nodup_cons.mp hnd).2
      constructor
      · intro hk
        unfold bindL
        rw [(ih' _).1 hk, List.lookup_cons]
        by_cases q : x = y
        · subst q; rw [hn', if_pos hk, beq_self_eq_true]; simp
        · rw [beq_eq_false_iff_ne.mpr q]
          by_cases hy : kindOf y = some .local
          · rw [if_pos hy]; simp [q]
          · rw [if_neg hy]
      · intro hk
        unfold bindC
        rw [(ih' _).2 hk, List.lookup_cons]
        by_cases q : x = y
        · subst q; rw [hn', if_neg hk, beq_self_eq_true]; simp
        · rw [beq_eq_false_iff_ne.mpr q]
          by_cases hy : kindOf y = some .local
          · rw [if_pos hy]
          · rw [if_neg hy]; simp [q]
  have look' := fun y => look (ps.zip vals) (fun _ => none) (callEnvC fd s.heap.objs.size a).kindOf y (by rw [hfst]; exact hnd)
  have memlook : ∀ y c, (y, c) ∈ (callEnvC fd s.heap.objs.size a).cells → (callEnvC fd s.heap.objs.size a).cells.lookup y = some c := fun y c hm =>
    lookup_of_mem_nodup (cellsFrom_names fd.scope.names 0 (s.heap.objs.size + 1) [] [] rfl ▸ hcn) hm
  have S' : St prog w G (callEnvC fd s.heap.objs.size a :: l) (A.deeper (callEnvC fd s.heap.objs.size a)) (callEnvC fd s.heap.objs.size a) (ps.zip ds) μc H h₀ := by
    refine S.callee old rfl rfl F.kind F.globals F.builtins hns (fun y d hy hk => ?_) (fun y d hy hk => ?_) (fun y c hm => ?_) hapart (fun y hk => hcs y hk) hμ hndμ
    · obtain ⟨v, e, rv⟩ := zip_lookup r ps y _ hnd hy
      exact ⟨v, ((look' y).1 hk).trans (by rw [e]; rfl), rv⟩
    · obtain ⟨v, e, rv⟩ := zip_lookup r ps y _ hnd hy
      have hm : y ∈ ps := by have := List.mem_map_of_mem (f := (·.1)) (mem_of_lookup e); rw [hfst] at this; exact this
      have hk' := (hloc y hm).resolve_left hk
      obtain ⟨c, hc⟩ := Option.isSome_iff_exists.mp (hcs y hk')
      refine ⟨.inl hk', c, v, hc, ?_, rv⟩
      have q := hcell y c hc
      have q2 : bindC (callEnvC fd s.heap.objs.size a).kindOf (ps.zip vals) (fun _ => none) y = some v := ((look' y).2 hk).trans (by rw [e]; rfl)
      exact q2 ▸ q
    · have hlt := habove y c hm
      have hge : s.heap.objs.size ≤ c := Nat.le_of_lt hlt
      exact ⟨S.freshH hge, Nat.le_trans (Nat.le_trans S.base (Nat.le_of_lt S.ltL)) hge, fun _ => hlt, _, hcell y c (memlook y c hm)⟩
  refine (k H).run { s with heap := h₀, toks := tk } _ _ S' fun f ρ' μ' H' h' tk S'' st _ hx9 => ?_
  obtain ⟨af, hf, d, haf, hq⟩ := hx9
  have stp : Step G l X H s.heap H' h' := Step.leave S old rfl rfl hX st
  rcases haf with rfl | ⟨rfl, rfl⟩
  · cases hf with | ret rv => exact hq _ H' h' tk rv stp S''
  · cases hf; exact hq _ H' h' tk .none stp S''
end
end Mine
end
section
open PySem PySem.W PySem.Calls PyProof.Rows
set_option Elab.async false
set_option linter.unusedVariables false
namespace Mine
section
variable {prog : Program} {w : World} {G : GX} {l : List Env} {A : Around} {env env' : Env} {ρ ρ' ρc : Rho} {μ μ' μc : Mu} {H H' H₀ : PH} {h h' h₀ : Heap} {target : PySem.Expr}

theorem DictO.of {o : Obj} {kvs : List (Int × Value)} {a : Addr} (x : DictO prog w o kvs) (e : h.get? a = some o) : h.DictOf (intKind prog w) a kvs := let ⟨es, ep, r⟩ := x; ⟨o, es, ep, e, r⟩
theorem DictO.at {o : Obj} {kvs : List (Int × Value)} {a : Addr} (x : DictO prog w o kvs) (e : h.get? a = some o) : ∃ ep, h.DictAt (intKind prog w) a kvs ep := let ⟨es, ep, r⟩ := x; ⟨ep, o, es, e, r⟩
theorem DictO.to {kvs : List (Int × Value)} {a : Addr} (x : h.DictOf (intKind prog w) a kvs) : ∃ o, h.get? a = some o ∧ DictO prog w o kvs := let ⟨o, es, ep, e, r⟩ := x; ⟨o, e, es, ep, r⟩
theorem Rep.dictTy {s : Shared} {v : Value} {ps : List (Int × Int)} (S : Ext H s.heap) (r : Rep prog w H v (.dict ps)) : s.TypeIs v "dict" ∧ ∀ b, v = .ref b → ∃ ob, s.heap.get? b = some ob ∧ ob.dict = Option.none := by
  cases r with
  | @dict a o kvs ps e m d iv =>
    obtain ⟨es, ep, ⟨hc, hd, _⟩, _⟩ := d
    exact ⟨⟨o, S _ _ e, hc⟩, fun b eb => by cases eb; exact ⟨o, S _ _ e, hd⟩⟩
theorem IntVals.length {kvs : List (Int × Value)} {ps : List (Int × Int)} (h : IntVals kvs ps) : kvs.length = ps.length := by
  induction h with
  | nil => rfl
  | cons _ ih => exact congrArg (· + 1) ih
theorem IntVals.get {kvs : List (Int × Value)} {ps : List (Int × Int)} (h : IntVals kvs ps) {i : Nat} {k : Int} {v : Value} (e : kvs[i]? = some (k, v)) : ∃ x t, ps[i]? = some (k, x) ∧ v = .int x t := by
  induction h generalizing i with
  | nil => simp at e
  | @cons k' i' t' _ _ h ih =>
    cases i with
    | zero => simp at e; obtain ⟨rfl, rfl⟩ := e; exact ⟨i', t', rfl, rfl⟩
    | succ i => exact ih e

/-! ### views -/
theorem Tr.dictItems {v : Value} {ps : List (Int × Int)} (r : Rep prog w H v (.dict ps)) : Tr prog w G l A env ρ μ H (call (.builtin "dict.items") [v]) fun H' r => Rep prog w H' r (.items ps) := by
  cases r with
  | @dict a o kvs ps e m d iv =>
    refine .alloc (o := { cls := .type "dict_items", data := .fields #[.ref a] }) (r := fun b => .ref b) (fun b hb => .items (d := a) (addO_self ..) rfl rfl (Rep.mono (le_addO hb) (.dict e m d iv))) fun s Q E S hQ => ?_
    have hT : s.TypeIs (.ref a) "dict" := (Rep.dictTy S.ext (.dict e m d iv)).1
    exact call_meetsIn PySem.F.slot_dict_items hT PySem.F.entry_dict_items (PySem.F.args_dict_items_1 _) (meets_dict_items (intKind prog w) a m) ⟨⟨kvs, d.of (S.ext _ _ e)⟩, hQ s.toks⟩
theorem Tr.dictValues {v : Value} {ps : List (Int × Int)} (r : Rep prog w H v (.dict ps)) : Tr prog w G l A env ρ μ H (call (.builtin "dict.values") [v]) fun H' r => Rep prog w H' r (.vals ps) := by
  cases r with
  | @dict a o kvs ps e m d iv =>
    refine .alloc (o := { cls := .type "dict_values", data := .fields #[.ref a] }) (r := fun b => .ref b) (fun b hb => .vals (d := a) (addO_self ..) rfl rfl (Rep.mono (le_addO hb) (.dict e m d iv))) fun s Q E S hQ => ?_
    have hT : s.TypeIs (.ref a) "dict" := (Rep.dictTy S.ext (.dict e m d iv)).1
    exact call_meetsIn PySem.F.slot_dict_values hT PySem.F.entry_dict_values (PySem.F.args_dict_values_1 _) (meets_dict_values (intKind prog w) a m) ⟨⟨kvs, d.of (S.ext _ _ e)⟩, hQ s.toks⟩
theorem Ev.items {o : PySem.Expr} {apos pos : Pos} {ps : List (Int × Int)} (ho : Ev prog w G l A env ρ μ o (.dict ps))
    (hbase : attributeBase o "items" env (eval o env) = eval o env := by rfl) (hline : (apos.endLine == pos.line) = true := by rfl) : Ev prog w G l A env ρ μ (.Call (.Attribute o "items" apos) [] [] pos) (.items ps) :=
  .meth (ds := []) ho PySem.F.plainAttrs_dict PySem.F.slot_dict_items PySem.F.type_dict_items (fun H v s S r => Rep.dictTy S.ext r) .nil (fun H v vs r rs => by cases rs; exact Tr.dictItems r) hbase hline
theorem Ev.values {o : PySem.Expr} {apos pos : Pos} {ps : List (Int × Int)} (ho : Ev prog w G l A env ρ μ o (.dict ps))
    (hbase : attributeBase o "values" env (eval o env) = eval o env := by rfl) (hline : (apos.endLine == pos.line) = true := by rfl) : Ev prog w G l A env ρ μ (.Call (.Attribute o "values" apos) [] [] pos) (.vals ps) :=
  .meth (ds := []) ho PySem.F.plainAttrs_dict PySem.F.slot_dict_values PySem.F.type_dict_values (fun H v s S r => Rep.dictTy S.ext r) .nil (fun H v vs r rs => by cases rs; exact Tr.dictValues r) hbase hline

theorem entry_itemiter_iter : entryFor table "dict_itemiterator.__iter__" = some Builtin.«dict_keyiterator.__iter__» :=
  entryFor_alias (id' := "dict_keyiterator.__iter__") (by rw [fastTable_eq_tree]; kernel_rfl) rfl (by decide +kernel) (by rw [fastTable_eq_tree]; kernel_rfl)
theorem pyIter_itemiter {E : Value → Shared → Prop} {s : Shared} {it d : Addr} {i n ep : Nat} {a b : Value} {Q : Value → Shared → Prop} (hit : IsItemIter s.heap it d i n ep a b) (h : Q (.ref it) s) : wpAny (model prog w) A (pyIter (.ref it)) Q E s := by
  have hT : s.TypeIs (.ref it) "dict_itemiterator" := ⟨_, hit, rfl⟩
  refine wpAny_pyIter_slot hT F.slot_dict_itemiterator_iter (wpAny_call_entry F.slot_dict_itemiterator_iter hT entry_itemiter_iter ?_ (F.args_dict_itemiterator_iter_1 _))
  show wpAny _ _ (ret (.ref it)) _ _ s
  exact wpAny_pure ⟨_, rfl, "dict_itemiterator", _, hT, F.slot_dict_itemiterator_next.lookup, h⟩
theorem EvIt.vals {iter : PySem.Expr} {ps : List (Int × Int)} (hi : Ev prog w G l A env ρ μ iter (.vals ps)) (hh : A.handled = none) (hd : isTupT target = false := by rfl) : EvIt prog w G l A env ρ μ target iter (ps.map fun p => .int p.2) where
  run := fun H s Q E S hQ => by
    with_reducible refine (hi.at H).run s _ E S fun v H' h' tk st r => ?_
    cases r with
    | @vals vw d ov ps e1 e2 e3 r =>
      cases r with
      | @dict _ o kvs _ e m D iv =>
        have S' := S.step st
        obtain ⟨ep, hat⟩ := D.at (st.ext _ _ e)
        have hne : d ≠ h'.objs.size := Nat.ne_of_lt (st.ext.lt e)
        refine wpAny_pyIter_values (s := { s with heap := h', toks := tk }) ⟨ov, st.ext _ _ e1, e2, e3⟩ hat ?_
        refine hQ _ H' _ tk (st.trans (Step.push S' _)) ?_
        refine ItOk.one (n := kvs.length) S' e (by simp [iv.length]) (dead_back st.alive (fresh_get (Nat.le_refl _))) (KTurns.ofWalks (Walks.dictValues (knd := intKind prog w) hh _ d hne kvs ep) fun i v s Q E st q => letGo_valiter st.1 q)
          ⟨⟨_, Heap.get?_push_size _ rfl, rfl, rfl⟩, hat.push _⟩ (fun i h' si => let ⟨⟨o, ho, _⟩, _⟩ := si; ⟨o, ho⟩) (Walks.dictValues (knd := intKind prog w) hh _ d hne kvs ep).self fun i v h₂ x hp => ?_
        obtain ⟨k, hx⟩ := hp
        obtain ⟨y, t, hy, rfl⟩ := iv.get hx
        exact ⟨.int y, by rw [List.getElem?_map, hy]; rfl, .of x (.int y t) fun e => absurd (hd.symm.trans e) Bool.false_ne_true⟩
theorem EvIt.items {iter : PySem.Expr} {elts : List PySem.Expr} {kk : Nat} {tp : Pos} {ps : List (Int × Int)} (hi : Ev prog w G l A env ρ μ iter (.items ps)) (hh : A.handled = none) : EvIt prog w G l A env ρ μ (.Tuple elts kk tp) iter (ps.map fun p => .tup [.int p.1, .int p.2]) where
  run := fun H s Q E S hQ => by
    with_reducible refine (hi.at H).run s _ E S fun v H' h' tk st r => ?_
    cases r with
    | @items vw d ov ps e1 e2 e3 r =>
      cases r with
      | @dict _ o kvs _ e m D iv =>
        have S' := S.step st
        obtain ⟨ep, hat⟩ := D.at (st.ext _ _ e)
        have hne : d ≠ h'.objs.size := Nat.ne_of_lt (st.ext.lt e)
        refine wpAny_pyIter_items (s := { s with heap := h', toks := tk }) ⟨ov, st.ext _ _ e1, e2, e3⟩ hat ?_
        refine hQ _ H' _ tk (st.trans (Step.push S' _)) ?_
        refine ItOk.one (n := kvs.length) S' e (by simp [iv.length]) (dead_back st.alive (fresh_get (Nat.le_refl _))) (kti_itemsTurns (knd := intKind prog w) hh _ d hne kvs ep)
          ⟨⟨.none, .none, Heap.get?_push_size _ rfl⟩, hat.push _⟩ (fun i h' si => let ⟨⟨ok, ov, he⟩, _⟩ := si; ⟨_, he⟩) (fun i s Q E st q => let ⟨⟨ok, ov, he⟩, _⟩ := st; pyIter_itemiter he q) fun i v h₂ x hp => ?_
        obtain ⟨T, key, k, y, rfl, hx, hk, hT⟩ := hp
        obtain ⟨z, t, hy, rfl⟩ := iv.get hx
        obtain ⟨u, rfl⟩ := Value.isInt_shape hk
        exact ⟨_, by rw [List.getElem?_map, hy]; rfl, fun _ => ⟨T, [.int k u, .int z t], _, rfl, rfl, hT, .cons (.int k u) (.cons (.int z t) .nil)⟩, fun q => absurd q (fun q => Bool.false_ne_true q.symm)⟩
end
end Mine
end
section
open PySem PySem.W PySem.Calls PyProof.Rows
set_option Elab.async false
set_option linter.unusedVariables false
namespace Mine
section
variable {prog : Program} {w : World} {G : GX} {l : List Env} {A : Around} {env env' : Env} {ρ ρ' ρc : Rho} {μ μ' μc : Mu} {H H' H₀ : PH} {h h' h₀ : Heap} {target : PySem.Expr}

noncomputable def fnOk (K : Frag) (fd : FuncData) (ps : List Str) : Bool :=
  codeIn K fd.code fd.qualname && (fd.globals == mainGlobals) && (fd.builtins == builtinsNs) && (fd.scope.kind == .function) && !fd.scope.isCoroutine && !fd.scope.isGenerator && fd.closure.isEmpty && decide ps.Nodup
noncomputable def locOk (fd : FuncData) (ps : List Str) : Bool := (ps.all fun x => fd.scope.names.lookup x == some .local) && fd.scope.names.all fun x => x.2 != .cell
noncomputable def celOk (fd : FuncData) (ps : List Str) : Bool := (ps.all fun x => fd.scope.names.lookup x == some .local || fd.scope.names.lookup x == some .cell) && decide ((cellsFrom 0 fd.scope.names []).map (·.1)).Nodup
structure BindK (K : Frag) (fd : FuncData) (ps : List Str) (n : Nat) : Prop where
  run : ∀ (s : Shared) (vals : List Value), K.In s.heap → vals.length = n → BindsTo s fd ⟨vals, []⟩ (ps.zip vals)
theorem BindK.one {K : Frag} {fd : FuncData} {p₁ : Str} (h : ∀ v₁, bindArgs fd ⟨[v₁], []⟩ = pure [(p₁, v₁)]) : BindK K fd [p₁] 1 where
  run := fun s vals X hv => by
    obtain ⟨v₁, r₁, rfl, e₁⟩ := uncons hv
    cases List.eq_nil_of_length_eq_zero e₁
    exact BindsTo.of_eq (h v₁)
theorem BindK.two {K : Frag} {fd : FuncData} {p₁ p₂ : Str} (h : ∀ v₁ v₂, bindArgs fd ⟨[v₁, v₂], []⟩ = pure [(p₁, v₁), (p₂, v₂)]) : BindK K fd [p₁, p₂] 2 where
  run := fun s vals X hv => by
    obtain ⟨v₁, r₁, rfl, e₁⟩ := uncons hv
    obtain ⟨v₂, r₂, rfl, e₂⟩ := uncons e₁
    cases List.eq_nil_of_length_eq_zero e₂
    exact BindsTo.of_eq (h v₁ v₂)
theorem BindK.three {K : Frag} {fd : FuncData} {p₁ p₂ p₃ : Str} (h : ∀ v₁ v₂ v₃, bindArgs fd ⟨[v₁, v₂, v₃], []⟩ = pure [(p₁, v₁), (p₂, v₂), (p₃, v₃)]) : BindK K fd [p₁, p₂, p₃] 3 where
  run := fun s vals X hv => by
    obtain ⟨v₁, r₁, rfl, e₁⟩ := uncons hv
    obtain ⟨v₂, r₂, rfl, e₂⟩ := uncons e₁
    obtain ⟨v₃, r₃, rfl, e₃⟩ := uncons e₂
    cases List.eq_nil_of_length_eq_zero e₃
    exact BindsTo.of_eq (h v₁ v₂ v₃)
theorem BindK.five {K : Frag} {fd : FuncData} {p₁ p₂ p₃ p₄ p₅ : Str} (h : ∀ v₁ v₂ v₃ v₄ v₅, bindArgs fd ⟨[v₁, v₂, v₃, v₄, v₅], []⟩ = pure [(p₁, v₁), (p₂, v₂), (p₃, v₃), (p₄, v₄), (p₅, v₅)]) : BindK K fd [p₁, p₂, p₃, p₄, p₅] 5 where
  run := fun s vals X hv => by
    obtain ⟨v₁, r₁, rfl, e₁⟩ := uncons hv
    obtain ⟨v₂, r₂, rfl, e₂⟩ := uncons e₁
    obtain ⟨v₃, r₃, rfl, e₃⟩ := uncons e₂
    obtain ⟨v₄, r₄, rfl, e₄⟩ := uncons e₃
    obtain ⟨v₅, r₅, rfl, e₅⟩ := uncons e₄
    cases List.eq_nil_of_length_eq_zero e₅
    exact BindsTo.of_eq (h v₁ v₂ v₃ v₄ v₅)
theorem fnFacts {K : Frag} {fd : FuncData} {body : List Stmt} {a : Addr} {oc : Value} {od : Option Addr} {osl : Array (Option Value)} {ps : List Str} (XK : K.In G.hG) (e : K.lookup a = some ⟨oc, od, .func fd, osl⟩) (hbody : fd.body = .stmts body) (ok : fnOk K fd ps = true) (glob : ∀ b o, G.hG.get? b = some o → H b = some o) :
    FnFacts fd body H a ∧ fd.closure = [] ∧ ps.Nodup := by
  unfold fnOk at ok
  simp only [Bool.and_eq_true, beq_iff_eq, Bool.not_eq_true', decide_eq_true_eq, List.isEmpty_iff] at ok
  obtain ⟨⟨⟨⟨⟨⟨⟨h1, h2⟩, h3⟩, h4⟩, h5⟩, h6⟩, h7⟩, h8⟩ := ok
  refine ⟨⟨⟨_, glob _ _ (XK _ _ e), rfl⟩, ?_, hbody, h2, h3, h4, h5, h6⟩, h7, h8⟩
  obtain ⟨c, oc, vs, t, q1, q2, q3, q4⟩ := codeRec_of XK h1
  exact ⟨c, oc, vs, t, q1, glob _ _ q2, q3, q4⟩
/-- a plain function of the written part -/
theorem CallSem.fn {K : Frag} {fd : FuncData} {body : List Stmt} {a : Addr} {oc : Value} {od : Option Addr} {osl : Array (Option Value)} {ps : List Str} {ds : List Dat} {d : Dat} (XK : K.In G.hG) (e : K.lookup a = some ⟨oc, od, .func fd, osl⟩) (hbody : fd.body = .stmts body) (ok : fnOk K fd ps = true) (ok' : locOk fd ps = true)
    (hb : BindK K fd ps ds.length) (hroom : A.depth < recursionLimit) (hlen : ps.length = ds.length)
    (k : ∀ L, WP prog w G (callEnv fd L a :: l) (A.deeper (callEnv fd L a)) (callEnv fd L a) (execs body (callEnv fd L a)) (ps.zip ds).reverse [] fun af _ _ => af = .ret d) : CallSem prog w G l A env ρ μ (.ref a) ds d := fun H vs r => by
  refine ⟨fun s Q E S hQ => ?_⟩
  obtain ⟨F, hclo, hnd⟩ := fnFacts XK e hbody ok S.glob
  unfold locOk at ok'
  simp only [Bool.and_eq_true, List.all_eq_true, beq_iff_eq, bne_iff_ne] at ok'
  refine call_plain (ρc := []) (μc := []) (X := []) S F hroom (fun s' vals x hv => hb.run s' vals (XK.keeps fun b o q => x _ _ (S.glob b o q)) hv) r hlen hnd ok'.1 ok'.2 (by rw [hclo]; intro _ _ q; cases q) (by rw [hclo]; exact .nil) (fun _ _ q => nomatch q) (fun _ q => nomatch q) .nil (fun _ q => nomatch q) ?_
  rw [List.append_nil]
  exact (k _).mono fun af ρ' μ' e => ⟨d, .inl e, fun v H' h' tk rv st _ => hQ v H' h' tk st rv⟩
/-- one with cells -/
theorem CallSem.fnC {K : Frag} {fd : FuncData} {body : List Stmt} {a : Addr} {oc : Value} {od : Option Addr} {osl : Array (Option Value)} {ps : List Str} {ds : List Dat} {d : Dat} (XK : K.In G.hG) (e : K.lookup a = some ⟨oc, od, .func fd, osl⟩) (hbody : fd.body = .stmts body) (ok : fnOk K fd ps = true) (ok' : celOk fd ps = true)
    (hb : BindK K fd ps ds.length) (hroom : A.depth < recursionLimit) (hlen : ps.length = ds.length)
    (k : ∀ L, WP prog w G (callEnvC fd L a :: l) (A.deeper (callEnvC fd L a)) (callEnvC fd L a) (execs body (callEnvC fd L a)) (ps.zip ds) [] fun af _ _ => af = .ret d) : CallSem prog w G l A env ρ μ (.ref a) ds d := fun H vs r => by
  refine ⟨fun s Q E S hQ => ?_⟩
  obtain ⟨F, hclo, hnd⟩ := fnFacts XK e hbody ok S.glob
  unfold celOk at ok'
  simp only [Bool.and_eq_true, List.all_eq_true, Bool.or_eq_true, beq_iff_eq, decide_eq_true_eq] at ok'
  refine call_cells (μc := []) (X := []) S F hroom (fun s' vals x hv => hb.run s' vals (XK.keeps fun b o q => x _ _ (S.glob b o q)) hv) r hlen hnd ok'.1 hclo ok'.2 (fun _ q => nomatch q) .nil (fun _ q => nomatch q) ?_
  exact (k _).mono fun af ρ' μ' e => ⟨d, .inl e, fun v H' h' tk rv st _ => hQ v H' h' tk st rv⟩
end
end Mine
end
section
open PySem PySem.W PySem.Calls PyProof.Rows
set_option Elab.async false
set_option linter.unusedVariables false
namespace Mine

noncomputable def ival (ps : List (Int × Int)) (k : Int) : Option Int := (ps.find? fun p => decide (p.1 = k)).map (·.2)
noncomputable def iput (ps : List (Int × Int)) (k x : Int) : List (Int × Int) := if ps.any (fun p => decide (p.1 = k)) then ps.map (fun p => if p.1 = k then (p.1, x) else p) else ps ++ [(k, x)]
theorem iput_length (ps : List (Int × Int)) (k x : Int) : (iput ps k x).length ≤ ps.length + 1 := by unfold iput; split <;> simp

section
variable {prog : Program} {w : World} {G : GX} {l : List Env} {A : Around} {env env' : Env} {ρ ρ' ρc : Rho} {μ μ' μc μ₁ μ₂ : Mu} {H H' H₀ : PH} {h h' h₀ : Heap} {target : PySem.Expr}

theorem IntVals.valueAt {kvs : List (Int × Value)} {ps : List (Int × Int)} (h : IntVals kvs ps) (k : Int) : (∀ x, ival ps k = some x → ∃ t, PySem.valueAt kvs k = some (.int x t)) ∧ (ival ps k = none → PySem.valueAt kvs k = none) := by
  induction h with
  | nil => exact ⟨fun x e => (nomatch e), fun _ => rfl⟩
  | @cons k' i' t' _ _ h ih =>
    unfold ival PySem.valueAt at ih ⊢
    rw [List.find?_cons, List.find?_cons]
    by_cases q : k' = k
    · subst q; simp
    · simp only [decide_eq_false q]; exact ih
theorem IntVals.map {k x : Int} {t : Tok} {kvs : List (Int × Value)} {ps : List (Int × Int)} (h : IntVals kvs ps) : IntVals (kvs.map fun kv => if kv.1 = k then (kv.1, .int x t) else kv) (ps.map fun p => if p.1 = k then (p.1, x) else p) := by
  induction h with
  | nil => exact .nil
  | @cons k' i' t' _ _ h ih =>
    rw [List.map_cons, List.map_cons]
    by_cases q : k' = k
    · simp only [q, if_true]; exact .cons ih
    · simp only [q, if_false]; exact .cons ih
theorem IntVals.push {k x : Int} {t : Tok} {kvs : List (Int × Value)} {ps : List (Int × Int)} (h : IntVals kvs ps) : IntVals (kvs ++ [(k, .int x t)]) (ps ++ [(k, x)]) := by
  induction h with
  | nil => exact .cons .nil
  | cons _ ih => exact .cons ih
theorem IntVals.any {k : Int} {kvs : List (Int × Value)} {ps : List (Int × Int)} (h : IntVals kvs ps) : kvs.any (fun kv => decide (kv.1 = k)) = ps.any (fun p => decide (p.1 = k)) := by
  induction h with
  | nil => rfl
  | cons _ ih => rw [List.any_cons, List.any_cons, ih]
theorem IntVals.stored {kvs : List (Int × Value)} {ps : List (Int × Int)} (h : IntVals kvs ps) (k x : Int) (t : Tok) : IntVals (PySem.stored kvs k (.int x t)) (iput ps k x) := by
  unfold PySem.stored iput
  rw [h.any]
  split
  · exact h.map
  · exact h.push

theorem St.ownAt {p : Addr} {md : MD} (S : St prog w G l A env ρ μ H h) (hm : (p, md) ∈ μ ∨ (p, MD.ro md) ∈ μ) : H p = none ∧ G.hG.objs.size ≤ p ∧ ∃ o, h.get? p = some o ∧ MRep prog w H o md := by
  rcases hm with hm | hm
  · obtain ⟨h1, h2, _, _, o, ho, hr⟩ := S.own _ hm; exact ⟨h1, h2, o, ho, hr⟩
  · obtain ⟨h1, h2, _, _, o, ho, hr⟩ := S.own _ hm; exact ⟨h1, h2, o, ho, hr⟩
theorem notSys {p : Addr} (h : G.hG.objs.size ≤ p) : (p == sysModules) = false := beq_eq_false_iff_ne.mpr fun e => absurd G.sm (Nat.not_lt.mpr (e ▸ h))

theorem isInt_self (k : Int) (t : Tok) : (intKind prog w).is k (.int k t) = true := by show Value.isInt k (.int k t) = true; simp [Value.isInt]
/-! ### reading a dictionary -/
theorem CmpSem.inOwn {k : Int} {p : Addr} {ps : List (Int × Int)} (hm : (p, MD.dict ps) ∈ μ ∨ (p, MD.ro (.dict ps)) ∈ μ) : CmpSem prog w G l A env ρ μ .In (.int k) (.val (.ref p)) (ival ps k).isSome := fun H va vb ra rb => by
  obtain ⟨t, rfl⟩ := ra.isInt
  cases rb.isVal
  refine ⟨fun s Q E S hQ => ?_⟩
  obtain ⟨h1, h2, o, ho, kvs, d, iv⟩ := S.ownAt hm
  refine wpAny_in_of (knd := intKind prog w) (k := k) (isInt_self k t) (notSys h2) (d.of ho).mapOf ?_
  refine hQ _ H s.heap _ (.refl S.ext S.tabs) ?_
  have q := iv.valueAt k
  cases z : ival ps k with
  | some x => obtain ⟨u, e⟩ := q.1 x z; rw [e]; rfl
  | none => rw [q.2 z]; rfl
theorem Ev.get2 {o e₁ e₂ : PySem.Expr} {apos pos : Pos} {ps : List (Int × Int)} {k d : Int} (ho : Ev prog w G l A env ρ μ o (.dict ps)) (he : Evs prog w G l A env ρ μ [e₁, e₂] [.int k, .int d])
    (hbase : attributeBase o "get" env (eval o env) = eval o env := by rfl) (hline : (apos.endLine == pos.line) = true := by rfl) : Ev prog w G l A env ρ μ (.Call (.Attribute o "get" apos) [e₁, e₂] [] pos) (.int ((ival ps k).getD d)) :=
  .meth ho PySem.F.plainAttrs_dict PySem.F.slot_dict_get PySem.F.type_dict_get (fun H v s S r => Rep.dictTy S.ext r) he (fun H v vs r rs => by
    obtain ⟨v₁, v₂, rfl, r1, r2⟩ := rs.two
    obtain ⟨t, rfl⟩ := r1.isInt
    obtain ⟨u, rfl⟩ := r2.isInt
    cases r with
    | @dict a o kvs ps e m dd iv =>
      refine ⟨fun s Q E S hQ => ?_⟩
      have hT : s.TypeIs (.ref a) "dict" := (Rep.dictTy S.ext (.dict e m dd iv)).1
      have q := iv.valueAt k
      refine call_meetsIn PySem.F.slot_dict_get hT PySem.F.entry_dict_get (PySem.F.args_dict_get_3 _ _ _) (meets_dict_get_default (intKind prog w) (k := k) a (isInt_self k t) m (.int d u)) ⟨_, (dd.of (S.ext _ _ e)).mapOf, ?_⟩
      have hr : Rep prog w H ((PySem.valueAt kvs k).getD (.int d u)) (.int ((ival ps k).getD d)) := by
        cases z : ival ps k with
        | some x => obtain ⟨u', e⟩ := q.1 x z; rw [e]; exact .int x u'
        | none => rw [q.2 z]; exact .int d u
      exact hQ _ H s.heap _ (.refl S.ext S.tabs) hr) hbase hline (by simp)

/-! ### writing own objects -/
inductive SetTo : MD → Int → Dat → MD → Prop
  | dict {ps : List (Int × Int)} {k x : Int} (h : ps.length ≤ 16777216) : SetTo (.dict ps) k (.int x) (.dict (iput ps k x))
  | list {ds : List Dat} {k : Int} {d : Dat} (h0 : 0 ≤ k) (hk : k < 2 ^ 63) (hl : k.toNat < ds.length) : SetTo (.list ds) k d (.list (ds.set k.toNat d))
inductive GetAt : MD → Int → Dat → Prop
  | dict {ps : List (Int × Int)} {k x : Int} (h : ival ps k = some x) : GetAt (.dict ps) k (.int x)
  | list {ds : List Dat} {k : Int} {d : Dat} (h0 : 0 ≤ k) (hk : k < 2 ^ 63) (hd : ds[k.toNat]? = some d) : GetAt (.list ds) k d
theorem SetTo.own {md md' : MD} {k : Int} {d : Dat} (h : SetTo md k d md') : md.w = true ∧ md'.w = true := by cases h <;> exact ⟨rfl, rfl⟩
theorem Reps.set {vs : List Value} {ds : List Dat} {v : Value} {d : Dat} (r : Reps prog w H vs ds) (rv : Rep prog w H v d) : ∀ i, Reps prog w H (vs.set i v) (ds.set i d) := by
  induction vs generalizing ds with
  | nil => cases r; exact fun i => .nil
  | cons u vs ih =>
    cases r with
    | cons h r =>
      intro i
      cases i with
      | zero => exact .cons rv r
      | succ i => exact .cons h (ih r i)
section
variable {s : Shared} {E : Value → Shared → Prop}
theorem Obj.mapSeq_set_plain (its : Array Value) (n j : Nat) (v : Value) : Obj.mapSeq (·.setIfInBounds j v) { cls := .type "list", data := .seq its n } = { cls := .type "list", data := .seq (its.setIfInBounds j v) n } := by simp [Obj.mapSeq]
theorem setItem_plain {l : Addr} {vs : List Value} {n : Nat} {k : Int} {t : Tok} {v : Value} {Q : Unit → Shared → Prop} (ho : s.heap.get? l = some (listO vs n))
    (h0 : 0 ≤ k) (hfit : k < 2 ^ 63) (hn : k.toNat < vs.length)
    (hQ : ∀ h', (∃ n', h'.get? l = some (listO (vs.set k.toNat v) n')) → Heap.SameBut l s.heap h' → Q () { s with heap := h' }) :
    wpAny (model prog w) A (setItem (.ref l) (.int k t) v) Q E s := by
  have hT : s.TypeIs (.ref l) "list" := ⟨_, ho, rfl⟩
  unfold setItem
  try with_reducible refine wpAny_holding ?_
  first | refine wpAny_bind (wpAny_pure ?_) | skip
  refine wpAny_bind (wpAny_sequenceKey hT (by decide) ?_)
  refine wpAny_bind (wpAny_callSpecial?_slot (name := Str.ofString "__setitem__") hT PySem.slot_list_setitem
    (wpAny_call_entry PySem.slot_list_setitem hT PySem.entry_list_setitem ?_ (PySem.args_list_setitem _ _ _)))
  show wpAny _ _ (Builtin.List.listSubscript? (.int k t) >>= _) _ _ s
  refine wpAny_bind (wpAny_listSubscript_int (fitsIndex_of h0 hfit) ?_)
  clear hfit
  obtain ⟨j, rfl⟩ := Int.eq_ofNat_of_zero_le h0
  have hj : j < vs.toArray.size := by simpa using hn
  have hx' : vs.toArray[j]? = some vs.toArray[j] := Array.getElem?_eq_getElem hj
  show wpAny _ _ ((seqItemAt l j >>= fun r => pure (r.map (j, ·))) >>= _) _ _ s
  refine wpAny_bind (wpAny_bind (wpAny_seqItemAt ho rfl (wpAny_pure ?_)))
  rw [hx']
  show wpAny _ _ (setSeqItemAt l j v >>= _) _ _ s
  have hfin : ∃ n', (s.heap.update l (Obj.mapSeq (·.setIfInBounds j v))).get? l = some (listO (vs.set j v) n') :=
    ⟨n, by rw [Heap.get?_update_self _ ho (by rw [Obj.mapSeq_set_plain]; rfl), Obj.mapSeq_set_plain]; simp⟩
  refine wpAny_bind (wpAny_setSeqItemAt ho rfl ?_)
  first
    | exact wpAny_bind (wpAny_pure (wpAny_pure ⟨.none, rfl, wpAny_pure (hQ _ hfin (Heap.SameBut.update ..))⟩))
    | exact wpAny_pure ⟨.none, rfl, wpAny_pure (hQ _ hfin (Heap.SameBut.update ..))⟩
theorem MuLe.set {p : Addr} {md md' : MD} (hw : md.w = true) : MuLe (μ₁ ++ (p, md) :: μ₂) h (μ₁ ++ (p, md') :: μ₂) where
  all := fun q hq => .inl (by
    rcases List.mem_append.mp hq with z | z
    · exact List.mem_map_of_mem (List.mem_append_left _ z)
    · rcases List.mem_cons.mp z with rfl | z
      · exact List.mem_map.mpr ⟨(p, md), List.mem_append_right _ (.head _), rfl⟩
      · exact List.mem_map_of_mem (List.mem_append_right _ (.tail _ z)))
  own := fun q hq hwq => .inl (by
    rcases List.mem_append.mp hq with z | z
    · exact ⟨q, List.mem_append_left _ z, rfl, hwq⟩
    · rcases List.mem_cons.mp z with rfl | z
      · exact ⟨(p, md), List.mem_append_right _ (.head _), rfl, hw⟩
      · exact ⟨q, List.mem_append_right _ (.tail _ z), rfl, hwq⟩)
theorem setItem_own {p : Addr} {md md' : MD} {k : Int} {d : Dat} {iv v : Value} {Q : Unit → Shared → Prop} (S : St prog w G l A env ρ (μ₁ ++ (p, md) :: μ₂) H s.heap) (T : SetTo md k d md') (ri : Rep prog w H iv (.int k)) (rv : Rep prog w H v d)
    (hQ : ∀ h' tk, St prog w G l A env ρ (μ₁ ++ (p, md') :: μ₂) H h' → Step G l (wr env (μ₁ ++ (p, md) :: μ₂)) H s.heap H h' → Q () { s with heap := h', toks := tk }) : wpAny (model prog w) A (setItem (.ref p) iv v) Q E s := by
  obtain ⟨t, rfl⟩ := ri.isInt
  obtain ⟨h1, h2, o, ho, hr⟩ := S.ownAt (.inl (List.mem_append_right _ (.head _)))
  cases T with
  | dict hsz =>
    obtain ⟨u, rfl⟩ := rv.isInt
    obtain ⟨kvs, D, iv⟩ := hr
    refine wpAny_setItem_pairs (knd := intKind prog w) (k := k) (isInt_self k t) (D.of ho) (fun h' hd hs => ?_) (sizeLine_of (by rw [iv.length]; exact hsz))
    obtain ⟨o', ho', D'⟩ := DictO.to hd
    obtain ⟨S', st⟩ := S.setOwn rfl ho' (md' := .dict _) ⟨_, D', iv.stored k _ u⟩ hs
    exact hQ h' _ S' st
  | list h0 hk hl =>
    obtain ⟨vs, n, rfl, rs⟩ := hr
    refine setItem_plain ho h0 hk (by rw [rs.length]; exact hl) fun h' hn hs => ?_
    obtain ⟨n', ho'⟩ := hn
    obtain ⟨S', st⟩ := S.setOwn rfl ho' (md' := .list _) ⟨_, n', rfl, rs.set rv _⟩ hs
    exact hQ h' _ S' st
theorem getItem_own {p : Addr} {md : MD} {k : Int} {d : Dat} {iv : Value} {Q : Value → Shared → Prop} (S : St prog w G l A env ρ μ H s.heap) (hm : (p, md) ∈ μ ∨ (p, MD.ro md) ∈ μ) (T : GetAt md k d) (ri : Rep prog w H iv (.int k))
    (hQ : ∀ v tk, Rep prog w H v d → Q v { s with toks := tk }) : wpAny (model prog w) A (getItem (.ref p) iv) Q E s := by
  obtain ⟨t, rfl⟩ := ri.isInt
  obtain ⟨h1, h2, o, ho, hr⟩ := S.ownAt hm
  cases T with
  | dict hx =>
    obtain ⟨kvs, D, iv⟩ := hr
    obtain ⟨u, e⟩ := (iv.valueAt k).1 _ hx
    exact wpAny_getItem_of (knd := intKind prog w) (k := k) (isInt_self k t) (D.of ho).mapOf e (hQ _ _ (.int _ u))
  | list h0 hk hd =>
    obtain ⟨vs, n, rfl, rs⟩ := hr
    obtain ⟨v, hv, rv⟩ := rs.get hd
    exact wpAny_getItem_list (items := vs.toArray) ⟨_, ho, rfl, n, rfl⟩ h0 hk (by simpa using hv) (hQ v s.toks rv)
end
theorem TS.setItem {p : Addr} {md md' : MD} {k : Int} {d : Dat} {iv v : Value} {Φ : PH → Unit → Rho → Mu → Prop} (T : SetTo md k d md') (ri : Rep prog w H iv (.int k)) (rv : Rep prog w H v d) (h : Φ H () ρ (μ₁ ++ (p, md') :: μ₂)) :
    TS prog w G l A env H (setItem (.ref p) iv v) ρ (μ₁ ++ (p, md) :: μ₂) Φ :=
  ⟨fun s Q E S hQ => setItem_own S T ri rv fun h' tk S' st => hQ () _ _ H h' tk S' st (MuLe.set T.own.1) h⟩
theorem TS.release {vs keep : List Value} {f : Unit → Sem Flow} {Φ : PH → Flow → Rho → Mu → Prop} (h : TS prog w G l A env H (f ()) ρ μ Φ) : TS prog w G l A env H (release vs keep >>= f) ρ μ Φ := by
  refine ⟨fun s Q E S hQ => ?_⟩
  with_reducible refine wpAny_bind (wpAny_release ?_)
  exact h.run s Q E S hQ
noncomputable def relOrd (i : PySem.Expr) (a b : List Value) : List Value := match i with
  | .Slice _ _ none _ => a
  | _ => b
theorem assign_Sub (o i : PySem.Expr) (sp : Pos) (env : Env) (v : Value) : PySem.assign (.Subscript o i sp) env v = (do
      let ov ← holding [v] (eval o env)
      let iv ← holding [v, ov] (eval i env)
      PySem.standAt sp
      holding [v, ov, iv] (setItem ov iv v)
      release (relOrd i [iv, v, ov] [v, ov, iv]) []) := rfl
/-- o[i] = e -/
theorem WP.setSub {o i value : PySem.Expr} {sp pos : Pos} {p : Addr} {md md' : MD} {k : Int} {d : Dat} {Φ : AF → Rho → Mu → Prop} (hv : Ev prog w G l A env ρ (μ₁ ++ (p, md) :: μ₂) value d) (ho : Ev prog w G l A env ρ (μ₁ ++ (p, md) :: μ₂) o (.val (.ref p)))
    (hi : Ev prog w G l A env ρ (μ₁ ++ (p, md) :: μ₂) i (.int k)) (T : SetTo md k d md') (h : Φ .next ρ (μ₁ ++ (p, md') :: μ₂)) (hs : swapsWithSole [.Subscript o i sp] value pos.line env = pure false := by rfl)
    (hw : swappedStores [.Subscript o i sp] value env = pure none := by rfl) : WP prog w G l A env (exec (.Assign [.Subscript o i sp] value pos) env) ρ (μ₁ ++ (p, md) :: μ₂) Φ := fun H => by
  rw [exec_Assign, hs]
  refine TS.standAt ?_
  simp only [pure_bind, Bool.false_eq_true, if_false, hw]
  refine .bindTr (hv H) fun v H₁ k1 rv => ?_
  show TS prog w G l A env H₁ (do assignAll v [PySem.assign (.Subscript o i sp) env]; pure Flow.next) ρ _ _
  show TS prog w G l A env H₁ (do PySem.assign (.Subscript o i sp) env v; pure Flow.next) ρ _ _
  rw [assign_Sub]
  simp only [bind_assoc]
  refine .bindTr (ho H₁).holding fun ov H₂ k2 ro => ?_
  cases ro.isVal
  refine .bindTr (hi H₂).holding fun iv H₃ k3 ri => TS.standAt ?_
  refine (TS.holding (TS.setItem (Φ := fun H' _ ρ' μ' => ρ' = ρ ∧ μ' = μ₁ ++ (p, md') :: μ₂) T ri ((rv.mono k2).mono k3) ⟨rfl, rfl⟩)).bind fun _ H₄ ρ' μ' k4 hx9 => ?_
  obtain ⟨e1, e2⟩ := hx9
  subst e1; subst e2
  exact TS.release (TS.pure ⟨_, .next, h⟩)
/-- o[i] += e -/
theorem WP.augSub {o i value : PySem.Expr} {sp pos : Pos} {p : Addr} {md md' : MD} {k a b : Int} {Φ : AF → Rho → Mu → Prop} (ho : Ev prog w G l A env ρ (μ₁ ++ (p, md) :: μ₂) o (.val (.ref p)))
    (hi : Ev prog w G l A env ρ (μ₁ ++ (p, md) :: μ₂) i (.int k)) (hv : Ev prog w G l A env ρ (μ₁ ++ (p, md) :: μ₂) value (.int b)) (hg : GetAt md k (.int a)) (T : SetTo md k (.int (a + b)) md') (h : Φ .next ρ (μ₁ ++ (p, md') :: μ₂))
    (hpl : plainSlice i = true := by rfl) : WP prog w G l A env (exec (.AugAssign (.Subscript o i sp) .Add value pos) env) ρ (μ₁ ++ (p, md) :: μ₂) Φ := fun H => by
  rw [arm_exec_AugAssign_3]
  refine TS.standAt (.bindTr (ho H) fun ov H₁ k1 ro => ?_)
  cases ro.isVal
  refine .bindTr (hi H₁).holding fun iv H₂ k2 ri => ?_
  have hnew : Tr prog w G l A env ρ (μ₁ ++ (p, md) :: μ₂) H₂ (do
      PySem.standAt sp
      let old ← getItem (.ref p) iv
      let v ← holding [old] (eval value env)
      PySem.standAt pos
      operate [old, v] (inplaceOp .Add old v)) fun H' v => Rep prog w H' v (.int (a + b)) := by
    refine Tr.standAt ?_
    have hget : Tr prog w G l A env ρ (μ₁ ++ (p, md) :: μ₂) H₂ (getItem (.ref p) iv) fun H' v => Rep prog w H' v (.int a) :=
      ⟨fun s Q E S hQ => getItem_own S (.inl (List.mem_append_right _ (.head _))) hg ri fun v tk r => hQ v H₂ s.heap tk (.refl S.ext S.tabs) r⟩
    refine hget.bind fun old H₃ k3 rold => (hv H₃).holding.bind fun v H₄ k4 rv => Tr.standAt (Tr.operate (iaddSem H₄ _ _ (rold.mono k4) rv))
  refine .bindTr hnew.holding fun new H₃ k3 rn => TS.standAt ?_
  have e : augStore i (.ref p) iv new = (do holding [new, .ref p, iv] (setItem (.ref p) iv new); release [new, .ref p, iv] []; pure .next) := by
    cases i <;> first | rfl | cases hpl
  rw [e]
  refine (TS.holding (TS.setItem (Φ := fun H' _ ρ' μ' => ρ' = ρ ∧ μ' = μ₁ ++ (p, md') :: μ₂) T (ri.mono k3) rn ⟨rfl, rfl⟩)).bind fun _ H₄ ρ' μ' k4 hx9 => ?_
  obtain ⟨e1, e2⟩ := hx9
  subst e1; subst e2
  exact TS.release (TS.pure ⟨_, .next, h⟩)
end
end Mine
end
section
open PySem PySem.W PySem.Calls PyProof.Rows
set_option Elab.async false
set_option linter.unusedVariables false
namespace Mine
section
variable {prog : Program} {w : World} {G : GX} {l : List Env} {A : Around} {env env' : Env} {ρ ρ' ρc : Rho} {μ μ' μc μ₁ μ₂ : Mu} {H H' H₀ : PH} {h h' h₀ : Heap} {target : PySem.Expr}

/-! ### laying own objects -/
theorem MuLe.newOne {p : Addr} {md : MD} (hp : h.get? p = none) : MuLe μ h ((p, md) :: μ) where
  all := fun q hq => (List.mem_cons.mp hq).elim (fun e => .inr (by rw [e]; exact hp)) fun z => .inl (List.mem_map_of_mem z)
  own := fun q hq hw => (List.mem_cons.mp hq).elim (fun e => .inr (by rw [e]; exact hp)) fun z => .inl ⟨q, z, rfl, hw⟩
theorem TS.alloc {α : Type} {t : Sem α} {o : Obj} {r : Addr → α} {md : MD} {Φ : PH → α → Rho → Mu → Prop} (hr : MRep prog w H o md) (hΦ : ∀ p, Φ H (r p) ρ ((p, md) :: μ))
    (h : ∀ (s : Shared) (Q : α → Shared → Prop) (E : Value → Shared → Prop), St prog w G l A env ρ μ H s.heap → (∀ tk, Q (r s.heap.objs.size) { s with heap := s.heap.push o, toks := tk }) → wpAny (model prog w) A t Q E s)
    (hf : o.isFreed = false := by rfl) : TS prog w G l A env H t ρ μ Φ := by
  refine ⟨fun s Q E S hQ => h s Q E S fun tk => ?_⟩
  obtain ⟨S', st⟩ := S.newOwn hf hr
  exact hQ _ ρ _ H _ tk S' (st.weakX fun _ q => nomatch q) (.newOne (fresh_get (Nat.le_refl _))) (hΦ _)

noncomputable def EvO (prog : Program) (w : World) (G : GX) (l : List Env) (A : Around) (env : Env) (ρ : Rho) (μ : Mu) (e : PySem.Expr) (Ψ : Dat → Mu → Prop) : Prop :=
  ∀ H, TS prog w G l A env H (eval e env) ρ μ fun H' v ρ' μ' => ρ' = ρ ∧ ∃ d, Rep prog w H' v d ∧ Ψ d μ'
theorem EvO.pure {e : PySem.Expr} {d : Dat} {Ψ : Dat → Mu → Prop} (h : Ev prog w G l A env ρ μ e d) (k : Ψ d μ) : EvO prog w G l A env ρ μ e Ψ := fun H => .ofTr (h H) fun H' v _ r => ⟨rfl, d, r, k⟩
inductive EvOs (prog : Program) (w : World) (G : GX) (l : List Env) (A : Around) (env : Env) (ρ : Rho) : Mu → List PySem.Expr → (List Dat → Mu → Prop) → Prop
  | nil {μ : Mu} {Ψ : List Dat → Mu → Prop} (k : Ψ [] μ) : EvOs prog w G l A env ρ μ [] Ψ
  | cons {μ : Mu} {e : PySem.Expr} {es : List PySem.Expr} {Ψ : List Dat → Mu → Prop} (Ψ' : Dat → Mu → Prop) (h : EvO prog w G l A env ρ μ e Ψ') (hs : ∀ d μ', Ψ' d μ' → EvOs prog w G l A env ρ μ' es fun ds μ'' => Ψ (d :: ds) μ'') (he : plainArg e = true := by rfl) : EvOs prog w G l A env ρ μ (e :: es) Ψ
theorem EvOs.run {es : List PySem.Expr} {Ψ : List Dat → Mu → Prop} (h : EvOs prog w G l A env ρ μ es Ψ) (pos : Pos) :
    ∀ H, TS prog w G l A env H (spliced (backTo pos (starEach es env))) ρ μ fun H' vs ρ' μ' => ρ' = ρ ∧ ∃ ds, Reps prog w H' vs ds ∧ Ψ ds μ' := by
  induction h with
  | nil k => exact fun H => TS.pure ⟨rfl, [], .nil, k⟩
  | @cons μ e es Ψ Ψ' h hs he ih =>
    intro H
    rw [starEach_plain he, show backTo pos ((false, eval e env) :: starEach es env) = (false, eval e env) :: backTo pos (starEach es env) from rfl, spliced_cons_eq]
    refine (h H).bind fun v H₁ ρ₁ μ₁ k1 hx9 => ?_
    obtain ⟨e1, d, rd, hΨ⟩ := hx9
    subst e1
    refine (TS.holding (ih d μ₁ hΨ H₁)).bind fun vs H₂ ρ₂ μ₂ k2 hx9 => ?_
    obtain ⟨e2, ds, rs, hΨ'⟩ := hx9
    subst e2
    exact TS.pure ⟨rfl, d :: ds, .cons (rd.mono k2) rs, hΨ'⟩
theorem EvO.list {es : List PySem.Expr} {pos : Pos} {Ψ : Dat → Mu → Prop} (h : EvOs prog w G l A env ρ μ es fun ds μ' => ds.length ≤ 16777216 ∧ ∀ p, Ψ (.val (.ref p)) ((p, .list ds) :: μ')) : EvO prog w G l A env ρ μ (.List es pos) Ψ := fun H => by
  rw [arm_eval_List]
  refine TS.standAt ((h.run pos H).bind fun vs H₁ ρ₁ μ₁ k1 ⟨e1, ds, rs, hl, hk⟩ => ?_)
  subst e1
  exact TS.alloc (o := listO vs 0) (r := fun p => .ref p) (md := .list ds) ⟨vs, 0, rfl, rs⟩ (fun p => ⟨rfl, _, .val _, hk p⟩) fun s Q E S hQ => wpAny_newList (hQ s.toks) (sizeLine_of (rs.length ▸ hl))
theorem EvO.tuple {es : List PySem.Expr} {k : Nat} {pos : Pos} {Ψ : Dat → Mu → Prop} (h : EvOs prog w G l A env ρ μ es fun ds μ' => ds.length ≤ 16777216 ∧ Ψ (.tup ds) μ') : EvO prog w G l A env ρ μ (.Tuple es k pos) Ψ := fun H => by
  rw [arm_eval_Tuple]
  refine TS.standAt ((h.run pos H).bind fun vs H₁ ρ₁ μ₁ k1 ⟨e1, ds, rs, hl, hk⟩ => ?_)
  subst e1
  exact .ofTr (Tr.newTuple rs hl) fun H' v _ r => ⟨rfl, _, r, hk⟩
theorem emptyDictO : DictO prog w ({ cls := .type "dict", data := .dict #[] } : Obj) [] := ⟨#[], 0, ⟨rfl, rfl, rfl⟩, rfl, (fun e he => by simp at he), .nil, .nil⟩
theorem EvO.dict0 {pos : Pos} {Ψ : Dat → Mu → Prop} (hk : ∀ p, Ψ (.val (.ref p)) ((p, .dict []) :: μ)) : EvO prog w G l A env ρ μ (.Dict [] [] pos) Ψ := fun H => by
  rw [eval_Dict_empty]
  refine TS.standAt ?_
  exact TS.alloc (o := { cls := .type "dict", data := .dict #[] }) (r := fun p => .ref p) (md := .dict []) ⟨[], emptyDictO, .nil⟩ (fun p => ⟨rfl, _, .val _, hk p⟩) fun s Q E S hQ => wpAny_newObj_type (hQ s.toks)
theorem Ev.dict0 {pos : Pos} : Ev prog w G l A env ρ μ (.Dict [] [] pos) (.dict []) := fun H => by
  rw [eval_Dict_empty]
  refine Tr.standAt ⟨fun s Q E S hQ => ?_⟩
  have hn := S.freshH (Nat.le_refl s.heap.objs.size)
  have hs : (s.heap.objs.size == sysModules) = false := notSys (Nat.le_of_lt (Nat.lt_of_le_of_lt S.base S.ltL))
  refine wpAny_newObj_type (hQ _ (addO H s.heap.objs.size { cls := .type "dict", data := .dict #[] }) _ s.toks ?_ (.dict (addO_self ..) hs emptyDictO .nil))
  refine Step.of S.tabs (le_addO hn) ((S.ext.mono fun b o' e => Heap.get?_push_of_some _ e).addO (Heap.get?_push_size _ rfl)) (fun a o' e => ?_) fun a o' e => Heap.get?_push_of_some _ e
  by_cases q : a = s.heap.objs.size
  · exact .inr (by rw [q]; exact fresh_get (Nat.le_refl _))
  · rw [addO_ne q] at e; exact .inl e
theorem St.drop {p : Addr × MD} (S : St prog w G l A env ρ (p :: μ) H h) : St prog w G l A env ρ μ H h :=
  { S with own := fun q hq => S.own q (.tail _ hq), nodup := (List.nodup_cons.mp S.nodup).2 }

/-! ### own objects are written no more -/
noncomputable def MD.dat : MD → Dat
  | .list ds => .list ds
  | .dict ps => .dict ps
  | .ro md => md.dat
theorem MRep.rep {md : MD} {o : Obj} {a : Addr} (r : MRep prog w H o md) (e : H a = some o) (hs : (a == sysModules) = false) : Rep prog w H (.ref a) md.dat := by
  induction md with
  | list ds => obtain ⟨vs, n, rfl, rs⟩ := r; exact .list e rs
  | dict ps => obtain ⟨kvs, d, iv⟩ := r; exact .dict e hs d iv
  | ro md ih => exact ih r
theorem TS.freeze {α : Type} {t : Sem α} {a : Addr} {md : MD} {Φ : PH → α → Rho → Mu → Prop} (hw : md.w = true) (hk : ∀ H' o, Le H H' → H' a = some o → MRep prog w H' o md → (a == sysModules) = false → (∀ x d', ρ'.lookup x = some d' → ∃ d, ρ.lookup x = some d ∧ ∀ v, Rep prog w H' v d → Rep prog w H' v d') ∧ TS prog w G l A env H' t ρ' (μ₁ ++ μ₂) Φ) :
    TS prog w G l A env H t ρ (μ₁ ++ (a, md) :: μ₂) Φ := by
  refine ⟨fun s Q E S hQ => ?_⟩
  obtain ⟨o, hr, hn, S', st⟩ := S.freeze hw
  obtain ⟨hs, ht⟩ := hk (addO H a o) o st.le (addO_self ..) (hr.mono st.le) (notSys (S.ownAt (.inl (List.mem_append_right _ (.head _)))).2.1)
  refine ht.run s Q E (S'.weak hs) fun v ρ₂ μ₂' H₂ h₂ tk S₂ st₂ hm hΦ => hQ v ρ₂ μ₂' H₂ h₂ tk S₂ ?_ ?_ hΦ
  · refine st.trans' st₂ fun b hb => .inl ?_
    rcases List.mem_cons.mp hb with rfl | hb
    · exact wr_L
    · rcases List.mem_append.mp hb with q | q
      · exact .tail _ (List.mem_append_left _ q)
      · refine .tail _ (List.mem_append_right _ ?_)
        obtain ⟨p, hp, rfl⟩ := List.mem_map.mp q
        obtain ⟨hp, hpw⟩ := List.mem_filter.mp hp
        exact List.mem_map_of_mem (List.mem_filter.mpr ⟨List.mem_append.mpr ((List.mem_append.mp hp).imp id fun z => .tail _ z), hpw⟩)
  · refine MuLe.trans (μ' := μ₁ ++ μ₂) (h' := s.heap) ⟨fun p hp => .inl ?_, fun p hp hpw => .inl ⟨p, ?_, rfl, hpw⟩⟩ hm fun a q => q
    · exact List.mem_map_of_mem (List.mem_append.mpr ((List.mem_append.mp hp).imp id fun z => .tail _ z))
    · exact List.mem_append.mpr ((List.mem_append.mp hp).imp id fun z => .tail _ z)
/-- the object that a name has is written no more -/
theorem WP.freezeName {t : Sem Flow} {x : Str} {a : Addr} {md : MD} {Φ : AF → Rho → Mu → Prop} (hx : ρ.lookup x = some (.val (.ref a))) (h : WP prog w G l A env t ((x, md.dat) :: ρ) (μ₁ ++ μ₂) Φ) (hw : md.w = true := by rfl) : WP prog w G l A env t ρ (μ₁ ++ (a, md) :: μ₂) Φ := fun H =>
  TS.freeze hw fun H' o k e r hs => ⟨fun y d' hy => by
    rw [List.lookup_cons] at hy
    by_cases q : y = x
    · subst q; rw [beq_self_eq_true] at hy; cases hy
      exact ⟨_, hx, fun v rv => by cases rv.isVal; exact r.rep e hs⟩
    · rw [beq_eq_false_iff_ne.mpr q] at hy; exact ⟨d', hy, fun _ r => r⟩, h H'⟩

/-! ### assignments -/
theorem WP.assignO {x : Str} {xp : Pos} {value : PySem.Expr} {pos : Pos} {Φ : AF → Rho → Mu → Prop} (h : EvO prog w G l A env ρ μ value fun d μ' => Φ .next ((x, d) :: ρ) μ')
    (hk : env.kindOf x = some .local ∨ (env.kindOf x = some .cell ∧ env.frame = some env.locals) := by first | exact .inl rfl | exact .inr ⟨rfl, rfl⟩) (hs : swapsWith value (some (.Name x xp)) pos.line env = pure false := by rfl) :
    WP prog w G l A env (exec (.Assign [.Name x xp] value pos) env) ρ μ Φ :=
  .assignTS (Ψ := fun d ρ' μ' => ρ' = ρ ∧ Φ .next ((x, d) :: ρ) μ') (fun H => (h H).mono fun H' v ρ' μ' _ ⟨e, d, r, hΦ⟩ => ⟨d, r, e, hΦ⟩) (fun d ρ' μ' ⟨e, hΦ⟩ => e ▸ hΦ) hk hs
theorem TS.assignTarget {target : PySem.Expr} {d : Dat} {v : Value} (ht : Targ env target d ρ ρ') (r : Rep prog w H v d) : TS prog w G l A env H (PySem.assign target env v) ρ μ fun H' _ ρ'' μ'' => ρ'' = ρ' ∧ μ'' = μ := by
  refine ⟨fun s Q E S hQ => ?_⟩
  have hT : TItm prog w target H s.heap v d := by
    cases ht with
    | name hk => exact ⟨fun q => absurd q Bool.false_ne_true, fun _ => r⟩
    | tup h => exact .ofRep S.ext r
  exact assign_run ht S hT fun h' tk S' st => hQ () _ _ H h' tk S' st .refl ⟨rfl, rfl⟩
/-- a, b, .. = e, bound from the left -/
theorem WP.assignTup {es : List PySem.Expr} {k : Nat} {tp pos : Pos} {value : PySem.Expr} {Φ : AF → Rho → Mu → Prop} (h : EvO prog w G l A env ρ μ value fun d μ' => ∃ ρ', Targ env (.Tuple es k tp) d ρ ρ' ∧ Φ .next ρ' μ')
    (hs : swapsWithSole [.Tuple es k tp] value pos.line env = pure false := by rfl) (hw : swappedStores [.Tuple es k tp] value env = pure none := by rfl) :
    WP prog w G l A env (exec (.Assign [.Tuple es k tp] value pos) env) ρ μ Φ := fun H => by
  rw [exec_Assign, hs]
  refine TS.standAt ?_
  simp only [pure_bind, Bool.false_eq_true, if_false, hw]
  refine (h H).bind fun v H₁ ρ₁ μ₁ k1 hx9 => ?_
  obtain ⟨e1, d, rv, ρ₂, ht, hΦ⟩ := hx9
  subst e1
  show TS prog w G l A env H₁ (do PySem.assign (.Tuple es k tp) env v; pure Flow.next) _ _ _
  refine (TS.assignTarget ht rv).bind fun _ H₂ ρ₃ μ₃ k2 hx9 => ?_
  obtain ⟨e2, e3⟩ := hx9
  subst e2; subst e3
  exact TS.pure ⟨_, .next, hΦ⟩
theorem names_assign {env : Env} {ns : List Str} : ∀ {vs : List Value} {ds : List Dat} {ρ ρ' : Rho} {H : PH}, (∀ n ∈ ns, env.kindOf n = some .local) → Reps prog w H vs ds → ns.length = ds.length →
    ρ' = (ns.zip ds).reverse ++ ρ → TS prog w G l A env H (assignInOrder (ns.map fun n => bindName env n) vs) ρ μ fun H' _ ρ'' μ'' => ρ'' = ρ' ∧ μ'' = μ := by
  induction ns with
  | nil =>
    intro vs ds ρ ρ' H _ r hl e
    cases ds with
    | nil => subst e; exact TS.pure ⟨rfl, rfl⟩
    | cons d ds => simp at hl
  | cons n ns ih =>
    intro vs ds ρ ρ' H hk r hl e
    cases r with
    | nil => simp at hl
    | @cons v d vs ds rv rs =>
      show TS prog w G l A env H (do holding vs (bindName env n v); assignInOrder (ns.map fun n => bindName env n) vs) ρ μ _
      refine (TS.holding (TS.bindName (Φ := fun H' _ ρ'' μ'' => H' = H ∧ ρ'' = (n, d) :: ρ ∧ μ'' = μ) (.inl (hk n (.head _))) rv ⟨rfl, rfl, rfl⟩)).bind fun _ H₁ ρ₁ μ₁ k1 hx9 => ?_
      obtain ⟨e1, e2, e3⟩ := hx9
      subst e1; subst e2; subst e3
      exact ih (fun m hm => hk m (.tail _ hm)) rs (by simpa using hl) (by rw [e]; simp)
theorem Reps.reverse {vs : List Value} {ds : List Dat} (r : Reps prog w H vs ds) : Reps prog w H vs.reverse ds.reverse := by
  induction vs generalizing ds with
  | nil => cases r; exact .nil
  | cons v vs ih => cases r with | cons h r => rw [List.reverse_cons, List.reverse_cons]; exact (ih r).append (.cons h .nil)
theorem TS.unpack {v : Value} {ds : List Dat} {n : Nat} (r : Rep prog w H v (.tup ds)) (hn : n = ds.length) : TS prog w G l A env H (unpackItems v n none) ρ μ fun H' vs ρ' μ' => ρ' = ρ ∧ μ' = μ ∧ Reps prog w H' vs ds := by
  cases r with
  | @tup T vs m ds e rs =>
    refine ⟨fun s Q E S hQ => ?_⟩
    have e1 : n = vs.toArray.size := by simp [rs.length, hn]
    rw [e1]
    with_reducible refine unpackItems_tupleH S.hok S.ext (S.ext.isTup e) fun h₁ hs₁ => ?_
    have old : ∀ b o, s.heap.get? b = some o → h₁.get? b = some o := fun b o e => hs₁ b o (Nat.ne_of_lt (Heap.lt_size e)) e
    have st := Step.grow S old
    exact hQ _ _ _ H h₁ s.toks (S.step st) (st.weakX fun _ q => nomatch q) .refl ⟨rfl, rfl, rs⟩
/-- a, b = (.., ..), bound from the right -/
theorem WP.assignSw {es : List PySem.Expr} {k : Nat} {tp pos : Pos} {value : PySem.Expr} {ns : List Str} {Φ : AF → Rho → Mu → Prop} (h : EvO prog w G l A env ρ μ value fun d μ' => ∃ ds, d = .tup ds ∧ ns.length = ds.length ∧ Φ .next ((ns.reverse.zip ds.reverse).reverse ++ ρ) μ')
    (hw : swappedStores [.Tuple es k tp] value env = pure (some ns) := by rfl) (hkb : (ns.all fun n => env.kindOf n == some .local) = true := by rfl) (hs : swapsWithSole [.Tuple es k tp] value pos.line env = pure false := by rfl) :
    WP prog w G l A env (exec (.Assign [.Tuple es k tp] value pos) env) ρ μ Φ := fun H => by
  rw [exec_Assign, hs]
  refine TS.standAt ?_
  simp only [pure_bind, Bool.false_eq_true, if_false, hw]
  have hk : ∀ n ∈ ns, env.kindOf n = some .local := fun n hn => by simpa using List.all_eq_true.mp hkb n hn
  refine (h H).bind fun v H₁ ρ₁ μ₁ k1 hx9 => ?_
  obtain ⟨e1, d, rv, ds, e2, hl, hΦ⟩ := hx9
  subst e1; subst e2
  have e : assignStores env v (some ns) ((assignEach [.Tuple es k tp] env).map (·.2)) = (do
      rule "assign.swapped-stores"
      let items ← unpackItems v ns.length none
      assignInOrder (ns.reverse.map fun n => bindName env n) items.reverse
      pure .next) := rfl
  rw [e]
  have hrule : Tr prog w G l A env ρ₁ μ₁ H₁ (rule "assign.swapped-stores") fun _ _ => True := .val trivial fun s Q E S hQ => wpAny_rule hQ
  refine .bindTr hrule fun _ H₂ k2 _ => ?_
  refine (TS.unpack (rv.mono k2) hl).bind fun vs H₃ ρ₃ μ₃ k3 hx9 => ?_
  obtain ⟨e3, e4, rs⟩ := hx9
  subst e3; subst e4
  refine (names_assign (fun n hn => hk n (List.mem_reverse.mp hn)) rs.reverse (by simpa using hl) rfl).bind fun _ H₄ ρ₄ μ₄ k4 hx9 => ?_
  obtain ⟨e5, e6⟩ := hx9
  subst e5; subst e6
  exact TS.pure ⟨_, .next, hΦ⟩
end
end Mine
end
section
open PySem PySem.W PySem.Calls PyProof.Rows
set_option Elab.async false
set_option linter.unusedVariables false
namespace Mine
section
variable {prog : Program} {w : World} {G : GX} {l : List Env} {A : Around} {env env' : Env} {ρ ρ' ρc : Rho} {μ μ' μc μ₁ μ₂ : Mu} {H H' H₀ : PH} {h h' h₀ : Heap} {target : PySem.Expr}

/-- {k: v} -/
theorem Ev.dict1 {e₁ e₂ : PySem.Expr} {pos : Pos} {k x : Int} (h₁ : Ev prog w G l A env ρ μ e₁ (.int k)) (h₂ : Ev prog w G l A env ρ μ e₂ (.int x)) : Ev prog w G l A env ρ μ (.Dict [some e₁] [e₂] pos) (.dict [(k, x)]) := fun H => by
  refine ⟨fun s Q E S hQ => ?_⟩
  have hbase : G.hG.objs.size ≤ s.heap.objs.size := Nat.le_of_lt (Nat.lt_of_le_of_lt S.base S.ltL)
  refine wpAny_Dict_pairs (knd := intKind prog w) (pairs := [(eval e₁ env, do let x ← eval e₂ env; standAt pos; pure x)]) rfl (by simp) (by simp) ?_
  obtain ⟨S', st₁⟩ := S.newOwn (o := { cls := .type "dict", data := .dict #[] }) (md := .dict []) rfl ⟨[], emptyDictO, .nil⟩
  have e : evalPairs [(eval e₁ env, do let x ← eval e₂ env; standAt pos; pure x)] = (do
      let kv ← eval e₁ env
      let vv ← holding [kv] (do let x ← eval e₂ env; standAt pos; pure x)
      let r ← holding [kv, vv] (evalPairs [])
      pure ((kv, vv) :: r)) := rfl
  rw [e]
  with_reducible refine wpAny_bind ((h₁.at H).run { s with heap := s.heap.push _ } _ E S'.drop fun kv H₁ g₁ tk₁ st₂ r₁ => ?_)
  with_reducible refine wpAny_bind (wpAny_holding (wpAny_bind ?_))
  have S₁ := S'.step st₂
  with_reducible refine (h₂.at H₁).run { s with heap := g₁, toks := tk₁ } _ E S₁.drop fun vv H₂ g₂ tk₂ st₃ r₂ => ?_
  have S₂ := S₁.step st₃
  with_reducible refine wpAny_bind (wpAny_standAt (wpAny_pure ?_))
  refine wpAny_bind (wpAny_holding (wpAny_pure (wpAny_pure ?_)))
  obtain ⟨t, rfl⟩ := r₁.isInt
  obtain ⟨u, rfl⟩ := r₂.isInt
  obtain ⟨hn, _, _, _, o, ho, kvs, D, iv⟩ := S₂.own _ (.head _)
  cases iv
  refine ⟨[(k, .int x u)], ⟨isInt_self k t, rfl, trivial⟩, D.of ho, fun h' hd hs => ?_⟩
  obtain ⟨o', ho', D'⟩ := DictO.to hd
  have hd' : s.heap.get? s.heap.objs.size = none := fresh_get (Nat.le_refl _)
  have stA : Step G l [] H s.heap H₂ g₂ := (st₁.trans st₂).trans st₃
  have hne : ∀ a ∈ G.tw, a ≠ s.heap.objs.size := fun a ha e => absurd (S.tout a ha).2 (Nat.not_lt.mpr (e ▸ hbase))
  have hx : Ext H₂ h' := S₂.ext.sameBut hn hs
  have stB : Step G l [] H s.heap (addO H₂ s.heap.objs.size o') h' := {
    le := stA.le.trans (le_addO hn)
    ext := hx.addO ho'
    new := fun a o q => by
      by_cases z : a = s.heap.objs.size
      · exact .inr (.inl (by rw [z]; exact hd'))
      · rw [addO_ne z] at q; exact stA.new a o q
    old := fun a o q1 q2 q3 => by
      obtain ⟨sl, e1, n1⟩ := stA.old a o q1 q2 q3
      exact ⟨sl, (hs.2 a fun z => by rw [z, hd'] at q3; cases q3).trans e1, n1⟩
    alive := fun a o q => by
      obtain ⟨o₁, e1⟩ := stA.alive a o q
      exact ⟨o₁, (hs.2 a fun z => by rw [z, hd'] at q; cases q).trans e1⟩
    tabs := stA.tabs.mono (le_addO hn) fun a o ha q => (hs.2 a (hne a ha)).trans q }
  exact hQ _ _ h' _ stB (.dict (addO_self ..) (notSys hbase) D' (.cons .nil))

/-! ### tests -/
inductive Tru : Dat → Bool → Prop
  | bool {b : Bool} : Tru (.bool b) b
  | int {i : Int} : Tru (.int i) (i != 0)
  | list {ds : List Dat} (h : ds.length ≤ 16777216) : Tru (.list ds) (!ds.isEmpty)
theorem Tr.truthy {v : Value} {d : Dat} {b : Bool} (T : Tru d b) (r : Rep prog w H v d) : Tr prog w G l A env ρ μ H (truthy v) fun _ c => c = b := by
  cases T with
  | bool => cases r; exact Tr.truthyB rfl
  | int => obtain ⟨t, rfl⟩ := r.isInt; exact .val rfl fun s Q E S hQ => by with_reducible exact PySem.P.truthy_int hQ
  | list hl =>
    cases r with
    | @list a vs n ds e rs =>
      refine ⟨fun s Q E S hQ => ?_⟩
      refine wpAny_truthy_list (S.ext.isList e) (by simp [rs.length]; (first | lia -abstractProof | omega)) ?_
      exact hQ _ H s.heap _ (.refl S.ext S.tabs) (by cases rs <;> rfl)
theorem EvT.of {e : PySem.Expr} {d : Dat} {b : Bool} (h : Ev prog w G l A env ρ μ e d) (T : Tru d b) (hp : isTrue e env (eval e env) = (do let v ← eval e env; standAt e.pos; holding [v] (PySem.truthy v)) := by rfl) : EvT prog w G l A env ρ μ e b := fun H => by
  rw [hp]
  exact (h H).bind fun v H₁ k r => Tr.standAt (Tr.holding (Tr.truthy T r))
theorem allTrue_and (x : PySem.Expr) (r : List PySem.Expr) (env : Env) : allTrue .And (x :: r) env = (isTrue x env (eval x env) >>= fun c => cond c (allTrue .And r env) (pure false)) :=
  congrArg (fun k => isTrue x env (eval x env) >>= k) (funext fun c => by cases c <;> rfl)
theorem EvT.and2 {e₁ e₂ : PySem.Expr} {pos : Pos} {b₁ b₂ : Bool} (h₁ : EvT prog w G l A env ρ μ e₁ b₁) (h₂ : b₁ = true → EvT prog w G l A env ρ μ e₂ b₂) : EvT prog w G l A env ρ μ (.BoolOp .And [e₁, e₂] pos) (b₁ && b₂) := fun H => by
  show Tr prog w G l A env ρ μ H (allTrue .And [e₁, e₂] env) _
  rw [allTrue_and]
  refine (h₁ H).bind fun c H₁ k e => ?_
  subst e
  cases c with
  | false => exact Tr.pure rfl
  | true =>
    show Tr prog w G l A env ρ μ H₁ (allTrue .And [e₂] env) _
    rw [allTrue_and]
    refine (h₂ rfl H₁).bind fun c H₂ k e => ?_
    subst e
    cases c with
    | false => exact Tr.pure rfl
    | true => exact Tr.pure rfl
theorem CallSem.isTuple {x : Int} : CallSem prog w G l A env ρ μ (.builtin "isinstance") [.int x, .val (.type "tuple")] (.bool false) := fun H vs r => by
  obtain ⟨v₁, v₂, rfl, r1, r2⟩ := r.two
  obtain ⟨t, rfl⟩ := r1.isInt
  cases r2.isVal
  refine ⟨fun s Q E S hQ => ?_⟩
  refine PySem.IsiPair.int_tuple (hQ _ H s.heap _ (.refl S.ext S.tabs) (.bool false))
end
end Mine
end
section
open PySem PySem.W PySem.Calls PyProof.Rows
set_option Elab.async false
set_option linter.unusedVariables false
namespace Mine
section
variable {prog : Program} {w : World} {G : GX} {l : List Env} {A : Around} {env env' : Env} {ρ ρ' ρc : Rho} {μ μ' μc μ₁ μ₂ : Mu} {H H' H₀ : PH} {h h' h₀ : Heap} {target : PySem.Expr}

/-! ### slices -/
inductive EvP (prog : Program) (w : World) (G : GX) (l : List Env) (A : Around) (env : Env) (ρ : Rho) (μ : Mu) : Option PySem.Expr → Option Int → Prop
  | none : EvP prog w G l A env ρ μ none none
  | some {e : PySem.Expr} {i : Int} (h : Ev prog w G l A env ρ μ e (.int i)) : EvP prog w G l A env ρ μ (some e) (some i)
theorem EvP.run {e : Option PySem.Expr} {i : Option Int} (h : EvP prog w G l A env ρ μ e i) (H : PH) : Tr prog w G l A env ρ μ H (valueOrNone (evalOpt e env)) fun _ v => IsPart v i := by
  cases h with
  | none => exact Tr.pure .none
  | some h => exact (h H).mono fun H' v _ r => by obtain ⟨t, rfl⟩ := r.isInt; exact .int _ t
theorem Ev.slice {e₁ e₂ e₃ : Option PySem.Expr} {pos : Pos} {lo hi st : Option Int} (h₁ : EvP prog w G l A env ρ μ e₁ lo) (h₂ : EvP prog w G l A env ρ μ e₂ hi) (h₃ : EvP prog w G l A env ρ μ e₃ st) : Ev prog w G l A env ρ μ (.Slice e₁ e₂ e₃ pos) (.slice lo hi st) := fun H => by
  have e : eval (.Slice e₁ e₂ e₃ pos) env = (do
    let l ← valueOrNone (evalOpt e₁ env)
    let u ← holding [l] (valueOrNone (evalOpt e₂ env))
    let s ← holding [l, u] (valueOrNone (evalOpt e₃ env))
    newFields "slice" [l, u, s]) := rfl
  rw [e]
  refine (h₁.run H).bind fun v₁ H₁ k1 r1 => ((h₂.run H₁).holding).bind fun v₂ H₂ k2 r2 => ((h₃.run H₂).holding).bind fun v₃ H₃ k3 r3 => ?_
  exact Tr.alloc (o := { cls := .type "slice", data := .fields #[v₁, v₂, v₃] }) (r := fun a => .ref a) (fun a hn => .slice (addO_self ..) r1 r2 r3) fun s Q E S hQ => wpAny_newObj_type (hQ s.toks)
noncomputable def pick (ds : List Dat) (lo hi st : Option Int) : List Dat := (sliceRange (sliceBounds lo hi st ds.length).1 (sliceBounds lo hi st ds.length).2.1 (sliceBounds lo hi st ds.length).2.2).filterMap (ds[·]?)
theorem Reps.places {vs : List Value} {ds : List Dat} (r : Reps prog w H vs ds) : ∀ js : List Nat, Reps prog w H (js.filterMap (vs[·]?)) (js.filterMap (ds[·]?))
  | [] => .nil
  | j :: js => by
    have ih := Reps.places r js
    cases hn : ds[j]? with
    | some d =>
      obtain ⟨v, hv, rv⟩ := r.get hn
      simp only [List.filterMap_cons, hn, hv]
      exact .cons rv ih
    | none =>
      have hv : vs[j]? = none := by
        rw [List.getElem?_eq_none_iff] at hn ⊢
        rw [r.length]; exact hn
      simp only [List.filterMap_cons, hn, hv]
      exact ih
theorem SubSem.slice {value : PySem.Expr} {e₁ e₂ e₃ : Option PySem.Expr} {p : Pos} {ds : List Dat} {lo hi st : Option Int} (h0 : st ≠ some 0) (hl : ds.length ≤ 16777216) :
    SubSem prog w G l A env ρ μ value (.Slice e₁ e₂ e₃ p) (.list ds) (.slice lo hi st) (.list (pick ds lo hi st)) := fun H va vi ra ri => by
  cases ra with
  | @list a vs n ds e rs =>
    cases ri with
    | @slice b vl vu vk lo hi st e' p1 p2 p3 =>
      have hpick : Reps prog w H (slicePick vs.toArray lo hi st).toList (pick ds lo hi st) := by
        have z : (slicePick vs.toArray lo hi st).toList = (sliceRange (sliceBounds lo hi st ds.length).1 (sliceBounds lo hi st ds.length).2.1 (sliceBounds lo hi st ds.length).2.2).filterMap (vs[·]?) := by simp [slicePick, rs.length]
        rw [z]; exact rs.places _
      refine .alloc (o := { cls := .type "list", data := .seq (slicePick vs.toArray lo hi st) }) (r := fun a => .ref a) (fun c hn => ?_) fun s Q E S hQ => ?_
      · have q : ({ cls := .type "list", data := .seq (slicePick vs.toArray lo hi st) } : Obj) = listO (slicePick vs.toArray lo hi st).toList 0 := by simp [listO]
        rw [q]; exact .listNew hn hpick
      · have hg : wpAny (model prog w) A (getItem (.ref a) (.ref b)) Q E s := wpAny_getItem_list_slice (S.ext.isList e) ⟨_, S.ext _ _ e', rfl, rfl⟩ p1 p2 p3 h0 (hQ s.toks) (sizeLine_of (by simp [rs.length]; exact hl))
        cases e₃ with
        | none => exact tail_any (S.ext.isList e).typeIs slot_list_getitem.lookup hg rfl
        | some e₃ => exact tail_any (S.ext.isList e).typeIs slot_list_getitem.lookup hg rfl

/-! ### lists of ints -/
abbrev intL (ns : List Int) : List Dat := ns.map Dat.int
theorem Reps.intsAre {vs : List Value} {ns : List Int} (r : Reps prog w H vs (intL ns)) : IntsAre vs ns := by
  induction ns generalizing vs with
  | nil => cases r; exact .nil
  | cons n ns ih => cases r with | cons h r => obtain ⟨t, rfl⟩ := h.isInt; exact .cons n t (ih r)
theorem CmpSem.eqInts {ns ms : List Int} (hu : A.units + 64 < cLine) : CmpSem prog w G l A env ρ μ .Eq (.list (intL ns)) (.list (intL ms)) (decide (ns = ms)) := fun H va vb ra rb => by
  cases ra with
  | list e r => cases rb with
    | list e' r' => exact .val rfl fun s Q E S hQ => ke_eq_ints (S.ext.isList e) (S.ext.isList e') r.intsAre r'.intsAre hu hQ
theorem CmpSem.neInts {ns ms : List Int} (hu : A.units + 64 < cLine) : CmpSem prog w G l A env ρ μ .NotEq (.list (intL ns)) (.list (intL ms)) (!decide (ns = ms)) := fun H va vb ra rb => by
  cases ra with
  | list e r => cases rb with
    | list e' r' => exact .val rfl fun s Q E S hQ => ke_ne_ints (S.ext.isList e) (S.ext.isList e') r.intsAre r'.intsAre hu hQ
theorem CallSem.len {ds : List Dat} (hl : ds.length ≤ 16777216) : CallSem prog w G l A env ρ μ (.builtin "len") [.list ds] (.int ds.length) := fun H vs r => by
  obtain ⟨v, rfl, r1⟩ := r.one
  cases r1 with
  | @list a vs n ds e rs =>
    refine ⟨fun s Q E S hQ => ?_⟩
    refine call_len_list (S.ext.isList e) (by simp [rs.length]; omega) (hQ _ H s.heap _ (.refl S.ext S.tabs) ?_)
    have z : (vs.toArray.size : Int) = ds.length := by simp [rs.length]
    rw [z]; exact .int _ _
theorem CallSem.lenI (ns : List Int) (hl : ns.length ≤ 16777216) : CallSem prog w G l A env ρ μ (.builtin "len") [.list (intL ns)] (.int ns.length) := by
  have h := CallSem.len (prog := prog) (w := w) (G := G) (l := l) (A := A) (env := env) (ρ := ρ) (μ := μ) (ds := intL ns) (by simpa using hl)
  rw [show (intL ns).length = ns.length by simp] at h
  exact h
end
end Mine
end
section
open PySem PySem.W PySem.Calls PyProof.Rows
set_option Elab.async false
set_option linter.unusedVariables false
namespace Mine
section
variable {prog : Program} {w : World} {G : GX} {l : List Env} {A : Around} {env env' : Env} {ρ ρ' ρc : Rho} {μ μ' μc μ₁ μ₂ : Mu} {H H' H₀ : PH} {h h' h₀ : Heap} {target : PySem.Expr}

/-! ### sum, max -/
theorem CallSem.sum (ns : List Int) (hh : A.handled = none) : CallSem prog w G l A env ρ μ (.builtin "sum") [.list (intL ns)] (.int ns.sum) := fun H vs r => by
  obtain ⟨v, rfl, r1⟩ := r.one
  cases r1 with
  | @list a vs n ds e rs =>
    refine ⟨fun s Q E S hQ => ?_⟩
    have hi := rs.intsAre
    obtain ⟨xs, hx⟩ := hi.allInts.items
    have hl' : s.heap.IsList a (intItems xs) := hx ▸ S.ext.isList e
    refine sum_intListG hh hl' fun h' tk t' hk => ?_
    have e1 : ns = xs.toList.map (·.1) := by
      rw [← nums_intItems, ← hx]
      exact (show numsOf vs.toArray.toList = ns from hi.numsOf).symm
    have e2 : preSum (numAt xs) xs.size = ns.sum := by
      rw [preSum_eq, List.take_of_length_le (by simp), e1]
    rw [e2]
    exact hQ _ H h' tk (Step.grow S hk) (.int _ _)
theorem CallSem.max2 {a b : Int} (hh : A.handled = none) : CallSem prog w G l A env ρ μ (.builtin "max") [.int a, .int b] (.int (max a b)) := fun H vs r => by
  obtain ⟨v₁, v₂, rfl, r1, r2⟩ := r.two
  obtain ⟨t, rfl⟩ := r1.isInt
  obtain ⟨u, rfl⟩ := r2.isInt
  refine ⟨fun s Q E S hQ => ?_⟩
  refine max_two_ints hh fun h' tk hk => hQ _ H h' tk (Step.grow S hk) ?_
  by_cases q : b > a
  · rw [if_pos q, show max a b = b by (first | lia -abstractProof | omega)]; exact .int _ _
  · rw [if_neg q, show max a b = a by (first | lia -abstractProof | omega)]; exact .int _ _

/-! ### lists that are not of ints alone -/
inductive EqD : Dat → Dat → Bool → Prop
  | int (a b : Int) : EqD (.int a) (.int b) (a == b)
  | bool (a b : Bool) : EqD (.bool a) (.bool b) (a == b)
  | dict0 : EqD (.dict []) (.dict []) true
inductive EqDs : List Dat → List Dat → List Bool → Prop
  | nil : EqDs [] [] []
  | cons {a b : Dat} {c : Bool} {as bs : List Dat} {cs : List Bool} : EqD a b c → EqDs as bs cs → EqDs (a :: as) (b :: bs) (c :: cs)
theorem EqDs.len {as bs : List Dat} {cs : List Bool} (h : EqDs as bs cs) : as.length = bs.length ∧ as.length = cs.length := by
  induction h with
  | nil => exact ⟨rfl, rfl⟩
  | cons _ _ ih => exact ⟨congrArg (· + 1) ih.1, congrArg (· + 1) ih.2⟩
theorem EqDs.get {as bs : List Dat} {cs : List Bool} (h : EqDs as bs cs) : ∀ {j : Nat} {a b : Dat}, as[j]? = some a → bs[j]? = some b → EqD a b ((cs[j]?).getD true) := by
  induction h with
  | nil => intro j a b h; cases h
  | cons e h ih =>
    intro j a b ha hb
    cases j with
    | zero => cases ha; cases hb; exact e
    | succ j => exact ih ha hb
theorem dict_empty {o : Obj} (D : DictO prog w o []) {a : Addr} {s : Shared} (e : s.heap.get? a = some o) (prog' : Program) (w' : World) : s.heap.DictOf (intKind prog' w') a [] := by
  obtain ⟨es, ep, h1, h2, h3, h4, h5⟩ := D
  have h6 : es.toList = [] := List.eq_nil_of_length_eq_zero (by rw [h4.length]; rfl)
  refine ⟨o, es, ep, e, h1, h2, fun x hx => ?_, by rw [h6]; exact .nil, .nil⟩
  have : x ∈ es.toList := Array.mem_toList_iff.mpr hx
  rw [h6] at this; cases this
theorem EqD.at {a b : Dat} {c : Bool} {u v : Value} {s : Shared} (h : EqD a b c) (x : Ext H s.heap) (ra : Rep prog w H u a) (rb : Rep prog w H v b) (hu : A.units < cLine) : SeqAt.EqAt A s u v c := by
  cases h with
  | int a b => obtain ⟨t, rfl⟩ := ra.isInt; obtain ⟨t', rfl⟩ := rb.isInt; exact SeqAt.EqAt.int_int _ _ _ _
  | bool a b => cases ra; cases rb; exact SeqAt.EqAt.bool_bool _ _
  | dict0 =>
    cases ra with
    | @dict a o kvs _ e m D iv =>
      cases rb with
      | @dict a' o' kvs' _ e' m' D' iv' =>
        cases iv; cases iv'
        by_cases q : a = a'
        · subst q; exact SeqAt.EqAt.same _
        · refine SeqAt.EqAt.of_refs q fun prog' w' E Q hQ => ?_
          exact keq_eq (knd := intKind prog' w') (r := true) m m' (dict_empty D (x _ _ e) prog' w') (dict_empty D' (x _ _ e') prog' w') hu (fun _ => .nil) hQ
theorem all_range_getD : ∀ (cs : List Bool), ((List.range cs.length).all fun j => (cs[j]?).getD true) = cs.all id
  | [] => rfl
  | c :: cs => by
    rw [List.length_cons, List.range_succ_eq_map, List.all_cons, List.all_map, List.all_cons]
    have := all_range_getD cs
    simp only [List.getElem?_cons_zero, Option.getD_some, id]
    congr 1
theorem CmpSem.neLists {ds es : List Dat} {cs : List Bool} (h : EqDs ds es cs) (hu : A.units + 1 < cLine) : CmpSem prog w G l A env ρ μ .NotEq (.list ds) (.list es) (!(cs.all id)) := fun H va vb ra rb => by
  cases ra with
  | @list a vs n ds e r =>
    cases rb with
    | @list b us m es e' r' =>
      refine .val rfl fun s Q E S hQ => ?_
      have hsz : vs.toArray.size = us.toArray.size := by simp [r.length, r'.length, h.len.1]
      have hlen : vs.toArray.size = cs.length := by simp [r.length, h.len.2]
      have q := SeqAt.RcNeAt.lists (A := A) (s := s) (e := fun j => (cs[j]?).getD true) (S.ext.isList e) (S.ext.isList e') hsz (Nat.lt_of_succ_lt hu) (fun j h1 h2 => ?_)
      · rw [hlen, all_range_getD] at q
        exact q prog w E Q hQ
      · obtain ⟨d, hd, rd⟩ := r.back (i := j) (v := vs.toArray[j]) (by simp at h1; simp [h1])
        obtain ⟨d', hd', rd'⟩ := r'.back (i := j) (v := us.toArray[j]) (by simp at h2; simp [h2])
        exact (h.get hd hd').at S.ext rd rd' (show A.units + 1 < cLine from hu)
end
end Mine
end
section
open PySem PySem.W PySem.Calls PyProof.Rows
set_option Elab.async false
set_option linter.unusedVariables false
namespace Mine
section
variable {prog : Program} {w : World} {G : GX} {l : List Env} {A : Around} {env env' : Env} {ρ ρ' ρc : Rho} {μ μ' μc μ₁ μ₂ : Mu} {H H' H₀ : PH} {h h' h₀ : Heap} {target : PySem.Expr}

/-- a method of an own list -/
theorem listMethTS {o : PySem.Expr} {name : Str} {apos pos : Pos} {es : List PySem.Expr} {ds xs : List Dat} {p : Addr} {id : String} {Φ : PH → Value → Rho → Mu → Prop} (ho : Ev prog w G l A env ρ μ o (.val (.ref p))) (hm : (p, MD.list xs) ∈ μ)
    (slot : Slot "list" name id) (hty : typeOf (.builtin id) = pure (.type "method_descriptor")) (he : Evs prog w G l A env ρ μ es ds)
    (hc : ∀ H' vs, Le H H' → Reps prog w H' vs ds → TS prog w G l A env H' (call (.builtin id) (.ref p :: vs)) ρ μ Φ)
    (hbase : attributeBase o name env (eval o env) = eval o env) (hline : (apos.endLine == pos.line) = true) (hn : es.length < 29) :
    TS prog w G l A env H (eval (.Call (.Attribute o name apos) es [] pos) env) ρ μ Φ := by
  rw [arm_eval_Call, hbase]
  refine TS.bindTr (ho H) fun v H₁ k1 r1 => TS.standAt ?_
  cases r1.isVal
  have hform : methodCallForm (es.length + ([] : List Keyword).length) (backTo pos (starEach es env)) (backToKw pos (keywordEach [] env)) = true := by
    have h1 := (he.run pos H₁).1
    show ((backTo pos (starEach es env)).all (fun x => !x.1) && ([] : List (Option Str × Sem Value)).all (fun x => x.1.isSome) && decide (es.length + 0 + 0 < 30)) = true
    have h2 : (backTo pos (starEach es env)).all (fun x => !x.1) = true := by
      rw [List.all_eq_not_any_not]
      simpa using h1
    rw [h2]
    simp; (first | lia -abstractProof | omega)
  have hpos : methodCallPos true o env apos pos = pure pos := by unfold methodCallPos; simp [hline]
  unfold methodCall
  rw [hform, hpos]
  refine ⟨fun s Q E S hQ => ?_⟩
  obtain ⟨_, _, ob, hob, vs₀, n₀, rfl, _⟩ := S.ownAt (.inl hm)
  have hT : s.TypeIs (.ref p) "list" := ⟨_, hob, rfl⟩
  have hno : ∀ a, Value.ref p = .ref a → ∃ o, s.heap.get? a = some o ∧ o.dict = none := fun a e => by cases e; exact ⟨_, hob, rfl⟩
  with_reducible refine wpAny_bind (wpAny_holding (getMethod_builtin hT PySem.F.plainAttrs_list slot hty hno ?_))
  dsimp only [pure_bind]
  refine callWith_run (first := [.ref p]) S (.plain (by intro _ e; cases e)) he fun vs H₂ h₂ tk₂ st₂ r₂ => ?_
  refine (hc H₂ vs (k1.trans st₂.le) r₂).run { s with heap := h₂, toks := tk₂ } Q E (S.step st₂) fun v ρ' μ' H₃ h₃ tk₃ S₃ st₃ hm₃ hΦ => ?_
  refine hQ v ρ' μ' H₃ h₃ tk₃ S₃ ((st₂.weakX fun _ q => nomatch q).trans' st₃ fun a ha => .inl ha) ?_ hΦ
  exact MuLe.trans (h := s.heap) (h' := h₂) .refl hm₃ fun a q => dead_back st₂.alive q
theorem listAppendTS {xs : List Dat} {p : Addr} {v : Value} {d : Dat} {Φ : PH → Value → Rho → Mu → Prop} (rv : Rep prog w H v d) (hl : xs.length ≤ 16777216) (h : Φ H .none ρ (μ₁ ++ (p, .list (xs ++ [d])) :: μ₂)) :
    TS prog w G l A env H (call (.builtin "list.append") [.ref p, v]) ρ (μ₁ ++ (p, .list xs) :: μ₂) Φ := by
  refine ⟨fun s Q E S hQ => ?_⟩
  obtain ⟨_, _, ob, hob, vs, n, rfl, rs⟩ := S.ownAt (.inl (List.mem_append_right _ (.head _)))
  refine wpAny_list_append_plain (items := vs.toArray) ⟨n, hob⟩ (fun h' hl' hs' => ?_) (sizeLine_of (by simp [rs.length]; exact hl))
  obtain ⟨n', ho'⟩ := hl'
  have ho₂ : h'.get? p = some (listO (vs ++ [v]) n') := by rw [ho']; simp [listO]
  obtain ⟨S', st⟩ := S.setOwn (md' := .list (xs ++ [d])) rfl ho₂ ⟨_, n', rfl, rs.append (.cons rv .nil)⟩ hs'
  exact hQ _ _ _ H h' _ S' st (MuLe.set rfl) h
/-- o.append(e) -/
theorem WP.append {o e : PySem.Expr} {apos cpos pos : Pos} {xs : List Dat} {p : Addr} {d : Dat} {Φ : AF → Rho → Mu → Prop} (ho : Ev prog w G l A env ρ (μ₁ ++ (p, .list xs) :: μ₂) o (.val (.ref p))) (he : Ev prog w G l A env ρ (μ₁ ++ (p, .list xs) :: μ₂) e d) (hl : xs.length ≤ 16777216)
    (h : Φ .next ρ (μ₁ ++ (p, .list (xs ++ [d])) :: μ₂)) (hint : interactive env = false := by rfl) (hsw : swapsWith (.Call (.Attribute o "append" apos) [e] [] cpos) none pos.line env = pure false := by rfl)
    (hbase : attributeBase o "append" env (eval o env) = eval o env := by rfl) (hline : (apos.endLine == cpos.line) = true := by rfl) (hpl : plainArg e = true := by rfl) :
    WP prog w G l A env (exec (.Expr (.Call (.Attribute o "append" apos) [e] [] cpos) pos) env) ρ (μ₁ ++ (p, .list xs) :: μ₂) Φ := fun H => by
  rw [arm_exec_Expr, hint, hsw]
  refine TS.standAt ?_
  simp only [Bool.false_eq_true, if_false, pure_bind]
  refine (listMethTS (Φ := fun H' v ρ' μ' => v = .none ∧ ρ' = ρ ∧ μ' = μ₁ ++ (p, .list (xs ++ [d])) :: μ₂) ho (List.mem_append_right _ (.head _)) PySem.F.slot_list_append PySem.F.type_list_append (.cons he .nil hpl) (fun H' vs k r => ?_) hbase hline (by simp)).bind fun v H₁ ρ₁ μ₁' k hx9 => ?_
  · obtain ⟨v, rfl, rv⟩ := r.one
    exact listAppendTS rv hl ⟨rfl, rfl, rfl⟩
  · obtain ⟨e1, e2, e3⟩ := hx9
    subst e1; subst e2; subst e3
    exact TS.pure ⟨_, .next, h⟩
end
end Mine
end
section
open PySem PySem.W PySem.Calls PyProof.Rows
set_option Elab.async false
set_option linter.unusedVariables false
namespace Mine
section
variable {prog : Program} {w : World} {G : GX} {l : List Env} {A : Around} {env env' : Env} {ρ ρ' ρc : Rho} {μ μ' μc μ₁ μ₂ : Mu} {H H' H₀ : PH} {h h' h₀ : Heap} {target : PySem.Expr}

theorem St.allocStep (S : St prog w G l A env ρ μ H h) {o : Obj} (hf : o.isFreed = false) : Step G l [] H h (addO H h.objs.size o) (h.push o) := by
  have hn := S.freshH (Nat.le_refl h.objs.size)
  refine Step.of S.tabs (le_addO hn) ((S.ext.mono fun b o' e => Heap.get?_push_of_some _ e).addO (Heap.get?_push_size _ hf)) (fun a o' e => ?_) fun a o' e => Heap.get?_push_of_some _ e
  by_cases q : a = h.objs.size
  · exact .inr (by rw [q]; exact fresh_get (Nat.le_refl _))
  · rw [addO_ne q] at e; exact .inl e
/-- a slice of an own list -/
theorem SubSem.sliceOwn {value : PySem.Expr} {e₁ e₂ e₃ : Option PySem.Expr} {p : Pos} {a : Addr} {ds : List Dat} {lo hi st : Option Int} (hm : (a, MD.list ds) ∈ μ ∨ (a, MD.ro (.list ds)) ∈ μ) (h0 : st ≠ some 0) (hl : ds.length ≤ 16777216) :
    SubSem prog w G l A env ρ μ value (.Slice e₁ e₂ e₃ p) (.val (.ref a)) (.slice lo hi st) (.list (pick ds lo hi st)) := fun H va vi ra ri => by
  cases ra.isVal
  cases ri with
  | @slice b vl vu vk lo hi st e' p1 p2 p3 =>
    refine ⟨fun s Q E S hQ => ?_⟩
    obtain ⟨_, _, ob, hob, vs, n, rfl, rs⟩ := S.ownAt hm
    have hpick : Reps prog w H (slicePick vs.toArray lo hi st).toList (pick ds lo hi st) := by
      have z : (slicePick vs.toArray lo hi st).toList = (sliceRange (sliceBounds lo hi st ds.length).1 (sliceBounds lo hi st ds.length).2.1 (sliceBounds lo hi st ds.length).2.2).filterMap (vs[·]?) := by simp [slicePick, rs.length]
      rw [z]; exact rs.places _
    have hL : s.heap.IsList a vs.toArray := ⟨_, hob, rfl, n, rfl⟩
    have hg : wpAny (model prog w) A (getItem (.ref a) (.ref b)) Q E s := wpAny_getItem_list_slice hL ⟨_, S.ext _ _ e', rfl, rfl⟩ p1 p2 p3 h0 (by
      have q : ({ cls := .type "list", data := .seq (slicePick vs.toArray lo hi st) } : Obj) = listO (slicePick vs.toArray lo hi st).toList 0 := by simp [listO]
      exact hQ _ _ _ s.toks (S.allocStep (o := { cls := .type "list", data := .seq (slicePick vs.toArray lo hi st) }) rfl) (by rw [q]; exact .listNew (S.freshH (Nat.le_refl _)) hpick)) (sizeLine_of (by simp [rs.length]; exact hl))
    cases e₃ with
    | none => exact tail_any hL.typeIs slot_list_getitem.lookup hg rfl
    | some e₃ => exact tail_any hL.typeIs slot_list_getitem.lookup hg rfl
theorem CallSem.index {ns : List Int} {k : Int} (hk : k ∈ ns) (hl : PyData.layable0 (.list (ns.map .int)) = true) {v : Value} {H : PH} (r : Rep prog w H v (.list (intL ns))) {vs : List Value} (rs : Reps prog w H vs [.int k]) : Tr prog w G l A env ρ μ H (call (.builtin "list.index") (v :: vs)) fun H' r => Rep prog w H' r (.int (ns.idxOf k : Nat)) := by
  obtain ⟨u, rfl, r1⟩ := rs.one
  obtain ⟨t, rfl⟩ := r1.isInt
  cases r with
  | @list a vs n ds e rr =>
    exact ⟨fun s Q E S hQ => index_list_ints (S.ext.isList e) rr.intsAre hl hk (hQ _ H s.heap _ (.refl S.ext S.tabs) (.int _ _))⟩
theorem Rep.listTy {s : Shared} {v : Value} {ds : List Dat} (S : Ext H s.heap) (r : Rep prog w H v (.list ds)) : s.TypeIs v "list" ∧ ∀ b, v = .ref b → ∃ ob, s.heap.get? b = some ob ∧ ob.dict = Option.none := by
  cases r with
  | list e rs => exact ⟨⟨_, S _ _ e, rfl⟩, fun b eb => by cases eb; exact ⟨_, S _ _ e, rfl⟩⟩
theorem Ev.index {o e₁ : PySem.Expr} {apos pos : Pos} {ns : List Int} {k : Int} (ho : Ev prog w G l A env ρ μ o (.list (intL ns))) (he : Ev prog w G l A env ρ μ e₁ (.int k)) (hk : k ∈ ns) (hl : PyData.layable0 (.list (ns.map .int)) = true) (hp : plainArg e₁ = true := by rfl)
    (hbase : attributeBase o "index" env (eval o env) = eval o env := by rfl) (hline : (apos.endLine == pos.line) = true := by rfl) : Ev prog w G l A env ρ μ (.Call (.Attribute o "index" apos) [e₁] [] pos) (.int (ns.idxOf k : Nat)) :=
  .meth (ds := [.int k]) ho PySem.F.plainAttrs_list PySem.F.slot_list_index PySem.F.type_list_index (fun H v s S r => Rep.listTy S.ext r) (.cons he .nil hp) (fun H v vs r rs => CallSem.index hk hl r rs) hbase hline (by simp)
end
end Mine
end
section
open PySem PySem.W PySem.Calls PyProof.Rows
set_option Elab.async false
set_option linter.unusedVariables false
namespace Mine
section
variable {prog : Program} {w : World} {G : GX} {l : List Env} {A : Around} {env env' : Env} {ρ ρ' ρc : Rho} {μ μ' μc μ₁ μ₂ : Mu} {H H' H₀ : PH} {h h' h₀ : Heap} {target : PySem.Expr} {s : Shared} {E : Value → Shared → Prop}

theorem next_rev_endH {it a : Addr} {Q : Option Value → Shared → Prop} (hok : HOk A H) (x : Ext H s.heap) (hit : s.heap.IsRevIter it a (-1))
    (hQ : ∀ h', (∀ b o, s.heap.get? b = some o → h'.get? b = some o) → Q none { s with heap := h' }) : wpAny (model prog w) A (pyNext (.ref it)) Q E s := by
  obtain ⟨o, ho, hc, hd⟩ := id hit
  unfold pyNext
  refine wpAny_bind (wpAny_attempt (wpAny_callSpecial?_slot (name := Str.ofString "__next__") hit.typeIs PySem.F.slot_lri_next
    (wpAny_call_entry PySem.F.slot_lri_next hit.typeIs PySem.F.entry_lri_next ?_ (PySem.F.args_lri_next_1 _))))
  unfold Builtin.«list_reverseiterator.__next__»
  refine wpAny_bind (wpAny_of_eq (a := (Value.ref it, [])) rfl ?_)
  try dsimp only
  refine wpAny_bind (wpAny_field ho hd (x := rawInt (-1)) rfl ?_)
  show wpAny _ _ (if (-1 : Int) < 0 then _ else _) _ _ s
  rw [if_pos (by decide)]
  refine wpAny_bind (wpAny_rule ?_)
  refine wpAny_bind ?_
  show wpAny _ _ (newExc (.type "StopIteration") [] >>= fun e => raiseNew e) _ _ _
  refine wpAny_stop (H := H) hok.in1 x fun h' e k he => ?_
  refine wpAny_bind (wpAny_isInstance (T := "StopIteration") (b := true) he isSubtype_stop ?_)
  exact wpAny_pure (hQ _ k)
/-- what is handled, in a heap -/
noncomputable def exAddr (A : Around) : List Addr := match A.handled with | some (.ref e) => [e] | _ => []
noncomputable def HAt (A : Around) (h : Heap) : Prop := A.handled = none ∨ ∃ e oe vs, A.handled = some (.ref e) ∧ h.get? e = some oe ∧ oe.data = .fields vs ∧ vs[2]? = some .none
theorem HAt.keep (x : HAt A h) (k : ∀ b ∈ exAddr A, ∀ o, h.get? b = some o → h'.get? b = some o) : HAt A h' := x.imp id fun ⟨e, oe, vs, h1, h2, r⟩ => ⟨e, oe, vs, h1, k e (by unfold exAddr; rw [h1]; exact .head _) oe h2, r⟩
theorem HAt.ok (x : HAt A h) : ∃ H, HOk A H ∧ Ext H h := by
  rcases x with hn | ⟨e, oe, vs, h1, h2, r⟩
  · exact ⟨fun _ => none, .inl hn, fun _ _ q => by cases q⟩
  · refine ⟨fun b => if b = e then some oe else none, .inr ⟨e, oe, vs, h1, if_pos rfl, r⟩, fun b o q => ?_⟩
    by_cases z : b = e
    · subst z; have q : (if b = b then some oe else none) = some o := q; rw [if_pos rfl] at q; cases q; exact h2
    · have q : (if b = e then some oe else none) = some o := q; rw [if_neg z] at q; cases q
theorem turns_rev {x : Str} {xp : Pos} (I a : Addr) (hne : a ≠ I) (hex : I ∉ exAddr A) (items : Array Value) :
    KTurns prog w A (.Name x xp) I ([I, a] ++ exAddr A) [I] items.size (fun i v _ => i < items.size ∧ items[items.size - 1 - i]? = some v) (fun i v h => items[items.size - 1 - i]? = some v ∧ i + 1 ≤ items.size ∧ h.IsRevIter I a ((items.size : Int) - 1 - ((i + 1 : Nat) : Int)) ∧ h.IsList a items ∧ HAt A h)
      (fun i h => i ≤ items.size ∧ h.IsRevIter I a ((items.size : Int) - 1 - (i : Int)) ∧ h.IsList a items ∧ HAt A h) where
  sub := fun b hb => by simp at hb; simp [hb]
  frame := fun _ _ _ y hk => ⟨y.1, y.2.1.at fun o e => hk I (by simp) o e, y.2.2.1.at fun o e => hk a (by simp) o e, y.2.2.2.keep fun b hb o e => hk b (List.mem_append_right _ hb) o e⟩
  item := fun i s Q E hi y hQ => by
    have e : (items.size : Int) - 1 - (i : Int) = ((items.size - 1 - i : Nat) : Int) := by omega
    have hit := y.2.1
    rw [e] at hit
    have hx : items[items.size - 1 - i]? = some (items[items.size - 1 - i]'(by omega)) := Array.getElem?_eq_getElem (by omega)
    refine wpAny_pyNext_rev_item hit y.2.2.1 hx fun h' hit' hs' => ?_
    have e2 : ((items.size - 1 - i : Nat) : Int) - 1 = (items.size : Int) - 1 - ((i + 1 : Nat) : Int) := by omega
    rw [e2] at hit'
    exact hQ _ h' s.toks ⟨hx, hi, hit', y.2.2.1.at fun o eo => (hs'.2 a hne).trans eo, y.2.2.2.keep fun b hb o eo => (hs'.2 b fun z => hex (z ▸ hb)).trans eo⟩ fun b o hb eo => hs'.extBut b o (fun h => hb (by simp [h])) eo
  go := fun i v s Q E hm hQ => wpAny_pure (hQ s.heap ⟨hm.2.1, hm.1⟩ hm.2 fun _ _ _ e => e)
  done := fun s Q E y hQ => by
    have e : (items.size : Int) - 1 - (items.size : Int) = -1 := by omega
    have hit := y.2.1
    rw [e] at hit
    obtain ⟨H, hok, hx⟩ := y.2.2.2.ok
    exact next_rev_endH hok hx hit fun h' k => hQ h' s.toks fun b o _ eo => k b o eo
/-- for x in reversed(e) -/
theorem EvIt.rev {x y : Str} {xp np pos : Pos} {e : PySem.Expr} {ds : List Dat} (hf : Ev prog w G l A env ρ μ (.Name x np) (.val (.type "reversed"))) (he : Evs prog w G l A env ρ μ [e] [.list ds]) :
    EvIt prog w G l A env ρ μ (.Name y xp) (.Call (.Name x np) [e] [] pos) ds.reverse := .callName hf (.plain (by intro _ e; cases e)) he fun H vs s Q E S r hQ => by
  obtain ⟨v, rfl, r1⟩ := r.one
  cases r1 with
  | @list a vs n ds e rs =>
    have hL := S.ext.isList e
    have hne : a ≠ s.heap.objs.size := Nat.ne_of_lt (S.ext.lt e)
    refine call_reversed_list hL ?_
    have hit : (s.heap.push (revObj a ((vs.toArray.size : Int) - 1))).IsRevIter s.heap.objs.size a ((vs.toArray.size : Int) - 1) := ⟨_, Heap.get?_push_size _ rfl, rfl, rfl⟩
    refine wpAny_pyIter_revIter hit ?_
    have hHA : HAt A (s.heap.push (revObj a ((vs.toArray.size : Int) - 1))) := S.hok.imp id fun ⟨e, oe, vs, h1, h2, r⟩ => ⟨e, oe, vs, h1, Heap.get?_push_of_some _ (S.ext _ _ h2), r⟩
    have hex : ∀ b ∈ exAddr A, ∃ o, H b = some o := fun b hb => by
      rcases S.hok with hn | ⟨e, oe, vs, h1, h2, r⟩
      · unfold exAddr at hb; rw [hn] at hb; cases hb
      · unfold exAddr at hb; rw [h1] at hb; rw [List.mem_singleton.mp hb]; exact ⟨_, h2⟩
    have hIex : s.heap.objs.size ∉ exAddr A := fun q => by
      obtain ⟨o, z⟩ := hex _ q
      exact Nat.lt_irrefl _ (S.ext.lt z)
    have hn : ds.reverse.length = vs.toArray.size := by simp [rs.length]
    refine hQ _ H _ _ (Step.push S _) ⟨?_⟩
    rw [hn]
    refine ⟨_, _, _, _, _, _, rfl, turns_rev s.heap.objs.size a hne hIex vs.toArray, ⟨Nat.zero_le _, by simpa using hit, hL.at fun o e => Heap.get?_push_of_some _ e, hHA⟩, fun i h' y b hb => ?_, fun b hb => ?_, fun b hb => ?_, fun i v h' hx hp => ?_, fun i s Q E y q => wpAny_pyIter_revIter y.2.1 q⟩
    · rw [List.mem_singleton.mp hb]; obtain ⟨o, ho, _⟩ := y.2.1; exact ⟨o, ho⟩
    · rw [List.mem_singleton.mp hb]; exact ⟨S.freshH (Nat.le_refl _), fresh_get (Nat.le_refl _)⟩
    · rcases List.mem_append.mp hb with q | q
      · rcases List.mem_cons.mp q with z | z
        · exact .inl (by simp [z])
        · rw [List.mem_singleton.mp z]; exact .inr ⟨_, e⟩
      · exact .inr (hex b q)
    · obtain ⟨hi, hp⟩ := hp
      have hil : i < vs.length := by simpa using hi
      obtain ⟨d, hd, rd⟩ := rs.back (i := vs.length - 1 - i) (v := v) (by simpa using hp)
      refine ⟨d, ?_, fun q => absurd q Bool.false_ne_true, fun _ => rd⟩
      rw [List.getElem?_reverse (by rw [← rs.length]; exact hil), ← rs.length]
      exact hd
end
end Mine
end
section
open PySem PySem.W PySem.Calls PyProof.Rows
set_option Elab.async false
set_option linter.unusedVariables false
namespace Mine
section
variable {prog : Program} {w : World} {G : GX} {l : List Env} {A : Around} {env env' : Env} {ρ ρ' ρc : Rho} {μ μ' μc μ₁ μ₂ : Mu} {H H' H₀ : PH} {h h' h₀ : Heap} {target : PySem.Expr}

theorem BinSem.addList {ds es : List Dat} (hl : ds.length + es.length ≤ 16777216) : BinSem prog w G l A env ρ μ .Add (.list ds) (.list es) (.list (ds ++ es)) := fun H va vb ra rb => by
  cases ra with
  | @list a vs n ds e r =>
    cases rb with
    | @list b us m es e' r' =>
      refine ⟨fun s Q E S hQ => ?_⟩
      have st := S.allocStep (o := listO (vs ++ us) 0) rfl
      have q : vs.toArray ++ us.toArray = (vs ++ us).toArray := by simp
      have hsz : vs.toArray.size + us.toArray.size ≤ sizeLine := sizeLine_of (by simp [r.length, r'.length]; exact hl)
      refine concat_meets ⟨_, S.ext _ _ e, rfl⟩ ⟨_, S.ext _ _ e', rfl⟩ noFill_list_add seq_list_add PySem.F.slot_list_add PySem.F.entry_list_add (PySem.F.args_list_add_2 _ _) (list_addW a b vs.toArray us.toArray n m none none #[] #[] hsz) ⟨S.ext _ _ e, S.ext _ _ e', ?_⟩
      rw [q]
      exact hQ _ _ _ s.toks st (.listNew (S.freshH (Nat.le_refl _)) (r.append r'))
theorem foldl_rep (items : Array Value) : ∀ (k : Nat) (acc : Array Value), (List.foldl (fun x1 x2 => x1 ++ x2) acc (List.replicate k items)).toList = acc.toList ++ (List.replicate k items.toList).flatten
  | 0, acc => by simp
  | k + 1, acc => by
    rw [List.replicate_succ, List.foldl_cons, foldl_rep items k, List.replicate_succ, List.flatten_cons]
    simp
theorem Reps.rep {vs : List Value} {ds : List Dat} (r : Reps prog w H vs ds) : ∀ k : Nat, Reps prog w H (List.replicate k vs).flatten (List.replicate k ds).flatten
  | 0 => .nil
  | k + 1 => by rw [List.replicate_succ, List.replicate_succ, List.flatten_cons, List.flatten_cons]; exact r.append (Reps.rep r k)
theorem BinSem.mulList {ds : List Dat} {x : Int} (hne : ds ≠ []) (hx : x < 2 ^ 63) (hlo : -(2 ^ 63) ≤ x) (hl : ds.length * x.toNat ≤ 2 ^ 24) : BinSem prog w G l A env ρ μ .Mult (.list ds) (.int x) (.list (List.replicate x.toNat ds).flatten) := fun H va vb ra rb => by
  obtain ⟨u, rfl⟩ := rb.isInt
  cases ra with
  | @list a vs n ds e r =>
    refine ⟨fun s Q E S hQ => ?_⟩
    have ho := S.ext _ _ e
    have hvne : vs.toArray.isEmpty = false := by
      cases r with
      | nil => exact absurd rfl hne
      | cons _ _ => rfl
    have hsz : vs.toArray.size * x.toNat ≤ 2 ^ 24 := by simpa [r.length] using hl
    have q : List.foldl (fun x1 x2 => x1 ++ x2) #[] (List.replicate (if vs.toArray.isEmpty = true then 0 else x.toNat) vs.toArray) = ((List.replicate x.toNat vs).flatten).toArray := by
      rw [hvne]
      apply Array.ext'
      rw [if_neg (by decide), foldl_rep]
      simp
    have st := S.allocStep (o := listO (List.replicate x.toNat vs).flatten 0) rfl
    refine wpAny_binaryOp_repeat_ref (T := "list") (U := "int") (by decide) ⟨_, ho, rfl⟩ (fun s' => typeIs_int s' x u) noFill_list_mul PySem.F.fills_int_mul PySem.F.slot_int_rmul repeat_list PySem.F.slot_int_index.lookup
      (call_meets PySem.F.slot_int_rmul (typeIs_int s x u) PySem.F.entry_int_rmul (PySem.F.args_int_rmul_2 _ _) (int___rmul___int_list x u a vs.toArray n)
        ⟨ho, rfl, ⟨_, ho, rfl⟩, call_meets PySem.F.slot_list_mul ⟨_, ho, rfl⟩ PySem.F.entry_list_mul (PySem.F.args_list_mul_2 _ _)
          (AutoListH.list___mul___list_int_3 a vs.toArray n x u (by simp [Builtin.List.listFitsIndex]; (first | lia -abstractProof | omega)) (by (first | lia -abstractProof | omega)) (by simp [Builtin.List.listTooLong, sizeLine]; (first | lia -abstractProof | omega)))
          ⟨ho, ?_⟩⟩)
    rw [q]
    exact hQ _ _ _ s.toks st (.listNew (S.freshH (Nat.le_refl _)) (Reps.rep r _))
theorem CmpSem.isBool {a b : Bool} : CmpSem prog w G l A env ρ μ .Is (.bool a) (.bool b) (a == b) := fun H va vb ra rb => by
  cases ra; cases rb
  refine .val rfl fun s Q E S hQ => ?_
  have e : compareOp .Is (.bool a) (.bool b) = pure (.bool (a == b)) := by cases a <;> cases b <;> rfl
  rw [e]; exact wpAny_pure hQ
end
end Mine
end
section
open PySem PySem.W PySem.Calls PyProof.Rows
set_option Elab.async false
set_option linter.unusedVariables false
namespace Mine
section
variable {prog : Program} {w : World} {G : GX} {l : List Env} {A : Around} {env env' : Env} {ρ ρ' ρc : Rho} {μ μ' μc μ₁ μ₂ : Mu} {H H' H₀ : PH} {h h' h₀ : Heap} {target : PySem.Expr}

/-- a comprehension's loop, for any iterator -/
theorem codeAny_compLoop_all {R : Result → Shared → Prop} {s : Shared} {elt target iter : PySem.Expr} {ifs : List PySem.Expr} {scope : Scope} {pos : Pos} {it acc : Value} {env : Env} (I : Nat → Shared → Prop)
    (turn : ∀ n s, I n s → wpAny (model prog w) A (pyNext it) (fun r s₁ => match r with
      | none => R (.ok .next) s₁
      | some v => wpAny (model prog w) A (letOwnedTupleGo target it v) (fun _ s₁' => wpAny (model prog w) A (PySem.assign target env v) (fun _ s₂ =>
          wpAny (model prog w) A (forIn ifs true fun c r => if r = true then do let ok ← isTrue c env (eval c env); pure (ForInStep.yield ok) else pure (ForInStep.yield r)) (fun ok s₃ =>
            if ok = true then wpAny (model prog w) A (eval elt env) (fun x s₄ =>
              wpAny (model prog w) A (call (.builtin "list.append") [acc, x]) (fun _ s₅ => ∃ m, m < n ∧ I m s₅) (notedBy (model prog w) A env fun e s' => R (.error e) s') s₄) (notedBy (model prog w) A env fun e s' => R (.error e) s') s₃
            else ∃ m, m < n ∧ I m s₃) (notedBy (model prog w) A env fun e s' => R (.error e) s') s₂) (notedBy (model prog w) A env fun e s' => R (.error e) s') s₁') (notedBy (model prog w) A env fun e s' => R (.error e) s') s₁) (notedBy (model prog w) A env fun e s' => R (.error e) s') s)
    (n : Nat) (h : I n s) :
    codeAny (model prog w) A (.compLoop (.ListComp elt [⟨target, iter, ifs, 0⟩] scope pos) 0 it acc env) R s := by
  refine codeAny_loop rfl I (fun n s hI => ?_) n h
  show wpAny _ A ((compTurn (.ListComp elt [⟨target, iter, ifs, 0⟩] scope pos) 0 it acc env).onRaise (fun x => do noteFrame x env; theTreesLotGoes x)) _ _ s
  refine wpAny_noted ?_
  rw [compTurn_list]
  refine wpAny_bind (wpAny_standAt (wpAny_bind (wpAny_mono (turn n s hI) (fun r s₁ h₁ => ?_) fun _ _ h' => h')))
  cases r with
  | none => exact wpAny_pure h₁
  | some v =>
    refine wpAny_bind (wpAny_mono h₁ (fun _ s₁' h₁' => ?_) fun _ _ h' => h')
    refine wpAny_bind (wpAny_mono h₁' (fun _ s₂ h₂ => wpAny_bind (wpAny_mono h₂ (fun ok s₃ h₃ => ?_) fun _ _ h' => h')) fun _ _ h' => h')
    cases ok with
    | false => exact wpAny_pure ⟨rfl, h₃⟩
    | true =>
      exact wpAny_bind (wpAny_bind (wpAny_mono h₃ (fun x s₄ h₄ => wpAny_bind (wpAny_mono h₄ (fun _ s₅ h₅ => wpAny_pure (wpAny_pure ⟨rfl, h₅⟩)) fun _ _ h' => h')) fun _ _ h' => h'))

/-- own objects that a step leaves alone -/
theorem St.withOwn {X : List Addr} (S : St prog w G l A env ρ μ H h) (S' : St prog w G l A env ρ' [] H' h') (st : Step G l X H h H' h') (hX : ∀ p ∈ μ, p.1 ∉ X) : St prog w G l A env ρ' μ H' h' :=
  { S' with
    own := fun p hp => by
      obtain ⟨h1, h2, h3, h4, o, ho, hr⟩ := S.own p hp
      obtain ⟨sl, e1, e2⟩ := st.old p.1 o (fun q => absurd (S.tout p.1 q).2 (Nat.not_lt.mpr h2)) (hX p hp) ho
      have e3 : ({ o with slots := sl } : Obj) = o := by rw [e2 h3]
      rw [e3] at e1
      refine ⟨?_, h2, h3, h4, o, e1, hr.mono st.le⟩
      cases q : H' p.1 with
      | none => rfl
      | some o' =>
        rcases st.new p.1 o' q with y | y | y
        · rw [h1] at y; cases y
        · rw [ho] at y; cases y
        · exact absurd y (hX p hp)
    nodup := S.nodup }
theorem St.noOwn (S : St prog w G l A env ρ μ H h) : St prog w G l A env ρ [] H h := { S with own := fun _ q => (nomatch q), nodup := .nil }

inductive Tests (prog : Program) (w : World) (G : GX) (l : List Env) (A : Around) (env : Env) (ρ : Rho) (μ : Mu) : List PySem.Expr → Bool → Prop
  | nil : Tests prog w G l A env ρ μ [] true
  | one {c : PySem.Expr} {b : Bool} (h : EvT prog w G l A env ρ μ c b) : Tests prog w G l A env ρ μ [c] b
theorem Tests.run {ifs : List PySem.Expr} {b : Bool} (T : Tests prog w G l A env ρ μ ifs b) (H : PH) :
    Tr prog w G l A env ρ μ H (forIn ifs true fun c r => if r = true then do let ok ← isTrue c env (eval c env); pure (ForInStep.yield ok) else pure (ForInStep.yield r)) fun _ c => c = b := by
  cases T with
  | nil => exact ⟨fun s Q E S hQ => wpAny_tests_nil (hQ _ H s.heap s.toks (.refl S.ext S.tabs) rfl)⟩
  | one h => exact ⟨fun s Q E S hQ => wpAny_tests_one ((h H).run s Q E S hQ)⟩

/-- what a comprehension's activation knows: the names that it closes over -/
noncomputable def cut (scope : Scope) (ρ : Rho) : Rho := ρ.filter fun p => scope.names.lookup p.1 == some .free
theorem cut_lookup {scope : Scope} : ∀ {ρ : Rho} {x : Str} {d : Dat}, (cut scope ρ).lookup x = some d → scope.names.lookup x = some .free ∧ ρ.lookup x = some d
  | [], x, d, e => by cases e
  | (y, d') :: ρ, x, d, e => by
    unfold cut at e
    rw [List.filter_cons] at e
    by_cases q : (scope.names.lookup y == some .free) = true
    · rw [if_pos q, List.lookup_cons] at e
      rw [List.lookup_cons]
      by_cases z : x = y
      · subst z; rw [beq_self_eq_true] at e ⊢; exact ⟨eq_of_beq q, e⟩
      · rw [beq_eq_false_iff_ne.mpr z] at e ⊢; exact cut_lookup e
    · rw [if_neg q] at e
      obtain ⟨h1, h2⟩ := cut_lookup (ρ := ρ) e
      refine ⟨h1, ?_⟩
      rw [List.lookup_cons]
      have z : x ≠ y := fun z => by subst z; exact q (by rw [h1]; rfl)
      rw [beq_eq_false_iff_ne.mpr z]; exact h2
noncomputable def cloOk (scope : Scope) (env : Env) (cl : List (Str × Addr)) : Prop :=
  (∀ x ∈ scope.names, x.2 = .free → env.kindOf x.1 ≠ some .local ∧ cl.lookup x.1 = env.cells.lookup x.1) ∧ (∀ p ∈ cl, p ∈ env.cells) ∧ cl.Pairwise fun x y => x.2 ≠ y.2
theorem lookup_relabel_free {env : Env} : ∀ {names : List (Str × NameKind)} {x : Str}, names.lookup x = some .free →
    (names.map fun (n, k) => if (k == NameKind.free && env.scope.kind == .function && env.kindOf n == some .cell) then (n, NameKind.cell) else (n, k)).lookup x = some .free ∨
    (names.map fun (n, k) => if (k == NameKind.free && env.scope.kind == .function && env.kindOf n == some .cell) then (n, NameKind.cell) else (n, k)).lookup x = some .cell
  | [], _, h => by simp at h
  | (n, k) :: r, x, h => by
    have ih := @lookup_relabel_free env r x
    by_cases hx : (x == n) = true
    · simp only [List.lookup_cons, hx] at h
      cases h
      simp only [List.map_cons]
      by_cases hc : ((NameKind.free == NameKind.free) && env.scope.kind == .function && env.kindOf n == some .cell) = true
      · rw [if_pos hc]; right; simp [List.lookup_cons, hx]
      · rw [if_neg hc]; left; simp [List.lookup_cons, hx]
    · rw [Bool.not_eq_true] at hx
      simp only [List.lookup_cons, hx] at h
      simp only [List.map_cons]
      by_cases hc : (k == NameKind.free && env.scope.kind == .function && env.kindOf n == some .cell) = true
      · rw [if_pos hc]; simp only [List.lookup_cons, hx]; exact ih h
      · rw [if_neg hc]; simp only [List.lookup_cons, hx]; exact ih h
/-- the state of a comprehension's activation -/
theorem St.comp {scope : Scope} {cl cs : List (Str × Addr)} {C : Addr} (S : St prog w G l A env ρ μ H h) (hC : env.locals < C) (hHC : H C = none) (hn : h.Ns C fun _ => none) (hkind : scope.kind = .function) (hcl : cloOk scope env cl)
    (hμ : ∀ p ∈ μ, p.1 ≠ C) (hcs : ∀ p ∈ cs, p ∈ cl ∨ (C < p.2 ∧ H p.2 = none ∧ h.IsCell p.2 none)) (hap : cs.Pairwise fun x y => x.2 ≠ y.2) (hlk : ∀ x, scope.names.lookup x = some .free → cs.lookup x = cl.lookup x) : St prog w G l A (compEnvC scope cs C env) (cut scope ρ) μ H h := by
  have hkl : ∀ x, scope.names.lookup x = some .free → (compEnvC scope cs C env).kindOf x = some .free ∨ (compEnvC scope cs C env).kindOf x = some .cell := fun x hx => lookup_relabel_free hx
  exact {
    ext := S.ext
    hok := S.hok
    afr := S.afr
    glob := S.glob
    tabs := S.tabs
    tout := S.tout
    fr := S.fr
    frle := fun a ha => Nat.le_trans (S.frle a ha) (Nat.le_of_lt hC)
    frin := S.frin
    kind := hkind
    genv := S.genv
    benv := S.benv
    base := Nat.le_trans S.base (Nat.le_of_lt hC)
    outL := hHC
    loc := ⟨_, hn, fun x d hx hk => by
      rcases hkl x (cut_lookup hx).1 with q | q <;> (rw [q] at hk; cases hk)⟩
    cel := fun x d hx hk => by
      obtain ⟨h1, h2⟩ := cut_lookup hx
      obtain ⟨n1, n2⟩ := hcl.1 (x, .free) (mem_of_lookup h1) rfl
      obtain ⟨_, c, v, e1, e2, e3⟩ := S.cel x d h2 n1
      exact ⟨(hkl x h1).symm, c, v, (hlk x h1).trans (n2.trans e1), e2, e3⟩
    cells := fun x c hm => by
      rcases hcs _ hm with hm' | ⟨q1, q2, q3⟩
      · obtain ⟨e1, e2, e3, v, e4⟩ := S.cells x c (hcl.2.1 _ hm')
        exact ⟨e1, e2, fun hf => absurd (S.frle C (S.frin C hf)) (Nat.not_le.mpr hC), v, e4⟩
      · exact ⟨q2, Nat.le_trans S.base (Nat.le_of_lt (Nat.lt_trans hC q1)), fun _ _ => q1, _, q3⟩
    apart := hap
    cdom := fun hf => absurd (S.frle C (S.frin C hf)) (Nat.not_le.mpr hC)
    own := fun p hp => by
      obtain ⟨h1, h2, h3, h4, r⟩ := S.own p hp
      exact ⟨h1, h2, h3, hμ p hp, r⟩
    nodup := S.nodup }
theorem cellsFrom_app : ∀ (names : List (Str × NameKind)) (n : Nat) (acc : List (Str × Addr)), cellsFrom n names acc = cellsFrom n names [] ++ acc
  | [], _, _ => rfl
  | (name, kind) :: r, n, acc => by
    unfold cellsFrom
    split
    · rw [cellsFrom_app r (n + 1) ((name, n) :: acc), cellsFrom_app r (n + 1) [(name, n)], List.append_assoc]; rfl
    · exact cellsFrom_app r n acc
theorem cellsFrom_mem : ∀ (names : List (Str × NameKind)) (n : Nat) {x : Str} {c : Addr}, (x, c) ∈ cellsFrom n names [] → (x, .cell) ∈ names
  | [], _, _, _, h => nomatch h
  | (name, kind) :: r, n, x, c, h => by
    unfold cellsFrom at h
    split at h
    · rename_i q
      rw [cellsFrom_app] at h
      rcases List.mem_append.mp h with z | z
      · exact .tail _ (cellsFrom_mem r (n + 1) z)
      · cases List.mem_singleton.mp z
        rw [eq_of_beq q]; exact .head _
    · exact .tail _ (cellsFrom_mem r n h)
theorem cells_lookup {scope : Scope} {cl : List (Str × Addr)} {n : Nat} (hcn : ∀ y ∈ scope.names, y.2 = .cell → scope.names.lookup y.1 = some .cell) {x : Str} (hx : scope.names.lookup x = some .free) : (cellsFrom n scope.names cl).lookup x = cl.lookup x := by
  rw [cellsFrom_app, List.lookup_append]
  cases q : (cellsFrom n scope.names []).lookup x with
  | none => rfl
  | some c =>
    have h1 := hcn _ (cellsFrom_mem _ _ (mem_of_lookup q)) rfl
    rw [hx] at h1; cases h1
/-- the activation of a comprehension -/
theorem newCompEnv {M : Model} {A : Around} {E : Value → Shared → Prop} {s : Shared} {scope : Scope} {globals : Addr} {cl : List (Str × Addr)} {qual : Str} {env : Env} {Q : Env → Shared → Prop}
    (hQ : ∀ h', h'.Ns s.heap.objs.size (fun _ => none) → (∀ b o, s.heap.get? b = some o → h'.get? b = some o) → (∀ p ∈ cellsFrom (s.heap.objs.size + 1) scope.names [], s.heap.objs.size < p.2 ∧ h'.IsCell p.2 none) →
      ((cellsFrom (s.heap.objs.size + 1) scope.names []).Pairwise fun x y => x.2 ≠ y.2) →
      Q { scope, locals := s.heap.objs.size, globals, cells := cellsFrom (s.heap.objs.size + 1) scope.names cl, qual, func := none, code := env.code, frame := env.frame, builtins := env.builtins } { s with heap := h' }) :
    wpAny M A (newFunctionEnv scope globals cl [] qual none .none (some env)) Q E s := by
  simp only [newFunctionEnv, Option.isSome_some, if_true]
  refine wpAny_bind (wpAny_alloc ?_)
  refine wpAny_bind (wpAny_layCells _ (fun name kind cells => by cases hkc : kind == NameKind.cell <;> simp [hkc]) _ _ _ _ ?_)
  have ok := cellsFrom_ok scope.names (s.heap.push { cls := .type "dict", data := .dict #[] }) (s.heap.objs.size + 1) [] ⟨fun _ _ hm => (nomatch hm), List.Pairwise.nil⟩ (by rw [Heap.size_push]; exact Nat.le_refl _)
  rw [Heap.size_push] at ok
  rw [show ({ s with heap := s.heap.push { cls := .type "dict", data := .dict #[] } } : Shared).heap.objs.size = s.heap.objs.size + 1 from Heap.size_push ..]
  refine wpAny_bind (wpAny_pure (wpAny_pure (hQ _ ((Heap.Ns.new s.heap (.type "dict")).keeps (pushCells_keeps _ _)) (fun b o e => pushCells_keeps _ _ b o (Heap.get?_push_of_some _ e)) (fun p hp => ?_) ok.apart)))
  obtain ⟨q1, q2⟩ := ok.empty p.1 p.2 hp
  exact ⟨q2, q1⟩
end
end Mine
end
section
open PySem PySem.W PySem.Calls PyProof.Rows
set_option Elab.async false
set_option linter.unusedVariables false
namespace Mine
section
variable {prog : Program} {w : World} {G : GX} {l : List Env} {A : Around} {env env' : Env} {ρ ρ' ρc : Rho} {μ μ' μc μ₁ μ₂ : Mu} {H H' H₀ H₁ : PH} {h h' h₀ : Heap} {target : PySem.Expr}

theorem Step.freezeNew {X : List Addr} {D : Addr} {o : Obj} (st : Step G l X H h H' h') (hd : h.get? D = none) (hn : H' D = none) (ho : h'.get? D = some o) : Step G l X H h (addO H' D o) h' where
  le := st.le.trans (le_addO hn)
  ext := st.ext.addO ho
  new := fun a o' q => by
    by_cases z : a = D
    · exact .inr (.inl (by rw [z]; exact hd))
    · rw [addO_ne z] at q; exact st.new a o' q
  old := st.old
  alive := st.alive
  tabs := st.tabs.mono (le_addO hn) fun _ _ _ q => q

structure CompInv (prog : Program) (w : World) (G : GX) (l : List Env) (A : Around) (env' : Env) (ρ₀ : Rho) (μ : Mu) (H H₁ : PH) (h : Heap) (D : Addr) (W : List Addr) (Si : Nat → Heap → Prop) (out : Nat → List Dat) (n i : Nat) (h' : Heap) (H' : PH) : Prop where
  si : Si i h'
  st : St prog w G l A env' ρ₀ ((D, .list (out i)) :: μ) H' h'
  step : Step G l [] H h H' h'
  none : ∀ b ∈ W, H' b = none
  le : Le H₁ H'
  lt : i ≤ n

theorem comp_run {elt iter : PySem.Expr} {ifs : List PySem.Expr} {scope : Scope} {pos p' : Pos} {cl : List (Str × Addr)} {ds : List Dat} {p : Dat → Bool} {F : Dat → Dat} {use : Option (Value → Sem Unit)} {s : Shared} {Q : Value → Shared → Prop} {E : Value → Shared → Prop}
    (S : St prog w G l A env ρ μ H s.heap) (hit : EvIt prog w G l A env ρ μ target iter ds) (hclos : closureFor scope env = pure cl) (hcl : cloOk scope env cl) (hkind : scope.kind = .function) (hcn : ∀ y ∈ scope.names, y.2 = .cell → scope.names.lookup y.1 = some .cell)
    (hnames : ∀ x ∈ scope.names, x.2 = .local → scope.names.lookup x.1 = some .local) (hlen : ds.length ≤ 16777216)
    (body : ∀ C d, d ∈ ds → ∃ ρ', Targ (compEnvC scope (cellsFrom (C + 1) scope.names cl) C env) target d (cut scope ρ) ρ' ∧ Tests prog w G l A (compEnvC scope (cellsFrom (C + 1) scope.names cl) C env) ρ' μ ifs (p d) ∧ (p d = true → Ev prog w G l A (compEnvC scope (cellsFrom (C + 1) scope.names cl) C env) ρ' μ elt (F d)) ∧ Sub (cut scope ρ) ρ')
    (fin : ∀ H' h' tk D C m, Step G l [] H s.heap H' h' → Rep prog w H' (.ref D) (.list ((ds.filter p).map F)) → h'.Ns C m → H' C = none → s.heap.get? C = none → compPost (model prog w) A E use Q (.ref D) C (.ok .next) { s with heap := h', toks := tk })
    (hs : ∀ x, foldedSetIterable iter env x = pure x) :
    wpAny (model prog w) A (comprehension (.ListComp elt [⟨target, iter, ifs, 0⟩] scope pos) scope env p' (newList []) false (eval iter env) use) Q E s := by
  refine wpAny_comprehension_free (cl := cl) (g := ⟨target, iter, ifs, 0⟩) (gs := []) rfl hs hclos hkind hnames ?_
  with_reducible refine hit.run H s _ E S fun it H₁ h₁ tk₁ st₁ hI => ?_
  obtain ⟨I, fp, W, P, Md, Si, rfl, K, hsi, hlive, hW, hfp, hP, hself⟩ := hI.ex
  refine wpAny_newList ?_ (sizeLine_of (by decide))
  refine newCompEnv fun h₂ hns old₂ hown hpw => ?_
  have S₁ := S.step st₁
  obtain ⟨SD, stD⟩ := S₁.newOwn (o := listO [] 0) (md := .list []) rfl ⟨[], 0, rfl, .nil⟩
  generalize hg : h₁.push (listO [] 0) = g at SD stD
  have hg' : h₁.push { cls := .type "list", data := .seq ([] : List Value).toArray } = g := hg
  have hC : g.objs.size = h₁.objs.size + 1 := by rw [← hg, Heap.size_push]
  rw [hg'] at hns old₂ hown hpw
  dsimp only at hns old₂ hown hpw ⊢
  generalize hCC : g.objs.size = C at *
  have oldC : ∀ b o, g.get? b = some o → h₂.get? b = some o := old₂
  have stC : Step G l [] H₁ g H₁ h₂ := Step.grow SD oldC
  have SC := SD.step stC
  have base : Step G l [] H s.heap H₁ h₂ := (st₁.trans stD).trans stC
  have hHC : H₁ C = none := S₁.freshH (by rw [hC]; exact Nat.le_succ _)
  have hLC : env.locals < C := by rw [hC]; exact Nat.lt_succ_of_lt S₁.ltL
  have hCs : s.heap.get? C = none := dead_back st₁.alive (fresh_get (by rw [hC]; exact Nat.le_succ _))
  have hDs : s.heap.get? h₁.objs.size = none := dead_back st₁.alive (fresh_get (Nat.le_refl _))
  have hns' : h₂.Ns C fun _ => none := hns
  have hcellC : ∀ p ∈ env.cells, p.2 < C := fun p hp => by
    obtain ⟨_, _, _, v, o, e, _⟩ := S₁.cells p.1 p.2 hp
    rw [hC]; exact Nat.lt_succ_of_lt (Heap.lt_size e)
  have hμC : ∀ p ∈ ((h₁.objs.size, MD.list []) :: μ), p.1 ≠ C := fun p hp => by
    obtain ⟨_, _, _, _, o, e, _⟩ := SD.own p hp
    rw [← hCC]; exact Nat.ne_of_lt (Heap.lt_size e)
  generalize hcsd : cellsFrom (C + 1) scope.names cl = cs at *
  have hcs : ∀ p ∈ cs, p ∈ cl ∨ (C < p.2 ∧ H₁ p.2 = none ∧ h₂.IsCell p.2 none) := fun p hp => by
    rw [← hcsd, cellsFrom_app] at hp
    rcases List.mem_append.mp hp with q | q
    · obtain ⟨q1, q2⟩ := hown p q
      exact .inr ⟨q1, S₁.freshH (Nat.le_of_lt (by rw [hC] at q1; (first | lia | omega))), q2⟩
    · exact .inl q
  have hap : cs.Pairwise fun x y => x.2 ≠ y.2 := by
    rw [← hcsd, cellsFrom_app]
    refine List.pairwise_append.mpr ⟨hpw, hcl.2.2, fun x hx y hy e => ?_⟩
    have h1 := (hown x hx).1
    have h2 := hcellC y (hcl.2.1 _ hy)
    rw [e] at h1; exact absurd h1 (Nat.not_lt.mpr (Nat.le_of_lt h2))
  have S₂ := St.comp (scope := scope) (cl := cl) (cs := cs) SC hLC hHC hns' hkind hcl hμC hcs hap (fun x hx => by rw [← hcsd]; exact cells_lookup hcn hx)
  have aps := S.apartW (W := W) fun b hb => (hW b hb).2
  have liveW : ∀ b ∈ W, ∃ o, h₁.get? b = some o := hlive 0 h₁ hsi
  have ap : Apart G l (compEnvC scope cs C env) W := ⟨aps.tw, fun b hb e => by
      obtain ⟨o, z⟩ := liveW b hb
      have e : b = C := e
      have := Heap.lt_size z
      rw [e, hC] at this; exact Nat.lt_irrefl _ (Nat.lt_of_succ_lt this), fun b hb x hm => (hcs _ hm).elim (fun hm => aps.cell b hb x (hcl.2.1 _ hm)) fun ⟨q1, _, _⟩ => by
      obtain ⟨o, z⟩ := liveW b hb
      have := Heap.lt_size z
      have q1 : C < b := q1
      rw [hC] at q1; exact Nat.lt_asymm (Nat.lt_of_succ_lt q1) this, aps.fr⟩
  have hμlt : ∀ acc : List Dat, ∀ p ∈ ((h₁.objs.size, MD.list acc) :: μ), p.1 < C := fun acc p hp => by
    rcases List.mem_cons.mp hp with rfl | hp
    · rw [hC]; exact Nat.lt_succ_self _
    · obtain ⟨_, _, _, _, o, e, _⟩ := SD.own p (.tail _ hp)
      rw [← hCC]; exact Heap.lt_size e
  have hμW : ∀ acc : List Dat, ∀ p ∈ ((h₁.objs.size, MD.list acc) :: μ), p.1 ∉ W := fun acc p hp hb => by
    rcases List.mem_cons.mp hp with rfl | hp
    · obtain ⟨o, z⟩ := liveW _ hb
      exact Nat.lt_irrefl _ (Heap.lt_size z)
    · obtain ⟨_, _, _, _, o, ho, _⟩ := S.own p hp
      rw [(hW _ hb).2] at ho; cases ho
  have hwrC : ∀ a ∈ wr (compEnvC scope cs C env) [], C ≤ a := fun a ha => by
    rcases List.mem_cons.mp ha with e | ha
    · exact Nat.le_of_eq e.symm
    · rcases List.mem_append.mp ha with q | q
      · exact Nat.le_of_lt (of_decide_eq_true (List.mem_filter.mp q).2)
      · cases q
  have hdeadC : ∀ a, C ≤ a → s.heap.get? a = none := fun a ha => dead_back st₁.alive (fresh_get (by rw [hC] at ha; (first | lia | omega)))
  have hltW : ∀ b ∈ W, b < C := fun b hb => by
    obtain ⟨o, z⟩ := liveW b hb
    have := Heap.lt_size z
    rw [hC]; exact Nat.lt_succ_of_lt this
  have hDtw : h₁.objs.size ∉ G.tw := fun q => absurd (S₁.tout _ q).2 (Nat.not_lt.mpr (Nat.le_trans S₁.base (Nat.le_of_lt S₁.ltL)))
  let out := fun (i : Nat) => ((ds.take i).filter p).map F
  have hsi₂ : Si 0 h₂ := K.frame _ _ _ hsi fun b _ o e => oldC b o (by rw [← hg]; exact Heap.get?_push_of_some _ e)
  have loop : codeAny (model prog w) A (.compLoop (.ListComp elt [⟨target, iter, ifs, 0⟩] scope pos) 0 (.ref I) (.ref h₁.objs.size) (compEnvC scope cs C env)) (compPost (model prog w) A E use Q (.ref h₁.objs.size) C) { s with heap := h₂, toks := tk₁ } := by
    refine codeAny_compLoop_all (fun k s' => ∃ h' tk H' i, s' = { s with heap := h', toks := tk } ∧ CompInv prog w G l A (compEnvC scope cs C env) (cut scope ρ) μ H H₁ s.heap h₁.objs.size W Si out ds.length i h' H' ∧ k = ds.length + 1 - i) ?_ (ds.length + 1)
      ⟨h₂, tk₁, H₁, 0, rfl, ⟨hsi₂, S₂, base, fun b hb => (hW b hb).1, Le.refl _, Nat.zero_le _⟩, rfl⟩
    rintro k s' ⟨h', tk, H', i, rfl, V, rfl⟩
    by_cases hlt : i < ds.length
    · with_reducible refine K.item i _ _ _ hlt V.si fun v h₃ tk₃ hMd hk₃ => ?_
      with_reducible refine K.go i v _ _ _ hMd fun h₄ hPv hsi₄ hk₄ => ?_
      have keep : ∀ b o, b ∉ W → h'.get? b = some o → h₄.get? b = some o := fun b o hb e => hk₄ b o hb (hk₃ b o hb e)
      have S₄ := V.st.iter ap V.none (hμW _) keep
      have st₄ := V.step.iter (fun b hb => (hW b hb).2) S₄ keep
      obtain ⟨d, hd, hT⟩ := hP i v h₄ (fun a o e => S₄.ext a o (V.le a o e)) hPv
      obtain ⟨ρ', hTa, hTe, hEl, hSub⟩ := by
        have z := body C d (List.mem_of_getElem? hd)
        rw [hcsd] at z
        exact z
      have hout : out (i + 1) = out i ++ if p d = true then [F d] else [] := by
        show ((ds.take (i + 1)).filter p).map F = _
        rw [List.take_add_one, hd]
        simp only [Option.toList_some, List.filter_append, List.map_append]
        congr 1
        cases hpd : p d <;> simp [hpd]
      refine assign_run (s := { s with heap := h₄, toks := tk₃ }) hTa S₄.noOwn (hT.mono V.le fun _ _ e => e) fun h₅ tk₅ S₅' st₅ => ?_
      have hX : ∀ q ∈ ((h₁.objs.size, MD.list (out i)) :: μ), q.1 ∉ wr (compEnvC scope cs C env) [] := fun q hq hm => absurd (hwrC _ hm) (Nat.not_le.mpr (hμlt _ q hq))
      have S₅ := S₄.withOwn S₅' st₅ hX
      have st₅b : Step G l [] H s.heap H' h₅ := st₄.trans' st₅ fun a ha => .inr (hdeadC a (hwrC a ha))
      refine (hTe.run H').run { s with heap := h₅, toks := tk₅ } _ _ S₅.drop fun ok H₆ h₆ tk₆ st₆ e => ?_
      subst e
      have S₆ := S₅.step st₆
      have st₆b := st₅b.trans st₆
      have live₄ : ∀ b ∈ W, ∃ o, h₄.get? b = some o := hlive _ _ hsi₄
      have none₆ : ∀ b ∈ W, H₆ b = none := fun b hb => by
        cases q : H₆ b with
        | none => rfl
        | some o =>
          obtain ⟨o₄, e₄⟩ := live₄ b hb
          rcases (st₅.trans st₆).new b o q with z | z | z
          · rw [V.none b hb] at z; cases z
          · rw [show h₄.get? b = none from z] at e₄; cases e₄
          · exact absurd (hwrC b z) (Nat.not_le.mpr (hltW b hb))
      have keep₆ : ∀ b ∈ W, ∀ o, h₄.get? b = some o → h₆.get? b = some o := fun b hb o e => by
        obtain ⟨sl, e1, n1⟩ := (st₅.trans st₆).old b o (ap.tw b hb) (fun z => absurd (hwrC b z) (Nat.not_le.mpr (hltW b hb))) e
        have e2 : ({ o with slots := sl } : Obj) = o := by rw [n1 (ap.fr b hb)]
        rw [e2] at e1; exact e1
      have hle₆ : Le H₁ H₆ := V.le.trans st₆.le
      have frame : ∀ {H₇ : PH} {h₇ : Heap}, Le H₆ H₇ → Ext H₇ h₇ → (∀ b ∈ W, ∀ o, h₆.get? b = some o → h₇.get? b = some o) → Si (i + 1) h₇ := fun k x kw => K.frame _ _ _ hsi₄ fun b hb o e => by
        rcases hfp b hb with q | ⟨o', q⟩
        · exact kw b q o (keep₆ b q o e)
        · have q' := V.le _ _ q
          have e' := S₄.ext _ _ q'
          rw [e] at e'; cases e'
          exact x _ _ (k _ _ (st₆.le _ _ q'))
      by_cases hpd : p d = true
      · rw [if_pos hpd]
        refine ((hEl hpd).at H₆).run { s with heap := h₆, toks := tk₆ } _ _ S₆.drop fun y H₇ h₇ tk₇ st₇ ry => ?_
        have S₇ := S₆.step st₇
        have st₇b := st₆b.trans st₇
        obtain ⟨hnD, _, _, _, oD, hoD, vs, n, rfl, rs⟩ := S₇.own _ (.head _)
        have hvl : vs.toArray.size ≤ sizeLine := by
          have h1 := rs.length
          have h2 : (out i).length ≤ ds.length := by
            show (((ds.take i).filter p).map F).length ≤ _
            rw [List.length_map]
            exact Nat.le_trans (List.length_filter_le _ _) (by rw [List.length_take]; exact Nat.min_le_right _ _)
          exact sizeLine_of (by simp; (first | lia | omega))
        refine wpAny_list_append_plain (items := vs.toArray) ⟨n, hoD⟩ (fun h₈ hl₈ hs₈ => ?_) hvl
        obtain ⟨n', ho₈⟩ := hl₈
        have ho₈' : h₈.get? h₁.objs.size = some (listO (vs ++ [y]) n') := by rw [ho₈]; simp [listO]
        have S₈ := (S₇.setOwn (μ₁ := []) (md' := .list (out (i + 1))) rfl ho₈' ⟨_, n', rfl, by rw [hout, if_pos hpd]; exact rs.append (.cons ry .nil)⟩ hs₈).1
        have st₈ : Step G l [h₁.objs.size] H₇ h₇ H₇ h₈ := Step.sameBut S₇.ext S₇.tabs hnD (.head _) hDtw hs₈ ⟨_, ho₈'⟩
        have st₈b : Step G l [] H s.heap H₇ h₈ := st₇b.trans' st₈ fun a ha => .inr (by rw [List.mem_singleton.mp ha]; exact hDs)
        have hWD : ∀ b ∈ W, b ≠ h₁.objs.size := fun b hb e => hμW [] _ (.head _) (e ▸ hb)
        have none₇ : ∀ b ∈ W, H₇ b = none := fun b hb => by
          cases q : H₇ b with
          | none => rfl
          | some o =>
            obtain ⟨o₄, e₄⟩ := live₄ b hb
            have e₆ := keep₆ b hb _ e₄
            rcases st₇.new b o q with z | z | z
            · rw [none₆ b hb] at z; cases z
            · rw [show h₆.get? b = none from z] at e₆; cases e₆
            · cases z
        refine ⟨ds.length + 1 - (i + 1), by (first | lia | omega), h₈, tk₇, H₇, i + 1, rfl, ⟨frame st₇.le S₈.ext (fun b hb o e => ?_), S₈.sub hSub, st₈b, none₇, hle₆.trans st₇.le, hlt⟩, rfl⟩
        obtain ⟨sl, e1, n1⟩ := st₇.old b o (ap.tw b hb) (fun z => nomatch z) e
        have e2 : ({ o with slots := sl } : Obj) = o := by rw [n1 (ap.fr b hb)]
        rw [e2] at e1
        exact (hs₈.2 b (hWD b hb)).trans e1
      · rw [if_neg hpd]
        have S₆' : St prog w G l A (compEnvC scope cs C env) ρ' ((h₁.objs.size, .list (out (i + 1))) :: μ) H₆ h₆ := by
          have e : out (i + 1) = out i := by rw [hout, if_neg hpd, List.append_nil]
          rw [e]; exact S₆
        exact ⟨ds.length + 1 - (i + 1), by (first | lia | omega), h₆, tk₆, H₆, i + 1, rfl, ⟨frame (Le.refl _) S₆.ext fun _ _ _ e => e, S₆'.sub hSub, st₆b, none₆, hle₆, hlt⟩, rfl⟩
    · have hin : i = ds.length := Nat.le_antisymm V.lt (Nat.not_lt.mp hlt)
      subst hin
      with_reducible refine K.done _ _ _ V.si fun h₃ tk₃ hk₃ => ?_
      have S₃ := V.st.iter ap V.none (hμW _) hk₃
      have st₃ := V.step.iter (fun b hb => (hW b hb).2) S₃ hk₃
      obtain ⟨hnD, _, _, hDC, oD, hoD, vs, n, rfl, rs⟩ := S₃.own _ (.head _)
      obtain ⟨m, hm, _⟩ := S₃.loc
      have hout : out ds.length = (ds.filter p).map F := by show ((ds.take ds.length).filter p).map F = _; rw [List.take_length]
      have hCD : C ≠ h₁.objs.size := Ne.symm hDC
      exact fin (addO H' h₁.objs.size (listO vs n)) h₃ tk₃ h₁.objs.size C m (st₃.freezeNew hDs hnD hoD) (.list (addO_self ..) ((hout ▸ rs).mono (le_addO hnD))) hm ((addO_ne hCD).trans S₃.outL) hCs
  exact codeAny_compStart_list loop (hself 0 _ _ _ hsi₂ loop)
end
end Mine
end
section
open PySem PySem.W PySem.Calls PyProof.Rows
set_option Elab.async false
set_option linter.unusedVariables false
namespace Mine
section
variable {prog : Program} {w : World} {G : GX} {l : List Env} {A : Around} {env env' : Env} {ρ ρ' ρc : Rho} {μ μ' μc μ₁ μ₂ : Mu} {H H' H₀ H₁ : PH} {h h' h'' h₀ : Heap} {target : PySem.Expr}

theorem Step.butNew {X : List Addr} {C : Addr} (st : Step G l X H h H' h') (hs : Heap.SameBut C h' h'') (hn : H' C = none) (hC : h.get? C = none) (ht : C ∉ G.tw) : Step G l X H h H' h'' where
  le := st.le
  ext := st.ext.sameBut hn hs
  new := st.new
  old := fun a o h1 h2 e => by
    obtain ⟨sl, e1, n1⟩ := st.old a o h1 h2 e
    exact ⟨sl, (hs.2 a fun z => by rw [z, hC] at e; cases e).trans e1, n1⟩
  alive := fun a o e => by
    obtain ⟨o', e1⟩ := st.alive a o e
    exact ⟨o', (hs.2 a fun z => by rw [z, hC] at e; cases e).trans e1⟩
  tabs := st.tabs.mono (Le.refl _) fun a o ha e => (hs.2 a fun z => ht (z ▸ ha)).trans e
noncomputable def ClAll (env : Env) : List (Str × Addr) → Prop
  | [] => True
  | p :: r => env.cells.lookup p.1 = some p.2 ∧ ClAll env r
theorem ClAll.mem {env : Env} : ∀ {cl : List (Str × Addr)}, ClAll env cl → ∀ p ∈ cl, env.cells.lookup p.1 = some p.2
  | _ :: _, h, p, hp => (List.mem_cons.mp hp).elim (fun e => e ▸ h.1) fun q => h.2.mem p q
noncomputable def cloB (scope : Scope) (env : Env) (cl : List (Str × Addr)) : Bool :=
  (scope.names.all fun x => x.2 != .free || (env.kindOf x.1 != some .local && (cl.map (·.1)).contains x.1)) && decide (cl.map (·.1)).Nodup && (scope.kind == .function) && (scope.names.all fun y => y.2 != .cell || scope.names.lookup y.1 == some .cell) && (scope.names.all fun x => x.2 != .local || scope.names.lookup x.1 == some .local)
theorem cloOk_of {scope : Scope} {cl : List (Str × Addr)} (S : St prog w G l A env ρ μ H h) (hb : cloB scope env cl = true) (hc : ClAll env cl) : cloOk scope env cl ∧ scope.kind = .function ∧ (∀ y ∈ scope.names, y.2 = .cell → scope.names.lookup y.1 = some .cell) ∧ ∀ x ∈ scope.names, x.2 = .local → scope.names.lookup x.1 = some .local := by
  unfold cloB at hb
  simp only [Bool.and_eq_true, List.all_eq_true, Bool.or_eq_true, bne_iff_ne, beq_iff_eq, decide_eq_true_eq, List.contains_iff_mem] at hb
  obtain ⟨⟨⟨⟨h1, h2⟩, h3⟩, h4⟩, h5⟩ := hb
  refine ⟨⟨fun x hx hf => ?_, fun p hp => mem_of_lookup (hc.mem p hp), ?_⟩, h3, fun x hx hl => (h4 x hx).resolve_left fun q => q hl, fun x hx hl => (h5 x hx).resolve_left fun q => q hl⟩
  · obtain ⟨k1, k2⟩ := (h1 x hx).resolve_left fun q => q hf
    refine ⟨k1, ?_⟩
    obtain ⟨p, hp, e⟩ := List.mem_map.mp k2
    have e1 : cl.lookup x.1 = some p.2 := by rw [← e]; exact lookup_of_mem_nodup h2 hp
    rw [e1, ← e]; exact (hc.mem p hp).symm
  · have hall : ∀ (r : List (Str × Addr)), (∀ p ∈ r, p ∈ cl) → (r.map (·.1)).Nodup → r.Pairwise fun x y => x.2 ≠ y.2 := by
      intro r
      induction r with
      | nil => intro _ _; exact .nil
      | cons p r ih =>
        intro hr hn
        have hn' := List.nodup_cons.mp hn
        refine .cons (fun q hq e => hn'.1 ?_) (ih (fun q hq => hr q (.tail _ hq)) hn'.2)
        have e1 : p.1 = q.1 := name_of_addr S.apart (mem_of_lookup (hc.mem p (hr p (.head _)))) (by have := mem_of_lookup (hc.mem q (hr q (.tail _ hq))); rw [← e] at this; exact this)
        show p.1 ∈ _
        rw [e1]; exact List.mem_map_of_mem hq
    exact hall cl (fun _ q => q) h2
theorem St.notTw (S : St prog w G l A env ρ μ H h) {C : Addr} (hC : h.get? C = none) : C ∉ G.tw := fun q => (S.apartW (W := [C]) fun b hb => by rw [List.mem_singleton.mp hb]; exact hC).tw C (.head _) q
/-- [elt for target in iter if ifs] -/
theorem Ev.comp {elt iter : PySem.Expr} {ifs : List PySem.Expr} {scope : Scope} {pos : Pos} {ds : List Dat} (cl : List (Str × Addr)) (p : Dat → Bool) (F : Dat → Dat)
    (hit : EvIt prog w G l A env ρ μ target iter ds) (hlen : ds.length ≤ 16777216)
    (body : ∀ C d, d ∈ ds → ∃ ρ', Targ (compEnvC scope (cellsFrom (C + 1) scope.names cl) C env) target d (cut scope ρ) ρ' ∧ Tests prog w G l A (compEnvC scope (cellsFrom (C + 1) scope.names cl) C env) ρ' μ ifs (p d) ∧ (p d = true → Ev prog w G l A (compEnvC scope (cellsFrom (C + 1) scope.names cl) C env) ρ' μ elt (F d)) ∧ Sub (cut scope ρ) ρ')
    (hclos : closureFor scope env = pure cl := by rfl) (hb : cloB scope env cl = true := by rfl) (hc : ClAll env cl := by first | exact trivial | exact ⟨rfl, trivial⟩ | exact ⟨rfl, rfl, trivial⟩ | exact ⟨rfl, rfl, rfl, trivial⟩ | exact ⟨rfl, rfl, rfl, rfl, trivial⟩)
    (hs : ∀ x, foldedSetIterable iter env x = pure x := by intro _; rfl) : Ev prog w G l A env ρ μ (.ListComp elt [⟨target, iter, ifs, 0⟩] scope pos) (.list ((ds.filter p).map F)) := fun H => by
  refine ⟨fun s Q E S hQ => ?_⟩
  obtain ⟨k1, k2, k3, k4⟩ := cloOk_of S hb hc
  refine comp_run (use := none) S hit hclos k1 k2 k3 k4 hlen body (fun H' h' tk D C m st r hm hn hC => ?_) hs
  exact ⟨m, hm, fun h'' hs' => hQ _ H' h'' tk (st.butNew hs' hn hC (S.notTw hC)) r⟩
/-- x = [elt for target in iter if ifs], bound before the variables go -/
theorem WP.assignComp {x : Str} {xp : Pos} {elt iter : PySem.Expr} {ifs : List PySem.Expr} {scope : Scope} {pos apos : Pos} {ds : List Dat} {Φ : AF → Rho → Mu → Prop} (cl : List (Str × Addr)) (p : Dat → Bool) (F : Dat → Dat)
    (hit : EvIt prog w G l A env ρ μ target iter ds) (hlen : ds.length ≤ 16777216)
    (body : ∀ C d, d ∈ ds → ∃ ρ', Targ (compEnvC scope (cellsFrom (C + 1) scope.names cl) C env) target d (cut scope ρ) ρ' ∧ Tests prog w G l A (compEnvC scope (cellsFrom (C + 1) scope.names cl) C env) ρ' μ ifs (p d) ∧ (p d = true → Ev prog w G l A (compEnvC scope (cellsFrom (C + 1) scope.names cl) C env) ρ' μ elt (F d)) ∧ Sub (cut scope ρ) ρ')
    (k : Φ .next ((x, .list ((ds.filter p).map F)) :: ρ) μ) (hk : env.kindOf x = some .local := by rfl) (hsw : swapsWith (.ListComp elt [⟨target, iter, ifs, 0⟩] scope pos) (some (.Name x xp)) apos.line env = pure true := by rfl)
    (hclos : closureFor scope env = pure cl := by rfl) (hb : cloB scope env cl = true := by rfl) (hc : ClAll env cl := by first | exact trivial | exact ⟨rfl, trivial⟩ | exact ⟨rfl, rfl, trivial⟩ | exact ⟨rfl, rfl, rfl, trivial⟩ | exact ⟨rfl, rfl, rfl, rfl, trivial⟩)
    (hs : ∀ x, foldedSetIterable iter env x = pure x := by intro _; rfl) : WP prog w G l A env (exec (.Assign [.Name x xp] (.ListComp elt [⟨target, iter, ifs, 0⟩] scope pos) apos) env) ρ μ Φ := fun H => by
  refine ⟨fun s Q E S hQ => ?_⟩
  obtain ⟨k1, k2, k3, k4⟩ := cloOk_of S hb hc
  rw [exec_Assign_Name_used _ _ _ _ hsw]
  refine wpAny_bind (wpAny_standAt (wpAny_bind ?_))
  show wpAny _ A (do let _ ← comprehension (.ListComp elt [⟨target, iter, ifs, 0⟩] scope pos) scope env _ (newList []) false (eval iter env) (some (PySem.assign (.Name x xp) env))) _ _ s
  refine wpAny_bind (wpAny_mono (comp_run (use := some (PySem.assign (.Name x xp) env)) (Q := fun _ s' => Q .next s') S hit hclos k1 k2 k3 k4 hlen body (fun H' h' tk D C m st r hm hn hC => ?_) hs) (fun _ s' hq => wpAny_pure (wpAny_pure hq)) fun _ _ e => e)
  have S' := S.step st
  have ap : Apart G l env [C] := S.apartW fun b hb => by rw [List.mem_singleton.mp hb]; exact hC
  have hb' : TS prog w G l A env H' (PySem.assign (.Name x xp) env (.ref D)) ρ μ fun H'' _ ρ'' μ'' => H'' = H' ∧ ρ'' = (x, .list ((ds.filter p).map F)) :: ρ ∧ μ'' = μ := by
    rw [PySem.assign_Name]
    exact TS.standAt (TS.bindName (.inl hk) r ⟨rfl, rfl, rfl⟩)
  refine hb'.run { s with heap := h', toks := tk } _ E S' fun _ ρ₁ μ₁ H₂ h₂ tk₂ S₂ st₂ hm₂ hx9 => ?_
  obtain ⟨e1, e2, e3⟩ := hx9
  subst e1; subst e2; subst e3
  have hμC : ∀ q ∈ μ₁, q.1 ∉ [C] := fun q hq hm => by
    obtain ⟨_, _, _, _, o, ho, _⟩ := S.own q hq
    rw [List.mem_singleton.mp hm, hC] at ho; cases ho
  have hCw : C ∉ wr env μ₁ := ap.wr hμC C (.head _)
  refine ⟨m, hm.at' fun o e => ?_, fun h₃ hs₃ => ?_⟩
  · obtain ⟨sl, q1, q2⟩ := st₂.old C o (ap.tw C (.head _)) hCw e
    have q3 : ({ o with slots := sl } : Obj) = o := by rw [q2 (ap.fr C (.head _))]
    rw [q3] at q1; exact q1
  · have keep : ∀ b o, b ∉ [C] → h₂.get? b = some o → h₃.get? b = some o := fun b o hb e => (hs₃.2 b fun z => hb (by rw [z]; exact .head _)).trans e
    have S₃ := S₂.iter (W := [C]) ap (fun b hb => by rw [List.mem_singleton.mp hb]; exact hn) hμC keep
    have stA : Step G l (wr env μ₁) H s.heap H₂ h₂ := (st.weakX fun _ q => nomatch q).trans' st₂ fun a ha => .inl ha
    exact hQ _ _ _ H₂ h₃ tk₂ S₃ (stA.iter (W := [C]) (fun b hb => by rw [List.mem_singleton.mp hb]; exact hC) S₃ keep) .refl ⟨_, .next, k⟩
end
end Mine
end
section
open PySem PySem.W PySem.Calls PyProof.Rows
set_option Elab.async false
set_option linter.unusedVariables false
namespace Mine
section
variable {prog : Program} {w : World} {G : GX} {l : List Env} {A : Around} {env env' : Env} {ρ ρ' ρc : Rho} {μ μ' μc μ₁ μ₂ : Mu} {H H' H₀ : PH} {h h' h₀ : Heap} {target : PySem.Expr}

noncomputable def zipD (ds es : List Dat) : List Dat := List.zipWith (fun a b => .tup [a, b]) ds es
theorem EvIt.zip {x : Str} {np pos tp : Pos} {elts : List PySem.Expr} {k : Nat} {e₁ e₂ : PySem.Expr} {ds es : List Dat} (hf : Ev prog w G l A env ρ μ (.Name x np) (.val (.type "zip"))) (he : Evs prog w G l A env ρ μ [e₁, e₂] [.list ds, .list es]) (hh : A.handled = none) :
    EvIt prog w G l A env ρ μ (.Tuple elts k tp) (.Call (.Name x np) [e₁, e₂] [] pos) (zipD ds es) := .callName hf (.plain (by intro _ e; cases e)) he fun H vs s Q E S r hQ => by
  obtain ⟨v₁, v₂, rfl, r1, r2⟩ := r.two
  cases r1 with
  | @list a vs n ds ea ra =>
  cases r2 with
  | @list b us m es eb rb =>
    have hl1 := S.ext.isList ea
    have hl2 := S.ext.isList eb
    have hlt1 : a < s.heap.objs.size := S.ext.lt ea
    have hlt2 : b < s.heap.objs.size := S.ext.lt eb
    have D : ZipApart (s.heap.objs.size + 4) (s.heap.objs.size + 2) (s.heap.objs.size + 3) s.heap.objs.size (s.heap.objs.size + 1) a b := ktu_apart _ _ _ hlt1 hlt2
    refine call_zip_2 hl1 hl2 fun h' hz hTI hTO hi1 hi2 hsz hk => ?_
    refine wpAny_pyIter_zip hz ?_
    have fr : ∀ b, s.heap.objs.size ≤ b → s.heap.get? b = none := fun b hb => fresh_get hb
    have W := WalksT.zip2 (prog := prog) (w := w) (A := A) hh (s.heap.objs.size + 4) (s.heap.objs.size + 2) (s.heap.objs.size + 3) s.heap.objs.size (s.heap.objs.size + 1) a b D vs.toArray us.toArray
    have hn : (zipD ds es).length = min vs.toArray.size us.toArray.size := by simp [zipD, ra.length, rb.length]
    have hnTI : H (s.heap.objs.size + 2) = none := S.freshH (Nat.le_add_right _ _)
    have hle := le_addO (o := ({ cls := .type "tuple", data := .seq #[.ref s.heap.objs.size, .ref (s.heap.objs.size + 1)] } : Obj)) hnTI
    refine hQ _ _ _ _ ((Step.grow S hk).freezeNew (fresh_get (Nat.le_add_right _ _)) hnTI hTI) ⟨?_⟩
    rw [hn]
    refine ⟨_, _, _, _, _, _, rfl, KTurns.ofWalksU W.toU, ⟨hz, hTI, ⟨_, _, hTO⟩, hi1, hi2, hl1.at fun o e => hk _ o e, hl2.at fun o e => hk _ o e⟩, ?_, ?_, ?_, ?_, W.self⟩
    · rintro i h' ⟨y1, y2, ⟨c, d, y3⟩, ⟨o1, y4, _⟩, ⟨o2, y5, _⟩, _⟩ b hb
      simp only [List.mem_cons, List.not_mem_nil, or_false] at hb
      rcases hb with rfl | rfl | rfl | rfl
      · exact ⟨_, y1⟩
      · exact ⟨_, y3⟩
      · exact ⟨_, y4⟩
      · exact ⟨_, y5⟩
    · intro b hb
      have hge : s.heap.objs.size ≤ b ∧ b ≠ s.heap.objs.size + 2 := by
        simp only [List.mem_cons, List.not_mem_nil, or_false] at hb
        rcases hb with rfl | rfl | rfl | rfl
        · exact ⟨Nat.le_add_right _ _, by refine neN ?_; (first | lia -abstractProof | omega)⟩
        · exact ⟨Nat.le_add_right _ _, by refine neN ?_; (first | lia -abstractProof | omega)⟩
        · exact ⟨Nat.le_refl _, by refine neN ?_; (first | lia -abstractProof | omega)⟩
        · exact ⟨Nat.le_add_right _ _, by refine neN ?_; (first | lia -abstractProof | omega)⟩
      exact ⟨(addO_ne hge.2).trans (S.freshH hge.1), fresh_get hge.1⟩
    · intro c hc
      simp only [List.mem_cons, List.not_mem_nil, or_false] at hc ⊢
      rcases hc with rfl | rfl | rfl | rfl | rfl | rfl | rfl
      · exact .inl (.inl rfl)
      · exact .inr ⟨_, addO_self ..⟩
      · exact .inl (.inr (.inl rfl))
      · exact .inl (.inr (.inr (.inl rfl)))
      · exact .inl (.inr (.inr (.inr rfl)))
      · exact .inr ⟨_, hle _ _ ea⟩
      · exact .inr ⟨_, hle _ _ eb⟩
    · rintro i v h' hx ⟨T, vals, rfl, ⟨x, y, hx1, hy1, rfl⟩, hT⟩
      obtain ⟨d, hd, rd⟩ := ra.back (i := i) (v := x) (by simpa using hx1)
      obtain ⟨d', hd', rd'⟩ := rb.back (i := i) (v := y) (by simpa using hy1)
      refine ⟨.tup [d, d'], ?_, fun _ => ⟨T, [x, y], _, rfl, rfl, hT, .cons (rd.mono hle) (.cons (rd'.mono hle) .nil)⟩, fun q => absurd q (fun q => Bool.false_ne_true q.symm)⟩
      unfold zipD
      rw [List.getElem?_zipWith, hd, hd']
end
end Mine
end
section
open PySem PySem.W PySem.Calls PyProof.Rows
open AutoSeq1 (wpAny_loadPart')
set_option Elab.async false
set_option linter.unusedVariables false
set_option maxRecDepth 100000
namespace Mine
section
variable {prog : Program} {w : World} {A : Around} {E : Value → Shared → Prop} {s : Shared} {H : PH}
theorem nextOf_tuple_item {it t : Addr} {i : Nat} {items} {x : Value} {Q : Value → Shared → Prop} (hit : IsTupIter s.heap it t i) (ht : IsTup s.heap t items) (hx : items[i]? = some x)
    (hQ : ∀ h', IsTupIter h' it t (i + 1) → Heap.SameBut it s.heap h' → Q x { s with heap := h' }) : wpAny (model prog w) A (Builtin.SmallTypes.nextOf (.ref it)) Q E s := by
  obtain ⟨o, ho, hc, hd⟩ := id hit
  obtain ⟨ol, hol, _, nl, hdl⟩ := ht
  unfold Builtin.SmallTypes.nextOf
  refine wpAny_bind (wpAny_callSpecial?_slot (name := Str.ofString "__next__") hit.typeIs slot_tupleiter_next
    (wpAny_call_entry slot_tupleiter_next hit.typeIs entry_tupleiter_next ?_ (args_tupleiter_next _)))
  show wpAny _ _ (field (.ref it) 0 >>= _) _ _ s
  refine wpAny_bind (wpAny_field ho hd (x := .ref t) rfl ?_)
  show wpAny _ _ (if (Value.ref t == Value.none) = true then _ else _) _ _ s
  rw [if_neg (show ¬ ((Value.ref t == Value.none) = true) from Bool.false_ne_true)]
  show wpAny _ _ (field (.ref it) 1 >>= _) _ _ s
  refine wpAny_bind (wpAny_field ho hd (x := .int i 0) rfl ?_)
  show wpAny _ _ (seqItems? (.ref t) >>= _) _ _ s
  refine wpAny_bind (wpAny_seqItems hol hdl ?_)
  simp only [Int.toNat_natCast, hx]
  refine wpAny_bind (wpAny_setField ho hd (by simp) (wpAny_pure ⟨x, rfl, wpAny_pure (hQ _ ?_ (Heap.SameBut.update ..))⟩))
  exact ⟨_, Heap.get?_update_self _ ho (Obj.isFreed_of_fields (Obj.data_mapFields hd _)), (Obj.cls_mapFields ..).trans hc, by
    refine (Obj.data_mapFields hd _).trans ?_
    simp [rawInt]⟩
theorem nextOf_tuple_end {it t : Addr} {i : Nat} {items} {Q : Value → Shared → Prop} (hh : A.handled = none) (hit : IsTupIter s.heap it t i) (ht : IsTup s.heap t items) (hx : items[i]? = none)
    (hE : ∀ h' e, Heap.ExtBut it s.heap h' → (∃ o, h'.get? e = some o ∧ o.cls = .type "StopIteration") → E (.ref e) { s with heap := h' }) : wpAny (model prog w) A (Builtin.SmallTypes.nextOf (.ref it)) Q E s := by
  obtain ⟨o, ho, hc, hd⟩ := id hit
  obtain ⟨ol, hol, _, nl, hdl⟩ := ht
  unfold Builtin.SmallTypes.nextOf
  refine wpAny_bind (wpAny_callSpecial?_slot (name := Str.ofString "__next__") hit.typeIs slot_tupleiter_next
    (wpAny_call_entry slot_tupleiter_next hit.typeIs entry_tupleiter_next ?_ (args_tupleiter_next _)))
  show wpAny _ _ (field (.ref it) 0 >>= _) _ _ s
  refine wpAny_bind (wpAny_field ho hd (x := .ref t) rfl ?_)
  show wpAny _ _ (if (Value.ref t == Value.none) = true then _ else _) _ _ s
  rw [if_neg (show ¬ ((Value.ref t == Value.none) = true) from Bool.false_ne_true)]
  show wpAny _ _ (field (.ref it) 1 >>= _) _ _ s
  refine wpAny_bind (wpAny_field ho hd (x := .int i 0) rfl ?_)
  show wpAny _ _ (seqItems? (.ref t) >>= _) _ _ s
  refine wpAny_bind (wpAny_seqItems hol hdl ?_)
  simp only [Int.toNat_natCast, hx]
  refine wpAny_bind (wpAny_rule (wpAny_bind (wpAny_setField ho hd (by simp) ?_)))
  refine wpAny_stop (H := fun _ => none) (.inl hh) (fun _ _ q => by cases q) fun h' e k he => ?_
  exact hE h' e (fun b o hb e' => k b o ((Heap.SameBut.update s.heap it _).extBut b o hb e')) he
theorem Draws.tuple (hh : A.handled = none) (it l : Addr) (hne : l ≠ it) (items : Array Value) :
    Draws prog w A it [it, l] items.size (fun i v => items[i]? = some v) (fun i h => IsTupIter h it l i ∧ IsTup h l items) where
  live := fun _ _ st => let ⟨o, ho, _⟩ := st.1; ⟨o, ho⟩
  frame := fun _ _ _ st hk => ⟨(let ⟨o, ho, r⟩ := st.1; ⟨o, hk it (by simp) _ ho, r⟩), (let ⟨o, ho, r⟩ := st.2; ⟨o, hk l (by simp) _ ho, r⟩)⟩
  item := fun i s Q E hi st hQ => by
    refine nextOf_tuple_item st.1 st.2 (x := items[i]) (by simp [hi]) fun h' hit' hs' => ?_
    exact hQ _ h' s.toks (by simp [hi]) ⟨hit', (let ⟨o, ho, r⟩ := st.2; ⟨o, hs'.extBut _ _ hne ho, r⟩)⟩ hs'
  done := fun s Q E st hE => nextOf_tuple_end hh st.1 st.2 (by simp) hE

theorem wpAny_pure_all {α : Type} {a : α} {Q : α → Shared → Prop} (h : ∀ b, Q b s) : wpAny (model prog w) A (pure a) Q E s := wpAny_pure (h a)
theorem meets_enumerate_newT (l : Addr) (items : Array Value) (n : Nat) (dct : Option Addr) (sl : Array (Option Value)) :
    Meets (Builtin.«enumerate.__new__» ⟨[.type "enumerate", .ref l], []⟩) (fun _ R s => s.heap.get? l = some { cls := .type "tuple", dict := dct, data := .seq items n, slots := sl } ∧
      R (.ok (.ret (.ref (s.heap.push { cls := .type "tuple_iterator", data := .fields #[.ref l, .int 0 0] }).objs.size)))
        { s with heap := (s.heap.push { cls := .type "tuple_iterator", data := .fields #[.ref l, .int 0 0] }).push { cls := .type "enumerate", data := .fields #[.none, .bool false, .ref s.heap.objs.size, rawInt 0, .none, .none] } }) :=
  .of_wp fun prog w A R s h => by
    obtain ⟨hp, g, d, tk, os⟩ := s; obtain ⟨hl, h⟩ := h
    have hsub := sub_enumerate
    have hL : Heap.IsTuple (Shared.heap ⟨hp, g, d, tk, os⟩) l items := ⟨_, hl, rfl, n, rfl⟩
    wp_walk using wpAny_loadPart' hl
    refine wpAny_stack_any fun st => wpAny_pure_all fun b => ?_
    cases b
    · wp_walk using wpAny_loadPart' hl, wpAny_pyIter_tuple hL
      exact ⟨_, rfl, h⟩
    · wp_walk using wpAny_loadPart' hl, wpAny_pyIter_tuple hL
      exact ⟨_, rfl, h⟩
theorem call_enumerate_tuple {l : Addr} {items : Array Value} {Q : Value → Shared → Prop} (hL : IsTup s.heap l items)
    (h : ∀ h', IsEnum h' (s.heap.objs.size + 1) s.heap.objs.size 0 .none → IsTupIter h' s.heap.objs.size l 0 → h'.objs.size = s.heap.objs.size + 2 →
      (∀ b o, s.heap.get? b = some o → h'.get? b = some o) → Q (.ref (s.heap.objs.size + 1)) { s with heap := h' }) :
    wpAny (model prog w) A (call (.type "enumerate") [.ref l]) Q E s := by
  obtain ⟨⟨c, dct, dt, sl⟩, hl, hc, n, hd⟩ := hL
  replace hc : c = .type "tuple" := hc
  replace hd : dt = .seq items n := hd
  subst hc hd
  refine callType_new F.called_enumerate (by decide) (F.typeCall_enumerate_1 _) (F.newCall_enumerate_1 _) (fun obj => F.args_object_init_2 obj _) F.entry_enumerate_new
    (meets_enumerate_newT l items n dct sl) ⟨hl, ?_⟩
  have hz : (s.heap.push { cls := .type "tuple_iterator", data := .fields #[.ref l, .int 0 0] }).objs.size = s.heap.objs.size + 1 := Heap.size_push ..
  show _ ∧ _
  rw [hz]
  have he : IsEnum ((s.heap.push { cls := .type "tuple_iterator", data := .fields #[.ref l, .int 0 0] }).push
      { cls := .type "enumerate", data := .fields #[.none, .bool false, .ref s.heap.objs.size, rawInt 0, .none, .none] }) (s.heap.objs.size + 1) s.heap.objs.size 0 .none := by
    have := Heap.get?_push_size (s.heap.push { cls := .type "tuple_iterator", data := .fields #[.ref l, .int 0 0] })
      (o := { cls := .type "enumerate", data := .fields #[.none, .bool false, .ref s.heap.objs.size, rawInt 0, .none, .none] }) rfl
    rw [hz] at this; exact this
  refine ⟨⟨_, he, rfl⟩, h _ he ⟨_, Heap.get?_push_of_some _ (Heap.get?_push_size _ rfl), rfl, rfl⟩ (by rw [Heap.size_push, hz]) fun b o x => Heap.get?_push_of_some _ (Heap.get?_push_of_some _ x)⟩
end
section
variable {prog : Program} {w : World} {G : GX} {l : List Env} {A : Around} {env env' : Env} {ρ ρ' ρc : Rho} {μ μ' μc μ₁ μ₂ : Mu} {H H' H₀ : PH} {h h' h₀ : Heap} {target : PySem.Expr}
noncomputable def enumD (ds : List Dat) : List Dat := ds.mapIdx fun i d => .tup [.int (i : Int), d]
theorem EvIt.enum {x : Str} {np pos tp : Pos} {elts : List PySem.Expr} {k : Nat} {e₁ : PySem.Expr} {ds : List Dat} (hf : Ev prog w G l A env ρ μ (.Name x np) (.val (.type "enumerate"))) (he : Evs prog w G l A env ρ μ [e₁] [.tup ds]) (hh : A.handled = none) :
    EvIt prog w G l A env ρ μ (.Tuple elts k tp) (.Call (.Name x np) [e₁] [] pos) (enumD ds) := .callName hf (.plain (by intro _ e; cases e)) he fun H vs s Q E S r hQ => by
  obtain ⟨v, rfl, r1⟩ := r.one
  cases r1 with
  | @tup a vs n ds ea ra =>
    have hlt : a < s.heap.objs.size := S.ext.lt ea
    have hT := S.ext.isTup ea
    refine call_enumerate_tuple hT fun h' hE hI hsz hk => ?_
    refine wpAny_pyIter_enum hE ?_
    have D := Draws.tuple (prog := prog) (w := w) (A := A.in1) hh s.heap.objs.size a (Nat.ne_of_lt hlt) vs.toArray
    have W := WalksT.enumerateD D (s.heap.objs.size + 1) (Nat.succ_ne_self _) (by
      intro q
      simp only [List.mem_cons, List.not_mem_nil, or_false] at q
      rcases q with q | q
      · exact Nat.succ_ne_self _ q
      · have q' : s.heap.objs.size + 1 = a := q
        rw [← q'] at hlt; exact absurd hlt (Nat.not_lt.mpr (Nat.le_succ _))) (by simp)
    refine hQ _ H h' _ (Step.grow S hk) ⟨?_⟩
    have hn : (enumD ds).length = vs.toArray.size := by simp [enumD, ra.length]
    rw [hn]
    refine ⟨_, _, _, _, _, _, rfl, KTurns.ofWalksU W.toU, ⟨⟨_, hE⟩, hI, (let ⟨o, ho, r⟩ := hT; ⟨o, hk _ _ ho, r⟩)⟩, ?_, ?_, ?_, ?_, W.self⟩
    · rintro i h₁ ⟨⟨old, y1⟩, y2, _⟩ b hb
      simp only [List.mem_cons, List.not_mem_nil, or_false] at hb
      rcases hb with rfl | rfl
      · exact ⟨_, y1⟩
      · obtain ⟨o, ho, _⟩ := y2; exact ⟨o, ho⟩
    · intro b hb
      have hge : s.heap.objs.size ≤ b := by
        simp only [List.mem_cons, List.not_mem_nil, or_false] at hb
        rcases hb with rfl | rfl
        · exact Nat.le_succ _
        · exact Nat.le_refl _
      exact ⟨S.freshH hge, fresh_get hge⟩
    · intro c hc
      simp only [List.mem_cons, List.not_mem_nil, or_false] at hc ⊢
      rcases hc with rfl | rfl | rfl
      · exact .inl (.inl rfl)
      · exact .inl (.inr rfl)
      · exact .inr ⟨_, ea⟩
    · rintro i v h₁ hx ⟨T, vals, rfl, ⟨t, y, hy, rfl⟩, hT'⟩
      obtain ⟨d, hd, rd⟩ := ra.back (i := i) (v := y) (by simpa using hy)
      refine ⟨.tup [.int (i : Int), d], ?_, fun _ => ⟨T, [.int (i : Int) t, y], _, rfl, rfl, hT', .cons (.int _ _) (.cons rd .nil)⟩, fun q => absurd q (fun q => Bool.false_ne_true q.symm)⟩
      unfold enumD
      rw [List.getElem?_mapIdx, hd]; rfl
end
end Mine
end
section
open PySem PySem.W PySem.Calls PyProof.Rows
set_option Elab.async false
set_option linter.unusedVariables false
namespace Mine
section
variable {M : Model} {prog : Program} {w : World} {A : Around} {E : Value → Shared → Prop} {s : Shared}
theorem inplace_list {a b : Addr} {Q : Value → Shared → Prop} (ha : s.TypeIs (.ref a) "list") (hb : s.TypeIs (.ref b) "list") (hc : wpAny M A (call (.builtin "list.__iadd__") [.ref a, .ref b]) Q E s) : wpAny M A (inplaceOp .Add (.ref a) (.ref b)) Q E s := by
  unfold inplaceOp
  refine wpAny_holding ?_
  have hl : typeLookup (.type "list") (dunderI "add") = pure (some (.builtin "list.__iadd__")) := PySem.F.slot_list_iadd.lookup
  have hfi : fillsInplaceSlot (.type "list") "add" (Operator.Add == .Add) = pure false := by
    unfold fillsInplaceSlot
    show (typeLookup (.type "list") (dunderI "add") >>= fun fi => pure (fi.isSome && !isSeqSlot fi)) = pure false
    rw [hl]; rfl
  have hsi : seqSlot? (.type "list") (dunderI "add") = pure (some (.builtin "list.__iadd__")) := by
    unfold seqSlot?
    rw [hl]; rfl
  refine wpAny_bind (wpAny_typeOf ha (wpAny_bind (wpAny_of_eq hfi ?_)))
  show wpAny M A (if false = true then _ else _) Q E s
  rw [if_neg Bool.false_ne_true]
  refine wpAny_bind (wpAny_binaryOp1_none (nm := "add") ha hb noFill_list_add ?_)
  refine wpAny_bind (wpAny_of_eq hsi ?_)
  exact wpAny_bind (wpAny_rule hc)
end
section
variable {prog : Program} {w : World} {G : GX} {l : List Env} {A : Around} {env env' : Env} {ρ ρ' ρc : Rho} {μ μ' μc μ₁ μ₂ : Mu} {H H' H₀ : PH} {h h' h₀ : Heap} {target : PySem.Expr}
theorem mapSeq_append_plain (its its2 : Array Value) (n : Nat) : ∃ m, Obj.mapSeq (fun x => x ++ its2) { cls := .type "list", data := .seq its n } = { cls := .type "list", data := .seq (its ++ its2) m } := ⟨_, rfl⟩
theorem listIaddTS {xs ds : List Dat} {p : Addr} {v : Value} {Φ : PH → Value → Rho → Mu → Prop} (rv : Rep prog w H v (.list ds)) (hl : xs.length + ds.length ≤ 16777216) (h : Φ H (.ref p) ρ (μ₁ ++ (p, .list (xs ++ ds)) :: μ₂)) :
    TS prog w G l A env H (inplaceOp .Add (.ref p) v) ρ (μ₁ ++ (p, .list xs) :: μ₂) Φ := by
  refine ⟨fun s Q E S hQ => ?_⟩
  obtain ⟨_, _, ob, ho, vs, n, rfl, rs⟩ := S.ownAt (.inl (List.mem_append_right _ (.head _)))
  cases rv with
  | @list a us m ds e r =>
    have he := S.ext _ _ e
    have hsz : vs.toArray.size + us.toArray.size ≤ 16777216 := by simp [rs.length, r.length]; exact hl
    refine inplace_list ⟨_, ho, rfl⟩ ⟨_, he, rfl⟩ (call_meets PySem.F.slot_list_iadd ⟨_, ho, rfl⟩ PySem.F.entry_list_iadd (PySem.F.args_list_iadd_2 _ _)
      (AutoSeq1.list___iadd___list_list_0 p vs.toArray n a us.toArray m (by simp [Builtin.List.listTooLong]; intro _; simp [sizeLine] at *; (first | lia -abstractProof | omega)) (sizeLine_of (by (first | lia -abstractProof | omega))) (Nat.le_succ_of_le (sizeLine_of hsz))) ⟨ho, he, ?_⟩)
    obtain ⟨k, hk⟩ := mapSeq_append_plain vs.toArray us.toArray n
    have ho₂ : (s.heap.update p (Obj.mapSeq fun x => x ++ us.toArray)).get? p = some (listO (vs ++ us) k) := by
      rw [Heap.get?_update_self _ ho (by rw [hk]; rfl), hk]; simp [listO]
    obtain ⟨S', st⟩ := S.setOwn (md' := .list (xs ++ ds)) rfl ho₂ ⟨_, k, rfl, rs.append r⟩ (Heap.SameBut.update ..)
    exact hQ _ _ _ H _ _ S' st (MuLe.set rfl) h
/-- x += e, an own list -/
theorem WP.augList {x : Str} {xp : Pos} {value : PySem.Expr} {pos : Pos} {p : Addr} {xs ds : List Dat} {Φ : AF → Rho → Mu → Prop} (hx : ρ.lookup x = some (.val (.ref p))) (h : Ev prog w G l A env ρ (μ₁ ++ (p, .list xs) :: μ₂) value (.list ds)) (hl : xs.length + ds.length ≤ 16777216)
    (k : Φ .next ((x, .val (.ref p)) :: ρ) (μ₁ ++ (p, .list (xs ++ ds)) :: μ₂))
    (hk : env.kindOf x = some .local ∨ (env.kindOf x = some .cell ∧ env.frame = some env.locals) := by first | exact .inl rfl | exact .inr ⟨rfl, rfl⟩) (hn : (x == ("__classdict__" : Str)) = false := by decide) :
    WP prog w G l A env (exec (.AugAssign (.Name x xp) .Add value pos) env) ρ (μ₁ ++ (p, .list xs) :: μ₂) Φ := fun H => by
  rw [exec_AugAssign_Name]
  have hname : Tr prog w G l A env ρ (μ₁ ++ (p, .list xs) :: μ₂) H (loadName env x) fun H' v => Rep prog w H' v (.val (.ref p)) := by
    refine ⟨fun s Q E S hQ => ?_⟩
    by_cases hk : env.kindOf x = some .local
    · obtain ⟨m, hm, hv⟩ := S.loc
      obtain ⟨v, h1, h2⟩ := hv x _ hx hk
      with_reducible refine wpAny_loadName_local S.kind hk hm h1 ?_
      exact hQ v H s.heap s.toks (.refl S.ext S.tabs) h2
    · obtain ⟨hk', c, v, h1, h2, h3⟩ := S.cel x _ hx hk
      have q := hQ v H s.heap s.toks (.refl S.ext S.tabs) h3
      rcases hk' with hk' | hk'
      · with_reducible exact wpAny_loadName_cell S.kind hk' h1 h2 q
      · with_reducible exact wpAny_loadName_free S.kind hk' h1 h2 q hn
  refine TS.standAt (.bindTr hname fun va H₁ k1 r1 => .bindTr (h H₁).holding fun vb H₂ k2 r2 => TS.standAt ?_)
  cases r1.isVal
  have hop : TS prog w G l A env H₂ (operate [.ref p, vb] (inplaceOp .Add (.ref p) vb)) ρ (μ₁ ++ (p, .list xs) :: μ₂) fun H' v ρ' μ' => v = .ref p ∧ ρ' = ρ ∧ μ' = μ₁ ++ (p, .list (xs ++ ds)) :: μ₂ := by
    refine ⟨fun s Q E S hQ => ?_⟩
    with_reducible refine wpAny_operating ?_
    exact (listIaddTS (Φ := fun H' v ρ' μ' => v = .ref p ∧ ρ' = ρ ∧ μ' = μ₁ ++ (p, .list (xs ++ ds)) :: μ₂) r2 hl ⟨rfl, rfl, rfl⟩).run s Q E S hQ
  refine hop.bind fun v H₃ ρ₃ μ₃ k3 hx9 => ?_
  obtain ⟨e1, e2, e3⟩ := hx9
  subst e1; subst e2; subst e3
  refine TS.standAt ?_
  exact (TS.bindName (Φ := fun H'' _ ρ'' μ'' => @Eq Rho ρ'' ((x, .val (.ref p)) :: ρ₃) ∧ μ'' = μ₁ ++ (p, .list (xs ++ ds)) :: μ₂) hk (.val _) ⟨rfl, rfl⟩).bind fun _ H'' ρ'' μ'' _ ⟨e1, e2⟩ => by subst e1; subst e2; exact TS.pure ⟨_, .next, k⟩

/-- lists of unlike lengths -/
theorem CmpSem.eqLen {ds es : List Dat} (hne : ds.length ≠ es.length) (hu : A.units + 1 < cLine) : CmpSem prog w G l A env ρ μ .Eq (.list ds) (.list es) false := fun H va vb ra rb => by
  cases ra with
  | @list a vs n ds e r =>
    cases rb with
    | @list b us m es e' r' =>
      refine .val rfl fun s Q E S hQ => ?_
      exact SeqAt.RcAt.lists_lengths (A := A) (s := s) (S.ext.isList e) (S.ext.isList e') (by simpa [r.length, r'.length] using hne) (by (first | lia -abstractProof | omega)) prog w E Q hQ
theorem CallSem.maxL (ns : List Int) (m : Int) (hm : m ∈ ns) (hle : ∀ a ∈ ns, a ≤ m) (hh : A.handled = none) : CallSem prog w G l A env ρ μ (.builtin "max") [.list (intL ns)] (.int m) := fun H vs r => by
  obtain ⟨v, rfl, r1⟩ := r.one
  cases r1 with
  | @list a vs n ds e rs =>
    refine ⟨fun s Q E S hQ => ?_⟩
    have hi := rs.intsAre
    obtain ⟨xs, hx⟩ := hi.allInts.items
    have hns : ns = xs.toList.map (·.1) := by
      rw [← hi.numsOf, ← nums_intItems, ← hx]
    have hne : 0 < ns.length := List.length_pos_of_mem hm
    have hsz : 0 < xs.size := by
      have h3 := hne; rw [hns, List.length_map, Array.length_toList] at h3; exact h3
    have hl' : s.heap.IsList a (intItems xs) := hx ▸ S.ext.isList e
    refine max_intList hh hl' hsz fun v h' tk hv hk => ?_
    obtain ⟨t, rfl⟩ := intItems_at hv
    obtain ⟨h1, h2⟩ := argBest_gt (numAt xs) (xs.size - 1)
    have ge : ∀ b ∈ ns, b ≤ numAt xs (argBest (fun i j => decide (numAt xs i > numAt xs j)) (xs.size - 1)) := fun b hb => by
      rw [hns] at hb
      obtain ⟨j, hj, rfl⟩ := mem_getD hb
      rw [List.length_map, Array.length_toList] at hj
      rw [← numAt_eq]; exact h2 j (by omega)
    have mem : numAt xs (argBest (fun i j => decide (numAt xs i > numAt xs j)) (xs.size - 1)) ∈ ns := by
      rw [hns, numAt_eq]; exact getD_mem (by rw [List.length_map, Array.length_toList]; omega)
    have e1 : numAt xs (argBest (fun i j => decide (numAt xs i > numAt xs j)) (xs.size - 1)) = m := Int.le_antisymm (hle _ mem) (ge m hm)
    rw [e1]
    exact hQ _ H h' tk (Step.grow S hk) (.int _ _)
theorem allTrue_or (x : PySem.Expr) (r : List PySem.Expr) (env : Env) : allTrue .Or (x :: r) env = (isTrue x env (eval x env) >>= fun c => cond c (pure true) (allTrue .Or r env)) :=
  congrArg (fun k => isTrue x env (eval x env) >>= k) (funext fun c => by cases c <;> rfl)
theorem EvT.or2 {e₁ e₂ : PySem.Expr} {pos : Pos} {b₁ b₂ : Bool} (h₁ : EvT prog w G l A env ρ μ e₁ b₁) (h₂ : b₁ = false → EvT prog w G l A env ρ μ e₂ b₂) : EvT prog w G l A env ρ μ (.BoolOp .Or [e₁, e₂] pos) (b₁ || b₂) := fun H => by
  show Tr prog w G l A env ρ μ H (allTrue .Or [e₁, e₂] env) _
  rw [allTrue_or]
  refine (h₁ H).bind fun c H₁ k e => ?_
  subst e
  cases c with
  | true => exact Tr.pure rfl
  | false =>
    show Tr prog w G l A env ρ μ H₁ (allTrue .Or [e₂] env) _
    rw [allTrue_or]
    refine (h₂ rfl H₁).bind fun c H₂ k e => ?_
    subst e
    cases c with
    | false => exact Tr.pure rfl
    | true => exact Tr.pure rfl
end
end Mine
end
section
open PySem PySem.W PySem.Calls PyProof.Rows
set_option Elab.async false
set_option linter.unusedVariables false
namespace Mine
section
variable {prog : Program} {w : World} {G : GX} {l : List Env} {A : Around} {env env' : Env} {ρ ρ' ρc : Rho} {μ μ' μc μ₁ μ₂ : Mu} {H H' H₀ : PH} {h h' h₀ : Heap} {target : PySem.Expr}

/-- a code object that makes one function's code, and its table -/
structure GN (G : GX) (tb : Tb) (c : Addr) : Prop where
  mem : tb ∈ G.tbs
  one : ∀ tb' ∈ G.tbs, tb'.P = tb.P → tb' = tb
  code : CodeHd G.hG c tb.P
  bi : ∃ mg, G.hG.Ns mainGlobals mg ∧ G.hG.BuiltinsAt mg tb.P

/-- def name(..): .. within a function -/
theorem WP.def {name : Str} {params : Arguments} {dbody : List Stmt} {scope : Scope} {pos : Pos} {cl : List (Str × Addr)} {tb : Tb} {c : Addr} {Φ : AF → Rho → Mu → Prop}
    (N : GN G tb c) (hcode : env.code = .ref c) (hline : pos.line = tb.line) (hcol : pos.col = tb.col) (hq : qualnameIn env name name = tb.qual) (hcl : closureFor scope env = pure cl)
    (k : Φ .next ((name, .fn name tb.qual params dbody scope cl) :: ρ) μ)
    (hk : env.kindOf name = some .local ∨ (env.kindOf name = some .cell ∧ env.frame = some env.locals) := by first | exact .inl rfl | exact .inr ⟨rfl, rfl⟩) (hd0 : params.defaults = [] := by rfl) (hk0 : params.kw_defaults = [] := by rfl) (ha : annTrees params none env = [] := by rfl) :
    WP prog w G l A env (exec (.FunctionDef name params dbody [] none [] scope none name pos) env) ρ μ Φ := fun H => by
  refine ⟨fun s Q E S hQ => ?_⟩
  refine nestDef_K hd0 hk0 ha ?_
  rw [hq]
  obtain ⟨mg, hg, hb⟩ := N.bi
  have up : ∀ b o, G.hG.get? b = some o → s.heap.get? b = some o := fun b o e => S.ext _ _ (S.glob b o e)
  have hb' : s.heap.BuiltinsAt mg tb.P := by
    obtain ⟨bm, ob, h1, h2, h3, h4, h5, r⟩ := hb
    exact ⟨bm, ob, h1, h2, h3, h4, up _ _ h5, r⟩
  have hg' := hg.keeps up
  have hC := N.code.keeps up
  obtain ⟨ps, hP, hps⟩ := S.tabs tb N.mem
  have htw : tb.P ∈ G.tw := List.mem_map_of_mem N.mem
  have hPn := (S.tout _ htw).1
  have fin : ∀ (oc : Obj) (vs : Array Value) (t : Tok) (c' : Addr) (doc pm ctv : Value) (H₁ : PH) (h₁ : Heap) (tk : Tok), Step G l [] H s.heap (addO H₁ h₁.objs.size (fnMade name tb.qual params dbody scope cl doc pm c' ctv)) (h₁.push (fnMade name tb.qual params dbody scope cl doc pm c' ctv)) → H₁ h₁.objs.size = none → H₁ c' = some oc → oc.data = .fields vs → vs[1]? = some (.str tb.qual t) →
      wpAny (model prog w) A (storeName env name (.ref h₁.objs.size)) (fun _ s'' => Q .next s'') E { s with heap := h₁.push (fnMade name tb.qual params dbody scope cl doc pm c' ctv), toks := tk } := by
    intro oc vs t c' doc pm ctv H₁ h₁ tk st hn hc' hd hv
    have S₁ := S.step st
    have rf : Rep prog w (addO H₁ h₁.objs.size (fnMade name tb.qual params dbody scope cl doc pm c' ctv)) (.ref h₁.objs.size) (.fn name tb.qual params dbody scope cl) := .fn (addO_self ..) (le_addO hn _ _ hc') hd hv
    refine (TS.store (Φ := fun _ _ ρ' μ' => @Eq Rho ρ' ((name, .fn name tb.qual params dbody scope cl) :: ρ) ∧ μ' = μ) hk rf ⟨rfl, rfl⟩).run { s with heap := h₁.push (fnMade name tb.qual params dbody scope cl doc pm c' ctv), toks := tk } _ E S₁ fun _ ρ₂ μ₂ H₂ h₂ tk₂ S₂ st₂ hm hx9 => ?_
    obtain ⟨e1, e2⟩ := hx9
    subst e1; subst e2
    exact hQ .next _ _ H₂ h₂ tk₂ S₂ ((st.weakX fun _ q => nomatch q).trans' st₂ fun a q => .inl q) (MuLe.trans (h' := h₁.push _) .refl hm fun a q => dead_back st.alive q) ⟨.next, .next, k⟩
  rcases hps with rfl | ⟨c', oc, vs, t, rfl, hoc, hd, hv⟩
  · have hgP : mainGlobals ≠ tb.P := fun q => by
      obtain ⟨o, es, ep, e, hd, _⟩ := hg'
      rw [q, hP] at e; cases e; cases hd
    refine makeFunction_K (mg := mg) hcl S.genv hg' hcode hC hP trivial rfl hgP hb' fun c' ctv doc h' tk hx hge hlt hrec htb => ?_
    obtain ⟨c₂, oc, vs, t, e2, hoc, hd, hv⟩ := hrec
    cases e2
    have hnc : H c' = none := S.freshH hge
    have hsf : s.heap.objs.size ≤ h'.objs.size := Nat.le_trans hge (Nat.le_of_lt hlt)
    have hnf : addO H c' oc h'.objs.size = none := (addO_ne (Nat.ne_of_gt hlt)).trans (S.freshH hsf)
    refine fin oc vs t c' doc _ ctv (addO H c' oc) h' tk ?_ hnf (addO_self ..) hd hv
    have keep : ∀ b o, b ≠ tb.P → s.heap.get? b = some o → (h'.push (fnMade name tb.qual params dbody scope cl doc ((mg "__name__").getD .none) c' ctv)).get? b = some o := fun b o hb e => Heap.get?_push_of_some _ (hx b o hb e)
    have hle : Le H (addO (addO H c' oc) h'.objs.size (fnMade name tb.qual params dbody scope cl doc ((mg "__name__").getD .none) c' ctv)) := (le_addO hnc).trans (le_addO hnf)
    have hext : Ext H (h'.push (fnMade name tb.qual params dbody scope cl doc ((mg "__name__").getD .none) c' ctv)) := fun a o e => keep a o (fun q => by rw [q, hPn] at e; cases e) (S.ext a o e)
    exact {
      le := hle
      ext := (hext.addO (Heap.get?_push_of_some _ hoc)).addO (Heap.get?_push_size _ rfl)
      new := fun a o e => by
        by_cases q : a = h'.objs.size
        · exact .inr (.inl (by rw [q]; exact fresh_get hsf))
        · rw [addO_ne q] at e
          by_cases q2 : a = c'
          · exact .inr (.inl (by rw [q2]; exact fresh_get hge))
          · rw [addO_ne q2] at e; exact .inl e
      old := fun a o h1 _ e => ⟨o.slots, keep a o (fun q => h1 (q ▸ htw)) e, fun _ => rfl⟩
      alive := fun a o e => by
        by_cases q : a = tb.P
        · exact ⟨_, by rw [q]; exact Heap.get?_push_of_some _ htb⟩
        · exact ⟨o, keep a o q e⟩
      tabs := fun tb' hb => by
        by_cases q : tb'.P = tb.P
        · rw [N.one tb' hb q]
          refine ⟨_, Heap.get?_push_of_some _ htb, .inr ⟨c', oc, vs, t, ?_, le_addO hnf _ _ (addO_self ..), hd, hv⟩⟩
          rw [hline, hcol]; rfl
        · exact (S.tabs tb' hb).mono hle fun o e => keep _ o q e }
  · have e1 : codeAmong pos (#[rawInt tb.line, rawInt tb.col, Value.ref c'] : Array Value).toList = some (.ref c') := by
      show (if ((tb.line : Int) == (pos.line : Int)) && ((tb.col : Int) == (pos.col : Int)) then some (Value.ref c') else _) = _
      rw [hline, hcol]; simp
    refine makeFunction_hit (mg := mg) hcl S.genv hg' hcode hC hP trivial e1 hb' fun ctv doc h' tk hk hsz => ?_
    have hnf : H h'.objs.size = none := S.freshH hsz
    refine fin oc vs t c' doc _ ctv H h' tk ?_ hnf hoc hd hv
    have keep : ∀ b o, s.heap.get? b = some o → (h'.push (fnMade name tb.qual params dbody scope cl doc ((mg "__name__").getD .none) c' ctv)).get? b = some o := fun b o e => Heap.get?_push_of_some _ (hk b o e)
    exact Step.of S.tabs (le_addO hnf) ((S.ext.mono keep).addO (Heap.get?_push_size _ rfl)) (fun a o e => by
      by_cases q : a = h'.objs.size
      · exact .inr (by rw [q]; exact fresh_get hsz)
      · rw [addO_ne q] at e; exact .inl e) keep

/-! ### after a call that wrote lent objects -/
theorem St.stepX {X : List Addr} (S : St prog w G l A env ρ μ H h) (st : Step G l X H h H' h') (hX : ∀ a ∈ X, a ≠ env.locals ∧ a ∉ frs l ∧ (∀ x, (x, a) ∉ env.cells) ∧ (∀ p ∈ μ, p.1 ≠ a) ∧ G.hG.objs.size ≤ a) : St prog w G l A env ρ μ H' h' := by
  have out : ∀ {a : Addr}, a ∉ X → H a = none → (∃ o, h.get? a = some o) → H' a = none := fun {a} hx e hl => by
    cases q : H' a with
    | none => rfl
    | some o' =>
      rcases st.new a o' q with y | y | y
      · rw [e] at y; cases y
      · obtain ⟨o, z⟩ := hl; rw [y] at z; cases z
      · exact absurd y hx
  have ntw : ∀ {a : Addr}, G.hG.objs.size ≤ a → a ∉ G.tw := fun ha q => absurd (S.tout _ q).2 (Nat.not_lt.mpr ha)
  have hLX : env.locals ∉ X := fun q => (hX _ q).1 rfl
  exact {
    ext := st.ext
    hok := S.hok.mono st.le
    afr := S.afr
    glob := fun b o e => st.le _ _ (S.glob b o e)
    tabs := st.tabs
    tout := fun a ha => by
      refine ⟨out (fun q => absurd (S.tout a ha).2 (Nat.not_lt.mpr (hX a q).2.2.2.2)) (S.tout a ha).1 ?_, (S.tout a ha).2⟩
      obtain ⟨tb, hb, rfl⟩ := List.mem_map.mp ha
      obtain ⟨ps, e, _⟩ := S.tabs tb hb
      exact ⟨_, e⟩
    fr := ⟨fun e he => by
      obtain ⟨h1, L, o, es, ep, h2, h3, h4, h5, h6⟩ := S.fr.all e he
      have hLf : L ∈ frs l := List.mem_filterMap.mpr ⟨e, he, h2⟩
      have hx : L ∉ X := fun q => (hX L q).2.1 hLf
      obtain ⟨sl, e1, _⟩ := st.old L o (ntw h6) hx h3
      exact ⟨h1, L, _, es, ep, h2, e1, h4, out hx h5 ⟨_, h3⟩, h6⟩⟩
    frle := S.frle
    frin := S.frin
    kind := S.kind
    genv := S.genv
    benv := S.benv
    base := S.base
    outL := out hLX S.outL S.liveL
    loc := by
      obtain ⟨m, hn, hv⟩ := S.loc
      refine ⟨m, Ns.up hn fun o e => ?_, fun x d hx hk => ?_⟩
      · obtain ⟨sl, e1, _⟩ := st.old _ o (ntw S.base) hLX e
        exact ⟨sl, e1⟩
      · obtain ⟨v, h1, h2⟩ := hv x d hx hk
        exact ⟨v, h1, h2.mono st.le⟩
    cel := fun x d hx hk => by
      obtain ⟨h1, c, v, h2, h3, h4⟩ := S.cel x d hx hk
      refine ⟨h1, c, v, h2, ?_, h4.mono st.le⟩
      obtain ⟨o, ho, hd⟩ := id h3
      have hc := S.cells x c (mem_of_lookup h2)
      obtain ⟨sl, e1, e2⟩ := st.old c o (ntw hc.2.1) (fun q => (hX c q).2.2.1 x (mem_of_lookup h2)) ho
      exact ⟨_, e1, hd⟩
    cells := fun x c hm => by
      obtain ⟨h1, h2, h3, v, h4⟩ := S.cells x c hm
      obtain ⟨o, ho, hd⟩ := id h4
      have hx : c ∉ X := fun q => (hX c q).2.2.1 x hm
      obtain ⟨sl, e1, e2⟩ := st.old c o (ntw h2) hx ho
      exact ⟨out hx h1 ⟨_, ho⟩, h2, h3, v, _, e1, hd⟩
    apart := S.apart
    cdom := S.cdom
    own := fun p hp => by
      obtain ⟨h1, h2, h3, h4, o, ho, hr⟩ := S.own p hp
      have hx : p.1 ∉ X := fun q => (hX p.1 q).2.2.2.1 p hp rfl
      obtain ⟨sl, e1, e2⟩ := st.old p.1 o (ntw h2) hx ho
      have e3 : ({ o with slots := sl } : Obj) = o := by rw [e2 h3]
      rw [e3] at e1
      exact ⟨out hx h1 ⟨_, ho⟩, h2, h3, h4, o, e1, hr.mono st.le⟩
    nodup := S.nodup }
theorem St.back {p : Addr} {md md' : MD} {o' : Obj} (S : St prog w G l A env ρ (μ₁ ++ (p, md) :: μ₂) H h) (st : Step G l [p] H h H' h') (hn : H' p = none) (ho : h'.get? p = some o') (r : MRep prog w H' o' md') : St prog w G l A env ρ (μ₁ ++ (p, md') :: μ₂) H' h' := by
  have hmp : (p, md) ∈ μ₁ ++ (p, md) :: μ₂ := List.mem_append_right _ (.head _)
  obtain ⟨a1, a2, a3, a4, _⟩ := S.own _ hmp
  have hnd : (μ₁.map (·.1) ++ p :: μ₂.map (·.1)).Nodup := by have q := S.nodup; rw [List.map_append, List.map_cons] at q; exact q
  obtain ⟨n1, n2, n3⟩ := List.nodup_append.mp hnd
  have ne : ∀ q ∈ μ₁ ++ μ₂, q.1 ≠ p := fun q hq e => by
    rcases List.mem_append.mp hq with z | z
    · exact n3 q.1 (List.mem_map_of_mem z) p (.head _) e
    · exact (List.nodup_cons.mp n2).1 (e ▸ List.mem_map_of_mem (f := fun z : Addr × MD => z.1) z)
  have S₀ : St prog w G l A env ρ (μ₁ ++ μ₂) H h := { S with
    own := fun q hq => S.own q (List.mem_append.mpr ((List.mem_append.mp hq).imp id fun z => .tail _ z))
    nodup := by rw [List.map_append]; exact List.nodup_append.mpr ⟨n1, (List.nodup_cons.mp n2).2, fun x hx y hy => n3 x hx y (.tail _ hy)⟩ }
  have S₁ := S₀.stepX st fun a ha => by
    rw [List.mem_singleton.mp ha]
    exact ⟨a4, a3, fun x hm => S.own_ne_cell hmp hm rfl, ne, a2⟩
  exact { S₁ with
    own := fun q hq => by
      rcases List.mem_append.mp hq with z | z
      · exact S₁.own q (List.mem_append_left _ z)
      · rcases List.mem_cons.mp z with rfl | z
        · exact ⟨hn, a2, a3, a4, o', ho, r⟩
        · exact S₁.own q (List.mem_append_right _ z)
    nodup := by rw [List.map_append, List.map_cons]; exact hnd }

/-! ### calls of functions that were made here -/
theorem Rep.keepFn {f : Value} {name qual : Str} {params : Arguments} {body : List Stmt} {scope : Scope} {cl : List (Str × Addr)} (r : Rep prog w H f (.fn name qual params body scope cl)) : KeepOk prog w H f := by
  cases r with
  | fn e _ _ _ => exact .func e rfl
structure CloFn (params : Arguments) (name qual : Str) (body : List Stmt) (scope : Scope) (cl : List (Str × Addr)) (ps : List Str) : Prop where
  bind : ∀ (doc pm cv ctv : Value) (s : Shared) (vals : List Value), vals.length = ps.length → BindsTo s (fnX name qual params body scope cl .none .none doc pm none cv ctv) ⟨vals, []⟩ (ps.zip vals)
  ok : (decide ps.Nodup && (scope.kind == .function) && !scope.isCoroutine && !scope.isGenerator && (ps.all fun x => scope.names.lookup x == some .local) && (scope.names.all fun y => y.2 != .cell)) = true
theorem CloFn.three {params : Arguments} {name qual : Str} {body : List Stmt} {scope : Scope} {cl : List (Str × Addr)} {p₁ p₂ p₃ : Str}
    (h : ∀ doc pm cv ctv v₁ v₂ v₃, bindArgs (fnX name qual params body scope cl .none .none doc pm none cv ctv) ⟨[v₁, v₂, v₃], []⟩ = pure [(p₁, v₁), (p₂, v₂), (p₃, v₃)])
    (ok : (decide [p₁, p₂, p₃].Nodup && (scope.kind == .function) && !scope.isCoroutine && !scope.isGenerator && ([p₁, p₂, p₃].all fun x => scope.names.lookup x == some .local) && (scope.names.all fun y => y.2 != .cell)) = true) : CloFn params name qual body scope cl [p₁, p₂, p₃] :=
  ⟨fun doc pm cv ctv s vals hv => by
    obtain ⟨v₁, r₁, rfl, e₁⟩ := uncons hv
    obtain ⟨v₂, r₂, rfl, e₂⟩ := uncons e₁
    obtain ⟨v₃, r₃, rfl, e₃⟩ := uncons e₂
    cases List.eq_nil_of_length_eq_zero e₃
    exact BindsTo.of_eq (h doc pm cv ctv v₁ v₂ v₃), ok⟩
theorem CloFn.two {params : Arguments} {name qual : Str} {body : List Stmt} {scope : Scope} {cl : List (Str × Addr)} {p₁ p₂ : Str}
    (h : ∀ doc pm cv ctv v₁ v₂, bindArgs (fnX name qual params body scope cl .none .none doc pm none cv ctv) ⟨[v₁, v₂], []⟩ = pure [(p₁, v₁), (p₂, v₂)])
    (ok : (decide [p₁, p₂].Nodup && (scope.kind == .function) && !scope.isCoroutine && !scope.isGenerator && ([p₁, p₂].all fun x => scope.names.lookup x == some .local) && (scope.names.all fun y => y.2 != .cell)) = true) : CloFn params name qual body scope cl [p₁, p₂] :=
  ⟨fun doc pm cv ctv s vals hv => by
    obtain ⟨v₁, r₁, rfl, e₁⟩ := uncons hv
    obtain ⟨v₂, r₂, rfl, e₂⟩ := uncons e₁
    cases List.eq_nil_of_length_eq_zero e₂
    exact BindsTo.of_eq (h doc pm cv ctv v₁ v₂), ok⟩

theorem call_clos {f : Addr} {name qual : Str} {params : Arguments} {body : List Stmt} {scope : Scope} {cl : List (Str × Addr)} {ps : List Str} {vals : List Value} {ds : List Dat} {s : Shared} {Q : Value → Shared → Prop} {E : Value → Shared → Prop} {X : List Addr}
    (S : St prog w G l A env ρ μ H s.heap) (rf : Rep prog w H (.ref f) (.fn name qual params body scope cl)) (B : CloFn params name qual body scope cl ps) (hcl : cloB scope env cl = true) (hc : ClAll env cl)
    (hroom : A.depth < recursionLimit) (r : Reps prog w H vals ds) (hlen : ps.length = ds.length)
    (hμ : ∀ p ∈ μc, p ∈ μ ∨ ∃ md, p.2 = .ro md ∧ ((p.1, md) ∈ μ ∨ (p.1, MD.ro md) ∈ μ)) (hndμ : (μc.map (·.1)).Nodup) (hX : ∀ p ∈ μc, p.2.w = true → p.1 ∈ X)
    (k : ∀ c' L, WP prog w G (envX qual scope L f (.ref c') cl :: l) (A.deeper (envX qual scope L f (.ref c') cl)) (envX qual scope L f (.ref c') cl) (execs body (envX qual scope L f (.ref c') cl)) ((ps.zip ds).reverse ++ cut scope ρ) μc fun af ρ' μ' =>
      ∃ d, (af = .ret d ∨ (af = .next ∧ d = .none)) ∧ ∀ v H' h' tk, Rep prog w H' v d → Step G l X H s.heap H' h' → (∀ p ∈ μ', H' p.1 = none ∧ ∃ o, h'.get? p.1 = some o ∧ MRep prog w H' o p.2) → Q v { s with heap := h', toks := tk }) :
    wpAny (model prog w) A (call (.ref f) vals) Q E s := by
  obtain ⟨k1, k2, _, k4⟩ := cloOk_of S hcl hc
  have hok := B.ok
  simp only [Bool.and_eq_true, List.all_eq_true, beq_iff_eq, bne_iff_ne, Bool.not_eq_true', decide_eq_true_eq] at hok
  obtain ⟨⟨⟨⟨⟨o1, o2⟩, o3⟩, o4⟩, o5⟩, k3⟩ := hok
  cases rf with
  | @fn _ c' doc pm ctv oc vs t _ _ _ _ _ _ e e' hd hv =>
    have F : FnFacts (fnX name qual params body scope cl .none .none doc pm none (.ref c') ctv) body H f := ⟨⟨_, e, rfl⟩, ⟨c', oc, vs, t, rfl, e', hd, hv⟩, rfl, rfl, rfl, o2, o3, o4⟩
    refine call_plain (fd := fnX name qual params body scope cl .none .none doc pm none (.ref c') ctv) (ρc := cut scope ρ) (μc := μc) (X := X) S F hroom (fun s' vals' _ hv' => B.bind doc pm (.ref c') ctv s' vals' (hv'.trans hlen.symm)) r hlen o1 (fun x hx => o5 x hx) k3
      (fun x c hm => ?_) k1.2.2 (fun x d hx => ?_) hμ hndμ hX ?_
    · obtain ⟨a1, a2, _, a3⟩ := S.cells x c (k1.2.1 _ hm)
      exact ⟨a1, a2, a3⟩
    · obtain ⟨h1, h2⟩ := cut_lookup hx
      obtain ⟨n1, n2⟩ := k1.1 (x, .free) (mem_of_lookup h1) rfl
      obtain ⟨_, c, v, e1, e2, e3⟩ := S.cel x d h2 n1
      exact ⟨h1, c, v, n2.trans e1, e2, e3⟩
    · exact (k c' s.heap.objs.size).mono fun af ρ' μ' ⟨d, hd, hq⟩ => ⟨d, hd, fun v H' h' tk rv st S'' => hq v H' h' tk rv st fun p hp => let ⟨a, _, _, _, o, ho, hr⟩ := S''.own p hp; ⟨a, o, ho, hr⟩⟩

/-- one that writes nothing -/
theorem Tr.clos {f : Value} {name qual : Str} {params : Arguments} {body : List Stmt} {scope : Scope} {cl : List (Str × Addr)} {ps : List Str} {vals : List Value} {ds : List Dat} {d : Dat}
    (rf : Rep prog w H f (.fn name qual params body scope cl)) (B : CloFn params name qual body scope cl ps) (hcl : cloB scope env cl = true) (hc : ClAll env cl) (hroom : A.depth < recursionLimit) (r : Reps prog w H vals ds) (hlen : ps.length = ds.length)
    (k : ∀ f c' L, WP prog w G (envX qual scope L f (.ref c') cl :: l) (A.deeper (envX qual scope L f (.ref c') cl)) (envX qual scope L f (.ref c') cl) (execs body (envX qual scope L f (.ref c') cl)) ((ps.zip ds).reverse ++ cut scope ρ) [] fun af _ _ => af = .ret d) :
    Tr prog w G l A env ρ μ H (call f vals) fun H' v => Rep prog w H' v d := by
  obtain ⟨a, rfl⟩ : ∃ a, f = .ref a := by cases rf; exact ⟨_, rfl⟩
  refine ⟨fun s Q E S hQ => ?_⟩
  refine call_clos (μc := []) (X := []) S rf B hcl hc hroom r hlen (fun _ q => nomatch q) .nil (fun _ q => nomatch q) fun c' L => ?_
  exact (k a c' L).mono fun af ρ' μ' e => ⟨d, .inl e, fun v H' h' tk rv st _ => hQ v H' h' tk st rv⟩
/-- one that writes an own object of its caller's -/
theorem TS.clos {f : Value} {name qual : Str} {params : Arguments} {body : List Stmt} {scope : Scope} {cl : List (Str × Addr)} {ps : List Str} {vals : List Value} {ds : List Dat} {p : Addr} {md md' : MD} (hw : md.w = true)
    (rf : Rep prog w H f (.fn name qual params body scope cl)) (B : CloFn params name qual body scope cl ps) (hcl : cloB scope env cl = true) (hc : ClAll env cl) (hroom : A.depth < recursionLimit) (r : Reps prog w H vals ds) (hlen : ps.length = ds.length)
    (k : ∀ f c' L, WP prog w G (envX qual scope L f (.ref c') cl :: l) (A.deeper (envX qual scope L f (.ref c') cl)) (envX qual scope L f (.ref c') cl) (execs body (envX qual scope L f (.ref c') cl)) ((ps.zip ds).reverse ++ cut scope ρ) [(p, md)] fun af _ μ' => (af = .ret .none ∨ af = .next) ∧ (p, md') ∈ μ') :
    TS prog w G l A env H (call f vals) ρ (μ₁ ++ (p, md) :: μ₂) fun _ v ρ' μ' => v = .none ∧ ρ' = ρ ∧ μ' = μ₁ ++ (p, md') :: μ₂ := by
  obtain ⟨a, rfl⟩ : ∃ a, f = .ref a := by cases rf; exact ⟨_, rfl⟩
  refine ⟨fun s Q E S hQ => ?_⟩
  have hmp : (p, md) ∈ μ₁ ++ (p, md) :: μ₂ := List.mem_append_right _ (.head _)
  refine call_clos (μc := [(p, md)]) (X := [p]) S rf B hcl hc hroom r hlen (fun q hq => by rw [List.mem_singleton.mp hq]; exact .inl hmp) (by simp) (fun q hq _ => by rw [List.mem_singleton.mp hq]; exact .head _) fun c' L => ?_
  refine (k a c' L).mono fun af ρ' μ' ⟨haf, hm⟩ => ⟨.none, haf.imp id fun e => ⟨e, rfl⟩, fun v H' h' tk rv st ho => ?_⟩
  obtain ⟨hn, o, ho, hr⟩ := ho _ hm
  have hv : v = .none := by cases rv; rfl
  exact hQ v _ _ H' h' tk (S.back st hn ho hr) (st.weakX fun b hb => by rw [List.mem_singleton.mp hb]; exact .inl (wr_own hmp hw)) (MuLe.set hw) ⟨hv, rfl, rfl⟩

/-- name(..), where the name holds such a function -/
theorem Ev.callClos {x : Str} {np pos : Pos} {es : List PySem.Expr} {ds : List Dat} {d : Dat} {name qual : Str} {params : Arguments} {body : List Stmt} {scope : Scope} {cl : List (Str × Addr)} (hf : Ev prog w G l A env ρ μ (.Name x np) (.fn name qual params body scope cl)) (he : Evs prog w G l A env ρ μ es ds)
    (hc : ∀ H f vs, Rep prog w H f (.fn name qual params body scope cl) → Reps prog w H vs ds → Tr prog w G l A env ρ μ H (call f vs) fun H' v => Rep prog w H' v d) : Ev prog w G l A env ρ μ (.Call (.Name x np) es [] pos) d := fun H => by
  rw [arm_eval_Call_Name']
  refine (hf H).bind fun v H₁ k1 r1 => ?_
  refine ⟨fun s Q E S hQ => ?_⟩
  exact (Tr.callWith r1.keepFn he fun H' vs k r => by rw [List.nil_append]; exact hc H' v vs (r1.mono k) r).run s Q E S hQ
/-- name(..), as a statement -/
theorem WP.callClos {x : Str} {np cpos pos : Pos} {es : List PySem.Expr} {ds : List Dat} {name qual : Str} {params : Arguments} {body : List Stmt} {scope : Scope} {cl : List (Str × Addr)} {Φ : AF → Rho → Mu → Prop} (hf : Ev prog w G l A env ρ μ (.Name x np) (.fn name qual params body scope cl)) (he : Evs prog w G l A env ρ μ es ds)
    (hc : ∀ H f vs, Rep prog w H f (.fn name qual params body scope cl) → Reps prog w H vs ds → TS prog w G l A env H (call f vs) ρ μ fun _ v ρ' μ'' => v = .none ∧ ρ' = ρ ∧ μ'' = μ') (h : Φ .next ρ μ')
    (hint : interactive env = false := by rfl) (hsw : swapsWith (.Call (.Name x np) es [] cpos) none pos.line env = pure false := by rfl) :
    WP prog w G l A env (exec (.Expr (.Call (.Name x np) es [] cpos) pos) env) ρ μ Φ := fun H => by
  rw [arm_exec_Expr, hint, hsw]
  refine TS.standAt ?_
  simp only [Bool.false_eq_true, if_false, pure_bind]
  rw [arm_eval_Call_Name']
  have hcall : TS prog w G l A env H (do let f ← eval (.Name x np) env; callWith cpos f [] (backTo cpos (starEach es env)) (backToKw cpos (keywordEach [] env))) ρ μ fun _ v ρ' μ'' => v = .none ∧ ρ' = ρ ∧ μ'' = μ' := by
    refine .bindTr (hf H) fun v H₁ k1 r1 => ?_
    refine ⟨fun s Q E S hQ => ?_⟩
    refine callWith_run S r1.keepFn he fun vs H' h' tk st r => ?_
    rw [List.nil_append]
    refine (hc H' v vs (r1.mono st.le) r).run { s with heap := h', toks := tk } Q E (S.step st) fun u ρ' μ'' H₂ h₂ tk₂ S₂ st₂ hm hΦ => ?_
    exact hQ u ρ' μ'' H₂ h₂ tk₂ S₂ ((st.weakX fun _ q => nomatch q).trans' st₂ fun a ha => .inl ha) (MuLe.trans (h := s.heap) (h' := h') .refl hm fun a q => dead_back st.alive q) hΦ
  refine hcall.bind fun v H₁ ρ₁ μ₁' k hx9 => ?_
  obtain ⟨e1, e2, e3⟩ := hx9
  subst e1; subst e2; subst e3
  exact TS.pure ⟨_, .next, h⟩
end
end Mine
end
section
open PySem PySem.W PySem.Calls PyProof.Rows
set_option Elab.async false
set_option linter.unusedVariables false
namespace Mine
section
variable {prog : Program} {w : World} {G : GX} {l : List Env} {A : Around} {env env' : Env} {ρ ρ' ρc : Rho} {μ μ' μc : Mu} {H H' H₀ : PH} {h h' h₀ : Heap} {target : PySem.Expr}

theorem count_calls_spec {p : Params} (XK : (Mine.hd.heap_39 p).In G.hG) (hh : A.handled = none) (hroom : A.depth < recursionLimit) (ps : List (Int × Int)) :
    CallSem prog w G l A env ρ μ (.ref 105) [.dict ps] (.int (ps.map (·.2)).sum) := by
  refine CallSem.fn (ps := ["callers"]) XK (by exact rfl) rfl (by exact rfl) (by exact rfl) (BindK.one fun _ => rfl) hroom rfl fun L => ?_
  refine WP.cons (WP.assign (d := .int 0) Ev.int ?_)
  dsimp only
  refine WP.cons ?_
  refine WP.forR (ds := ps.map fun p => .int p.2) (fun i => [("nc", .int ((ps.take i).map (·.2)).sum)]) (fun _ => []) ?_ (.cons rfl .nil) rfl (fun i d hd => ?_) ?_
  · exact EvIt.vals (Ev.values (Ev.name rfl)) hh
  · obtain ⟨q, hq, rfl⟩ := by rw [List.getElem?_map] at hd; exact Option.map_eq_some_iff.mp hd
    refine ⟨_, .name, WP.cons (WP.aug rfl (Ev.name rfl) iaddSem (WP.nil ⟨.cons (Eq.trans rfl ?_) .nil, rfl⟩))⟩
    rw [List.take_add_one, hq]; simp
  · refine WP.cons (WP.ret (Ev.name rfl) ?_)
    show AF.ret _ = AF.ret _
    simp
end
end Mine
end
section
open PySem PySem.W PySem.Calls PyProof.Rows
set_option Elab.async false
set_option linter.unusedVariables false
namespace Mine
/-! what add_callers computes -/
noncomputable def addOne (acc : List (Int × Int)) (p : Int × Int) : List (Int × Int) := iput acc p.1 (match ival acc p.1 with | some x => x + p.2 | none => p.2)
noncomputable def putAll (ps : List (Int × Int)) : List (Int × Int) := ps.foldl (fun acc p => iput acc p.1 p.2) []
noncomputable def addAll (ps qs : List (Int × Int)) : List (Int × Int) := qs.foldl addOne (putAll ps)
theorem foldl_iput_length (ps acc : List (Int × Int)) : (ps.foldl (fun acc p => iput acc p.1 p.2) acc).length ≤ acc.length + ps.length := by
  induction ps generalizing acc with
  | nil => simp
  | cons p ps ih => have := ih (iput acc p.1 p.2); have := iput_length acc p.1 p.2; simp only [List.foldl_cons, List.length_cons]; (first | lia -abstractProof | omega)
theorem foldl_addOne_length (ps acc : List (Int × Int)) : (ps.foldl addOne acc).length ≤ acc.length + ps.length := by
  induction ps generalizing acc with
  | nil => simp
  | cons p ps ih => have := ih (addOne acc p); have : (addOne acc p).length ≤ acc.length + 1 := iput_length _ _ _; simp only [List.foldl_cons, List.length_cons]; (first | lia | omega)
theorem foldl_take {α β : Type} (f : β → α → β) (b : β) (l : List α) (i : Nat) (a : α) (h : l[i]? = some a) : (l.take (i + 1)).foldl f b = f ((l.take i).foldl f b) a := by
  rw [List.take_add_one, h]; simp [List.foldl_append]
section
variable {prog : Program} {w : World} {G : GX} {l : List Env} {A : Around} {env env' : Env} {ρ ρ' ρc : Rho} {μ μ' μc : Mu} {H H' H₀ : PH} {h h' h₀ : Heap} {target : PySem.Expr}

theorem add_callers_spec {P : Params} {pr : Program} {loose : List Str} {mg mb : Str → Option Value} (XK : (Mine.hd.heap_39 P).In G.hG) (T : TopRead pr loose mg mb G.hG) (hh : A.handled = none) (hroom : A.depth < recursionLimit) (ps qs : List (Int × Int)) (hl : ps.length + qs.length ≤ 10000) :
    CallSem prog w G l A env ρ μ (.ref 98) [.dict ps, .dict qs] (.dict (addAll ps qs)) := by
  refine CallSem.fn (ps := ["target", "source"]) XK (by exact rfl) rfl (by exact rfl) (by exact rfl) (BindK.two fun _ _ => rfl) hroom rfl fun L => ?_
  refine WP.cons (WP.assignO (EvO.dict0 fun p => ?_))
  try dsimp only
  refine WP.cons ?_
  refine WP.forR (ds := ps.map fun p => .tup [.int p.1, .int p.2]) (fun i => [("new_callers", .val (.ref p)), ("source", .dict qs)]) (fun i => [(p, .dict ((ps.take i).foldl (fun acc p => iput acc p.1 p.2) []))]) ?_ (.cons rfl (.cons rfl .nil)) rfl (fun i d hd => ?_) ?_
  · exact EvIt.items (Ev.items (Ev.name rfl)) hh
  · obtain ⟨q, hq, rfl⟩ := by rw [List.getElem?_map] at hd; exact Option.map_eq_some_iff.mp hd
    refine ⟨_, .tup (.cons (.cons .nil)), WP.cons ?_⟩
    refine WP.setSub (μ₁ := []) (Ev.name rfl) (Ev.name rfl) (Ev.name rfl) (.dict ?_) (WP.nil ⟨.cons rfl (.cons rfl .nil), ?_⟩)
    · have := foldl_iput_length (ps.take i) []
      have h2 : (ps.take i).length ≤ ps.length := by simp; (first | lia | omega)
      simp only [List.length_nil] at this; (first | lia | omega)
    · try dsimp only
      rw [foldl_take _ _ _ _ _ hq]; rfl
  · rw [List.length_map, List.take_length]
    refine WP.cons ?_
    refine WP.forR (ds := qs.map fun p => .tup [.int p.1, .int p.2]) (fun i => [("new_callers", .val (.ref p))]) (fun i => [(p, .dict ((qs.take i).foldl addOne (putAll ps)))]) ?_ (.cons rfl .nil) rfl (fun i d hd => ?_) ?_
    · exact EvIt.items (Ev.items (Ev.name rfl)) hh
    · obtain ⟨q, hq, rfl⟩ := by rw [List.getElem?_map] at hd; exact Option.map_eq_some_iff.mp hd
      refine ⟨_, .tup (.cons (.cons .nil)), WP.cons ?_⟩
      have hlen : ((qs.take i).foldl addOne (putAll ps)).length ≤ 16777216 := by
        have h1 := foldl_addOne_length (qs.take i) (putAll ps)
        have h2 := foldl_iput_length ps []
        have h3 : (qs.take i).length ≤ qs.length := by simp; (first | lia | omega)
        simp only [List.length_nil] at h2
        unfold putAll at h1 ⊢
        (first | lia | omega)
      refine WP.ifs (b := (ival ((qs.take i).foldl addOne (putAll ps)) q.1).isSome) ?_ (fun hb => ?_) (fun hb => ?_)
      · exact EvT.cmp (Ev.name rfl) (Ev.name rfl) (CmpSem.inOwn (.inl (.head _)))
      · obtain ⟨x, hx⟩ := Option.isSome_iff_exists.mp hb
        refine WP.cons ?_
        refine WP.ifs (b := false) ?_ (fun hb => ?_) (fun hb => ?_)
        · exact EvT.of (Ev.callName (Ev.bglob XK T (by exact rfl) rfl (by decide)) (.plain (by intro _ e; cases e)) (.cons (Ev.name rfl) (.cons (Ev.bglob XK T (by exact rfl) rfl (by decide)) .nil)) CallSem.isTuple) .bool
        · cases hb
        · refine WP.cons ?_
          refine WP.augSub (μ₁ := []) (Ev.name rfl) (Ev.name rfl) (Ev.name rfl) (.dict hx) (.dict hlen) (WP.nil (WP.nil (WP.nil ⟨.cons rfl .nil, ?_⟩)))
          try dsimp only
          rw [foldl_take _ _ _ _ _ hq]
          rw [show addOne (List.foldl addOne (putAll ps) (List.take i qs)) q = iput (List.foldl addOne (putAll ps) (List.take i qs)) q.1 (x + q.2) by rw [addOne.eq_1, hx]]
          rfl
      · refine WP.cons ?_
        refine WP.setSub (μ₁ := []) (Ev.name rfl) (Ev.name rfl) (Ev.name rfl) (.dict hlen) (WP.nil (WP.nil ⟨.cons rfl .nil, ?_⟩))
        try dsimp only
        rw [foldl_take _ _ _ _ _ hq]
        have : ival ((qs.take i).foldl addOne (putAll ps)) q.1 = none := by
          cases z : ival ((qs.take i).foldl addOne (putAll ps)) q.1 with
          | none => rfl
          | some x => rw [z] at hb; cases hb
        rw [show addOne (List.foldl addOne (putAll ps) (List.take i qs)) q = iput (List.foldl addOne (putAll ps) (List.take i qs)) q.1 q.2 by rw [addOne.eq_1, this]]
        rfl
    · rw [List.length_map, List.take_length]
      refine WP.cons ?_
      refine WP.freezeName (μ₁ := []) (x := "new_callers") rfl ?_
      exact WP.ret (Ev.name rfl) rfl
end
end Mine
end
section
open PySem PySem.W PySem.Calls PyProof.Rows
set_option Elab.async false
set_option linter.unusedVariables false
namespace Mine
section
variable {prog : Program} {w : World} {G : GX} {l : List Env} {A : Around} {env env' : Env} {ρ ρ' ρc : Rho} {μ μ' μc : Mu} {H H' H₀ : PH} {h h' h₀ : Heap} {target : PySem.Expr}

/-- what holds at the top of the run -/
structure GT (P : Params) (G : GX) : Prop where
  K : (Mine.hd.heap_39 P).In G.hG
  T : ∃ pr loose mg mb, TopRead pr loose mg mb G.hG
theorem GT.glob {P : Params} (X : GT P G) {x : Str} {pos : Pos} {v : Value} {d : Dat} (e : nsIn (Mine.hd.heap_39 P) mainGlobals x = some (some v)) (hr : ∀ H, Rep prog w H v d) (hk : env.kindOf x = some .globalImplicit := by rfl) (hd : (x == ("__debug__" : Str)) = false := by decide) : Ev prog w G l A env ρ μ (.Name x pos) d := by
  obtain ⟨pr, loose, mg, mb, T⟩ := X.T
  exact Ev.glob X.K T.g e hr hk hd
theorem GT.bglob {P : Params} (X : GT P G) {x : Str} {pos : Pos} {v : Value} (e : nsIn (Mine.hd.heap_39 P) mainGlobals x = some none) (hv : bootBuiltins x = some v) (hnm : x ≠ "__name__" := by decide) (hk : env.kindOf x = some .globalImplicit := by rfl) (hd : (x == ("__debug__" : Str)) = false := by decide) : Ev prog w G l A env ρ μ (.Name x pos) (.val v) := by
  obtain ⟨pr, loose, mg, mb, T⟩ := X.T
  exact Ev.bglob X.K T e hv hnm hk hd

theorem add_func_stats_spec {P : Params} (X : GT P G) (hh : A.handled = none) (hroom : A.depth + 1 < recursionLimit) (a b c d a' b' c' d' : Int) (ps qs : List (Int × Int)) (hl : ps.length + qs.length ≤ 10000) :
    CallSem prog w G l A env ρ μ (.ref 91) [.tup [.int a, .int b, .int c, .int d, .dict ps], .tup [.int a', .int b', .int c', .int d', .dict qs]] (.tup [.int (a' + a), .int (b' + b), .int (c' + c), .int (d' + d), .dict (addAll ps qs)]) := by
  refine CallSem.fn (ps := ["target", "source"]) X.K (by exact rfl) rfl (by exact rfl) (by exact rfl) (BindK.two fun _ _ => rfl) (Nat.lt_of_succ_lt hroom) rfl fun L => ?_
  refine WP.cons (WP.assignTup (EvO.pure (Ev.name rfl) ⟨_, .tup (.cons (.cons (.cons (.cons (.cons .nil))))), ?_⟩))
  try dsimp only
  refine WP.cons (WP.assignTup (EvO.pure (Ev.name rfl) ⟨_, .tup (.cons (.cons (.cons (.cons (.cons .nil))))), ?_⟩))
  try dsimp only
  refine WP.cons (WP.ret ?_ rfl)
  obtain ⟨pr, loose, mg, mb, T⟩ := X.T
  refine Ev.tuple (.cons (Ev.bin (Ev.name rfl) (Ev.name rfl) BinSem.add) (.cons (Ev.bin (Ev.name rfl) (Ev.name rfl) BinSem.add) (.cons (Ev.bin (Ev.name rfl) (Ev.name rfl) BinSem.add) (.cons (Ev.bin (Ev.name rfl) (Ev.name rfl) BinSem.add) (.cons ?_ .nil)))))
  exact Ev.callName (X.glob (by exact rfl) fun _ => .val _) (KeepG.K X.K (by exact rfl)) (.cons (Ev.name rfl) (.cons (Ev.name rfl) .nil)) (add_callers_spec (A := A.deeper _) X.K T hh hroom ps qs hl)

theorem ISTERMINAL_spec {P : Params} (X : GT P G) (hroom : A.depth < recursionLimit) (x : Int) : CallSem prog w G l A env ρ μ (.ref 112) [.int x] (.bool (decide (x < 256))) := by
  refine CallSem.fn (ps := ["x"]) X.K (by exact rfl) rfl (by exact rfl) (by exact rfl) (BindK.one fun _ => rfl) hroom rfl fun L => ?_
  refine WP.cons (WP.ret ?_ rfl)
  exact Ev.cmp (Ev.name rfl) (X.glob (by exact rfl) fun _ => .int _ _) CmpSem.lt
theorem ISNONTERMINAL_spec {P : Params} (X : GT P G) (hroom : A.depth < recursionLimit) (x : Int) : CallSem prog w G l A env ρ μ (.ref 119) [.int x] (.bool (decide (256 ≤ x))) := by
  refine CallSem.fn (ps := ["x"]) X.K (by exact rfl) rfl (by exact rfl) (by exact rfl) (BindK.one fun _ => rfl) hroom rfl fun L => ?_
  refine WP.cons (WP.ret ?_ rfl)
  exact Ev.cmp (Ev.name rfl) (X.glob (by exact rfl) fun _ => .int _ _) CmpSem.ge
theorem ISEOF_spec {P : Params} (X : GT P G) (hroom : A.depth < recursionLimit) (x : Int) : CallSem prog w G l A env ρ μ (.ref 126) [.int x] (.bool (x == 0)) := by
  refine CallSem.fn (ps := ["x"]) X.K (by exact rfl) rfl (by exact rfl) (by exact rfl) (BindK.one fun _ => rfl) hroom rfl fun L => ?_
  refine WP.cons (WP.ret ?_ rfl)
  exact Ev.cmp (Ev.name rfl) (X.glob (by exact rfl) fun _ => .int _ _) CmpSem.eq
end
end Mine
end
section
open PySem PySem.W PySem.Calls PyProof.Rows
set_option Elab.async false
set_option linter.unusedVariables false
namespace Mine
section
variable {prog : Program} {w : World} {G : GX} {l : List Env} {A : Around} {env env' : Env} {ρ ρ' ρc : Rho} {μ μ' μc : Mu} {H H' H₀ : PH} {h h' h₀ : Heap} {target : PySem.Expr}

theorem exec_AssignAttr (o : PySem.Expr) (attr : Str) (ap : Pos) (value : PySem.Expr) (pos : Pos) (env : Env) (hs : swapsWithSole [.Attribute o attr ap] value pos.line env = pure false) (hw : swappedStores [.Attribute o attr ap] value env = pure none) :
    exec (.Assign [.Attribute o attr ap] value pos) env = (do
      standAt pos
      let v ← eval value env
      let ov ← holding [v] (eval o env)
      standAt ap.atName
      holding [v, ov] (setAttr ov attr v)
      release [v, ov] []
      pure .next) := by
  rw [exec_Assign, hs]
  simp only [pure_bind, Bool.false_eq_true, if_false, hw]
  refine congrArg _ (funext fun _ => congrArg _ (funext fun v => ?_))
  show (do assignAll v [PySem.assign (.Attribute o attr ap) env]; pure Flow.next) = _
  show (do PySem.assign (.Attribute o attr ap) env v; pure Flow.next) = _
  have e : PySem.assign (.Attribute o attr ap) env v = (do
    let ov ← holding [v] (eval o env)
    standAt ap.atName
    holding [v, ov] (setAttr ov attr v)
    release [v, ov] []) := rfl
  rw [e]
  simp only [bind_assoc]
theorem not_big {a n : Nat} (h : a < n) : a ∉ ([n + 1, n] : List Nat) := by simp; (first | lia -abstractProof | omega)
theorem hideAll_le {hh h : Heap} {as : List Addr} (k : ∀ b o, hh.get? b = some o → h.get? b = some o) : ∀ b o, (hideAll hh as).get? b = some o → h.get? b = some o := fun b o e => k b o (of_hideAll _ e)
theorem TC_new {P : Params} (X : GT P G) (hroom : A.depth + 3 < recursionLimit) (ds : List Dat) : CallSem prog w G l A env ρ μ (.ref 80) [.list ds] (.ord (.list ds)) := fun H vs r => by
  obtain ⟨v, rfl, r1⟩ := r.one
  refine ⟨fun s Q E S hQ => ?_⟩
  have XH : (Mine.hd.heap_39 P).In s.heap := X.K.keeps fun b o e => S.ext _ _ (S.glob b o e)
  have hlim : s.heap.NoLimit := G.nolim.keeps fun b o e => S.ext _ _ (S.glob b o e)
  refine wpAny_call ?_
  obtain ⟨hh, g, d, t, os⟩ := s
  refine make_core (makes_of XH (by exact rfl)) (looks_findIn XH (by exact rfl)) (fun self => bind_fn XH self (by exact rfl)) (.inl rfl) ?_
  have k2 : ∀ b o, hh.get? b = some o → ((hh.push emptyDict).push (instObj 80 hh.objs.size)).get? b = some o := fun b o e => Heap.get?_push_of_some _ (Heap.get?_push_of_some _ e)
  generalize hA' : A.under (Code.builtin "type.__call__" _) = A'
  have hd' : A'.depth < recursionLimit := by subst hA'; show A.depth + 1 < recursionLimit; (first | lia -abstractProof | omega)
  have XH2 := XH.keeps k2
  refine codeAny_call_def (binds := [("self", .ref (hh.objs.size + 1)), ("comp_select_list", v)]) hd' (XH2 70 _ (by exact rfl)) rfl (hlim.keeps k2) (codeRec_of XH2 (by exact rfl)) rfl (BindsTo.of_eq rfl) (by decide) (by intro x hx; simp at hx; rcases hx with rfl | rfl <;> rfl) (fun h₁ hns old => ?_)
  generalize hh2 : (hh.push emptyDict).push (instObj 80 hh.objs.size) = h2 at *
  have gx : h2.get? (hh.objs.size + 1) = some (instObj 80 hh.objs.size) := by
    rw [← hh2]; have := Heap.get?_push_size (hh.push emptyDict) (o := instObj 80 hh.objs.size) rfl; rwa [Heap.size_push] at this
  have gd : h2.get? hh.objs.size = some emptyDict := by
    rw [← hh2]; exact Heap.get?_push_of_some _ (Heap.get?_push_size _ rfl)
  have hsz : h2.objs.size = hh.objs.size + 2 := by rw [← hh2, Heap.size_push, Heap.size_push]
  rw [show fdB (mt 9 0) = _ :: _ from rfl, execs_cons]
  refine wpAny_bind ?_
  rw [exec_AssignAttr _ _ _ _ _ _ rfl rfl]
  refine wpAny_bind (wpAny_standAt (wpAny_bind ?_))
  refine wpAny_Name (wpAny_loadName_local rfl rfl hns (v := v) rfl ?_) (by decide)
  refine wpAny_bind (wpAny_holding (wpAny_Name (wpAny_loadName_local rfl rfl hns (v := .ref (hh.objs.size + 1)) rfl ?_) (by decide)))
  refine wpAny_bind (wpAny_standAt (wpAny_bind (wpAny_holding ?_)))
  have F : Fr (hideAll h2 [hh.objs.size + 1, hh.objs.size]) h2.objs.size h₁ _ := ⟨hns, hideAll_le old, Nat.le_of_eq (hideAll_size _ _)⟩
  have N : News (hideAll h2 [hh.objs.size + 1, hh.objs.size]) h2.objs.size h₁ [(hh.objs.size + 1, instObj 80 hh.objs.size), (hh.objs.size, dictOf [] 0)] := fun p hp => by
    rcases List.mem_cons.mp hp with rfl | hp
    · exact ⟨old _ _ gx, by show hh.objs.size + 1 ≠ h2.objs.size; (first | lia -abstractProof | omega), hideAll_none _ (.head _)⟩
    · rw [List.mem_singleton.mp hp]
      exact ⟨old _ _ gd, by show hh.objs.size ≠ h2.objs.size; (first | lia -abstractProof | omega), hideAll_none _ (.tail _ (.head _))⟩
  have XK : (Mine.hd.heap_39 P).In (hideAll h2 [hh.objs.size + 1, hh.objs.size]) := fun a o e => hideAll_get _ (XH2 a o e) (not_big (Heap.lt_size (XH a o e)))
  refine set_dict (x := hh.objs.size + 1) (C := 80) (dx := hh.objs.size) (name := "comp_select_list") (v := v) F XK N (InstAt.of_news N (.head _) (.tail _ (.head _))) rfl (by exact rfl) (by exact rfl) (by exact rfl) (by exact rfl) (by exact rfl) rfl (.tail ?_ (.head ?_)) (by show 1 ≤ 1000; decide) (fun h₃ F₃ N₃ => ?_)
  · show hh.objs.size + 1 ≠ hh.objs.size; (first | lia -abstractProof | omega)
  · intro p hp; cases hp
  refine wpAny_bind (wpAny_release (wpAny_pure ?_))
  refine wpAny_pure ?_
  refine ⟨rfl, ?_⟩
  have hbase : G.hG.objs.size ≤ hh.objs.size := Nat.le_of_lt (Nat.lt_of_le_of_lt S.base S.ltL)
  have up : ∀ b o, hh.get? b = some o → h₃.get? b = some o := fun b o e => F₃.keep b o (hideAll_get _ (k2 b o e) (not_big (Heap.lt_size e)))
  have gx3 := (N₃ _ (.head _)).1
  have gd3 := (N₃ _ (.tail _ (.head _))).1
  have hnx : H (hh.objs.size + 1) = none := S.freshH (Nat.le_succ _)
  have hnd : H hh.objs.size = none := S.freshH (Nat.le_refl _)
  have hnd' : addO H (hh.objs.size + 1) (instObj 80 hh.objs.size) hh.objs.size = none := (addO_ne (Nat.ne_of_lt (Nat.lt_succ_self _))).trans hnd
  have hle : ∀ o, Le H (addO (addO H (hh.objs.size + 1) (instObj 80 hh.objs.size)) hh.objs.size o) := fun o => (le_addO hnx).trans (le_addO hnd')
  refine hQ _ _ h₃ _ (Step.of S.tabs (hle _) (((S.ext.mono up).addO gx3).addO gd3) (fun a o e => ?_) up) (.ord (le_addO hnd' _ _ (addO_self ..)) (addO_self ..) rfl rfl ?_ (r1.mono (hle _)))
  · by_cases q : a = hh.objs.size
    · exact .inr (by rw [q]; exact fresh_get (Nat.le_refl _))
    · rw [addO_ne q] at e
      by_cases q : a = hh.objs.size + 1
      · exact .inr (by rw [q]; exact fresh_get (Nat.le_succ _))
      · rw [addO_ne q] at e; exact .inl e
  · cases r1; rfl
end
end Mine
end
section
open PySem PySem.W PySem.Calls PyProof.Rows
set_option Elab.async false
set_option linter.unusedVariables false
namespace Mine
section
variable {prog : Program} {w : World} {G : GX} {l : List Env} {A : Around} {env env' : Env} {ρ ρ' ρc : Rho} {μ μ' μc : Mu} {H H' H₀ : PH} {h h' h₀ : Heap} {target : PySem.Expr}

theorem Ev.compSel {P : Params} (X : GT P G) {x : Str} {np pos : Pos} {d : Dat} (ho : Ev prog w G l A env ρ μ (.Name x np) (.ord d)) : Ev prog w G l A env ρ μ (.Attribute (.Name x np) "comp_select_list" pos) d := fun H => by
  rw [arm_eval_Attribute]
  refine (show Tr prog w G l A env ρ μ H (attributeBase (.Name x np) "comp_select_list" env (eval (.Name x np) env)) fun H' v => Rep prog w H' v (.ord d) from ho H).bind fun v H₁ k1 r1 => Tr.standAt ?_
  cases r1 with
  | @ord a dx es n v d e1 e2 g1 g2 hi rv =>
    have hget : Tr prog w G l A env ρ μ H₁ (getAttr (.ref a) "comp_select_list" true) fun H' u => Rep prog w H' u d := by
      refine ⟨fun s Q E S hQ => ?_⟩
      have XH : (Mine.hd.heap_39 P).In s.heap := X.K.keeps fun b o e => S.ext _ _ (S.glob b o e)
      have I : InstAt s.heap a (instObj 80 dx) 80 (some (dictOf es n)) := ⟨S.ext _ _ e1, rfl, rfl, S.ext _ _ e2⟩
      refine get_value XH I (by exact rfl) (findObj_own (by exact rfl) (by exact rfl) (by exact rfl) g1) hi ?_
      exact hQ v H₁ s.heap _ (.refl S.ext S.tabs) rv
    refine hget.holding.bind fun u H₂ k2 r2 => ?_
    show Tr prog w G l A env ρ μ H₂ (letTemporaryGo (.Name x np) (.ref a) u >>= fun _ => pure u) _
    exact Tr.pure r2

noncomputable def cmpOut : List (Nat × Int) → List Int → List Int → Int
  | [], _, _ => 0
  | (i, d) :: r, xs, ys => if xs.getD i 0 < ys.getD i 0 then -d else if ys.getD i 0 < xs.getD i 0 then d else cmpOut r xs ys
theorem compare_spec {P : Params} (X : GT P G) (hh : A.handled = none) (hroom : A.depth < recursionLimit) (d : Int) (a b c b' c' : Int) :
    CallSem prog w G l A env ρ μ (.ref 77) [.ord (.list [.tup [.int 0, .int 5], .tup [.int 2, .int d]]), .tup [.int a, .int b, .int c], .tup [.int a, .int b', .int c']] (.int (if c < c' then -d else if c' < c then d else 0)) := by
  refine CallSem.fn (ps := ["self", "left", "right"]) X.K (by exact rfl) rfl (by exact rfl) (by exact rfl) (BindK.three fun _ _ _ => rfl) hroom rfl fun L => ?_
  refine WP.cons ?_
  refine WP.for (ds := [.tup [.int 0, .int 5], .tup [.int 2, .int d]]) (fun i ρ' μ' => @Eq Rho ρ' [("left", .tup [.int a, .int b, .int c]), ("right", .tup [.int a, .int b', .int c'])] ∧ (2 ≤ i → ¬ c < c' ∧ ¬ c' < c) ∧ μ' = []) ?_ (.cons rfl (.cons rfl .nil)) ⟨rfl, fun h => absurd h (by decide), rfl⟩ (fun i dd ρ' μ' hd hJ => ?_) (fun ρ' μ' hJ => ?_)
  · refine EvIt.list (Ev.compSel X (Ev.name rfl)) hh ?_
    intro _ d hd
    simp at hd
    rcases hd with rfl | rfl <;> exact ⟨_, rfl⟩
  · obtain ⟨rfl, hc, rfl⟩ := hJ
    match i, hd with
    | 0, hd =>
      cases hd
      refine ⟨_, .tup (.cons (.cons .nil)), WP.cons (WP.assign (d := .int a) (Ev.sub (Ev.name rfl) (Ev.name rfl) (SubSem.tup (by decide) rfl (by decide))) ?_)⟩
      refine WP.cons (WP.assign (d := .int a) (Ev.sub (Ev.name rfl) (Ev.name rfl) (SubSem.tup (by decide) rfl (by decide))) ?_)
      refine WP.cons (WP.ifs (EvT.cmp (Ev.name rfl) (Ev.name rfl) CmpSem.lt) (fun hb => absurd (of_decide_eq_true hb) (Int.lt_irrefl _)) fun _ => ?_)
      refine WP.nil (WP.cons (WP.ifs (EvT.cmp (Ev.name rfl) (Ev.name rfl) CmpSem.gt) (fun hb => absurd (of_decide_eq_true hb) (Int.lt_irrefl _)) fun _ => ?_))
      exact WP.nil (WP.nil ⟨_, .cons rfl (.cons rfl .nil), rfl, fun h => absurd h (by decide), rfl⟩)
    | 1, hd =>
      cases hd
      refine ⟨_, .tup (.cons (.cons .nil)), WP.cons (WP.assign (d := .int c) (Ev.sub (Ev.name rfl) (Ev.name rfl) (SubSem.tup (by decide) rfl (by decide))) ?_)⟩
      refine WP.cons (WP.assign (d := .int c') (Ev.sub (Ev.name rfl) (Ev.name rfl) (SubSem.tup (by decide) rfl (by decide))) ?_)
      refine WP.cons (WP.ifs (EvT.cmp (Ev.name rfl) (Ev.name rfl) CmpSem.lt) (fun hb => ?_) fun hb => ?_)
      · refine WP.cons (WP.ret (Ev.neg (Ev.name rfl)) ?_)
        show AF.ret _ = AF.ret _
        rw [if_pos (of_decide_eq_true hb)]
      refine WP.nil (WP.cons (WP.ifs (EvT.cmp (Ev.name rfl) (Ev.name rfl) CmpSem.gt) (fun hb' => ?_) fun hb' => ?_))
      · refine WP.cons (WP.ret (Ev.name rfl) ?_)
        show AF.ret _ = AF.ret _
        rw [if_neg (of_decide_eq_false hb), if_pos (of_decide_eq_true hb')]
      exact WP.nil (WP.nil ⟨_, .cons rfl (.cons rfl .nil), rfl, fun _ => ⟨of_decide_eq_false hb, of_decide_eq_false hb'⟩, rfl⟩)
    | i + 2, hd => cases hd
  · obtain ⟨rfl, hc, rfl⟩ := hJ
    obtain ⟨h1, h2⟩ := hc (Nat.le_refl 2)
    refine WP.cons (WP.ret (d := .int 0) Ev.int ?_)
    show AF.ret _ = AF.ret _
    rw [if_neg h1, if_neg h2]
end
end Mine
end
section
open PySem PySem.W PySem.Calls PyProof.Rows
set_option Elab.async false
set_option linter.unusedVariables false
namespace Mine

/-! what _law_ways computes -/
noncomputable def wayOf (D τ state number : Int) : Int := (if number < state.fdiv 2 - 1 then -D else if state.fdiv 2 - 1 < number then D else 0) * τ
noncomputable def wayKey (D τ state number : Int) : Int := if wayOf D τ state number < 0 then state else 2 * number + 3 - (wayOf D τ state number).fdiv 9
noncomputable def rngI (a b : Int) : List Int := (List.range (b - a).toNat).map fun (i : Nat) => a + (i : Int)
noncomputable def wayStep (D τ : Int) (st : Int × Int) (told : List (Int × Int)) (nm : Int × Int) : List (Int × Int) := addAll told [(wayKey D τ st.1 nm.1, st.2 * nm.2)]
noncomputable def waySize (T : List (Int × Int)) (D τ : Int) (W : List (Int × Int)) (told : List (Int × Int)) : List (Int × Int) := W.foldl (fun told st => T.foldl (wayStep D τ st) told) told
noncomputable def ways (T : Int → Int → List (Int × Int)) (D τ : Int) : List Int → Int → List (Int × Int)
  | [], left => if left = 0 then [(0, 1)] else []
  | k :: ks, left => (rngI (if (k :: ks).length = 1 then left else 1) (left - ((k :: ks).length : Int) + 2)).foldl (fun told size => waySize (T k size) D τ (ways T D τ ks (left - size)) told) []
theorem rng_rngI (a b : Int) : rng a 1 (b - a).toNat = (rngI a b).map .int := by
  unfold rng rngI; rw [List.map_map]; congr 1; funext i; simp
theorem addAll_one_length (ps : List (Int × Int)) (p : Int × Int) : (addAll ps [p]).length ≤ ps.length + 1 := by
  have h1 := foldl_addOne_length [p] (putAll ps)
  have h2 := foldl_iput_length ps []
  simp only [List.length_nil, List.length_cons] at h1 h2
  unfold putAll at h1
  unfold addAll putAll
  (first | lia -abstractProof | omega)
theorem foldl_len {α : Type} {f : List (Int × Int) → α → List (Int × Int)} {c : Nat} (xs : List α) (h : ∀ x ∈ xs, ∀ t, (f t x).length ≤ t.length + c) (t : List (Int × Int)) : (xs.foldl f t).length ≤ t.length + xs.length * c := by
  induction xs generalizing t with
  | nil => simp
  | cons x xs ih =>
    have h1 := h x (.head _) t
    have h2 := ih (fun y hy => h y (.tail _ hy)) (f t x)
    simp only [List.foldl_cons, List.length_cons, Nat.succ_mul]
    (first | lia | omega)
theorem inner_len (T : List (Int × Int)) (D τ : Int) (st : Int × Int) (t : List (Int × Int)) : (T.foldl (wayStep D τ st) t).length ≤ t.length + T.length * 1 :=
  foldl_len T (fun x _ t => addAll_one_length t _) t
theorem waySize_len (T : List (Int × Int)) (D τ : Int) (W t : List (Int × Int)) : (waySize T D τ W t).length ≤ t.length + W.length * T.length := by
  have := foldl_len W (f := fun told st => T.foldl (wayStep D τ st) told) (c := T.length) (fun x _ t => by have := inner_len T D τ x t; (first | lia | omega)) t
  exact this
theorem mem_rngI {a b x : Int} : x ∈ rngI a b ↔ a ≤ x ∧ x < b := by
  unfold rngI
  rw [List.mem_map]
  constructor
  · rintro ⟨i, hi, rfl⟩
    have := List.mem_range.mp hi
    (first | lia | omega)
  · rintro ⟨h1, h2⟩
    exact ⟨(x - a).toNat, List.mem_range.mpr (by (first | lia | omega)), by (first | lia | omega)⟩
theorem rngI_length (a b : Int) : (rngI a b).length = (b - a).toNat := by simp [rngI]
theorem ways_len {T : Int → Int → List (Int × Int)} (D τ : Int) (hT : ∀ k s, (T k s).length ≤ 3) : ∀ (kids : List Int) (left : Int), left ≤ 5 → (ways T D τ kids left).length ≤ 18 ^ kids.length
  | [], left, _ => by unfold ways; split <;> simp
  | k :: ks, left, hl => by
    unfold ways
    have hc : ∀ size ∈ rngI (if (k :: ks).length = 1 then left else 1) (left - ((k :: ks).length : Int) + 2), ∀ t, (waySize (T k size) D τ (ways T D τ ks (left - size)) t).length ≤ t.length + 18 ^ ks.length * 3 := fun size hs t => by
      have h1 := waySize_len (T k size) D τ (ways T D τ ks (left - size)) t
      have hs' := mem_rngI.mp hs
      have hle : left - size ≤ 5 := by
        have := hs'.1
        split at this <;> (first | lia -abstractProof | omega)
      have h2 := ways_len D τ hT ks (left - size) hle
      have h3 := hT k size
      have h4 : (ways T D τ ks (left - size)).length * (T k size).length ≤ 18 ^ ks.length * 3 := Nat.mul_le_mul h2 h3
      (first | lia -abstractProof | omega)
    have h := foldl_len (f := fun told size => waySize (T k size) D τ (ways T D τ ks (left - size)) told) _ hc []
    rw [rngI_length] at h
    have hn : (left - ((k :: ks).length : Int) + 2 - if (k :: ks).length = 1 then left else 1).toNat ≤ 5 := by
      simp only [List.length_cons]
      split <;> (first | lia -abstractProof | omega)
    have h5 := Nat.mul_le_mul hn (Nat.le_refl (18 ^ ks.length * 3))
    simp only [List.length_nil] at h
    show _ ≤ 18 ^ (ks.length + 1)
    rw [Nat.pow_succ]
    (first | lia -abstractProof | omega)

section
variable {prog : Program} {w : World} {G : GX} {l : List Env} {A : Around} {env env' : Env} {ρ ρ' ρc : Rho} {μ μ' μc : Mu} {H H' H₀ : PH} {h h' h₀ : Heap} {target : PySem.Expr}

/-- a function that reads its caller's own objects -/
theorem CallSem.fnRo {K : Frag} {fd : FuncData} {body : List Stmt} {a : Addr} {oc : Value} {od : Option Addr} {osl : Array (Option Value)} {ps : List Str} {ds : List Dat} {d : Dat} (XK : K.In G.hG) (e : K.lookup a = some ⟨oc, od, .func fd, osl⟩) (hbody : fd.body = .stmts body) (ok : fnOk K fd ps = true) (ok' : locOk fd ps = true)
    (hb : BindK K fd ps ds.length) (hroom : A.depth < recursionLimit) (hlen : ps.length = ds.length) (μc : Mu) (hμ : ∀ p ∈ μc, ∃ md, p.2 = .ro md ∧ ((p.1, md) ∈ μ ∨ (p.1, MD.ro md) ∈ μ)) (hndμ : (μc.map (·.1)).Nodup)
    (k : ∀ L, WP prog w G (callEnv fd L a :: l) (A.deeper (callEnv fd L a)) (callEnv fd L a) (execs body (callEnv fd L a)) (ps.zip ds).reverse μc fun af _ _ => af = .ret d) : CallSem prog w G l A env ρ μ (.ref a) ds d := fun H vs r => by
  refine ⟨fun s Q E S hQ => ?_⟩
  obtain ⟨F, hclo, hnd⟩ := fnFacts XK e hbody ok S.glob
  unfold locOk at ok'
  simp only [Bool.and_eq_true, List.all_eq_true, beq_iff_eq, bne_iff_ne] at ok'
  refine call_plain (ρc := []) (μc := μc) (X := []) S F hroom (fun s' vals x hv => hb.run s' vals (XK.keeps fun b o q => x _ _ (S.glob b o q)) hv) r hlen hnd ok'.1 ok'.2 (by rw [hclo]; intro _ _ q; cases q) (by rw [hclo]; exact .nil) (fun _ _ q => nomatch q) (fun p hp => .inr (hμ p hp)) hndμ (fun p hp hw => ?_) ?_
  · obtain ⟨md, e, _⟩ := hμ p hp
    rw [e] at hw; cases hw
  rw [List.append_nil]
  exact (k _).mono fun af ρ' μ' e => ⟨d, .inl e, fun v H' h' tk rv st _ => hQ v H' h' tk st rv⟩

/-- a method of a TupleComp -/
theorem Ev.compare {P : Params} (X : GT P G) {o : PySem.Expr} {apos pos : Pos} {es : List PySem.Expr} {ds : List Dat} {d r : Dat} (ho : Ev prog w G l A env ρ μ o (.ord d)) (he : Evs prog w G l A env ρ μ es ds) (hc : CallSem prog w G l A env ρ μ (.ref 77) (.ord d :: ds) r)
    (hbase : attributeBase o "compare" env (eval o env) = eval o env := by rfl) (hline : (apos.endLine == pos.line) = true := by rfl) (hn : es.length < 29 := by decide) :
    Ev prog w G l A env ρ μ (.Call (.Attribute o "compare" apos) es [] pos) r := fun H => by
  rw [arm_eval_Call, hbase]
  refine (ho H).bind fun v H₁ k1 r1 => Tr.standAt ?_
  have hform : methodCallForm (es.length + ([] : List Keyword).length) (backTo pos (starEach es env)) (backToKw pos (keywordEach [] env)) = true := by
    have h1 := (he.run pos H₁).1
    show ((backTo pos (starEach es env)).all (fun x => !x.1) && ([] : List (Option Str × Sem Value)).all (fun x => x.1.isSome) && decide (es.length + 0 + 0 < 30)) = true
    have h2 : (backTo pos (starEach es env)).all (fun x => !x.1) = true := by
      rw [List.all_eq_not_any_not]
      simpa using h1
    rw [h2]
    simp; (first | lia | omega)
  have hpos : methodCallPos true o env apos pos = pure pos := by unfold methodCallPos; simp [hline]
  unfold methodCall
  rw [hform, hpos]
  refine ⟨fun s Q E S hQ => ?_⟩
  have XH : (Mine.hd.heap_39 P).In s.heap := X.K.keeps fun b o e => S.ext _ _ (S.glob b o e)
  have hv : ∃ a, v = .ref a ∧ ∃ dx es n, H₁ a = some (instObj 80 dx) ∧ H₁ dx = some (dictOf es n) ∧ getL "compare" es = some none := by
    cases r1 with
    | ord e1 e2 g1 g2 hi rv => exact ⟨_, rfl, _, _, _, e1, e2, g2⟩
  obtain ⟨a, rfl, dx, es', n, e1, e2, g2⟩ := hv
  have I : InstAt s.heap a (instObj 80 dx) 80 (some (dictOf es' n)) := ⟨S.ext _ _ e1, rfl, rfl, S.ext _ _ e2⟩
  have hga : findIn (Mine.hd.heap_39 P) (.ref 80) "__getattribute__" = some (some (.builtin "object.__getattribute__")) := by exact rfl
  have hgb : findIn (Mine.hd.heap_39 P) (.ref 80) "__getattr__" = some none := by exact rfl
  have hf : findIn (Mine.hd.heap_39 P) (.ref 80) "compare" = some (some (.ref 77)) := by exact rfl
  have ht : typeIn (Mine.hd.heap_39 P) (.ref 77) = some (.type "function") := by exact rfl
  have hs : shadowIn (some (dictOf es' n)) "compare" = some false := by show (lookIn _ (dictOf es' n)).map _ = _; rw [lookIn_dict, g2]; rfl
  have hK : KeepG prog w G (.ref 77) := KeepG.K X.K (by exact rfl)
  with_reducible refine wpAny_bind (wpAny_holding (method_fn XH I hga hgb hf ht hs ?_))
  dsimp only [pure_bind]
  exact (Tr.callWith (R := fun H' r' => Rep prog w H' r' r) (hK H₁ S.glob) he fun H' vs k r => hc H' (.ref a :: vs) (.cons (r1.mono k) r)).run s Q E S hQ

theorem range_pick (ds : List Dat) (a : Nat) : ∀ n : Nat, a + n ≤ ds.length → ((List.range n).map (fun k => a + k)).filterMap (ds[·]?) = (ds.drop a).take n
  | 0, _ => by simp
  | n + 1, h => by
    rw [List.range_succ, List.map_append, List.filterMap_append, range_pick ds a n (by (first | lia | omega)), List.take_add_one]
    congr 1
    have : a + n < ds.length := by (first | lia | omega)
    simp [this]
theorem sliceRange_one (a b : Nat) : sliceRange (a : Int) (b : Int) 1 = (List.range (b - a)).map fun k => a + k := by
  unfold sliceRange
  simp only [show (1 : Int) > 0 by decide, if_true]
  have e : (if (a : Int) < b then ((b : Int) - a + 1 - 1) / 1 else 0).toNat = b - a := by
    split
    · rw [Int.ediv_one]; (first | lia -abstractProof | omega)
    · simp; (first | lia -abstractProof | omega)
  rw [e]
  refine List.map_congr_left fun k _ => ?_
  (first | lia -abstractProof | omega)
theorem pick_drop (ds : List Dat) : pick ds (some 1) none none = ds.drop 1 := by
  unfold pick
  have e : sliceBounds (some 1) none none ds.length = (((min 1 ds.length : Nat) : Int), (ds.length : Int), 1) := by
    unfold sliceBounds
    simp only [Option.getD_none, show (1 : Int) > 0 by decide, if_true, show ¬ ((1 : Int) < 0) by decide, if_false]
    refine Prod.ext ?_ rfl
    show max 0 (min 1 (ds.length : Int)) = _
    (first | lia | omega)
  rw [e]
  dsimp only
  rw [sliceRange_one, range_pick _ _ _ (by (first | lia | omega))]
  cases ds with
  | nil => rfl
  | cons d ds => simp
/-- the tables of the trees, as an activation reads them -/
structure TreesAt (μ : Mu) (T : Int → Int → List (Int × Int)) (N : Int) (pt : Addr) : Prop where
  ex : ∃ p0 p1 E0 E1, ((pt, MD.list [.val (.ref p0), .val (.ref p1)]) ∈ μ ∨ (pt, MD.ro (.list [.val (.ref p0), .val (.ref p1)])) ∈ μ) ∧ ((p0, MD.list E0) ∈ μ ∨ (p0, MD.ro (.list E0)) ∈ μ) ∧ ((p1, MD.list E1) ∈ μ ∨ (p1, MD.ro (.list E1)) ∈ μ) ∧
    [pt, p0, p1].Nodup ∧ (∀ s : Int, 0 ≤ s → s < N → ∃ a b c d, E0[s.toNat]? = some (.tup [a, b, c, d, .dict (T 0 s)])) ∧ (∀ s : Int, 0 ≤ s → s < N → ∃ a b c d, E1[s.toNat]? = some (.tup [a, b, c, d, .dict (T 1 s)]))
theorem TreesAt.ro {T : Int → Int → List (Int × Int)} {N : Int} {pt : Addr} (h : TreesAt μ T N pt) : ∃ μc : Mu, (∀ p ∈ μc, ∃ md, p.2 = .ro md ∧ ((p.1, md) ∈ μ ∨ (p.1, MD.ro md) ∈ μ)) ∧ (μc.map (·.1)).Nodup ∧ TreesAt μc T N pt := by
  obtain ⟨p0, p1, E0, E1, h1, h2, h3, hn, h4, h5⟩ := h.ex
  refine ⟨[(pt, .ro (.list [.val (.ref p0), .val (.ref p1)])), (p0, .ro (.list E0)), (p1, .ro (.list E1))], ?_, hn, ⟨p0, p1, E0, E1, .inr (.head _), .inr (.tail _ (.head _)), .inr (.tail _ (.tail _ (.head _))), hn, h4, h5⟩⟩
  intro p hp
  rcases List.mem_cons.mp hp with rfl | hp
  · exact ⟨_, rfl, h1⟩
  rcases List.mem_cons.mp hp with rfl | hp
  · exact ⟨_, rfl, h2⟩
  · rw [List.mem_singleton.mp hp]; exact ⟨_, rfl, h3⟩
/-- trees[head][size][4] -/
theorem Ev.treeTab {T : Int → Int → List (Int × Int)} {N : Int} {pt : Addr} (h : TreesAt μ T N pt) {e₁ e₂ e₃ : PySem.Expr} {p₁ p₂ p₃ p₄ : Pos} {k s : Int} {n : Nat} (hk : k = 0 ∨ k = 1) (h0 : 0 ≤ s) (hs : s < N) (hN : N < 100)
    (h₁ : Ev prog w G l A env ρ μ e₁ (.val (.ref pt))) (h₂ : Ev prog w G l A env ρ μ e₂ (.int k)) (h₃ : Ev prog w G l A env ρ μ e₃ (.int s)) (hp₂ : plainSlice e₂ = true := by rfl) (hp₃ : plainSlice e₃ = true := by rfl) :
    Ev prog w G l A env ρ μ (.Subscript (.Subscript (.Subscript e₁ e₂ p₁) e₃ p₂) (.Constant (.int 4) n p₃) p₄) (.dict (T k s)) := by
  obtain ⟨p0, p1, E0, E1, hm, hm0, hm1, _, hE0, hE1⟩ := h.ex
  have hs63 : s < 2 ^ 63 := by (first | lia | omega)
  rcases hk with rfl | rfl
  · obtain ⟨a, b, c, d, he⟩ := hE0 s h0 hs
    exact Ev.sub (Ev.sub (Ev.sub h₁ h₂ (SubSem.own (d := .val (.ref p0)) hm (by decide) rfl (by decide) hp₂)) h₃ (SubSem.own hm0 h0 he hs63 hp₃)) Ev.int (SubSem.tup (by decide) rfl (by decide))
  · obtain ⟨a, b, c, d, he⟩ := hE1 s h0 hs
    exact Ev.sub (Ev.sub (Ev.sub h₁ h₂ (SubSem.own (d := .val (.ref p1)) hm (by decide) rfl (by decide) hp₂)) h₃ (SubSem.own hm1 h0 he hs63 hp₃)) Ev.int (SubSem.tup (by decide) rfl (by decide))

theorem Ev.cutInts {e : PySem.Expr} {n : Nat} {p q pos : Pos} {k : Int} {ks : List Int} (h : Ev prog w G l A env ρ μ e (.list (intL (k :: ks)))) (hl : (intL (k :: ks)).length ≤ 16777216) :
    Ev prog w G l A env ρ μ (.Subscript e (.Slice (some (.Constant (.int 1) n p)) none none q) pos) (.list (intL ks)) := by
  have z := Ev.sub (pos := pos) h (Ev.slice (pos := q) (.some (Ev.int (i := 1) (k := n) (pos := p))) .none .none) (SubSem.slice (by decide) hl)
  rw [pick_drop] at z
  exact z
noncomputable def ordD (D : Int) : Dat := .ord (.list [.tup [.int 0, .int 5], .tup [.int 2, .int D]])
theorem law_ways_spec {P : Params} (X : GT P G) {T : Int → Int → List (Int × Int)} {N D τ : Int} {pt : Addr} (hT : ∀ k s, (T k s).length ≤ 3 ∧ ∀ p ∈ T k s, Builtin.Int.intBits p.2 ≤ 64) (hN : N < 100) (hτ : Builtin.Int.intBits τ ≤ 64) :
    ∀ (kids : List Int) (left : Int) {l : List Env} {A : Around} {env : Env} {ρ : Rho} {μ : Mu}, A.handled = none → A.depth + kids.length + 5 < recursionLimit → A.units + 3 * kids.length + 100 < cLine → TreesAt μ T N pt →
      kids.length ≤ 3 → (∀ k ∈ kids, k = 0 ∨ k = 1) → 0 ≤ left → left ≤ 5 → (kids ≠ [] → left - kids.length + 1 < N) →
      CallSem prog w G l A env ρ μ (.ref 138) [.list (intL kids), .int left, .val (.ref pt), ordD D, .int τ] (.dict (ways T D τ kids left)) := by
  intro kids
  induction kids with
  | nil =>
    intro left l A env ρ μ hh hroom hu hTr hk3 hk hl0 hl5 hlN
    obtain ⟨μc, hμc, hndc, hTc⟩ := hTr.ro
    refine CallSem.fnRo (ps := ["kids", "left", "trees", "order", "turned"]) X.K (by exact rfl) rfl (by exact rfl) (by exact rfl) (BindK.five fun _ _ _ _ _ => rfl) (by (first | lia -abstractProof | omega)) rfl μc hμc hndc fun L => ?_
    refine WP.cons (WP.ifs (b := true) ?_ (fun _ => ?_) fun h => by cases h)
    · exact EvT.cmp (Ev.name rfl) (Ev.list .nil) (CmpSem.eqInts (ns := []) (ms := []) (by show A.units + 3 + 64 < cLine; (first | lia -abstractProof | omega)))
    · refine WP.cons (WP.ret (d := .dict (ways T D τ [] left)) ?_ rfl)
      refine Ev.ite (c := left == 0) (EvT.cmp (Ev.name rfl) Ev.int CmpSem.eq) (fun h => ?_) fun h => ?_
      · have e : ways T D τ [] left = [(0, 1)] := by unfold ways; rw [if_pos (by simpa using h)]
        rw [e]; exact Ev.dict1 Ev.int Ev.int
      · have e : ways T D τ [] left = [] := by unfold ways; rw [if_neg (by simpa using h)]
        rw [e]; exact Ev.dict0
  | cons k ks ih =>
    intro left l A env ρ μ hh hroom hu hTr hk3 hk hl0 hl5 hlN
    obtain ⟨μc, hμc, hndc, hTc⟩ := hTr.ro
    have hlen : (k :: ks).length = ks.length + 1 := rfl
    refine CallSem.fnRo (ps := ["kids", "left", "trees", "order", "turned"]) X.K (by exact rfl) rfl (by exact rfl) (by exact rfl) (BindK.five fun _ _ _ _ _ => rfl) (by (first | lia -abstractProof | omega)) rfl μc hμc hndc fun L => ?_
    refine WP.cons (WP.ifs (b := false) ?_ (fun h => by cases h) fun _ => ?_)
    · exact EvT.cmp (Ev.name rfl) (Ev.list .nil) (CmpSem.eqInts (ns := k :: ks) (ms := []) (by show A.units + 3 + 64 < cLine; (first | lia -abstractProof | omega)))
    refine WP.nil (WP.cons (WP.assign (d := .dict []) Ev.dict0 ?_))
    try dsimp only
    let sizes := rngI (if (k :: ks).length = 1 then left else 1) (left - ((k :: ks).length : Int) + 2)
    let told := fun (i : Nat) => (sizes.take i).foldl (fun told size => waySize (T k size) D τ (ways T D τ ks (left - size)) told) []
    refine WP.cons ?_
    refine WP.forR (ds := sizes.map .int) (fun i => [("told", .dict (told i)), ("kids", .list (intL (k :: ks))), ("left", .int left), ("trees", .val (.ref pt)), ("order", ordD D), ("turned", .int τ)]) (fun _ => μc) ?_ (.cons rfl (.cons rfl (.cons rfl (.cons rfl (.cons rfl (.cons rfl .nil)))))) rfl (fun i d hd => ?_) ?_
    · rw [show sizes.map Dat.int = rng (if (k :: ks).length = 1 then left else 1) 1 (left - ((k :: ks).length : Int) + 2 - (if (k :: ks).length = 1 then left else 1)).toNat from (rng_rngI _ _).symm]
      refine EvIt.range2 (X.bglob (by exact rfl) rfl) (.cons (Ev.ite (c := ((k :: ks).length : Int) == 1) ?_ (fun hc => ?_) fun hc => ?_) (.cons ?_ .nil)) hh ?_
      · exact EvT.cmp (Ev.callName (X.bglob (by exact rfl) rfl) (.plain (by intro _ e; cases e)) (.cons (Ev.name rfl) .nil) (CallSem.lenI _ (by simp only [List.length_cons] at hk3 ⊢; (first | lia -abstractProof | omega)))) Ev.int CmpSem.eq
      · rw [if_pos (by have := eq_of_beq hc; (first | lia -abstractProof | omega))]; exact Ev.name rfl
      · rw [if_neg (by have := beq_eq_false_iff_ne.mp hc; (first | lia -abstractProof | omega))]; exact Ev.int
      · exact Ev.bin (Ev.bin (Ev.name rfl) (Ev.callName (X.bglob (by exact rfl) rfl) (.plain (by intro _ e; cases e)) (.cons (Ev.name rfl) .nil) (CallSem.lenI _ (by simp only [List.length_cons] at hk3 ⊢; (first | lia -abstractProof | omega)))) BinSem.sub) Ev.int BinSem.add
      · rw [hlen] at hk3 ⊢
        refine ⟨?_, ?_, ?_, ?_⟩ <;> (try split) <;> (first | lia -abstractProof | omega)
    · obtain ⟨size, hsz, rfl⟩ := by rw [List.getElem?_map] at hd; exact Option.map_eq_some_iff.mp hd
      have hmem : size ∈ sizes := List.mem_of_getElem? hsz
      have hb := mem_rngI.mp hmem
      have hszlen : sizes.length ≤ 5 := by
        show (rngI _ _).length ≤ 5
        rw [rngI_length, hlen]; split <;> (first | lia -abstractProof | omega)
      have hi5 : (sizes.take i).length ≤ 5 := by rw [List.length_take]; (first | lia -abstractProof | omega)
      have hlt : left - ((k :: ks).length : Int) + 1 < N := hlN (by simp)
      have hs0 : 0 ≤ size := by have := hb.1; split at this <;> (first | lia -abstractProof | omega)
      have hsN : size < N := by have := hb.2; (first | lia -abstractProof | omega)
      have hl0' : 0 ≤ left - size := by have := hb.2; rw [hlen] at this; (first | lia -abstractProof | omega)
      have hl5' : left - size ≤ 5 := by have := hb.1; split at this <;> (first | lia -abstractProof | omega)
      have hks : ks.length ≤ 2 := by rw [hlen] at hk3; (first | lia -abstractProof | omega)
      have h324 : 18 ^ ks.length ≤ 324 := Nat.pow_le_pow_right (n := 18) (by decide) hks
      have hWlen : (ways T D τ ks (left - size)).length ≤ 324 := Nat.le_trans (ways_len D τ (fun k s => (hT k s).1) ks (left - size) hl5') h324
      have htold : (told i).length ≤ 5 * (324 * 3) := by
        have hc : ∀ size ∈ sizes.take i, ∀ t, (waySize (T k size) D τ (ways T D τ ks (left - size)) t).length ≤ t.length + 324 * 3 := fun size hs t => by
          have h1 := waySize_len (T k size) D τ (ways T D τ ks (left - size)) t
          have hs' := mem_rngI.mp (List.mem_of_mem_take hs)
          have hle : left - size ≤ 5 := by
            have := hs'.1
            split at this <;> (first | lia -abstractProof | omega)
          have h2 := Nat.le_trans (ways_len D τ (fun k s => (hT k s).1) ks (left - size) hle) h324
          have h4 : (ways T D τ ks (left - size)).length * (T k size).length ≤ 324 * 3 := Nat.mul_le_mul h2 (hT k size).1
          (first | lia -abstractProof | omega)
        have h := foldl_len (f := fun told size => waySize (T k size) D τ (ways T D τ ks (left - size)) told) _ hc []
        have h5 := Nat.mul_le_mul hi5 (Nat.le_refl (324 * 3))
        simp only [List.length_nil] at h
        show (List.foldl _ [] (sizes.take i)).length ≤ _
        (first | lia -abstractProof | omega)
      refine ⟨_, .name, WP.cons ?_⟩
      let W := ways T D τ ks (left - size)
      let told2 := fun (j : Nat) => (W.take j).foldl (fun told st => (T k size).foldl (wayStep D τ st) told) (told i)
      have htold2 : ∀ j, (told2 j).length ≤ 5 * (324 * 3) + 324 * 3 := fun j => by
        have h := foldl_len (f := fun told st => (T k size).foldl (wayStep D τ st) told) (c := 3) (W.take j) (fun st _ t => by have := inner_len (T k size) D τ st t; have := (hT k size).1; (first | lia -abstractProof | omega)) (told i)
        have hj : (W.take j).length ≤ 324 := by rw [List.length_take]; exact Nat.le_trans (Nat.min_le_right _ _) hWlen
        have h5 := Nat.mul_le_mul hj (Nat.le_refl 3)
        show (List.foldl _ (told i) (W.take j)).length ≤ _
        (first | lia -abstractProof | omega)
      refine WP.forR (ds := W.map fun p => .tup [.int p.1, .int p.2]) (fun j => [("told", .dict (told2 j)), ("size", .int size), ("kids", .list (intL (k :: ks))), ("left", .int left), ("trees", .val (.ref pt)), ("order", ordD D), ("turned", .int τ)]) (fun _ => μc) ?_
        (.cons rfl (.cons rfl (.cons rfl (.cons rfl (.cons rfl (.cons rfl (.cons rfl .nil))))))) rfl (fun j d hd => ?_) ?_
      · refine EvIt.items (Ev.items (Ev.callName (X.glob (by exact rfl) fun _ => .val _) (KeepG.K X.K (by exact rfl)) (.cons (Ev.cutInts (Ev.name rfl) (by simp only [List.length_map]; rw [hlen]; (first | lia -abstractProof | omega))) (.cons (Ev.bin (Ev.name rfl) (Ev.name rfl) BinSem.sub) (.cons (Ev.name rfl) (.cons (Ev.name rfl) (.cons (Ev.name rfl) .nil))))) ?_)) hh
        exact ih (left - size) (A := A.deeper _) hh (by show A.depth + 1 + ks.length + 5 < recursionLimit; rw [hlen] at hroom; (first | lia -abstractProof | omega)) (by show A.units + 3 + 3 * ks.length + 100 < cLine; rw [hlen] at hu; (first | lia -abstractProof | omega)) hTc (by (first | lia -abstractProof | omega)) (fun k hm => hk k (.tail _ hm)) hl0' hl5' (fun hne => by have hpos := List.length_pos_iff.mpr hne; have h1 := hb.1; rw [if_neg (by rw [hlen]; (first | lia -abstractProof | omega))] at h1; have h2 := hlt; rw [hlen] at h2; (first | lia -abstractProof | omega))
      · obtain ⟨st, hst, rfl⟩ := by rw [List.getElem?_map] at hd; exact Option.map_eq_some_iff.mp hd
        refine ⟨_, .tup (.cons (.cons .nil)), WP.cons ?_⟩
        let told3 := fun (m : Nat) => ((T k size).take m).foldl (wayStep D τ st) (told2 j)
        have htold3 : ∀ m, (told3 m).length ≤ 5 * (324 * 3) + 324 * 3 + 3 := fun m => by
          have h1 := inner_len ((T k size).take m) D τ st (told2 j)
          have h2 : ((T k size).take m).length ≤ 3 := by rw [List.length_take]; exact Nat.le_trans (Nat.min_le_right _ _) (hT k size).1
          have h3 := htold2 j
          show (List.foldl _ (told2 j) ((T k size).take m)).length ≤ _
          (first | lia -abstractProof | omega)
        refine WP.forR (ds := (T k size).map fun p => .tup [.int p.1, .int p.2]) (fun m => [("told", .dict (told3 m)), ("state", .int st.1), ("many", .int st.2), ("size", .int size), ("kids", .list (intL (k :: ks))), ("left", .int left), ("trees", .val (.ref pt)), ("order", ordD D), ("turned", .int τ)]) (fun _ => μc) ?_
          (.cons rfl (.cons rfl (.cons rfl (.cons rfl (.cons rfl (.cons rfl (.cons rfl (.cons rfl (.cons rfl .nil))))))))) rfl (fun m d hd => ?_) ?_
        · exact EvIt.items (Ev.items (Ev.treeTab hTc (hk k (.head _)) hs0 hsN hN (Ev.name rfl) (Ev.sub (Ev.name rfl) Ev.int (SubSem.list (by decide) rfl (by decide))) (Ev.name rfl))) hh
        · obtain ⟨nm, hnm, rfl⟩ := by rw [List.getElem?_map] at hd; exact Option.map_eq_some_iff.mp hd
          have hnmm : nm ∈ T k size := List.mem_of_getElem? hnm
          refine ⟨_, .tup (.cons (.cons .nil)), WP.cons (WP.assign (d := .int (wayOf D τ st.1 nm.1)) ?_ ?_)⟩
          · refine Ev.bin (Ev.compare X (ds := [.tup [.int left, .int size, .int nm.1], .tup [.int left, .int left, .int (st.1.fdiv 2 - 1)]]) (Ev.name rfl) (.cons (Ev.tuple (.cons (Ev.name rfl) (.cons (Ev.name rfl) (.cons (Ev.name rfl) .nil)))) (.cons (Ev.tuple (.cons (Ev.name rfl) (.cons (Ev.name rfl) (.cons (Ev.bin (Ev.bin (Ev.name rfl) Ev.int (BinSem.fdiv (by decide) (by decide))) Ev.int BinSem.sub) .nil)))) .nil)) (compare_spec (A := A.deeper _) X hh (by show A.depth + 1 < recursionLimit; (first | lia -abstractProof | omega)) D left size nm.1 left (st.1.fdiv 2 - 1))) (Ev.name rfl) (BinSem.mul (.of_right hτ))
          · refine WP.cons (WP.assign (d := .dict (told3 (m + 1))) ?_ (WP.nil ⟨.cons rfl (.cons rfl (.cons rfl (.cons rfl (.cons rfl (.cons rfl (.cons rfl (.cons rfl (.cons rfl .nil)))))))), rfl⟩))
            have e3 : told3 (m + 1) = addAll (told3 m) [(wayKey D τ st.1 nm.1, st.2 * nm.2)] := foldl_take _ _ _ _ _ hnm
            rw [e3]
            obtain ⟨pr, loose, mg, mb, TR⟩ := X.T
            refine Ev.callName (X.glob (by exact rfl) fun _ => .val _) (KeepG.K X.K (by exact rfl)) (.cons (Ev.name rfl) (.cons (Ev.dict1 (Ev.ite (c := decide (wayOf D τ st.1 nm.1 < 0)) (EvT.cmp (Ev.name rfl) Ev.int CmpSem.lt) (fun hc => ?_) fun hc => ?_) (Ev.bin (Ev.name rfl) (Ev.name rfl) (BinSem.mul (.of_right ((hT k size).2 nm hnmm))))) .nil)) (add_callers_spec (A := A.deeper _) X.K TR hh (by show A.depth + 1 < recursionLimit; (first | lia -abstractProof | omega)) (told3 m) _ (by have := htold3 m; simp only [List.length_cons, List.length_nil]; (first | lia -abstractProof | omega)))
            · have e : wayKey D τ st.1 nm.1 = st.1 := by unfold wayKey; rw [if_pos (of_decide_eq_true hc)]
              rw [e]; exact Ev.name rfl
            · have e : wayKey D τ st.1 nm.1 = 2 * nm.1 + 3 - (wayOf D τ st.1 nm.1).fdiv 9 := by unfold wayKey; rw [if_neg (of_decide_eq_false hc)]
              rw [e]
              exact Ev.bin (Ev.bin (Ev.bin Ev.int (Ev.name rfl) (BinSem.mul (.of_left (by decide)))) Ev.int BinSem.add) (Ev.bin (Ev.name rfl) Ev.int (BinSem.fdiv (by decide) (by decide))) BinSem.sub
        · rw [List.length_map]
          refine WP.nil ⟨.cons (Eq.trans rfl ?_) (.cons rfl (.cons rfl (.cons rfl (.cons rfl (.cons rfl (.cons rfl .nil)))))), rfl⟩
          show some (Dat.dict (told3 (T k size).length)) = some (Dat.dict (told2 (j + 1)))
          have e2 : told2 (j + 1) = (T k size).foldl (wayStep D τ st) (told2 j) := foldl_take _ _ _ _ _ hst
          rw [e2]
          show some (Dat.dict (((T k size).take (T k size).length).foldl (wayStep D τ st) (told2 j))) = _
          rw [List.take_length]
      · rw [List.length_map]
        refine WP.nil ⟨.cons (Eq.trans rfl ?_) (.cons rfl (.cons rfl (.cons rfl (.cons rfl (.cons rfl .nil))))), rfl⟩
        show some (Dat.dict (told2 W.length)) = some (Dat.dict (told (i + 1)))
        have e1 : told (i + 1) = waySize (T k size) D τ (ways T D τ ks (left - size)) (told i) := foldl_take _ _ _ _ _ hsz
        rw [e1]
        show some (Dat.dict ((W.take W.length).foldl _ (told i))) = _
        rw [List.take_length]
        rfl
    · rw [List.length_map]
      refine WP.cons (WP.ret (Ev.name rfl) ?_)
      show AF.ret (Dat.dict (told sizes.length)) = AF.ret (Dat.dict (ways T D τ (k :: ks) left))
      have e : told sizes.length = ways T D τ (k :: ks) left := by
        show (sizes.take sizes.length).foldl _ [] = _
        rw [List.take_length]
        rfl
      rw [e]
end
end Mine
end
section
open PySem PySem.W PySem.Calls PyProof.Rows
set_option Elab.async false
set_option linter.unusedVariables false
namespace Mine

/-! what _law_trees computes -/
abbrev Rule := Int × Int × List Int
noncomputable def ruleD (r : Rule) : Dat := .tup [.int r.1, .int r.2.1, .list (intL r.2.2)]
structure Ent where
  a : Int
  b : Int
  c : Int
  d : Int
  t : List (Int × Int)
noncomputable def Ent.dat (e : Ent) : Dat := .tup [.int e.a, .int e.b, .int e.c, .int e.d, .dict e.t]
noncomputable def noneE : Ent := ⟨0, 0, 0, 0, []⟩
noncomputable def tabOf (E0 E1 : List Ent) (k s : Int) : List (Int × Int) := (((if k = 0 then E0 else E1)[s.toNat]?).map (·.t)).getD []
noncomputable def dimKey (state : Int) : Int := max 0 (state.fdiv 2 - 1 + state.fmod 2)
noncomputable def tableStep (t : List (Int × Int)) (st : Int × Int) : List (Int × Int) := addAll t [(dimKey st.1, st.2)]
noncomputable def tableOf (W : List (Int × Int)) : List (Int × Int) := W.foldl tableStep []
noncomputable def lowOf (t : List (Int × Int)) (top : Int) : Int := ((rngI 0 top).map fun n => (ival t n).getD 0).sum
noncomputable def cnt (t : List (Int × Int)) : Int := (t.map (·.2)).sum
noncomputable def addEnt (size : Int) (e : Ent) (t : List (Int × Int)) : Ent := ⟨lowOf t 1 + e.a, cnt t + e.b, lowOf t 2 + e.c, size * lowOf t 3 + e.d, addAll e.t t⟩
noncomputable def ruleStep (T : Int → Int → List (Int × Int)) (D size head : Int) (e : Ent) (r : Rule) : Ent := if r.1 = head ∧ r.2.1 ≤ size then addEnt size e (tableOf (ways T D D r.2.2 (size - r.2.1))) else e
noncomputable def mkEnt (rules : List Rule) (T : Int → Int → List (Int × Int)) (D size head : Int) : Ent := rules.foldl (ruleStep T D size head) noneE
noncomputable def build (rules : List Rule) (D : Int) : Nat → List Ent × List Ent
  | 0 => ([noneE], [noneE])
  | n + 1 => ((build rules D n).1 ++ [mkEnt rules (tabOf (build rules D n).1 (build rules D n).2) D ((n : Int) + 1) 0], (build rules D n).2 ++ [mkEnt rules (tabOf (build rules D n).1 (build rules D n).2) D ((n : Int) + 1) 1])
theorem build_len (rules : List Rule) (D : Int) : ∀ n, (build rules D n).1.length = n + 1 ∧ (build rules D n).2.length = n + 1
  | 0 => ⟨rfl, rfl⟩
  | n + 1 => by have := build_len rules D n; unfold build; simp [this.1, this.2]
theorem tableOf_length (W : List (Int × Int)) : (tableOf W).length ≤ W.length := by
  have := foldl_len (f := tableStep) (c := 1) W (fun st _ t => addAll_one_length t _) []
  simp only [List.length_nil] at this
  unfold tableOf; (first | lia | omega)
structure BuildOk (rules : List Rule) (D : Int) (most : Nat) : Prop where
  tab : ∀ n < most, ∀ k s, (tabOf (build rules D n).1 (build rules D n).2 k s).length ≤ 3 ∧ ∀ p ∈ tabOf (build rules D n).1 (build rules D n).2 k s, Builtin.Int.intBits p.2 ≤ 64
  ent : ∀ n < most, ∀ head : Int, ∀ i, ((rules.take i).foldl (ruleStep (tabOf (build rules D n).1 (build rules D n).2) D ((n : Int) + 1) head) noneE).d = ((n : Int) + 1) * ((rules.take i).foldl (ruleStep (tabOf (build rules D n).1 (build rules D n).2) D ((n : Int) + 1) head) noneE).b ∧
    ((rules.take i).foldl (ruleStep (tabOf (build rules D n).1 (build rules D n).2) D ((n : Int) + 1) head) noneE).t.length ≤ 3
  rule : ∀ r ∈ rules, r.2.2.length ≤ 3 ∧ (∀ k ∈ r.2.2, k = 0 ∨ k = 1) ∧ 0 ≤ r.2.1 ∧ (r.2.2 ≠ [] → 1 < r.2.1 + r.2.2.length)
  few : rules.length ≤ 1000
  five : most ≤ 5

section
variable {prog : Program} {w : World} {G : GX} {l : List Env} {A : Around} {env env' : Env} {ρ ρ' ρc : Rho} {μ μ' μc : Mu} {H H' H₀ : PH} {h h' h₀ : Heap} {target : PySem.Expr}
theorem WP.ofNodup {t : Sem Flow} {Φ : AF → Rho → Mu → Prop} (h : (μ.map (·.1)).Nodup → WP prog w G l A env t ρ μ Φ) : WP prog w G l A env t ρ μ Φ := fun H => ⟨fun s Q E S hQ => (h S.nodup H).run s Q E S hQ⟩
theorem WP.freezeTrees {t : Sem Flow} {x : Str} {pt p0 p1 : Addr} {E0 E1 : List Dat} {Φ : AF → Rho → Mu → Prop} (hx : ρ.lookup x = some (.val (.ref pt))) (h : WP prog w G l A env t ((x, .list [.list E0, .list E1]) :: ρ) [] Φ) :
    WP prog w G l A env t ρ [(pt, .list [.val (.ref p0), .val (.ref p1)]), (p1, .list E1), (p0, .list E0)] Φ := fun H => by
  refine TS.freeze (μ₁ := [(pt, .list [.val (.ref p0), .val (.ref p1)]), (p1, .list E1)]) (ρ' := ρ) rfl fun H₁ o₁ k₁ e₁ r₁ _ => ⟨fun y d hy => ⟨d, hy, fun _ r => r⟩, ?_⟩
  refine TS.freeze (μ₁ := [(pt, .list [.val (.ref p0), .val (.ref p1)])]) (ρ' := ρ) rfl fun H₂ o₂ k₂ e₂ r₂ _ => ⟨fun y d hy => ⟨d, hy, fun _ r => r⟩, ?_⟩
  refine TS.freeze (μ₁ := []) (ρ' := (x, .list [.list E0, .list E1]) :: ρ) rfl fun H₃ o₃ k₃ e₃ r₃ _ => ⟨fun y d hy => ?_, h H₃⟩
  rw [List.lookup_cons] at hy
  by_cases q : y = x
  · subst q; rw [beq_self_eq_true] at hy; cases hy
    refine ⟨_, hx, fun v rv => ?_⟩
    cases rv.isVal
    obtain ⟨vs, n, rfl, rs⟩ := r₃
    obtain ⟨v0, v1, rfl, h0, h1⟩ := rs.two
    cases h0.isVal; cases h1.isVal
    obtain ⟨vs0, n0, rfl, rs0⟩ := r₁
    obtain ⟨vs1, n1, rfl, rs1⟩ := r₂
    have q0 : Rep prog w H₃ (.ref p0) (.list E0) := .list (k₃ _ _ (k₂ _ _ e₁)) ((rs0.mono k₂).mono k₃)
    have q1 : Rep prog w H₃ (.ref p1) (.list E1) := .list (k₃ _ _ e₂) (rs1.mono k₃)
    exact .list e₃ (.cons q0 (.cons q1 .nil))
  · rw [beq_eq_false_iff_ne.mpr q] at hy; exact ⟨d, hy, fun _ r => r⟩

theorem Sub.push {y : Str} {d : Dat} (h : ρ.lookup y = none) : Sub ρ ((y, d) :: ρ) := fun x d' e => by
  rw [List.lookup_cons]
  by_cases q : x = y
  · subst q; rw [h] at e; cases e
  · rw [beq_eq_false_iff_ne.mpr q]; exact e
theorem lowEq (tb : List (Int × Int)) (top : Int) : ((rng 0 1 top.toNat).filter fun _ => true).map (fun d => match d with | .int n => Dat.int ((ival tb n).getD 0) | d => d) = intL ((rngI 0 top).map fun n => (ival tb n).getD 0) := by
  have e : rng 0 1 top.toNat = (rngI 0 top).map .int := by rw [← rng_rngI]; simp
  rw [e, List.filter_eq_self.mpr (fun _ _ => rfl), List.map_map, intL, List.map_map]
  rfl
theorem entryAt (L L' : List Ent) (hL : L' = L ∨ ∃ x, L' = L ++ [x]) {s : Int} (h0 : 0 ≤ s) (hs : s.toNat < L.length) : ∃ a b c d, (L'.map Ent.dat)[s.toNat]? = some (.tup [a, b, c, d, .dict ((L[s.toNat]?.map (·.t)).getD [])]) := by
  have e : L'[s.toNat]? = L[s.toNat]? := by
    rcases hL with rfl | ⟨x, rfl⟩
    · rfl
    · exact List.getElem?_append_left hs
  rw [List.getElem?_map, e, List.getElem?_eq_getElem hs]
  exact ⟨_, _, _, _, rfl⟩
theorem law_trees_spec {P : Params} (X : GT P G) (hh : A.handled = none) (hroom : A.depth + 20 < recursionLimit) (hu : A.units + 200 < cLine) (rules : List Rule) (turned : Int) (ht : turned = 1 ∨ turned = -1) (B : BuildOk rules (3 * turned) 5) :
    CallSem prog w G l A env ρ μ (.ref 143) [.list (rules.map ruleD), .int turned, .int 5] (.list [.list ((build rules (3 * turned) 5).1.map Ent.dat), .list ((build rules (3 * turned) 5).2.map Ent.dat)]) := by
  refine CallSem.fnC (ps := ["rules", "turned", "most"]) X.K (by exact rfl) rfl (by exact rfl) (by exact rfl) (BindK.three fun _ _ _ => rfl) (by (first | lia -abstractProof | omega)) rfl fun L => ?_
  have h3 : Builtin.Int.intBits (3 : Int) ≤ 64 := by decide
  refine WP.cons (WP.assignSw (ns := ["none", "order"]) (EvO.pure (d := .tup [.tup [.int 0, .int 0, .int 0, .int 0, .dict []], ordD (3 * turned)]) (Ev.tuple (.cons (Ev.tuple (.cons Ev.int (.cons Ev.int (.cons Ev.int (.cons Ev.int (.cons Ev.dict0 .nil)))))) (.cons ?_ .nil))) ⟨_, rfl, rfl, ?_⟩))
  · exact Ev.callName (X.glob (by exact rfl) fun _ => .val _) (KeepG.K X.K (by exact rfl)) (.cons (Ev.list (.cons (Ev.tuple (.cons Ev.int (.cons Ev.int .nil))) (.cons (Ev.tuple (.cons Ev.int (.cons (Ev.bin Ev.int (Ev.name rfl) (BinSem.mul (.of_left h3))) .nil))) .nil))) .nil) (TC_new (A := A.deeper _) X (by show A.depth + 1 + 3 < recursionLimit; (first | lia -abstractProof | omega)) _)
  refine WP.cons (WP.assignO (EvO.list (.cons (fun d μ' => ∃ p0, d = .val (.ref p0) ∧ μ' = [(p0, .list [noneE.dat])]) (EvO.list (.cons (fun d μ' => d = noneE.dat ∧ μ' = []) (EvO.pure (Ev.name rfl) ⟨rfl, rfl⟩) fun d μ' ⟨e1, e2⟩ => ?_)) fun d μ' ⟨p0, e1, e2⟩ => ?_)))
  · subst e1; subst e2
    exact .nil ⟨by decide, fun p => ⟨p, rfl, rfl⟩⟩
  subst e1; subst e2
  refine .cons (fun d μ' => ∃ p1, d = .val (.ref p1) ∧ μ' = [(p1, .list [noneE.dat]), (p0, .list [noneE.dat])]) (EvO.list (.cons (fun d μ' => d = noneE.dat ∧ μ' = [(p0, .list [noneE.dat])]) (EvO.pure (Ev.name rfl) ⟨rfl, rfl⟩) fun d μ' ⟨e1, e2⟩ => ?_)) fun d μ' hx9 => ?_
  · subst e1; subst e2
    exact .nil ⟨by decide, fun p => ⟨p, rfl, rfl⟩⟩
  obtain ⟨p1, e1, e2⟩ := hx9
  subst e1; subst e2
  refine .nil ⟨by show 2 ≤ 16777216; decide, fun pt => ?_⟩
  try dsimp only
  let E := fun (i : Nat) => build rules (3 * turned) i
  let M := fun (i : Nat) => ([(pt, .list [.val (.ref p0), .val (.ref p1)]), (p1, .list ((E i).2.map Ent.dat)), (p0, .list ((E i).1.map Ent.dat))] : Mu)
  refine WP.cons ?_
  refine WP.forR (ds := rng 1 1 5) (fun i => [("trees", .val (.ref pt)), ("none", noneE.dat), ("order", ordD (3 * turned)), ("rules", .list (rules.map ruleD)), ("turned", .int turned), ("most", .int 5)]) M ?_ (.cons rfl (.cons rfl (.cons rfl (.cons rfl (.cons rfl (.cons rfl .nil)))))) rfl (fun i d hd => ?_) ?_
  · rw [show rng 1 1 5 = rng 1 1 ((5 + 1 : Int) - 1).toNat from rfl]
    exact EvIt.range2 (X.bglob (by exact rfl) rfl) (.cons Ev.int (.cons (Ev.bin (Ev.name rfl) Ev.int BinSem.add) .nil)) hh (by decide)
  · have hi : i < 5 := by
      have := (List.getElem?_eq_some_iff.mp hd).1
      simpa [rng] using this
    have hd' : d = .int ((i : Int) + 1) := by
      rw [rng_get hi] at hd; cases hd; congr 1; (first | lia -abstractProof | omega)
    subst hd'
    refine ⟨_, .name, WP.cons ?_⟩
    let T := tabOf (E i).1 (E i).2
    let E0 := fun (j : Nat) => if 1 ≤ j then (E (i + 1)).1 else (E i).1
    let E1 := fun (j : Nat) => if 2 ≤ j then (E (i + 1)).2 else (E i).2
    refine WP.forR (ds := [.int 0, .int 1]) (fun j => [("trees", .val (.ref pt)), ("none", noneE.dat), ("order", ordD (3 * turned)), ("rules", .list (rules.map ruleD)), ("turned", .int turned), ("most", .int 5), ("size", .int ((i : Int) + 1))])
      (fun j => ([(pt, .list [.val (.ref p0), .val (.ref p1)]), (p1, .list ((E1 j).map Ent.dat)), (p0, .list ((E0 j).map Ent.dat))] : Mu)) ?_ (.cons rfl (.cons rfl (.cons rfl (.cons rfl (.cons rfl (.cons rfl (.cons rfl .nil))))))) rfl (fun j d hd => ?_) ?_
    · exact EvIt.tuple (Ev.tuple (.cons Ev.int (.cons Ev.int .nil))) hh
    · have hj : j < 2 := by simpa using (List.getElem?_eq_some_iff.mp hd).1
      have hd' : d = .int (j : Int) := by
        match j, hj, hd with
        | 0, _, hd => cases hd; rfl
        | 1, _, hd => cases hd; rfl
      subst hd'
      refine ⟨_, .name, WP.ofNodup fun hnd => ?_⟩
      refine WP.cons (WP.assign (d := noneE.dat) (Ev.name rfl) ?_)
      try dsimp only
      let ent := fun (m : Nat) => (rules.take m).foldl (ruleStep T (3 * turned) ((i : Int) + 1) (j : Int)) noneE
      refine WP.cons ?_
      refine WP.forR (ds := rules.map ruleD) (fun m => [("entry", (ent m).dat), ("head", .int (j : Int)), ("trees", .val (.ref pt)), ("none", noneE.dat), ("order", ordD (3 * turned)), ("rules", .list (rules.map ruleD)), ("turned", .int turned), ("most", .int 5), ("size", .int ((i : Int) + 1))]) (fun _ => _) ?_ (.cons rfl (.cons rfl (.cons rfl (.cons rfl (.cons rfl (.cons rfl (.cons rfl (.cons rfl (.cons rfl .nil))))))))) rfl (fun m d hd => ?_) ?_
      · refine EvIt.list (Ev.name rfl) hh ?_
        intro _ d hd
        obtain ⟨r, _, rfl⟩ := List.mem_map.mp hd
        exact ⟨_, rfl⟩
      · obtain ⟨r, hr, rfl⟩ := by rw [List.getElem?_map] at hd; exact Option.map_eq_some_iff.mp hd
        have hrm : r ∈ rules := List.mem_of_getElem? hr
        obtain ⟨hr3, hr01, hrl, hrN⟩ := B.rule r hrm
        have hent : ent (m + 1) = ruleStep T (3 * turned) ((i : Int) + 1) (j : Int) (ent m) r := foldl_take _ _ _ _ _ hr
        refine ⟨_, .tup (.cons (.cons (.cons .nil))), WP.cons (WP.ifs (b := (r.1 == (j : Int)) && decide (r.2.1 ≤ (i : Int) + 1)) ?_ (fun hb => ?_) fun hb => ?_)⟩
        · exact EvT.and2 (EvT.cmp (Ev.name rfl) (Ev.name rfl) CmpSem.eq) fun _ => EvT.cmp (Ev.name rfl) (Ev.name rfl) CmpSem.le
        · rw [Bool.and_eq_true, beq_iff_eq, decide_eq_true_eq] at hb
          have hstep : ent (m + 1) = addEnt ((i : Int) + 1) (ent m) (tableOf (ways T (3 * turned) (3 * turned) r.2.2 ((i : Int) + 1 - r.2.1))) := by rw [hent, ruleStep, if_pos hb]
          let W := ways T (3 * turned) (3 * turned) r.2.2 ((i : Int) + 1 - r.2.1)
          have hT : ∀ k s, (T k s).length ≤ 3 ∧ ∀ p ∈ T k s, Builtin.Int.intBits p.2 ≤ 64 := B.tab i hi
          have hWlen : W.length ≤ 5832 := Nat.le_trans (ways_len _ _ (fun k s => (hT k s).1) r.2.2 _ (by (first | lia -abstractProof | omega))) (Nat.pow_le_pow_right (n := 18) (by decide) hr3)
          have htl : ∀ n, ((W.take n).foldl tableStep []).length ≤ 5832 := fun n => by
            have := tableOf_length (W.take n)
            have h2 : (W.take n).length ≤ W.length := by rw [List.length_take]; exact Nat.min_le_right _ _
            unfold tableOf at this; (first | lia -abstractProof | omega)
          have hτ : Builtin.Int.intBits (3 * turned) ≤ 64 := by rcases ht with rfl | rfl <;> decide
          refine WP.cons (WP.assign (d := .dict []) Ev.dict0 ?_)
          try dsimp only
          refine WP.cons ?_
          refine WP.forR (ds := W.map fun p => .tup [.int p.1, .int p.2]) (fun n => [("table", .dict ((W.take n).foldl tableStep [])), ("entry", (ent m).dat), ("head", .int (j : Int)), ("trees", .val (.ref pt)), ("none", noneE.dat), ("order", ordD (3 * turned)), ("rules", .list (rules.map ruleD)), ("turned", .int turned), ("most", .int 5), ("size", .int ((i : Int) + 1))]) (fun _ => _) ?_ (.cons rfl (.cons rfl (.cons rfl (.cons rfl (.cons rfl (.cons rfl (.cons rfl (.cons rfl (.cons rfl (.cons rfl .nil)))))))))) rfl (fun n d hd => ?_) ?_
          · refine EvIt.items (Ev.items (Ev.callName (X.glob (by exact rfl) fun _ => .val _) (KeepG.K X.K (by exact rfl)) (.cons (Ev.name rfl) (.cons (Ev.bin (Ev.name rfl) (Ev.name rfl) BinSem.sub) (.cons (Ev.name rfl) (.cons (Ev.name rfl) (.cons (Ev.bin Ev.int (Ev.name rfl) (BinSem.mul (.of_left h3))) .nil))))) ?_)) hh
            refine law_ways_spec (A := A.deeper _) X (N := (i : Int) + 1) hT (by (first | lia -abstractProof | omega)) hτ r.2.2 ((i : Int) + 1 - r.2.1) hh (by show A.depth + 1 + _ + 5 < _; (first | lia -abstractProof | omega)) (by show A.units + 3 + _ + 100 < _; (first | lia -abstractProof | omega)) ?_ hr3 hr01 (by (first | lia -abstractProof | omega)) (by (first | lia -abstractProof | omega)) (fun hne => by have := hrN hne; (first | lia -abstractProof | omega))
            have hlen := build_len rules (3 * turned) i
            refine ⟨p0, p1, _, _, .inl (.head _), .inl (.tail _ (.tail _ (.head _))), .inl (.tail _ (.head _)), ?_, fun s h0 hs => ?_, fun s h0 hs => ?_⟩
            · simp only [List.map_cons, List.map_nil, List.nodup_cons, List.mem_cons, List.not_mem_nil, or_false, not_or] at hnd ⊢
              obtain ⟨⟨q1, q2⟩, q3, q4⟩ := hnd
              exact ⟨⟨q2, q1⟩, Ne.symm q3, q4⟩
            · refine entryAt (E i).1 (E0 j) ?_ h0 (by show s.toNat < (build rules (3 * turned) i).1.length; (first | lia -abstractProof | omega))
              by_cases q : 1 ≤ j
              · exact .inr ⟨_, if_pos q⟩
              · exact .inl (if_neg q)
            · refine entryAt (E i).2 (E1 j) ?_ h0 (by show s.toNat < (build rules (3 * turned) i).2.length; (first | lia -abstractProof | omega))
              by_cases q : 2 ≤ j
              · exact .inr ⟨_, if_pos q⟩
              · exact .inl (if_neg q)
          · obtain ⟨st, hst, rfl⟩ := by rw [List.getElem?_map] at hd; exact Option.map_eq_some_iff.mp hd
            refine ⟨_, .tup (.cons (.cons .nil)), WP.cons (WP.assign (d := .dict ((W.take (n + 1)).foldl tableStep [])) ?_ (WP.nil ⟨.cons rfl (.cons rfl (.cons rfl (.cons rfl (.cons rfl (.cons rfl (.cons rfl (.cons rfl (.cons rfl (.cons rfl .nil))))))))), rfl⟩))⟩
            have e3 : (W.take (n + 1)).foldl tableStep [] = addAll ((W.take n).foldl tableStep []) [(dimKey st.1, st.2)] := foldl_take _ _ _ _ _ hst
            rw [e3]
            obtain ⟨pr, loose, mg, mb, TR⟩ := X.T
            refine Ev.callName (X.glob (by exact rfl) fun _ => .val _) (KeepG.K X.K (by exact rfl)) (.cons (Ev.name rfl) (.cons (Ev.dict1 ?_ (Ev.name rfl)) .nil)) (add_callers_spec (A := A.deeper _) X.K TR hh (by show A.depth + 1 < recursionLimit; (first | lia -abstractProof | omega)) _ _ (by have := htl n; simp only [List.length_cons, List.length_nil]; (first | lia -abstractProof | omega)))
            exact Ev.callName (X.bglob (by exact rfl) rfl) (.plain (by intro _ e; cases e)) (.cons Ev.int (.cons (Ev.bin (Ev.bin (Ev.bin (Ev.name rfl) Ev.int (BinSem.fdiv (by decide) (by decide))) Ev.int BinSem.sub) (Ev.bin (Ev.name rfl) Ev.int (BinSem.fmod (by decide))) BinSem.add) .nil)) (CallSem.max2 hh)
          · rw [List.length_map, List.take_length]
            let tb := tableOf W
            refine WP.cons ?_
            refine WP.assignComp (ds := [.int 1, .int 2, .int 3]) _ (fun _ => true) (fun d => match d with | .int top => .int (lowOf tb top) | d => d) ?_ (by show 3 ≤ 16777216; decide) (fun C d hd => ?_) ?_
            · exact EvIt.tuple (Ev.tuple (.cons Ev.int (.cons Ev.int (.cons Ev.int .nil)))) hh
            · have htop : ∃ top : Int, d = .int top ∧ 0 ≤ top ∧ top ≤ 3 := by
                simp only [List.mem_cons, List.not_mem_nil, or_false] at hd
                rcases hd with rfl | rfl | rfl <;> exact ⟨_, rfl, by decide, by decide⟩
              obtain ⟨top, rfl, ht0, ht3⟩ := htop
              refine ⟨_, .name, .nil, fun _ => ?_, Sub.push rfl⟩
              refine Ev.callName (X.bglob (by exact rfl) rfl) (.plain (by intro _ e; cases e)) (.cons (d := .list (intL ((rngI 0 top).map fun n => (ival tb n).getD 0))) ?_ .nil) (CallSem.sum _ hh)
              rw [← lowEq]
              refine Ev.comp _ (fun _ => true) _ (EvIt.range1 (X.bglob (by exact rfl) rfl) (.cons (Ev.name rfl) .nil) hh (by (first | lia -abstractProof | omega))) (by simp only [rng, List.length_map, List.length_range]; (first | lia -abstractProof | omega)) (fun C' d hd => ?_)
              obtain ⟨n, _, rfl⟩ := List.mem_map.mp hd
              refine ⟨_, .name, .nil, fun _ => ?_, Sub.push rfl⟩
              exact Ev.get2 (Ev.name rfl) (.cons (Ev.name rfl) (.cons Ev.int .nil))
            · try dsimp only
              refine WP.cons (WP.assign (d := .int (cnt tb)) (Ev.callName (X.glob (by exact rfl) fun _ => .val _) (KeepG.K X.K (by exact rfl)) (.cons (Ev.name rfl) .nil) (count_calls_spec (A := A.deeper _) X.K hh (by show A.depth + 1 < recursionLimit; (first | lia -abstractProof | omega)) tb)) ?_)
              try dsimp only
              have hBm := B.ent i hi (j : Int) m
              have hB1 := B.ent i hi (j : Int) (m + 1)
              have hsz64 : Builtin.Int.intBits ((i : Int) + 1) ≤ 64 := PySem.intBits_le_64 (by (first | lia -abstractProof | omega)) (by (first | lia -abstractProof | omega))
              have htb : tb.length ≤ 5832 := Nat.le_trans (tableOf_length W) hWlen
              refine WP.cons (WP.assign (d := (ent (m + 1)).dat) ?_ ?_)
              · rw [hstep]
                refine Ev.callName (X.glob (by exact rfl) fun _ => .val _) (KeepG.K X.K (by exact rfl)) (.cons (Ev.name rfl) (.cons (Ev.tuple (.cons (Ev.sub (Ev.name rfl) Ev.int (SubSem.list (d := .int (lowOf tb 1)) (by decide) rfl (by decide))) (.cons (Ev.name rfl) (.cons (Ev.sub (Ev.name rfl) Ev.int (SubSem.list (d := .int (lowOf tb 2)) (by decide) rfl (by decide))) (.cons (Ev.bin (Ev.name rfl) (Ev.sub (Ev.name rfl) Ev.int (SubSem.list (d := .int (lowOf tb 3)) (by decide) rfl (by decide))) (BinSem.mul (.of_left hsz64))) (.cons (Ev.name rfl) .nil)))))) .nil)) ?_
                exact add_func_stats_spec (A := A.deeper _) X hh (by show A.depth + 1 + 1 < recursionLimit; (first | lia -abstractProof | omega)) _ _ _ _ _ _ _ _ _ _ (by have h1 : (ent m).t.length ≤ 3 := hBm.2; have h2 : (List.foldl tableStep [] W).length ≤ 5832 := htb; (first | lia -abstractProof | omega))
              · try dsimp only
                refine WP.cons (WP.ifs (b := !([cnt tb == cnt tb, (ent (m + 1)).d == ((i : Int) + 1) * (ent (m + 1)).b, true].all id)) ?_ (fun hb => ?_) fun _ => ?_)
                · refine EvT.cmp (Ev.list (.cons ?_ (.cons ?_ (.cons ?_ .nil)))) (Ev.list (.cons ?_ (.cons ?_ (.cons ?_ .nil)))) (CmpSem.neLists (.cons (.int _ _) (.cons (.int _ _) (.cons .dict0 .nil))) (by show A.units + 3 + 1 < cLine; (first | lia -abstractProof | omega)))
                  · exact Ev.callName (X.glob (by exact rfl) fun _ => .val _) (KeepG.K X.K (by exact rfl)) (.cons (Ev.name rfl) .nil) (count_calls_spec (A := A.deeper _) X.K hh (by show A.depth + 1 < recursionLimit; (first | lia -abstractProof | omega)) tb)
                  · exact Ev.sub (Ev.name rfl) Ev.int (SubSem.tup (by decide) rfl (by decide))
                  · exact Ev.sub (Ev.name rfl) Ev.int (SubSem.tup (by decide) rfl (by decide))
                  · exact Ev.name rfl
                  · exact Ev.bin (Ev.name rfl) (Ev.sub (Ev.name rfl) Ev.int (SubSem.tup (d := .int (ent (m + 1)).b) (by decide) rfl (by decide))) (BinSem.mul (.of_left hsz64))
                  · exact Ev.dict0
                · exfalso
                  have hz : (ent (m + 1)).d = ((i : Int) + 1) * (ent (m + 1)).b := hB1.1
                  rw [hz] at hb
                  simp at hb
                · exact WP.nil (WP.nil (WP.nil ⟨.cons rfl (.cons rfl (.cons rfl (.cons rfl (.cons rfl (.cons rfl (.cons rfl (.cons rfl (.cons rfl .nil)))))))), rfl⟩))
        · have hstep : ent (m + 1) = ent m := by
            rw [hent, ruleStep, if_neg]
            rintro ⟨h1, h2⟩
            rw [h1, beq_self_eq_true, decide_eq_true h2] at hb; cases hb
          refine WP.nil (WP.nil ⟨.cons (Eq.trans rfl ?_) (.cons rfl (.cons rfl (.cons rfl (.cons rfl (.cons rfl (.cons rfl (.cons rfl (.cons rfl .nil)))))))), rfl⟩)
          show some (ent m).dat = some (ent (m + 1)).dat
          rw [hstep]
      · rw [List.length_map]
        have hfin : ent rules.length = mkEnt rules T (3 * turned) ((i : Int) + 1) (j : Int) := by
          show (rules.take rules.length).foldl _ _ = _
          rw [List.take_length]; rfl
        rw [hfin]
        match j, hj with
        | 0, _ =>
          refine WP.cons (WP.append (μ₁ := [(pt, .list [.val (.ref p0), .val (.ref p1)]), (p1, .list ((E1 0).map Ent.dat))]) (p := p0) (Ev.sub (Ev.name rfl) (Ev.name rfl) (SubSem.own (d := .val (.ref p0)) (.inl (.head _)) (by decide) rfl (by decide))) (Ev.name rfl) ?_ (WP.nil ⟨.cons rfl (.cons rfl (.cons rfl (.cons rfl (.cons rfl (.cons rfl (.cons rfl .nil)))))), ?_⟩))
          · show ((build rules (3 * turned) i).1.map Ent.dat).length ≤ 16777216
            rw [List.length_map, (build_len rules (3 * turned) i).1]; (first | lia -abstractProof | omega)
          · show [(pt, MD.list [.val (.ref p0), .val (.ref p1)]), (p1, .list ((E i).2.map Ent.dat)), (p0, .list ((E i).1.map Ent.dat ++ [(mkEnt rules T (3 * turned) ((i : Int) + 1) 0).dat]))] = [(pt, .list [.val (.ref p0), .val (.ref p1)]), (p1, .list ((E i).2.map Ent.dat)), (p0, .list (((E i).1 ++ [mkEnt rules T (3 * turned) ((i : Int) + 1) 0]).map Ent.dat))]
            rw [List.map_append]; rfl
        | 1, _ =>
          refine WP.cons (WP.append (μ₁ := [(pt, .list [.val (.ref p0), .val (.ref p1)])]) (μ₂ := [(p0, .list ((E0 1).map Ent.dat))]) (p := p1) (Ev.sub (Ev.name rfl) (Ev.name rfl) (SubSem.own (d := .val (.ref p1)) (.inl (.head _)) (by decide) rfl (by decide))) (Ev.name rfl) ?_ (WP.nil ⟨.cons rfl (.cons rfl (.cons rfl (.cons rfl (.cons rfl (.cons rfl (.cons rfl .nil)))))), ?_⟩))
          · show ((build rules (3 * turned) i).2.map Ent.dat).length ≤ 16777216
            rw [List.length_map, (build_len rules (3 * turned) i).2]; (first | lia -abstractProof | omega)
          · show [(pt, MD.list [.val (.ref p0), .val (.ref p1)]), (p1, .list ((E i).2.map Ent.dat ++ [(mkEnt rules T (3 * turned) ((i : Int) + 1) 1).dat])), (p0, .list ((E (i + 1)).1.map Ent.dat))] = [(pt, .list [.val (.ref p0), .val (.ref p1)]), (p1, .list (((E i).2 ++ [mkEnt rules T (3 * turned) ((i : Int) + 1) 1]).map Ent.dat)), (p0, .list ((E (i + 1)).1.map Ent.dat))]
            rw [List.map_append]; rfl
    · exact WP.nil ⟨.cons rfl (.cons rfl (.cons rfl (.cons rfl (.cons rfl (.cons rfl .nil))))), rfl⟩
  · refine WP.cons (WP.freezeTrees (x := "trees") rfl (WP.ret (Ev.name rfl) ?_))
    rfl
end
end Mine
end
section
open PySem PySem.W PySem.Calls PyProof.Rows
set_option Elab.async false
set_option linter.unusedVariables false
namespace Mine

/-! what _law_rules computes -/
noncomputable def ruleOf (heads cur : List Int) : Rule := (((heads.idxOf (cur.headD 0) : Nat) : Int), (((cur.drop 1).filter fun x => decide (x < 256)).length : Int), ((cur.drop 1).filter fun x => decide (256 ≤ x)).map fun x => ((heads.idxOf x : Nat) : Int))
noncomputable def parseStep (heads : List Int) (st : List Rule × List Int) (sym : Int) : List Rule × List Int := if sym = 0 then (st.1 ++ [ruleOf heads st.2], []) else (st.1, st.2 ++ [sym])
noncomputable def parsed (heads row : List Int) : List Rule × List Int := row.foldl (parseStep heads) ([], [])
structure RowOk (heads row : List Int) : Prop where
  ok : ∀ i, row[i]? = some 0 → (parsed heads (row.take i)).2 ≠ [] ∧ (parsed heads (row.take i)).2.headD 0 ∈ heads ∧ ∀ x ∈ (parsed heads (row.take i)).2.drop 1, 256 ≤ x → x ∈ heads
  len : row.length ≤ 1000
  lay : PyData.layable0 (.list (heads.map .int)) = true
theorem parsed_len (heads : List Int) : ∀ (row : List Int) (st : List Rule × List Int), (row.foldl (parseStep heads) st).1.length + (row.foldl (parseStep heads) st).2.length ≤ st.1.length + st.2.length + row.length
  | [], st => by simp
  | x :: row, st => by
    have := parsed_len heads row (parseStep heads st x)
    have h2 : (parseStep heads st x).1.length + (parseStep heads st x).2.length ≤ st.1.length + st.2.length + 1 := by unfold parseStep; split <;> simp <;> (first | lia -abstractProof | omega)
    simp only [List.foldl_cons, List.length_cons]; (first | lia -abstractProof | omega)
theorem intL_filter (c : List Int) (p : Int → Bool) (F : Int → Int) (P : Dat → Bool) (G : Dat → Dat) (hP : ∀ x, P (.int x) = p x) (hG : ∀ x, G (.int x) = .int (F x)) : ((intL c).filter P).map G = intL ((c.filter p).map F) := by
  induction c with
  | nil => rfl
  | cons x c ih =>
    show (List.filter P (Dat.int x :: intL c)).map G = _
    rw [List.filter_cons, List.filter_cons, hP]
    cases p x
    · exact ih
    · simp only [if_true, List.map_cons, hG, intL]; rw [ih]
section
variable {prog : Program} {w : World} {G : GX} {l : List Env} {A : Around} {env env' : Env} {ρ ρ' ρc : Rho} {μ μ' μc : Mu} {H H' H₀ : PH} {h h' h₀ : Heap} {target : PySem.Expr}
theorem Ev.cutOwn {e : PySem.Expr} {n : Nat} {p q pos : Pos} {a : Addr} {cs : List Int} (h : Ev prog w G l A env ρ μ e (.val (.ref a))) (hm : (a, MD.list (intL cs)) ∈ μ ∨ (a, MD.ro (.list (intL cs))) ∈ μ) (hl : cs.length ≤ 16777216) :
    Ev prog w G l A env ρ μ (.Subscript e (.Slice (some (.Constant (.int 1) n p)) none none q) pos) (.list (intL (cs.drop 1))) := by
  have z := Ev.sub (pos := pos) h (Ev.slice (pos := q) (.some (Ev.int (i := 1) (k := n) (pos := p))) .none .none) (SubSem.sliceOwn hm (by decide) (by simpa using hl))
  rw [pick_drop, show (intL cs).drop 1 = intL (cs.drop 1) from List.map_drop.symm] at z
  exact z
theorem law_rules_spec {P : Params} (X : GT P G) (hh : A.handled = none) (hroom : A.depth + 5 < recursionLimit) (row heads : List Int) (B : RowOk heads row) :
    CallSem prog w G l A env ρ μ (.ref 131) [.list (intL row), .list (intL heads)] (.list ((parsed heads row).1.map ruleD)) := by
  refine CallSem.fnC (ps := ["row", "heads"]) X.K (by exact rfl) rfl (by exact rfl) (by exact rfl) (BindK.two fun _ _ => rfl) (by omega) rfl fun L => ?_
  refine WP.cons (WP.assignSw (ns := ["rules", "rule"]) (EvO.tuple (.cons (fun d μ' => ∃ p, d = .val (.ref p) ∧ μ' = [(p, .list [])]) (EvO.list (.nil ⟨by decide, fun p => ⟨p, rfl, rfl⟩⟩)) fun d μ' ⟨ps, e1, e2⟩ => ?_)))
  subst e1; subst e2
  refine .cons (fun d μ' => ∃ p, d = .val (.ref p) ∧ μ' = [(p, .list []), (ps, .list [])]) (EvO.list (.nil ⟨by decide, fun p => ⟨p, rfl, rfl⟩⟩)) fun d μ' hx9 => ?_
  obtain ⟨pr, e1, e2⟩ := hx9
  subst e1; subst e2
  refine .nil ⟨by show 2 ≤ 16777216; decide, _, rfl, rfl, ?_⟩
  try dsimp only
  let st := fun (i : Nat) => parsed heads (row.take i)
  refine WP.cons ?_
  refine WP.for (ds := intL row) (ρ₀ := [("rule", .val (.ref pr)), ("rules", .val (.ref ps)), ("heads", .list (intL heads))]) (fun i ρ' μ' => ∃ (pr : Addr) (g : Mu), @Eq Rho ρ' [("rule", .val (.ref pr)), ("rules", .val (.ref ps)), ("heads", .list (intL heads))] ∧ @Eq Mu μ' ((pr, .list (intL (st i).2)) :: (g ++ [(ps, .list ((st i).1.map ruleD))]))) ?_ (.cons rfl (.cons rfl (.cons rfl .nil))) ⟨pr, [], rfl, rfl⟩ (fun i d ρ' μ' hd hJ => ?_) (fun ρ' μ' hJ => ?_)
  · exact EvIt.list (Ev.name rfl) hh
  · obtain ⟨pr, g, rfl, rfl⟩ := hJ
    obtain ⟨sym, hsym, rfl⟩ := by rw [List.getElem?_map] at hd; exact Option.map_eq_some_iff.mp hd
    have hst : st (i + 1) = parseStep heads (st i) sym := foldl_take _ _ _ _ _ hsym
    have hlen : (st i).1.length + (st i).2.length ≤ 1000 := by
      have h1 := parsed_len heads (row.take i) ([], [])
      have h2 : (row.take i).length ≤ row.length := by rw [List.length_take]; exact Nat.min_le_right _ _
      have h3 := B.len
      show ((row.take i).foldl (parseStep heads) ([], [])).1.length + ((row.take i).foldl (parseStep heads) ([], [])).2.length ≤ 1000
      simp only [List.length_nil] at h1
      omega
    refine ⟨_, .name, WP.cons (WP.ifs (b := sym == 0) (EvT.of (Ev.callName (X.glob (by exact rfl) fun _ => .val _) (KeepG.K X.K (by exact rfl)) (.cons (Ev.name rfl) .nil) (ISEOF_spec (A := A.deeper _) X (by show A.depth + 1 < recursionLimit; omega) sym)) .bool) (fun hb => ?_) fun hb => ?_)⟩
    · have hs0 : sym = 0 := eq_of_beq hb
      subst hs0
      obtain ⟨hne, hhead, hkids⟩ := B.ok i hsym
      refine WP.cons ?_
      refine WP.assignComp (ds := intL ((st i).2.drop 1)) _ (fun d => match d with | .int x => decide (256 ≤ x) | _ => false) (fun d => match d with | .int x => .int ((heads.idxOf x : Nat) : Int) | d => d) ?_ ?_ (fun C d hd => ?_) ?_
      · exact EvIt.list (Ev.cutOwn (Ev.name rfl) (.inl (.head _)) (by omega)) hh
      · simp only [List.length_map, List.length_drop]; omega
      · obtain ⟨x, hx, rfl⟩ := List.mem_map.mp hd
        refine ⟨_, .name, .one (EvT.of (Ev.callName (X.glob (by exact rfl) fun _ => .val _) (KeepG.K X.K (by exact rfl)) (.cons (Ev.name rfl) .nil) (ISNONTERMINAL_spec (A := A.deeper _) X (by show A.depth + 1 < recursionLimit; omega) x)) .bool), fun hp => ?_, Sub.push rfl⟩
        exact Ev.index (Ev.name rfl) (Ev.name rfl) (hkids x hx (of_decide_eq_true hp)) B.lay
      · rw [intL_filter ((st i).2.drop 1) (fun x => decide (256 ≤ x)) (fun x => ((heads.idxOf x : Nat) : Int)) _ _ (fun _ => rfl) (fun _ => rfl)]
        try dsimp only
        have h0 : (intL (st i).2)[(0 : Int).toNat]? = some (.int ((st i).2.headD 0)) := by
          cases hc : (st i).2 with
          | nil => exact absurd hc hne
          | cons x c => rfl
        refine WP.cons ?_
        refine WP.append (μ₁ := (pr, .list (intL (st i).2)) :: g) (μ₂ := []) (p := ps) (d := ruleD (ruleOf heads (st i).2)) (Ev.name rfl) ?_ (by rw [List.length_map]; omega) ?_
        · refine Ev.tuple (.cons (Ev.index (Ev.name rfl) (Ev.sub (Ev.name rfl) Ev.int (SubSem.own (.inl (.head _)) (by decide) h0 (by decide))) hhead B.lay) (.cons ?_ (.cons (Ev.name rfl) .nil)))
          refine Ev.callName (X.bglob (by exact rfl) rfl) (.plain (by intro _ e; cases e)) (.cons (d := .list (intL (((st i).2.drop 1).filter fun x => decide (x < 256)))) ?_ .nil) (CallSem.lenI _ ?_)
          · have e := intL_filter ((st i).2.drop 1) (fun x => decide (x < 256)) (fun x => x) (fun d => match d with | .int x => decide (x < 256) | _ => false) (fun d => d) (fun _ => rfl) (fun _ => rfl)
            rw [show (((st i).2.drop 1).filter fun x => decide (x < 256)).map (fun x => x) = ((st i).2.drop 1).filter fun x => decide (x < 256) from List.map_id' _] at e
            rw [← e]
            refine Ev.comp (ds := intL ((st i).2.drop 1)) _ _ (fun d => d) ?_ ?_ (fun C d hd => ?_)
            · exact EvIt.list (Ev.cutOwn (Ev.name rfl) (.inl (.head _)) (by omega)) hh
            · simp only [List.length_map, List.length_drop]; omega
            · obtain ⟨x, hx, rfl⟩ := List.mem_map.mp hd
              refine ⟨_, .name, .one (EvT.of (Ev.callName (X.glob (by exact rfl) fun _ => .val _) (KeepG.K X.K (by exact rfl)) (.cons (Ev.name rfl) .nil) (ISTERMINAL_spec (A := A.deeper _) X (by show A.depth + 1 < recursionLimit; omega) x)) .bool), fun hp => ?_, Sub.push rfl⟩
              exact Ev.name rfl
          · exact Nat.le_trans (List.length_filter_le _ _) (by rw [List.length_drop]; omega)
        · try dsimp only
          refine WP.cons (WP.assignO (EvO.list (.nil ⟨by decide, fun p => ?_⟩)))
          try dsimp only
          refine WP.nil (WP.nil ⟨_, .cons rfl (.cons rfl (.cons rfl .nil)), p, (pr, .list (intL (st i).2)) :: g, rfl, ?_⟩)
          have e1 : (st (i + 1)).1 = (st i).1 ++ [ruleOf heads (st i).2] := by rw [hst]; rfl
          have e2 : (st (i + 1)).2 = [] := by rw [hst]; rfl
          rw [e1, e2, List.map_append]
          rfl
    · have hs0 : sym ≠ 0 := beq_eq_false_iff_ne.mp hb
      refine WP.cons ?_
      refine WP.append (μ₁ := []) (p := pr) (d := .int sym) (Ev.name rfl) (Ev.name rfl) (by rw [List.length_map]; omega) ?_
      try dsimp only
      refine WP.nil (WP.nil ⟨_, .cons rfl (.cons rfl (.cons rfl .nil)), pr, g, rfl, ?_⟩)
      have e1 : st (i + 1) = ((st i).1, (st i).2 ++ [sym]) := by rw [hst]; unfold parseStep; rw [if_neg hs0]
      rw [e1]
      show [] ++ (pr, MD.list (intL (st i).2 ++ [.int sym])) :: (g ++ [(ps, .list ((st i).1.map ruleD))]) = (pr, MD.list (intL ((st i).2 ++ [sym]))) :: (g ++ [(ps, .list ((st i).1.map ruleD))])
      rw [show intL ((st i).2 ++ [sym]) = intL (st i).2 ++ [.int sym] from List.map_append]
      rfl
  · obtain ⟨pr, g, rfl, rfl⟩ := hJ
    refine WP.cons ?_
    refine WP.freezeName (μ₁ := (pr, .list (intL (st (intL row).length).2)) :: g) (μ₂ := []) (x := "rules") rfl (WP.ret (Ev.name rfl) ?_)
    show AF.ret (Dat.list ((st (intL row).length).1.map ruleD)) = _
    have e : st (intL row).length = parsed heads row := by show parsed heads (row.take (intL row).length) = _; rw [show (intL row).length = row.length by simp, List.take_length]
    rw [e]
end
end Mine
end
section
open PySem PySem.W PySem.Calls PyProof.Rows
set_option Elab.async false
set_option linter.unusedVariables false
namespace Mine
section
variable {prog : Program} {w : World} {G : GX} {l : List Env} {A : Around} {env env' : Env} {ρ ρ' ρc : Rho} {μ μ' μc : Mu} {H H' H₀ : PH} {h h' h₀ : Heap} {target : PySem.Expr}

theorem Ev.bitLength {o : PySem.Expr} {apos pos : Pos} {a : Int} (ho : Ev prog w G l A env ρ μ o (.int a))
    (hbase : attributeBase o "bit_length" env (eval o env) = eval o env := by rfl) (hline : (apos.endLine == pos.line) = true := by rfl) : Ev prog w G l A env ρ μ (.Call (.Attribute o "bit_length" apos) [] [] pos) (.int (Builtin.Int.intBits a)) :=
  .meth (ds := []) (T := "int") ho PySem.F.plainAttrs_int PySem.F.slot_int_bit_length PySem.F.type_int_bit_length (fun H v s S r => by obtain ⟨t, rfl⟩ := r.isInt; exact ⟨typeIs_int s a t, fun b e => by cases e⟩) .nil (fun H v vs r rs => by
    cases rs
    obtain ⟨t, rfl⟩ := r.isInt
    exact Tr.mkInt fun s Q E hQ => call_int_bit_length hQ) hbase hline
theorem CallSem.divmod {a b : Int} (hb : b ≠ 0) (hl : b.natAbs.log2 < 9000) : CallSem prog w G l A env ρ μ (.builtin "divmod") [.int a, .int b] (.tup [.int (a.fdiv b), .int (a.fmod b)]) := fun H vs r => by
  obtain ⟨v₁, v₂, rfl, r1, r2⟩ := r.two
  obtain ⟨t, rfl⟩ := r1.isInt
  obtain ⟨u, rfl⟩ := r2.isInt
  refine ⟨fun s Q E S hQ => ?_⟩
  refine divmod_int hb ?_ (.inl (PyProof.noPylong_of_log2 hl))
  have st := S.allocStep (o := tupO [.int (a.fdiv b) s.toks, .int (a.fmod b) (s.toks + 1)] 0) rfl
  exact hQ _ _ _ _ st (.tupNew (S.freshH (Nat.le_refl _)) (.cons (.int _ _) (.cons (.int _ _) .nil)))
theorem div2n1n_spec {P : Params} (X : GT P G) (hroom : A.depth < recursionLimit) (a b n : Int) (hn : (Builtin.Int.intBits a : Int) - n ≤ 4000) (hb : b ≠ 0) (hl : b.natAbs.log2 < 9000) :
    CallSem prog w G l A env ρ μ (.ref 21) [.int a, .int b, .int n] (.tup [.int (a.fdiv b), .int (a.fmod b)]) := by
  refine CallSem.fn (ps := ["a", "b", "n"]) X.K (by exact rfl) rfl (by exact rfl) (by exact rfl) (BindK.three fun _ _ _ => rfl) hroom rfl fun L => ?_
  refine WP.cons (WP.ifs (b := decide ((Builtin.Int.intBits a : Int) - n ≤ 4000)) ?_ (fun _ => ?_) fun hb => absurd hn (of_decide_eq_false hb))
  · exact EvT.cmp (Ev.bin (Ev.bitLength (Ev.name rfl)) (Ev.name rfl) BinSem.sub) (X.glob (by exact rfl) fun _ => .int _ _) CmpSem.le
  · exact WP.cons (WP.ret (Ev.callName (X.bglob (by exact rfl) rfl) (.plain (by intro _ e; cases e)) (.cons (Ev.name rfl) (.cons (Ev.name rfl) .nil)) (CallSem.divmod hb hl)) rfl)
end
end Mine
end
section
open PySem PySem.W PySem.Calls PyProof.Rows
set_option Elab.async false
set_option linter.unusedVariables false
namespace Mine
theorem and_shift (x s : Nat) : x &&& (x / 2 ^ s * 2 ^ s) = x / 2 ^ s * 2 ^ s := by
  apply Nat.eq_of_testBit_eq
  intro i
  rw [Nat.testBit_and, ← Nat.shiftRight_eq_div_pow, ← Nat.shiftLeft_eq, Nat.testBit_shiftLeft, Nat.testBit_shiftRight]
  by_cases h : s ≤ i
  · simp [h, Nat.add_sub_cancel' h]
  · simp [h]
theorem xor_low (x s : Nat) : Builtin.bitXor (x : Int) (((x / 2 ^ s : Nat) : Int) * 2 ^ s) = ((x % 2 ^ s : Nat) : Int) := by
  have e : ((x / 2 ^ s : Nat) : Int) * 2 ^ s = ((x / 2 ^ s * 2 ^ s : Nat) : Int) := by simp
  rw [e, bitXor_and]
  have e2 : Builtin.bitAnd (x : Int) ((x / 2 ^ s * 2 ^ s : Nat) : Int) = ((x / 2 ^ s * 2 ^ s : Nat) : Int) := by
    have h1 : (0 : Int) ≤ (x : Int) := Int.natCast_nonneg _
    have h2 : (0 : Int) ≤ ((x / 2 ^ s * 2 ^ s : Nat) : Int) := Int.natCast_nonneg _
    unfold Builtin.bitAnd
    rw [decide_eq_true h1, decide_eq_true h2]
    show (((x : Int).toNat &&& ((x / 2 ^ s * 2 ^ s : Nat) : Int).toNat : Nat) : Int) = _
    rw [Int.toNat_natCast, Int.toNat_natCast, and_shift]
  rw [e2]
  have h := Nat.mod_add_div x (2 ^ s)
  rw [Nat.mul_comm] at h
  (first | lia | omega)
theorem fdiv_nat (a b : Nat) : (a : Int).fdiv (b : Int) = ((a / b : Nat) : Int) := by
  rw [Int.fdiv_eq_ediv_of_nonneg _ (Int.natCast_nonneg _)]; rfl
theorem fmod_nat (a b : Nat) : (a : Int).fmod (b : Int) = ((a % b : Nat) : Int) := by
  rw [Int.fmod_eq_emod_of_nonneg _ (Int.natCast_nonneg _)]; rfl
theorem shr_nat (x s : Nat) : (x : Int).fdiv (2 ^ (s : Int).toNat) = ((x / 2 ^ s : Nat) : Int) := by
  have e : (2 : Int) ^ (s : Int).toNat = ((2 ^ s : Nat) : Int) := by rw [Int.toNat_natCast]; simp
  rw [e, fdiv_nat]
theorem bits_nat (x k : Nat) (h : x < 2 ^ k) : Builtin.Int.intBits (x : Int) ≤ k := intBits_le (by simpa using h)

/-! digits -/
noncomputable def digs (m k x : Nat) : List Int := (List.range k).map fun i => ((x / 2 ^ (m * i) % 2 ^ m : Nat) : Int)
noncomputable def wd (m L R x : Nat) (ds : List Dat) : List Dat := ds.mapIdx fun i d => if L ≤ i ∧ i < R then .int ((x / 2 ^ (m * (i - L)) % 2 ^ m : Nat) : Int) else d
theorem wd_len (m L R x : Nat) (ds : List Dat) : (wd m L R x ds).length = ds.length := by simp [wd]
theorem wd_one (m L x : Nat) (ds : List Dat) (hx : x < 2 ^ m) : ds.set L (.int (x : Int)) = wd m L (L + 1) x ds := by
  apply List.ext_getElem?
  intro i
  unfold wd
  rw [List.getElem?_mapIdx, List.getElem?_set]
  by_cases h : L = i
  · subst h
    by_cases h2 : L < ds.length
    · simp [h2, Nat.mod_eq_of_lt hx]
    · simp [h2]
  · have h2 : ¬ (L ≤ i ∧ i < L + 1) := by (first | lia -abstractProof | omega)
    rw [if_neg h]
    cases ds[i]? with
    | none => rfl
    | some d => simp [h2]
theorem digit_low (x m a b : Nat) (h : b + m ≤ a) : x % 2 ^ a / 2 ^ b % 2 ^ m = x / 2 ^ b % 2 ^ m := by
  have e : a = b + (m + (a - b - m)) := by omega
  rw [e, Nat.pow_add, Nat.mod_mul_right_div_self, Nat.pow_add, Nat.mod_mul_right_mod]
theorem wd_join (m L M R x : Nat) (ds : List Dat) (h1 : L ≤ M) (h2 : M ≤ R) : wd m M R (x / 2 ^ (m * (M - L))) (wd m L M (x % 2 ^ (m * (M - L))) ds) = wd m L R x ds := by
  apply List.ext_getElem?
  intro i
  unfold wd
  simp only [List.getElem?_mapIdx]
  cases ds[i]? with
  | none => rfl
  | some d =>
    simp only [Option.map_some]
    by_cases q1 : M ≤ i ∧ i < R
    · have q2 : L ≤ i ∧ i < R := ⟨by (first | lia -abstractProof | omega), q1.2⟩
      rw [if_pos q1, if_pos q2, Nat.div_div_eq_div_mul, ← Nat.pow_add, ← Nat.mul_add]
      have e : M - L + (i - M) = i - L := by (first | lia -abstractProof | omega)
      rw [e]
    · rw [if_neg q1]
      by_cases q3 : L ≤ i ∧ i < M
      · have q2 : L ≤ i ∧ i < R := ⟨q3.1, by (first | lia -abstractProof | omega)⟩
        rw [if_pos q3, if_pos q2, digit_low]
        have e : M - L = (i - L + 1) + (M - L - (i - L + 1)) := by (first | lia -abstractProof | omega)
        rw [e, Nat.mul_add, Nat.mul_add, Nat.mul_one]
        (first | lia -abstractProof | omega)
      · have q2 : ¬ (L ≤ i ∧ i < R) := by (first | lia -abstractProof | omega)
        rw [if_neg q3, if_neg q2]
theorem wd_all (m k x : Nat) : wd m 0 k x (List.replicate k (.int 0)) = (digs m k x).map Dat.int := by
  apply List.ext_getElem?
  intro i
  unfold wd digs
  rw [List.getElem?_mapIdx, List.getElem?_replicate, List.getElem?_map, List.getElem?_map]
  by_cases h : i < k
  · simp [h]
  · simp [h]
noncomputable def dval (m : Nat) : List Int → Int
  | [] => 0
  | d :: r => d + 2 ^ m * dval m r
theorem dval_append (m : Nat) : ∀ xs ys : List Int, dval m (xs ++ ys) = dval m xs + 2 ^ (m * xs.length) * dval m ys
  | [], ys => by simp [dval]
  | x :: xs, ys => by
    have := dval_append m xs ys
    show x + 2 ^ m * dval m (xs ++ ys) = x + 2 ^ m * dval m xs + _
    rw [this, List.length_cons, Nat.mul_succ, Int.pow_add, Int.mul_add, Int.mul_comm (2 ^ (m * xs.length)) (2 ^ m), Int.mul_assoc]
    (first | lia | omega)
theorem dval_bound (m : Nat) : ∀ xs : List Int, (∀ x ∈ xs, 0 ≤ x ∧ x < 2 ^ m) → 0 ≤ dval m xs ∧ dval m xs < 2 ^ (m * xs.length)
  | [], _ => by simp [dval]
  | x :: xs, h => by
    obtain ⟨h1, h2⟩ := dval_bound m xs fun y hy => h y (.tail _ hy)
    obtain ⟨h3, h4⟩ := h x (.head _)
    have hp : (0 : Int) < 2 ^ m := Int.pow_pos (by decide)
    have e : (2 : Int) ^ (m * (x :: xs).length) = 2 ^ m * 2 ^ (m * xs.length) := by rw [List.length_cons, Nat.mul_succ, Int.pow_add, Int.mul_comm]
    rw [e]
    have q1 : 0 ≤ 2 ^ m * dval m xs := Int.mul_nonneg (Int.le_of_lt hp) h1
    have q2 : 2 ^ m * (dval m xs + 1) ≤ 2 ^ m * 2 ^ (m * xs.length) := Int.mul_le_mul_of_nonneg_left h2 (Int.le_of_lt hp)
    rw [Int.mul_add, Int.mul_one] at q2
    show 0 ≤ x + 2 ^ m * dval m xs ∧ x + 2 ^ m * dval m xs < _
    (first | lia -abstractProof | omega)
theorem mid_facts {L R M k : Nat} (h2 : L < R) (hne : L + 1 ≠ R) (hM : M = (L + R) / 2) (h1 : R - L ≤ k + 1) : L < M ∧ M < R ∧ M - L ≤ k ∧ R - M ≤ k ∧ R - M + (M - L) = R - L := by (first | lia | omega)
theorem dep_step {a k n : Nat} (h : a + (k + 1) + 5 < n) : a + 1 + k + 5 < n := by rw [Nat.add_right_comm a 1 k]; exact h
end Mine
end
section
open PySem PySem.W PySem.Calls PyProof.Rows
set_option Elab.async false
set_option linter.unusedVariables false
namespace Mine
noncomputable def defIn : List Stmt → Arguments × List Stmt × Scope
  | [] => (⟨[], [], none, [], [], none, []⟩, [], ⟨.function, [], false, false, []⟩)
  | .FunctionDef _ args body _ _ _ scope _ _ _ :: _ => (args, body, scope)
  | _ :: r => defIn r
noncomputable def innerAt (P : Params) (a : Addr) : Arguments × List Stmt × Scope := match (Mine.hd.heap_39 P).lookup a with
  | some ⟨_, _, .func fd, _⟩ => (match fd.body with
    | .stmts b => defIn b
    | _ => defIn [])
  | _ => defIn []
section
variable {prog : Program} {w : World} {G : GX} {l : List Env} {A : Around} {env env' : Env} {ρ ρ' ρc : Rho} {μ μ' μc μ₁ μ₂ : Mu} {H H' H₀ : PH} {h h' h₀ : Heap} {target : PySem.Expr}

theorem cut_some {scope : Scope} : ∀ {ρ : Rho} {x : Str} {d : Dat}, scope.names.lookup x = some .free → ρ.lookup x = some d → (cut scope ρ).lookup x = some d
  | [], x, d, _, e => by cases e
  | (y, d') :: ρ, x, d, hf, e => by
    unfold cut
    rw [List.filter_cons]
    by_cases z : x = y
    · subst z
      rw [if_pos (by rw [hf]; rfl), List.lookup_cons, beq_self_eq_true]
      rw [List.lookup_cons, beq_self_eq_true] at e
      exact e
    · rw [List.lookup_cons, beq_eq_false_iff_ne.mpr z] at e
      have ih := cut_some (ρ := ρ) hf e
      by_cases q : (scope.names.lookup y == some .free) = true
      · rw [if_pos q, List.lookup_cons, beq_eq_false_iff_ne.mpr z]; exact ih
      · rw [if_neg q]; exact ih
theorem lookup_app_cut {scope : Scope} {ρ₁ : Rho} {x : Str} {d : Dat} (h0 : ρ₁.lookup x = none) (hf : scope.names.lookup x = some .free) (e : ρ.lookup x = some d) : (ρ₁ ++ cut scope ρ).lookup x = some d := by
  rw [List.lookup_append, h0]; exact cut_some hf e

theorem WP.retN {pos : Pos} {Φ : AF → Rho → Mu → Prop} (k : Φ (.ret .none) ρ μ) : WP prog w G l A env (exec (.Return none pos) env) ρ μ Φ := fun H => by
  rw [exec_Return_none]
  exact TS.standAt (TS.pure ⟨_, .ret .none, k⟩)
abbrev innerD (qual : Str) (I : Arguments × List Stmt × Scope) (cl : List (Str × Addr)) : Dat := .fn "inner" qual I.1 I.2.1 I.2.2 cl
theorem inner2_spec {P : Params} (X : GT P G) {q : Str} {Ia : Arguments} {Ib : List Stmt} {Is : Scope} (hI : innerAt P 35 = (Ia, Ib, Is)) (m : Nat) (hm : m ≤ 100000) (p c1 c2 c3 : Addr) : ∀ (k L R x : Nat) (ds : List Dat) {l : List Env} {A : Around} {env : Env} {ρ : Rho} {μ₁ μ₂ : Mu},
    R - L ≤ k → L < R → R ≤ ds.length → x < 2 ^ (m * (R - L)) → ds.length ≤ 100 → A.depth + k + 5 < recursionLimit →
    cloB Is env [("n", c3), ("inner", c2), ("a_digits", c1)] = true → ClAll env [("n", c3), ("inner", c2), ("a_digits", c1)] →
    List.lookup (β := Dat) (PySem.Str.ofString "a_digits") ρ = some (.val (.ref p)) → List.lookup (β := Dat) (PySem.Str.ofString "inner") ρ = some (.fn "inner" q Ia Ib Is [("n", c3), ("inner", c2), ("a_digits", c1)]) → List.lookup (β := Dat) (PySem.Str.ofString "n") ρ = some (.int m) →
    ∀ H f vs, Rep prog w H f (.fn "inner" q Ia Ib Is [("n", c3), ("inner", c2), ("a_digits", c1)]) → Reps prog w H vs [.int x, .int L, .int R] →
      TS prog w G l A env H (call f vs) ρ (μ₁ ++ (p, .list ds) :: μ₂) fun _ v ρ' μ' => v = .none ∧ ρ' = ρ ∧ μ' = μ₁ ++ (p, .list (wd m L R x ds)) :: μ₂ := by
  conv at hI => lhs; whnf
  obtain ⟨rfl, rfl, rfl⟩ : _ ∧ _ ∧ _ := by
    simp only [Prod.mk.injEq] at hI
    exact hI
  intro k
  induction k with
  | zero => intro L R x ds l A env ρ μ₁ μ₂ h1 h2; (first | lia -abstractProof | omega)
  | succ k ih =>
    intro L R x ds l A env ρ μ₁ μ₂ h1 h2 h3 h4 h5 hroom hcl hc q1 q2 q3 H f vs rf r
    refine TS.clos (ps := ["x", "L", "R"]) rfl rf (.three (fun _ _ _ _ _ _ _ => rfl) (by exact rfl)) hcl hc (by (first | lia -abstractProof | omega)) r rfl fun f c' L' => ?_
    refine WP.weak (ρ' := [("R", .int R), ("L", .int L), ("x", .int x), ("a_digits", .val (.ref p)), ("inner", .fn "inner" q _ _ _ [("n", c3), ("inner", c2), ("a_digits", c1)]), ("n", .int m)]) ?_
      (show Sub _ _ from .cons rfl (.cons rfl (.cons rfl (.cons (lookup_app_cut rfl rfl q1) (.cons (lookup_app_cut rfl rfl q2) (.cons (lookup_app_cut rfl rfl q3) .nil))))))
    refine WP.cons (WP.ifs (b := ((L : Int) + 1 == (R : Int))) (EvT.cmp (Ev.bin (Ev.name rfl) Ev.int BinSem.add) (Ev.name rfl) CmpSem.eq) (fun hb => ?_) fun hb => ?_)
    · have e : R = L + 1 := by have := eq_of_beq hb; (first | lia -abstractProof | omega)
      subst e
      refine WP.cons (WP.setSub (μ₁ := []) (Ev.name rfl) (Ev.name rfl) (Ev.name rfl) (.list (by (first | lia -abstractProof | omega)) (by (first | lia -abstractProof | omega)) (by rw [Int.toNat_natCast]; (first | lia -abstractProof | omega))) ?_)
      refine WP.cons (WP.retN ?_)
      refine ⟨.inl rfl, ?_⟩
      have e1 : L + 1 - L = 1 := by (first | lia -abstractProof | omega)
      rw [e1, Nat.mul_one] at h4
      rw [Int.toNat_natCast, wd_one m L x ds h4]
      exact .head _
    · have hne : L + 1 ≠ R := by have := beq_eq_false_iff_ne.mp hb; (first | lia -abstractProof | omega)
      obtain ⟨M, hM⟩ : ∃ M, M = (L + R) / 2 := ⟨_, rfl⟩
      obtain ⟨hL, hR, hLk, hRk, hsum⟩ := mid_facts h2 hne hM h1
      have hms : m * (M - L) ≤ 10000000 := Nat.le_trans (Nat.mul_le_mul hm (show M - L ≤ 100 by (first | lia -abstractProof | omega))) (by decide)
      refine WP.nil (WP.cons (WP.assign (d := .int M) ?_ ?_))
      · have e : ((L : Int) + (R : Int)).fdiv (2 ^ (1 : Int).toNat) = (M : Int) := by
          rw [hM, ← Int.natCast_add]; exact shr_nat (L + R) 1
        rw [← e]; exact Ev.bin (Ev.bin (Ev.name rfl) (Ev.name rfl) BinSem.add) Ev.int (BinSem.shr (by decide))
      refine WP.cons (WP.assign (d := .int ((m * (M - L) : Nat) : Int)) ?_ ?_)
      · have e : ((M : Int) - (L : Int)) * (m : Int) = ((m * (M - L) : Nat) : Int) := by
          rw [Int.natCast_mul, Int.natCast_sub (Nat.le_of_lt hL), Int.mul_comm]
        rw [← e]
        exact Ev.bin (Ev.bin (Ev.name rfl) (Ev.name rfl) BinSem.sub) (Ev.name rfl) (BinSem.mul (.of_left (intBits_le (by (first | lia -abstractProof | omega)))))
      refine WP.cons (WP.assign (d := .int ((x / 2 ^ (m * (M - L)) : Nat) : Int)) ?_ ?_)
      · rw [← shr_nat]
        exact Ev.bin (Ev.name rfl) (Ev.name rfl) (BinSem.shr (by (first | lia -abstractProof | omega)))
      have hxb : Builtin.Int.intBits ((x / 2 ^ (m * (M - L)) : Nat) : Int) ≤ 10000000 := by
        refine bits_nat _ _ (Nat.lt_of_le_of_lt (Nat.div_le_self _ _) (Nat.lt_of_lt_of_le h4 (Nat.pow_le_pow_right (by decide) (Nat.le_trans (Nat.mul_le_mul hm (show R - L ≤ 100 by (first | lia -abstractProof | omega))) (show 100000 * 100 ≤ 10000000 by decide)))))
      refine WP.cons (WP.assign (d := .int ((x % 2 ^ (m * (M - L)) : Nat) : Int)) ?_ ?_)
      · rw [← xor_low, show ((x / 2 ^ (m * (M - L)) : Nat) : Int) * 2 ^ (m * (M - L)) = ((x / 2 ^ (m * (M - L)) : Nat) : Int) * 2 ^ (((m * (M - L) : Nat) : Int)).toNat by rw [Int.toNat_natCast]]
        exact Ev.bin (Ev.name rfl) (Ev.bin (Ev.name rfl) (Ev.name rfl) (BinSem.shl (by (first | lia -abstractProof | omega)) (by (first | lia -abstractProof | omega)))) BinSem.xor
      refine WP.cons (WP.callClos (Ev.name rfl) (.cons (Ev.name rfl) (.cons (Ev.name rfl) (.cons (Ev.name rfl) .nil))) (ih L M (x % 2 ^ (m * (M - L))) ds (A := A.deeper _) (env := envX q _ L' f (.ref c') _) (μ₁ := []) (μ₂ := []) hLk hL (by (first | lia -abstractProof | omega)) (Nat.mod_lt _ (Nat.two_pow_pos _)) h5 (dep_step hroom) (by exact rfl) ⟨rfl, rfl, rfl, trivial⟩ rfl rfl rfl) ?_)
      have hup : x / 2 ^ (m * (M - L)) < 2 ^ (m * (R - M)) := by
        rw [Nat.div_lt_iff_lt_mul (Nat.two_pow_pos _), ← Nat.pow_add, ← Nat.mul_add]
        have e := hsum
        rw [e]; exact h4
      refine WP.cons (WP.callClos (Ev.name rfl) (.cons (Ev.name rfl) (.cons (Ev.name rfl) (.cons (Ev.name rfl) .nil))) (ih M R (x / 2 ^ (m * (M - L))) (wd m L M (x % 2 ^ (m * (M - L))) ds) (A := A.deeper _) (env := envX q _ L' f (.ref c') _) (μ₁ := []) (μ₂ := []) hRk hR (by rw [wd_len]; exact h3) hup (by rw [wd_len]; exact h5) (dep_step hroom) (by exact rfl) ⟨rfl, rfl, rfl, trivial⟩ rfl rfl rfl) ?_)
      refine WP.nil ⟨.inr rfl, ?_⟩
      rw [wd_join m L M R x ds (Nat.le_of_lt hL) (Nat.le_of_lt hR)]
      exact .head _
end
end Mine
end
section
open PySem PySem.W PySem.Calls PyProof.Rows
set_option Elab.async false
set_option linter.unusedVariables false
namespace Mine
section
variable {prog : Program} {w : World} {G : GX} {l : List Env} {A : Around} {env env' : Env} {ρ ρ' ρc : Rho} {μ μ' μc μ₁ μ₂ : Mu} {H H' H₀ : PH} {h h' h₀ : Heap} {target : PySem.Expr}

theorem mulList_raw {s : Shared} {Q : Value → Shared → Prop} {E : Value → Shared → Prop} {a : Addr} {vs : List Value} {n : Nat} {x : Int} {u : Tok} (ho : s.heap.get? a = some (listO vs n)) (hne : vs ≠ []) (hx : x < 2 ^ 63) (hlo : -(2 ^ 63) ≤ x) (hl : vs.length * x.toNat ≤ 2 ^ 24)
    (hQ : Q (.ref s.heap.objs.size) { s with heap := s.heap.push (listO (List.replicate x.toNat vs).flatten 0) }) : wpAny (model prog w) A (binaryOp .Mult (.ref a) (.int x u)) Q E s := by
  have hvne : vs.toArray.isEmpty = false := by
    cases vs with
    | nil => exact absurd rfl hne
    | cons _ _ => rfl
  have hsz : vs.toArray.size * x.toNat ≤ 2 ^ 24 := by simpa using hl
  have q : List.foldl (fun x1 x2 => x1 ++ x2) #[] (List.replicate (if vs.toArray.isEmpty = true then 0 else x.toNat) vs.toArray) = ((List.replicate x.toNat vs).flatten).toArray := by
    rw [hvne]
    apply Array.ext'
    rw [if_neg (by decide), foldl_rep]
    simp
  refine wpAny_binaryOp_repeat_ref (T := "list") (U := "int") (by decide) ⟨_, ho, rfl⟩ (fun s' => typeIs_int s' x u) noFill_list_mul PySem.F.fills_int_mul PySem.F.slot_int_rmul repeat_list PySem.F.slot_int_index.lookup
    (call_meets PySem.F.slot_int_rmul (typeIs_int s x u) PySem.F.entry_int_rmul (PySem.F.args_int_rmul_2 _ _) (int___rmul___int_list x u a vs.toArray n)
      ⟨ho, rfl, ⟨_, ho, rfl⟩, call_meets PySem.F.slot_list_mul ⟨_, ho, rfl⟩ PySem.F.entry_list_mul (PySem.F.args_list_mul_2 _ _)
        (AutoListH.list___mul___list_int_3 a vs.toArray n x u (by simp [Builtin.List.listFitsIndex]; (first | lia -abstractProof | omega)) (by (first | lia -abstractProof | omega)) (by simp [Builtin.List.listTooLong, sizeLine]; (first | lia -abstractProof | omega)))
        ⟨ho, ?_⟩⟩)
  rw [q]
  exact hQ
/-- [..] * k, as an own list -/
theorem EvO.mulList {e₁ e₂ : PySem.Expr} {pos : Pos} {ds : List Dat} {x : Int} {Ψ : Dat → Mu → Prop} (h₁ : Ev prog w G l A env ρ μ e₁ (.list ds)) (h₂ : Ev prog w G l A env ρ μ e₂ (.int x)) (hne : ds ≠ []) (hx : x < 2 ^ 63) (hlo : -(2 ^ 63) ≤ x) (hl : ds.length * x.toNat ≤ 2 ^ 24)
    (k : ∀ p, Ψ (.val (.ref p)) ((p, .list (List.replicate x.toNat ds).flatten) :: μ)) : EvO prog w G l A env ρ μ (.BinOp e₁ .Mult e₂ pos) Ψ := fun H => by
  rw [eval_BinOp]
  refine .bindTr (h₁ H) fun va H₁ k1 r1 => .bindTr (h₂ H₁).holding fun vb H₂ k2 r2 => TS.standAt ?_
  obtain ⟨u, rfl⟩ := r2.isInt
  have r1' := r1.mono k2
  cases r1' with
  | @list a vs n ds e r =>
    have hvne : vs ≠ [] := fun q => by subst q; cases r; exact hne rfl
    refine ⟨fun s Q E S hQ => ?_⟩
    with_reducible refine wpAny_operating ?_
    obtain ⟨S', st⟩ := S.newOwn (o := listO (List.replicate x.toNat vs).flatten 0) (md := .list (List.replicate x.toNat ds).flatten) rfl ⟨_, 0, rfl, Reps.rep r _⟩
    exact mulList_raw (S.ext _ _ e) hvne hx hlo (by rw [r.length]; exact hl) (hQ _ _ _ H₂ _ s.toks S' (st.weakX fun _ q => nomatch q) (.newOne (fresh_get (Nat.le_refl _))) ⟨rfl, _, .val _, k _⟩)
theorem CallSem.lenOwn {a : Addr} {ds : List Dat} (hm : (a, MD.list ds) ∈ μ ∨ (a, MD.ro (.list ds)) ∈ μ) (hl : ds.length ≤ 16777216) : CallSem prog w G l A env ρ μ (.builtin "len") [.val (.ref a)] (.int ds.length) := fun H vs r => by
  obtain ⟨v, rfl, r1⟩ := r.one
  cases r1.isVal
  refine ⟨fun s Q E S hQ => ?_⟩
  obtain ⟨_, _, ob, hob, vs, n, rfl, rs⟩ := S.ownAt hm
  refine call_len_list (items := vs.toArray) ⟨_, hob, rfl, n, rfl⟩ (by simp [rs.length]; (first | lia -abstractProof | omega)) (hQ _ H s.heap _ (.refl S.ext S.tabs) ?_)
  have z : (vs.toArray.size : Int) = ds.length := by simp [rs.length]
  rw [z]; exact .int _ _
structure GTN (P : Params) (G : GX) : Prop where
  T : GT P G
  n1 : GN G ⟨30, 32, 4, "_int2digits.<locals>.inner"⟩ 34
  n2 : GN G ⟨37, 47, 4, "_digits2int.<locals>.inner"⟩ 41
noncomputable def nd (m x : Nat) : Nat := (Builtin.Int.intBits (x : Int) + m - 1) / m
theorem flat_one (k : Nat) (d : Dat) : (List.replicate k [d]).flatten = List.replicate k d := by
  induction k with
  | zero => rfl
  | succ k ih => rw [List.replicate_succ, List.replicate_succ, List.flatten_cons, ih]; rfl
theorem nd_pow (m x : Nat) (hm : 0 < m) : x < 2 ^ (m * nd m x) := by
  have h := natAbs_lt_pow_bits (x : Int)
  rw [Int.natAbs_natCast] at h
  refine Nat.lt_of_lt_of_le h (Nat.pow_le_pow_right (by decide) ?_)
  unfold nd
  generalize Builtin.Int.intBits (x : Int) = b
  have h1 := Nat.div_add_mod (b + m - 1) m
  have h2 := Nat.mod_lt (b + m - 1) hm
  omega
theorem nd_pos (m x : Nat) (hm : 0 < m) (hx : x ≠ 0) : 0 < nd m x := by
  have h := nd_pow m x hm
  rcases Nat.eq_zero_or_pos (nd m x) with q | q
  · rw [q, Nat.mul_zero] at h; (first | lia | omega)
  · exact q
theorem nd_zero (m : Nat) (hm : 0 < m) : nd m 0 = 0 := by
  unfold nd
  exact Nat.div_eq_of_lt (by show 0 + m - 1 < m; omega)
theorem int2digits_spec {P : Params} (X : GTN P G) (hroom : A.depth + 200 < recursionLimit) (x m : Nat) (hm0 : 0 < m) (hm : m ≤ 100000) (hx : Builtin.Int.intBits (x : Int) ≤ 1000000) (hk : nd m x ≤ 100) :
    CallSem prog w G l A env ρ μ (.ref 35) [.int x, .int m] (.list (intL (digs m (nd m x) x))) := by
  refine CallSem.fnC (ps := ["a", "n"]) X.T.K (by exact rfl) rfl (by exact rfl) (by exact rfl) (BindK.two fun _ _ => rfl) (by (first | lia -abstractProof | omega)) rfl fun L => ?_
  have hnd : ((Builtin.Int.intBits (x : Int) : Int) + (m : Int) - 1).fdiv (m : Int) = ((nd m x : Nat) : Int) := by
    have e : (Builtin.Int.intBits (x : Int) : Int) + (m : Int) - 1 = ((Builtin.Int.intBits (x : Int) + m - 1 : Nat) : Int) := by (first | lia -abstractProof | omega)
    rw [e, fdiv_nat]; rfl
  refine WP.cons (WP.assignO (EvO.mulList (x := (nd m x : Nat)) (Ev.list (ds := [.int 0]) (.cons Ev.int .nil)) ?_ (by simp) (by (first | lia -abstractProof | omega)) (by (first | lia -abstractProof | omega)) (by rw [Int.toNat_natCast]; show 1 * _ ≤ _; (first | lia -abstractProof | omega)) fun p => ?_))
  · rw [← hnd]
    exact Ev.bin (Ev.bin (Ev.bin (Ev.bitLength (Ev.name rfl)) (Ev.name rfl) BinSem.add) Ev.int BinSem.sub) (Ev.name rfl) (BinSem.fdiv (by (first | lia -abstractProof | omega)) (by
      have : Nat.log2 ((m : Int).natAbs) ≤ 16 := by rw [Int.natAbs_natCast]; exact Nat.le_of_lt_succ ((Nat.log2_lt (by (first | lia -abstractProof | omega))).mpr (by (first | lia -abstractProof | omega)))
      (first | lia -abstractProof | omega)))
  · rw [Int.toNat_natCast, flat_one]
    refine WP.cons (WP.def X.n1 rfl rfl rfl (by exact rfl) (by exact rfl) ?_)
    try dsimp only
    refine WP.cons (WP.ifs (b := ((x : Int) != 0)) (EvT.of (Ev.name rfl) .int) (fun hb => ?_) fun hb => ?_)
    · have hx0 : x ≠ 0 := by simp at hb; (first | lia -abstractProof | omega)
      have hpos := nd_pos m x hm0 hx0
      refine WP.cons (WP.callClos (μ' := [(p, .list (wd m 0 (nd m x) x (List.replicate (nd m x) (.int 0))))]) (Ev.name rfl) (.cons (Ev.name rfl) (.cons Ev.int (.cons (Ev.callName (X.T.bglob (by exact rfl) rfl) (.plain (by intro _ e; cases e)) (.cons (Ev.name rfl) .nil) (CallSem.lenOwn (.inl (.head _)) (by rw [List.length_replicate]; (first | lia -abstractProof | omega)))) .nil))) ?_ ?_)
      · rw [List.length_replicate]
        refine inner2_spec X.T (hI := ?_) m hm p _ _ _ (nd m x) 0 (nd m x) x (List.replicate (nd m x) (.int 0)) (A := A.deeper _) (μ₁ := []) (μ₂ := []) (by (first | lia -abstractProof | omega)) hpos (by rw [List.length_replicate]; exact Nat.le_refl _) (nd_pow m x hm0) (by rw [List.length_replicate]; exact hk) (by show A.depth + 1 + nd m x + 5 < recursionLimit; (first | lia -abstractProof | omega)) ?_ ?_ ?_ ?_ ?_
        · exact rfl
        · exact rfl
        · exact ⟨rfl, rfl, rfl, trivial⟩
        · exact rfl
        · exact rfl
        · exact rfl
      · refine WP.nil (WP.cons (WP.freezeName (μ₁ := []) (x := "a_digits") rfl (WP.ret (Ev.name rfl) ?_)))
        show AF.ret (Dat.list (wd m 0 (nd m x) x (List.replicate (nd m x) (.int 0)))) = _
        rw [wd_all]
    · have hx0 : x = 0 := by simp at hb; (first | lia -abstractProof | omega)
      subst hx0
      refine WP.nil (WP.cons (WP.freezeName (μ₁ := []) (x := "a_digits") rfl (WP.ret (Ev.name rfl) ?_)))
      show AF.ret (Dat.list (List.replicate (nd m 0) (.int 0))) = _
      rw [nd_zero m hm0]; rfl
end
end Mine
end
section
open PySem PySem.W PySem.Calls PyProof.Rows
set_option Elab.async false
set_option linter.unusedVariables false
set_option exponentiation.threshold 100
namespace Mine
theorem dval_split (m : Nat) (ns : List Int) (L M R : Nat) (h1 : L ≤ M) (h2 : M ≤ R) (h3 : R ≤ ns.length) :
    dval m ((ns.drop L).take (R - L)) = dval m ((ns.drop M).take (R - M)) * 2 ^ (m * (M - L)) + dval m ((ns.drop L).take (M - L)) := by
  have e : (ns.drop L).take (R - L) = (ns.drop L).take (M - L) ++ (ns.drop M).take (R - M) := by
    have e1 : R - L = (M - L) + (R - M) := by (first | lia -abstractProof | omega)
    rw [e1, List.take_add, List.drop_drop]
    have e2 : L + (M - L) = M := by (first | lia -abstractProof | omega)
    rw [e2]
  rw [e, dval_append, List.length_take, List.length_drop, Nat.min_eq_left (by (first | lia -abstractProof | omega)), Int.mul_comm]
  (first | lia -abstractProof | omega)
section
variable {prog : Program} {w : World} {G : GX} {l : List Env} {A : Around} {env env' : Env} {ρ ρ' ρc : Rho} {μ μ' μc μ₁ μ₂ : Mu} {H H' H₀ : PH} {h h' h₀ : Heap} {target : PySem.Expr}

theorem intL_get (ns : List Int) (i : Nat) (h : i < ns.length) : (intL ns)[i]? = some (.int ns[i]) := by simp [intL, h]
theorem dval_bits (m : Nat) (hm : m ≤ 100000) (xs : List Int) (hx : ∀ x ∈ xs, 0 ≤ x ∧ x < 2 ^ m) (hl : xs.length ≤ 100) : Builtin.Int.intBits (dval m xs) ≤ 10000000 := by
  obtain ⟨h1, h2⟩ := dval_bound m xs hx
  refine intBits_le ?_
  have h3 : (dval m xs).natAbs < 2 ^ (m * xs.length) := by
    have e : (2 : Int) ^ (m * xs.length) = ((2 ^ (m * xs.length) : Nat) : Int) := by simp
    rw [e] at h2
    (first | lia -abstractProof | omega)
  exact Nat.lt_of_lt_of_le h3 (Nat.pow_le_pow_right (by decide) (Nat.le_trans (Nat.mul_le_mul hm hl) (by decide)))
theorem inner3_spec {P : Params} (X : GT P G) {q : Str} {Ia : Arguments} {Ib : List Stmt} {Is : Scope} (hI : innerAt P 42 = (Ia, Ib, Is)) (m : Nat) (hm : m ≤ 100000) (ns : List Int) (hns : ∀ x ∈ ns, 0 ≤ x ∧ x < 2 ^ m) (h5 : ns.length ≤ 100) (c1 c2 c3 : Addr) : ∀ (k L R : Nat) {l : List Env} {A : Around} {env : Env} {ρ : Rho} {μ : Mu},
    R - L ≤ k → L < R → R ≤ ns.length → A.depth + k + 5 < recursionLimit →
    cloB Is env [("n", c3), ("inner", c2), ("digits", c1)] = true → ClAll env [("n", c3), ("inner", c2), ("digits", c1)] →
    List.lookup (β := Dat) (PySem.Str.ofString "digits") ρ = some (.list (intL ns)) → List.lookup (β := Dat) (PySem.Str.ofString "inner") ρ = some (.fn "inner" q Ia Ib Is [("n", c3), ("inner", c2), ("digits", c1)]) → List.lookup (β := Dat) (PySem.Str.ofString "n") ρ = some (.int m) →
    ∀ H f vs, Rep prog w H f (.fn "inner" q Ia Ib Is [("n", c3), ("inner", c2), ("digits", c1)]) → Reps prog w H vs [.int L, .int R] →
      Tr prog w G l A env ρ μ H (call f vs) fun H' v => Rep prog w H' v (.int (dval m ((ns.drop L).take (R - L)))) := by
  conv at hI => lhs; whnf
  obtain ⟨rfl, rfl, rfl⟩ : _ ∧ _ ∧ _ := by
    simp only [Prod.mk.injEq] at hI
    exact hI
  intro k
  induction k with
  | zero => intro L R l A env ρ μ h1 h2; omega
  | succ k ih =>
    intro L R l A env ρ μ h1 h2 h3 hroom hcl hc q1 q2 q3 H f vs rf r
    refine Tr.clos (ps := ["L", "R"]) rf (.two (fun _ _ _ _ _ _ => rfl) (by exact rfl)) hcl hc (by omega) r rfl fun f c' L' => ?_
    refine WP.weak (ρ' := [("R", .int R), ("L", .int L), ("digits", .list (intL ns)), ("inner", .fn "inner" q _ _ _ [("n", c3), ("inner", c2), ("digits", c1)]), ("n", .int m)]) ?_
      (show Sub _ _ from .cons rfl (.cons rfl (.cons (lookup_app_cut rfl rfl q1) (.cons (lookup_app_cut rfl rfl q2) (.cons (lookup_app_cut rfl rfl q3) .nil)))))
    refine WP.cons (WP.ifs (b := ((L : Int) + 1 == (R : Int))) (EvT.cmp (Ev.bin (Ev.name rfl) Ev.int BinSem.add) (Ev.name rfl) CmpSem.eq) (fun hb => ?_) fun hb => ?_)
    · have e : R = L + 1 := by have := eq_of_beq hb; omega
      subst e
      have hL : L < ns.length := by omega
      refine WP.cons (WP.ret (d := .int ns[L]) (Ev.sub (Ev.name rfl) (Ev.name rfl) (SubSem.list (by omega) (by rw [Int.toNat_natCast]; exact intL_get ns L hL) (by omega))) ?_)
      show AF.ret (Dat.int ns[L]) = AF.ret (Dat.int _)
      have e1 : L + 1 - L = 1 := by omega
      rw [e1, List.drop_eq_getElem_cons hL]
      show _ = AF.ret (Dat.int (ns[L] + 2 ^ m * dval m []))
      simp [dval]
    · have hne : L + 1 ≠ R := by have := beq_eq_false_iff_ne.mp hb; omega
      obtain ⟨M, hM⟩ : ∃ M, M = (L + R) / 2 := ⟨_, rfl⟩
      obtain ⟨hL, hR, hLk, hRk, hsum⟩ := mid_facts h2 hne hM h1
      have hms : m * (M - L) ≤ 10000000 := Nat.le_trans (Nat.mul_le_mul hm (show M - L ≤ 100 by omega)) (by decide)
      refine WP.nil (WP.cons (WP.assign (d := .int M) ?_ ?_))
      · have e : ((L : Int) + (R : Int)).fdiv (2 ^ (1 : Int).toNat) = (M : Int) := by
          rw [hM, ← Int.natCast_add]; exact shr_nat (L + R) 1
        rw [← e]; exact Ev.bin (Ev.bin (Ev.name rfl) (Ev.name rfl) BinSem.add) Ev.int (BinSem.shr (by decide))
      refine WP.cons (WP.assign (d := .int ((m * (M - L) : Nat) : Int)) ?_ ?_)
      · have e : ((M : Int) - (L : Int)) * (m : Int) = ((m * (M - L) : Nat) : Int) := by
          rw [Int.natCast_mul, Int.natCast_sub (Nat.le_of_lt hL), Int.mul_comm]
        rw [← e]
        exact Ev.bin (Ev.bin (Ev.name rfl) (Ev.name rfl) BinSem.sub) (Ev.name rfl) (BinSem.mul (.of_left (intBits_le (by omega))))
      have hbits : Builtin.Int.intBits (dval m ((ns.drop M).take (R - M))) ≤ 10000000 := dval_bits m hm _ (fun x hx => hns x (List.mem_of_mem_drop (List.mem_of_mem_take hx))) (by rw [List.length_take, List.length_drop]; omega)
      refine WP.cons (WP.ret (d := .int (dval m ((ns.drop L).take (R - L)))) ?_ rfl)
      rw [dval_split m ns L M R (Nat.le_of_lt hL) (Nat.le_of_lt hR) h3]
      have e2 : (2 : Int) ^ (m * (M - L)) = 2 ^ (((m * (M - L) : Nat) : Int)).toNat := by rw [Int.toNat_natCast]
      rw [e2]
      refine Ev.bin (Ev.bin (Ev.callClos (Ev.name rfl) (.cons (Ev.name rfl) (.cons (Ev.name rfl) .nil)) (ih M R (A := A.deeper _) (env := envX q _ L' f (.ref c') _) hRk hR h3 (dep_step hroom) (by exact rfl) ⟨rfl, rfl, rfl, trivial⟩ rfl rfl rfl)) (Ev.name rfl) (BinSem.shl (by omega) (by omega)))
        (Ev.callClos (Ev.name rfl) (.cons (Ev.name rfl) (.cons (Ev.name rfl) .nil)) (ih L M (A := A.deeper _) (env := envX q _ L' f (.ref c') _) hLk hL (by omega) (dep_step hroom) (by exact rfl) ⟨rfl, rfl, rfl, trivial⟩ rfl rfl rfl)) BinSem.add
theorem digits2int_spec {P : Params} (X : GTN P G) (hroom : A.depth + 200 < recursionLimit) (m : Nat) (hm : m ≤ 100000) (ns : List Int) (hns : ∀ x ∈ ns, 0 ≤ x ∧ x < 2 ^ m) (h5 : ns.length ≤ 100) :
    CallSem prog w G l A env ρ μ (.ref 42) [.list (intL ns), .int m] (.int (dval m ns)) := by
  refine CallSem.fnC (ps := ["digits", "n"]) X.T.K (by exact rfl) rfl (by exact rfl) (by exact rfl) (BindK.two fun _ _ => rfl) (by (first | lia | omega)) rfl fun L => ?_
  refine WP.cons (WP.def X.n2 rfl rfl rfl (by exact rfl) (by exact rfl) ?_)
  try dsimp only
  refine WP.cons (WP.ret (d := .int (dval m ns)) (Ev.ite (EvT.of (Ev.name rfl) (.list (by rw [List.length_map]; (first | lia | omega)))) (fun hb => ?_) fun hb => ?_) rfl)
  · have hne : 0 < ns.length := by
      cases ns with
      | nil => cases hb
      | cons _ _ => simp
    have e : dval m ns = dval m ((ns.drop 0).take (ns.length - 0)) := by rw [List.drop_zero, Nat.sub_zero, List.take_length]
    rw [e]
    refine Ev.callClos (Ev.name rfl) (.cons Ev.int (.cons (Ev.callName (X.T.bglob (by exact rfl) rfl) (.plain (by intro _ e; cases e)) (.cons (Ev.name rfl) .nil) (CallSem.lenI _ (by (first | lia | omega)))) .nil)) ?_
    refine inner3_spec X.T (hI := ?_) m hm ns hns h5 _ _ _ ns.length 0 ns.length (A := A.deeper _) (by (first | lia | omega)) hne (Nat.le_refl _) (by show A.depth + 1 + ns.length + 5 < recursionLimit; (first | lia | omega)) ?_ ?_ ?_ ?_ ?_
    · exact rfl
    · exact rfl
    · exact ⟨rfl, rfl, rfl, trivial⟩
    · exact rfl
    · exact rfl
    · exact rfl
  · have hne : ns = [] := by
      cases ns with
      | nil => rfl
      | cons _ _ => cases hb
    subst hne
    exact Ev.int
end
end Mine
end
section
open PySem PySem.W PySem.Calls PyProof.Rows
set_option Elab.async false
set_option linter.unusedVariables false
set_option exponentiation.threshold 100
namespace Mine
/-! long division -/
noncomputable def topA (n k a j : Nat) : Nat := a / 2 ^ (n * (k - j))
noncomputable def qAt (n k a b j : Nat) : Nat := (topA n k a j % b * 2 ^ n + topA n k a (j + 1) % 2 ^ n) / b
noncomputable def qList (n k a b i : Nat) : List Int := (List.range i).map fun j => ((qAt n k a b j : Nat) : Int)
theorem topA_succ (n k a j : Nat) (h : j < k) : topA n k a (j + 1) = topA n k a j * 2 ^ n + topA n k a (j + 1) % 2 ^ n := by
  have e : topA n k a j = topA n k a (j + 1) / 2 ^ n := by
    unfold topA
    have e1 : k - j = (k - (j + 1)) + 1 := by (first | lia -abstractProof | omega)
    rw [e1, Nat.mul_succ, Nat.pow_add, Nat.div_div_eq_div_mul]
  rw [e]
  exact (Nat.div_add_mod' _ _).symm
theorem digs_rev (n k a j : Nat) (h : j < k) : (intL (digs n k a)).reverse[j]? = some (.int ((topA n k a (j + 1) % 2 ^ n : Nat) : Int)) := by
  have hl : (intL (digs n k a)).length = k := by simp [digs]
  rw [List.getElem?_reverse (by rw [hl]; exact h), hl]
  unfold digs intL topA
  rw [List.getElem?_map, List.getElem?_map, List.getElem?_range (by (first | lia | omega))]
  have e : k - 1 - j = k - (j + 1) := by (first | lia | omega)
  rw [e]; rfl
theorem step_div (A b B d : Nat) (hb : 0 < b) : (A * B + d) / b = A / b * B + (A % b * B + d) / b ∧ (A * B + d) % b = (A % b * B + d) % b := by
  have e : A * B + d = b * (A / b * B) + (A % b * B + d) := by
    have h := Nat.div_add_mod A b
    have h2 : A * B = (b * (A / b) + A % b) * B := by rw [h]
    rw [h2, Nat.add_mul, Nat.mul_assoc, Nat.add_assoc]
  rw [e]
  exact ⟨by rw [Nat.mul_add_div hb], by rw [Nat.mul_add_mod]⟩
theorem qAt_lt (n k a b j : Nat) (hb : 0 < b) : qAt n k a b j < 2 ^ n := by
  unfold qAt
  rw [Nat.div_lt_iff_lt_mul hb]
  have h1 := Nat.mod_lt (topA n k a j) hb
  have h2 := Nat.mod_lt (topA n k a (j + 1)) (Nat.two_pow_pos n)
  have h3 : (topA n k a j % b + 1) * 2 ^ n ≤ b * 2 ^ n := Nat.mul_le_mul_right _ h1
  rw [Nat.add_mul, Nat.one_mul] at h3
  rw [Nat.mul_comm (2 ^ n) b]
  (first | lia -abstractProof | omega)
theorem qList_val (n k a b : Nat) (hb : 0 < b) (h0 : topA n k a 0 = 0) : ∀ i, i ≤ k → dval n (qList n k a b i).reverse = ((topA n k a i / b : Nat) : Int)
  | 0, _ => by rw [h0, Nat.zero_div]; rfl
  | i + 1, hi => by
    have ih := qList_val n k a b hb h0 i (by (first | lia -abstractProof | omega))
    have e : qList n k a b (i + 1) = qList n k a b i ++ [((qAt n k a b i : Nat) : Int)] := by unfold qList; rw [List.range_succ, List.map_append]; rfl
    rw [e, List.reverse_append]
    show ((qAt n k a b i : Nat) : Int) + 2 ^ n * dval n (qList n k a b i).reverse = _
    rw [ih, topA_succ n k a i (by (first | lia -abstractProof | omega)), (step_div (topA n k a i) b (2 ^ n) _ hb).1, Int.natCast_add, Int.natCast_mul, Int.natCast_pow, Int.add_comm, Int.mul_comm]
    rfl
section
variable {prog : Program} {w : World} {G : GX} {l : List Env} {A : Around} {env env' : Env} {ρ ρ' ρc : Rho} {μ μ' μc μ₁ μ₂ : Mu} {H H' H₀ : PH} {h h' h₀ : Heap} {target : PySem.Expr}

theorem listReverseTS {xs : List Dat} {p : Addr} {Φ : PH → Value → Rho → Mu → Prop} (hl : xs.length ≤ 16777216) (h : Φ H .none ρ (μ₁ ++ (p, .list xs.reverse) :: μ₂)) :
    TS prog w G l A env H (call (.builtin "list.reverse") [.ref p]) ρ (μ₁ ++ (p, .list xs) :: μ₂) Φ := by
  refine ⟨fun s Q E S hQ => ?_⟩
  obtain ⟨_, _, ob, ho, vs, n, rfl, rs⟩ := S.ownAt (.inl (List.mem_append_right _ (.head _)))
  refine call_meets PySem.F.slot_list_reverse ⟨_, ho, rfl⟩ PySem.F.entry_list_reverse (PySem.F.args_list_reverse_1 _) (AutoSeq1.list_reverse_list_0 p vs.toArray n (sizeLine_of (by simp [rs.length]; exact hl))) ⟨ho, ?_⟩
  have ho₂ : (s.heap.update p (Obj.mapSeq fun x => x.reverse)).get? p = some (listO vs.reverse n) := by
    rw [Heap.get?_update_self _ ho (by rw [mapSeq_reverse]; rfl), mapSeq_reverse]
  obtain ⟨S', st⟩ := S.setOwn (md' := .list xs.reverse) rfl ho₂ ⟨_, n, rfl, rs.reverse⟩ (Heap.SameBut.update ..)
  exact hQ _ _ _ H _ _ S' st (MuLe.set rfl) h
/-- o.reverse() -/
theorem WP.reverse {o : PySem.Expr} {apos cpos pos : Pos} {xs : List Dat} {p : Addr} {Φ : AF → Rho → Mu → Prop} (ho : Ev prog w G l A env ρ (μ₁ ++ (p, .list xs) :: μ₂) o (.val (.ref p))) (hl : xs.length ≤ 16777216)
    (h : Φ .next ρ (μ₁ ++ (p, .list xs.reverse) :: μ₂)) (hint : interactive env = false := by rfl) (hsw : swapsWith (.Call (.Attribute o "reverse" apos) [] [] cpos) none pos.line env = pure false := by rfl)
    (hbase : attributeBase o "reverse" env (eval o env) = eval o env := by rfl) (hline : (apos.endLine == cpos.line) = true := by rfl) :
    WP prog w G l A env (exec (.Expr (.Call (.Attribute o "reverse" apos) [] [] cpos) pos) env) ρ (μ₁ ++ (p, .list xs) :: μ₂) Φ := fun H => by
  rw [arm_exec_Expr, hint, hsw]
  refine TS.standAt ?_
  simp only [Bool.false_eq_true, if_false, pure_bind]
  refine (listMethTS (Φ := fun H' v ρ' μ' => v = .none ∧ ρ' = ρ ∧ μ' = μ₁ ++ (p, .list xs.reverse) :: μ₂) ho (List.mem_append_right _ (.head _)) PySem.F.slot_list_reverse PySem.F.type_list_reverse .nil (fun H' vs k r => ?_) hbase hline (by simp)).bind fun v H₁ ρ₁ μ₁' k hx9 => ?_
  · cases r
    exact listReverseTS hl ⟨rfl, rfl, rfl⟩
  · obtain ⟨e1, e2, e3⟩ := hx9
    subst e1; subst e2; subst e3
    exact TS.pure ⟨_, .next, h⟩
theorem log2_small {b : Nat} {k : Nat} (h : Builtin.Int.intBits (b : Int) ≤ k) : (b : Int).natAbs.log2 ≤ k := by
  rw [Int.natAbs_natCast]
  by_cases q : b = 0
  · subst q; simp
  · unfold Builtin.Int.intBits at h
    rw [if_neg (by simp; (first | lia -abstractProof | omega)), Int.natAbs_natCast] at h
    (first | lia -abstractProof | omega)
theorem divmod_pos_spec {P : Params} (X : GTN P G) (hroom : A.depth + 300 < recursionLimit) (a b : Nat) (ha : Builtin.Int.intBits (a : Int) ≤ 4001) (hb1 : 100 ≤ Builtin.Int.intBits (b : Int)) (hb2 : Builtin.Int.intBits (b : Int) ≤ 4000) :
    CallSem prog w G l A env ρ μ (.ref 49) [.int a, .int b] (.tup [.int ((a / b : Nat) : Int), .int ((a % b : Nat) : Int)]) := by
  have hb0 : 0 < b := by
    rcases Nat.eq_zero_or_pos b with q | q
    · subst q; have : Builtin.Int.intBits ((0 : Nat) : Int) = 0 := rfl; (first | lia | omega)
    · exact q
  refine CallSem.fn (ps := ["a", "b"]) X.T.K (by exact rfl) rfl (by exact rfl) (by exact rfl) (BindK.two fun _ _ => rfl) (by (first | lia | omega)) rfl fun L => ?_
  obtain ⟨n, hn⟩ : ∃ n, n = Builtin.Int.intBits (b : Int) := ⟨_, rfl⟩
  rw [← hn] at hb1 hb2
  have hbn : b < 2 ^ n := by
    have := natAbs_lt_pow_bits (b : Int)
    rw [Int.natAbs_natCast, ← hn] at this
    exact this
  obtain ⟨k, hk⟩ : ∃ k, k = nd n a := ⟨_, rfl⟩
  have hk100 : k ≤ 100 := by
    rw [hk]; unfold nd
    refine Nat.le_of_lt_succ ((Nat.div_lt_iff_lt_mul (by (first | lia | omega))).mpr ?_)
    have : 101 * 100 ≤ (100 + 1) * n := Nat.mul_le_mul (by decide) hb1
    (first | lia | omega)
  have hak : a < 2 ^ (n * k) := by rw [hk]; exact nd_pow n a (by (first | lia | omega))
  have h0 : topA n k a 0 = 0 := Nat.div_eq_of_lt hak
  refine WP.cons (WP.assign (d := .int n) (by rw [hn]; exact Ev.bitLength (Ev.name rfl)) ?_)
  refine WP.cons (WP.assign (d := .list (intL (digs n k a))) (by rw [hk]; exact Ev.callName (X.T.glob (by exact rfl) fun _ => .val _) (KeepG.K X.T.K (by exact rfl)) (.cons (Ev.name rfl) (.cons (Ev.name rfl) .nil)) (int2digits_spec (A := A.deeper _) X (by show A.depth + 1 + 200 < recursionLimit; (first | lia | omega)) a n (by (first | lia | omega)) (by (first | lia | omega)) (by (first | lia | omega)) (by rw [← hk]; exact hk100))) ?_)
  refine WP.cons (WP.assign (d := .int 0) Ev.int ?_)
  refine WP.cons (WP.assignO (EvO.list (.nil ⟨by decide, fun p => ?_⟩)))
  try dsimp only
  refine WP.cons ?_
  refine WP.forR (ds := (intL (digs n k a)).reverse) (fun i => [("q_digits", .val (.ref p)), ("r", .int ((topA n k a i % b : Nat) : Int)), ("a_digits", .list (intL (digs n k a))), ("n", .int n), ("b", .int b), ("a", .int a)]) (fun i => [(p, .list (intL (qList n k a b i)))]) ?_ (.cons rfl (.cons (by rw [h0, Nat.zero_mod]; rfl) (.cons rfl (.cons rfl (.cons rfl (.cons rfl .nil)))))) rfl (fun i d hd => ?_) ?_
  · exact EvIt.rev (X.T.bglob (by exact rfl) rfl) (.cons (Ev.name rfl) .nil)
  · have hi : i < k := by
      have := (List.getElem?_eq_some_iff.mp hd).1
      simpa [digs] using this
    have hd' : d = .int ((topA n k a (i + 1) % 2 ^ n : Nat) : Int) := by
      rw [digs_rev n k a i hi] at hd; cases hd; rfl
    subst hd'
    have hval : topA n k a i % b * 2 ^ n + topA n k a (i + 1) % 2 ^ n < 2 ^ (n + n) := by
      have h1 := Nat.mod_lt (topA n k a i) hb0
      have h2 := Nat.mod_lt (topA n k a (i + 1)) (Nat.two_pow_pos n)
      have h3 : (topA n k a i % b + 1) * 2 ^ n ≤ 2 ^ n * 2 ^ n := Nat.mul_le_mul_right _ (by (first | lia | omega))
      rw [Nat.add_mul, Nat.one_mul] at h3
      rw [Nat.pow_add]
      (first | lia | omega)
    have hvb := bits_nat _ _ hval
    have hrb : Builtin.Int.intBits ((topA n k a i % b : Nat) : Int) ≤ n := bits_nat _ _ (Nat.lt_trans (Nat.mod_lt _ hb0) hbn)
    have hcast : ((topA n k a i % b : Nat) : Int) * 2 ^ (n : Int).toNat + ((topA n k a (i + 1) % 2 ^ n : Nat) : Int) = ((topA n k a i % b * 2 ^ n + topA n k a (i + 1) % 2 ^ n : Nat) : Int) := by
      rw [Int.toNat_natCast, Int.natCast_add, Int.natCast_mul, Int.natCast_pow]; rfl
    refine ⟨_, .name, WP.cons ?_⟩
    refine WP.assignTup (EvO.pure (d := .tup [.int ((qAt n k a b i : Nat) : Int), .int ((topA n k a (i + 1) % b : Nat) : Int)]) ?_ ⟨_, .tup (.cons (.cons .nil)), ?_⟩)
    · have e1 : ((qAt n k a b i : Nat) : Int) = ((topA n k a i % b * 2 ^ n + topA n k a (i + 1) % 2 ^ n : Nat) : Int).fdiv b := by rw [fdiv_nat]; rfl
      have e2 : ((topA n k a (i + 1) % b : Nat) : Int) = ((topA n k a i % b * 2 ^ n + topA n k a (i + 1) % 2 ^ n : Nat) : Int).fmod b := by
        rw [fmod_nat, ← (step_div (topA n k a i) b (2 ^ n) _ hb0).2, ← topA_succ n k a i hi]
      rw [e1, e2]
      refine Ev.callName (X.T.glob (by exact rfl) fun _ => .val _) (KeepG.K X.T.K (by exact rfl)) (ds := [.int ((topA n k a i % b * 2 ^ n + topA n k a (i + 1) % 2 ^ n : Nat) : Int), .int b, .int n]) (.cons ?_ (.cons (Ev.name rfl) (.cons (Ev.name rfl) .nil))) (div2n1n_spec (A := A.deeper _) X.T (by show A.depth + 1 < recursionLimit; (first | lia | omega)) _ _ _ (by (first | lia | omega)) (by (first | lia | omega)) (by have := log2_small (b := b) (k := 4000) (by (first | lia | omega)); (first | lia | omega)))
      rw [← hcast]
      exact Ev.bin (Ev.bin (Ev.name rfl) (Ev.name rfl) (BinSem.shl (by (first | lia | omega)) (by (first | lia | omega)))) (Ev.name rfl) BinSem.add
    try dsimp only
    have hql : (qList n k a b i).length = i := by simp [qList]
    refine WP.cons (WP.append (μ₁ := []) (p := p) (d := .int ((qAt n k a b i : Nat) : Int)) (Ev.name rfl) (Ev.name rfl) (by rw [List.length_map, hql]; (first | lia | omega)) ?_)
    refine WP.nil ⟨.cons rfl (.cons rfl (.cons rfl (.cons rfl (.cons rfl (.cons rfl .nil))))), ?_⟩
    have e : qList n k a b (i + 1) = qList n k a b i ++ [((qAt n k a b i : Nat) : Int)] := by unfold qList; rw [List.range_succ, List.map_append]; rfl
    rw [e, show intL (qList n k a b i ++ [((qAt n k a b i : Nat) : Int)]) = intL (qList n k a b i) ++ [.int ((qAt n k a b i : Nat) : Int)] from List.map_append]
    rfl
  · have hlen : (intL (digs n k a)).reverse.length = k := by simp [digs]
    rw [hlen]
    have htop : topA n k a k = a := by unfold topA; simp
    have hql : (qList n k a b k).length = k := by simp [qList]
    rw [htop]
    refine WP.cons (WP.reverse (μ₁ := []) (Ev.name rfl) (by rw [List.length_map, hql]; (first | lia | omega)) ?_)
    refine WP.cons (WP.freezeName (μ₁ := []) (x := "q_digits") rfl ?_)
    try dsimp only
    have erev : (intL (qList n k a b k)).reverse = intL (qList n k a b k).reverse := List.map_reverse.symm
    have hq : dval n (qList n k a b k).reverse = ((a / b : Nat) : Int) := by rw [qList_val n k a b hb0 h0 k (Nat.le_refl _), htop]
    refine WP.assign (d := .int ((a / b : Nat) : Int)) ?_ (WP.cons (WP.ret (Ev.tuple (.cons (Ev.name rfl) (.cons (Ev.name rfl) .nil))) rfl))
    rw [← hq]
    refine Ev.callName (X.T.glob (by exact rfl) fun _ => .val _) (KeepG.K X.T.K (by exact rfl)) (ds := [.list (intL (qList n k a b k).reverse), .int n]) (.cons ?_ (.cons (Ev.name rfl) .nil)) (digits2int_spec (A := A.deeper _) X (by show A.depth + 1 + 200 < recursionLimit; (first | lia | omega)) n (by (first | lia | omega)) _ (fun x hx => ?_) (by rw [List.length_reverse, hql]; exact hk100))
    · rw [← erev]; exact Ev.name rfl
    · obtain ⟨j, _, rfl⟩ := List.mem_map.mp (List.mem_reverse.mp hx)
      have := qAt_lt n k a b j hb0
      have e : (2 : Int) ^ n = ((2 ^ n : Nat) : Int) := by simp
      rw [e]
      (first | lia | omega)
end
end Mine
end
section
open PySem PySem.W PySem.Calls PyProof.Rows
set_option Elab.async false
set_option linter.unusedVariables false
set_option exponentiation.threshold 100
namespace Mine
theorem fdiv_not (a b : Int) (hb : 0 < b) : Builtin.bitNot ((Builtin.bitNot a).fdiv b) = a.fdiv b ∧ b + Builtin.bitNot ((Builtin.bitNot a).fmod b) = a.fmod b := by
  unfold Builtin.bitNot
  rw [Int.fdiv_eq_ediv_of_nonneg _ (Int.le_of_lt hb), Int.fdiv_eq_ediv_of_nonneg _ (Int.le_of_lt hb), Int.fmod_eq_emod_of_nonneg _ (Int.le_of_lt hb), Int.fmod_eq_emod_of_nonneg _ (Int.le_of_lt hb)]
  have h1 := Int.mul_ediv_add_emod (-a - 1) b
  have h2 := Int.emod_nonneg (-a - 1) (Int.ne_of_gt hb)
  have h3 := Int.emod_lt_of_pos (-a - 1) hb
  have h := (Int.ediv_emod_unique (a := a) (b := b) (q := -((-a - 1) / b) - 1) (r := b + (-((-a - 1) % b) - 1)) hb).mpr ⟨by
    rw [Int.mul_sub, Int.mul_neg, Int.mul_one]; omega, by omega, by omega⟩
  exact ⟨h.1.symm, h.2.symm⟩
theorem fmod_neg (a b : Int) : -((-a).fmod (-b)) = a.fmod b := by
  rw [Int.fmod_def, Int.fmod_def, Int.neg_fdiv_neg, Int.neg_mul]; (first | lia | omega)
section
variable {prog : Program} {w : World} {G : GX} {l : List Env} {A : Around} {env env' : Env} {ρ ρ' ρc : Rho} {μ μ' μc μ₁ μ₂ : Mu} {H H' H₀ : PH} {h h' h₀ : Heap} {target : PySem.Expr}

theorem idm_pos {P : Params} (X : GTN P G) (hroom : A.depth + 310 < recursionLimit) (a b : Int) (ha0 : 0 ≤ a) (hb0 : 0 < b) (ha : Builtin.Int.intBits a ≤ 4001) (hb1 : 100 ≤ Builtin.Int.intBits b) (hb2 : Builtin.Int.intBits b ≤ 4000) :
    CallSem prog w G l A env ρ μ (.ref 56) [.int a, .int b] (.tup [.int (a.fdiv b), .int (a.fmod b)]) := by
  obtain ⟨a, rfl⟩ := Int.eq_ofNat_of_zero_le ha0
  obtain ⟨b, rfl⟩ := Int.eq_ofNat_of_zero_le (Int.le_of_lt hb0)
  rw [fdiv_nat, fmod_nat]
  refine CallSem.fn (ps := ["a", "b"]) X.T.K (by exact rfl) rfl (by exact rfl) (by exact rfl) (BindK.two fun _ _ => rfl) (by omega) rfl fun L => ?_
  refine WP.cons (WP.ifs (b := ((b : Int) == 0)) (EvT.cmp (Ev.name rfl) Ev.int CmpSem.eq) (fun q => ?_) fun _ => ?_)
  · have := eq_of_beq q; omega
  refine WP.cons (WP.ifs (b := decide ((b : Int) < 0)) (EvT.cmp (Ev.name rfl) Ev.int CmpSem.lt) (fun q => ?_) fun _ => ?_)
  · have := of_decide_eq_true q; omega
  refine WP.cons (WP.ifs (b := decide ((a : Int) < 0)) (EvT.cmp (Ev.name rfl) Ev.int CmpSem.lt) (fun q => ?_) fun _ => ?_)
  · have := of_decide_eq_true q; omega
  exact WP.cons (WP.ret (Ev.callName (X.T.glob (by exact rfl) fun _ => .val _) (KeepG.K X.T.K (by exact rfl)) (.cons (Ev.name rfl) (.cons (Ev.name rfl) .nil)) (divmod_pos_spec (A := A.deeper _) X (by show A.depth + 1 + 300 < recursionLimit; omega) a b ha hb1 hb2)) rfl)
theorem idm_bpos {P : Params} (X : GTN P G) (hroom : A.depth + 320 < recursionLimit) (a b : Int) (hb0 : 0 < b) (ha : Builtin.Int.intBits a ≤ 4000) (hb1 : 100 ≤ Builtin.Int.intBits b) (hb2 : Builtin.Int.intBits b ≤ 4000) :
    CallSem prog w G l A env ρ μ (.ref 56) [.int a, .int b] (.tup [.int (a.fdiv b), .int (a.fmod b)]) := by
  by_cases h0 : 0 ≤ a
  · exact idm_pos X (by (first | lia -abstractProof | omega)) a b h0 hb0 (by (first | lia -abstractProof | omega)) hb1 hb2
  have hna : Builtin.Int.intBits (Builtin.bitNot a) ≤ 4001 := by
    have := intBits_sub_le (intBits_neg_le ha) (show Builtin.Int.intBits (1 : Int) ≤ 1 by decide)
    exact this
  refine CallSem.fn (ps := ["a", "b"]) X.T.K (by exact rfl) rfl (by exact rfl) (by exact rfl) (BindK.two fun _ _ => rfl) (by (first | lia -abstractProof | omega)) rfl fun L => ?_
  refine WP.cons (WP.ifs (b := ((b : Int) == 0)) (EvT.cmp (Ev.name rfl) Ev.int CmpSem.eq) (fun q => ?_) fun _ => ?_)
  · have := eq_of_beq q; (first | lia -abstractProof | omega)
  refine WP.cons (WP.ifs (b := decide ((b : Int) < 0)) (EvT.cmp (Ev.name rfl) Ev.int CmpSem.lt) (fun q => ?_) fun _ => ?_)
  · have := of_decide_eq_true q; (first | lia -abstractProof | omega)
  refine WP.cons (WP.ifs (b := decide ((a : Int) < 0)) (EvT.cmp (Ev.name rfl) Ev.int CmpSem.lt) (fun _ => ?_) fun q => ?_)
  · have hspec := fun {l A env ρ μ} (hr : Around.depth A + 310 < recursionLimit) => idm_pos (prog := prog) (w := w) (G := G) (l := l) (A := A) (env := env) (ρ := ρ) (μ := μ) X hr (Builtin.bitNot a) b (by unfold Builtin.bitNot; (first | lia -abstractProof | omega)) hb0 hna hb1 hb2
    refine WP.cons (WP.assignTup (EvO.pure (Ev.callName (X.T.glob (by exact rfl) fun _ => .val _) (KeepG.K X.T.K (by exact rfl)) (.cons (Ev.inv (Ev.name rfl)) (.cons (Ev.name rfl) .nil)) (hspec (A := A.deeper _) (by show A.depth + 1 + 310 < recursionLimit; (first | lia -abstractProof | omega)))) ⟨_, .tup (.cons (.cons .nil)), ?_⟩))
    obtain ⟨e1, e2⟩ := fdiv_not a b hb0
    rw [← e1, ← e2]
    exact WP.cons (WP.ret (Ev.tuple (.cons (Ev.inv (Ev.name rfl)) (.cons (Ev.bin (Ev.name rfl) (Ev.inv (Ev.name rfl)) BinSem.add) .nil))) rfl)
  · have := of_decide_eq_false q; (first | lia -abstractProof | omega)
theorem int_divmod_spec {P : Params} (X : GTN P G) (hroom : A.depth + 330 < recursionLimit) (a b : Int) (ha : Builtin.Int.intBits a ≤ 4000) (hb1 : 100 ≤ Builtin.Int.intBits b) (hb2 : Builtin.Int.intBits b ≤ 4000) :
    CallSem prog w G l A env ρ μ (.ref 56) [.int a, .int b] (.tup [.int (a.fdiv b), .int (a.fmod b)]) := by
  by_cases h0 : 0 < b
  · exact idm_bpos X (by (first | lia -abstractProof | omega)) a b h0 ha hb1 hb2
  have hbne : b ≠ 0 := fun q => by subst q; have : Builtin.Int.intBits 0 = 0 := rfl; (first | lia -abstractProof | omega)
  have hnb : Builtin.Int.intBits (-b) = Builtin.Int.intBits b := by
    have h1 := intBits_neg_le (Nat.le_refl (Builtin.Int.intBits b))
    have h2 := intBits_neg_le (Nat.le_refl (Builtin.Int.intBits (-b)))
    rw [Int.neg_neg] at h2
    (first | lia -abstractProof | omega)
  refine CallSem.fn (ps := ["a", "b"]) X.T.K (by exact rfl) rfl (by exact rfl) (by exact rfl) (BindK.two fun _ _ => rfl) (by (first | lia -abstractProof | omega)) rfl fun L => ?_
  refine WP.cons (WP.ifs (b := ((b : Int) == 0)) (EvT.cmp (Ev.name rfl) Ev.int CmpSem.eq) (fun q => ?_) fun _ => ?_)
  · have := eq_of_beq q; (first | lia -abstractProof | omega)
  refine WP.cons (WP.ifs (b := decide ((b : Int) < 0)) (EvT.cmp (Ev.name rfl) Ev.int CmpSem.lt) (fun _ => ?_) fun q => ?_)
  · have hspec := fun {l A env ρ μ} (hr : Around.depth A + 320 < recursionLimit) => idm_bpos (prog := prog) (w := w) (G := G) (l := l) (A := A) (env := env) (ρ := ρ) (μ := μ) X hr (-a) (-b) (by (first | lia -abstractProof | omega)) (intBits_neg_le ha) (by (first | lia -abstractProof | omega)) (by (first | lia -abstractProof | omega))
    refine WP.cons (WP.assignTup (EvO.pure (Ev.callName (X.T.glob (by exact rfl) fun _ => .val _) (KeepG.K X.T.K (by exact rfl)) (.cons (Ev.neg (Ev.name rfl)) (.cons (Ev.neg (Ev.name rfl)) .nil)) (hspec (A := A.deeper _) (by show A.depth + 1 + 320 < recursionLimit; (first | lia -abstractProof | omega)))) ⟨_, .tup (.cons (.cons .nil)), ?_⟩))
    rw [← fmod_neg a b, ← Int.neg_fdiv_neg a b]
    exact WP.cons (WP.ret (Ev.tuple (.cons (Ev.name rfl) (.cons (Ev.neg (Ev.name rfl)) .nil))) rfl)
  · have := of_decide_eq_false q; (first | lia -abstractProof | omega)
end
end Mine
end
section
open PySem PySem.W PySem.Calls PyProof.Rows
set_option Elab.async false
set_option linter.unusedVariables false
namespace Mine
/-- all that lives stays, but for D; frames up to their slots -/
noncomputable def Kp (F D : List Addr) (h h' : Heap) : Prop := ∀ b o, b ∉ D → h.get? b = some o → ∃ sl, h'.get? b = some { o with slots := sl } ∧ (b ∉ F → sl = o.slots)
theorem Kp.trans {F D : List Addr} {h h' h'' : Heap} (x : Kp F D h h') (y : Kp F D h' h'') : Kp F D h h'' := fun b o hb e => by
  obtain ⟨sl, e1, n1⟩ := x b o hb e
  obtain ⟨sl', e2, n2⟩ := y b _ hb e1
  exact ⟨sl', e2, fun q => (n2 q).trans (n1 q)⟩
theorem Kp.mono {F F' D D' : List Addr} {h h' : Heap} (x : Kp F D h h') (hF : ∀ b ∈ F, b ∈ F' ∨ h.get? b = none) (hD : ∀ b ∈ D, b ∈ D' ∨ h.get? b = none) : Kp F' D' h h' := fun b o hb e => by
  obtain ⟨sl, e1, n1⟩ := x b o (fun q => (hD b q).elim hb fun z => by rw [z] at e; cases e) e
  exact ⟨sl, e1, fun q => n1 fun z => (hF b z).elim q fun z => by rw [z] at e; cases e⟩
theorem Kp.of {F D : List Addr} {h h' : Heap} (k : ∀ b o, b ∉ D → h.get? b = some o → h'.get? b = some o) : Kp F D h h' := fun b o hb e => ⟨o.slots, k b o hb e, fun _ => rfl⟩
noncomputable def ExcIs (h : Heap) (e : Addr) (cls tb : Value) : Prop := ∃ oe vs, h.get? e = some oe ∧ oe.cls = cls ∧ oe.data = .fields vs ∧ vs[1]? = some tb ∧ vs[2]? = some .none
noncomputable def TbIs (h : Heap) (T : Addr) (fl : Value) : Prop := ∃ oT ts, h.get? T = some oT ∧ oT.data = .fields ts ∧ ts[3]? = some fl
section
variable {M : Model} {A : Around} {E : Value → Shared → Prop} {s : Shared} {base : Heap} {env : Env} {outer : List Env} {L e : Addr}
theorem noteEntry {oe : Obj} {vs : Array Value} {head : Value} {hadNext : Bool} {Q : Unit → Shared → Prop}
    (hfr : A.frames = some (env :: outer)) (hl : s.heap.FunFrames base (env :: outer)) (hf : env.frame = some L)
    (he : s.heap.get? e = some oe) (hd : oe.data = .fields vs) (hsz : 1 < vs.size) (hc : vs[2]? = some .none)
    (h : ∀ h' T, ExcIs h' e oe.cls (.ref T) → TbIs h' T (rawInt L) → T ≠ e → s.heap.get? T = none → Kp ((env :: outer).filterMap (·.frame)) [e] s.heap h' → Q () { s with heap := h' }) :
    wpAny M A (do let a ← frameOf env; let pl ← entryPlaceOf L hadNext; let b ← EntryCells.newEntry head a .none (rawInt L) .none pl; setField (.ref e) 1 b) Q E s := by
  have hene : e ∉ (env :: outer).filterMap (·.frame) := fun hm => by
    obtain ⟨_, o, ho, hnf⟩ := hl.mem hm
    rw [he] at ho; injection ho with ho; subst ho; exact hnf vs hd
  refine wpAny_bind (wpAny_frameOf_fun hfr hl hf fun h₁ hs₁ => ?_)
  refine wpAny_bind (wpAny_entryPlaceOf fun pl hpl => ?_)
  unfold EntryCells.newEntry newFields
  refine wpAny_bind (wpAny_newObj_type ?_ (hpl.sizeOk5 _ _ _ _ _))
  have he₁ : h₁.get? e = some oe := (hs₁.2.1 e hene).trans he
  generalize hoT : ({ cls := .type "traceback", dict := none, data := .fields ([head, .ref L, .none, rawInt L, .none] ++ (if pl.isEmpty then List.replicate 6 Value.none else pl)).toArray } : Obj) = oT
  have hoT' : ({ cls := .type "traceback", data := .fields ([head, .ref L, .none, rawInt L, .none] ++ (if pl.isEmpty then List.replicate 6 Value.none else pl)).toArray } : Obj) = oT := hoT
  have he₂ := Heap.get?_push_of_some (h := h₁) oT he₁
  have hfree : oT.isFreed = false := by rw [← hoT]; rfl
  have hT₁ := Heap.get?_push_size h₁ hfree
  have hTd : ∃ ts, oT.data = .fields ts ∧ ts[3]? = some (rawInt L) := by rw [← hoT]; exact ⟨_, rfl, by simp⟩
  try rw [hoT']
  refine wpAny_setField he₂ hd hsz (h _ h₁.objs.size ?_ ?_ ?_ ?_ ?_)
  all_goals try dsimp only
  · have hd₃ := Obj.data_mapFields hd (·.setIfInBounds 1 (Value.ref h₁.objs.size))
    refine ⟨_, _, Heap.get?_update_self (Obj.mapFields (·.setIfInBounds 1 (Value.ref h₁.objs.size))) he₂ (Obj.isFreed_of_fields hd₃), Obj.cls_mapFields _ _, hd₃, by simp [hsz], ?_⟩
    rw [Array.getElem?_setIfInBounds_ne (by decide)]; exact hc
  · have hTe : e ≠ h₁.objs.size := Nat.ne_of_lt (Heap.lt_size he₁)
    obtain ⟨ts, t1, t2⟩ := hTd
    exact ⟨oT, ts, (Heap.get?_update_other _ _ hTe).trans hT₁, t1, t2⟩
  · exact Nat.ne_of_gt (Heap.lt_size he₁)
  · cases q : s.heap.get? h₁.objs.size with
    | none => rfl
    | some o => have := Heap.lt_size q; rw [hs₁.1] at this; exact absurd this (Nat.lt_irrefl _)
  · intro b o hb ho
    have hbe : e ≠ b := fun q => hb (by rw [q]; exact .head _)
    obtain ⟨sl, e1⟩ := hs₁.2.2 b o ho
    refine ⟨sl, (Heap.get?_update_other _ _ hbe).trans (Heap.get?_push_of_some _ e1), fun q => ?_⟩
    have e2 := (hs₁.2.1 b q).trans ho
    rw [e1] at e2
    exact congrArg Obj.slots (Option.some.inj e2)
theorem setFlightNone {T : Addr} {cls fl : Value} {Q : Unit → Shared → Prop} (he : ExcIs s.heap e cls (.ref T)) (hT : TbIs s.heap T fl) (hne : T ≠ e)
    (h : ∀ h', ExcIs h' e cls (.ref T) → TbIs h' T .none → (∀ b o, b ≠ T → s.heap.get? b = some o → h'.get? b = some o) → Q () { s with heap := h' }) : wpAny M A (setFlight (.ref e) none) Q E s := by
  obtain ⟨oe, vs, h1, h2, h3, h4, h5⟩ := he
  obtain ⟨oT, ts, t1, t2, t3⟩ := hT
  have hsz : 3 < ts.size := (Array.getElem?_eq_some_iff.mp t3).1
  refine wpAny_setFlight_none h1 h3 h4 t1 t2 hsz (h _ ?_ ?_ ?_)
  · exact ⟨oe, vs, (Heap.get?_update_other _ _ hne).trans h1, h2, h3, h4, h5⟩
  · have hd₃ := Obj.data_mapFields t2 (·.setIfInBounds 3 Value.none)
    exact ⟨_, _, Heap.get?_update_self (Obj.mapFields (·.setIfInBounds 3 Value.none)) t1 (Obj.isFreed_of_fields hd₃), hd₃, by simp [hsz]⟩
  · intro b o hb ho
    exact (Heap.get?_update_other _ _ (Ne.symm hb)).trans ho
/-- the frame where it was raised is left -/
theorem leavingP {oe : Obj} {vs : Array Value} {Q : Unit → Shared → Prop}
    (hfr : A.frames = some (env :: outer)) (hl : s.heap.FunFrames base (env :: outer)) (hf : env.frame = some L)
    (he : s.heap.get? e = some oe) (hd : oe.data = .fields vs) (h1 : vs[1]? = some .none) (hc : vs[2]? = some .none)
    (h : ∀ h' T, ExcIs h' e oe.cls (.ref T) → TbIs h' T .none → T ≠ e → s.heap.get? T = none → Kp ((env :: outer).filterMap (·.frame)) [e] s.heap h' → Q () { s with heap := h' }) : wpAny M A (leaving env (.ref e)) Q E s := by
  unfold leaving noteFrame
  simp only [hf]
  refine wpAny_bind (wpAny_bind (wpAny_field he hd h1 ?_))
  rw [if_neg (by decide)]
  refine noteEntry hfr hl hf he hd (Array.getElem?_eq_some_iff.mp h1).1 hc fun h' T x1 x2 x3 x4 x5 => ?_
  refine setFlightNone (s := { s with heap := h' }) x1 x2 x3 fun h'' y1 y2 y3 => ?_
  refine h h'' T y1 y2 x3 x4 fun b o hb ho => ?_
  obtain ⟨sl, e1, n1⟩ := x5 b o hb ho
  exact ⟨sl, y3 b _ (fun q => by rw [q, x4] at ho; cases ho) e1, n1⟩
/-- the frame where it is caught is noted -/
theorem notingP {T : Addr} {cls : Value} {Q : Unit → Shared → Prop}
    (hfr : A.frames = some (env :: outer)) (hl : s.heap.FunFrames base (env :: outer)) (hf : env.frame = some L) (he : ExcIs s.heap e cls (.ref T)) (hT : TbIs s.heap T .none) (hne : T ≠ e)
    (h : ∀ h' T', ExcIs h' e cls (.ref T') → TbIs h' T' (rawInt L) → T' ≠ e → s.heap.get? T' = none → Kp ((env :: outer).filterMap (·.frame)) [e, T] s.heap h' → Q () { s with heap := h' }) : wpAny M A (noteFrame (.ref e) env) Q E s := by
  obtain ⟨oe, vs, h1, h2, h3, h4, h5⟩ := he
  obtain ⟨oT, ts, t1, t2, t3⟩ := hT
  have hsz : 3 < ts.size := (Array.getElem?_eq_some_iff.mp t3).1
  unfold noteFrame
  simp only [hf]
  refine wpAny_bind (wpAny_field h1 h3 h4 ?_)
  rw [if_pos (show (Value.ref T != Value.none) = true from by simp)]
  refine wpAny_bind (wpAny_field t1 t2 t3 ?_)
  rw [if_neg (show ¬ ((Value.none == rawInt L) = true) from by simp [rawInt])]
  refine wpAny_bind (wpAny_setField t1 t2 hsz ?_)
  have other : ∀ b o, b ≠ T → s.heap.get? b = some o → (s.heap.update T (Obj.mapFields (·.setIfInBounds 3 Value.none))).get? b = some o := fun b o hb ho => (Heap.get?_update_other _ _ (Ne.symm hb)).trans ho
  have hl' : (s.heap.update T (Obj.mapFields (·.setIfInBounds 3 Value.none))).FunFrames base (env :: outer) := hl.of_keeps fun b o ho hnf => ⟨o, other b o (fun q => by rw [q, t1] at ho; cases ho; exact hnf _ t2) ho, rfl⟩
  have hd₃ := Obj.data_mapFields t2 (·.setIfInBounds 3 Value.none)
  have hT₃ := Heap.get?_update_self (Obj.mapFields (·.setIfInBounds 3 Value.none)) t1 (Obj.isFreed_of_fields hd₃)
  refine noteEntry (s := { s with heap := s.heap.update T (Obj.mapFields (·.setIfInBounds 3 Value.none)) }) hfr hl' hf (other e oe (Ne.symm hne) h1) h3 (Array.getElem?_eq_some_iff.mp h4).1 h5 fun h' T' x1 x2 x3 x4 x5 => ?_
  refine h h' T' (h2 ▸ x1) x2 x3 ?_ fun b o hb ho => ?_
  · cases q : s.heap.get? T' with
    | none => rfl
    | some o =>
      by_cases z : T' = T
      · rw [z] at x4; rw [show (s.heap.update T (Obj.mapFields (·.setIfInBounds 3 Value.none))).get? T = none from x4] at hT₃; cases hT₃
      · have := other T' o z q
        rw [show (s.heap.update T (Obj.mapFields (·.setIfInBounds 3 Value.none))).get? T' = none from x4] at this; cases this
  · simp only [List.mem_cons, List.not_mem_nil, or_false, not_or] at hb
    exact x5 b o (by simp [hb.1]) (other b o hb.2 ho)
end
end Mine
end
section
open PySem PySem.W PySem.Calls PyProof.Rows
set_option Elab.async false
set_option linter.unusedVariables false
namespace Mine
section
variable {prog : Program} {w : World} {G : GX} {l : List Env} {A : Around} {env env' : Env} {ρ ρ' ρc : Rho} {μ μ' μc μ₁ μ₂ : Mu} {H H' H₀ : PH} {h h' h'' h₀ : Heap} {target : PySem.Expr}

theorem ff_of (F : FrOk G l H h) : h.FunFrames ({} : Heap) l := by
  induction l with
  | nil => trivial
  | cons env l ih =>
    obtain ⟨h1, L, o, es, ep, h2, h3, h4, _⟩ := F.all env (.head _)
    exact ⟨h1, ⟨L, o, h2, rfl, h3, fun vs q => by rw [h4] at q; cases q⟩, ih ⟨fun e he => F.all e (.tail _ he)⟩⟩
theorem Step.kp {F D : List Addr} (S : St prog w G l A env ρ μ H h) (st : Step G l [] H h H' h') (k : Kp F D h' h'') (hF : ∀ b ∈ F, (b ∈ frs l ∨ h.get? b = none) ∧ H' b = none) (hD : ∀ b ∈ D, h.get? b = none ∧ H' b = none) : Step G l [] H h H' h'' := by
  have ex : ∀ a o, H' a = some o → h''.get? a = some o := fun a o e => by
    obtain ⟨sl, e1, n1⟩ := k a o (fun q => by rw [(hD a q).2] at e; cases e) (st.ext a o e)
    have n2 := n1 fun q => by rw [(hF a q).2] at e; cases e
    rw [n2] at e1; exact e1
  have nd : ∀ a o, h.get? a = some o → a ∉ D := fun a o e q => by rw [(hD a q).1] at e; cases e
  exact {
    le := st.le
    ext := ex
    new := st.new
    old := fun a o h1 h2 e => by
      obtain ⟨sl, e1, n1⟩ := st.old a o h1 h2 e
      obtain ⟨sl', e2, n2⟩ := k a _ (nd a o e) e1
      refine ⟨sl', e2, fun q => (n2 fun z => ?_).trans (n1 q)⟩
      rcases (hF a z).1 with z | z
      · exact q z
      · rw [z] at e; cases e
    alive := fun a o e => by
      obtain ⟨o', e1⟩ := st.alive a o e
      obtain ⟨sl', e2, _⟩ := k a _ (nd a o e) e1
      exact ⟨_, e2⟩
    tabs := st.tabs.mono (Le.refl _) fun a o ha e => by
      have hlt := (S.tout a ha).2
      obtain ⟨tb, hb, rfl⟩ := List.mem_map.mp ha
      obtain ⟨ps, e0, _⟩ := S.tabs tb hb
      obtain ⟨sl, e1, n1⟩ := k _ o (nd _ _ e0) e
      have n2 := n1 fun q => by
        rcases (hF _ q).1 with z | z
        · obtain ⟨env, he, hf⟩ := List.mem_filterMap.mp z
          obtain ⟨_, L, _, _, _, h2, _, _, _, h6⟩ := S.fr.all env he
          rw [h2] at hf; cases hf
          exact absurd hlt (Nat.not_lt.mpr h6)
        · rw [z] at e0; cases e0
      rw [n2] at e1; exact e1 }
theorem frs_none (F : FrOk G l H h) : ∀ b ∈ frs l, H b = none := fun b hb => by
  obtain ⟨e, he, hf⟩ := List.mem_filterMap.mp hb
  obtain ⟨_, L, _, _, _, h2, _, _, h5, _⟩ := F.all e he
  rw [h2] at hf; cases hf; exact h5

/-- a tree that raises a built-in exception -/
structure Raising (prog : Program) (w : World) (G : GX) (l : List Env) (A : Around) (env : Env) (ρ : Rho) (μ : Mu) {α : Type} (t : Sem α) (X : String) : Prop where
  run : ∀ H (s : Shared) (Q : α → Shared → Prop) (E : Value → Shared → Prop), St prog w G l A env ρ μ H s.heap →
    (∀ H' h' tk e T, Step G l [] H s.heap H' h' → ExcIs h' e (.type X) (.ref T) → TbIs h' T .none → T ≠ e → s.heap.get? e = none → s.heap.get? T = none → H' e = none → H' T = none → E (.ref e) { s with heap := h', toks := tk }) → wpAny (model prog w) A t Q E s

/-- try: a statement that raises; except: the handler that takes it -/
theorem WP.tryRaise {outer : List Env} {L : Addr} {st b₀ : Stmt} {suite : List Stmt} {x : Str} {np hpos pos : Pos} {X T : String} {Φ : AF → Rho → Mu → Prop} (hh : A.handled = none) (hl : l = env :: outer) (hf : env.frame = some L)
    (hr : Raising prog w G l A env ρ μ (exec st env) X)
    (hexc : isSubtype (.type T) (.type "BaseException") = pure true) (hnt : isSubtype (.type ((Manifest.find? T).elim "type" fun x => x.metatype)) (.type "tuple") = pure false) (hsub : isSubtype (.type X) (.type T) = pure true)
    (hname : ∀ (A' : Around) (s : Shared) (Q : Value → Shared → Prop) (E : Value → Shared → Prop), (∀ b o, G.hG.get? b = some o → s.heap.get? b = some o) → Q (.type T) s → wpAny (model prog w) A' (eval (.Name x np) env) Q E s)
    (k : ∀ e, WP prog w G l (A.mark (some (.ref e))) env (execs (b₀ :: suite) env) ρ μ Φ) :
    WP prog w G l A env (exec (.Try [st] [.ExceptHandler (some (.Name x np)) none (b₀ :: suite) hpos] [] [] pos) env) ρ μ Φ := fun H => by
  refine ⟨fun s Q E S hQ => ?_⟩
  have hafr : A.frames = some (env :: outer) := hl ▸ S.afr
  refine wpAny_Try_except ?_
  rw [execs_cons]
  refine wpAny_bind (hr.run H s _ _ S fun H₁ h₁ tk e T₁ st₁ he hT hTe hde hdT hHe hHT => ?_)
  have S₁ := S.step st₁
  have ff₁ : h₁.FunFrames ({} : Heap) (env :: outer) := by rw [← hl]; exact ff_of S₁.fr
  refine notingP (s := { s with heap := h₁, toks := tk }) (base := {}) hafr ff₁ hf he hT hTe fun h₂ T₂ x1 x2 x3 x4 x5 => ?_
  refine setFlightNone (s := { s with heap := h₂, toks := tk }) x1 x2 x3 fun h₃ y1 y2 y3 => ?_
  have hT₂s : s.heap.get? T₂ = none := dead_back st₁.alive x4
  have hHT₂ : H₁ T₂ = none := by
    cases q : H₁ T₂ with
    | none => rfl
    | some o => have := S₁.ext _ _ q; rw [show h₁.get? T₂ = none from x4] at this; cases this
  have k13 : Kp (frs l) [e, T₁, T₂] h₁ h₃ := by
    refine Kp.trans (h' := h₂) (x5.mono (fun b hb => .inl (by rw [hl]; exact hb)) fun b hb => .inl ?_) (Kp.of fun b o hb ho => y3 b o (fun q => hb (by simp [q])) ho)
    simp only [List.mem_cons, List.not_mem_nil, or_false] at hb ⊢
    rcases hb with rfl | rfl <;> simp
  have st₃ : Step G l [] H s.heap H₁ h₃ := st₁.kp S k13 (fun b hb => ⟨.inl hb, frs_none S₁.fr b hb⟩) fun b hb => by
    simp only [List.mem_cons, List.not_mem_nil, or_false] at hb
    rcases hb with rfl | rfl | rfl
    · exact ⟨hde, hHe⟩
    · exact ⟨hdT, hHT⟩
    · exact ⟨hT₂s, hHT₂⟩
  obtain ⟨oe, vs, e1, e2, e3, e4, e5⟩ := id y1
  have st₃' := st₃.freezeNew hde hHe e1
  have S₃ := S.step st₃'
  refine wpAny_handleBy_builtin (X := X) (T := T) (b := true) hexc hnt hsub (hname _ { s with heap := h₃, toks := tk } _ _ (fun b o q => S₃.ext _ _ (S₃.glob b o q)) ⟨rfl, ⟨oe, e1, e2⟩, ?_⟩)
  rw [if_pos rfl]
  refine setFlightNone (s := { s with heap := h₃, toks := tk }) y1 y2 x3 fun h₄ z1 z2 z3 => ?_
  have hHT₂' : addO H₁ e oe T₂ = none := (addO_ne x3).trans hHT₂
  have st₄ : Step G l [] H s.heap (addO H₁ e oe) h₄ := st₃'.kp (F := []) (D := [T₂]) S (Kp.of fun b o hb ho => z3 b o (fun q => hb (by rw [q]; exact .head _)) ho) (fun _ q => nomatch q) fun b hb => by rw [List.mem_singleton.mp hb]; exact ⟨hT₂s, hHT₂'⟩
  have S₄ := S.step st₄
  have S₄' : St prog w G l (A.mark (some (.ref e))) env ρ μ (addO H₁ e oe) h₄ := { S₄ with
    hok := .inr ⟨e, oe, vs, rfl, addO_self .., e3, e5⟩
    afr := S₄.afr }
  refine (k e (addO H₁ e oe)).run { s with heap := h₄, toks := tk } _ _ S₄' fun f ρ' μ' H₅ h₅ tk₅ S₅ st₅ hm hx9 => ?_
  obtain ⟨af, hfr, hΦ⟩ := hx9
  refine hQ f ρ' μ' H₅ h₅ tk₅ { S₅ with hok := .inl hh, afr := S₅.afr } ((st₄.weakX fun _ q => nomatch q).trans' st₅ fun a ha => .inl ha) (MuLe.trans (h := s.heap) (h' := h₄) .refl hm fun a q => dead_back st₄.alive q) ⟨af, hfr, hΦ⟩
end
end Mine
end
section
open PySem PySem.W PySem.Calls PyProof.Rows
set_option Elab.async false
set_option linter.unusedVariables false
set_option exponentiation.threshold 100
namespace Mine
section
variable {prog : Program} {w : World} {G : GX} {l : List Env} {A : Around} {env env' : Env} {ρ ρ' ρc : Rho} {μ μ' μc μ₁ μ₂ : Mu} {H H' H₀ : PH} {h h' h'' h₀ : Heap} {target : PySem.Expr}

theorem EvT.at {e : PySem.Expr} {b : Bool} (h : EvT prog w G l A env ρ μ e b) (H : PH) : Tr prog w G l A env ρ μ H (isTrue e env (eval e env)) fun _ r => r = b := h H
/-- a function whose body raises -/
theorem call_raises {K : Frag} {fd : FuncData} {body : List Stmt} {a : Addr} {oc : Value} {od : Option Addr} {osl : Array (Option Value)} {ps : List Str} {ds : List Dat} {vals : List Value} {X : String} (XK : K.In G.hG) (e : K.lookup a = some ⟨oc, od, .func fd, osl⟩) (hbody : fd.body = .stmts body) (ok : fnOk K fd ps = true) (ok' : locOk fd ps = true)
    (hb : BindK K fd ps ds.length) (hroom : A.depth < recursionLimit) (hlen : ps.length = ds.length)
    (k : ∀ L H (s : Shared) (Q : Flow → Shared → Prop) (E : Value → Shared → Prop), St prog w G (callEnv fd L a :: l) (A.deeper (callEnv fd L a)) (callEnv fd L a) (ps.zip ds).reverse [] H s.heap →
      (∀ H' h₁ h' tk e, Step G (callEnv fd L a :: l) [] H s.heap H' h₁ → Heap.NewExc h₁ h' e X → E (.ref e) { s with heap := h', toks := tk }) → wpAny (model prog w) (A.deeper (callEnv fd L a)) (execs body (callEnv fd L a)) Q E s)
    {s : Shared} {Q : Value → Shared → Prop} {E : Value → Shared → Prop} (S : St prog w G l A env ρ μ H s.heap) (r : Reps prog w H vals ds)
    (hE : ∀ H' h' tk e T, Step G l [] H s.heap H' h' → ExcIs h' e (.type X) (.ref T) → TbIs h' T .none → T ≠ e → s.heap.get? e = none → s.heap.get? T = none → H' e = none → H' T = none → E (.ref e) { s with heap := h', toks := tk }) :
    wpAny (model prog w) A (call (.ref a) vals) Q E s := by
  obtain ⟨F, hclo, hnd⟩ := fnFacts XK e hbody ok S.glob
  unfold locOk at ok'
  simp only [Bool.and_eq_true, List.all_eq_true, beq_iff_eq, bne_iff_ne] at ok'
  obtain ⟨hloc, hcell⟩ := ok'
  obtain ⟨o, ho, hd⟩ := F.at_
  have hcd : s.heap.CodeRec fd.code fd.qualname := by
    obtain ⟨c, oc, vs, t, h1, h2, h3, h4⟩ := F.code
    exact ⟨c, oc, vs, t, h1, S.ext _ _ h2, h3, h4⟩
  have hvl : vals.length = ds.length := r.length
  have hfst : (ps.zip vals).map (·.1) = ps := zip_fst ps vals (hlen.trans hvl.symm)
  have hmem : ∀ x ∈ ps.zip vals, x.1 ∈ ps := fun x hx => by have := List.mem_map_of_mem (f := (·.1)) hx; rw [hfst] at this; exact this
  have hlim : s.heap.NoLimit := G.nolim.keeps fun b o e => S.ext _ _ (S.glob b o e)
  have kind : ∀ x, (callEnv fd s.heap.objs.size a).kindOf x = fd.scope.names.lookup x := fun x => rfl
  refine wpAny_call (codeAny_call_def hroom (S.ext _ _ ho) hd hlim hcd F.body (hb.run s vals (XK.keeps fun b o q => S.ext _ _ (S.glob b o q)) hvl) hcell (fun x hx => hloc x.1 (hmem x hx)) (fun h₀ hns old => ?_) F.co F.gen F.kind)
  have hns' : h₀.Ns (callEnv fd s.heap.objs.size a).locals fun x => (ps.zip vals).lookup x := by
    have e : (fun x => (ps.zip vals).reverse.lookup x) = fun x => (ps.zip vals).lookup x := funext fun x => lookup_reverse _ x (by rw [hfst]; exact hnd)
    rw [← e]; exact hns
  have hdn : ((ps.zip ds).map (·.1)).Nodup := by rw [zip_fst ps ds hlen]; exact hnd
  have hpl : ∀ x d, (ps.zip ds).lookup x = some d → x ∈ ps := fun x d e => by
    have := List.mem_map_of_mem (f := (·.1)) (mem_of_lookup e); rw [zip_fst ps ds hlen] at this; exact this
  have S' : St prog w G (callEnv fd s.heap.objs.size a :: l) (A.deeper (callEnv fd s.heap.objs.size a)) (callEnv fd s.heap.objs.size a) (ps.zip ds).reverse [] H h₀ := by
    refine S.callee old rfl rfl F.kind F.globals F.builtins hns' (fun x d hx hk => ?_) (fun x d hx hk => ?_) (fun x c hm => ?_) ?_ (fun x hk => ?_) (fun _ q => nomatch q) .nil
    · rw [lookup_reverse _ x hdn] at hx
      exact zip_lookup r ps x _ hnd hx
    · rw [lookup_reverse _ x hdn] at hx
      exact absurd (hloc x (hpl x d hx)) hk
    · have hm : (x, c) ∈ fd.closure := hm
      rw [hclo] at hm; cases hm
    · show fd.closure.Pairwise _
      rw [hclo]; exact .nil
    · exact absurd rfl (hcell (x, .cell) (mem_of_lookup hk))
  refine k s.heap.objs.size H { s with heap := h₀, toks := _ } _ _ S' fun H₁ h₁ h₂ tk e st hx => ?_
  have S₁ := S'.step st
  obtain ⟨ob, t, o1, o2, o3⟩ := hx.there
  have keepX := hx.keeps
  have ff : h₂.FunFrames ({} : Heap) (callEnv fd s.heap.objs.size a :: l) := (ff_of S₁.fr).of_keeps fun b o ho _ => ⟨o, keepX b o ho, rfl⟩
  refine leavingP (s := { s with heap := h₂, toks := tk }) (base := {}) S'.afr ff rfl o1 o3 rfl rfl fun h₃ T x1 x2 x3 x4 x5 => ?_
  have hT₁ : h₁.get? T = none := by
    cases q : h₁.get? T with
    | none => rfl
    | some o => have := keepX _ _ q; rw [show h₂.get? T = none from x4] at this; cases this
  have deadS : ∀ b, h₁.get? b = none → s.heap.get? b = none := fun b hb => by
    cases q : s.heap.get? b with
    | none => rfl
    | some o => obtain ⟨o', z⟩ := st.alive b o (old b o q); rw [hb] at z; cases z
  have hH : ∀ b, h₁.get? b = none → H₁ b = none := fun b hb => by
    cases q : H₁ b with
    | none => rfl
    | some o => have := S₁.ext _ _ q; rw [hb] at this; cases this
  have st₁ : Step G l [] H s.heap H₁ h₁ := Step.leave (μc := []) S old rfl rfl (fun _ q => nomatch q) (st.weakX fun _ q => nomatch q)
  have st₃ : Step G l [] H s.heap H₁ h₃ := st₁.kp (F := frs (callEnv fd s.heap.objs.size a :: l)) (D := [e]) S ((Kp.of fun b o _ ho => keepX b o ho).trans x5) (fun b hb => ⟨?_, frs_none S₁.fr b hb⟩) fun b hb => by rw [List.mem_singleton.mp hb]; exact ⟨deadS _ hx.new, hH _ hx.new⟩
  · exact hE H₁ h₃ tk e T st₃ (o2 ▸ x1) x2 x3 (deadS _ hx.new) (deadS _ hT₁) (hH _ hx.new) (hH _ hT₁)
  · have hb' : b ∈ s.heap.objs.size :: frs l := hb
    rcases List.mem_cons.mp hb' with q | q
    · exact .inr (by rw [q]; exact fresh_get (Nat.le_refl _))
    · exact .inl q
theorem GT.classRaw {P : Params} (X : GT P G) {x : Str} {pos : Pos} {v : Value} (hkf : env.scope.kind = .function) (hge : env.globals = mainGlobals) (hbe : env.builtins = builtinsNs) (e : nsIn (Mine.hd.heap_39 P) mainGlobals x = some none) (hv : bootBuiltins x = some v)
    (A' : Around) (s : Shared) (Q : Value → Shared → Prop) (E : Value → Shared → Prop) (up : ∀ b o, G.hG.get? b = some o → s.heap.get? b = some o) (hQ : Q v s) (hnm : x ≠ "__name__" := by decide) (hk : env.kindOf x = some .globalImplicit := by rfl) (hd : (x == ("__debug__" : Str)) = false := by decide) : wpAny (model prog w) A' (eval (.Name x pos) env) Q E s := by
  obtain ⟨pr, loose, mg, mb, T⟩ := X.T
  have hg' : s.heap.Ns env.globals mg := by rw [hge]; exact T.g.keeps up
  have hb' : s.heap.Ns env.builtins mb := by rw [hbe]; exact T.b.keeps up
  exact Name_function_global hkf hk (loadGlobal_builtin hg' (mg_none_of X.K T.g e) hb' ((T.builtins x hnm).trans hv) hQ) hd
/-- int_divmod(a, 0) -/
theorem divmod_zero {P : Params} (X : GT P G) (hh : A.handled = none) (hroom : A.depth + 5 < recursionLimit) (a : Int) {x : Str} {np cpos pos : Pos} {e₁ e₂ : PySem.Expr} (hx : Ev prog w G l A env ρ μ (.Name x np) (.val (.ref 56))) (he : Evs prog w G l A env ρ μ [e₁, e₂] [.int a, .int 0])
    (hint : interactive env = false := by rfl) (hsw : swapsWith (.Call (.Name x np) [e₁, e₂] [] cpos) none pos.line env = pure false := by rfl) :
    Raising prog w G l A env ρ μ (exec (.Expr (.Call (.Name x np) [e₁, e₂] [] cpos) pos) env) "ZeroDivisionError" where
  run := fun H s Q E S hE => by
    rw [arm_exec_Expr, hint, hsw]
    refine wpAny_bind (wpAny_standAt ?_)
    simp only [Bool.false_eq_true, if_false, pure_bind]
    rw [arm_eval_Call_Name']
    refine wpAny_bind (wpAny_bind ((hx H).run s _ _ S fun v H₁ h₁ tk₁ st₁ r => ?_))
    cases r.isVal
    have S₁ := S.step st₁
    refine callWith_run (s := { s with heap := h₁, toks := tk₁ }) S₁ (KeepG.K X.K (by exact rfl) H₁ S₁.glob) he fun vs H₂ h₂ tk₂ st₂ r₂ => ?_
    rw [List.nil_append]
    have st := st₁.trans st₂
    refine call_raises (ps := ["a", "b"]) (ds := [.int a, .int 0]) (X := "ZeroDivisionError") X.K (by exact rfl) rfl (by exact rfl) (by exact rfl) (BindK.two fun _ _ => rfl) (by (first | lia -abstractProof | omega)) rfl (fun L H s Q E S hE => ?_) (s := { s with heap := h₂, toks := tk₂ }) (S.step st) r₂ fun H₃ h₃ tk₃ e T st₃ q1 q2 q3 q4 q5 q6 q7 => ?_
    · rw [show fdB (Mine.st 7) = _ :: _ from rfl, execs_cons, exec_If]
      refine wpAny_bind (wpAny_bind (wpAny_standAt (wpAny_bind ?_)))
      refine (EvT.at (b := true) ?ht H).run s _ E S fun v H₁ h₁ tk₁ st₁ hv => ?_
      · exact EvT.cmp (Ev.name rfl) Ev.int CmpSem.eq
      subst hv
      rw [if_pos rfl, execs_cons]
      refine wpAny_bind ?_
      have S₁ := S.step st₁
      refine Raise_classB hh excClass_ZeroDivisionError (isSubtype_of_subB (by decide +kernel)) (X.classRaw rfl rfl rfl (by exact rfl) rfl _ _ _ _ (fun b o q => S₁.ext _ _ (S₁.glob b o q)) ⟨rfl, rfl⟩) fun h' e hn => ?_
      exact hE H₁ h₁ h' tk₁ e st₁ hn
    · exact hE H₃ h₃ tk₃ e T (st.trans st₃) q1 q2 q3 (dead_back st.alive q4) (dead_back st.alive q5) q6 q7
end
end Mine
end
section
open PySem PySem.W PySem.Calls PyProof.Rows
set_option Elab.async false
set_option linter.unusedVariables false
set_option exponentiation.threshold 100
namespace Mine
noncomputable def oneOf (n : Int) (r : Int) : Int := if r = 0 then n else if r = 1 then -n else if r = 2 then Builtin.bitNot n else -Builtin.bitNot n
noncomputable def twoOf (o : Int) (r : Int) : Int := if r = 0 then o else if r = 1 then -o else if r = 2 then o else -o
theorem quot_back (n o r : Int) (ho : 0 < o) (hr : r = 0 ∨ r = 1 ∨ r = 2 ∨ r = 3) : (if 1 < r then Builtin.bitNot ((oneOf n r).fdiv (twoOf o r)) else (oneOf n r).fdiv (twoOf o r)) = n.fdiv o := by
  rcases hr with rfl | rfl | rfl | rfl
  · rfl
  · exact Int.neg_fdiv_neg n o
  · exact (fdiv_not n o ho).1
  · show Builtin.bitNot ((-Builtin.bitNot n).fdiv (-o)) = _
    rw [Int.neg_fdiv_neg]; exact (fdiv_not n o ho).1
theorem intBits_neg (x : Int) : Builtin.Int.intBits (-x) = Builtin.Int.intBits x := by
  have h1 := intBits_neg_le (Nat.le_refl (Builtin.Int.intBits x))
  have h2 := intBits_neg_le (Nat.le_refl (Builtin.Int.intBits (-x)))
  rw [Int.neg_neg] at h2
  (first | lia | omega)
theorem intBits_not {x : Int} {k : Nat} (h : Builtin.Int.intBits x ≤ k) : Builtin.Int.intBits (Builtin.bitNot x) ≤ max k 1 + 1 :=
  intBits_sub_le (intBits_neg_le h) (show Builtin.Int.intBits (1 : Int) ≤ 1 by decide)
section
variable {prog : Program} {w : World} {G : GX} {l : List Env} {A : Around} {env env' : Env} {ρ ρ' ρc : Rho} {μ μ' μc μ₁ μ₂ : Mu} {H H' H₀ : PH} {h h' h'' h₀ : Heap} {target : PySem.Expr}

theorem EvT.cast {e : PySem.Expr} {b c : Bool} (h : EvT prog w G l A env ρ μ e c) (q : c = b) : EvT prog w G l A env ρ μ e b := q ▸ h
theorem law_quotient_spec {P : Params} (X : GTN P G) (hh : A.handled = none) (hroom : A.depth + 340 < recursionLimit) (n o way : Int) (ho : 0 < o) (hn : Builtin.Int.intBits n ≤ 3990) (ho1 : 100 ≤ Builtin.Int.intBits o) (ho2 : Builtin.Int.intBits o ≤ 4000) :
    CallSem prog w G l A env ρ μ (.ref 150) [.int n, .int o, .int way] (.int (n.fdiv o)) := by
  refine CallSem.fn (ps := ["number", "over", "way"]) X.T.K (by exact rfl) rfl (by exact rfl) (by exact rfl) (BindK.three fun _ _ _ => rfl) (by (first | lia -abstractProof | omega)) rfl fun L => ?_
  obtain ⟨r, hr⟩ : ∃ r, r = way.fmod 4 := ⟨_, rfl⟩
  have hr4 : r = 0 ∨ r = 1 ∨ r = 2 ∨ r = 3 := by
    have h1 := Int.fmod_nonneg_of_pos way (b := 4) (by decide)
    have h2 := Int.fmod_lt_of_pos way (b := 4) (by decide)
    (first | lia -abstractProof | omega)
  have hmod : ∀ {l : List Env} {A : Around} {env : Env} {ρ : Rho} {μ : Mu} {e : PySem.Expr} {pos p : Pos} {k : Nat}, Ev prog w G l A env ρ μ e (.int way) → Ev prog w G l A env ρ μ (.BinOp e .Mod (.Constant (.int 4) k p) pos) (.int r) := fun he => by
    rw [hr]; exact Ev.bin he Ev.int (BinSem.fmod (by decide))
  have h1b : Builtin.Int.intBits (oneOf n r) ≤ 4000 := by
    have := intBits_not hn
    unfold oneOf
    split
    · (first | lia -abstractProof | omega)
    · split
      · rw [intBits_neg]; (first | lia -abstractProof | omega)
      · split
        · (first | lia -abstractProof | omega)
        · rw [intBits_neg]; (first | lia -abstractProof | omega)
  have h2b : Builtin.Int.intBits (twoOf o r) = Builtin.Int.intBits o := by
    unfold twoOf
    split
    · rfl
    · split
      · exact intBits_neg o
      · split
        · rfl
        · exact intBits_neg o
  refine WP.cons (WP.assignTup (EvO.pure (d := .tup [.int (oneOf n r), .int (twoOf o r)]) (Ev.sub (Ev.tuple (.cons (Ev.tuple (.cons (Ev.name rfl) (.cons (Ev.name rfl) .nil))) (.cons (Ev.tuple (.cons (Ev.neg (Ev.name rfl)) (.cons (Ev.neg (Ev.name rfl)) .nil)))
    (.cons (Ev.tuple (.cons (Ev.inv (Ev.name rfl)) (.cons (Ev.name rfl) .nil))) (.cons (Ev.tuple (.cons (Ev.neg (Ev.inv (Ev.name rfl))) (.cons (Ev.neg (Ev.name rfl)) .nil))) .nil))))) (hmod (Ev.name rfl)) (SubSem.tup (by (first | lia -abstractProof | omega)) ?_ (by (first | lia -abstractProof | omega)))) ⟨_, .tup (.cons (.cons .nil)), ?_⟩))
  · rcases hr4 with rfl | rfl | rfl | rfl <;> rfl
  refine WP.cons (WP.tryRaise (X := "ZeroDivisionError") (T := "ZeroDivisionError") hh rfl rfl ?_ (isSubtype_of_subB (by decide +kernel)) (isSubtype_of_subB (by decide +kernel)) (isSubtype_of_subB (by decide +kernel)) ?_ fun e => ?_)
  · exact divmod_zero (A := A.deeper _) X.T hh (by show A.depth + 1 + 5 < recursionLimit; (first | lia -abstractProof | omega)) (oneOf n r) (X.T.glob (by exact rfl) fun _ => .val _) (.cons (Ev.name rfl) (.cons Ev.int .nil))
  · exact fun A' s Q E up hQ => X.T.classRaw rfl rfl rfl (by exact rfl) rfl A' s Q E up hQ
  refine WP.cons (WP.assignTup (EvO.pure (Ev.callName (X.T.glob (by exact rfl) fun _ => .val _) (KeepG.K X.T.K (by exact rfl)) (.cons (Ev.name rfl) (.cons (Ev.name rfl) .nil)) (int_divmod_spec (A := Around.mark (A.deeper _) _) X (by show A.depth + 1 + 330 < recursionLimit; (first | lia -abstractProof | omega)) (oneOf n r) (twoOf o r) h1b (by (first | lia -abstractProof | omega)) (by (first | lia -abstractProof | omega)))) ⟨_, .tup (.cons (.cons .nil)), ?_⟩))
  have hback : (oneOf n r).fdiv (twoOf o r) * twoOf o r + (oneOf n r).fmod (twoOf o r) = oneOf n r := by
    rw [Int.fmod_def, Int.mul_comm]; (first | lia -abstractProof | omega)
  refine WP.cons (WP.ifs (b := true) ?_ (fun _ => ?_) fun q => by cases q)
  · refine EvT.cast (EvT.cmp (Ev.bin (Ev.bin (Ev.name rfl) (Ev.name rfl) (BinSem.mul (.of_le (intBits_fdiv_le h1b) (Nat.le_of_eq h2b) (by (first | lia -abstractProof | omega))))) (Ev.name rfl) BinSem.add) (Ev.name rfl) CmpSem.eq) ?_
    rw [hback, beq_self_eq_true]
  · refine WP.cons (WP.ret (d := .int (n.fdiv o)) ?_ rfl)
    rw [← quot_back n o r ho hr4]
    refine Ev.ite (c := decide (1 < r)) (EvT.cmp (hmod (Ev.name rfl)) Ev.int CmpSem.gt) (fun q => ?_) fun q => ?_
    · rw [if_pos (of_decide_eq_true q)]; exact Ev.inv (Ev.name rfl)
    · rw [if_neg (of_decide_eq_false q)]; exact Ev.name rfl
end
end Mine
end
section
open PySem PySem.W PySem.Calls PyProof.Rows
set_option Elab.async false
set_option linter.unusedVariables false
set_option exponentiation.threshold 100
namespace Mine
/-! what _law_step computes -/
noncomputable def partStep (B : Int) (N : Int → Int) (part k : Int) : Int := (part * N k).fdiv (B ^ 5)
noncomputable def partOf (B : Int) (N : Int → Int) (l : Int) (ks : List Int) : Int := ks.foldl (partStep B N) (B ^ (17 - l).toNat)
noncomputable def without (ks : List Int) (p : Nat) : List Int := ks.take p ++ ks.drop (p + 1)
abbrev Acc := (Int → Int) × (Int → Int → Int)
noncomputable def doPlace (B : Int) (N : Int → Int) (r : Rule) (st : Acc) (p : Nat) : Acc :=
  if p < r.2.2.length then (st.1, fun h j => if h = r.1 ∧ j = r.2.2.getD p 0 then st.2 h j + partOf B N r.2.1 (without r.2.2 p) else st.2 h j)
  else (fun h => if h = r.1 then st.1 h + partOf B N r.2.1 (without r.2.2 p) else st.1 h, st.2)
noncomputable def doRule (B : Int) (N : Int → Int) (st : Acc) (r : Rule) : Acc := (List.range (r.2.2.length + 1)).foldl (doPlace B N r) st
noncomputable def doRules (B : Int) (N : Int → Int) (rules : List Rule) : Acc := rules.foldl (doRule B N) (fun _ => 0, fun _ _ => 0)
structure RuleOk (r : Rule) : Prop where
  head : r.1 = 0 ∨ r.1 = 1
  lo : 0 ≤ r.2.1
  hi : r.2.1 ≤ 3
  len : r.2.2.length ≤ 3
  kid : ∀ k ∈ r.2.2, k = 0 ∨ k = 1
theorem range_take (n i : Nat) (h : i ≤ n) : (List.range n).take i = List.range i := by
  rw [List.take_range, Nat.min_eq_left h]
theorem pick_take (ds : List Dat) (p : Nat) (h : p ≤ ds.length) : pick ds none (some (p : Int)) none = ds.take p := by
  unfold pick
  have e : sliceBounds none (some (p : Int)) none ds.length = (((0 : Nat) : Int), (p : Int), 1) := by
    unfold sliceBounds
    simp only [Option.getD_none, show (1 : Int) > 0 by decide, if_true, show ¬ ((1 : Int) < 0) by decide, if_false]
    refine Prod.ext rfl (Prod.ext ?_ rfl)
    simp only
    have h0 : ¬ ((p : Int) < 0) := by (first | lia -abstractProof | omega)
    rw [if_neg h0]
    (first | lia -abstractProof | omega)
  rw [e]
  dsimp only
  rw [sliceRange_one, range_pick _ _ _ (by (first | lia -abstractProof | omega))]
  simp
theorem pick_from (ds : List Dat) (p : Nat) : pick ds (some (p : Int)) none none = ds.drop p := by
  unfold pick
  have e : sliceBounds (some (p : Int)) none none ds.length = (((min p ds.length : Nat) : Int), (ds.length : Int), 1) := by
    unfold sliceBounds
    simp only [Option.getD_none, show (1 : Int) > 0 by decide, if_true, show ¬ ((1 : Int) < 0) by decide, if_false]
    refine Prod.ext ?_ rfl
    simp only
    have h0 : ¬ ((p : Int) < 0) := by omega
    rw [if_neg h0]
    omega
  rw [e]
  dsimp only
  rw [sliceRange_one, range_pick _ _ _ (by omega)]
  rw [List.take_of_length_le (by rw [List.length_drop]; omega)]
  by_cases h : p ≤ ds.length
  · rw [Nat.min_eq_left h]
  · rw [Nat.min_eq_right (by omega), List.drop_eq_nil_of_le (Nat.le_refl _), List.drop_eq_nil_of_le (by omega)]
theorem part_bits (B : Int) (N : Int → Int) (hB : Builtin.Int.intBits B ≤ 49) (hN : ∀ k, Builtin.Int.intBits (N k) ≤ 290) (l : Int) (hl : 0 ≤ l) (ks : List Int) : Builtin.Int.intBits (partOf B N l ks) ≤ 834 + 290 * ks.length := by
  have h : ∀ (ks : List Int) (x : Int) (m : Nat), Builtin.Int.intBits x ≤ m → Builtin.Int.intBits (ks.foldl (partStep B N) x) ≤ m + 290 * ks.length := by
    intro ks
    induction ks with
    | nil => intro x m hx; simpa using hx
    | cons k ks ih =>
      intro x m hx
      have h1 : Builtin.Int.intBits (partStep B N x k) ≤ m + 290 := intBits_fdiv_le (intBits_mul_le hx (hN k))
      have h2 := ih (partStep B N x k) (m + 290) h1
      simp only [List.foldl_cons, List.length_cons]
      (first | lia -abstractProof | omega)
  refine h ks _ 834 (Nat.le_trans (intBits_pow_le hB _) ?_)
  have : (17 - l).toNat ≤ 17 := by (first | lia -abstractProof | omega)
  have := Nat.mul_le_mul_left 49 this
  (first | lia -abstractProof | omega)
section
variable {prog : Program} {w : World} {G : GX} {l : List Env} {A : Around} {env env' : Env} {ρ ρ' ρc : Rho} {μ μ' μc μ₁ μ₂ : Mu} {H H' H₀ : PH} {h h' h'' h₀ : Heap} {target : PySem.Expr}

theorem Ev.cutTo {e e₂ : PySem.Expr} {q pos : Pos} {p : Nat} {cs : List Int} (h : Ev prog w G l A env ρ μ e (.list (intL cs))) (h₂ : Ev prog w G l A env ρ μ e₂ (.int p)) (hp : p ≤ cs.length) (hl : cs.length ≤ 16777216) :
    Ev prog w G l A env ρ μ (.Subscript e (.Slice none (some e₂) none q) pos) (.list (intL (cs.take p))) := by
  have z := Ev.sub (pos := pos) h (Ev.slice (pos := q) .none (.some h₂) .none) (SubSem.slice (by decide) (by simpa using hl))
  rw [pick_take _ _ (by simpa using hp), show (intL cs).take p = intL (cs.take p) from List.map_take.symm] at z
  exact z
theorem Ev.cutFrom {e e₂ : PySem.Expr} {q pos : Pos} {p : Nat} {cs : List Int} (h : Ev prog w G l A env ρ μ e (.list (intL cs))) (h₂ : Ev prog w G l A env ρ μ e₂ (.int p)) (hl : cs.length ≤ 16777216) :
    Ev prog w G l A env ρ μ (.Subscript e (.Slice (some e₂) none none q) pos) (.list (intL (cs.drop p))) := by
  have z := Ev.sub (pos := pos) h (Ev.slice (pos := q) (.some h₂) .none .none) (SubSem.slice (by decide) (by simpa using hl))
  rw [pick_from, show (intL cs).drop p = intL (cs.drop p) from List.map_drop.symm] at z
  exact z
noncomputable def stMu (ps p0 p1 pv : Addr) (st : Acc) : Mu := [(ps, .list [.val (.ref p0), .val (.ref p1)]), (p1, .list [.int (st.2 1 0), .int (st.2 1 1)]), (p0, .list [.int (st.2 0 0), .int (st.2 0 1)]), (pv, .list [.int (st.1 0), .int (st.1 1)])]
theorem law_step_spec {P : Params} (X : GTN P G) (hh : A.handled = none) (hroom : A.depth + 400 < recursionLimit) (rules : List Rule) (hrules : ∀ r ∈ rules, RuleOk r) (hfew : rules.length ≤ 1000) (N : Int → Int) (B way : Int) (hB0 : 0 < B) (hB : Builtin.Int.intBits B ≤ 49) (hN : ∀ k, Builtin.Int.intBits (N k) ≤ 290)
    (V : Int → Int) (S : Int → Int → Int) (hVS : doRules B N rules = (V, S)) (hV : ∀ h, Builtin.Int.intBits (V h) ≤ 1000) (hS : ∀ h j, Builtin.Int.intBits (S h j) ≤ 1000) (one two over l0 l1 : Int) (e1 : one = B ^ 17 - S 0 0) (e2 : two = B ^ 17 - S 1 1) (e3 : over = one * two - S 0 1 * S 1 0)
    (e4 : l0 = (V 0 - N 0 * B ^ 12) * B ^ 5) (e5 : l1 = (V 1 - N 1 * B ^ 12) * B ^ 5) (ho : 0 < over) (hob : 100 ≤ Builtin.Int.intBits over) :
    CallSem prog w G l A env ρ μ (.ref 155) [.list (rules.map ruleD), .list (intL [N 0, N 1]), .int B, .int 5, .int way] (.list (intL [N 0 + (two * l0 + S 0 1 * l1).fdiv over, N 1 + (one * l1 + S 1 0 * l0).fdiv over])) := by
  refine CallSem.fnC (ps := ["rules", "told", "base", "most", "way"]) X.T.K (by exact rfl) rfl (by exact rfl) (by exact rfl) (BindK.five fun _ _ _ _ _ => rfl) (by (first | lia | omega)) rfl fun L => ?_
  have pair : ∀ {env : Env} {A : Around} {l : List Env} {ρ : Rho} {μ : Mu} {k₁ k₂ : Nat} {q₁ q₂ q₃ : Pos}, EvO prog w G l A env ρ μ (.List [.Constant (.int 0) k₁ q₁, .Constant (.int 0) k₂ q₂] q₃) fun d μ' => ∃ pv, d = .val (.ref pv) ∧ μ' = (pv, .list [.int 0, .int 0]) :: μ := by
    intro env A l ρ μ k₁ k₂ q₁ q₂ q₃
    refine EvO.list (.cons (fun d μ' => d = .int 0 ∧ μ' = μ) (EvO.pure Ev.int ⟨rfl, rfl⟩) fun d μ' ⟨q1, q2⟩ => ?_)
    subst q1; subst q2
    refine .cons (fun d μ'' => d = .int 0 ∧ μ'' = μ') (EvO.pure Ev.int ⟨rfl, rfl⟩) fun d μ' hx9 => ?_
    obtain ⟨q1, q2⟩ := hx9
    subst q1; subst q2
    exact .nil ⟨by show 2 ≤ 16777216; decide, fun p => ⟨p, rfl, rfl⟩⟩
  refine WP.cons (WP.assignTup (EvO.tuple (.cons (fun d μ' => ∃ pv, d = .val (.ref pv) ∧ μ' = [(pv, .list [.int 0, .int 0])]) pair fun d μ' ⟨pv, q1, q2⟩ => ?_)))
  subst q1; subst q2
  refine .cons (fun d μ' => ∃ ps p1 p0, d = .val (.ref ps) ∧ μ' = [(ps, .list [.val (.ref p0), .val (.ref p1)]), (p1, .list [.int 0, .int 0]), (p0, .list [.int 0, .int 0]), (pv, .list [.int 0, .int 0])]) (EvO.list (.cons _ pair fun d μ' ⟨p0, q1, q2⟩ => ?_)) fun d μ' hx9 => ?_
  · subst q1; subst q2
    refine .cons _ pair fun d μ' hx9 => ?_
    obtain ⟨p1, q1, q2⟩ := hx9
    subst q1; subst q2
    exact .nil ⟨by show 2 ≤ 16777216; decide, fun ps => ⟨ps, p1, p0, rfl, rfl⟩⟩
  obtain ⟨ps, p1, p0, q1, q2⟩ := hx9
  subst q1; subst q2
  refine .nil ⟨by show 2 ≤ 16777216; decide, _, .tup (.cons (.cons .nil)), ?_⟩
  try dsimp only
  have hNN : ∀ k : Int, k = 0 ∨ k = 1 → (intL [N 0, N 1])[k.toNat]? = some (.int (N k)) := fun k hk => by rcases hk with rfl | rfl <;> rfl
  have hBits5 : Builtin.Int.intBits (B ^ 5) ≤ 246 := Nat.le_trans (intBits_pow_le hB 5) (by decide)
  have hB5 : B ^ 5 ≠ 0 := Int.ne_of_gt (Int.pow_pos hB0)
  have hlog : (B ^ 5).natAbs.log2 < 9000 := by
    have h := intBits_le_iff.mp hBits5
    exact Nat.lt_trans ((Nat.log2_lt (n := (B ^ 5).natAbs) (k := 246) (fun e => hB5 (Int.natAbs_eq_zero.mp e))).mpr h) (by decide)
  have hpow : ∀ n : Int, (Builtin.Int.intBits B : Int) * n ≤ 2 ^ 27 ∨ 1000 < n := fun n => by
    by_cases q : n ≤ 1000
    · left
      have h1 : (Builtin.Int.intBits B : Int) ≤ 49 := by (first | lia | omega)
      by_cases q0 : 0 ≤ n
      · have := Int.mul_le_mul h1 q q0 (by decide)
        (first | lia | omega)
      · have : (Builtin.Int.intBits B : Int) * n ≤ 0 := Int.mul_nonpos_of_nonneg_of_nonpos (by (first | lia | omega)) (by (first | lia | omega))
        (first | lia | omega)
    · right; (first | lia | omega)
  let rho : Rho := [("slope", .val (.ref ps)), ("value", .val (.ref pv)), ("rules", .list (rules.map ruleD)), ("told", .list (intL [N 0, N 1])), ("base", .int B), ("most", .int 5), ("way", .int way)]
  refine WP.cons ?_
  refine WP.forR (ds := rules.map ruleD) (fun _ => rho) (fun i => stMu ps p0 p1 pv ((rules.take i).foldl (doRule B N) (fun _ => 0, fun _ _ => 0))) ?_ (.cons rfl (.cons rfl (.cons rfl (.cons rfl (.cons rfl (.cons rfl (.cons rfl .nil))))))) rfl (fun i d hd => ?_) ?_
  · refine EvIt.list (Ev.name rfl) hh ?_
    intro _ d hd
    obtain ⟨r, _, rfl⟩ := List.mem_map.mp hd
    exact ⟨_, rfl⟩
  · obtain ⟨r, hr, rfl⟩ := by rw [List.getElem?_map] at hd; exact Option.map_eq_some_iff.mp hd
    have R := hrules r (List.mem_of_getElem? hr)
    obtain ⟨hv, lt, ks⟩ := r
    have hlen : ks.length ≤ 3 := R.len
    have hlo : 0 ≤ lt := R.lo
    have hhi : lt ≤ 3 := R.hi
    refine ⟨_, .tup (.cons (.cons (.cons .nil))), WP.cons ?_⟩
    let st0 : Acc := (rules.take i).foldl (doRule B N) (fun _ => 0, fun _ _ => 0)
    refine WP.forR (ds := rng 0 1 ((ks.length : Int) + 1).toNat) (fun _ => ("head", .int hv) :: ("letters", .int lt) :: ("kids", .list (intL ks)) :: rho) (fun p => stMu ps p0 p1 pv (((List.range (ks.length + 1)).take p).foldl (doPlace B N (hv, lt, ks)) st0)) ?_ (.cons rfl (.cons rfl (.cons rfl (.cons rfl (.cons rfl (.cons rfl (.cons rfl (.cons rfl (.cons rfl (.cons rfl .nil)))))))))) rfl (fun p d hd' => ?_) ?_
    · exact EvIt.range1 (X.T.bglob (by exact rfl) rfl) (.cons (Ev.bin (Ev.callName (X.T.bglob (by exact rfl) rfl) (.plain (by intro _ e; cases e)) (.cons (Ev.name rfl) .nil) (CallSem.lenI _ (by show ks.length ≤ 16777216; (first | lia | omega)))) Ev.int BinSem.add) .nil) hh (by (first | lia | omega))
    · have hp : p < ks.length + 1 := by
        have := (List.getElem?_eq_some_iff.mp hd').1
        simp only [rng, List.length_map, List.length_range] at this
        (first | lia | omega)
      have ed : d = .int (p : Int) := by
        rw [rng_get (by (first | lia | omega))] at hd'; cases hd'; congr 1; (first | lia | omega)
      subst ed
      have hstep : ((List.range (ks.length + 1)).take (p + 1)).foldl (doPlace B N (hv, lt, ks)) st0 = doPlace B N (hv, lt, ks) (((List.range (ks.length + 1)).take p).foldl (doPlace B N (hv, lt, ks)) st0) p := foldl_take _ _ _ _ _ (List.getElem?_range hp)
      rw [hstep]
      obtain ⟨st, hst⟩ : ∃ st, st = ((List.range (ks.length + 1)).take p).foldl (doPlace B N (hv, lt, ks)) st0 := ⟨_, rfl⟩
      rw [← hst]
      refine ⟨_, .name, WP.cons (WP.assign (d := .int (B ^ (17 - lt).toNat)) ?_ ?_)⟩
      · have e : (3 * 5 + 2 - lt : Int) = 17 - lt := by (first | lia | omega)
        rw [← e]
        exact Ev.bin (Ev.name rfl) (Ev.bin (Ev.bin (Ev.bin Ev.int (Ev.name rfl) (BinSem.mul (.of_left (by decide)))) Ev.int BinSem.add) (Ev.name rfl) BinSem.sub) (BinSem.pow (by (first | lia | omega)) ((hpow _).resolve_right (by (first | lia | omega))))
      try dsimp only
      let wo := without ks p
      have hwl : wo.length ≤ 6 := by
        show (ks.take p ++ ks.drop (p + 1)).length ≤ 6
        rw [List.length_append, List.length_take, List.length_drop]; (first | lia | omega)
      have hwk : ∀ k ∈ wo, k = 0 ∨ k = 1 := fun k hk => by
        rcases List.mem_append.mp hk with q | q
        · exact R.kid k (List.mem_of_mem_take q)
        · exact R.kid k (List.mem_of_mem_drop q)
      refine WP.cons ?_
      refine WP.forR (ds := intL wo) (fun m => ("part", .int ((wo.take m).foldl (partStep B N) (B ^ (17 - lt).toNat))) :: ("place", .int p) :: ("head", .int hv) :: ("letters", .int lt) :: ("kids", .list (intL ks)) :: rho) (fun _ => stMu ps p0 p1 pv st) ?_ (.cons rfl (.cons rfl (.cons rfl (.cons rfl (.cons rfl (.cons rfl (.cons rfl (.cons rfl (.cons rfl (.cons rfl (.cons rfl (.cons rfl .nil)))))))))))) rfl (fun m d hd'' => ?_) ?_
      · have e : intL wo = intL (ks.take p) ++ intL (ks.drop (p + 1)) := List.map_append
        rw [e]
        refine EvIt.list (Ev.bin (Ev.cutTo (p := p) (Ev.name rfl) (Ev.name rfl) (by (first | lia | omega)) (by (first | lia | omega))) (Ev.cutFrom (p := p + 1) (Ev.name rfl) (Ev.bin (Ev.name rfl) Ev.int BinSem.add) (by (first | lia | omega))) (BinSem.addList (by rw [List.length_map, List.length_map, List.length_take, List.length_drop]; (first | lia | omega)))) hh
      · obtain ⟨k, hk, rfl⟩ := by rw [List.getElem?_map] at hd''; exact Option.map_eq_some_iff.mp hd''
        have hk01 := hwk k (List.mem_of_getElem? hk)
        have e : (wo.take (m + 1)).foldl (partStep B N) (B ^ (17 - lt).toNat) = partStep B N ((wo.take m).foldl (partStep B N) (B ^ (17 - lt).toNat)) k := foldl_take _ _ _ _ _ hk
        have hb : Builtin.Int.intBits ((wo.take m).foldl (partStep B N) (B ^ (17 - lt).toNat)) ≤ 834 + 290 * 6 := by
          have h1 := part_bits B N hB hN lt hlo (wo.take m)
          have h2 : (wo.take m).length ≤ 6 := by rw [List.length_take]; (first | lia | omega)
          have h3 := Nat.mul_le_mul_left 290 h2
          unfold partOf at h1
          (first | lia | omega)
        refine ⟨_, .name, WP.cons (WP.assign (d := .int ((wo.take (m + 1)).foldl (partStep B N) (B ^ (17 - lt).toNat))) ?_ (WP.nil ⟨.cons rfl (.cons rfl (.cons rfl (.cons rfl (.cons rfl (.cons rfl (.cons rfl (.cons rfl (.cons rfl (.cons rfl (.cons rfl (.cons rfl .nil))))))))))), rfl⟩))⟩
        rw [e]
        exact Ev.bin (Ev.bin (Ev.name rfl) (Ev.sub (Ev.name rfl) (Ev.name rfl) (SubSem.list (d := .int (N k)) (by (first | lia | omega)) (hNN k hk01) (by (first | lia | omega)))) (BinSem.mul (.of_le hb (hN k) (by decide)))) (Ev.bin (Ev.name rfl) (Ev.name rfl) (BinSem.pow (n := 5) (by decide) ((hpow 5).resolve_right (by decide)))) (BinSem.fdiv hB5 hlog)
      · have ep : (wo.take (intL wo).length).foldl (partStep B N) (B ^ (17 - lt).toNat) = partOf B N lt (without ks p) := by
          rw [List.length_map, List.take_length]; rfl
        rw [ep]
        have hSub : Sub (("head", .int hv) :: ("letters", .int lt) :: ("kids", .list (intL ks)) :: rho) (("part", .int (partOf B N lt (without ks p))) :: ("place", .int p) :: ("head", .int hv) :: ("letters", .int lt) :: ("kids", .list (intL ks)) :: rho) :=
          .cons rfl (.cons rfl (.cons rfl (.cons rfl (.cons rfl (.cons rfl (.cons rfl (.cons rfl (.cons rfl (.cons rfl .nil)))))))))
        refine WP.cons (WP.ifs (b := decide ((p : Int) < (ks.length : Int))) ?_ (fun hb => ?_) fun hb => ?_)
        · exact EvT.cmp (Ev.name rfl) (Ev.callName (X.T.bglob (by exact rfl) rfl) (.plain (by intro _ e; cases e)) (.cons (Ev.name rfl) .nil) (CallSem.lenI _ (by (first | lia | omega)))) CmpSem.lt
        · have hpl : p < ks.length := by have := of_decide_eq_true hb; (first | lia | omega)
          have hkid := R.kid ks[p] (List.getElem_mem hpl)
          have hkid : ks[p] = 0 ∨ ks[p] = 1 := hkid
          have hgetD : ks.getD p 0 = ks[p] := by rw [List.getD_eq_getElem?_getD, List.getElem?_eq_getElem hpl]; rfl
          have ekid : (intL ks)[(p : Int).toNat]? = some (.int ks[p]) := by rw [Int.toNat_natCast]; exact intL_get ks p hpl
          have edo : doPlace B N (hv, lt, ks) st p = (st.1, fun h j => if h = hv ∧ j = ks[p] then st.2 h j + partOf B N lt (without ks p) else st.2 h j) := by
            unfold doPlace
            rw [if_pos hpl, hgetD]
          rw [edo]
          generalize ks[p] = k at hkid ekid ⊢
          have hh01 : hv = 0 ∨ hv = 1 := R.head
          rcases hh01 with rfl | rfl
          · refine WP.cons (WP.augSub (μ₁ := [(ps, .list [.val (.ref p0), .val (.ref p1)]), (p1, .list [.int (st.2 1 0), .int (st.2 1 1)])]) (p := p0) (k := k) (a := st.2 0 k) (Ev.sub (Ev.name rfl) (Ev.name rfl) (SubSem.own (d := .val (.ref p0)) (.inl (.head _)) (by decide) rfl (by decide))) (Ev.sub (Ev.name rfl) (Ev.name rfl) (SubSem.list (by (first | lia | omega)) ekid (by (first | lia | omega)))) (Ev.name rfl) (.list (by (first | lia | omega)) (by (first | lia | omega)) (by rcases hkid with rfl | rfl <;> rfl)) (.list (by (first | lia | omega)) (by (first | lia | omega)) (by show k.toNat < 2; (first | lia | omega))) (WP.nil (WP.nil ⟨hSub, ?_⟩)))
            rcases hkid with rfl | rfl <;> rfl
          · refine WP.cons (WP.augSub (μ₁ := [(ps, .list [.val (.ref p0), .val (.ref p1)])]) (p := p1) (k := k) (a := st.2 1 k) (Ev.sub (Ev.name rfl) (Ev.name rfl) (SubSem.own (d := .val (.ref p1)) (.inl (.head _)) (by decide) rfl (by decide))) (Ev.sub (Ev.name rfl) (Ev.name rfl) (SubSem.list (by (first | lia | omega)) ekid (by (first | lia | omega)))) (Ev.name rfl) (.list (by (first | lia | omega)) (by (first | lia | omega)) (by rcases hkid with rfl | rfl <;> rfl)) (.list (by (first | lia | omega)) (by (first | lia | omega)) (by show k.toNat < 2; (first | lia | omega))) (WP.nil (WP.nil ⟨hSub, ?_⟩)))
            rcases hkid with rfl | rfl <;> rfl
        · have hpl : ¬ p < ks.length := by have := of_decide_eq_false hb; (first | lia | omega)
          have edo : doPlace B N (hv, lt, ks) st p = (fun h => if h = hv then st.1 h + partOf B N lt (without ks p) else st.1 h, st.2) := by
            unfold doPlace
            rw [if_neg hpl]
          rw [edo]
          have hh01 : hv = 0 ∨ hv = 1 := R.head
          refine WP.cons (WP.augSub (μ₁ := [(ps, .list [.val (.ref p0), .val (.ref p1)]), (p1, .list [.int (st.2 1 0), .int (st.2 1 1)]), (p0, .list [.int (st.2 0 0), .int (st.2 0 1)])]) (μ₂ := []) (p := pv) (k := hv) (a := st.1 hv) (Ev.name rfl) (Ev.name rfl) (Ev.name rfl) (.list (by (first | lia | omega)) (by (first | lia | omega)) (by rcases hh01 with rfl | rfl <;> rfl)) (.list (by (first | lia | omega)) (by (first | lia | omega)) (by show hv.toNat < 2; (first | lia | omega))) (WP.nil (WP.nil ⟨hSub, ?_⟩)))
          rcases hh01 with rfl | rfl <;> rfl
    · have hfin : (rng 0 1 ((ks.length : Int) + 1).toNat).length = ks.length + 1 := by simp only [rng, List.length_map, List.length_range]; (first | lia | omega)
      rw [hfin]
      refine WP.nil ⟨.cons rfl (.cons rfl (.cons rfl (.cons rfl (.cons rfl (.cons rfl (.cons rfl .nil)))))), ?_⟩
      have e1 : (rules.take (i + 1)).foldl (doRule B N) (fun _ => 0, fun _ _ => 0) = doRule B N st0 (hv, lt, ks) := foldl_take _ _ _ _ _ hr
      rw [e1]
      show stMu ps p0 p1 pv (((List.range (ks.length + 1)).take (ks.length + 1)).foldl (doPlace B N (hv, lt, ks)) st0) = stMu ps p0 p1 pv ((List.range (ks.length + 1)).foldl (doPlace B N (hv, lt, ks)) st0)
      rw [range_take _ _ (Nat.le_refl _)]
  · rw [List.length_map, List.take_length]
    have eAcc : rules.foldl (doRule B N) (fun _ => 0, fun _ _ => 0) = (V, S) := hVS
    rw [eAcc]
    have hB17 : Builtin.Int.intBits (B ^ 17) ≤ 834 := intBits_pow_le hB 17
    have hB12 : Builtin.Int.intBits (B ^ 12) ≤ 589 := intBits_pow_le hB 12
    have b1 : Builtin.Int.intBits one ≤ 1001 := by rw [e1]; exact intBits_sub_le (Nat.le_trans hB17 (show 834 ≤ 1000 by decide)) (hS 0 0)
    have b2 : Builtin.Int.intBits two ≤ 1001 := by rw [e2]; exact intBits_sub_le (Nat.le_trans hB17 (show 834 ≤ 1000 by decide)) (hS 1 1)
    have b3 : Builtin.Int.intBits over ≤ 2003 := by rw [e3]; exact intBits_sub_le (intBits_mul_le b1 b2) (Nat.le_trans (intBits_mul_le (hS 0 1) (hS 1 0)) (show 1000 + 1000 ≤ 1001 + 1001 by decide))
    have bl : ∀ h, Builtin.Int.intBits ((V h - N h * B ^ 12) * B ^ 5) ≤ 1247 := fun h => Nat.le_trans (intBits_mul_le (intBits_sub_le (hV h) (Nat.le_trans (intBits_mul_le (hN h) hB12) (show 290 + 589 ≤ 1000 by decide))) hBits5) (by decide)
    have b4 : Builtin.Int.intBits l0 ≤ 1247 := by rw [e4]; exact bl 0
    have b5 : Builtin.Int.intBits l1 ≤ 1247 := by rw [e5]; exact bl 1
    have mem1 : ((ps, MD.list [.val (.ref p0), .val (.ref p1)]) : Addr × MD) ∈ stMu ps p0 p1 pv (V, S) := .head _
    have mem2 : ((p1, MD.list [.int (S 1 0), .int (S 1 1)]) : Addr × MD) ∈ stMu ps p0 p1 pv (V, S) := .tail _ (.head _)
    have mem3 : ((p0, MD.list [.int (S 0 0), .int (S 0 1)]) : Addr × MD) ∈ stMu ps p0 p1 pv (V, S) := .tail _ (.tail _ (.head _))
    have mem4 : ((pv, MD.list [.int (V 0), .int (V 1)]) : Addr × MD) ∈ stMu ps p0 p1 pv (V, S) := .tail _ (.tail _ (.tail _ (.head _)))
    generalize stMu ps p0 p1 pv (V, S) = μs at mem1 mem2 mem3 mem4 ⊢
    have slp : ∀ {env : Env} {A : Around} {l : List Env} {ρ : Rho} {k₁ k₂ : Nat} {q₁ q₂ q₃ q₄ q₅ : Pos} (i j : Int) (hρ : List.lookup (β := Dat) (PySem.Str.ofString "slope") ρ = some (.val (.ref ps))), (i = 0 ∨ i = 1) → (j = 0 ∨ j = 1) →
        Ev prog w G l A env ρ μs (.Subscript (.Subscript (.Name "slope" q₁) (.Constant (.int i) k₁ q₂) q₃) (.Constant (.int j) k₂ q₄) q₅) (.int (S i j)) := by
      intro env A l ρ k₁ k₂ q₁ q₂ q₃ q₄ q₅ i j hρ hi hj
      rcases hi with rfl | rfl <;> rcases hj with rfl | rfl
      · exact Ev.sub (Ev.sub (Ev.name hρ) Ev.int (SubSem.own (d := .val (.ref p0)) (.inl mem1) (by decide) rfl (by decide))) Ev.int (SubSem.own (.inl mem3) (by decide) rfl (by decide))
      · exact Ev.sub (Ev.sub (Ev.name hρ) Ev.int (SubSem.own (d := .val (.ref p0)) (.inl mem1) (by decide) rfl (by decide))) Ev.int (SubSem.own (.inl mem3) (by decide) rfl (by decide))
      · exact Ev.sub (Ev.sub (Ev.name hρ) Ev.int (SubSem.own (d := .val (.ref p1)) (.inl mem1) (by decide) rfl (by decide))) Ev.int (SubSem.own (.inl mem2) (by decide) rfl (by decide))
      · exact Ev.sub (Ev.sub (Ev.name hρ) Ev.int (SubSem.own (d := .val (.ref p1)) (.inl mem1) (by decide) rfl (by decide))) Ev.int (SubSem.own (.inl mem2) (by decide) rfl (by decide))
    refine WP.cons (WP.assign (d := .int (B ^ 17)) (Ev.bin (Ev.name rfl) (Ev.bin (Ev.bin Ev.int (Ev.name rfl) (BinSem.mul (.of_left (by decide)))) Ev.int BinSem.add) (BinSem.pow (n := 3 * 5 + 2) (by decide) ((hpow _).resolve_right (by decide)))) ?_)
    try dsimp only
    refine WP.cons (WP.assignSw (ns := ["one", "two"]) (EvO.pure (d := .tup [.int one, .int two]) ?_ ⟨_, rfl, rfl, ?_⟩))
    · rw [e1, e2]
      exact Ev.tuple (.cons (Ev.bin (Ev.name rfl) (slp 0 0 rfl (.inl rfl) (.inl rfl)) BinSem.sub) (.cons (Ev.bin (Ev.name rfl) (slp 1 1 rfl (.inr rfl) (.inr rfl)) BinSem.sub) .nil))
    try dsimp only
    refine WP.cons (WP.assign (d := .int over) ?_ ?_)
    · rw [e3]
      exact Ev.bin (Ev.bin (Ev.name rfl) (Ev.name rfl) (BinSem.mul (.of_le b1 b2 (by decide)))) (Ev.bin (slp 0 1 rfl (.inl rfl) (.inr rfl)) (slp 1 0 rfl (.inr rfl) (.inl rfl)) (BinSem.mul (.of_le (hS 0 1) (hS 1 0) (by decide)))) BinSem.sub
    refine WP.cons ?_
    refine WP.assignComp (ds := [.int 0, .int 1]) _ (fun _ => true) (fun d => match d with | .int h => .int ((V h - N h * B ^ 12) * B ^ 5) | d => d) ?_ (by show 2 ≤ 16777216; decide) (fun C d hd => ?_) ?_
    · exact EvIt.tuple (Ev.tuple (.cons Ev.int (.cons Ev.int .nil))) hh
    · have hd01 : ∃ h : Int, d = .int h ∧ (h = 0 ∨ h = 1) := by
        simp only [List.mem_cons, List.not_mem_nil, or_false] at hd
        rcases hd with rfl | rfl
        · exact ⟨_, rfl, .inl rfl⟩
        · exact ⟨_, rfl, .inr rfl⟩
      obtain ⟨h, rfl, hh01⟩ := hd01
      refine ⟨_, .name, .nil, fun _ => ?_, Sub.push rfl⟩
      refine Ev.bin (Ev.bin (Ev.sub (Ev.name rfl) (Ev.name rfl) (SubSem.own (d := .int (V h)) (.inl mem4) (by (first | lia | omega)) (by rcases hh01 with rfl | rfl <;> rfl) (by (first | lia | omega)))) (Ev.bin (Ev.sub (Ev.name rfl) (Ev.name rfl) (SubSem.list (d := .int (N h)) (by (first | lia | omega)) (hNN h hh01) (by (first | lia | omega)))) (Ev.bin (Ev.name rfl) (Ev.bin (Ev.bin Ev.int (Ev.name rfl) (BinSem.mul (.of_left (by decide)))) Ev.int BinSem.add) (BinSem.pow (n := 2 * 5 + 2) (by decide) ((hpow _).resolve_right (by decide)))) (BinSem.mul (.of_le (hN h) hB12 (by decide)))) BinSem.sub)
        (Ev.bin (Ev.name rfl) (Ev.name rfl) (BinSem.pow (n := 5) (by decide) ((hpow 5).resolve_right (by decide)))) (BinSem.mul (.of_le (m := 1001) ?_ hBits5 (by decide)))
      exact intBits_sub_le (hV h) (Nat.le_trans (intBits_mul_le (hN h) hB12) (show 290 + 589 ≤ 1000 by decide))
    · have el : List.map (fun d => match d with | .int h => Dat.int ((V h - N h * B ^ 12) * B ^ 5) | d => d) (List.filter (fun _ => true) [Dat.int 0, Dat.int 1]) = [.int l0, .int l1] := by rw [e4, e5]; rfl
      rw [el]
      have c1 := intBits_mul_le b2 b4
      have c2 := intBits_mul_le (hS 0 1) b5
      have c3 := intBits_mul_le b1 b5
      have c4 := intBits_mul_le (hS 1 0) b4
      refine WP.cons (WP.assign (d := .int ((two * l0 + S 0 1 * l1).fdiv over)) ?_ ?_)
      · refine Ev.callName (X.T.glob (by exact rfl) fun _ => .val _) (KeepG.K X.T.K (by exact rfl)) (.cons (Ev.bin (Ev.bin (Ev.name rfl) (Ev.sub (Ev.name rfl) Ev.int (SubSem.list (d := .int l0) (by decide) rfl (by decide))) (BinSem.mul (.of_le b2 b4 (by decide)))) (Ev.bin (slp 0 1 rfl (.inl rfl) (.inr rfl)) (Ev.sub (Ev.name rfl) Ev.int (SubSem.list (d := .int l1) (by decide) rfl (by decide))) (BinSem.mul (.of_le (hS 0 1) b5 (by decide)))) BinSem.add) (.cons (Ev.name rfl) (.cons (Ev.name rfl) .nil)))
          (law_quotient_spec (A := A.deeper _) X hh (by show A.depth + 1 + 340 < recursionLimit; (first | lia | omega)) _ over way ho (Nat.le_trans (intBits_add_le c1 c2) (by decide)) hob (by (first | lia | omega)))
      · refine WP.cons (WP.ret (d := .list (intL [N 0 + (two * l0 + S 0 1 * l1).fdiv over, N 1 + (one * l1 + S 1 0 * l0).fdiv over])) ?_ rfl)
        refine Ev.list (.cons (Ev.bin (Ev.sub (Ev.name rfl) Ev.int (SubSem.list (d := .int (N 0)) (by decide) rfl (by decide))) (Ev.name rfl) BinSem.add) (.cons (Ev.bin (Ev.sub (Ev.name rfl) Ev.int (SubSem.list (d := .int (N 1)) (by decide) rfl (by decide))) ?_ BinSem.add) .nil)) (by show 2 ≤ 16777216; decide)
        exact Ev.callName (X.T.glob (by exact rfl) fun _ => .val _) (KeepG.K X.T.K (by exact rfl)) (.cons (Ev.bin (Ev.bin (Ev.name rfl) (Ev.sub (Ev.name rfl) Ev.int (SubSem.list (d := .int l1) (by decide) rfl (by decide))) (BinSem.mul (.of_le b1 b5 (by decide)))) (Ev.bin (slp 1 0 rfl (.inr rfl) (.inl rfl)) (Ev.sub (Ev.name rfl) Ev.int (SubSem.list (d := .int l0) (by decide) rfl (by decide))) (BinSem.mul (.of_le (hS 1 0) b4 (by decide)))) BinSem.add) (.cons (Ev.name rfl) (.cons (Ev.bin (Ev.name rfl) Ev.int BinSem.add) .nil)))
          (law_quotient_spec (A := A.deeper _) X hh (by show A.depth + 1 + 340 < recursionLimit; (first | lia | omega)) _ over (way + 1) ho (Nat.le_trans (intBits_add_le c3 c4) (by decide)) hob (by (first | lia | omega)))
end
end Mine
end
section
open PySem PySem.W PySem.Calls PyProof.Rows
set_option Elab.async false
set_option linter.unusedVariables false
namespace Mine
/-! what the law builds -/
noncomputable def pickI (ns : List Int) (lo hi st : Option Int) : List Int := (sliceRange (sliceBounds lo hi st ns.length).1 (sliceBounds lo hi st ns.length).2.1 (sliceBounds lo hi st ns.length).2.2).filterMap (ns[·]?)
theorem pick_intL (ns : List Int) (lo hi st : Option Int) : pick (intL ns) lo hi st = intL (pickI ns lo hi st) := by
  unfold pick pickI
  rw [List.length_map]
  generalize sliceRange (sliceBounds lo hi st ns.length).1 (sliceBounds lo hi st ns.length).2.1 (sliceBounds lo hi st ns.length).2.2 = js
  induction js with
  | nil => rfl
  | cons j js ih =>
    rw [List.filterMap_cons, List.filterMap_cons, List.getElem?_map]
    cases ns[j]? with
    | none => exact ih
    | some x => exact congrArg (Dat.int x :: ·) ih
noncomputable def cellV (ns : List Int) (p b : Int) : Int := b + ((pickI ns (some p) (some 60) (some 5)).map fun x => x.fmod (10 ^ 6)).sum
structure Cells where
  c0 : Int
  c1 : Int
  c2 : Int
  c3 : Int
  c4 : Int
noncomputable def cellsOf (ns : List Int) : Cells := ⟨cellV ns 0 24, cellV ns 1 7, cellV ns 2 8, cellV ns 3 39, cellV ns 4 0⟩
noncomputable def Cells.list (c : Cells) : List Int := [c.c0, c.c1, c.c2, c.c3, c.c4]
noncomputable def Cells.wI (c : Cells) : Int := 37 + c.c4.fmod 12
noncomputable def Cells.w (c : Cells) : Nat := c.wI.toNat
noncomputable def Cells.tau (c : Cells) : Int := 1 - ((c.c4.fdiv 12).fmod 2) * 2
noncomputable def Cells.h0 (c : Cells) : Int := 256 + (c.c4.fdiv 24).fmod 3
noncomputable def Cells.h1 (c : Cells) : Int := 259 + (c.c4.fdiv 72).fmod 5
noncomputable def Cells.heads (c : Cells) : List Int := [c.h0, c.h1]
noncomputable def Cells.letter (c : Cells) : Int := 255 - (c.c4.fdiv 360).fmod 255
noncomputable def shape (r : Int) : Int × Int := if r = 0 then (0, 2) else if r = 1 then (1, 1) else if r = 2 then (0, 3) else if r = 3 then (1, 2) else if r = 4 then (2, 1) else (1, 3)
noncomputable def headBit (x : Int) : Int := (x.fdiv 6).fmod 2
noncomputable def kidBit (x : Int) (k : Nat) : Int := ((x.fdiv 12).fdiv (2 ^ k)).fmod 2
noncomputable def headAt (c : Cells) (b : Int) : Int := if b = 0 then c.h0 else c.h1
noncomputable def rowX (c : Cells) (x : Int) : List Int := [headAt c (headBit x)] ++ List.replicate (shape (x.fmod 6)).1.toNat c.letter ++ ((List.range (shape (x.fmod 6)).2.toNat).map fun k => headAt c (kidBit x k)) ++ [0]
noncomputable def row0 (c : Cells) : List Int := [c.h0, c.letter, 0, c.h1, c.letter, 0]
noncomputable def rowOf (c : Cells) : List Int := row0 c ++ (([c.c0, c.c1, c.c2, c.c3]).map (rowX c)).flatten
noncomputable def rulesOf (c : Cells) : List Rule := (parsed c.heads (rowOf c)).1
noncomputable def fld (f : Int) (e : Ent) : Int := if f = 0 then e.a else if f = 1 then e.b else e.c
noncomputable def dueE (E : List Ent) (f : Int) : List Int := (List.range 6).map fun i => fld f (E.getD (5 - i) noneE)
noncomputable def fieldOf (t : Nat) : Int := if t = 1 then 0 else if t = 2 then 2 else 1
noncomputable def entsOf (c : Cells) (h : Int) : List Ent := if h = 0 then (build (rulesOf c) (3 * c.tau) 5).1 else (build (rulesOf c) (3 * c.tau) 5).2
noncomputable def dueOf (c : Cells) (t : Nat) (h : Int) : List Int := if t = 0 then List.replicate 6 0 else dueE (entsOf c h) (fieldOf t)
noncomputable def toldOf (c : Cells) (t : Nat) (h : Int) : Int := dval c.w (dueOf c t h)
/-- one step of Newton's -/
structure StepOk (rules : List Rule) (B : Int) (N N' : Int → Int) : Prop where
  ex : ∃ V S, doRules B N rules = (V, S) ∧ (∀ h, Builtin.Int.intBits (V h) ≤ 1000) ∧ (∀ h j, Builtin.Int.intBits (S h j) ≤ 1000) ∧
    0 < (B ^ 17 - S 0 0) * (B ^ 17 - S 1 1) - S 0 1 * S 1 0 ∧ 100 ≤ Builtin.Int.intBits ((B ^ 17 - S 0 0) * (B ^ 17 - S 1 1) - S 0 1 * S 1 0) ∧
    N 0 + ((B ^ 17 - S 1 1) * ((V 0 - N 0 * B ^ 12) * B ^ 5) + S 0 1 * ((V 1 - N 1 * B ^ 12) * B ^ 5)).fdiv ((B ^ 17 - S 0 0) * (B ^ 17 - S 1 1) - S 0 1 * S 1 0) = N' 0 ∧
    N 1 + ((B ^ 17 - S 0 0) * ((V 1 - N 1 * B ^ 12) * B ^ 5) + S 1 0 * ((V 0 - N 0 * B ^ 12) * B ^ 5)).fdiv ((B ^ 17 - S 0 0) * (B ^ 17 - S 1 1) - S 0 1 * S 1 0) = N' 1
/-- the plain law -/
structure LawOk (c : Cells) : Prop where
  row : RowOk c.heads (rowOf c)
  build : BuildOk (rulesOf c) (3 * c.tau) 5
  rule : ∀ r ∈ rulesOf c, RuleOk r
  few : (rulesOf c).length ≤ 1000
  dig : ∀ t h, ∀ d ∈ dueOf c t h, 0 ≤ d ∧ d < 2 ^ c.w
  step : ∀ t, t < 4 → StepOk (rulesOf c) (2 ^ c.w) (toldOf c t) (toldOf c (t + 1))
/-! the significant digits -/
noncomputable def sig : List Int → Nat
  | [] => 0
  | d :: r => if sig r = 0 then (if d = 0 then 0 else 1) else sig r + 1
theorem sig_le : ∀ ds, sig ds ≤ ds.length
  | [] => Nat.le_refl _
  | d :: r => by
    have := sig_le r
    unfold sig
    split
    · split <;> simp
    · simp; omega
theorem sig_top : ∀ (ds : List Int) (i : Nat) (d : Int), ds[i]? = some d → d ≠ 0 → i < sig ds
  | [], i, d, h, _ => by simp at h
  | e :: r, 0, d, h, hd => by
    simp at h; subst h
    unfold sig
    split
    · first | (first | lia -abstractProof | omega) | (rw [if_neg hd]; (first | lia -abstractProof | omega))
    · (first | lia -abstractProof | omega)
  | e :: r, i + 1, d, h, hd => by
    have := sig_top r i d (by simpa using h) hd
    unfold sig
    rw [if_neg (by (first | lia -abstractProof | omega))]; (first | lia -abstractProof | omega)
theorem sig_at : ∀ (ds : List Int), sig ds ≠ 0 → ∃ d, ds[sig ds - 1]? = some d ∧ d ≠ 0
  | [], h => absurd rfl h
  | e :: r, h => by
    unfold sig at h ⊢
    by_cases q : sig r = 0
    · rw [if_pos q] at h ⊢
      by_cases q2 : e = 0
      · rw [if_pos q2] at h; exact absurd rfl h
      · rw [if_neg q2]; exact ⟨e, rfl, q2⟩
    · rw [if_neg q]
      obtain ⟨d, h1, h2⟩ := sig_at r q
      refine ⟨d, ?_, h2⟩
      have e1 : sig r + 1 - 1 = (sig r - 1) + 1 := by (first | lia | omega)
      rw [e1]; simpa using h1
theorem dval_zero (m : Nat) : ∀ ds : List Int, sig ds = 0 → dval m ds = 0
  | [], _ => rfl
  | d :: r, h => by
    unfold sig at h
    by_cases q : sig r = 0
    · rw [if_pos q] at h
      by_cases q2 : d = 0
      · subst q2; show 0 + 2 ^ m * dval m r = 0; rw [dval_zero m r q]; (first | lia -abstractProof | omega)
      · rw [if_neg q2] at h; (first | lia -abstractProof | omega)
    · rw [if_neg q] at h; (first | lia -abstractProof | omega)
theorem dval_sig (m : Nat) : ∀ ds : List Int, dval m (ds.take (sig ds)) = dval m ds
  | [] => rfl
  | d :: r => by
    by_cases q : sig r = 0
    · have hr := dval_zero m r q
      by_cases q2 : d = 0
      · have e : sig (d :: r) = 0 := by rw [sig, if_pos q, if_pos q2]
        rw [e, dval_zero m _ e]; rfl
      · have e : sig (d :: r) = 1 := by rw [sig, if_pos q, if_neg q2]
        rw [e]
        show d + 2 ^ m * dval m [] = d + 2 ^ m * dval m r
        rw [hr]; rfl
    · have e : sig (d :: r) = sig r + 1 := by rw [sig, if_neg q]
      rw [e]
      show d + 2 ^ m * dval m (r.take (sig r)) = d + 2 ^ m * dval m r
      rw [dval_sig m r]
/-- the number as a natural -/
theorem dval_nat (m : Nat) (ds : List Int) (h : ∀ d ∈ ds, 0 ≤ d ∧ d < 2 ^ m) : ∃ x : Nat, dval m ds = (x : Int) := ⟨(dval m ds).toNat, by have := (dval_bound m ds h).1; (first | lia | omega)⟩
theorem digs_of (m : Nat) : ∀ (ds : List Int) (x : Nat), (∀ d ∈ ds, 0 ≤ d ∧ d < 2 ^ m) → dval m ds = (x : Int) → digs m ds.length x = ds
  | [], x, _, _ => rfl
  | d :: r, x, h, hx => by
    obtain ⟨y, hy⟩ := dval_nat m r fun e he => h e (.tail _ he)
    have ih := digs_of m r y (fun e he => h e (.tail _ he)) hy
    obtain ⟨h1, h2⟩ := h d (.head _)
    obtain ⟨k, hk⟩ : ∃ k : Nat, d = (k : Int) := ⟨d.toNat, by (first | lia -abstractProof | omega)⟩
    subst hk
    have hk2 : k < 2 ^ m := by have e : (2 : Int) ^ m = ((2 ^ m : Nat) : Int) := by simp
                               (first | lia -abstractProof | omega)
    have hx2 : x = k + 2 ^ m * y := by
      have h3 : (k : Int) + 2 ^ m * dval m r = (x : Int) := hx
      rw [hy] at h3
      have e : (2 : Int) ^ m * (y : Int) = ((2 ^ m * y : Nat) : Int) := by simp
      (first | lia -abstractProof | omega)
    unfold digs
    rw [List.length_cons, List.range_succ_eq_map, List.map_cons, List.map_map]
    have e0 : x / 2 ^ (m * 0) % 2 ^ m = k := by
      rw [Nat.mul_zero, Nat.pow_zero, Nat.div_one, hx2, Nat.add_mul_mod_self_left, Nat.mod_eq_of_lt hk2]
    rw [e0]
    have e1 : x / 2 ^ m = y := by
      rw [hx2, Nat.add_mul_div_left _ _ (Nat.two_pow_pos m), Nat.div_eq_of_lt hk2, Nat.zero_add]
    refine congrArg (((k : Nat) : Int) :: ·) (Eq.trans ?_ ih)
    unfold digs
    refine List.map_congr_left fun i _ => ?_
    show ((x / 2 ^ (m * (i + 1)) % 2 ^ m : Nat) : Int) = _
    rw [Nat.mul_succ, Nat.add_comm, Nat.pow_add, ← Nat.div_div_eq_div_mul, e1]
end Mine
end
section
open PySem PySem.W PySem.Calls PyProof.Rows
set_option Elab.async false
set_option linter.unusedVariables false
set_option exponentiation.threshold 100
namespace Mine
theorem dval_ge (m : Nat) : ∀ (ds : List Int) (i : Nat) (d : Int), (∀ d ∈ ds, 0 ≤ d ∧ d < 2 ^ m) → ds[i]? = some d → 2 ^ (m * i) * d ≤ dval m ds
  | [], i, d, _, h => by simp at h
  | e :: r, 0, d, hr, h => by
    simp at h; subst h
    have := (dval_bound m r fun x hx => hr x (.tail _ hx)).1
    have h2 : 0 ≤ 2 ^ m * dval m r := Int.mul_nonneg (Int.le_of_lt (Int.pow_pos (by decide))) this
    show 2 ^ (m * 0) * e ≤ e + 2 ^ m * dval m r
    rw [Nat.mul_zero, Int.pow_zero, Int.one_mul]; (first | lia -abstractProof | omega)
  | e :: r, i + 1, d, hr, h => by
    have ih := dval_ge m r i d (fun x hx => hr x (.tail _ hx)) (by simpa using h)
    have h0 := (hr e (.head _)).1
    have h2 : 2 ^ m * (2 ^ (m * i) * d) ≤ 2 ^ m * dval m r := Int.mul_le_mul_of_nonneg_left ih (Int.le_of_lt (Int.pow_pos (by decide)))
    show 2 ^ (m * (i + 1)) * d ≤ e + 2 ^ m * dval m r
    rw [Nat.mul_succ, Int.pow_add, Int.mul_comm (2 ^ (m * i)) (2 ^ m), Int.mul_assoc]
    (first | lia -abstractProof | omega)
theorem nd_sig (m : Nat) (hm : 0 < m) (ds : List Int) (x : Nat) (h : ∀ d ∈ ds, 0 ≤ d ∧ d < 2 ^ m) (hx : dval m ds = (x : Int)) : nd m x = sig ds := by
  by_cases q : sig ds = 0
  · have := dval_zero m ds q
    have hx0 : x = 0 := by (first | lia -abstractProof | omega)
    subst hx0
    rw [q]; exact nd_zero m hm
  · obtain ⟨d, h1, h2⟩ := sig_at ds q
    have hd := (h d (List.mem_of_getElem? h1)).1
    have lo := dval_ge m ds (sig ds - 1) d h h1
    have h3 : 2 ^ (m * (sig ds - 1)) * 1 ≤ 2 ^ (m * (sig ds - 1)) * d := Int.mul_le_mul_of_nonneg_left (by (first | lia -abstractProof | omega)) (Int.le_of_lt (Int.pow_pos (by decide)))
    have hi := (dval_bound m (ds.take (sig ds)) fun x hx => h x (List.mem_of_mem_take hx)).2
    rw [dval_sig, List.length_take, Nat.min_eq_left (sig_le ds), hx] at hi
    rw [hx] at lo
    have e1 : (2 : Int) ^ (m * sig ds) = ((2 ^ (m * sig ds) : Nat) : Int) := by simp
    have e2 : (2 : Int) ^ (m * (sig ds - 1)) = ((2 ^ (m * (sig ds - 1)) : Nat) : Int) := by simp
    rw [e1] at hi
    rw [e2] at lo h3
    have hi' : x < 2 ^ (m * sig ds) := by (first | lia -abstractProof | omega)
    have lo' : 2 ^ (m * (sig ds - 1)) ≤ x := by (first | lia -abstractProof | omega)
    have b1 : Builtin.Int.intBits (x : Int) ≤ m * sig ds := bits_nat _ _ hi'
    have b2 : m * (sig ds - 1) < Builtin.Int.intBits (x : Int) := by
      have h4 := natAbs_lt_pow_bits (x : Int)
      rw [Int.natAbs_natCast] at h4
      exact (Nat.pow_lt_pow_iff_right (a := 2) (by decide)).mp (Nat.lt_of_le_of_lt lo' h4)
    unfold nd
    generalize Builtin.Int.intBits (x : Int) = b at b1 b2
    obtain ⟨k, hk⟩ : ∃ k, sig ds = k + 1 := ⟨sig ds - 1, by (first | lia -abstractProof | omega)⟩
    rw [hk] at b1 b2 ⊢
    rw [Nat.add_sub_cancel] at b2
    rw [Nat.mul_succ] at b1
    refine Nat.div_eq_of_lt_le ?_ ?_
    · rw [Nat.mul_comm, Nat.mul_succ]; (first | lia -abstractProof | omega)
    · rw [Nat.mul_comm, Nat.mul_succ, Nat.mul_succ]; (first | lia -abstractProof | omega)
section
variable {prog : Program} {w : World} {G : GX} {l : List Env} {A : Around} {env env' : Env} {ρ ρ' ρc ρ₀ : Rho} {μ μ' μc μ₁ μ₂ μ₀ : Mu} {H H' H₀ : PH} {h h' h'' h₀ : Heap} {target : PySem.Expr}
theorem WP.consJoin {st : Stmt} {rest : List Stmt} {Φ : AF → Rho → Mu → Prop} (ρ₀ : Rho) (h : WP prog w G l A env (exec st env) ρ μ fun af ρ' μ' => af = .next ∧ Sub ρ₀ ρ' ∧ μ' = μ₀) (k : WP prog w G l A env (execs rest env) ρ₀ μ₀ Φ) : WP prog w G l A env (execs (st :: rest) env) ρ μ Φ :=
  WP.cons (h.mono fun af ρ' μ' ⟨e1, e2, e3⟩ => by subst e1; subst e3; exact k.weak e2)
theorem EvOs.pure {es : List PySem.Expr} {ds : List Dat} {Ψ : List Dat → Mu → Prop} (h : Evs prog w G l A env ρ μ es ds) (k : Ψ ds μ) : EvOs prog w G l A env ρ μ es Ψ := by
  induction h generalizing Ψ with
  | nil => exact .nil k
  | @cons e es d ds h hs he ih => exact .cons (fun d' μ' => d' = d ∧ μ' = μ) (EvO.pure h ⟨rfl, rfl⟩) (fun d' μ' ⟨e1, e2⟩ => by subst e1; subst e2; exact ih k) he
end
end Mine
end
section
open PySem PySem.W PySem.Calls PyProof.Rows
set_option Elab.async false
set_option linter.unusedVariables false
set_option exponentiation.threshold 100
namespace Mine
theorem shape_ok (x : Int) : ((shape (x.fmod 6)).1 = 0 ∨ (shape (x.fmod 6)).1 = 1 ∨ (shape (x.fmod 6)).1 = 2) ∧ ((shape (x.fmod 6)).2 = 1 ∨ (shape (x.fmod 6)).2 = 2 ∨ (shape (x.fmod 6)).2 = 3) := by
  unfold shape
  repeat' split
  all_goals simp
theorem fmod_two (x : Int) : x.fmod 2 = 0 ∨ x.fmod 2 = 1 := by
  have h1 := Int.fmod_nonneg_of_pos x (b := 2) (by decide)
  have h2 := Int.fmod_lt_of_pos x (b := 2) (by decide)
  (first | lia | omega)
theorem slice_le (a b : Int) (ha : 0 ≤ a) (hb : b ≤ 60) : ((b - a + 5 - 1) / 5).toNat ≤ 16777216 := by (first | lia | omega)
theorem pickI_len (ns : List Int) (p : Int) (h : ns.length ≤ 63) : (pickI ns (some p) (some 60) (some 5)).length ≤ 16777216 := by
  unfold pickI
  refine Nat.le_trans (List.length_filterMap_le _ _) ?_
  unfold sliceRange sliceBounds
  simp only [Option.getD_some]
  rw [if_pos (by decide), List.length_map, List.length_range]
  simp only [show (5 : Int) > 0 by decide, if_true]
  have hb : max 0 (min 60 (ns.length : Int)) ≤ 60 := Int.max_le.mpr ⟨by decide, Int.min_le_left _ _⟩
  repeat' split
  all_goals first | exact slice_le _ _ (Int.le_max_left _ _) hb | exact Nat.zero_le _ | omega
theorem comp_ints (c : List Int) (F : Int → Int) (K : Dat → Dat) (hK : ∀ x, K (.int x) = .int (F x)) : ((intL c).filter (fun _ => true)).map K = intL (c.map F) := by
  rw [List.filter_eq_self.mpr (fun _ _ => rfl), List.map_map, intL, List.map_map]
  exact List.map_congr_left fun x _ => hK x
noncomputable def szL (due : List Int) : List Int := 0 :: ((List.range 6).filter fun (k : Nat) => due.getD k 0 != 0).map fun (k : Nat) => (k : Int) + 1
theorem szL_max (due : List Int) (h : due.length = 6) : (sig due : Int) ∈ szL due ∧ ∀ a ∈ szL due, a ≤ (sig due : Int) := by
  constructor
  · by_cases q : sig due = 0
    · rw [q]; exact .head _
    · obtain ⟨d, h1, h2⟩ := sig_at due q
      have hle := sig_le due
      refine .tail _ (List.mem_map.mpr ⟨sig due - 1, List.mem_filter.mpr ⟨List.mem_range.mpr (by (first | lia -abstractProof | omega)), ?_⟩, by (first | lia -abstractProof | omega)⟩)
      rw [List.getD_eq_getElem?_getD, h1]
      simpa using h2
  · intro a ha
    rcases List.mem_cons.mp ha with rfl | ha
    · (first | lia -abstractProof | omega)
    · obtain ⟨k, hk, rfl⟩ := List.mem_map.mp ha
      obtain ⟨hk6, hne⟩ := List.mem_filter.mp hk
      have hk6 := List.mem_range.mp hk6
      have hlt : k < due.length := by (first | lia -abstractProof | omega)
      have := sig_top due k (due[k]) (List.getElem?_eq_getElem hlt) (by
        rw [List.getD_eq_getElem?_getD, List.getElem?_eq_getElem hlt] at hne
        simpa using hne)
      (first | lia -abstractProof | omega)
theorem szL_dat (due : List Int) : [Dat.int 0] ++ ((rng 0 1 6).filter (fun d => match d with | .int k => due.getD k.toNat 0 != 0 | _ => false)).map (fun d => match d with | .int k => .int (k + 1) | d => d) = intL (szL due) := by
  unfold szL rng intL
  rw [List.map_cons, List.filter_map, List.map_map, List.map_map]
  show Dat.int 0 :: _ = _
  congr 1
  have e : (fun d => match d with | Dat.int k => due.getD k.toNat 0 != 0 | _ => false) ∘ (fun i : Nat => Dat.int (0 + (i : Int) * 1)) = fun k => due.getD k 0 != 0 := by
    funext k
    show (due.getD ((0 : Int) + (k : Int) * 1).toNat 0 != 0) = _
    have e : ((0 : Int) + (k : Int) * 1).toNat = k := by (first | lia | omega)
    rw [e]
  rw [e]
  refine List.map_congr_left fun k _ => ?_
  show Dat.int ((0 : Int) + (k : Int) * 1 + 1) = Dat.int ((k : Int) + 1)
  congr 1
  (first | lia | omega)
theorem due_len (c : Cells) (t : Nat) (h : Int) : (dueOf c t h).length = 6 := by
  unfold dueOf
  split
  · simp
  · simp [dueE]
section
variable {prog : Program} {w : World} {G : GX} {l : List Env} {A : Around} {env env' : Env} {ρ ρ' ρc ρ₀ : Rho} {μ μ' μc μ₁ μ₂ μ₀ : Mu} {H H' H₀ : PH} {h h' h'' h₀ : Heap} {target : PySem.Expr}
set_option maxHeartbeats 4000000 in
theorem law_walk {P : Params} (X : GTN P G) {fd : FuncData} {body : List Stmt} {oc : Value} {od : Option Addr} {osl : Array (Option Value)} (hfd : (Mine.hd.heap_39 P).lookup 160 = some ⟨oc, od, .func fd, osl⟩) (hbody : fd.body = .stmts body) (hh : A.handled = none) (hroom : A.depth + 450 < recursionLimit) (hu : A.units + 300 < cLine)
    (ns : List Int) (hlen : ns.length ≤ 63) (B : LawOk (cellsOf ns)) (q : Str) (L fa : Addr) (cd : Value) :
    WP prog w G l A (envOfC q fd.scope L fa cd) (execs body (envOfC q fd.scope L fa cd)) [("script", .list (intL ns))] [] fun af _ _ => af = .ret (.bool true) := by
  conv at hfd => lhs; whnf
  obtain ⟨-, -, rfl, -⟩ : _ ∧ _ ∧ _ ∧ _ := by
    simp only [Option.some.injEq, Obj.mk.injEq, Data.func.injEq] at hfd
    exact hfd
  obtain rfl : _ = body := by
    simp only [FuncBody.stmts.injEq] at hbody
    exact hbody
  obtain ⟨c, hc⟩ : ∃ c, c = cellsOf ns := ⟨_, rfl⟩
  rw [← hc] at B
  refine WP.cons ?_
  refine WP.assignComp (ds := enumD [.int 24, .int 7, .int 8, .int 39, .int 0]) _ (fun _ => true) (fun d => match d with | .tup [.int p, .int b] => .int (cellV ns p b) | d => d) ?_ (by decide) (fun C d hd => ?_) ?_
  · exact EvIt.enum (X.T.bglob (by exact rfl) rfl) (.cons (Ev.tuple (.cons Ev.int (.cons Ev.int (.cons Ev.int (.cons Ev.int (.cons Ev.int .nil)))))) .nil) hh
  · have hpb : ∃ p b : Int, d = .tup [.int p, .int b] := by
      have hd : d ∈ [Dat.tup [.int 0, .int 24], .tup [.int 1, .int 7], .tup [.int 2, .int 8], .tup [.int 3, .int 39], .tup [.int 4, .int 0]] := hd
      simp only [List.mem_cons, List.not_mem_nil, or_false] at hd
      rcases hd with rfl | rfl | rfl | rfl | rfl <;> exact ⟨_, _, rfl⟩
    obtain ⟨p, b, rfl⟩ := hpb
    refine ⟨_, .tup (.cons (.cons .nil)), .nil, fun _ => ?_, .cons rfl .nil⟩
    refine Ev.bin (Ev.name rfl) (Ev.callName (X.T.bglob (by exact rfl) rfl) (.plain (by intro _ e; cases e)) (ds := [.list (intL ((pickI ns (some p) (some 60) (some 5)).map fun x => x.fmod (10 ^ 6)))]) (.cons ?_ .nil) (CallSem.sum _ hh)) BinSem.add
    have hpl := pickI_len ns p hlen
    rw [← comp_ints (pickI ns (some p) (some 60) (some 5)) (fun x => x.fmod (10 ^ 6)) (fun d => match d with | .int x => .int (x.fmod (10 ^ 6)) | d => d) (fun _ => rfl)]
    refine Ev.comp (ds := intL (pickI ns (some p) (some 60) (some 5))) _ _ _ ?_ (by rw [List.length_map]; exact hpl) (fun C d hd => ?_)
    · refine EvIt.list ?_ hh
      rw [← pick_intL]
      exact Ev.sub (Ev.name rfl) (Ev.slice (.some (Ev.name rfl)) (.some Ev.int) (.some Ev.int)) (SubSem.slice (by decide) (by rw [List.length_map]; (first | lia -abstractProof | omega)))
    · obtain ⟨x, hx, rfl⟩ := List.mem_map.mp hd
      exact ⟨_, .name, .nil, fun _ => Ev.bin (Ev.name rfl) (Ev.bin Ev.int Ev.int (BinSem.pow (n := 6) (by decide) (by decide))) (BinSem.fmod (by decide)), Sub.push rfl⟩
  have ecells : (Dat.list (((enumD [.int 24, .int 7, .int 8, .int 39, .int 0]).filter fun _ => true).map (fun d => match d with | .tup [.int p, .int b] => .int (cellV ns p b) | d => d))) = .list (intL c.list) := by
    rw [hc]; rfl
  rw [ecells]
  have hget : ∀ (i : Nat) (x : Int), c.list[i]? = some x → (intL c.list)[i]? = some (.int x) := fun i x h => by rw [List.getElem?_map, h]; rfl
  have hw : c.wI = ((c.w : Nat) : Int) := by
    have := Int.fmod_nonneg_of_pos c.c4 (b := 12) (by decide)
    unfold Cells.w Cells.wI
    (first | lia -abstractProof | omega)
  have hw48 : c.w ≤ 48 ∧ 37 ≤ c.w := by
    have := Int.fmod_nonneg_of_pos c.c4 (b := 12) (by decide)
    have := Int.fmod_lt_of_pos c.c4 (b := 12) (by decide)
    unfold Cells.w Cells.wI
    (first | lia -abstractProof | omega)
  -- w, turned
  refine WP.cons (WP.assignSw (ns := ["w", "turned"]) (EvO.pure (d := .tup [.int ((c.w : Nat) : Int), .int c.tau]) (Ev.tuple (.cons ?_ (.cons ?_ .nil))) ⟨_, rfl, rfl, ?_⟩))
  · rw [← hw]; exact Ev.bin Ev.int (Ev.bin (Ev.sub (Ev.name rfl) Ev.int (SubSem.list (d := .int c.c4) (by decide) rfl (by decide))) Ev.int (BinSem.fmod (by decide))) BinSem.add
  · exact Ev.bin Ev.int (Ev.bin (Ev.bin (Ev.bin (Ev.sub (Ev.name rfl) Ev.int (SubSem.list (d := .int c.c4) (by decide) rfl (by decide))) Ev.int (BinSem.fdiv (by decide) (by decide))) Ev.int (BinSem.fmod (by decide))) Ev.int (BinSem.mul (.of_right (by decide)))) BinSem.sub
  try dsimp only
  refine WP.cons (WP.assign (d := .list (intL c.heads)) (Ev.list (.cons ?_ (.cons ?_ .nil)) (by show 2 ≤ 16777216; decide)) ?_)
  · exact Ev.bin Ev.int (Ev.bin (Ev.bin (Ev.sub (Ev.name rfl) Ev.int (SubSem.list (d := .int c.c4) (by decide) rfl (by decide))) Ev.int (BinSem.fdiv (by decide) (by decide))) Ev.int (BinSem.fmod (by decide))) BinSem.add
  · exact Ev.bin Ev.int (Ev.bin (Ev.bin (Ev.sub (Ev.name rfl) Ev.int (SubSem.list (d := .int c.c4) (by decide) rfl (by decide))) Ev.int (BinSem.fdiv (by decide) (by decide))) Ev.int (BinSem.fmod (by decide))) BinSem.add
  refine WP.cons (WP.assign (d := .int c.letter) ?_ ?_)
  · exact Ev.bin Ev.int (Ev.bin (Ev.bin (Ev.sub (Ev.name rfl) Ev.int (SubSem.list (d := .int c.c4) (by decide) rfl (by decide))) Ev.int (BinSem.fdiv (by decide) (by decide))) Ev.int (BinSem.fmod (by decide))) BinSem.sub
  let rho : Rho := [("letter", .int c.letter), ("heads", .list (intL c.heads)), ("w", .int ((c.w : Nat) : Int)), ("turned", .int c.tau), ("cells", .list (intL c.list)), ("script", .list (intL ns))]
  -- the symbols
  refine WP.consJoin (μ₀ := []) rho ?_ ?_
  · refine WP.forR (ds := intL (c.heads ++ [c.letter, 0, 255, 256, -256])) (fun _ => rho) (fun _ => []) ?_ (.cons rfl (.cons rfl (.cons rfl (.cons rfl (.cons rfl (.cons rfl .nil)))))) rfl (fun i d hd => ?_) ⟨rfl, Sub.refl, rfl⟩
    · have e : intL (c.heads ++ [c.letter, 0, 255, 256, -256]) = intL c.heads ++ [.int c.letter, .int 0, .int 255, .int 256, .int (-256)] := List.map_append
      rw [e]
      exact EvIt.list (Ev.bin (Ev.name rfl) (Ev.list (.cons (Ev.name rfl) (.cons Ev.int (.cons Ev.int (.cons Ev.int (.cons (Ev.neg Ev.int) .nil)))))) (BinSem.addList (by show 2 + 5 ≤ 16777216; decide))) hh
    · obtain ⟨x, hx, rfl⟩ := by rw [List.getElem?_map] at hd; exact Option.map_eq_some_iff.mp hd
      refine ⟨_, .name, WP.cons (WP.ifs (b := !([(decide (x < 256) == decide (x < 256)) == true, (decide (256 ≤ x) == decide (255 < x)) == true, ((x == 0) == (x == 0)) == true].all id)) ?_ (fun hb => ?_) fun _ => ?_)⟩
      · refine EvT.cmp (Ev.list (.cons ?_ (.cons ?_ (.cons ?_ .nil)))) (Ev.bin (Ev.list (ds := [.bool true]) (.cons Ev.cbool .nil)) Ev.int (BinSem.mulList (x := 3) (by simp) (by decide) (by decide) (by decide))) (CmpSem.neLists (.cons (.bool _ _) (.cons (.bool _ _) (.cons (.bool _ _) .nil))) (by (first | lia -abstractProof | omega)))
        · exact Ev.cmp (Ev.callName (X.T.glob (by exact rfl) fun _ => .val _) (KeepG.K X.T.K (by exact rfl)) (.cons (Ev.name rfl) .nil) (ISTERMINAL_spec X.T (by (first | lia -abstractProof | omega)) x)) (Ev.cmp (Ev.name rfl) Ev.int CmpSem.lt) CmpSem.isBool
        · exact Ev.cmp (Ev.callName (X.T.glob (by exact rfl) fun _ => .val _) (KeepG.K X.T.K (by exact rfl)) (.cons (Ev.name rfl) .nil) (ISNONTERMINAL_spec X.T (by (first | lia -abstractProof | omega)) x)) (Ev.cmp (Ev.name rfl) Ev.int CmpSem.gt) CmpSem.isBool
        · exact Ev.cmp (Ev.callName (X.T.glob (by exact rfl) fun _ => .val _) (KeepG.K X.T.K (by exact rfl)) (.cons (Ev.name rfl) .nil) (ISEOF_spec X.T (by (first | lia -abstractProof | omega)) x)) (Ev.cmp (Ev.name rfl) Ev.int CmpSem.eq) CmpSem.isBool
      · have e : decide (256 ≤ x) = decide (255 < x) := decide_eq_decide.mpr (by (first | lia -abstractProof | omega))
        rw [e] at hb
        simp at hb
      · exact WP.nil (WP.nil ⟨.cons rfl (.cons rfl (.cons rfl (.cons rfl (.cons rfl (.cons rfl .nil))))), rfl⟩)
  -- the row
  have hheads : ∀ b : Int, b = 0 ∨ b = 1 → (intL c.heads)[b.toNat]? = some (.int (headAt c b)) := fun b hb => by rcases hb with rfl | rfl <;> rfl
  have hlet : ∀ {env : Env} {A : Around} {l : List Env} {ρ : Rho} {μ : Mu} {p : Pos} (_ : env.kindOf "ENDMARKER" = some .globalImplicit), Ev prog w G l A env ρ μ (.Name "ENDMARKER" p) (.int 0) := fun hk => X.T.glob (by exact rfl) (fun _ => .int _ _) hk
  refine WP.cons (WP.assignO (EvO.list (EvOs.pure (ds := intL (row0 c)) (.cons ?_ (.cons ?_ (.cons ?_ (.cons ?_ (.cons ?_ (.cons ?_ .nil)))))) ⟨by show 6 ≤ 16777216; decide, fun p => ?_⟩)))
  · exact Ev.sub (Ev.name rfl) Ev.int (SubSem.list (d := .int c.h0) (by decide) rfl (by decide))
  · exact Ev.name rfl
  · exact hlet rfl
  · exact Ev.sub (Ev.name rfl) Ev.int (SubSem.list (d := .int c.h1) (by decide) rfl (by decide))
  · exact Ev.name rfl
  · exact hlet rfl
  let xs4 : List Int := [c.c0, c.c1, c.c2, c.c3]
  let rowA := fun (i : Nat) => row0 c ++ ((xs4.take i).map (rowX c)).flatten
  have hrowlen : ∀ i, (rowA i).length ≤ 6 + 4 * 7 := fun i => by
    have hx : ∀ x, (rowX c x).length ≤ 7 := fun x => by
      obtain ⟨h1, h2⟩ := shape_ok x
      unfold rowX
      simp only [List.length_append, List.length_cons, List.length_nil, List.length_replicate, List.length_map, List.length_range]
      (first | lia -abstractProof | omega)
    have hf : ∀ ys : List Int, ((ys.map (rowX c)).flatten).length ≤ ys.length * 7 := fun ys => by
      induction ys with
      | nil => simp
      | cons y ys ih => simp only [List.map_cons, List.flatten_cons, List.length_append, List.length_cons]; have := hx y; (first | lia -abstractProof | omega)
    have h3 := hf (xs4.take i)
    have h4 : (xs4.take i).length ≤ 4 := by rw [List.length_take]; exact Nat.min_le_right _ _
    have h5 : (row0 c).length = 6 := rfl
    show (row0 c ++ ((xs4.take i).map (rowX c)).flatten).length ≤ _
    rw [List.length_append]
    (first | lia -abstractProof | omega)
  refine WP.consJoin (μ₀ := [(p, .list (intL (rowOf c)))]) (("row", .val (.ref p)) :: rho) ?_ ?_
  · refine WP.forR (ds := intL xs4) (fun _ => ("row", .val (.ref p)) :: rho) (fun i => [(p, .list (intL (rowA i)))]) ?_ (.cons rfl (.cons rfl (.cons rfl (.cons rfl (.cons rfl (.cons rfl (.cons rfl .nil))))))) rfl (fun i d hd => ?_) ⟨rfl, Sub.refl, rfl⟩
    · exact EvIt.list (Ev.cutTo (p := 4) (cs := c.list) (Ev.name rfl) Ev.int (show 4 ≤ 5 by decide) (by show 5 ≤ 16777216; decide)) hh
    · obtain ⟨x, hx, rfl⟩ := by rw [List.getElem?_map] at hd; exact Option.map_eq_some_iff.mp hd
      obtain ⟨r, hr⟩ : ∃ r, r = x.fmod 6 := ⟨_, rfl⟩
      have hr6 : r = 0 ∨ r = 1 ∨ r = 2 ∨ r = 3 ∨ r = 4 ∨ r = 5 := by
        have h1 := Int.fmod_nonneg_of_pos x (b := 6) (by decide)
        have h2 := Int.fmod_lt_of_pos x (b := 6) (by decide)
        (first | lia -abstractProof | omega)
      have hsh := shape_ok x
      rw [← hr] at hsh
      have hrow : rowA (i + 1) = rowA i ++ rowX c x := by
        show row0 c ++ ((xs4.take (i + 1)).map (rowX c)).flatten = row0 c ++ ((xs4.take i).map (rowX c)).flatten ++ rowX c x
        rw [List.take_add_one, hx]
        simp
      have hrX : rowX c x = [headAt c (headBit x)] ++ List.replicate (shape r).1.toNat c.letter ++ ((List.range (shape r).2.toNat).map fun k => headAt c (kidBit x k)) ++ [0] := by rw [hr]; rfl
      refine ⟨_, .name, WP.cons (WP.assignTup (EvO.pure (d := .tup [.int (shape r).1, .int (shape r).2]) (Ev.sub (Ev.tuple (.cons (Ev.tuple (.cons Ev.int (.cons Ev.int .nil))) (.cons (Ev.tuple (.cons Ev.int (.cons Ev.int .nil))) (.cons (Ev.tuple (.cons Ev.int (.cons Ev.int .nil))) (.cons (Ev.tuple (.cons Ev.int (.cons Ev.int .nil))) (.cons (Ev.tuple (.cons Ev.int (.cons Ev.int .nil))) (.cons (Ev.tuple (.cons Ev.int (.cons Ev.int .nil))) .nil)))))))
        (Ev.bin (Ev.name rfl) Ev.int (BinSem.fmod (by decide))) (SubSem.tup (by rw [← hr]; (first | lia -abstractProof | omega)) ?_ (by rw [← hr]; (first | lia -abstractProof | omega)))) ⟨_, .tup (.cons (.cons .nil)), ?_⟩))⟩
      · rw [← hr]
        rcases hr6 with q | q | q | q | q | q <;> rw [q] <;> rfl
      have hm3 : (shape r).2.toNat ≤ 3 := by (first | lia -abstractProof | omega)
      refine WP.cons ?_
      refine WP.assignComp (ds := rng 0 1 (shape r).2.toNat) _ (fun _ => true) (fun d => match d with | .int k => .int (headAt c (kidBit x k.toNat)) | d => d) ?_ (by simp only [rng, List.length_map, List.length_range]; (first | lia -abstractProof | omega)) (fun C d hd => ?_) ?_
      · exact EvIt.range1 (X.T.bglob (by exact rfl) rfl) (.cons (Ev.name rfl) .nil) hh (by (first | lia -abstractProof | omega))
      · obtain ⟨k, hk, rfl⟩ := List.mem_map.mp hd
        have hk3 : k < 3 := by have := List.mem_range.mp hk; (first | lia -abstractProof | omega)
        have ek : (0 : Int) + (k : Int) * 1 = (k : Int) := by (first | lia -abstractProof | omega)
        rw [ek]
        have e2 : (((k : Nat) : Int)).toNat = k := Int.toNat_natCast k
        have h2k : ((2 : Int) ^ (k : Int).toNat) ≠ 0 ∧ ((2 : Int) ^ (k : Int).toNat).natAbs.log2 < 9000 := by
          rw [e2]
          match k, hk3 with
          | 0, _ => decide
          | 1, _ => decide
          | 2, _ => decide
        have hbit : (kidBit x (k : Int).toNat) = 0 ∨ (kidBit x (k : Int).toNat) = 1 := fmod_two _
        refine ⟨_, .name, .nil, fun _ => ?_, Sub.push rfl⟩
        exact Ev.sub (Ev.name rfl) (Ev.bin (Ev.bin (Ev.bin (Ev.name rfl) Ev.int (BinSem.fdiv (by decide) (by decide))) (Ev.bin Ev.int (Ev.name rfl) (BinSem.pow (n := (k : Int)) (by (first | lia -abstractProof | omega)) (by
          have : Builtin.Int.intBits 2 = 2 := by decide
          rw [this]; (first | lia -abstractProof | omega)))) (BinSem.fdiv h2k.1 h2k.2)) Ev.int (BinSem.fmod (by decide))) (SubSem.list (d := .int (headAt c (kidBit x (k : Int).toNat))) (by show 0 ≤ kidBit x (k : Int).toNat; (first | lia -abstractProof | omega)) (hheads _ hbit) (by show kidBit x (k : Int).toNat < 2 ^ 63; (first | lia -abstractProof | omega)))
      · have ekids : List.map (fun d => match d with | .int k => Dat.int (headAt c (kidBit x k.toNat)) | d => d) ((rng 0 1 (shape r).2.toNat).filter fun _ => true) = intL ((List.range (shape r).2.toNat).map fun k => headAt c (kidBit x k)) := by
          rw [List.filter_eq_self.mpr (fun _ _ => rfl)]
          unfold rng intL
          rw [List.map_map, List.map_map]
          refine List.map_congr_left fun k _ => ?_
          show Dat.int (headAt c (kidBit x ((0 : Int) + (k : Int) * 1).toNat)) = Dat.int (headAt c (kidBit x k))
          have e : ((0 : Int) + (k : Int) * 1).toNat = k := by (first | lia -abstractProof | omega)
          rw [e]
        rw [ekids]
        have hbit := fmod_two (x.fdiv 6)
        refine WP.cons (WP.augList (μ₁ := []) (ds := intL (rowX c x)) rfl ?_ ?_ (WP.nil ⟨.cons rfl (.cons rfl (.cons rfl (.cons rfl (.cons rfl (.cons rfl (.cons rfl .nil)))))), ?_⟩))
        · rw [hrX]
          have e : intL ([headAt c (headBit x)] ++ List.replicate (shape r).1.toNat c.letter ++ ((List.range (shape r).2.toNat).map fun k => headAt c (kidBit x k)) ++ [0]) = [.int (headAt c (headBit x))] ++ (List.replicate (shape r).1.toNat [Dat.int c.letter]).flatten ++ intL ((List.range (shape r).2.toNat).map fun k => headAt c (kidBit x k)) ++ [.int 0] := by
            rw [flat_one]
            unfold intL
            rw [List.map_append, List.map_append, List.map_append, List.map_replicate]
            rfl
          rw [e]
          have hl1 : (List.replicate (shape r).1.toNat [Dat.int c.letter]).flatten.length = (shape r).1.toNat := by rw [flat_one, List.length_replicate]
          refine Ev.bin (Ev.bin (Ev.bin (Ev.list (.cons (Ev.sub (Ev.name rfl) (Ev.bin (Ev.bin (Ev.name rfl) Ev.int (BinSem.fdiv (by decide) (by decide))) Ev.int (BinSem.fmod (by decide))) (SubSem.list (d := .int (headAt c (headBit x))) (by show 0 ≤ (x.fdiv 6).fmod 2; (first | lia -abstractProof | omega)) (hheads _ hbit) (by show (x.fdiv 6).fmod 2 < 2 ^ 63; (first | lia -abstractProof | omega)))) .nil)) (Ev.bin (Ev.list (.cons (Ev.name rfl) .nil)) (Ev.name rfl) (BinSem.mulList (by simp) (by (first | lia -abstractProof | omega)) (by (first | lia -abstractProof | omega)) (by show 1 * (shape r).1.toNat ≤ 2 ^ 24; (first | lia -abstractProof | omega)))) (BinSem.addList ?_)) (Ev.name rfl) (BinSem.addList ?_)) (Ev.list (.cons (hlet rfl) .nil)) (BinSem.addList ?_)
          · rw [hl1]; show 1 + _ ≤ _; (first | lia -abstractProof | omega)
          · rw [List.length_append, hl1, List.length_map, List.length_map, List.length_range]; show 1 + _ + _ ≤ _; (first | lia -abstractProof | omega)
          · rw [List.length_append, List.length_append, hl1, List.length_map, List.length_map, List.length_range]; show 1 + _ + _ + 1 ≤ _; (first | lia -abstractProof | omega)
        · have h1 := hrowlen i
          have h2 := hrowlen (i + 1)
          rw [hrow, List.length_append] at h2
          rw [List.length_map, List.length_map]; (first | lia -abstractProof | omega)
        · show [] ++ (p, MD.list (intL (rowA i) ++ intL (rowX c x))) :: [] = [(p, MD.list (intL (rowA (i + 1))))]
          rw [hrow, show intL (rowA i ++ rowX c x) = intL (rowA i) ++ intL (rowX c x) from List.map_append]
          rfl
  refine WP.cons (WP.freezeName (μ₁ := []) (x := "row") rfl ?_)
  try dsimp only
  refine WP.assign (d := .list ((rulesOf c).map ruleD)) ?_ ?_
  · exact Ev.callName (X.T.glob (by exact rfl) fun _ => .val _) (KeepG.K X.T.K (by exact rfl)) (.cons (Ev.name rfl) (.cons (Ev.name rfl) .nil)) (law_rules_spec X.T hh (by (first | lia -abstractProof | omega)) (rowOf c) c.heads B.row)
  have htau : c.tau = 1 ∨ c.tau = -1 := by
    have := fmod_two (c.c4.fdiv 12)
    unfold Cells.tau
    (first | lia -abstractProof | omega)
  let E0 := (build (rulesOf c) (3 * c.tau) 5).1
  let E1 := (build (rulesOf c) (3 * c.tau) 5).2
  have hE0 : E0.length = 6 := (build_len (rulesOf c) (3 * c.tau) 5).1
  have hE1 : E1.length = 6 := (build_len (rulesOf c) (3 * c.tau) 5).2
  refine WP.cons (WP.assign (d := .list [.list (E0.map Ent.dat), .list (E1.map Ent.dat)]) ?_ ?_)
  · exact Ev.callName (X.T.glob (by exact rfl) fun _ => .val _) (KeepG.K X.T.K (by exact rfl)) (.cons (Ev.name rfl) (.cons (Ev.name rfl) (.cons Ev.int .nil))) (law_trees_spec X.T hh (by (first | lia -abstractProof | omega)) (by (first | lia -abstractProof | omega)) (rulesOf c) c.tau htau B.build)
  refine WP.cons (WP.ifs (b := false) (EvT.cmp (Ev.name rfl) (Ev.list .nil) (CmpSem.eqLen (by show 2 ≠ 0; decide) (by (first | lia -abstractProof | omega)))) (fun hb => by cases hb) fun _ => ?_)
  have hent : ∀ (h : Int) (s : Nat), (h = 0 ∨ h = 1) → s < 6 → ∃ E : List Dat, [Dat.list (E0.map Ent.dat), .list (E1.map Ent.dat)][h.toNat]? = some (.list E) ∧ E[s]? = some ((entsOf c h).getD s noneE).dat := fun h s hh01 hs => by
    rcases hh01 with rfl | rfl
    · refine ⟨_, rfl, ?_⟩
      rw [List.getElem?_map, List.getElem?_eq_getElem (by (first | lia -abstractProof | omega))]
      show some (E0[s]).dat = some (E0.getD s noneE).dat
      rw [List.getD_eq_getElem?_getD, List.getElem?_eq_getElem (by (first | lia -abstractProof | omega))]; rfl
    · refine ⟨_, rfl, ?_⟩
      rw [List.getElem?_map, List.getElem?_eq_getElem (by (first | lia -abstractProof | omega))]
      show some (E1[s]).dat = some (E1.getD s noneE).dat
      rw [List.getD_eq_getElem?_getD, List.getElem?_eq_getElem (by (first | lia -abstractProof | omega))]; rfl
  let duesD : List Dat := [.list [.list (intL (dueOf c 0 0)), .list (intL (dueOf c 0 1))], .list [.list (intL (dueOf c 1 0)), .list (intL (dueOf c 1 1))], .list [.list (intL (dueOf c 2 0)), .list (intL (dueOf c 2 1))], .list [.list (intL (dueOf c 3 0)), .list (intL (dueOf c 3 1))], .list [.list (intL (dueOf c 4 0)), .list (intL (dueOf c 4 1))]]
  refine WP.nil (WP.cons (WP.assignSw (ns := ["told", "dues"]) (EvO.pure (d := .tup [.list (intL [0, 0]), .list duesD]) (Ev.tuple (.cons (Ev.list (.cons Ev.int (.cons Ev.int .nil))) (.cons ?_ .nil))) ⟨_, rfl, rfl, ?_⟩)))
  · have e : duesD = [.list [.list (intL (dueOf c 0 0)), .list (intL (dueOf c 0 1))]] ++ ((([Dat.int 0, .int 2, .int 1, .int 1]).filter fun _ => true).map (fun d => match d with | .int f => .list [.list (intL (dueE (entsOf c 0) f)), .list (intL (dueE (entsOf c 1) f))] | d => d)) := rfl
    rw [e]
    refine Ev.bin (Ev.list (.cons (Ev.bin (Ev.list (ds := [.list (intL (List.replicate 6 0))]) (.cons (Ev.bin (Ev.list (ds := [.int 0]) (.cons Ev.int .nil)) Ev.int (BinSem.mulList (x := 6) (by simp) (by decide) (by decide) (by decide))) .nil)) Ev.int (BinSem.mulList (x := 2) (by simp) (by decide) (by decide) (by decide))) .nil)) ?_ (BinSem.addList (by show 1 + 4 ≤ 16777216; decide))
    refine Ev.comp (ds := [.int 0, .int 2, .int 1, .int 1]) _ (fun _ => true) _ (EvIt.tuple (Ev.tuple (.cons Ev.int (.cons Ev.int (.cons Ev.int (.cons Ev.int .nil))))) hh) (by decide) (fun C d hd => ?_)
    have hf : ∃ f : Int, d = .int f ∧ (f = 0 ∨ f = 1 ∨ f = 2) := by
      simp only [List.mem_cons, List.not_mem_nil, or_false] at hd
      rcases hd with rfl | rfl | rfl | rfl <;> exact ⟨_, rfl, by decide⟩
    obtain ⟨f, rfl, hf⟩ := hf
    refine ⟨_, .name, .nil, fun _ => ?_, Sub.push rfl⟩
    have e : (Dat.list [.list (intL (dueE (entsOf c 0) f)), .list (intL (dueE (entsOf c 1) f))]) = .list ((([Dat.int 0, .int 1]).filter fun _ => true).map (fun d => match d with | .int h => .list (intL (dueE (entsOf c h) f)) | d => d)) := rfl
    show Ev _ _ _ _ _ _ _ _ _ (Dat.list [.list (intL (dueE (entsOf c 0) f)), .list (intL (dueE (entsOf c 1) f))])
    rw [e]
    refine Ev.comp (ds := [.int 0, .int 1]) _ (fun _ => true) _ (EvIt.tuple (Ev.tuple (.cons Ev.int (.cons Ev.int .nil))) hh) (by decide) (fun C d hd => ?_)
    have hf : ∃ h : Int, d = .int h ∧ (h = 0 ∨ h = 1) := by
      simp only [List.mem_cons, List.not_mem_nil, or_false] at hd
      rcases hd with rfl | rfl <;> exact ⟨_, rfl, by decide⟩
    obtain ⟨h, rfl, hh01⟩ := hf
    refine ⟨_, .name, .nil, fun _ => ?_, Sub.push rfl⟩
    have e : (Dat.list (intL (dueE (entsOf c h) f))) = .list (((rng 5 (-1) 6).filter fun _ => true).map (fun d => match d with | .int s => .int (fld f ((entsOf c h).getD s.toNat noneE)) | d => d)) := by
      rw [List.filter_eq_self.mpr (fun _ _ => rfl)]
      unfold dueE rng intL
      rw [List.map_map, List.map_map]
      refine congrArg Dat.list (List.map_congr_left fun i hi => ?_)
      show Dat.int (fld f ((entsOf c h).getD (5 - i) noneE)) = Dat.int (fld f ((entsOf c h).getD ((5 : Int) + (i : Int) * (-1)).toNat noneE))
      have e : ((5 : Int) + (i : Int) * (-1)).toNat = 5 - i := by (first | lia -abstractProof | omega)
      rw [e]
    show Ev _ _ _ _ _ _ _ _ _ (Dat.list (intL (dueE (entsOf c h) f)))
    rw [e]
    refine Ev.comp (ds := rng 5 (-1) 6) _ (fun _ => true) _ (EvIt.range3 (X.T.bglob (by exact rfl) rfl) (.cons Ev.int (.cons (Ev.neg Ev.int) (.cons (Ev.neg Ev.int) .nil))) hh (by decide) (by decide) (by decide) (by decide)) (by decide) (fun C d hd => ?_)
    obtain ⟨i, hi, rfl⟩ := List.mem_map.mp hd
    have hi6 : i < 6 := List.mem_range.mp hi
    obtain ⟨s, hs⟩ : ∃ s : Nat, (5 : Int) + (i : Int) * (-1) = (s : Int) := ⟨5 - i, by (first | lia -abstractProof | omega)⟩
    rw [hs]
    obtain ⟨E, q1, q2⟩ := hent h s hh01 (by (first | lia -abstractProof | omega))
    refine ⟨_, .name, .nil, fun _ => ?_, Sub.push rfl⟩
    show Ev _ _ _ _ _ _ _ _ _ (Dat.int (fld f ((entsOf c h).getD (s : Int).toNat noneE)))
    rw [Int.toNat_natCast]
    refine Ev.sub (Ev.sub (Ev.sub (Ev.name rfl) (Ev.name rfl) (SubSem.list (by (first | lia -abstractProof | omega)) q1 (by (first | lia -abstractProof | omega)))) (Ev.name rfl) (SubSem.list (by (first | lia -abstractProof | omega)) (by rw [Int.toNat_natCast]; exact q2) (by (first | lia -abstractProof | omega)))) (Ev.name rfl) (SubSem.tup (by (first | lia -abstractProof | omega)) ?_ (by (first | lia -abstractProof | omega)))
    rcases hf with rfl | rfl | rfl <;> rfl
  try dsimp only
  let toldD := fun (t : Nat) => (Dat.list (intL [toldOf c t 0, toldOf c t 1]))
  let rho2 : Rho := [("dues", .list duesD), ("rules", .list ((rulesOf c).map ruleD)), ("w", .int ((c.w : Nat) : Int)), ("cells", .list (intL c.list))]
  have htold0 : ∀ h, toldOf c 0 h = 0 := fun h => dval_zero c.w (dueOf c 0 h) rfl
  have hbw : Builtin.Int.intBits ((2 : Int) ^ c.w) ≤ 49 := by
    refine intBits_le ?_
    have e : ((2 : Int) ^ c.w).natAbs = 2 ^ c.w := by rw [Int.natAbs_pow]; rfl
    rw [e]
    exact Nat.pow_lt_pow_right (by decide) (by (first | lia -abstractProof | omega))
  have hnb : ∀ t h, Builtin.Int.intBits (toldOf c t h) ≤ 290 := fun t h => by
    obtain ⟨q1, q2⟩ := dval_bound c.w (dueOf c t h) (B.dig t h)
    rw [due_len] at q2
    refine intBits_le ?_
    have e : (2 : Int) ^ (c.w * 6) = ((2 ^ (c.w * 6) : Nat) : Int) := by simp
    rw [e] at q2
    have h3 : (2 : Nat) ^ (c.w * 6) ≤ 2 ^ 290 := Nat.pow_le_pow_right (by decide) (by (first | lia -abstractProof | omega))
    show (dval c.w (dueOf c t h)).natAbs < 2 ^ 290
    (first | lia -abstractProof | omega)
  refine WP.cons ?_
  refine WP.forR (ds := rng 0 1 5) (fun t => ("told", toldD (t - 1)) :: rho2) (fun _ => []) ?_ (.cons (by show some _ = some (toldD 0); show some (Dat.list (intL [0, 0])) = some (Dat.list (intL [toldOf c 0 0, toldOf c 0 1])); rw [htold0, htold0]) (.cons rfl (.cons rfl (.cons rfl (.cons rfl .nil))))) rfl (fun t d hd => ?_) (WP.cons (WP.ret Ev.cbool rfl))
  · exact EvIt.range1 (X.T.bglob (by exact rfl) rfl) (.cons Ev.int .nil) hh (by decide)
  · have ht : t < 5 := by
      have := (List.getElem?_eq_some_iff.mp hd).1
      simpa [rng] using this
    have ed : d = .int (t : Int) := by
      rw [rng_get ht] at hd; cases hd; congr 1; (first | lia -abstractProof | omega)
    subst ed
    refine ⟨_, .name, WP.consJoin (μ₀ := []) (("turn", .int (t : Int)) :: ("told", toldD t) :: rho2) ?_ ?_⟩
    · refine WP.ifs (b := decide ((0 : Int) < (t : Int))) (EvT.cmp (Ev.name rfl) Ev.int CmpSem.gt) (fun hb => ?_) fun hb => ?_
      · have ht0 : 0 < t := by have := of_decide_eq_true hb; (first | lia -abstractProof | omega)
        obtain ⟨V, S, hVS, hV, hS, ho, hob, hn0, hn1⟩ := (B.step (t - 1) (by (first | lia -abstractProof | omega))).ex
        have et : t - 1 + 1 = t := by (first | lia -abstractProof | omega)
        rw [et] at hn0 hn1
        refine WP.cons (WP.assign (d := toldD t) ?_ (WP.nil ⟨rfl, .cons rfl (.cons rfl (.cons rfl (.cons rfl (.cons rfl (.cons rfl .nil))))), rfl⟩))
        show Ev _ _ _ _ _ _ _ _ _ (Dat.list (intL [toldOf c t 0, toldOf c t 1]))
        rw [← hn0, ← hn1]
        refine Ev.callName (X.T.glob (by exact rfl) fun _ => .val _) (KeepG.K X.T.K (by exact rfl)) (.cons (Ev.name rfl) (.cons (Ev.name rfl) (.cons (Ev.bin Ev.int (Ev.name rfl) (BinSem.pow (n := ((c.w : Nat) : Int)) (by (first | lia -abstractProof | omega)) ?_)) (.cons Ev.int (.cons (Ev.bin (Ev.sub (Ev.name rfl) Ev.int (SubSem.list (d := .int c.c4) (by decide) rfl (by decide))) (Ev.name rfl) BinSem.add) .nil)))))
          (law_step_spec X hh (by (first | lia -abstractProof | omega)) (rulesOf c) B.rule B.few (toldOf c (t - 1)) (2 ^ c.w) (c.c4 + (t : Int)) (Int.pow_pos (by decide)) hbw (hnb (t - 1)) V S hVS hV hS _ _ _ _ _ rfl rfl rfl rfl rfl ho hob)
        have : Builtin.Int.intBits 2 = 2 := by decide
        rw [this]; (first | lia -abstractProof | omega)
      · have ht0 : t = 0 := by have := of_decide_eq_false hb; (first | lia -abstractProof | omega)
        subst ht0
        exact WP.nil ⟨rfl, .cons rfl (.cons rfl (.cons rfl (.cons rfl (.cons rfl (.cons rfl .nil))))), rfl⟩
    · refine WP.cons ?_
      refine WP.forR (ds := zipD (intL [toldOf c t 0, toldOf c t 1]) [.list (intL (dueOf c t 0)), .list (intL (dueOf c t 1))]) (fun _ => ("turn", .int (t : Int)) :: ("told", toldD t) :: rho2) (fun _ => []) ?_ (.cons rfl (.cons rfl (.cons rfl (.cons rfl (.cons rfl (.cons rfl .nil)))))) rfl (fun i d hd => ?_) (WP.nil ⟨.cons rfl (.cons rfl (.cons rfl (.cons rfl (.cons rfl .nil)))), rfl⟩)
      · refine EvIt.zip (X.T.bglob (by exact rfl) rfl) (.cons (Ev.name rfl) (.cons (Ev.sub (Ev.name rfl) (Ev.name rfl) (SubSem.list (by (first | lia -abstractProof | omega)) ?_ (by (first | lia -abstractProof | omega)))) .nil)) hh
        rw [Int.toNat_natCast]
        match t, ht with
        | 0, _ => rfl
        | 1, _ => rfl
        | 2, _ => rfl
        | 3, _ => rfl
        | 4, _ => rfl
      · have hex : ∃ h : Int, d = .tup [.int (toldOf c t h), .list (intL (dueOf c t h))] := by
          match i, hd with
          | 0, hd => exact ⟨0, (Option.some.inj hd).symm⟩
          | 1, hd => exact ⟨1, (Option.some.inj hd).symm⟩
          | i + 2, hd => cases hd
        obtain ⟨h, rfl⟩ := hex
        have hdig := B.dig t h
        have hl6 := due_len c t h
        obtain ⟨x, hx⟩ := dval_nat c.w (dueOf c t h) hdig
        have hx' : toldOf c t h = (x : Int) := hx
        have hxb : Builtin.Int.intBits (x : Int) ≤ 1000000 := by have := hnb t h; rw [hx'] at this; (first | lia -abstractProof | omega)
        rw [hx']
        generalize dueOf c t h = due at hdig hl6 hx ⊢
        have hsg := sig_le due
        have hnd := nd_sig c.w (by (first | lia -abstractProof | omega)) due x hdig hx
        have htk : ∀ y ∈ due.take (sig due), 0 ≤ y ∧ y < 2 ^ c.w := fun y hy => hdig y (List.mem_of_mem_take hy)
        have hdv := dval_sig c.w due
        have htl : (due.take (sig due)).length = sig due := by rw [List.length_take]; (first | lia -abstractProof | omega)
        have hdg : digs c.w (nd c.w x) x = due.take (sig due) := by
          have := digs_of c.w (due.take (sig due)) x htk (hdv.trans hx)
          rw [htl] at this
          rw [hnd]; exact this
        obtain ⟨mx1, mx2⟩ := szL_max due hl6
        refine ⟨_, .tup (.cons (.cons .nil)), WP.cons (WP.assign (d := .int (sig due)) ?_ ?_)⟩
        · refine Ev.callName (X.T.bglob (by exact rfl) rfl) (.plain (by intro _ e; cases e)) (ds := [.list (intL (szL due))]) (.cons ?_ .nil) (CallSem.maxL _ _ mx1 mx2 hh)
          rw [← szL_dat]
          refine Ev.bin (Ev.list (.cons Ev.int .nil)) (Ev.comp (ds := rng 0 1 6) _ _ _ (EvIt.range1 (X.T.bglob (by exact rfl) rfl) (.cons Ev.int .nil) hh (by decide)) (by decide) (fun C d hd => ?_)) (BinSem.addList ?_)
          · obtain ⟨k, hk, rfl⟩ := List.mem_map.mp hd
            have hk6 : k < 6 := List.mem_range.mp hk
            have ek : (0 : Int) + (k : Int) * 1 = (k : Int) := by (first | lia -abstractProof | omega)
            rw [ek]
            refine ⟨_, .name, .one ?_, fun _ => Ev.bin (Ev.name rfl) Ev.int BinSem.add, Sub.push rfl⟩
            show EvT _ _ _ _ _ _ _ _ _ (due.getD (k : Int).toNat 0 != 0)
            refine EvT.cmp (Ev.sub (Ev.name rfl) (Ev.name rfl) (SubSem.list (d := .int (due.getD (k : Int).toNat 0)) (by (first | lia -abstractProof | omega)) ?_ (by (first | lia -abstractProof | omega)))) Ev.int CmpSem.ne
            rw [Int.toNat_natCast, List.getD_eq_getElem?_getD, List.getElem?_map, List.getElem?_eq_getElem (by (first | lia -abstractProof | omega))]; rfl
          · have : ((rng 0 1 6).filter (fun d => match d with | .int k => due.getD k.toNat 0 != 0 | _ => false)).length ≤ (rng 0 1 6).length := List.length_filter_le _ _
            rw [List.length_map]
            show 1 + _ ≤ _
            have h6 : (rng 0 1 6).length = 6 := rfl
            (first | lia -abstractProof | omega)
        · refine WP.cons (WP.ifs (b := (!decide (digs c.w (nd c.w x) x = due.take (sig due))) || (!decide ([dval c.w (due.take (sig due)), dval c.w due] = [(x : Int), (x : Int)]))) ?_ (fun hb => ?_) fun _ => ?_)
          · have cut : ∀ {env : Env} {A : Around} {l : List Env} {ρ : Rho} {μ : Mu} {q : Pos} {p : Pos} {e₁ e₂ : PySem.Expr}, Ev prog w G l A env ρ μ e₁ (.list (intL due)) → Ev prog w G l A env ρ μ e₂ (.int ((sig due : Nat) : Int)) → Ev prog w G l A env ρ μ (.Subscript e₁ (.Slice none (some e₂) none q) p) (.list (intL (due.take (sig due)))) := fun h1 h2 => Ev.cutTo h1 h2 hsg (by (first | lia -abstractProof | omega))
            refine EvT.or2 (EvT.cmp (Ev.callName (X.T.glob (by exact rfl) fun _ => .val _) (KeepG.K X.T.K (by exact rfl)) (.cons (Ev.name rfl) (.cons (Ev.name rfl) .nil)) (int2digits_spec X (by (first | lia -abstractProof | omega)) x c.w (by (first | lia -abstractProof | omega)) (by (first | lia -abstractProof | omega)) hxb (by (first | lia -abstractProof | omega)))) (cut (Ev.name rfl) (Ev.name rfl)) (CmpSem.neInts (by (first | lia -abstractProof | omega)))) fun _ => ?_
            refine EvT.cmp (Ev.list (ds := intL [dval c.w (due.take (sig due)), dval c.w due]) (.cons ?_ (.cons ?_ .nil)) (by show 2 ≤ 16777216; decide)) (Ev.bin (Ev.list (ds := [.int (x : Int)]) (.cons (Ev.name rfl) .nil)) Ev.int (BinSem.mulList (x := 2) (by simp) (by decide) (by decide) (by show 1 * 2 ≤ 2 ^ 24; decide))) (CmpSem.neInts (ms := [(x : Int), (x : Int)]) (by (first | lia -abstractProof | omega)))
            · exact Ev.callName (X.T.glob (by exact rfl) fun _ => .val _) (KeepG.K X.T.K (by exact rfl)) (.cons (cut (Ev.name rfl) (Ev.name rfl)) (.cons (Ev.name rfl) .nil)) (digits2int_spec X (by (first | lia -abstractProof | omega)) c.w (by (first | lia -abstractProof | omega)) _ htk (by (first | lia -abstractProof | omega)))
            · exact Ev.callName (X.T.glob (by exact rfl) fun _ => .val _) (KeepG.K X.T.K (by exact rfl)) (.cons (Ev.name rfl) (.cons (Ev.name rfl) .nil)) (digits2int_spec X (by (first | lia -abstractProof | omega)) c.w (by (first | lia -abstractProof | omega)) due hdig (by (first | lia -abstractProof | omega)))
          · rw [hdg, hdv, hx] at hb
            simp at hb
          · exact WP.nil (WP.nil ⟨.cons rfl (.cons rfl (.cons rfl (.cons rfl (.cons rfl (.cons rfl .nil))))), rfl⟩)
end
end Mine
end
section
open PySem PySem.W PySem.Calls PyProof.Rows
set_option Elab.async false
set_option linter.unusedVariables false
namespace Mine
theorem CellsAre.mem {cm : Str → Option Value} {cs : List (Str × Addr)} {cells : List (Addr × Obj)} (X : CellsAre cm cs cells) {x : Str} {c : Addr} (h : (x, c) ∈ cs) : ∃ o, (c, o) ∈ cells ∧ o.data = .cell (cm x) := by
  induction X with
  | nil => cases h
  | cons hd r ih =>
    rcases List.mem_cons.mp h with e | h
    · cases e; exact ⟨_, .head _, hd⟩
    · obtain ⟨o', h1, h2⟩ := ih h
      exact ⟨o', .tail _ h1, h2⟩
theorem IntsAre.reps {prog : Program} {w : World} {H : PH} {vs : List Value} {ns : List Int} (h : IntsAre vs ns) : Reps prog w H vs (intL ns) := by
  induction h with
  | nil => exact .nil
  | cons n t h ih => exact .cons (.int n t) ih
theorem ints_eq {h : Heap} {tabs : List (Addr × Addr)} {a : Addr} {vs us : List Value} {n : Nat} {ns : List Int} (ho : h.get? a = some (listO vs n)) (hl : (ghostOf h tabs).IsList a us.toArray) (hi : IntsAre us ns) : IntsAre vs ns := by
  obtain ⟨o, e, _, k, hd⟩ := hl
  have e2 := of_hideAll _ e
  rw [ho] at e2
  cases e2
  have e3 : Data.seq vs.toArray n = Data.seq us.toArray k := hd
  injection e3 with e4 e5
  have e6 : vs = us := by simpa using e4
  rw [e6]; exact hi
abbrev tabs2 : List (Addr × Addr) := [(41, 37), (34, 30)]
theorem law_join {prog : Program} {w : World} {s₁ : Shared} {h₁ : Heap} {tk₁ : Tok} {fa : Addr} {cd : Value} {p : Program} {loose : List Str} {mean : ExcName → Option Value} {mg mb : Str → Option Value} {m cm : Str → Option Value} {cells news : List (Addr × Obj)} {q : Str} {fd : FuncData} {body : List Stmt} {oc : Value} {od : Option Addr} {osl : Array (Option Value)} {P : Params} {a : Addr} {vs : List Value} {n : Nat} {ns : List Int}
    (X : (Mine.hd.heap_39 P).In (ghostOf s₁.heap tabs2)) (hfd : (Mine.hd.heap_39 P).lookup 160 = some ⟨oc, od, .func fd, osl⟩) (hbody : fd.body = .stmts body) (T : Top p loose mean mg mb (ghostOf s₁.heap tabs2))
    (F : Fr (ghostOf s₁.heap tabs2) s₁.heap.objs.size h₁ m) (N : News (ghostOf s₁.heap tabs2) s₁.heap.objs.size h₁ news) (hc0 : CellsAre cm (cellsFrom (s₁.heap.objs.size + 1) fd.scope.names []) cells) (hsub : ∀ q ∈ cells, q ∈ news) (ht1 : (37, tabObj #[]) ∈ news) (ht2 : (30, tabObj #[]) ∈ news)
    (hcm : cm "script" = some (.ref a)) (hL : s₁.heap.get? a = some (listO vs n)) (hTA : TabsAt tabs2 s₁.heap) (hI : IntsAre vs ns) (hlen : ns.length ≤ 63) (B : LawOk (cellsOf ns)) (C1 : CodeHd (ghostOf s₁.heap tabs2) 41 37) (C2 : CodeHd (ghostOf s₁.heap tabs2) 34 30) (l0 : 37 < s₁.heap.objs.size ∧ 30 < s₁.heap.objs.size)
    {Q : Flow → Shared → Prop} {E : Value → Shared → Prop}
    (hQ : ∀ h' tk m', Fr (ghostOf s₁.heap tabs2) s₁.heap.objs.size h' m' → GrownAll tabs2 h' → Q (.ret (.bool true)) { heap := h', gens := s₁.gens, drawn := s₁.drawn, toks := tk, os := s₁.os }) :
    wpAny (model prog w) (callerA.deeper (envOfC q fd.scope s₁.heap.objs.size fa cd)) (execs body (envOfC q fd.scope s₁.heap.objs.size fa cd)) Q E { heap := h₁, gens := s₁.gens, drawn := s₁.drawn, toks := tk₁, os := s₁.os } := by
  have hsz : (ghostOf s₁.heap tabs2).objs.size = s₁.heap.objs.size := hideAll_size _ _
  have hsm : sysModules < s₁.heap.objs.size := by
    have : sysModules < 30 := by decide
    exact Nat.lt_trans this l0.2
  let G : GX := { hG := ghostOf s₁.heap tabs2, sm := by rw [hsz]; exact hsm, nolim := T.nolimit, tbs := [⟨30, 32, 4, "_int2digits.<locals>.inner"⟩, ⟨37, 47, 4, "_digits2int.<locals>.inner"⟩] }
  obtain ⟨bm, ob, b1, b2, b3, b4, b5, b6⟩ := T.bmain
  have hbi : ∀ Pt : Addr, (ghostOf s₁.heap tabs2).get? Pt = none → ∃ mg, G.hG.Ns mainGlobals mg ∧ G.hG.BuiltinsAt mg Pt := fun Pt hP => by
    refine ⟨mg, T.g, bm, ob, b1, b2, fun q => ?_, fun q => ?_, b3, b4, b5, b6⟩
    · obtain ⟨o, es, ep, e, hd, _⟩ := T.g
      rw [q, e] at b3; cases b3; rw [hd] at b6; cases b6
    · rw [q, hP] at b3; cases b3
  have hn37 := (N _ ht1).2.2
  have hn30 := (N _ ht2).2.2
  have XN : GTN P G := {
    T := ⟨X, p, loose, mg, mb, { T with }⟩
    n1 := { mem := .head _, one := fun tb' hb e => (by
      rcases List.mem_cons.mp hb with rfl | hb
      · rfl
      · rw [List.mem_singleton.mp hb] at e; exact absurd e (by decide)), code := C2, bi := hbi 30 hn30 }
    n2 := { mem := .tail _ (.head _), one := fun tb' hb e => (by
      rcases List.mem_cons.mp hb with rfl | hb
      · exact absurd e (by decide)
      · rw [List.mem_singleton.mp hb]), code := C1, bi := hbi 37 hn37 } }
  obtain ⟨hk, hscr⟩ : fd.scope.kind = .function ∧ fd.scope.names.lookup (PySem.Str.ofString "script") = some .cell := by
    have h := hfd
    conv at h => lhs; whnf
    simp only [Option.some.injEq, Obj.mk.injEq, Data.func.injEq] at h
    obtain ⟨-, -, rfl, -⟩ := h
    exact ⟨rfl, rfl⟩
  obtain ⟨L, hLe⟩ : ∃ L, L = s₁.heap.objs.size := ⟨_, rfl⟩
  rw [← hLe] at F N hc0 ⊢
  have hGs : G.hG.objs.size = L := hsz.trans hLe.symm
  have ok := cellsFrom_ok fd.scope.names (s₁.heap.push { cls := .type "dict", data := .dict #[] }) (L + 1) [] ⟨fun _ _ hm => (nomatch hm), List.Pairwise.nil⟩ (by rw [Heap.size_push, hLe]; exact Nat.le_refl _)
  rw [Heap.size_push, ← hLe] at ok
  have hcell : ∀ x c, (x, c) ∈ cellsFrom (L + 1) fd.scope.names [] → (ghostOf s₁.heap tabs2).get? c = none ∧ L < c ∧ h₁.IsCell c (cm x) := fun x c hm => by
    obtain ⟨o, q1, q2⟩ := CellsAre.mem hc0 hm
    have hn := N _ (hsub _ q1)
    exact ⟨hn.2.2, (ok.empty x c hm).2, o, hn.1, q2⟩
  let env := envOfC q fd.scope L fa cd
  have hLn : G.hG.get? L = none := Heap.get?_none_of_le (by rw [hGs]; exact Nat.le_refl _)
  obtain ⟨oL, esL, epL, hoL, hdL, _⟩ := id F.ns
  have hrep : Rep prog w (fun b => G.hG.get? b) (.ref a) (.list (intL ns)) := .list (ghost_get hTA hL (fun q => by cases q)) (IntsAre.reps hI)
  have S : St prog w G [env] (callerA.deeper env) env [("script", .list (intL ns))] [] (fun b => G.hG.get? b) h₁ := {
    ext := F.keep
    hok := .inl rfl
    afr := rfl
    glob := fun _ _ e => e
    tabs := fun tb hb => by
      rcases List.mem_cons.mp hb with rfl | hb
      · exact ⟨#[], (N _ ht2).1, .inl rfl⟩
      · rw [List.mem_singleton.mp hb]; exact ⟨#[], (N _ ht1).1, .inl rfl⟩
    tout := fun b hb => by
      have hb' : b ∈ [30, 37] := hb
      simp only [List.mem_cons, List.not_mem_nil, or_false] at hb'
      rw [hGs, hLe]
      rcases hb' with rfl | rfl
      · exact ⟨hn30, l0.2⟩
      · exact ⟨hn37, l0.1⟩
    fr := ⟨fun e he => by
      rw [List.mem_singleton.mp he]
      exact ⟨by show fd.scope.kind ≠ .module; rw [hk]; decide, L, oL, esL, epL, rfl, hoL, hdL, hLn, Nat.le_of_eq hGs⟩⟩
    frle := fun b hb => by
      have hb' : b ∈ [L] := hb
      rw [List.mem_singleton.mp hb']; exact Nat.le_refl _
    frin := fun L' hL' => by
      have e : L = L' := Option.some.inj hL'
      subst e; exact .head _
    kind := hk
    genv := rfl
    benv := rfl
    base := Nat.le_of_eq hGs
    outL := hLn
    loc := ⟨m, F.ns, fun x d hx hkx => by
      rw [List.lookup_cons] at hx
      by_cases z : x = "script"
      · subst z
        have e : fd.scope.names.lookup (PySem.Str.ofString "script") = some .local := hkx
        rw [hscr] at e; cases e
      · rw [beq_eq_false_iff_ne.mpr z] at hx; cases hx⟩
    cel := fun x d hx hkx => by
      rw [List.lookup_cons] at hx
      by_cases z : x = "script"
      · subst z
        rw [beq_self_eq_true] at hx; cases hx
        obtain ⟨c, hc⟩ := Option.isSome_iff_exists.mp (cellsFrom_some fd.scope.names (L + 1) [] (.inl hscr))
        obtain ⟨_, _, hic⟩ := hcell _ _ (mem_of_lookup hc)
        rw [hcm] at hic
        exact ⟨.inl hscr, c, _, hc, hic, hrep⟩
      · rw [beq_eq_false_iff_ne.mpr z] at hx; cases hx
    cells := fun x c hm => by
      obtain ⟨q1, q2, q3⟩ := hcell x c hm
      exact ⟨q1, by rw [hGs]; exact Nat.le_of_lt q2, fun _ _ => q2, _, q3⟩
    apart := ok.apart
    cdom := fun _ x hx => cellsFrom_some _ _ _ (.inl hx)
    own := fun _ h => nomatch h
    nodup := .nil }
  have hd1 : (callerA.deeper env).depth + 450 < recursionLimit := by show 302 + 450 < 1000; decide
  have hu1 : (callerA.deeper env).units + 300 < cLine := by show 7 + 300 < 9900; decide
  refine (law_walk XN hfd hbody rfl hd1 hu1 ns hlen B q L fa cd (fun b => G.hG.get? b)).run { heap := h₁, gens := s₁.gens, drawn := s₁.drawn, toks := tk₁, os := s₁.os } Q E S fun f ρ' μ' H' h' tk S' st hm hx9 => ?_
  obtain ⟨af, hf, haf⟩ := hx9
  subst haf
  cases hf with
  | @ret v d r =>
    have hv : v = .bool true := by cases r; rfl
    subst hv
    obtain ⟨m', hn', _⟩ := S'.loc
    refine hQ h' tk m' ⟨hLe ▸ hn', fun b o e => S'.ext _ _ (S'.glob b o e), ?_⟩ ⟨?_, ?_, trivial⟩
    · exact Nat.le_of_eq hsz
    · obtain ⟨ps, e, _⟩ := S'.tabs _ (.tail _ (.head _)); exact ⟨ps, e⟩
    · obtain ⟨ps, e, _⟩ := S'.tabs _ (.head _); exact ⟨ps, e⟩
end Mine
end
section
open PySem PySem.W PySem.Calls PyProof.Rows
set_option Elab.async false
set_option linter.unusedVariables false
namespace Mine
/-! the row is read back -/
structure SegOk (heads cur : List Int) : Prop where
  ne : cur ≠ []
  nz : ∀ x ∈ cur, x ≠ 0
  hd : cur.headD 0 ∈ heads
  tl : ∀ x ∈ cur.drop 1, 256 ≤ x → x ∈ heads
noncomputable def segRow (segs : List (List Int)) : List Int := (segs.map fun s => s ++ [0]).flatten
theorem fold_seg (heads : List Int) : ∀ (s : List Int) (rs : List Rule) (cur : List Int), (∀ x ∈ s, x ≠ 0) → s.foldl (parseStep heads) (rs, cur) = (rs, cur ++ s)
  | [], rs, cur, _ => by simp
  | x :: s, rs, cur, h => by
    have e : parseStep heads (rs, cur) x = (rs, cur ++ [x]) := by unfold parseStep; rw [if_neg (h x (.head _))]
    rw [List.foldl_cons, e, fold_seg heads s rs (cur ++ [x]) fun y hy => h y (.tail _ hy)]
    simp
theorem fold_segs (heads : List Int) : ∀ (segs : List (List Int)) (rs : List Rule), (∀ s ∈ segs, SegOk heads s) → (segRow segs).foldl (parseStep heads) (rs, []) = (rs ++ segs.map (ruleOf heads), [])
  | [], rs, _ => by simp [segRow]
  | s :: segs, rs, h => by
    have e : segRow (s :: segs) = s ++ ([0] ++ segRow segs) := by simp [segRow]
    rw [e, List.foldl_append, fold_seg heads s rs [] (h s (.head _)).nz, List.foldl_append]
    have e2 : List.foldl (parseStep heads) (rs, [] ++ s) [0] = (rs ++ [ruleOf heads s], []) := by
      show parseStep heads (rs, [] ++ s) 0 = _
      unfold parseStep
      rw [if_pos rfl]; rfl
    rw [e2, fold_segs heads segs _ fun t ht => h t (.tail _ ht)]
    simp
theorem segs_ok (heads : List Int) : ∀ (segs : List (List Int)) (rs : List Rule) (i : Nat), (∀ s ∈ segs, SegOk heads s) → (segRow segs)[i]? = some 0 → SegOk heads (((segRow segs).take i).foldl (parseStep heads) (rs, [])).2
  | [], rs, i, _, h => by simp [segRow] at h
  | s :: segs, rs, i, h, hi => by
    have hs := h s (.head _)
    have e : segRow (s :: segs) = s ++ ([0] ++ segRow segs) := by simp [segRow]
    rw [e] at hi ⊢
    by_cases q : i < s.length
    · rw [List.getElem?_append_left q] at hi
      exact absurd rfl (hs.nz 0 (List.mem_of_getElem? hi))
    · by_cases q2 : i = s.length
      · subst q2
        rw [List.take_left, fold_seg heads s rs [] hs.nz]
        exact hs
      · have e3 : i = s.length + (i - s.length) := by (first | lia -abstractProof | omega)
        have e4 : i - s.length = 1 + (i - s.length - 1) := by (first | lia -abstractProof | omega)
        rw [List.getElem?_append_right (by (first | lia -abstractProof | omega))] at hi
        rw [e3, List.take_append, List.take_of_length_le (by (first | lia -abstractProof | omega))]
        have e5 : s.length + (i - s.length) - s.length = i - s.length := by (first | lia -abstractProof | omega)
        rw [e5]
        generalize i - s.length = j at hi e4 ⊢
        rw [e4] at hi ⊢
        rw [List.getElem?_append_right (by simp)] at hi
        rw [List.take_append, List.take_of_length_le (by simp)]
        have e6 : 1 + (j - 1) - ([0] : List Int).length = j - 1 := by simp
        rw [e6] at hi ⊢
        rw [List.foldl_append, fold_seg heads s rs [] hs.nz, List.foldl_append]
        have e2 : List.foldl (parseStep heads) (rs, [] ++ s) [0] = (rs ++ [ruleOf heads s], []) := by
          show parseStep heads (rs, [] ++ s) 0 = _
          unfold parseStep
          rw [if_pos rfl]; rfl
        rw [e2]
        exact segs_ok heads segs _ _ (fun t ht => h t (.tail _ ht)) hi

/-! the law's own row -/
noncomputable def ruleX (x : Int) : Rule := (headBit x, (shape (x.fmod 6)).1, (List.range (shape (x.fmod 6)).2.toNat).map (kidBit x))
noncomputable def rulesX (c : Cells) : List Rule := [(0, 1, []), (1, 1, [])] ++ [c.c0, c.c1, c.c2, c.c3].map ruleX
noncomputable def segX (c : Cells) (x : Int) : List Int := [headAt c (headBit x)] ++ List.replicate (shape (x.fmod 6)).1.toNat c.letter ++ (List.range (shape (x.fmod 6)).2.toNat).map fun k => headAt c (kidBit x k)
noncomputable def segsOf (c : Cells) : List (List Int) := [[c.h0, c.letter], [c.h1, c.letter]] ++ [c.c0, c.c1, c.c2, c.c3].map (segX c)
theorem rowOf_segs (c : Cells) : rowOf c = segRow (segsOf c) := by
  unfold rowOf segRow segsOf row0
  have e : ∀ x, rowX c x = segX c x ++ [0] := fun x => rfl
  simp [e]
theorem fmod2 (x : Int) : x.fmod 2 = 0 ∨ x.fmod 2 = 1 := by
  have h1 := Int.fmod_nonneg_of_pos x (b := 2) (by decide)
  have h2 := Int.fmod_lt_of_pos x (b := 2) (by decide)
  (first | lia | omega)
theorem rng_add (b x : Int) {n : Int} (h1 : 0 ≤ x) (h2 : x < n + 1) : b ≤ b + x ∧ b + x ≤ b + n :=
  ⟨Int.le_add_of_nonneg_right h1, Int.add_le_add_left (Int.le_of_lt_add_one h2) b⟩
theorem heads_rng (c : Cells) : 256 ≤ c.h0 ∧ c.h0 ≤ 258 ∧ 259 ≤ c.h1 ∧ c.h1 ≤ 263 ∧ 1 ≤ c.letter ∧ c.letter ≤ 255 := by
  have h1 := rng_add 256 _ (n := 2) (Int.fmod_nonneg_of_pos (c.c4.fdiv 24) (b := 3) (by decide)) (Int.fmod_lt_of_pos (c.c4.fdiv 24) (b := 3) (by decide))
  have h2 := rng_add 259 _ (n := 4) (Int.fmod_nonneg_of_pos (c.c4.fdiv 72) (b := 5) (by decide)) (Int.fmod_lt_of_pos (c.c4.fdiv 72) (b := 5) (by decide))
  have h5 := Int.fmod_nonneg_of_pos (c.c4.fdiv 360) (b := 255) (by decide)
  have h6 := Int.fmod_lt_of_pos (c.c4.fdiv 360) (b := 255) (by decide)
  exact ⟨h1.1, h1.2, h2.1, h2.2, Int.le_sub_left_of_add_le (Int.add_le_of_le_sub_right (Int.le_of_lt_add_one h6)), Int.sub_le_self _ h5⟩
theorem headAt_rng (c : Cells) (b : Int) : 256 ≤ headAt c b ∧ headAt c b ∈ c.heads := by
  have := heads_rng c
  unfold headAt Cells.heads
  split
  · exact ⟨by (first | lia | omega), .head _⟩
  · exact ⟨by (first | lia | omega), .tail _ (.head _)⟩
theorem idx_head (c : Cells) (b : Int) (hb : b = 0 ∨ b = 1) : ((c.heads.idxOf (headAt c b) : Nat) : Int) = b := by
  have := heads_rng c
  unfold headAt Cells.heads
  rcases hb with rfl | rfl
  · simp [List.idxOf_cons]
  · have e : (c.h0 == c.h1) = false := by simp; omega
    simp [List.idxOf_cons, e]
theorem segX_ok (c : Cells) (x : Int) : SegOk c.heads (segX c x) := by
  have hr := heads_rng c
  have mem : ∀ y ∈ segX c x, (256 ≤ y ∧ y ∈ c.heads) ∨ y = c.letter := fun y hy => by
    unfold segX at hy
    rcases List.mem_append.mp hy with hy | hy
    · rcases List.mem_append.mp hy with hy | hy
      · rw [List.mem_singleton.mp hy]; exact .inl (headAt_rng c _)
      · exact .inr (List.eq_of_mem_replicate hy)
    · obtain ⟨k, _, rfl⟩ := List.mem_map.mp hy
      exact .inl (headAt_rng c _)
  refine ⟨by simp [segX], fun y hy => ?_, (headAt_rng c (headBit x)).2, fun y hy h256 => ?_⟩
  · rcases mem y hy with q | q <;> omega
  · rcases mem y (List.mem_of_mem_drop hy) with q | q
    · exact q.2
    · omega
theorem segs0_ok (c : Cells) : ∀ s ∈ segsOf c, SegOk c.heads s := by
  have hr := heads_rng c
  intro s hs
  unfold segsOf at hs
  rcases List.mem_append.mp hs with hs | hs
  · simp only [List.mem_cons, List.not_mem_nil, or_false] at hs
    rcases hs with rfl | rfl
    · refine ⟨by simp, fun y hy => ?_, .head _, fun y hy h => ?_⟩
      · simp only [List.mem_cons, List.not_mem_nil, or_false] at hy
        rcases hy with rfl | rfl <;> omega
      · have hy : y ∈ [c.letter] := hy
        rw [List.mem_singleton.mp hy] at h; omega
    · refine ⟨by simp, fun y hy => ?_, .tail _ (.head _), fun y hy h => ?_⟩
      · simp only [List.mem_cons, List.not_mem_nil, or_false] at hy
        rcases hy with rfl | rfl <;> omega
      · have hy : y ∈ [c.letter] := hy
        rw [List.mem_singleton.mp hy] at h; omega
  · obtain ⟨x, _, rfl⟩ := List.mem_map.mp hs
    exact segX_ok c x
theorem shape_nn (r : Int) : 0 ≤ (shape r).1 ∧ (shape r).1 ≤ 2 ∧ 1 ≤ (shape r).2 ∧ (shape r).2 ≤ 3 := by
  unfold shape
  repeat' split
  all_goals simp
theorem rule_segX (c : Cells) (x : Int) : ruleOf c.heads (segX c x) = ruleX x := by
  have hr := heads_rng c
  have hsn := shape_nn (x.fmod 6)
  unfold ruleOf ruleX
  have e1 : (segX c x).headD 0 = headAt c (headBit x) := rfl
  have e2 : (segX c x).drop 1 = List.replicate (shape (x.fmod 6)).1.toNat c.letter ++ (List.range (shape (x.fmod 6)).2.toNat).map fun k => headAt c (kidBit x k) := rfl
  rw [e1, e2, idx_head c (headBit x) (fmod2 _), List.filter_append, List.filter_append]
  have f1 : (List.replicate (shape (x.fmod 6)).1.toNat c.letter).filter (fun x => decide (x < 256)) = List.replicate (shape (x.fmod 6)).1.toNat c.letter :=
    List.filter_eq_self.mpr fun y hy => by rw [List.eq_of_mem_replicate hy]; exact decide_eq_true (by omega)
  have f2 : ((List.range (shape (x.fmod 6)).2.toNat).map fun k => headAt c (kidBit x k)).filter (fun x => decide (x < 256)) = [] :=
    List.filter_eq_nil_iff.mpr fun y hy => by
      obtain ⟨k, _, rfl⟩ := List.mem_map.mp hy
      have := (headAt_rng c (kidBit x k)).1
      simp; omega
  have f3 : (List.replicate (shape (x.fmod 6)).1.toNat c.letter).filter (fun x => decide (256 ≤ x)) = [] :=
    List.filter_eq_nil_iff.mpr fun y hy => by rw [List.eq_of_mem_replicate hy]; simp; omega
  have f4 : ((List.range (shape (x.fmod 6)).2.toNat).map fun k => headAt c (kidBit x k)).filter (fun x => decide (256 ≤ x)) = (List.range (shape (x.fmod 6)).2.toNat).map fun k => headAt c (kidBit x k) :=
    List.filter_eq_self.mpr fun y hy => by
      obtain ⟨k, _, rfl⟩ := List.mem_map.mp hy
      exact decide_eq_true (headAt_rng c (kidBit x k)).1
  rw [f1, f2, f3, f4, List.append_nil, List.nil_append, List.length_replicate, List.map_map]
  refine Prod.ext rfl (Prod.ext ?_ ?_)
  · show (((shape (x.fmod 6)).1.toNat : Nat) : Int) = (shape (x.fmod 6)).1
    omega
  · refine List.map_congr_left fun k _ => ?_
    exact idx_head c (kidBit x k) (fmod2 _)
theorem rulesOf_eq (c : Cells) : rulesOf c = rulesX c := by
  unfold rulesOf parsed
  rw [rowOf_segs, fold_segs c.heads (segsOf c) [] (segs0_ok c)]
  show [] ++ (segsOf c).map (ruleOf c.heads) = rulesX c
  have hr := heads_rng c
  have r0 : ruleOf c.heads [c.h0, c.letter] = (0, 1, []) := by
    unfold ruleOf Cells.heads
    have h1 : c.letter < 256 := by omega
    have h2 : ¬ 256 ≤ c.letter := by omega
    simp [List.idxOf_cons, h1, h2]
  have r1 : ruleOf c.heads [c.h1, c.letter] = (1, 1, []) := by
    unfold ruleOf Cells.heads
    have e : (c.h0 == c.h1) = false := by simp; omega
    have h1 : c.letter < 256 := by omega
    have h2 : ¬ 256 ≤ c.letter := by omega
    simp [List.idxOf_cons, h1, h2, e]
  unfold segsOf rulesX
  rw [List.nil_append, List.map_append, List.map_map]
  show [ruleOf c.heads [c.h0, c.letter], ruleOf c.heads [c.h1, c.letter]] ++ _ = _
  rw [r0, r1]
  refine congrArg _ (List.map_congr_left fun x _ => rule_segX c x)
theorem lay_heads (a b : Int) (ha : 256 ≤ a ∧ a ≤ 258) (hb : 259 ≤ b ∧ b ≤ 263) : PyData.layable0 (.list ([a, b].map .int)) = true := by
  have h1 : a = 256 ∨ a = 257 ∨ a = 258 := by (first | lia -abstractProof | omega)
  have h2 : b = 259 ∨ b = 260 ∨ b = 261 ∨ b = 262 ∨ b = 263 := by (first | lia -abstractProof | omega)
  rcases h1 with rfl | rfl | rfl <;> rcases h2 with rfl | rfl | rfl | rfl | rfl <;> decide +kernel
theorem rowOk_of (c : Cells) : RowOk c.heads (rowOf c) := by
  have hr := heads_rng c
  refine ⟨fun i hi => ?_, ?_, lay_heads c.h0 c.h1 ⟨by (first | lia -abstractProof | omega), by (first | lia -abstractProof | omega)⟩ ⟨by (first | lia -abstractProof | omega), by (first | lia -abstractProof | omega)⟩⟩
  · have h := segs_ok c.heads (segsOf c) [] i (segs0_ok c) (by rw [← rowOf_segs]; exact hi)
    rw [← rowOf_segs] at h
    exact ⟨h.ne, h.hd, h.tl⟩
  · have hx : ∀ x, (rowX c x).length ≤ 7 := fun x => by
      have := shape_nn (x.fmod 6)
      unfold rowX
      simp only [List.length_append, List.length_cons, List.length_nil, List.length_replicate, List.length_map, List.length_range]
      (first | lia -abstractProof | omega)
    have h0 := hx c.c0
    have h1 := hx c.c1
    have h2 := hx c.c2
    have h3 := hx c.c3
    unfold rowOf row0
    simp only [List.map_cons, List.map_nil, List.flatten_cons, List.flatten_nil, List.length_append, List.length_cons, List.length_nil]
    (first | lia -abstractProof | omega)
/-! the rules' kinds -/
structure RX (r : Rule) : Prop where
  head : r.1 = 0 ∨ r.1 = 1
  kid : ∀ k ∈ r.2.2, k = 0 ∨ k = 1
  kind : (r.2.1, r.2.2.length) ∈ [((0 : Int), 2), (1, 1), (0, 3), (1, 2), (2, 1), (1, 3)]
theorem ruleX_ok (x : Int) : RX (ruleX x) := by
  refine ⟨fmod2 _, fun k hk => ?_, ?_⟩
  · obtain ⟨j, _, rfl⟩ := List.mem_map.mp hk
    exact fmod2 _
  · show ((shape (x.fmod 6)).1, ((List.range (shape (x.fmod 6)).2.toNat).map (kidBit x)).length) ∈ _
    rw [List.length_map, List.length_range]
    unfold shape
    repeat' split
    all_goals decide
structure RulesOk (rules : List Rule) : Prop where
  ex : ∃ rs, rules = (0, 1, []) :: (1, 1, []) :: rs ∧ rs.length ≤ 4 ∧ ∀ r ∈ rs, RX r
theorem rulesX_ok (c : Cells) : RulesOk (rulesX c) := ⟨[c.c0, c.c1, c.c2, c.c3].map ruleX, rfl, by simp, fun r hr => by
  obtain ⟨x, _, rfl⟩ := List.mem_map.mp hr
  exact ruleX_ok x⟩
end Mine
end
section
open PySem PySem.W PySem.Calls PyProof.Rows
set_option Elab.async false
set_option linter.unusedVariables false
namespace Mine
/-! the weight of a table -/
abbrev Tbl := List (Int × Int)
noncomputable def mass (f : Int → Int) (t : Tbl) : Int := (t.map fun p => f p.1 * p.2).sum
theorem mass_nil (f : Int → Int) : mass f [] = 0 := rfl
theorem mass_cons (f : Int → Int) (p : Int × Int) (t : Tbl) : mass f (p :: t) = f p.1 * p.2 + mass f t := by simp [mass]
theorem mass_append (f : Int → Int) (s t : Tbl) : mass f (s ++ t) = mass f s + mass f t := by simp [mass]
noncomputable def keys (t : Tbl) : List Int := t.map (·.1)
theorem ival_cons (p : Int × Int) (t : Tbl) (k : Int) : ival (p :: t) k = if p.1 = k then some p.2 else ival t k := by
  unfold ival
  rw [List.find?_cons]
  by_cases h : p.1 = k <;> simp [h]
theorem ival_none (t : Tbl) (k : Int) (h : k ∉ keys t) : ival t k = none := by
  induction t with
  | nil => rfl
  | cons p t ih =>
    have h' : p.1 ≠ k ∧ k ∉ keys t := by
      unfold keys at h ⊢
      simp only [List.map_cons, List.mem_cons, not_or] at h
      exact ⟨fun e => h.1 e.symm, h.2⟩
    rw [ival_cons, if_neg h'.1]; exact ih h'.2
theorem ival_mem (t : Tbl) (k x : Int) (h : ival t k = some x) : (k, x) ∈ t := by
  induction t with
  | nil => cases h
  | cons p t ih =>
    rw [ival_cons] at h
    by_cases q : p.1 = k
    · rw [if_pos q] at h; cases h; subst q; exact .head _
    · rw [if_neg q] at h; exact .tail _ (ih h)
theorem any_keys (t : Tbl) (k : Int) : t.any (fun p => decide (p.1 = k)) = decide (k ∈ keys t) := by
  induction t with
  | nil => rfl
  | cons p t ih =>
    rw [List.any_cons, ih]
    unfold keys
    rw [List.map_cons]
    by_cases q : p.1 = k
    · simp [q]
    · have : ¬ k = p.1 := fun e => q e.symm
      simp [q, this]
theorem iput_out (t : Tbl) (k x : Int) (h : k ∉ keys t) : iput t k x = t ++ [(k, x)] := by
  unfold iput
  rw [any_keys, decide_eq_false h]; rfl
theorem iput_in (t : Tbl) (k x : Int) (h : k ∈ keys t) : iput t k x = t.map (fun p => if p.1 = k then (p.1, x) else p) := by
  unfold iput
  rw [any_keys, decide_eq_true h, if_pos rfl]
theorem put_id (t : Tbl) (k x : Int) (h : k ∉ keys t) : t.map (fun p => if p.1 = k then (p.1, x) else p) = t := by
  induction t with
  | nil => rfl
  | cons p t ih =>
    have h' : p.1 ≠ k ∧ k ∉ keys t := by
      unfold keys at h ⊢
      simp only [List.map_cons, List.mem_cons, not_or] at h
      exact ⟨fun e => h.1 e.symm, h.2⟩
    rw [List.map_cons, if_neg h'.1, ih h'.2]
theorem mass_put (f : Int → Int) (k x : Int) : ∀ (t : Tbl), (keys t).Nodup → k ∈ keys t → mass f (t.map (fun p => if p.1 = k then (p.1, x) else p)) = mass f t + f k * (x - (ival t k).getD 0)
  | [], _, h => nomatch h
  | p :: t, hn, h => by
    have hn' : p.1 ∉ keys t ∧ (keys t).Nodup := List.nodup_cons.mp hn
    rw [List.map_cons, mass_cons, mass_cons, ival_cons]
    by_cases q : p.1 = k
    · subst q
      rw [if_pos rfl, if_pos rfl, put_id t p.1 x hn'.1]
      show f p.1 * x + mass f t = _ + f p.1 * (x - p.2)
      rw [Int.mul_sub]; (first | lia -abstractProof | omega)
    · have h' : k ∈ keys t := by
        unfold keys at h ⊢
        rw [List.map_cons] at h
        exact (List.mem_cons.mp h).resolve_left fun e => q e.symm
      rw [if_neg q, if_neg q, mass_put f k x t hn'.2 h']
      (first | lia -abstractProof | omega)
theorem mass_iput (f : Int → Int) (t : Tbl) (k x : Int) (hn : (keys t).Nodup) : mass f (iput t k x) = mass f t + f k * (x - (ival t k).getD 0) := by
  by_cases h : k ∈ keys t
  · rw [iput_in t k x h]; exact mass_put f k x t hn h
  · rw [iput_out t k x h, mass_append, ival_none t k h, mass_cons, mass_nil]
    simp
theorem keys_iput (t : Tbl) (k x : Int) : keys (iput t k x) = if k ∈ keys t then keys t else keys t ++ [k] := by
  by_cases h : k ∈ keys t
  · rw [iput_in t k x h, if_pos h]
    unfold keys
    rw [List.map_map]
    refine List.map_congr_left fun p _ => ?_
    show (if p.1 = k then (p.1, x) else p).1 = p.1
    split <;> rfl
  · rw [iput_out t k x h, if_neg h]; simp [keys]
theorem mem_iput (t : Tbl) (k x : Int) {p : Int × Int} (h : p ∈ iput t k x) : p ∈ t ∨ p = (k, x) := by
  by_cases hk : k ∈ keys t
  · rw [iput_in t k x hk] at h
    obtain ⟨q, hq, rfl⟩ := List.mem_map.mp h
    by_cases e : q.1 = k
    · rw [if_pos e]; exact .inr (by rw [e])
    · rw [if_neg e]; exact .inl hq
  · rw [iput_out t k x hk] at h
    rcases List.mem_append.mp h with h | h
    · exact .inl h
    · exact .inr (List.mem_singleton.mp h)
theorem nodup_iput (t : Tbl) (k x : Int) (h : (keys t).Nodup) : (keys (iput t k x)).Nodup := by
  rw [keys_iput]
  split
  · exact h
  · rename_i q
    refine List.nodup_append.mpr ⟨h, by simp, fun a ha b hb e => ?_⟩
    rw [List.mem_singleton.mp hb] at e
    exact q (e ▸ ha)
/-- a table: distinct keys, counts that are none below nought, and what the keys are -/
structure Tab (P : Int → Prop) (t : Tbl) : Prop where
  nd : (keys t).Nodup
  nn : ∀ p ∈ t, 0 ≤ p.2
  kp : ∀ p ∈ t, P p.1
theorem Tab.nil {P : Int → Prop} : Tab P [] := ⟨.nil, fun _ h => (nomatch h), fun _ h => (nomatch h)⟩
theorem Tab.addOne {P : Int → Prop} {t : Tbl} (h : Tab P t) {p : Int × Int} (hp : P p.1) (h0 : 0 ≤ p.2) : Tab P (Mine.addOne t p) ∧ ∀ f, mass f (Mine.addOne t p) = mass f t + f p.1 * p.2 := by
  unfold Mine.addOne
  refine ⟨⟨nodup_iput _ _ _ h.nd, fun q hq => ?_, fun q hq => ?_⟩, fun f => ?_⟩
  · rcases mem_iput _ _ _ hq with hq | rfl
    · exact h.nn q hq
    · cases e : ival t p.1 with
      | none => exact h0
      | some x => exact Int.add_nonneg (h.nn _ (ival_mem _ _ _ e)) h0
  · rcases mem_iput _ _ _ hq with hq | rfl
    · exact h.kp q hq
    · exact hp
  · rw [mass_iput f t _ _ h.nd]
    cases e : ival t p.1 with
    | none => simp
    | some x =>
      show mass f t + f p.1 * (x + p.2 - x) = mass f t + f p.1 * p.2
      have e : x + p.2 - x = p.2 := by (first | lia -abstractProof | omega)
      rw [e]
theorem putAll_id : ∀ (ps acc : Tbl), (keys (acc ++ ps)).Nodup → ps.foldl (fun acc p => iput acc p.1 p.2) acc = acc ++ ps
  | [], acc, _ => by simp
  | p :: ps, acc, h => by
    have hk : p.1 ∉ keys acc := fun hm => by
      unfold keys at h hm
      rw [List.map_append, List.map_cons] at h
      exact (List.nodup_append.mp h).2.2 _ hm _ (.head _) rfl
    rw [List.foldl_cons, iput_out _ _ _ hk]
    have e : acc ++ [(p.1, p.2)] ++ ps = acc ++ p :: ps := by simp
    rw [putAll_id ps (acc ++ [(p.1, p.2)]) (by rw [e]; exact h), e]
theorem Tab.foldAdd {P : Int → Prop} : ∀ (qs : Tbl) {t : Tbl}, Tab P t → (∀ q ∈ qs, P q.1 ∧ 0 ≤ q.2) → Tab P (qs.foldl Mine.addOne t) ∧ ∀ f, mass f (qs.foldl Mine.addOne t) = mass f t + mass f qs
  | [], t, h, _ => ⟨h, fun f => by rw [mass_nil]; simp⟩
  | q :: qs, t, h, hq => by
    obtain ⟨h1, h2⟩ := h.addOne (hq q (.head _)).1 (hq q (.head _)).2
    obtain ⟨h3, h4⟩ := Tab.foldAdd qs h1 fun r hr => hq r (.tail _ hr)
    exact ⟨h3, fun f => by rw [List.foldl_cons, h4, h2, mass_cons]; (first | lia -abstractProof | omega)⟩
theorem Tab.addAll {P : Int → Prop} {t : Tbl} (h : Tab P t) {qs : Tbl} (hq : ∀ q ∈ qs, P q.1 ∧ 0 ≤ q.2) : Tab P (Mine.addAll t qs) ∧ ∀ f, mass f (Mine.addAll t qs) = mass f t + mass f qs := by
  unfold Mine.addAll putAll
  rw [putAll_id t [] (by simpa using h.nd), List.nil_append]
  exact Tab.foldAdd qs h hq

/-! sums over lists -/
theorem sum_mul_left {α : Type} (l : List α) (c : Int) (f : α → Int) : (l.map fun x => c * f x).sum = c * (l.map f).sum := by
  induction l with
  | nil => simp
  | cons x l ih => simp only [List.map_cons, List.sum_cons, ih, Int.mul_add]
theorem sum_add {α : Type} (l : List α) (f g : α → Int) : (l.map fun x => f x + g x).sum = (l.map f).sum + (l.map g).sum := by
  induction l with
  | nil => simp
  | cons x l ih => simp only [List.map_cons, List.sum_cons, ih]; (first | lia -abstractProof | omega)
theorem sum_congr {α : Type} (l : List α) (f g : α → Int) (h : ∀ x ∈ l, f x = g x) : (l.map f).sum = (l.map g).sum := by
  rw [List.map_congr_left h]

/-! what a kid adds -/
noncomputable def keyOf (s n : Int) : Int := if n < s.fdiv 2 - 1 then s else if s.fdiv 2 - 1 < n then 2 * n + 2 else 2 * n + 3
theorem wayKey_eq (D : Int) (hD : D * D = 9) (s n : Int) : wayKey D D s n = keyOf s n := by
  unfold wayKey wayOf keyOf
  by_cases h1 : n < s.fdiv 2 - 1
  · have e : -D * D = -9 := by rw [Int.neg_mul, hD]
    rw [if_pos h1, if_pos h1, e]; rfl
  · by_cases h2 : s.fdiv 2 - 1 < n
    · rw [if_neg h1, if_neg h1, if_pos h2, if_pos h2, hD]
      show 2 * n + 3 - 1 = _
      (first | lia -abstractProof | omega)
    · rw [if_neg h1, if_neg h1, if_neg h2, if_neg h2, Int.zero_mul]
      show 2 * n + 3 - 0 = _
      (first | lia -abstractProof | omega)
noncomputable def iA (d s : Int) : Int := if s ≤ 2 * d + 1 then 1 else 0
noncomputable def iB (d s : Int) : Int := if s = 2 * d + 2 then 1 else 0
noncomputable def iLt (d n : Int) : Int := if n < d then 1 else 0
noncomputable def iEq (d n : Int) : Int := if n = d then 1 else 0
theorem fdiv2 (s : Int) : s.fdiv 2 = s / 2 := Int.fdiv_eq_ediv_of_nonneg _ (by decide)
theorem fmod2e (s : Int) : s.fmod 2 = s % 2 := Int.fmod_eq_emod_of_nonneg _ (by decide)
theorem iA_key (d s n : Int) : iA d (keyOf s n) = iA d s * iLt d n := by
  unfold iA keyOf iLt
  rw [fdiv2]
  by_cases h1 : n < s / 2 - 1
  · rw [if_pos h1]
    by_cases h3 : s ≤ 2 * d + 1
    · have h4 : n < d := by omega
      rw [if_pos h3, if_pos h4]; rfl
    · rw [if_neg h3, Int.zero_mul]
  · rw [if_neg h1]
    by_cases h2 : s / 2 - 1 < n
    · rw [if_pos h2]
      by_cases h4 : n < d
      · have h5 : 2 * n + 2 ≤ 2 * d + 1 := by omega
        have h6 : s ≤ 2 * d + 1 := by omega
        rw [if_pos h5, if_pos h6, if_pos h4]; rfl
      · have h5 : ¬ 2 * n + 2 ≤ 2 * d + 1 := by omega
        rw [if_neg h5, if_neg h4, Int.mul_zero]
    · rw [if_neg h2]
      by_cases h4 : n < d
      · have h5 : 2 * n + 3 ≤ 2 * d + 1 := by omega
        have h6 : s ≤ 2 * d + 1 := by omega
        rw [if_pos h5, if_pos h6, if_pos h4]; rfl
      · have h5 : ¬ 2 * n + 3 ≤ 2 * d + 1 := by omega
        rw [if_neg h5, if_neg h4, Int.mul_zero]
theorem iB_key (d s n : Int) : iB d (keyOf s n) = iB d s * iLt d n + iA d s * iEq d n := by
  unfold iA iB keyOf iLt iEq
  rw [fdiv2]
  by_cases h1 : n < s / 2 - 1
  · rw [if_pos h1]
    by_cases h3 : s = 2 * d + 2
    · have h4 : n < d := by omega
      have h5 : ¬ s ≤ 2 * d + 1 := by omega
      rw [if_pos h3, if_pos h4, if_neg h5]; simp
    · rw [if_neg h3]
      by_cases h5 : s ≤ 2 * d + 1
      · have h6 : n ≠ d := by omega
        rw [if_neg h6]; simp
      · rw [if_neg h5]; simp
  · rw [if_neg h1]
    by_cases h2 : s / 2 - 1 < n
    · rw [if_pos h2]
      by_cases h4 : n = d
      · have h5 : 2 * n + 2 = 2 * d + 2 := by omega
        have h6 : ¬ n < d := by omega
        have h7 : s ≤ 2 * d + 1 := by omega
        rw [if_pos h5, if_neg h6, if_pos h7, if_pos h4]; simp
      · have h5 : ¬ 2 * n + 2 = 2 * d + 2 := by omega
        rw [if_neg h5, if_neg h4]
        by_cases h6 : n < d
        · have h7 : s ≠ 2 * d + 2 := by omega
          rw [if_neg h7]; simp
        · rw [if_neg h6]; simp
    · rw [if_neg h2]
      have h5 : ¬ 2 * n + 3 = 2 * d + 2 := by omega
      rw [if_neg h5]
      by_cases h4 : n = d
      · have h6 : ¬ s ≤ 2 * d + 1 := by omega
        have h7 : ¬ n < d := by omega
        rw [if_neg h6, if_neg h7]; simp
      · rw [if_neg h4]
        by_cases h6 : n < d
        · have h7 : s ≠ 2 * d + 2 := by omega
          rw [if_neg h7]; simp
        · rw [if_neg h6]; simp
theorem iLt_dim (d s : Int) (hd : 0 ≤ d) : iLt (d + 1) (dimKey s) = iA d s + iB d s := by
  unfold iLt dimKey iA iB
  rw [fdiv2, fmod2e]
  by_cases h1 : s ≤ 2 * d + 1
  · have h2 : ¬ s = 2 * d + 2 := by omega
    have h3 : max 0 (s / 2 - 1 + s % 2) < d + 1 := by omega
    rw [if_pos h1, if_neg h2, if_pos h3]; rfl
  · by_cases h2 : s = 2 * d + 2
    · have h3 : max 0 (s / 2 - 1 + s % 2) < d + 1 := by omega
      rw [if_neg h1, if_pos h2, if_pos h3]; rfl
    · have h3 : ¬ max 0 (s / 2 - 1 + s % 2) < d + 1 := by omega
      rw [if_neg h1, if_neg h2, if_neg h3]; rfl
end Mine
end
section
open PySem PySem.W PySem.Calls PyProof.Rows
set_option Elab.async false
set_option linter.unusedVariables false
namespace Mine
/-! ways, weighed -/
theorem inner_tab {P : Int → Prop} (D : Int) (hD : D * D = 9) (st : Int × Int) : ∀ (Tt : Tbl) {told : Tbl}, Tab P told → (∀ nm ∈ Tt, P (keyOf st.1 nm.1) ∧ 0 ≤ st.2 * nm.2) →
    Tab P (Tt.foldl (wayStep D D st) told) ∧ ∀ f, mass f (Tt.foldl (wayStep D D st) told) = mass f told + (Tt.map fun nm => f (keyOf st.1 nm.1) * (st.2 * nm.2)).sum
  | [], told, h, _ => ⟨h, fun f => by simp⟩
  | nm :: Tt, told, h, hq => by
    have e : wayStep D D st told nm = addAll told [(keyOf st.1 nm.1, st.2 * nm.2)] := by unfold wayStep; rw [wayKey_eq D hD]
    obtain ⟨h1, h2⟩ := h.addAll (qs := [(keyOf st.1 nm.1, st.2 * nm.2)]) fun q hm => by rw [List.mem_singleton.mp hm]; exact hq nm (.head _)
    obtain ⟨h3, h4⟩ := inner_tab D hD st Tt h1 fun r hr => hq r (.tail _ hr)
    rw [List.foldl_cons, e]
    refine ⟨h3, fun f => ?_⟩
    rw [h4, h2, mass_cons, mass_nil, List.map_cons, List.sum_cons]
    dsimp only
    (first | lia -abstractProof | omega)
theorem size_tab {P : Int → Prop} (D : Int) (hD : D * D = 9) (Tt : Tbl) : ∀ (W : Tbl) {told : Tbl}, Tab P told → (∀ st ∈ W, ∀ nm ∈ Tt, P (keyOf st.1 nm.1) ∧ 0 ≤ st.2 * nm.2) →
    Tab P (waySize Tt D D W told) ∧ ∀ f, mass f (waySize Tt D D W told) = mass f told + (W.map fun st => (Tt.map fun nm => f (keyOf st.1 nm.1) * (st.2 * nm.2)).sum).sum
  | [], told, h, _ => ⟨h, fun f => by simp [waySize]⟩
  | st :: W, told, h, hq => by
    obtain ⟨h1, h2⟩ := inner_tab D hD st Tt h (hq st (.head _))
    obtain ⟨h3, h4⟩ := size_tab D hD Tt W h1 fun r hr => hq r (.tail _ hr)
    refine ⟨h3, fun f => ?_⟩
    have e : waySize Tt D D (st :: W) told = waySize Tt D D W (Tt.foldl (wayStep D D st) told) := rfl
    rw [e, h4, h2, List.map_cons, List.sum_cons]
    (first | lia -abstractProof | omega)
/-- a weight of what a kid makes -/
structure Splits (f φ ψ φ' ψ' : Int → Int) : Prop where
  eq : ∀ s n, f (keyOf s n) = φ s * ψ n + φ' s * ψ' n
theorem Splits.sum {f φ ψ φ' ψ' : Int → Int} (h : Splits f φ ψ φ' ψ') (W Tt : Tbl) : (W.map fun st => (Tt.map fun nm => f (keyOf st.1 nm.1) * (st.2 * nm.2)).sum).sum = mass φ W * mass ψ Tt + mass φ' W * mass ψ' Tt := by
  have e : ∀ st : Int × Int, (Tt.map fun nm => f (keyOf st.1 nm.1) * (st.2 * nm.2)).sum = φ st.1 * st.2 * mass ψ Tt + φ' st.1 * st.2 * mass ψ' Tt := fun st => by
    unfold mass
    rw [← sum_mul_left, ← sum_mul_left, ← sum_add]
    refine sum_congr _ _ _ fun nm _ => ?_
    rw [h.eq]; grind
  rw [sum_congr W _ _ fun st _ => e st]
  induction W with
  | nil => simp [mass]
  | cons st W ih =>
    rw [List.map_cons, List.sum_cons, ih, mass_cons, mass_cons]; grind
noncomputable def Pd (size n : Int) : Prop := (n = 0 ∧ 1 ≤ size) ∨ (n = 1 ∧ 2 ≤ size) ∨ (n = 2 ∧ 4 ≤ size)
noncomputable def Ps (left s : Int) : Prop := (s = 0 ∧ 0 ≤ left) ∨ (s = 2 ∧ 1 ≤ left) ∨ (s = 3 ∧ 2 ≤ left) ∨ (s = 4 ∧ 2 ≤ left) ∨ (s = 5 ∧ 4 ≤ left) ∨ (s = 6 ∧ 4 ≤ left)
theorem Ps.key {left size s n : Int} (h5 : left + size ≤ 5) (h : Ps left s) (k : Pd size n) : Ps (left + size) (keyOf s n) := by
  rcases h with ⟨rfl, h⟩ | ⟨rfl, h⟩ | ⟨rfl, h⟩ | ⟨rfl, h⟩ | ⟨rfl, h⟩ | ⟨rfl, h⟩ <;> rcases k with ⟨rfl, k⟩ | ⟨rfl, k⟩ | ⟨rfl, k⟩
  · rw [show keyOf 0 0 = 2 by decide]; exact .inr (.inl ⟨rfl, Int.le_trans (by decide) (Int.add_le_add h k)⟩)
  · rw [show keyOf 0 1 = 4 by decide]; exact .inr (.inr (.inr (.inl ⟨rfl, Int.le_trans (by decide) (Int.add_le_add h k)⟩)))
  · rw [show keyOf 0 2 = 6 by decide]; exact .inr (.inr (.inr (.inr (.inr ⟨rfl, Int.le_trans (by decide) (Int.add_le_add h k)⟩))))
  · rw [show keyOf 2 0 = 3 by decide]; exact .inr (.inr (.inl ⟨rfl, Int.le_trans (by decide) (Int.add_le_add h k)⟩))
  · rw [show keyOf 2 1 = 4 by decide]; exact .inr (.inr (.inr (.inl ⟨rfl, Int.le_trans (by decide) (Int.add_le_add h k)⟩)))
  · rw [show keyOf 2 2 = 6 by decide]; exact .inr (.inr (.inr (.inr (.inr ⟨rfl, Int.le_trans (by decide) (Int.add_le_add h k)⟩))))
  · rw [show keyOf 3 0 = 3 by decide]; exact .inr (.inr (.inl ⟨rfl, Int.le_trans (by decide) (Int.add_le_add h k)⟩))
  · rw [show keyOf 3 1 = 4 by decide]; exact .inr (.inr (.inr (.inl ⟨rfl, Int.le_trans (by decide) (Int.add_le_add h k)⟩)))
  · rw [show keyOf 3 2 = 6 by decide]; exact .inr (.inr (.inr (.inr (.inr ⟨rfl, Int.le_trans (by decide) (Int.add_le_add h k)⟩))))
  · rw [show keyOf 4 0 = 4 by decide]; exact .inr (.inr (.inr (.inl ⟨rfl, Int.le_trans (by decide) (Int.add_le_add h k)⟩)))
  · rw [show keyOf 4 1 = 5 by decide]; exact .inr (.inr (.inr (.inr (.inl ⟨rfl, Int.le_trans (by decide) (Int.add_le_add h k)⟩))))
  · rw [show keyOf 4 2 = 6 by decide]; exact .inr (.inr (.inr (.inr (.inr ⟨rfl, Int.le_trans (by decide) (Int.add_le_add h k)⟩))))
  · rw [show keyOf 5 0 = 5 by decide]; exact .inr (.inr (.inr (.inr (.inl ⟨rfl, Int.le_trans (by decide) (Int.add_le_add h k)⟩))))
  · rw [show keyOf 5 1 = 5 by decide]; exact .inr (.inr (.inr (.inr (.inl ⟨rfl, Int.le_trans (by decide) (Int.add_le_add h k)⟩))))
  · rw [show keyOf 5 2 = 6 by decide]; exact .inr (.inr (.inr (.inr (.inr ⟨rfl, Int.le_trans (by decide) (Int.add_le_add h k)⟩))))
  · rw [show keyOf 6 0 = 6 by decide]; exact .inr (.inr (.inr (.inr (.inr ⟨rfl, Int.le_trans (by decide) (Int.add_le_add h k)⟩))))
  · rw [show keyOf 6 1 = 6 by decide]; exact .inr (.inr (.inr (.inr (.inr ⟨rfl, Int.le_trans (by decide) (Int.add_le_add h k)⟩))))
  · exact absurd (Int.le_trans (Int.add_le_add h k) h5) (by decide)
noncomputable def sizesOf (kids : List Int) (left : Int) : List Int := rngI (if kids.length = 1 then left else 1) (left - (kids.length : Int) + 2)
theorem sizes_mem {k : Int} {ks : List Int} {left size : Int} (h0 : 0 ≤ left) (h : size ∈ sizesOf (k :: ks) left) : 0 ≤ size ∧ size ≤ left := by
  have h' := mem_rngI.mp h
  simp only [List.length_cons] at h'
  obtain ⟨h1, h2⟩ := h'
  split at h1 <;> (first | lia -abstractProof | omega)
theorem ways_fold {f φ ψ φ' ψ' : Int → Int} {P : Int → Prop} (D : Int) (hD : D * D = 9) (hf : Splits f φ ψ φ' ψ') (Tk Wf : Int → Tbl) : ∀ (xs : List Int) {told : Tbl}, Tab P told → (∀ size ∈ xs, ∀ st ∈ Wf size, ∀ nm ∈ Tk size, P (keyOf st.1 nm.1) ∧ 0 ≤ st.2 * nm.2) →
    Tab P (xs.foldl (fun told size => waySize (Tk size) D D (Wf size) told) told) ∧ mass f (xs.foldl (fun told size => waySize (Tk size) D D (Wf size) told) told) = mass f told + (xs.map fun size => mass φ (Wf size) * mass ψ (Tk size) + mass φ' (Wf size) * mass ψ' (Tk size)).sum
  | [], told, h, _ => ⟨h, by simp⟩
  | x :: xs, told, h, hq => by
    obtain ⟨h1, h2⟩ := size_tab D hD (Tk x) (Wf x) h (hq x (.head _))
    obtain ⟨h3, h4⟩ := ways_fold D hD hf Tk Wf xs h1 fun r hr => hq r (.tail _ hr)
    rw [List.foldl_cons]
    refine ⟨h3, ?_⟩
    rw [h4, h2, hf.sum, List.map_cons, List.sum_cons]
    (first | lia -abstractProof | omega)
theorem splits_one : Splits (fun _ => 1) (fun _ => 1) (fun _ => 1) (fun _ => 0) (fun _ => 0) := ⟨fun _ _ => rfl⟩
theorem splits_A (d : Int) : Splits (iA d) (iA d) (iLt d) (fun _ => 0) (fun _ => 0) := ⟨fun s n => by rw [iA_key]; simp⟩
theorem splits_B (d : Int) : Splits (iB d) (iB d) (iLt d) (iA d) (iEq d) := ⟨fun s n => iB_key d s n⟩
theorem ways_cons (T : Int → Int → Tbl) (D : Int) (k : Int) (ks : List Int) (left : Int) : ways T D D (k :: ks) left = (sizesOf (k :: ks) left).foldl (fun told size => waySize (T k size) D D (ways T D D ks (left - size)) told) [] := by
  rw [ways]; rfl
theorem ways_tab (T : Int → Int → Tbl) (hT : ∀ k s, Tab (Pd s) (T k s)) (D : Int) (hD : D * D = 9) : ∀ (kids : List Int) (left : Int), 0 ≤ left → left ≤ 5 → Tab (Ps left) (ways T D D kids left)
  | [], left, h0, h5 => by
    rw [ways]
    split
    · refine ⟨by simp [keys], fun p hp => ?_, fun p hp => ?_⟩ <;> rw [List.mem_singleton.mp hp]
      · decide
      · exact .inl ⟨rfl, h0⟩
    · exact Tab.nil
  | k :: ks, left, h0, h5 => by
    rw [ways_cons]
    refine (ways_fold D hD splits_one (T k) (fun size => ways T D D ks (left - size)) _ Tab.nil fun size hs st hst nm hnm => ?_).1
    obtain ⟨q1, q2⟩ := sizes_mem h0 hs
    have ih := ways_tab T hT D hD ks (left - size) (by (first | lia -abstractProof | omega)) (by (first | lia -abstractProof | omega))
    have e : left - size + size = left := by (first | lia -abstractProof | omega)
    have h := Ps.key (left := left - size) (size := size) (by (first | lia -abstractProof | omega)) (ih.kp st hst) ((hT k size).kp nm hnm)
    rw [e] at h
    exact ⟨h, Int.mul_nonneg (ih.nn st hst) ((hT k size).nn nm hnm)⟩
theorem ways_mass {f φ ψ φ' ψ' : Int → Int} (hf : Splits f φ ψ φ' ψ') (T : Int → Int → Tbl) (hT : ∀ k s, Tab (Pd s) (T k s)) (D : Int) (hD : D * D = 9) (k : Int) (ks : List Int) (left : Int) (h0 : 0 ≤ left) (h5 : left ≤ 5) :
    mass f (ways T D D (k :: ks) left) = ((sizesOf (k :: ks) left).map fun size => mass φ (ways T D D ks (left - size)) * mass ψ (T k size) + mass φ' (ways T D D ks (left - size)) * mass ψ' (T k size)).sum := by
  rw [ways_cons]
  have h := (ways_fold (P := Ps left) D hD hf (T k) (fun size => ways T D D ks (left - size)) (sizesOf (k :: ks) left) Tab.nil fun size hs st hst nm hnm => ?_).2
  · rw [h, mass_nil]; (first | lia | omega)
  · obtain ⟨q1, q2⟩ := sizes_mem h0 hs
    have ih := ways_tab T hT D hD ks (left - size) (by (first | lia | omega)) (by (first | lia | omega))
    have e : left - size + size = left := by (first | lia | omega)
    have h := Ps.key (left := left - size) (size := size) (by (first | lia | omega)) (ih.kp st hst) ((hT k size).kp nm hnm)
    rw [e] at h
    exact ⟨h, Int.mul_nonneg (ih.nn st hst) ((hT k size).nn nm hnm)⟩
/-! a rule's table -/
theorem table_tab {P Q : Int → Prop} : ∀ (W : Tbl) {told : Tbl}, Tab Q told → Tab P W → (∀ s, P s → Q (dimKey s)) → Tab Q (W.foldl tableStep told) ∧ ∀ f, mass f (W.foldl tableStep told) = mass f told + mass (fun s => f (dimKey s)) W
  | [], told, h, _, _ => ⟨h, fun f => by rw [mass_nil]; simp⟩
  | p :: W, told, h, hW, hk => by
    obtain ⟨h1, h2⟩ := h.addAll (qs := [(dimKey p.1, p.2)]) fun q hm => by rw [List.mem_singleton.mp hm]; exact ⟨hk _ (hW.kp p (.head _)), hW.nn p (.head _)⟩
    have hW' : Tab P W := ⟨(List.nodup_cons.mp hW.nd).2, fun q hq => hW.nn q (.tail _ hq), fun q hq => hW.kp q (.tail _ hq)⟩
    obtain ⟨h3, h4⟩ := table_tab W h1 hW' hk
    rw [List.foldl_cons]
    refine ⟨h3, fun f => ?_⟩
    have e : tableStep told p = addAll told [(dimKey p.1, p.2)] := rfl
    rw [e, h4, h2, mass_cons, mass_nil, mass_cons]
    dsimp only
    (first | lia -abstractProof | omega)
theorem mass_congr {f g : Int → Int} {P : Int → Prop} {t : Tbl} (h : Tab P t) (e : ∀ k, P k → f k = g k) : mass f t = mass g t := by
  unfold mass
  exact sum_congr t _ _ fun p hp => by rw [e _ (h.kp p hp)]
theorem mass_add (f g : Int → Int) (t : Tbl) : mass (fun k => f k + g k) t = mass f t + mass g t := by
  unfold mass
  rw [← sum_add]
  exact sum_congr t _ _ fun p _ => Int.add_mul _ _ _
theorem mass_eq (n : Int) : ∀ (t : Tbl), (keys t).Nodup → mass (iEq n) t = (ival t n).getD 0
  | [], _ => rfl
  | p :: t, h => by
    have h' : p.1 ∉ keys t ∧ (keys t).Nodup := List.nodup_cons.mp h
    rw [mass_cons, ival_cons, mass_eq n t h'.2]
    unfold iEq
    by_cases q : p.1 = n
    · subst q
      rw [if_pos rfl, if_pos rfl, ival_none t p.1 h'.1]; simp
    · rw [if_neg q, if_neg q]; simp
theorem cnt_mass (t : Tbl) : cnt t = mass (fun _ => 1) t := by
  unfold cnt mass
  exact sum_congr t _ _ fun p _ => (Int.one_mul _).symm
theorem low_mass {P : Int → Prop} {t : Tbl} (h : Tab P t) (hp : ∀ k, P k → 0 ≤ k) : lowOf t 1 = mass (iLt 1) t ∧ lowOf t 2 = mass (iLt 2) t ∧ lowOf t 3 = mass (iLt 3) t := by
  have e0 := mass_eq 0 t h.nd
  have e1 := mass_eq 1 t h.nd
  have e2 := mass_eq 2 t h.nd
  refine ⟨?_, ?_, ?_⟩
  · have e : lowOf t 1 = (ival t 0).getD 0 := by
      show ((ival t (0 + ((0 : Nat) : Int))).getD 0 : Int) + 0 = _
      simp
    rw [e, ← e0]
    refine mass_congr h fun k hk => ?_
    have := hp k hk
    unfold iEq iLt
    by_cases q : k = 0
    · rw [if_pos q, if_pos (by (first | lia -abstractProof | omega))]
    · rw [if_neg q, if_neg (by (first | lia -abstractProof | omega))]
  · have e : lowOf t 2 = (ival t 0).getD 0 + (ival t 1).getD 0 := by
      show ((ival t (0 + ((0 : Nat) : Int))).getD 0 : Int) + ((ival t (0 + ((1 : Nat) : Int))).getD 0 + 0) = _
      simp
    rw [e, ← e0, ← e1, ← mass_add]
    refine mass_congr h fun k hk => ?_
    have := hp k hk
    unfold iEq iLt
    by_cases q : k = 0
    · rw [if_pos q, if_neg (by (first | lia -abstractProof | omega)), if_pos (by (first | lia -abstractProof | omega))]; rfl
    · by_cases q1 : k = 1
      · rw [if_neg q, if_pos q1, if_pos (by (first | lia -abstractProof | omega))]; rfl
      · rw [if_neg q, if_neg q1, if_neg (by (first | lia -abstractProof | omega))]; rfl
  · have e : lowOf t 3 = (ival t 0).getD 0 + ((ival t 1).getD 0 + (ival t 2).getD 0) := by
      show ((ival t (0 + ((0 : Nat) : Int))).getD 0 : Int) + ((ival t (0 + ((1 : Nat) : Int))).getD 0 + ((ival t (0 + ((2 : Nat) : Int))).getD 0 + 0)) = _
      simp
    rw [e, ← e0, ← e1, ← e2, ← mass_add, ← mass_add]
    refine mass_congr h fun k hk => ?_
    have := hp k hk
    unfold iEq iLt
    by_cases q : k = 0
    · rw [if_pos q, if_neg (by (first | lia -abstractProof | omega)), if_neg (by (first | lia -abstractProof | omega)), if_pos (by (first | lia -abstractProof | omega))]; rfl
    · by_cases q1 : k = 1
      · rw [if_neg q, if_pos q1, if_neg (by (first | lia -abstractProof | omega)), if_pos (by (first | lia -abstractProof | omega))]; rfl
      · by_cases q2 : k = 2
        · rw [if_neg q, if_neg q1, if_pos q2, if_pos (by (first | lia -abstractProof | omega))]; rfl
        · rw [if_neg q, if_neg q1, if_neg q2, if_neg (by (first | lia -abstractProof | omega))]; rfl
/-! entries -/
structure EntOk (size : Int) (e : Ent) : Prop where
  tab : Tab (Pd size) e.t
  a : e.a = mass (iLt 1) e.t
  b : e.b = mass (fun _ => 1) e.t
  c : e.c = mass (iLt 2) e.t
  d : e.d = size * mass (iLt 3) e.t
theorem Pd.nn {size k : Int} (h : Pd size k) : 0 ≤ k ∧ k ≤ 2 := by unfold Pd at h; (first | lia | omega)
theorem noneE_ok (size : Int) : EntOk size noneE := ⟨Tab.nil, rfl, rfl, rfl, by show 0 = size * 0; (first | lia | omega)⟩
theorem dim_ok {l left size s : Int} (h1 : 1 ≤ size) (hl : 0 ≤ l) (e : left + l = size) (h : Ps left s) : Pd size (dimKey s) := by
  have hs : left ≤ size := e ▸ Int.le_add_of_nonneg_right hl
  rcases h with ⟨rfl, h⟩ | ⟨rfl, h⟩ | ⟨rfl, h⟩ | ⟨rfl, h⟩ | ⟨rfl, h⟩ | ⟨rfl, h⟩
  · rw [show dimKey 0 = 0 by decide]; exact .inl ⟨rfl, h1⟩
  · rw [show dimKey 2 = 0 by decide]; exact .inl ⟨rfl, h1⟩
  · rw [show dimKey 3 = 1 by decide]; exact .inr (.inl ⟨rfl, Int.le_trans h hs⟩)
  · rw [show dimKey 4 = 1 by decide]; exact .inr (.inl ⟨rfl, Int.le_trans h hs⟩)
  · rw [show dimKey 5 = 2 by decide]; exact .inr (.inr ⟨rfl, Int.le_trans h hs⟩)
  · rw [show dimKey 6 = 2 by decide]; exact .inr (.inr ⟨rfl, Int.le_trans h hs⟩)
noncomputable def ruleMass (T : Int → Int → Tbl) (D size head : Int) (f : Int → Int) (r : Rule) : Int := if r.1 = head ∧ r.2.1 ≤ size then mass (fun s => f (dimKey s)) (ways T D D r.2.2 (size - r.2.1)) else 0
theorem ent_fold (T : Int → Int → Tbl) (hT : ∀ k s, Tab (Pd s) (T k s)) (D : Int) (hD : D * D = 9) (size head : Int) (h1 : 1 ≤ size) (h5 : size ≤ 5) : ∀ (rules : List Rule) {e : Ent}, EntOk size e → (∀ r ∈ rules, 0 ≤ r.2.1) →
    EntOk size (rules.foldl (ruleStep T D size head) e) ∧ ∀ f, mass f (rules.foldl (ruleStep T D size head) e).t = mass f e.t + (rules.map (ruleMass T D size head f)).sum
  | [], e, h, _ => ⟨h, fun f => by simp⟩
  | r :: rules, e, h, hr => by
    have hl := hr r (.head _)
    have step : EntOk size (ruleStep T D size head e r) ∧ ∀ f, mass f (ruleStep T D size head e r).t = mass f e.t + ruleMass T D size head f r := by
      unfold ruleStep ruleMass
      by_cases q : r.1 = head ∧ r.2.1 ≤ size
      · rw [if_pos q]
        have hW := ways_tab T hT D hD r.2.2 (size - r.2.1) (by (first | lia | omega)) (by (first | lia | omega))
        obtain ⟨t1, t2⟩ := table_tab (Q := Pd size) (ways T D D r.2.2 (size - r.2.1)) Tab.nil hW fun s hs => dim_ok h1 hl (by (first | lia | omega)) hs
        obtain ⟨u1, u2⟩ := h.tab.addAll (qs := tableOf (ways T D D r.2.2 (size - r.2.1))) fun q hq => ⟨t1.kp q hq, t1.nn q hq⟩
        obtain ⟨l1, l2, l3⟩ := low_mass t1 fun k hk => hk.nn.1
        refine ⟨⟨u1, ?_, ?_, ?_, ?_⟩, fun f => ?_⟩
        · show lowOf (tableOf _) 1 + e.a = mass (iLt 1) (addAll e.t (tableOf _))
          rw [u2, h.a]; unfold tableOf; rw [l1]; (first | lia | omega)
        · show cnt (tableOf _) + e.b = mass _ (addAll e.t (tableOf _))
          rw [u2, h.b, cnt_mass]; (first | lia | omega)
        · show lowOf (tableOf _) 2 + e.c = mass (iLt 2) (addAll e.t (tableOf _))
          rw [u2, h.c]; unfold tableOf; rw [l2]; (first | lia | omega)
        · show size * lowOf (tableOf _) 3 + e.d = size * mass (iLt 3) (addAll e.t (tableOf _))
          rw [u2, h.d]; unfold tableOf; rw [l3, Int.mul_add]; (first | lia | omega)
        · show mass f (addAll e.t (tableOf _)) = _
          rw [if_pos q, u2]
          unfold tableOf
          rw [t2, mass_nil]; (first | lia | omega)
      · rw [if_neg q]
        exact ⟨h, fun f => by rw [if_neg q]; (first | lia | omega)⟩
    obtain ⟨s1, s2⟩ := step
    obtain ⟨h3, h4⟩ := ent_fold T hT D hD size head h1 h5 rules s1 fun x hx => hr x (.tail _ hx)
    rw [List.foldl_cons]
    refine ⟨h3, fun f => ?_⟩
    rw [h4, s2, List.map_cons, List.sum_cons]
    (first | lia | omega)
end Mine
end
section
open PySem PySem.W PySem.Calls PyProof.Rows
set_option Elab.async false
set_option linter.unusedVariables false
namespace Mine
/-! what the trees' tables are -/
section
variable (rules : List Rule) (D : Int)
noncomputable def entAt (n : Nat) (k : Int) (i : Nat) : Ent := (if k = 0 then (build rules D n).1 else (build rules D n).2).getD i noneE
noncomputable def tbAt (n : Nat) : Int → Int → Tbl := tabOf (build rules D n).1 (build rules D n).2
theorem tbAt_eq (n : Nat) (k s : Int) : tbAt rules D n k s = (entAt rules D n k s.toNat).t := by
  unfold tbAt tabOf entAt
  rw [List.getD_eq_getElem?_getD]
  cases (if k = 0 then (build rules D n).1 else (build rules D n).2)[s.toNat]? <;> rfl
theorem getD_snoc (L : List Ent) (x : Ent) (i : Nat) : (L ++ [x]).getD i noneE = if i < L.length then L.getD i noneE else if i = L.length then x else noneE := by
  rw [List.getD_eq_getElem?_getD, List.getD_eq_getElem?_getD]
  by_cases h : i < L.length
  · rw [if_pos h, List.getElem?_append_left h]
  · rw [if_neg h, List.getElem?_append_right (by (first | lia -abstractProof | omega))]
    by_cases h2 : i = L.length
    · subst h2; simp
    · rw [if_neg h2]
      have e : i - L.length ≠ 0 := by (first | lia -abstractProof | omega)
      cases q : i - L.length with
      | zero => exact absurd q e
      | succ j => rfl
theorem entAt_succ (n : Nat) (k : Int) (i : Nat) : entAt rules D (n + 1) k i = if i ≤ n then entAt rules D n k i else if i = n + 1 then mkEnt rules (tbAt rules D n) D ((n : Int) + 1) (if k = 0 then 0 else 1) else noneE := by
  obtain ⟨h1, h2⟩ := build_len rules D n
  have b1 : (build rules D (n + 1)).1 = (build rules D n).1 ++ [mkEnt rules (tbAt rules D n) D ((n : Int) + 1) 0] := rfl
  have b2 : (build rules D (n + 1)).2 = (build rules D n).2 ++ [mkEnt rules (tbAt rules D n) D ((n : Int) + 1) 1] := rfl
  unfold entAt
  by_cases hk : k = 0
  · rw [if_pos hk, if_pos hk, if_pos hk, b1, getD_snoc, h1]
    by_cases q : i ≤ n
    · rw [if_pos q, if_pos (by (first | lia | omega))]
    · rw [if_neg q, if_neg (by (first | lia | omega))]
  · rw [if_neg hk, if_neg hk, if_neg hk, b2, getD_snoc, h2]
    by_cases q : i ≤ n
    · rw [if_pos q, if_pos (by (first | lia | omega))]
    · rw [if_neg q, if_neg (by (first | lia | omega))]
theorem entAt_zero (k : Int) (i : Nat) : entAt rules D 0 k i = noneE := by
  have h : ∀ L : List Ent, L = [noneE] → L.getD i noneE = noneE := fun L e => by
    subst e
    cases i with
    | zero => rfl
    | succ i => rfl
  unfold entAt
  split
  · exact h _ rfl
  · exact h _ rfl
end
section
variable {rules : List Rule} {D : Int}
theorem entAt_le {n m : Nat} (k : Int) {i : Nat} (hi : i ≤ n) (hm : n ≤ m) : entAt rules D m k i = entAt rules D n k i := by
  induction m with
  | zero => have : n = 0 := by (first | lia -abstractProof | omega)
            subst this; rfl
  | succ m ih =>
    by_cases q : n = m + 1
    · rw [q]
    · rw [entAt_succ, if_pos (by (first | lia -abstractProof | omega)), ih (by (first | lia -abstractProof | omega))]
structure RulesNN (rules : List Rule) : Prop where
  l : ∀ r ∈ rules, 0 ≤ r.2.1
theorem built (hr : RulesNN rules) (hD : D * D = 9) : ∀ n : Nat, n ≤ 5 → ∀ k i, EntOk ((i : Nat) : Int) (entAt rules D n k i)
  | 0, _, k, i => by rw [entAt_zero]; exact noneE_ok _
  | n + 1, hn, k, i => by
    have ih := built hr hD n (by (first | lia -abstractProof | omega))
    rw [entAt_succ]
    split
    · exact ih k i
    · split
      · rename_i q; subst q
        have hT : ∀ k s, Tab (Pd s) (tbAt rules D n k s) := fun k s => by
          rw [tbAt_eq]
          by_cases h0 : 0 ≤ s
          · have := (ih k s.toNat).tab
            rw [Int.toNat_of_nonneg h0] at this; exact this
          · have e : s.toNat = 0 := by (first | lia -abstractProof | omega)
            rw [e]
            have e2 : entAt rules D n k 0 = noneE := (entAt_le k (Nat.le_refl 0) (Nat.zero_le n)).trans (entAt_zero rules D k 0)
            rw [e2]; exact Tab.nil
        have e : ((n + 1 : Nat) : Int) = (n : Int) + 1 := by (first | lia -abstractProof | omega)
        rw [e]
        exact (ent_fold (tbAt rules D n) hT D hD ((n : Int) + 1) _ (by (first | lia -abstractProof | omega)) (by (first | lia -abstractProof | omega)) rules (noneE_ok _) hr.l).1
      · exact noneE_ok _
theorem tab_ok (hr : RulesNN rules) (hD : D * D = 9) (n : Nat) (hn : n ≤ 5) (k s : Int) : Tab (Pd s) (tbAt rules D n k s) := by
  rw [tbAt_eq]
  by_cases h0 : 0 ≤ s
  · have := (built hr hD n hn k s.toNat).tab
    rw [Int.toNat_of_nonneg h0] at this; exact this
  · have e : s.toNat = 0 := by (first | lia | omega)
    rw [e]
    have e2 : entAt rules D n k 0 = noneE := (entAt_le k (Nat.le_refl 0) (Nat.zero_le n)).trans (entAt_zero rules D k 0)
    rw [e2]; exact Tab.nil
/-- the count of trees, weighed by their numbers -/
noncomputable def wt (rules : List Rule) (D : Int) (f : Int → Int) (k n : Int) : Int := mass f (tbAt rules D 5 k n)
theorem wt_tb (f : Int → Int) (n : Nat) (hn : n ≤ 5) (k s : Int) (hs : s ≤ n) : mass f (tbAt rules D n k s) = wt rules D f k s := by
  unfold wt
  rw [tbAt_eq, tbAt_eq, entAt_le k (n := n) (m := 5) (by (first | lia -abstractProof | omega)) hn]
theorem wt_rules (hr : RulesNN rules) (hD : D * D = 9) (f : Int → Int) (n : Nat) (hn : n < 5) (h : Int) (hh : h = 0 ∨ h = 1) : wt rules D f h ((n : Int) + 1) = (rules.map (ruleMass (tbAt rules D n) D ((n : Int) + 1) h f)).sum := by
  unfold wt
  have e0 : ((n : Int) + 1).toNat = n + 1 := by (first | lia | omega)
  rw [tbAt_eq, e0, entAt_le h (n := n + 1) (m := 5) (Nat.le_refl _) (by (first | lia | omega)), entAt_succ, if_neg (by (first | lia | omega)), if_pos rfl]
  have e : (if h = 0 then (0 : Int) else 1) = h := by rcases hh with rfl | rfl <;> rfl
  rw [e]
  have := (ent_fold (tbAt rules D n) (tab_ok hr hD n (by (first | lia | omega))) D hD ((n : Int) + 1) h (by (first | lia | omega)) (by (first | lia | omega)) rules (noneE_ok _) hr.l).2 f
  have e2 : mass f noneE.t = 0 := rfl
  rw [e2] at this
  unfold mkEnt
  rw [this]; (first | lia | omega)
theorem wt_zero (f : Int → Int) (k : Int) : wt rules D f k 0 = 0 := by
  unfold wt
  rw [tbAt_eq]
  have e2 : entAt rules D 5 k (0 : Int).toNat = noneE := (entAt_le k (Nat.le_refl 0) (Nat.zero_le 5)).trans (entAt_zero rules D k 0)
  rw [e2]; rfl
/-! sums of products -/
noncomputable def c2 (a b : Int → Int) (n : Int) : Int := ((rngI 1 n).map fun s => b (n - s) * a s).sum
noncomputable def c3 (a b c : Int → Int) (n : Int) : Int := ((rngI 1 (n - 1)).map fun s => c2 b c (n - s) * a s).sum
theorem sizes_one (k left : Int) : sizesOf [k] left = [left] := by
  show (List.range (left - 1 + 2 - left).toNat).map (fun (i : Nat) => left + (i : Int)) = [left]
  have e : (left - 1 + 2 - left).toNat = 1 := by (first | lia | omega)
  rw [e]
  simp
theorem sizes_two (k₁ k₂ left : Int) : sizesOf [k₁, k₂] left = rngI 1 left := by
  unfold sizesOf
  rw [if_neg (by simp)]
  show rngI 1 (left - 2 + 2) = _
  have e : left - 2 + 2 = left := by (first | lia | omega)
  rw [e]
theorem sizes_three (k₁ k₂ k₃ left : Int) : sizesOf [k₁, k₂, k₃] left = rngI 1 (left - 1) := by
  unfold sizesOf
  rw [if_neg (by simp)]
  show rngI 1 (left - 3 + 2) = _
  have e : left - 3 + 2 = left - 1 := by (first | lia | omega)
  rw [e]
theorem ways_none (T : Int → Int → Tbl) (left : Int) (f : Int → Int) : mass f (ways T D D [] left) = if left = 0 then f 0 else 0 := by
  rw [ways]
  split
  · rw [mass_cons, mass_nil]; simp
  · rfl
/-- one weight of ways, for what is multiplied alone -/
theorem mul_one {f ψ : Int → Int} (hf : Splits f f ψ (fun _ => 0) (fun _ => 0)) (h0 : f 0 = 1) (T : Int → Int → Tbl) (hT : ∀ k s, Tab (Pd s) (T k s)) (hD : D * D = 9) (k left : Int) (hl : 0 ≤ left) (h5 : left ≤ 5) : mass f (ways T D D [k] left) = mass ψ (T k left) := by
  rw [ways_mass hf T hT D hD k [] left hl h5, sizes_one, List.map_singleton, List.sum_singleton, ways_none, if_pos (by (first | lia | omega)), h0, Int.one_mul]
  have e : mass (fun _ => 0) (ways T D D [] (left - left)) = 0 := by rw [ways_none]; simp
  rw [e]; simp
theorem mass_z (t : Tbl) : mass (fun _ => 0) t = 0 := by
  induction t with
  | nil => rfl
  | cons p t ih => rw [mass_cons, ih]; simp
theorem mul_two {f ψ : Int → Int} (hf : Splits f f ψ (fun _ => 0) (fun _ => 0)) (h0 : f 0 = 1) (T : Int → Int → Tbl) (hT : ∀ k s, Tab (Pd s) (T k s)) (hD : D * D = 9) (k₁ k₂ left : Int) (hl : 0 ≤ left) (h5 : left ≤ 5) (a : Int → Int → Int) (ha : ∀ k s, 1 ≤ s → s < left → mass ψ (T k s) = a k s) :
    mass f (ways T D D [k₁, k₂] left) = c2 (a k₁) (a k₂) left := by
  rw [ways_mass hf T hT D hD k₁ [k₂] left hl h5, sizes_two]
  refine sum_congr _ _ _ fun s hs => ?_
  obtain ⟨q1, q2⟩ := mem_rngI.mp hs
  rw [mul_one hf h0 T hT hD k₂ (left - s) (by (first | lia -abstractProof | omega)) (by (first | lia -abstractProof | omega)), ha k₁ s q1 q2, ha k₂ (left - s) (by (first | lia -abstractProof | omega)) (by (first | lia -abstractProof | omega)), mass_z]
  simp
theorem mul_three {f ψ : Int → Int} (hf : Splits f f ψ (fun _ => 0) (fun _ => 0)) (h0 : f 0 = 1) (T : Int → Int → Tbl) (hT : ∀ k s, Tab (Pd s) (T k s)) (hD : D * D = 9) (k₁ k₂ k₃ left : Int) (hl : 0 ≤ left) (h5 : left ≤ 5) (a : Int → Int → Int) (ha : ∀ k s, 1 ≤ s → s < left → mass ψ (T k s) = a k s) :
    mass f (ways T D D [k₁, k₂, k₃] left) = c3 (a k₁) (a k₂) (a k₃) left := by
  rw [ways_mass hf T hT D hD k₁ [k₂, k₃] left hl h5, sizes_three]
  refine sum_congr _ _ _ fun s hs => ?_
  obtain ⟨q1, q2⟩ := mem_rngI.mp hs
  rw [mul_two hf h0 T hT hD k₂ k₃ (left - s) (by (first | lia -abstractProof | omega)) (by (first | lia -abstractProof | omega)) a (fun k s' h1 h2 => ha k s' h1 (by (first | lia -abstractProof | omega))), ha k₁ s q1 (by (first | lia -abstractProof | omega)), mass_z]
  simp
theorem iA0 {d : Int} (hd : 0 ≤ d) : iA d 0 = 1 := if_pos (by (first | lia | omega))
theorem iB0 {d : Int} (hd : 0 ≤ d) : iB d 0 = 0 := if_neg (by omega)
/-- and for the kid that alone has the greatest number -/
theorem add_one {d : Int} (hd : 0 ≤ d) (T : Int → Int → Tbl) (hT : ∀ k s, Tab (Pd s) (T k s)) (hD : D * D = 9) (k left : Int) (hl : 0 ≤ left) (h5 : left ≤ 5) : mass (iB d) (ways T D D [k] left) = mass (iEq d) (T k left) := by
  rw [ways_mass (splits_B d) T hT D hD k [] left hl h5, sizes_one, List.map_singleton, List.sum_singleton, ways_none, ways_none, if_pos (by (first | lia | omega)), if_pos (by (first | lia | omega)), iA0 hd, iB0 hd]
  simp
theorem add_two {d : Int} (hd : 0 ≤ d) (T : Int → Int → Tbl) (hT : ∀ k s, Tab (Pd s) (T k s)) (hD : D * D = 9) (k₁ k₂ left : Int) (hl : 0 ≤ left) (h5 : left ≤ 5) (a e : Int → Int → Int) (ha : ∀ k s, 1 ≤ s → s < left → mass (iLt d) (T k s) = a k s) (he : ∀ k s, 1 ≤ s → s < left → mass (iEq d) (T k s) = e k s) :
    mass (iB d) (ways T D D [k₁, k₂] left) = c2 (a k₁) (e k₂) left + c2 (e k₁) (a k₂) left := by
  rw [ways_mass (splits_B d) T hT D hD k₁ [k₂] left hl h5, sizes_two]
  unfold c2
  rw [← sum_add]
  refine sum_congr _ _ _ fun s hs => ?_
  obtain ⟨q1, q2⟩ := mem_rngI.mp hs
  rw [add_one hd T hT hD k₂ (left - s) (by (first | lia | omega)) (by (first | lia | omega)), mul_one (splits_A d) (iA0 hd) T hT hD k₂ (left - s) (by (first | lia | omega)) (by (first | lia | omega)), ha k₁ s q1 q2, he k₁ s q1 q2, ha k₂ (left - s) (by (first | lia | omega)) (by (first | lia | omega)), he k₂ (left - s) (by (first | lia | omega)) (by (first | lia | omega))]
theorem add_three {d : Int} (hd : 0 ≤ d) (T : Int → Int → Tbl) (hT : ∀ k s, Tab (Pd s) (T k s)) (hD : D * D = 9) (k₁ k₂ k₃ left : Int) (hl : 0 ≤ left) (h5 : left ≤ 5) (a e : Int → Int → Int) (ha : ∀ k s, 1 ≤ s → s < left → mass (iLt d) (T k s) = a k s) (he : ∀ k s, 1 ≤ s → s < left → mass (iEq d) (T k s) = e k s) :
    mass (iB d) (ways T D D [k₁, k₂, k₃] left) = c3 (a k₁) (a k₂) (e k₃) left + c3 (a k₁) (e k₂) (a k₃) left + c3 (e k₁) (a k₂) (a k₃) left := by
  rw [ways_mass (splits_B d) T hT D hD k₁ [k₂, k₃] left hl h5, sizes_three]
  unfold c3
  rw [← sum_add, ← sum_add]
  refine sum_congr _ _ _ fun s hs => ?_
  obtain ⟨q1, q2⟩ := mem_rngI.mp hs
  rw [add_two hd T hT hD k₂ k₃ (left - s) (by (first | lia | omega)) (by (first | lia | omega)) a e (fun k s' h1 h2 => ha k s' h1 (by (first | lia | omega))) (fun k s' h1 h2 => he k s' h1 (by (first | lia | omega))), mul_two (splits_A d) (iA0 hd) T hT hD k₂ k₃ (left - s) (by (first | lia | omega)) (by (first | lia | omega)) a (fun k s' h1 h2 => ha k s' h1 (by (first | lia | omega))), ha k₁ s q1 (by (first | lia | omega)), he k₁ s q1 (by (first | lia | omega)), Int.add_mul]
end
end Mine
end
section
open PySem PySem.W PySem.Calls PyProof.Rows
set_option Elab.async false
set_option linter.unusedVariables false
namespace Mine
theorem c2_1 (a b : Int → Int) : c2 a b 1 = 0 := rfl
theorem c2_2 (a b : Int → Int) : c2 a b 2 = a 1 * b 1 := by show b 1 * a 1 + 0 = _; grind
theorem c2_3 (a b : Int → Int) : c2 a b 3 = a 1 * b 2 + a 2 * b 1 := by show b 2 * a 1 + (b 1 * a 2 + 0) = _; grind
theorem c2_4 (a b : Int → Int) : c2 a b 4 = a 1 * b 3 + a 2 * b 2 + a 3 * b 1 := by show b 3 * a 1 + (b 2 * a 2 + (b 1 * a 3 + 0)) = _; grind
theorem c2_5 (a b : Int → Int) : c2 a b 5 = a 1 * b 4 + a 2 * b 3 + a 3 * b 2 + a 4 * b 1 := by show b 4 * a 1 + (b 3 * a 2 + (b 2 * a 3 + (b 1 * a 4 + 0))) = _; grind
theorem rngI_nil {n : Int} (h : n ≤ 1) : rngI 1 n = [] := by
  unfold rngI
  have e : (n - 1).toNat = 0 := by (first | lia -abstractProof | omega)
  rw [e]; rfl
theorem c2_low (a b : Int → Int) {n : Int} (h : n ≤ 1) : c2 a b n = 0 := by unfold c2; rw [rngI_nil h]; rfl
theorem c3_low (a b c : Int → Int) {n : Int} (h : n ≤ 2) : c3 a b c n = 0 := by unfold c3; rw [rngI_nil (by (first | lia -abstractProof | omega))]; rfl
theorem c3_3 (a b c : Int → Int) : c3 a b c 3 = c2 a (c2 b c) 3 := by show c2 b c 2 * a 1 + 0 = _; rw [c2_3, c2_1]; grind
theorem c3_4 (a b c : Int → Int) : c3 a b c 4 = c2 a (c2 b c) 4 := by show c2 b c 3 * a 1 + (c2 b c 2 * a 2 + 0) = _; rw [c2_4, c2_1]; grind
theorem c3_5 (a b c : Int → Int) : c3 a b c 5 = c2 a (c2 b c) 5 := by show c2 b c 4 * a 1 + (c2 b c 3 * a 2 + (c2 b c 2 * a 3 + 0)) = _; rw [c2_5, c2_1]; grind
theorem c3_1 (a b c : Int → Int) : c3 a b c 1 = c2 a (c2 b c) 1 := by rw [c3_low _ _ _ (by decide), c2_1]
theorem c3_2 (a b c : Int → Int) : c3 a b c 2 = c2 a (c2 b c) 2 := by rw [c3_low _ _ _ (by decide), c2_2, c2_1]; simp
theorem c2_z1 (a : Int → Int) (n : Int) : c2 a (fun _ => 0) n = 0 := by
  unfold c2
  induction rngI 1 n with
  | nil => rfl
  | cons x l ih => rw [List.map_cons, List.sum_cons, ih]; simp
theorem c2_z2 (b : Int → Int) (n : Int) : c2 (fun _ => 0) b n = 0 := by
  unfold c2
  induction rngI 1 n with
  | nil => rfl
  | cons x l ih => rw [List.map_cons, List.sum_cons, ih]; simp
theorem c3_z (b c : Int → Int) (n : Int) : c3 (fun _ => 0) b c n = 0 := by
  unfold c3
  induction rngI 1 (n - 1) with
  | nil => rfl
  | cons x l ih => rw [List.map_cons, List.sum_cons, ih]; simp
theorem c3_z' (a b c : Int → Int) (h : ∀ m, c2 b c m = 0) (n : Int) : c3 a b c n = 0 := by
  unfold c3
  induction rngI 1 (n - 1) with
  | nil => rfl
  | cons x l ih => rw [List.map_cons, List.sum_cons, ih, h]; simp
/-- what a rule brings -/
noncomputable def gsum (a e : Int → Int → Int) : List Int → Int → Int
  | [], n => if n = 0 then 1 else 0
  | [k], n => a k n + e k n
  | [k₁, k₂], n => c2 (a k₁) (a k₂) n + (c2 (a k₁) (e k₂) n + c2 (e k₁) (a k₂) n)
  | [k₁, k₂, k₃], n => c3 (a k₁) (a k₂) (a k₃) n + (c3 (a k₁) (a k₂) (e k₃) n + c3 (a k₁) (e k₂) (a k₃) n + c3 (e k₁) (a k₂) (a k₃) n)
  | _, _ => 0
/-- the rules' kinds, the letter rules' too -/
structure RK (r : Rule) : Prop where
  head : r.1 = 0 ∨ r.1 = 1
  kid : ∀ k ∈ r.2.2, k = 0 ∨ k = 1
  kind : (r.2.1 = 1 ∧ r.2.2 = []) ∨ (∃ k, r.2.2 = [k] ∧ (r.2.1 = 1 ∨ r.2.1 = 2)) ∨ (∃ k₁ k₂, r.2.2 = [k₁, k₂] ∧ (r.2.1 = 0 ∨ r.2.1 = 1)) ∨ (∃ k₁ k₂ k₃, r.2.2 = [k₁, k₂, k₃] ∧ (r.2.1 = 0 ∨ r.2.1 = 1))
theorem RX.rk {r : Rule} (h : RX r) : RK r := by
  obtain ⟨hd, l, ks⟩ := r
  refine ⟨h.head, h.kid, ?_⟩
  have hk : (l, ks.length) ∈ [((0 : Int), 2), (1, 1), (0, 3), (1, 2), (2, 1), (1, 3)] := h.kind
  simp only [List.mem_cons, List.not_mem_nil, or_false, Prod.mk.injEq] at hk
  have one : ∀ {l : List Int}, l.length = 1 → ∃ k, l = [k] := fun e => List.length_eq_one_iff.mp e
  have more : ∀ {l : List Int} {n : Nat}, l.length = n + 1 → ∃ k r, l = k :: r ∧ r.length = n := fun {l n} e => by
    cases l with
    | nil => cases e
    | cons k r => exact ⟨k, r, rfl, Nat.succ.inj e⟩
  have two : ∀ {l : List Int}, l.length = 2 → ∃ k₁ k₂, l = [k₁, k₂] := fun e => by
    obtain ⟨k, r, rfl, e'⟩ := more e
    obtain ⟨k', rfl⟩ := one e'
    exact ⟨k, k', rfl⟩
  have three : ∀ {l : List Int}, l.length = 3 → ∃ k₁ k₂ k₃, l = [k₁, k₂, k₃] := fun e => by
    obtain ⟨k, r, rfl, e'⟩ := more e
    obtain ⟨k', k'', rfl⟩ := two e'
    exact ⟨k, k', k'', rfl⟩
  rcases hk with ⟨e1, e2⟩ | ⟨e1, e2⟩ | ⟨e1, e2⟩ | ⟨e1, e2⟩ | ⟨e1, e2⟩ | ⟨e1, e2⟩
  · obtain ⟨k₁, k₂, e⟩ := two e2; exact .inr (.inr (.inl ⟨k₁, k₂, e, .inl e1⟩))
  · obtain ⟨k, e⟩ := one e2; exact .inr (.inl ⟨k, e, .inl e1⟩)
  · obtain ⟨k₁, k₂, k₃, e⟩ := three e2; exact .inr (.inr (.inr ⟨k₁, k₂, k₃, e, .inl e1⟩))
  · obtain ⟨k₁, k₂, e⟩ := two e2; exact .inr (.inr (.inl ⟨k₁, k₂, e, .inr e1⟩))
  · obtain ⟨k, e⟩ := one e2; exact .inr (.inl ⟨k, e, .inr e1⟩)
  · obtain ⟨k₁, k₂, k₃, e⟩ := three e2; exact .inr (.inr (.inr ⟨k₁, k₂, k₃, e, .inr e1⟩))
structure AllRK (rules : List Rule) : Prop where
  rk : ∀ r ∈ rules, RK r
theorem RulesOk.all {rules : List Rule} (h : RulesOk rules) : AllRK rules := by
  obtain ⟨rs, rfl, _, hx⟩ := h.ex
  refine ⟨fun r hr => ?_⟩
  rcases List.mem_cons.mp hr with rfl | hr
  · exact ⟨.inl rfl, fun _ q => (nomatch q), .inl ⟨rfl, rfl⟩⟩
  rcases List.mem_cons.mp hr with rfl | hr
  · exact ⟨.inr rfl, fun _ q => (nomatch q), .inl ⟨rfl, rfl⟩⟩
  · exact (hx r hr).rk
theorem AllRK.nn {rules : List Rule} (h : AllRK rules) : RulesNN rules := ⟨fun r hr => by
  rcases (h.rk r hr).kind with ⟨e, _⟩ | ⟨_, _, e⟩ | ⟨_, _, _, e⟩ | ⟨_, _, _, _, e⟩ <;> (first | lia | omega)⟩
section
variable {rules : List Rule} {D : Int}
theorem wt_neg (f : Int → Int) (k : Int) {n : Int} (h : n ≤ 0) : wt rules D f k n = 0 := by
  have e : n.toNat = (0 : Int).toNat := by (first | lia | omega)
  have := wt_zero (rules := rules) (D := D) f k
  unfold wt at this ⊢
  rw [tbAt_eq] at this ⊢
  rw [e]; exact this
theorem gsum_low (a e : Int → Int → Int) (ha : ∀ k n, n ≤ 0 → a k n = 0) (he : ∀ k n, n ≤ 0 → e k n = 0) : ∀ (ks : List Int) {n : Int}, n < 0 → gsum a e ks n = 0
  | [], n, h => if_neg (by (first | lia -abstractProof | omega))
  | [k], n, h => by show a k n + e k n = 0; rw [ha k n (by (first | lia -abstractProof | omega)), he k n (by (first | lia -abstractProof | omega))]; rfl
  | [k₁, k₂], n, h => by show c2 _ _ n + (c2 _ _ n + c2 _ _ n) = 0; rw [c2_low _ _ (by (first | lia -abstractProof | omega)), c2_low _ _ (by (first | lia -abstractProof | omega)), c2_low _ _ (by (first | lia -abstractProof | omega))]; rfl
  | [k₁, k₂, k₃], n, h => by show c3 _ _ _ n + (c3 _ _ _ n + c3 _ _ _ n + c3 _ _ _ n) = 0; rw [c3_low _ _ _ (by (first | lia -abstractProof | omega)), c3_low _ _ _ (by (first | lia -abstractProof | omega)), c3_low _ _ _ (by (first | lia -abstractProof | omega)), c3_low _ _ _ (by (first | lia -abstractProof | omega))]; rfl
  | _ :: _ :: _ :: _ :: _, n, h => rfl
theorem rule_lt (hr : RulesNN rules) (hD : D * D = 9) {d : Int} (hd : 0 ≤ d) (n : Nat) (hn : n < 5) (h : Int) {r : Rule} (R : RK r) :
    ruleMass (tbAt rules D n) D ((n : Int) + 1) h (iLt (d + 1)) r = if r.1 = h then gsum (wt rules D (iLt d)) (wt rules D (iEq d)) r.2.2 ((n : Int) + 1 - r.2.1) else 0 := by
  have hT := tab_ok hr hD n (by (first | lia | omega))
  have ha : ∀ k s, s ≤ (n : Int) → mass (iLt d) (tbAt rules D n k s) = wt rules D (iLt d) k s := fun k s hs => wt_tb (iLt d) n (by (first | lia | omega)) k s hs
  have he : ∀ k s, s ≤ (n : Int) → mass (iEq d) (tbAt rules D n k s) = wt rules D (iEq d) k s := fun k s hs => wt_tb (iEq d) n (by (first | lia | omega)) k s hs
  unfold ruleMass
  by_cases q1 : r.1 = h
  · rw [if_pos q1]
    by_cases q2 : r.2.1 ≤ (n : Int) + 1
    · rw [if_pos ⟨q1, q2⟩]
      have e : mass (fun s => iLt (d + 1) (dimKey s)) (ways (tbAt rules D n) D D r.2.2 ((n : Int) + 1 - r.2.1)) = mass (iA d) (ways (tbAt rules D n) D D r.2.2 ((n : Int) + 1 - r.2.1)) + mass (iB d) (ways (tbAt rules D n) D D r.2.2 ((n : Int) + 1 - r.2.1)) := by
        rw [← mass_add]
        congr 1
        funext s
        exact iLt_dim d s hd
      rw [e]
      rcases R.kind with ⟨e1, e2⟩ | ⟨k, e2, e1⟩ | ⟨k₁, k₂, e2, e1⟩ | ⟨k₁, k₂, k₃, e2, e1⟩
      · rw [e2, ways_none, ways_none, iA0 hd, iB0 hd]
        show _ = if (n : Int) + 1 - r.2.1 = 0 then (1 : Int) else 0
        split <;> rfl
      · rw [e2, mul_one (splits_A d) (iA0 hd) _ hT hD k _ (by (first | lia | omega)) (by (first | lia | omega)), add_one hd _ hT hD k _ (by (first | lia | omega)) (by (first | lia | omega)), ha _ _ (by (first | lia | omega)), he _ _ (by (first | lia | omega))]
        rfl
      · rw [e2, mul_two (splits_A d) (iA0 hd) _ hT hD k₁ k₂ _ (by (first | lia | omega)) (by (first | lia | omega)) (wt rules D (iLt d)) (fun k s _ h2 => ha k s (by (first | lia | omega))), add_two hd _ hT hD k₁ k₂ _ (by (first | lia | omega)) (by (first | lia | omega)) (wt rules D (iLt d)) (wt rules D (iEq d)) (fun k s _ h2 => ha k s (by (first | lia | omega))) (fun k s _ h2 => he k s (by (first | lia | omega)))]
        rfl
      · rw [e2, mul_three (splits_A d) (iA0 hd) _ hT hD k₁ k₂ k₃ _ (by (first | lia | omega)) (by (first | lia | omega)) (wt rules D (iLt d)) (fun k s _ h2 => ha k s (by (first | lia | omega))), add_three hd _ hT hD k₁ k₂ k₃ _ (by (first | lia | omega)) (by (first | lia | omega)) (wt rules D (iLt d)) (wt rules D (iEq d)) (fun k s _ h2 => ha k s (by (first | lia | omega))) (fun k s _ h2 => he k s (by (first | lia | omega)))]
        rfl
    · rw [if_neg (fun q => q2 q.2), gsum_low _ _ (fun k n h => wt_neg _ k h) (fun k n h => wt_neg _ k h) r.2.2 (by (first | lia | omega))]
  · rw [if_neg (fun q => q1 q.1), if_neg q1]
theorem rule_all (hr : RulesNN rules) (hD : D * D = 9) (n : Nat) (hn : n < 5) (h : Int) {r : Rule} (R : RK r) :
    ruleMass (tbAt rules D n) D ((n : Int) + 1) h (fun _ => 1) r = if r.1 = h then gsum (wt rules D (fun _ => 1)) (fun _ _ => 0) r.2.2 ((n : Int) + 1 - r.2.1) else 0 := by
  have hT := tab_ok hr hD n (by (first | lia | omega))
  have ha : ∀ k s, s ≤ (n : Int) → mass (fun _ => 1) (tbAt rules D n k s) = wt rules D (fun _ => 1) k s := fun k s hs => wt_tb (fun _ => 1) n (by (first | lia | omega)) k s hs
  unfold ruleMass
  by_cases q1 : r.1 = h
  · rw [if_pos q1]
    by_cases q2 : r.2.1 ≤ (n : Int) + 1
    · rw [if_pos ⟨q1, q2⟩]
      rcases R.kind with ⟨e1, e2⟩ | ⟨k, e2, e1⟩ | ⟨k₁, k₂, e2, e1⟩ | ⟨k₁, k₂, k₃, e2, e1⟩
      · rw [e2, ways_none]
        rfl
      · rw [e2, mul_one splits_one rfl _ hT hD k _ (by (first | lia | omega)) (by (first | lia | omega)), ha _ _ (by (first | lia | omega))]
        show _ = wt rules D (fun _ => 1) k _ + 0
        (first | lia | omega)
      · rw [e2, mul_two splits_one rfl _ hT hD k₁ k₂ _ (by (first | lia | omega)) (by (first | lia | omega)) (wt rules D (fun _ => 1)) (fun k s _ h2 => ha k s (by (first | lia | omega)))]
        show _ = c2 _ _ _ + (c2 _ (fun _ => 0) _ + c2 (fun _ => 0) _ _)
        rw [c2_z1, c2_z2]; (first | lia | omega)
      · rw [e2, mul_three splits_one rfl _ hT hD k₁ k₂ k₃ _ (by (first | lia | omega)) (by (first | lia | omega)) (wt rules D (fun _ => 1)) (fun k s _ h2 => ha k s (by (first | lia | omega)))]
        show _ = c3 _ _ _ _ + (c3 _ _ (fun _ => 0) _ + c3 _ (fun _ => 0) _ _ + c3 (fun _ => 0) _ _ _)
        rw [c3_z' _ _ _ (fun m => c2_z1 _ m), c3_z' _ _ _ (fun m => c2_z2 _ m), c3_z]; (first | lia | omega)
    · rw [if_neg (fun q => q2 q.2), gsum_low _ _ (fun k n h => wt_neg _ k h) (fun k n h => rfl) r.2.2 (by (first | lia | omega))]
  · rw [if_neg (fun q => q1 q.1), if_neg q1]
theorem wt_lt (hr : AllRK rules) (hD : D * D = 9) {d : Int} (hd : 0 ≤ d) (n : Nat) (hn : n < 5) (h : Int) (hh : h = 0 ∨ h = 1) :
    wt rules D (iLt (d + 1)) h ((n : Int) + 1) = (rules.map fun r => if r.1 = h then gsum (wt rules D (iLt d)) (wt rules D (iEq d)) r.2.2 ((n : Int) + 1 - r.2.1) else 0).sum := by
  rw [wt_rules hr.nn hD _ n hn h hh]
  exact sum_congr _ _ _ fun r hm => rule_lt hr.nn hD hd n hn h (hr.rk r hm)
theorem wt_all (hr : AllRK rules) (hD : D * D = 9) (n : Nat) (hn : n < 5) (h : Int) (hh : h = 0 ∨ h = 1) :
    wt rules D (fun _ => 1) h ((n : Int) + 1) = (rules.map fun r => if r.1 = h then gsum (wt rules D (fun _ => 1)) (fun _ _ => 0) r.2.2 ((n : Int) + 1 - r.2.1) else 0).sum := by
  rw [wt_rules hr.nn hD _ n hn h hh]
  exact sum_congr _ _ _ fun r hm => rule_all hr.nn hD n hn h (hr.rk r hm)
end
/-! bounds -/
structure BM (a : Int → Int) : Prop where
  b1 : 0 ≤ a 1 ∧ a 1 ≤ 1
  b2 : 0 ≤ a 2 ∧ a 2 ≤ 4
  b3 : 0 ≤ a 3 ∧ a 3 ≤ 32
  b4 : 0 ≤ a 4 ∧ a 4 ≤ 320
  b5 : 0 ≤ a 5 ∧ a 5 ≤ 3584
theorem mb {x y X Y : Int} (hx : 0 ≤ x ∧ x ≤ X) (hy : 0 ≤ y ∧ y ≤ Y) : 0 ≤ x * y ∧ x * y ≤ X * Y :=
  ⟨Int.mul_nonneg hx.1 hy.1, Int.mul_le_mul hx.2 hy.2 hy.1 (Int.le_trans hx.1 hx.2)⟩
theorem sum_bound {α : Type} (l : List α) (f : α → Int) (c : Int) (h : ∀ x ∈ l, 0 ≤ f x ∧ f x ≤ c) : 0 ≤ (l.map f).sum ∧ (l.map f).sum ≤ (l.length : Int) * c := by
  induction l with
  | nil => simp
  | cons x l ih =>
    obtain ⟨h1, h2⟩ := ih fun y hy => h y (.tail _ hy)
    obtain ⟨h3, h4⟩ := h x (.head _)
    rw [List.map_cons, List.sum_cons, List.length_cons]
    have e : ((l.length + 1 : Nat) : Int) * c = (l.length : Int) * c + c := by rw [Int.natCast_add, Int.add_mul]; simp
    rw [e]; (first | lia -abstractProof | omega)
theorem sum_bound4 {α : Type} (l : List α) (f : α → Int) (c : Int) (hc : 0 ≤ c) (hl : l.length ≤ 4) (h : ∀ x ∈ l, 0 ≤ f x ∧ f x ≤ c) : 0 ≤ (l.map f).sum ∧ (l.map f).sum ≤ 4 * c := by
  obtain ⟨h1, h2⟩ := sum_bound l f c h
  have h3 : (l.length : Int) * c ≤ 4 * c := Int.mul_le_mul_of_nonneg_right (by (first | lia | omega)) hc
  (first | lia | omega)
theorem c2_b2 {a b : Int → Int} (ha : 0 ≤ a 1 ∧ a 1 ≤ 1) (hb : 0 ≤ b 1 ∧ b 1 ≤ 1) : 0 ≤ c2 a b 2 ∧ c2 a b 2 ≤ 1 := by rw [c2_2]; exact mb ha hb
theorem c2_b3 {a b : Int → Int} (a1 : 0 ≤ a 1 ∧ a 1 ≤ 1) (b1 : 0 ≤ b 1 ∧ b 1 ≤ 1) (a2 : 0 ≤ a 2 ∧ a 2 ≤ 4) (b2 : 0 ≤ b 2 ∧ b 2 ≤ 4) : 0 ≤ c2 a b 3 ∧ c2 a b 3 ≤ 8 := by
  rw [c2_3]; have := mb a1 b2; have := mb a2 b1; (first | lia -abstractProof | omega)
theorem c2_b4 {a b : Int → Int} (a1 : 0 ≤ a 1 ∧ a 1 ≤ 1) (b1 : 0 ≤ b 1 ∧ b 1 ≤ 1) (a2 : 0 ≤ a 2 ∧ a 2 ≤ 4) (b2 : 0 ≤ b 2 ∧ b 2 ≤ 4) (a3 : 0 ≤ a 3 ∧ a 3 ≤ 32) (b3 : 0 ≤ b 3 ∧ b 3 ≤ 32) : 0 ≤ c2 a b 4 ∧ c2 a b 4 ≤ 80 := by
  rw [c2_4]; have := mb a1 b3; have := mb a2 b2; have := mb a3 b1; (first | lia -abstractProof | omega)
theorem c2_b5 {a b : Int → Int} (a1 : 0 ≤ a 1 ∧ a 1 ≤ 1) (b1 : 0 ≤ b 1 ∧ b 1 ≤ 1) (a2 : 0 ≤ a 2 ∧ a 2 ≤ 4) (b2 : 0 ≤ b 2 ∧ b 2 ≤ 4) (a3 : 0 ≤ a 3 ∧ a 3 ≤ 32) (b3 : 0 ≤ b 3 ∧ b 3 ≤ 32) (a4 : 0 ≤ a 4 ∧ a 4 ≤ 320) (b4 : 0 ≤ b 4 ∧ b 4 ≤ 320) : 0 ≤ c2 a b 5 ∧ c2 a b 5 ≤ 896 := by
  rw [c2_5]; have := mb a1 b4; have := mb a2 b3; have := mb a3 b2; have := mb a4 b1; (first | lia -abstractProof | omega)
theorem BM.c2 {a b : Int → Int} (ha : BM a) (hb : BM b) : BM (Mine.c2 a b) where
  b1 := by rw [c2_1]; decide
  b2 := by have := c2_b2 ha.b1 hb.b1; (first | lia -abstractProof | omega)
  b3 := by have := c2_b3 ha.b1 hb.b1 ha.b2 hb.b2; (first | lia -abstractProof | omega)
  b4 := by have := c2_b4 ha.b1 hb.b1 ha.b2 hb.b2 ha.b3 hb.b3; (first | lia -abstractProof | omega)
  b5 := by have := c2_b5 ha.b1 hb.b1 ha.b2 hb.b2 ha.b3 hb.b3 ha.b4 hb.b4; (first | lia -abstractProof | omega)
end Mine
end
section
open PySem PySem.W PySem.Calls PyProof.Rows
set_option Elab.async false
set_option linter.unusedVariables false
namespace Mine
/-! how great the counts are -/
theorem RX.rn {r : Rule} (h : RX r) : (∃ k, r.2.2 = [k] ∧ (r.2.1 = 1 ∨ r.2.1 = 2)) ∨ (∃ k₁ k₂, r.2.2 = [k₁, k₂] ∧ (r.2.1 = 0 ∨ r.2.1 = 1)) ∨ (∃ k₁ k₂ k₃, r.2.2 = [k₁, k₂, k₃] ∧ (r.2.1 = 0 ∨ r.2.1 = 1)) := by
  rcases h.rk.kind with ⟨e1, e2⟩ | q
  · have := h.kind
    rw [e1, e2] at this
    exact absurd this (by decide)
  · exact q
theorem mass_nn {P : Int → Prop} {f : Int → Int} {t : Tbl} (h : Tab P t) (hf : ∀ n, 0 ≤ f n) : 0 ≤ mass f t := by
  unfold mass
  have := h.nn
  clear h
  induction t with
  | nil => exact Int.le_refl _
  | cons p t ih =>
    rw [List.map_cons, List.sum_cons]
    have h1 := ih fun q hq => this q (.tail _ hq)
    have h2 := Int.mul_nonneg (hf p.1) (this p (.head _))
    omega
theorem mass_le {P : Int → Prop} {f g : Int → Int} {t : Tbl} (h : Tab P t) (hf : ∀ n, f n ≤ g n) : mass f t ≤ mass g t := by
  have h1 : mass g t = mass f t + mass (fun n => g n - f n) t := by
    rw [← mass_add]; congr 1; funext n; (first | lia -abstractProof | omega)
  have h2 := mass_nn h (f := fun n => g n - f n) fun n => by have := hf n; (first | lia -abstractProof | omega)
  (first | lia -abstractProof | omega)
theorem cnt_nn : ∀ (t : Tbl), (∀ p ∈ t, 0 ≤ p.2) → 0 ≤ cnt t
  | [], _ => Int.le_refl _
  | p :: t, h => by
    have h1 := cnt_nn t fun q hq => h q (.tail _ hq)
    have h2 := h p (.head _)
    have e : cnt (p :: t) = p.2 + cnt t := by unfold cnt; rw [List.map_cons, List.sum_cons]
    (first | lia -abstractProof | omega)
theorem cnt_ge : ∀ (t : Tbl), (∀ p ∈ t, 0 ≤ p.2) → ∀ p ∈ t, p.2 ≤ cnt t
  | [], _, p, hp => (nomatch hp)
  | q :: t, h, p, hp => by
    have h1 := cnt_nn t fun q hq => h q (.tail _ hq)
    have h2 := h q (.head _)
    have e : cnt (q :: t) = q.2 + cnt t := by unfold cnt; rw [List.map_cons, List.sum_cons]
    rcases List.mem_cons.mp hp with rfl | hp
    · (first | lia -abstractProof | omega)
    · have := cnt_ge t (fun q hq => h q (.tail _ hq)) p hp
      (first | lia -abstractProof | omega)
theorem mass_ge {P : Int → Prop} {t : Tbl} (h : Tab P t) {p : Int × Int} (hp : p ∈ t) : p.2 ≤ mass (fun _ => 1) t := by
  rw [← cnt_mass]; exact cnt_ge t h.nn p hp
theorem nodup_len : ∀ (l S : List Int), l.Nodup → (∀ x ∈ l, x ∈ S) → l.length ≤ S.length
  | [], S, _, _ => Nat.zero_le _
  | x :: l, S, h, hs => by
    have h' := List.nodup_cons.mp h
    have h1 := nodup_len l (S.erase x) h'.2 fun y hy => (List.mem_erase_of_ne (show y ≠ x from fun e => h'.1 (e ▸ hy))).mpr (hs y (.tail _ hy))
    rw [List.length_erase_of_mem (hs x (.head _))] at h1
    exact Nat.add_le_of_le_sub (List.length_pos_of_mem (hs x (.head _))) h1
theorem Tab.len {size : Int} {t : Tbl} (h : Tab (Pd size) t) : t.length ≤ 3 := by
  have := nodup_len (keys t) [0, 1, 2] h.nd fun x hx => by
    obtain ⟨p, hp, rfl⟩ := List.mem_map.mp hx
    rcases h.kp p hp with ⟨e, _⟩ | ⟨e, _⟩ | ⟨e, _⟩ <;> rw [e]
    · exact .head _
    · exact .tail _ (.head _)
    · exact .tail _ (.tail _ (.head _))
  unfold keys at this
  rwa [List.length_map] at this
section
variable {rules : List Rule} {D : Int}
noncomputable abbrev tot (rules : List Rule) (D : Int) (k n : Int) : Int := wt rules D (fun _ => 1) k n
noncomputable def B2 (a : Int → Int → Int) (n : Int) (m : Int) : Prop := ∀ k, k = 0 ∨ k = 1 → 0 ≤ a k n ∧ a k n ≤ m
theorem g_one (a : Int → Int → Int) (k n : Int) : gsum a (fun _ _ => 0) [k] n = a k n := Int.add_zero _
theorem g_two (a : Int → Int → Int) (k₁ k₂ n : Int) : gsum a (fun _ _ => 0) [k₁, k₂] n = c2 (a k₁) (a k₂) n := by
  show c2 _ _ _ + (c2 _ (fun _ => 0) _ + c2 (fun _ => 0) _ _) = _
  rw [c2_z1, c2_z2]; (first | lia | omega)
theorem g_three (a : Int → Int → Int) (k₁ k₂ k₃ n : Int) : gsum a (fun _ _ => 0) [k₁, k₂, k₃] n = c3 (a k₁) (a k₂) (a k₃) n := by
  show c3 _ _ _ _ + (c3 _ _ (fun _ => 0) _ + c3 _ (fun _ => 0) _ _ + c3 (fun _ => 0) _ _ _) = _
  rw [c3_z' _ _ _ (fun m => c2_z1 _ m), c3_z' _ _ _ (fun m => c2_z2 _ m), c3_z]; (first | lia -abstractProof | omega)
/-- one rule's share, when the counts below are known -/
theorem share {a : Int → Int → Int} {r : Rule} (R : RX r) {N m : Int}
    (h1 : ∀ k, k = 0 ∨ k = 1 → 0 ≤ a k (N - 1) ∧ a k (N - 1) ≤ m) (h2 : ∀ k, k = 0 ∨ k = 1 → 0 ≤ a k (N - 2) ∧ a k (N - 2) ≤ m)
    (h3 : ∀ k₁ k₂, (k₁ = 0 ∨ k₁ = 1) → (k₂ = 0 ∨ k₂ = 1) → 0 ≤ c2 (a k₁) (a k₂) N ∧ c2 (a k₁) (a k₂) N ≤ m)
    (h4 : ∀ k₁ k₂, (k₁ = 0 ∨ k₁ = 1) → (k₂ = 0 ∨ k₂ = 1) → 0 ≤ c2 (a k₁) (a k₂) (N - 1) ∧ c2 (a k₁) (a k₂) (N - 1) ≤ m)
    (h5 : ∀ k₁ k₂ k₃, (k₁ = 0 ∨ k₁ = 1) → (k₂ = 0 ∨ k₂ = 1) → (k₃ = 0 ∨ k₃ = 1) → 0 ≤ c3 (a k₁) (a k₂) (a k₃) N ∧ c3 (a k₁) (a k₂) (a k₃) N ≤ m)
    (h6 : ∀ k₁ k₂ k₃, (k₁ = 0 ∨ k₁ = 1) → (k₂ = 0 ∨ k₂ = 1) → (k₃ = 0 ∨ k₃ = 1) → 0 ≤ c3 (a k₁) (a k₂) (a k₃) (N - 1) ∧ c3 (a k₁) (a k₂) (a k₃) (N - 1) ≤ m) :
    0 ≤ gsum a (fun _ _ => 0) r.2.2 (N - r.2.1) ∧ gsum a (fun _ _ => 0) r.2.2 (N - r.2.1) ≤ m := by
  have hk := R.kid
  rcases R.rn with ⟨k, e, q | q⟩ | ⟨k₁, k₂, e, q | q⟩ | ⟨k₁, k₂, k₃, e, q | q⟩ <;> rw [e] at hk ⊢ <;> rw [q]
  · rw [g_one]; exact h1 k (hk k (by simp))
  · rw [g_one]; exact h2 k (hk k (by simp))
  · rw [g_two, Int.sub_zero]; exact h3 _ _ (hk _ (by simp)) (hk _ (by simp))
  · rw [g_two]; exact h4 _ _ (hk _ (by simp)) (hk _ (by simp))
  · rw [g_three, Int.sub_zero]; exact h5 _ _ _ (hk _ (by simp)) (hk _ (by simp)) (hk _ (by simp))
  · rw [g_three]; exact h6 _ _ _ (hk _ (by simp)) (hk _ (by simp)) (hk _ (by simp))
theorem tot_rs (rs : List Rule) (h4 : rs.length ≤ 4) (hx : ∀ r ∈ rs, RX r) (hD : D * D = 9) (n : Nat) (hn : n < 5) (m : Int) (hm : 0 ≤ m)
    (hs : ∀ r ∈ rs, 0 ≤ gsum (tot ((0, 1, []) :: (1, 1, []) :: rs) D) (fun _ _ => 0) r.2.2 ((n : Int) + 1 - r.2.1) ∧ gsum (tot ((0, 1, []) :: (1, 1, []) :: rs) D) (fun _ _ => 0) r.2.2 ((n : Int) + 1 - r.2.1) ≤ m)
    (h : Int) (hh : h = 0 ∨ h = 1) : 0 ≤ tot ((0, 1, []) :: (1, 1, []) :: rs) D h ((n : Int) + 1) ∧ tot ((0, 1, []) :: (1, 1, []) :: rs) D h ((n : Int) + 1) ≤ (if n = 0 then 1 else 0) + 4 * m := by
  have hr : AllRK ((0, 1, []) :: (1, 1, []) :: rs) := RulesOk.all ⟨rs, rfl, h4, hx⟩
  have e : tot ((0, 1, []) :: (1, 1, []) :: rs) D h ((n : Int) + 1) = (((0, 1, []) :: (1, 1, []) :: rs).map fun r : Rule => if r.1 = h then gsum (tot ((0, 1, []) :: (1, 1, []) :: rs) D) (fun _ _ => 0) r.2.2 ((n : Int) + 1 - r.2.1) else 0).sum := wt_all hr hD n hn h hh
  have b := sum_bound4 rs (fun r : Rule => if r.1 = h then gsum (tot ((0, 1, []) :: (1, 1, []) :: rs) D) (fun _ _ => 0) r.2.2 ((n : Int) + 1 - r.2.1) else 0) m hm h4 fun r hr => by
    split
    · exact hs r hr
    · omega
  rw [List.map_cons, List.map_cons, List.sum_cons, List.sum_cons] at e
  have e0 : ∀ a : Int → Int → Int, gsum a (fun _ _ => 0) ([] : List Int) ((n : Int) + 1 - 1) = if n = 0 then 1 else 0 := fun a => by
    show (if (n : Int) + 1 - 1 = 0 then (1 : Int) else 0) = _
    by_cases q : n = 0
    · rw [if_pos q, if_pos (by omega)]
    · rw [if_neg q, if_neg (by omega)]
  have e1 : (if ((0, 1, []) : Rule).1 = h then gsum (tot ((0, 1, []) :: (1, 1, []) :: rs) D) (fun _ _ => 0) ((0, 1, []) : Rule).2.2 ((n : Int) + 1 - ((0, 1, []) : Rule).2.1) else 0) = if (0 : Int) = h then (if n = 0 then 1 else 0) else 0 := by
    rw [← e0 (tot ((0, 1, []) :: (1, 1, []) :: rs) D)]
  have e2 : (if ((1, 1, []) : Rule).1 = h then gsum (tot ((0, 1, []) :: (1, 1, []) :: rs) D) (fun _ _ => 0) ((1, 1, []) : Rule).2.2 ((n : Int) + 1 - ((1, 1, []) : Rule).2.1) else 0) = if (1 : Int) = h then (if n = 0 then 1 else 0) else 0 := by
    rw [← e0 (tot ((0, 1, []) :: (1, 1, []) :: rs) D)]
  rw [e1, e2] at e
  rw [e]
  rcases hh with rfl | rfl
  · rw [if_pos rfl, if_neg (show ¬ (1 : Int) = 0 by decide)]
    split <;> omega
  · rw [if_neg (show ¬ (0 : Int) = 1 by decide), if_pos rfl]
    split <;> omega
theorem tot_bm (hr : RulesOk rules) (hD : D * D = 9) : ∀ k, k = 0 ∨ k = 1 → BM (tot rules D k) := by
  obtain ⟨rs, rfl, h4, hx⟩ := hr.ex
  have z : ∀ k n, n ≤ 0 → tot ((0, 1, []) :: (1, 1, []) :: rs) D k n = 0 := fun k n h => wt_neg _ k h
  have T := fun (n : Nat) (hn : n < 5) => tot_rs (D := D) rs h4 hx hD n hn
  revert z T
  generalize tot ((0, 1, []) :: (1, 1, []) :: rs) D = a
  intro z T
  have low2 : ∀ k₁ k₂ {n : Int} {m : Int}, n ≤ 1 → 0 ≤ m → 0 ≤ c2 (a k₁) (a k₂) n ∧ c2 (a k₁) (a k₂) n ≤ m := fun k₁ k₂ n m h hm => by rw [c2_low _ _ h]; (first | lia | omega)
  have low3 : ∀ k₁ k₂ k₃ {n : Int} {m : Int}, n ≤ 2 → 0 ≤ m → 0 ≤ c3 (a k₁) (a k₂) (a k₃) n ∧ c3 (a k₁) (a k₂) (a k₃) n ≤ m := fun k₁ k₂ k₃ n m h hm => by rw [c3_low _ _ _ h]; (first | lia | omega)
  have lowa : ∀ k {n : Int} {m : Int}, n ≤ 0 → 0 ≤ m → 0 ≤ a k n ∧ a k n ≤ m := fun k n m h hm => by rw [z k n h]; (first | lia | omega)
  have up : ∀ {x p q : Int}, 0 ≤ x ∧ x ≤ p → p ≤ q → 0 ≤ x ∧ x ≤ q := fun h1 h2 => ⟨h1.1, Int.le_trans h1.2 h2⟩
  have t1 : ∀ k, k = 0 ∨ k = 1 → 0 ≤ a k 1 ∧ a k 1 ≤ 1 := fun k hk =>
    T 0 (by decide) 0 (by decide) (fun r hr => share (hx r hr) (fun k _ => lowa k (by decide) (by decide)) (fun k _ => lowa k (by decide) (by decide)) (fun _ _ _ _ => low2 _ _ (by decide) (by decide)) (fun _ _ _ _ => low2 _ _ (by decide) (by decide)) (fun _ _ _ _ _ _ => low3 _ _ _ (by decide) (by decide)) (fun _ _ _ _ _ _ => low3 _ _ _ (by decide) (by decide))) k hk
  have t2 : ∀ k, k = 0 ∨ k = 1 → 0 ≤ a k 2 ∧ a k 2 ≤ 4 := fun k hk =>
    T 1 (by decide) 1 (by decide) (fun r hr => share (hx r hr) (fun k hk => t1 k hk) (fun k _ => lowa k (by decide) (by decide)) (fun _ _ p q => c2_b2 (t1 _ p) (t1 _ q)) (fun _ _ _ _ => low2 _ _ (by decide) (by decide)) (fun _ _ _ _ _ _ => low3 _ _ _ (by decide) (by decide)) (fun _ _ _ _ _ _ => low3 _ _ _ (by decide) (by decide))) k hk
  have y1 : ∀ k₁ k₂, 0 ≤ c2 (a k₁) (a k₂) 1 ∧ c2 (a k₁) (a k₂) 1 ≤ 1 := fun _ _ => low2 _ _ (by decide) (by decide)
  have y2 : ∀ k₁ k₂, (k₁ = 0 ∨ k₁ = 1) → (k₂ = 0 ∨ k₂ = 1) → 0 ≤ c2 (a k₁) (a k₂) 2 ∧ c2 (a k₁) (a k₂) 2 ≤ 4 := fun _ _ p q => up (c2_b2 (t1 _ p) (t1 _ q)) (by decide)
  have t3 : ∀ k, k = 0 ∨ k = 1 → 0 ≤ a k 3 ∧ a k 3 ≤ 32 := fun k hk =>
    T 2 (by decide) 8 (by decide) (fun r hr => share (hx r hr) (fun k hk => up (t2 k hk) (by decide)) (fun k hk => up (t1 k hk) (by decide)) (fun _ _ p q => c2_b3 (t1 _ p) (t1 _ q) (t2 _ p) (t2 _ q)) (fun _ _ p q => up (c2_b2 (t1 _ p) (t1 _ q)) (by decide)) (fun _ _ _ p q s => by rw [show (((2 : Nat) : Int) + 1) = 3 from rfl, c3_3]; exact c2_b3 (t1 _ p) (y1 _ _) (t2 _ p) (y2 _ _ q s)) (fun _ _ _ _ _ _ => low3 _ _ _ (by decide) (by decide))) k hk
  have y3 : ∀ k₁ k₂, (k₁ = 0 ∨ k₁ = 1) → (k₂ = 0 ∨ k₂ = 1) → 0 ≤ c2 (a k₁) (a k₂) 3 ∧ c2 (a k₁) (a k₂) 3 ≤ 32 := fun _ _ p q => up (c2_b3 (t1 _ p) (t1 _ q) (t2 _ p) (t2 _ q)) (by decide)
  have t4 : ∀ k, k = 0 ∨ k = 1 → 0 ≤ a k 4 ∧ a k 4 ≤ 320 := fun k hk =>
    T 3 (by decide) 80 (by decide) (fun r hr => share (hx r hr) (fun k hk => up (t3 k hk) (by decide)) (fun k hk => up (t2 k hk) (by decide)) (fun _ _ p q => c2_b4 (t1 _ p) (t1 _ q) (t2 _ p) (t2 _ q) (t3 _ p) (t3 _ q)) (fun _ _ p q => up (c2_b3 (t1 _ p) (t1 _ q) (t2 _ p) (t2 _ q)) (by decide))
      (fun _ _ _ p q s => by rw [show (((3 : Nat) : Int) + 1) = 4 from rfl, c3_4]; exact c2_b4 (t1 _ p) (y1 _ _) (t2 _ p) (y2 _ _ q s) (t3 _ p) (y3 _ _ q s))
      (fun _ _ _ p q s => by rw [show (((3 : Nat) : Int) + 1 - 1) = 3 from rfl, c3_3]; exact up (c2_b3 (t1 _ p) (y1 _ _) (t2 _ p) (y2 _ _ q s)) (by decide))) k hk
  have y4 : ∀ k₁ k₂, (k₁ = 0 ∨ k₁ = 1) → (k₂ = 0 ∨ k₂ = 1) → 0 ≤ c2 (a k₁) (a k₂) 4 ∧ c2 (a k₁) (a k₂) 4 ≤ 320 := fun _ _ p q => up (c2_b4 (t1 _ p) (t1 _ q) (t2 _ p) (t2 _ q) (t3 _ p) (t3 _ q)) (by decide)
  have t5 : ∀ k, k = 0 ∨ k = 1 → 0 ≤ a k 5 ∧ a k 5 ≤ 3584 := fun k hk =>
    T 4 (by decide) 896 (by decide) (fun r hr => share (hx r hr) (fun k hk => up (t4 k hk) (by decide)) (fun k hk => up (t3 k hk) (by decide)) (fun _ _ p q => c2_b5 (t1 _ p) (t1 _ q) (t2 _ p) (t2 _ q) (t3 _ p) (t3 _ q) (t4 _ p) (t4 _ q)) (fun _ _ p q => up (c2_b4 (t1 _ p) (t1 _ q) (t2 _ p) (t2 _ q) (t3 _ p) (t3 _ q)) (by decide))
      (fun _ _ _ p q s => by rw [show (((4 : Nat) : Int) + 1) = 5 from rfl, c3_5]; exact c2_b5 (t1 _ p) (y1 _ _) (t2 _ p) (y2 _ _ q s) (t3 _ p) (y3 _ _ q s) (t4 _ p) (y4 _ _ q s))
      (fun _ _ _ p q s => by rw [show (((4 : Nat) : Int) + 1 - 1) = 4 from rfl, c3_4]; exact up (c2_b4 (t1 _ p) (y1 _ _) (t2 _ p) (y2 _ _ q s) (t3 _ p) (y3 _ _ q s)) (by decide))) k hk
  exact fun k hk => ⟨t1 k hk, t2 k hk, t3 k hk, t4 k hk, t5 k hk⟩
theorem wt_bm (hr : RulesOk rules) (hD : D * D = 9) {f : Int → Int} (h0 : ∀ n, 0 ≤ f n) (h1 : ∀ n, f n ≤ 1) (k : Int) (hk : k = 0 ∨ k = 1) : BM (wt rules D f k) := by
  have b := tot_bm hr hD k hk
  have g : ∀ n, 0 ≤ wt rules D f k n ∧ wt rules D f k n ≤ tot rules D k n := fun n => ⟨mass_nn (tab_ok hr.all.nn hD 5 (by decide) k n) h0, mass_le (tab_ok hr.all.nn hD 5 (by decide) k n) h1⟩
  have g1 := g 1
  have g2 := g 2
  have g3 := g 3
  have g4 := g 4
  have g5 := g 5
  obtain ⟨b1, b2, b3, b4, b5⟩ := b
  refine ⟨?_, ?_, ?_, ?_, ?_⟩ <;> (first | lia -abstractProof | omega)
theorem iLt_01 (d n : Int) : 0 ≤ iLt d n ∧ iLt d n ≤ 1 := by unfold iLt; split <;> decide
theorem iEq_01 (d n : Int) : 0 ≤ iEq d n ∧ iEq d n ≤ 1 := by unfold iEq; split <;> decide
theorem lt_bm (hr : RulesOk rules) (hD : D * D = 9) (d k : Int) (hk : k = 0 ∨ k = 1) : BM (wt rules D (iLt d) k) := wt_bm hr hD (fun n => (iLt_01 d n).1) (fun n => (iLt_01 d n).2) k hk
theorem eq_bm (hr : RulesOk rules) (hD : D * D = 9) (d k : Int) (hk : k = 0 ∨ k = 1) : BM (wt rules D (iEq d) k) := wt_bm hr hD (fun n => (iEq_01 d n).1) (fun n => (iEq_01 d n).2) k hk
theorem wt_next (d k n : Int) : wt rules D (iLt d) k n + wt rules D (iEq d) k n = wt rules D (iLt (d + 1)) k n := by
  unfold wt
  rw [← mass_add]
  congr 1
  funext x
  unfold iLt iEq
  by_cases h : x < d
  · rw [if_pos h, if_neg (by (first | lia -abstractProof | omega)), if_pos (by (first | lia -abstractProof | omega))]; rfl
  · by_cases q : x = d
    · rw [if_neg h, if_pos q, if_pos (by (first | lia -abstractProof | omega))]; rfl
    · rw [if_neg h, if_neg q, if_neg (by (first | lia -abstractProof | omega))]; rfl
theorem tbAt_k (n : Nat) (k s : Int) : tbAt rules D n k s = tbAt rules D n (if k = 0 then 0 else 1) s := by
  unfold tbAt tabOf
  by_cases h : k = 0
  · rw [if_pos h, if_pos h, if_pos rfl]
  · rw [if_neg h, if_neg h, if_neg (by decide)]
theorem entAt_hi (k : Int) : ∀ n i, n < i → entAt rules D n k i = noneE
  | 0, i, h => entAt_zero rules D k i
  | n + 1, i, h => by rw [entAt_succ, if_neg (by (first | lia -abstractProof | omega)), if_neg (by (first | lia -abstractProof | omega))]
theorem tot_le (hr : RulesOk rules) (hD : D * D = 9) (n : Nat) (hn : n ≤ 5) (k s : Int) : mass (fun _ => 1) (tbAt rules D n k s) ≤ 3584 := by
  by_cases q : s ≤ n
  · rw [tbAt_k, wt_tb _ n hn _ s q]
    show tot rules D _ s ≤ 3584
    obtain ⟨b1, b2, b3, b4, b5⟩ := tot_bm hr hD (if k = 0 then 0 else 1) (by split <;> simp)
    by_cases q0 : s ≤ 0
    · rw [show tot rules D (if k = 0 then 0 else 1) s = 0 from wt_neg _ _ q0]; decide
    · have : s = 1 ∨ s = 2 ∨ s = 3 ∨ s = 4 ∨ s = 5 := by (first | lia | omega)
      rcases this with rfl | rfl | rfl | rfl | rfl <;> (first | lia | omega)
  · rw [tbAt_eq, entAt_hi k n s.toNat (by (first | lia | omega))]; decide
theorem build_ok (hr : RulesOk rules) (hD : D * D = 9) : BuildOk rules D 5 where
  tab := fun n hn k s => by
    have t := tab_ok hr.all.nn hD n (by (first | lia -abstractProof | omega)) k s
    refine ⟨t.len, fun p hp => ?_⟩
    have h1 := mass_ge t hp
    have h2 := tot_le hr hD n (by (first | lia -abstractProof | omega)) k s
    have h3 := t.nn p hp
    exact intBits_le (show p.2.natAbs < 2 ^ 64 by (first | lia -abstractProof | omega))
  ent := fun n hn head i => by
    have h := (ent_fold (tbAt rules D n) (tab_ok hr.all.nn hD n (by (first | lia -abstractProof | omega))) D hD ((n : Int) + 1) head (by (first | lia -abstractProof | omega)) (by (first | lia -abstractProof | omega)) (rules.take i) (noneE_ok _) fun r hr' => hr.all.nn.l r (List.mem_of_mem_take hr')).1
    refine ⟨?_, h.tab.len⟩
    have e := mass_congr h.tab (f := iLt 3) (g := fun _ => 1) fun k hk => by have := hk.nn; unfold iLt; rw [if_pos (by (first | lia -abstractProof | omega))]
    exact (h.d.trans (congrArg (((n : Int) + 1) * ·) e)).trans (congrArg (((n : Int) + 1) * ·) h.b.symm)
  rule := fun r hm => by
    have R := hr.all.rk r hm
    have hk := R.kid
    rcases R.kind with ⟨e1, e2⟩ | ⟨k, e2, e1⟩ | ⟨k₁, k₂, e2, e1⟩ | ⟨k₁, k₂, k₃, e2, e1⟩ <;> rw [e2] at hk ⊢ <;> refine ⟨by simp, hk, by (first | lia -abstractProof | omega), fun _ => ?_⟩
    · rename_i q; exact absurd rfl q
    · show 1 < r.2.1 + 1; (first | lia -abstractProof | omega)
    · show 1 < r.2.1 + 2; (first | lia -abstractProof | omega)
    · show 1 < r.2.1 + 3; (first | lia -abstractProof | omega)
  few := by
    obtain ⟨rs, rfl, h4, hx⟩ := hr.ex
    simp only [List.length_cons]; (first | lia -abstractProof | omega)
  five := Nat.le_refl 5
theorem rule_ok (hr : RulesOk rules) : ∀ r ∈ rules, RuleOk r := fun r hm => by
  have R := hr.all.rk r hm
  have hk := R.kid
  refine ⟨R.head, ?_, ?_, ?_, hk⟩ <;> rcases R.kind with ⟨e1, e2⟩ | ⟨k, e2, e1⟩ | ⟨k₁, k₂, e2, e1⟩ | ⟨k₁, k₂, k₃, e2, e1⟩
  all_goals first | (first | lia | omega) | (rw [e2]; simp)
end
end Mine
end
section
open PySem PySem.W PySem.Calls PyProof.Rows
set_option Elab.async false
set_option linter.unusedVariables false
set_option exponentiation.threshold 100
namespace Mine
/-! numbers in base B -/
noncomputable def hv (B x1 x2 x3 x4 x5 : Int) : Int := x5 + B * (x4 + B * (x3 + B * (x2 + B * x1)))
noncomputable def val (x : Int → Int) (B : Int) : Int := hv B (x 1) (x 2) (x 3) (x 4) (x 5)
noncomputable def tl (x y : Int → Int) (B : Int) : Int := hv B (x 1 * y 5 + x 2 * y 4 + x 3 * y 3 + x 4 * y 2 + x 5 * y 1) (x 2 * y 5 + x 3 * y 4 + x 4 * y 3 + x 5 * y 2) (x 3 * y 5 + x 4 * y 4 + x 5 * y 3) (x 4 * y 5 + x 5 * y 4) (x 5 * y 5)
theorem val_mul (x y : Int → Int) (B : Int) : val x B * val y B = B ^ 5 * val (c2 x y) B + tl x y B := by
  unfold val tl hv
  rw [c2_1, c2_2, c2_3, c2_4, c2_5]
  generalize x 1 = x1
  generalize x 2 = x2
  generalize x 3 = x3
  generalize x 4 = x4
  generalize x 5 = x5
  generalize y 1 = y1
  generalize y 2 = y2
  generalize y 3 = y3
  generalize y 4 = y4
  generalize y 5 = y5
  grind
theorem val_add (x y : Int → Int) (B : Int) : val (fun n => x n + y n) B = val x B + val y B := by
  unfold val hv; grind
theorem val_c3 (x y z : Int → Int) (B : Int) : val (c3 x y z) B = val (c2 x (c2 y z)) B := by
  unfold val; rw [c3_1, c3_2, c3_3, c3_4, c3_5]
theorem val_s0 (g : Int → Int) (B : Int) : val (fun n => g (n - 0)) B = val g B := by
  simp only [Int.sub_zero]
theorem val_s1 (g : Int → Int) (B : Int) (h0 : g 0 = 0) : B * val (fun n => g (n - 1)) B = val g B - g 5 := by
  show B * hv B (g 0) (g 1) (g 2) (g 3) (g 4) = _
  rw [h0]; unfold val hv; grind
theorem val_s2 (g : Int → Int) (B : Int) (h0 : g 0 = 0) (h1 : g (-1) = 0) : B ^ 2 * val (fun n => g (n - 2)) B = val g B - g 5 - B * g 4 := by
  show B ^ 2 * hv B (g (-1)) (g 0) (g 1) (g 2) (g 3) = _
  rw [h0, h1]; unfold val hv; grind
theorem horn {B w Q c x : Int} (hB : 2 ^ 37 ≤ B) (h : 0 ≤ w ∧ w ≤ c * Q - 1) (hx : 0 ≤ x ∧ x ≤ 2 ^ 36) : 0 ≤ x + B * w ∧ x + B * w ≤ c * (B * Q) - 1 := by
  have h1 : 0 ≤ B * w := Int.mul_nonneg (by (first | lia -abstractProof | omega)) h.1
  have h2 : B * w ≤ B * (c * Q - 1) := Int.mul_le_mul_of_nonneg_left h.2 (by (first | lia -abstractProof | omega))
  have e : B * (c * Q - 1) = c * (B * Q) - B := by grind
  (first | lia -abstractProof | omega)
theorem hv_bd {B c x1 x2 x3 x4 x5 : Int} (hB : 2 ^ 37 ≤ B) (h1 : 0 ≤ x1 ∧ x1 ≤ c - 1) (h2 : 0 ≤ x2 ∧ x2 ≤ 2 ^ 36) (h3 : 0 ≤ x3 ∧ x3 ≤ 2 ^ 36) (h4 : 0 ≤ x4 ∧ x4 ≤ 2 ^ 36) (h5 : 0 ≤ x5 ∧ x5 ≤ 2 ^ 36) : 0 ≤ hv B x1 x2 x3 x4 x5 ∧ hv B x1 x2 x3 x4 x5 ≤ c * B ^ 4 := by
  have a1 : 0 ≤ x1 ∧ x1 ≤ c * 1 - 1 := by (first | lia | omega)
  have a2 := horn hB a1 h2
  have a3 := horn hB a2 h3
  have a4 := horn hB a3 h4
  have a5 := horn hB a4 h5
  have e : c * (B * (B * (B * (B * 1)))) = c * B ^ 4 := by grind
  unfold hv
  (first | lia | omega)
theorem val_bd {x : Int → Int} {B : Int} (hB : 2 ^ 37 ≤ B) (h : BM x) : 0 ≤ val x B ∧ val x B ≤ 2 * B ^ 4 := by
  obtain ⟨h1, h2, h3, h4, h5⟩ := h
  exact hv_bd hB (by (first | lia -abstractProof | omega)) (by (first | lia -abstractProof | omega)) (by (first | lia -abstractProof | omega)) (by (first | lia -abstractProof | omega)) (by (first | lia -abstractProof | omega))
theorem tl_bd {x y : Int → Int} {B : Int} (hB : 2 ^ 37 ≤ B) (h : BM x) (k : BM y) : 0 ≤ tl x y B ∧ tl x y B ≤ 10753 * B ^ 4 := by
  obtain ⟨h1, h2, h3, h4, h5⟩ := h
  obtain ⟨k1, k2, k3, k4, k5⟩ := k
  have a15 := mb h1 k5
  have a24 := mb h2 k4
  have a33 := mb h3 k3
  have a42 := mb h4 k2
  have a51 := mb h5 k1
  have a25 := mb h2 k5
  have a34 := mb h3 k4
  have a43 := mb h4 k3
  have a52 := mb h5 k2
  have a35 := mb h3 k5
  have a44 := mb h4 k4
  have a53 := mb h5 k3
  have a45 := mb h4 k5
  have a54 := mb h5 k4
  have a55 := mb h5 k5
  exact hv_bd hB (by (first | lia -abstractProof | omega)) (by (first | lia -abstractProof | omega)) (by (first | lia -abstractProof | omega)) (by (first | lia -abstractProof | omega)) (by (first | lia -abstractProof | omega))
/-- what three leave over -/
noncomputable def tl3 (x y z : Int → Int) (B : Int) : Int := B ^ 5 * tl x (c2 y z) B + val x B * tl y z B
theorem val_mul3 (x y z : Int → Int) (B : Int) : val x B * (val y B * val z B) = B ^ 10 * val (c3 x y z) B + tl3 x y z B := by
  rw [val_c3]
  unfold tl3
  have h1 := val_mul y z B
  have h2 := val_mul x (c2 y z) B
  rw [h1]
  generalize val x B = X at *
  generalize val (c2 x (c2 y z)) B = C at *
  generalize val (c2 y z) B = D at *
  generalize tl y z B = t at *
  generalize tl x (c2 y z) B = t' at *
  have e : X * (B ^ 5 * D + t) = B ^ 5 * (X * D) + X * t := by grind
  rw [e, h2]; grind
theorem sc {B t c : Int} (m k : Nat) (hB : 2 ^ 37 ≤ B) (h : 0 ≤ t ∧ t ≤ c * B ^ k) : 0 ≤ B ^ m * t ∧ B ^ m * t ≤ c * B ^ (m + k) := by
  have hp : 0 ≤ B ^ m := Int.le_of_lt (Int.pow_pos (by (first | lia -abstractProof | omega)))
  refine ⟨Int.mul_nonneg hp h.1, ?_⟩
  have := Int.mul_le_mul_of_nonneg_left h.2 hp
  have e : B ^ m * (c * B ^ k) = c * B ^ (m + k) := by rw [Int.pow_add, Int.mul_left_comm]
  (first | lia -abstractProof | omega)
theorem up1 {B c : Int} (k : Nat) (hB : 2 ^ 37 ≤ B) (hc : 0 ≤ c) (hc2 : c ≤ 2 ^ 37) : c * B ^ k ≤ B ^ (k + 1) := by
  have hp : 0 ≤ B ^ k := Int.le_of_lt (Int.pow_pos (by (first | lia | omega)))
  have := Int.mul_le_mul_of_nonneg_right (show c ≤ B by (first | lia | omega)) hp
  have e : B ^ (k + 1) = B * B ^ k := by rw [Int.pow_succ, Int.mul_comm]
  (first | lia | omega)
theorem tl3_bd {x y z : Int → Int} {B : Int} (hB : 2 ^ 37 ≤ B) (hx : BM x) (hy : BM y) (hz : BM z) : 0 ≤ tl3 x y z B ∧ tl3 x y z B ≤ 10754 * B ^ 9 := by
  have h1 := sc 5 4 hB (tl_bd hB hx (hy.c2 hz))
  have h2 := mb (val_bd hB hx) (tl_bd hB hy hz)
  have e : 2 * B ^ 4 * (10753 * B ^ 4) = 21506 * B ^ 8 := by grind
  have h3 := up1 (c := 21506) 8 hB (by decide) (by decide)
  have e2 : B ^ (5 + 4) = B ^ 9 := rfl
  have e3 : B ^ (8 + 1) = B ^ 9 := rfl
  rw [e2] at h1
  rw [e3] at h3
  unfold tl3
  (first | lia -abstractProof | omega)
/-! the parts -/
theorem part0 (B : Int) (N : Int → Int) (l : Int) : partOf B N l [] = B ^ (17 - l).toNat := rfl
section
variable {B : Int} (hB : 2 ^ 37 ≤ B) (N : Int → Int)
include hB
theorem part_step (m k : Nat) (hm : m = k + 5) (x y : Int) : (B ^ m * x * y).fdiv (B ^ 5) = B ^ k * (x * y) := by
  have e : B ^ m * x * y = B ^ k * (x * y) * B ^ 5 := by rw [hm, Int.pow_add]; grind
  rw [e, Int.mul_fdiv_cancel _ (by have : 0 < B ^ 5 := Int.pow_pos (by (first | lia | omega))
                                   (first | lia | omega))]
theorem part1 (l : Int) (m : Nat) (h : (17 - l).toNat = m + 5) (k : Int) : partOf B N l [k] = B ^ m * N k := by
  show (B ^ (17 - l).toNat * N k).fdiv (B ^ 5) = _
  have := part_step hB (17 - l).toNat m h 1 (N k)
  rwa [Int.mul_one, Int.one_mul] at this
theorem part2 (l : Int) (m : Nat) (h : (17 - l).toNat = m + 10) (k₁ k₂ : Int) : partOf B N l [k₁, k₂] = B ^ m * (N k₁ * N k₂) := by
  show (partOf B N l [k₁] * N k₂).fdiv (B ^ 5) = _
  rw [part1 hB N l (m + 5) (by omega)]
  exact part_step hB (m + 5) m rfl _ _
theorem part3 (l : Int) (m : Nat) (h : (17 - l).toNat = m + 15) (k₁ k₂ k₃ : Int) : partOf B N l [k₁, k₂, k₃] = B ^ m * (N k₁ * N k₂ * N k₃) := by
  show (partOf B N l [k₁, k₂] * N k₃).fdiv (B ^ 5) = _
  rw [part2 hB N l (m + 5) (by omega)]
  exact part_step hB (m + 5) m rfl _ _
end
/-! what one rule adds -/
section
variable (B : Int) (N : Int → Int)
noncomputable def dV (r : Rule) (p : Nat) (h : Int) : Int := if p < r.2.2.length then 0 else if h = r.1 then partOf B N r.2.1 (without r.2.2 p) else 0
noncomputable def dS (r : Rule) (p : Nat) (h j : Int) : Int := if p < r.2.2.length then (if h = r.1 ∧ j = r.2.2.getD p 0 then partOf B N r.2.1 (without r.2.2 p) else 0) else 0
noncomputable def rV (r : Rule) (h : Int) : Int := ((List.range (r.2.2.length + 1)).map fun p => dV B N r p h).sum
noncomputable def rS (r : Rule) (h j : Int) : Int := ((List.range (r.2.2.length + 1)).map fun p => dS B N r p h j).sum
theorem doPlace_eq (r : Rule) (st : Acc) (p : Nat) : doPlace B N r st p = (fun h => st.1 h + dV B N r p h, fun h j => st.2 h j + dS B N r p h j) := by
  unfold doPlace dV dS
  by_cases q : p < r.2.2.length
  · rw [if_pos q]
    refine Prod.ext ?_ ?_
    · funext h; dsimp only; rw [if_pos q]; simp
    · funext h j; dsimp only; rw [if_pos q]; split <;> simp
  · rw [if_neg q]
    refine Prod.ext ?_ ?_
    · funext h; dsimp only; rw [if_neg q]; split <;> simp
    · funext h j; dsimp only; rw [if_neg q]; simp
theorem doPlaces_eq (r : Rule) : ∀ (L : List Nat) (st : Acc), L.foldl (doPlace B N r) st = (fun h => st.1 h + (L.map fun p => dV B N r p h).sum, fun h j => st.2 h j + (L.map fun p => dS B N r p h j).sum)
  | [], st => by simp
  | p :: L, st => by
    rw [List.foldl_cons, doPlaces_eq r L, doPlace_eq]
    refine Prod.ext ?_ ?_
    · funext h; simp only [List.map_cons, List.sum_cons]; (first | lia -abstractProof | omega)
    · funext h j; simp only [List.map_cons, List.sum_cons]; (first | lia -abstractProof | omega)
theorem doFold_eq : ∀ (rules : List Rule) (st : Acc), rules.foldl (doRule B N) st = (fun h => st.1 h + (rules.map fun r => rV B N r h).sum, fun h j => st.2 h j + (rules.map fun r => rS B N r h j).sum)
  | [], st => by simp
  | r :: rules, st => by
    have e : doRule B N st r = (fun h => st.1 h + rV B N r h, fun h j => st.2 h j + rS B N r h j) := doPlaces_eq B N r _ st
    rw [List.foldl_cons, doFold_eq rules, e]
    refine Prod.ext ?_ ?_
    · funext h; simp only [List.map_cons, List.sum_cons]; (first | lia -abstractProof | omega)
    · funext h j; simp only [List.map_cons, List.sum_cons]; (first | lia -abstractProof | omega)
theorem doRules_eq (rules : List Rule) : doRules B N rules = (fun h => (rules.map fun r => rV B N r h).sum, fun h j => (rules.map fun r => rS B N r h j).sum) := by
  unfold doRules
  rw [doFold_eq]
  simp
noncomputable def sel (k j P : Int) : Int := if j = k then P else 0
theorem sel_pick (k P : Int) (hk : k = 0 ∨ k = 1) (U : Int → Int) : sel k 0 P * U 0 + sel k 1 P * U 1 = P * U k := by
  rcases hk with rfl | rfl <;> simp [sel]
theorem sel_bd (k j : Int) {P m : Int} (h : 0 ≤ P ∧ P ≤ m) : 0 ≤ sel k j P ∧ sel k j P ≤ m := by
  unfold sel; split <;> omega
theorem sum_zero {α : Type} (l : List α) (f : α → Int) (h : ∀ x ∈ l, f x = 0) : (l.map f).sum = 0 := by
  induction l with
  | nil => rfl
  | cons x l ih => rw [List.map_cons, List.sum_cons, h x (.head _), ih fun y hy => h y (.tail _ hy)]; rfl
theorem rV_out (r : Rule) (h : Int) (hh : h ≠ r.1) : rV B N r h = 0 := sum_zero _ _ fun p _ => by
  unfold dV; rw [if_neg hh]; split <;> rfl
theorem rS_out (r : Rule) (h j : Int) (hh : h ≠ r.1) : rS B N r h j = 0 := sum_zero _ _ fun p _ => by
  unfold dS
  split
  · exact if_neg fun q => hh q.1
  · rfl
theorem rV_0 (h l : Int) : rV B N (h, l, []) h = partOf B N l [] := by
  show dV B N (h, l, []) 0 h + 0 = _
  simp [dV, without]
theorem rV_1 (h l k : Int) : rV B N (h, l, [k]) h = partOf B N l [k] := by
  show dV B N (h, l, [k]) 0 h + (dV B N (h, l, [k]) 1 h + 0) = _
  simp [dV, without]
theorem rV_2 (h l k₁ k₂ : Int) : rV B N (h, l, [k₁, k₂]) h = partOf B N l [k₁, k₂] := by
  show dV B N (h, l, [k₁, k₂]) 0 h + (dV B N (h, l, [k₁, k₂]) 1 h + (dV B N (h, l, [k₁, k₂]) 2 h + 0)) = _
  simp [dV, without]
theorem rV_3 (h l k₁ k₂ k₃ : Int) : rV B N (h, l, [k₁, k₂, k₃]) h = partOf B N l [k₁, k₂, k₃] := by
  show dV B N (h, l, [k₁, k₂, k₃]) 0 h + (dV B N (h, l, [k₁, k₂, k₃]) 1 h + (dV B N (h, l, [k₁, k₂, k₃]) 2 h + (dV B N (h, l, [k₁, k₂, k₃]) 3 h + 0))) = _
  simp [dV, without]
theorem rS_0 (h l j : Int) : rS B N (h, l, []) h j = 0 := by
  show dS B N (h, l, []) 0 h j + 0 = _
  simp [dS]
theorem rS_1 (h l k j : Int) : rS B N (h, l, [k]) h j = sel k j (partOf B N l []) := by
  show dS B N (h, l, [k]) 0 h j + (dS B N (h, l, [k]) 1 h j + 0) = _
  simp [dS, without, sel]
theorem rS_2 (h l k₁ k₂ j : Int) : rS B N (h, l, [k₁, k₂]) h j = sel k₁ j (partOf B N l [k₂]) + sel k₂ j (partOf B N l [k₁]) := by
  show dS B N (h, l, [k₁, k₂]) 0 h j + (dS B N (h, l, [k₁, k₂]) 1 h j + (dS B N (h, l, [k₁, k₂]) 2 h j + 0)) = _
  simp [dS, without, sel]
theorem rS_3 (h l k₁ k₂ k₃ j : Int) : rS B N (h, l, [k₁, k₂, k₃]) h j = sel k₁ j (partOf B N l [k₂, k₃]) + sel k₂ j (partOf B N l [k₁, k₃]) + sel k₃ j (partOf B N l [k₁, k₂]) := by
  show dS B N (h, l, [k₁, k₂, k₃]) 0 h j + (dS B N (h, l, [k₁, k₂, k₃]) 1 h j + (dS B N (h, l, [k₁, k₂, k₃]) 2 h j + (dS B N (h, l, [k₁, k₂, k₃]) 3 h j + 0))) = _
  simp [dS, without, sel, Int.add_assoc]
end
end Mine
end
section
open PySem PySem.W PySem.Calls PyProof.Rows
set_option Elab.async false
set_option linter.unusedVariables false
set_option linter.unusedSectionVars false
set_option exponentiation.threshold 100
namespace Mine
/-! one rule in Newton's step -/
theorem alg1_1 {B N U w g5 : Int} (hw : B * w = N + U - g5) : B ^ 5 * (B ^ 11 * N) + B ^ 16 * U - B ^ 17 * w = B ^ 16 * g5 := by
  have e : B ^ 17 * w = B ^ 16 * (B * w) := by grind
  rw [e, hw]; grind
theorem alg1_2 {B N U w g5 g4 : Int} (hw : B ^ 2 * w = N + U - g5 - B * g4) : B ^ 5 * (B ^ 10 * N) + B ^ 15 * U - B ^ 17 * w = B ^ 15 * g5 + B ^ 16 * g4 := by
  have e : B ^ 17 * w = B ^ 15 * (B ^ 2 * w) := by grind
  rw [e, hw]; grind
theorem alg2_0 {B N1 N2 U1 U2 G T : Int} (hm : N1 * N2 + (N1 * U2 + U1 * N2) = B ^ 5 * G + T) : B ^ 5 * (B ^ 7 * (N1 * N2)) + (B ^ 12 * N2 * U1 + B ^ 12 * N1 * U2) - B ^ 17 * G = B ^ 12 * T := by
  have e : B ^ 5 * (B ^ 7 * (N1 * N2)) + (B ^ 12 * N2 * U1 + B ^ 12 * N1 * U2) - B ^ 17 * G = B ^ 12 * (N1 * N2 + (N1 * U2 + U1 * N2)) - B ^ 17 * G := by grind
  rw [e, hm]; grind
theorem alg2_1 {B N1 N2 U1 U2 G T w g5 : Int} (hm : N1 * N2 + (N1 * U2 + U1 * N2) = B ^ 5 * G + T) (hw : B * w = G - g5) : B ^ 5 * (B ^ 6 * (N1 * N2)) + (B ^ 11 * N2 * U1 + B ^ 11 * N1 * U2) - B ^ 17 * w = B ^ 11 * T + B ^ 16 * g5 := by
  have e : B ^ 5 * (B ^ 6 * (N1 * N2)) + (B ^ 11 * N2 * U1 + B ^ 11 * N1 * U2) - B ^ 17 * w = B ^ 11 * (N1 * N2 + (N1 * U2 + U1 * N2)) - B ^ 16 * (B * w) := by grind
  rw [e, hm, hw]; grind
theorem alg3_0 {B N1 N2 N3 U1 U2 U3 G T : Int} (hm : N1 * (N2 * N3) + (N1 * (N2 * U3) + N1 * (U2 * N3) + U1 * (N2 * N3)) = B ^ 10 * G + T) :
    B ^ 5 * (B ^ 2 * (N1 * N2 * N3)) + (B ^ 7 * (N2 * N3) * U1 + B ^ 7 * (N1 * N3) * U2 + B ^ 7 * (N1 * N2) * U3) - B ^ 17 * G = B ^ 7 * T := by
  have e : B ^ 5 * (B ^ 2 * (N1 * N2 * N3)) + (B ^ 7 * (N2 * N3) * U1 + B ^ 7 * (N1 * N3) * U2 + B ^ 7 * (N1 * N2) * U3) - B ^ 17 * G = B ^ 7 * (N1 * (N2 * N3) + (N1 * (N2 * U3) + N1 * (U2 * N3) + U1 * (N2 * N3))) - B ^ 17 * G := by grind
  rw [e, hm]; grind
theorem alg3_1 {B N1 N2 N3 U1 U2 U3 G T w g5 : Int} (hm : N1 * (N2 * N3) + (N1 * (N2 * U3) + N1 * (U2 * N3) + U1 * (N2 * N3)) = B ^ 10 * G + T) (hw : B * w = G - g5) :
    B ^ 5 * (B ^ 1 * (N1 * N2 * N3)) + (B ^ 6 * (N2 * N3) * U1 + B ^ 6 * (N1 * N3) * U2 + B ^ 6 * (N1 * N2) * U3) - B ^ 17 * w = B ^ 6 * T + B ^ 16 * g5 := by
  have e : B ^ 5 * (B ^ 1 * (N1 * N2 * N3)) + (B ^ 6 * (N2 * N3) * U1 + B ^ 6 * (N1 * N3) * U2 + B ^ 6 * (N1 * N2) * U3) - B ^ 17 * w = B ^ 6 * (N1 * (N2 * N3) + (N1 * (N2 * U3) + N1 * (U2 * N3) + U1 * (N2 * N3))) - B ^ 16 * (B * w) := by grind
  rw [e, hm, hw]; grind
theorem sc0 {B t c : Int} (m : Nat) (hB : 2 ^ 37 ≤ B) (h : 0 ≤ t ∧ t ≤ c) : 0 ≤ B ^ m * t ∧ B ^ m * t ≤ c * B ^ m := by
  have hp : 0 ≤ B ^ m := Int.le_of_lt (Int.pow_pos (by (first | lia | omega)))
  refine ⟨Int.mul_nonneg hp h.1, ?_⟩
  rw [Int.mul_comm c]
  exact Int.mul_le_mul_of_nonneg_left h.2 hp
/-- what the counts are bounded by -/
structure Cts (a e : Int → Int → Int) : Prop where
  ba : ∀ k, k = 0 ∨ k = 1 → BM (a k)
  be : ∀ k, k = 0 ∨ k = 1 → BM (e k)
  za : ∀ k n, n ≤ 0 → a k n = 0
  ze : ∀ k n, n ≤ 0 → e k n = 0
noncomputable def gat (a e : Int → Int → Int) (r : Rule) (h n : Int) : Int := if r.1 = h then gsum a e r.2.2 (n - r.2.1) else 0
noncomputable def remR (B : Int) (N U : Int → Int) (a e : Int → Int → Int) (r : Rule) (h : Int) : Int := B ^ 5 * rV B N r h + (rS B N r h 0 * U 0 + rS B N r h 1 * U 1) - B ^ 17 * val (gat a e r h) B
structure RuleStep (B : Int) (N U : Int → Int) (a e : Int → Int → Int) (r : Rule) (h : Int) : Prop where
  rem : 0 ≤ remR B N U a e r h ∧ remR B N U a e r h ≤ 2 ^ 17 * B ^ 16
  v : 0 ≤ rV B N r h ∧ rV B N r h ≤ 8 * B ^ 16
  s : ∀ j, 0 ≤ rS B N r h j ∧ rS B N r h j ≤ 8 * B ^ 16
section
variable {a e : Int → Int → Int} {B : Int}
noncomputable abbrev Nv (a : Int → Int → Int) (B : Int) : Int → Int := fun k => val (a k) B
theorem G1 (a e : Int → Int → Int) (B k : Int) : val (gsum a e [k]) B = val (a k) B + val (e k) B := val_add _ _ _
theorem G2 (a e : Int → Int → Int) (B k₁ k₂ : Int) : val (gsum a e [k₁, k₂]) B = val (c2 (a k₁) (a k₂)) B + (val (c2 (a k₁) (e k₂)) B + val (c2 (e k₁) (a k₂)) B) := by
  rw [← val_add, ← val_add]; rfl
theorem G3 (a e : Int → Int → Int) (B k₁ k₂ k₃ : Int) : val (gsum a e [k₁, k₂, k₃]) B = val (c3 (a k₁) (a k₂) (a k₃)) B + (val (c3 (a k₁) (a k₂) (e k₃)) B + val (c3 (a k₁) (e k₂) (a k₃)) B + val (c3 (e k₁) (a k₂) (a k₃)) B) := by
  rw [← val_add, ← val_add, ← val_add]; rfl
theorem M2 (a e : Int → Int → Int) (B k₁ k₂ : Int) : Nv a B k₁ * Nv a B k₂ + (Nv a B k₁ * Nv e B k₂ + Nv e B k₁ * Nv a B k₂) = B ^ 5 * val (gsum a e [k₁, k₂]) B + (tl (a k₁) (a k₂) B + (tl (a k₁) (e k₂) B + tl (e k₁) (a k₂) B)) := by
  rw [G2]
  show val (a k₁) B * val (a k₂) B + (val (a k₁) B * val (e k₂) B + val (e k₁) B * val (a k₂) B) = _
  rw [val_mul, val_mul, val_mul]; grind
theorem M3 (a e : Int → Int → Int) (B k₁ k₂ k₃ : Int) : Nv a B k₁ * (Nv a B k₂ * Nv a B k₃) + (Nv a B k₁ * (Nv a B k₂ * Nv e B k₃) + Nv a B k₁ * (Nv e B k₂ * Nv a B k₃) + Nv e B k₁ * (Nv a B k₂ * Nv a B k₃)) =
    B ^ 10 * val (gsum a e [k₁, k₂, k₃]) B + (tl3 (a k₁) (a k₂) (a k₃) B + (tl3 (a k₁) (a k₂) (e k₃) B + tl3 (a k₁) (e k₂) (a k₃) B + tl3 (e k₁) (a k₂) (a k₃) B)) := by
  rw [G3]
  show val (a k₁) B * (val (a k₂) B * val (a k₃) B) + (val (a k₁) B * (val (a k₂) B * val (e k₃) B) + val (a k₁) B * (val (e k₂) B * val (a k₃) B) + val (e k₁) B * (val (a k₂) B * val (a k₃) B)) = _
  rw [val_mul3, val_mul3, val_mul3, val_mul3]; grind
theorem pick1 (U : Int → Int) (k P : Int) (hk : k = 0 ∨ k = 1) : sel k 0 P * U 0 + sel k 1 P * U 1 = P * U k := sel_pick k P hk U
theorem pick2 (U : Int → Int) (k₁ k₂ P Q : Int) (h1 : k₁ = 0 ∨ k₁ = 1) (h2 : k₂ = 0 ∨ k₂ = 1) : (sel k₁ 0 P + sel k₂ 0 Q) * U 0 + (sel k₁ 1 P + sel k₂ 1 Q) * U 1 = P * U k₁ + Q * U k₂ := by
  rw [← sel_pick k₁ P h1 U, ← sel_pick k₂ Q h2 U]; grind
theorem pick3 (U : Int → Int) (k₁ k₂ k₃ P Q R : Int) (h1 : k₁ = 0 ∨ k₁ = 1) (h2 : k₂ = 0 ∨ k₂ = 1) (h3 : k₃ = 0 ∨ k₃ = 1) : (sel k₁ 0 P + sel k₂ 0 Q + sel k₃ 0 R) * U 0 + (sel k₁ 1 P + sel k₂ 1 Q + sel k₃ 1 R) * U 1 = P * U k₁ + Q * U k₂ + R * U k₃ := by
  rw [← sel_pick k₁ P h1 U, ← sel_pick k₂ Q h2 U, ← sel_pick k₃ R h3 U]; grind
theorem gat_in (a e : Int → Int → Int) (h l : Int) (ks : List Int) : gat a e (h, l, ks) h = fun n => gsum a e ks (n - l) := by
  funext n; unfold gat; rw [if_pos rfl]
variable (hB : 2 ^ 37 ≤ B) (C : Cts a e)
include hB C
theorem nb (k : Int) (hk : k = 0 ∨ k = 1) : 0 ≤ Nv a B k ∧ Nv a B k ≤ 2 * B ^ 4 := val_bd hB (C.ba k hk)
theorem nb2 (k₁ k₂ : Int) (h1 : k₁ = 0 ∨ k₁ = 1) (h2 : k₂ = 0 ∨ k₂ = 1) : 0 ≤ Nv a B k₁ * Nv a B k₂ ∧ Nv a B k₁ * Nv a B k₂ ≤ 4 * B ^ 8 := by
  have := mb (nb hB C k₁ h1) (nb hB C k₂ h2)
  have e : 2 * B ^ 4 * (2 * B ^ 4) = 4 * B ^ 8 := by grind
  (first | lia | omega)
theorem nb3 (k₁ k₂ k₃ : Int) (h1 : k₁ = 0 ∨ k₁ = 1) (h2 : k₂ = 0 ∨ k₂ = 1) (h3 : k₃ = 0 ∨ k₃ = 1) : 0 ≤ Nv a B k₁ * Nv a B k₂ * Nv a B k₃ ∧ Nv a B k₁ * Nv a B k₂ * Nv a B k₃ ≤ 8 * B ^ 12 := by
  have := mb (nb2 hB C k₁ k₂ h1 h2) (nb hB C k₃ h3)
  have e : 4 * B ^ 8 * (2 * B ^ 4) = 8 * B ^ 12 := by grind
  (first | lia -abstractProof | omega)
theorem pw (m : Nat) : 0 ≤ B ^ m := Int.le_of_lt (Int.pow_pos (by (first | lia | omega)))
theorem rs_0 (h : Int) : RuleStep B (Nv a B) (Nv e B) a e (h, 1, []) h := by
  have p16 := pw hB C 16
  refine ⟨?_, ?_, fun j => ?_⟩
  · have e0 : remR B (Nv a B) (Nv e B) a e (h, 1, []) h = 0 := by
      unfold remR
      rw [rV_0, rS_0, rS_0, part0, gat_in]
      show B ^ 5 * B ^ 16 + (0 * _ + 0 * _) - B ^ 17 * hv B 1 0 0 0 0 = 0
      unfold hv; grind
    rw [e0]; (first | lia | omega)
  · rw [rV_0, part0]
    show 0 ≤ B ^ 16 ∧ B ^ 16 ≤ _
    (first | lia | omega)
  · rw [rS_0]; (first | lia | omega)
theorem rs_11 (h k : Int) (hk : k = 0 ∨ k = 1) : RuleStep B (Nv a B) (Nv e B) a e (h, 1, [k]) h := by
  have p16 := pw hB C 16
  have hv1 := sc 11 4 hB (nb hB C k hk)
  have u15 := up1 (B := B) (c := 2) 15 hB (by decide) (by decide)
  refine ⟨?_, ?_, fun j => ?_⟩
  · have e0 : remR B (Nv a B) (Nv e B) a e (h, 1, [k]) h = B ^ 16 * gsum a e [k] 5 := by
      unfold remR
      rw [rV_1, rS_1, rS_1, part1 hB _ 1 11 rfl, part0, gat_in, pick1 _ _ _ hk]
      exact alg1_1 ((val_s1 (gsum a e [k]) B (by show a k 0 + e k 0 = 0; rw [C.za _ _ (by decide), C.ze _ _ (by decide)]; rfl)).trans (congrArg (· - gsum a e [k] 5) (G1 a e B k)))
    rw [e0]
    have g : 0 ≤ gsum a e [k] 5 ∧ gsum a e [k] 5 ≤ 7168 := by
      show 0 ≤ a k 5 + e k 5 ∧ a k 5 + e k 5 ≤ 7168
      have := (C.ba k hk).b5
      have := (C.be k hk).b5
      (first | lia -abstractProof | omega)
    have q := sc0 16 hB g
    (first | lia -abstractProof | omega)
  · rw [rV_1, part1 hB _ 1 11 rfl]
    rw [show 11 + 4 = 15 from rfl] at hv1
    rw [show 15 + 1 = 16 from rfl] at u15
    (first | lia -abstractProof | omega)
  · rw [rS_1, part0]
    have := sel_bd k j (P := B ^ ((17 - 1 : Int)).toNat) (m := 8 * B ^ 16) (show 0 ≤ B ^ 16 ∧ B ^ 16 ≤ 8 * B ^ 16 by (first | lia -abstractProof | omega))
    exact this
theorem rs_12 (h k : Int) (hk : k = 0 ∨ k = 1) : RuleStep B (Nv a B) (Nv e B) a e (h, 2, [k]) h := by
  have p16 := pw hB C 16
  have p15 := pw hB C 15
  have hv1 : 0 ≤ B ^ 10 * Nv a B k ∧ B ^ 10 * Nv a B k ≤ 2 * B ^ 14 := sc 10 4 hB (nb hB C k hk)
  have u14 : 2 * B ^ 14 ≤ B ^ 15 := up1 (B := B) (c := 2) 14 hB (by decide) (by decide)
  have u15 : 7168 * B ^ 15 ≤ B ^ 16 := up1 (B := B) (c := 7168) 15 hB (by decide) (by decide)
  refine ⟨?_, ?_, fun j => ?_⟩
  · have e0 : remR B (Nv a B) (Nv e B) a e (h, 2, [k]) h = B ^ 15 * gsum a e [k] 5 + B ^ 16 * gsum a e [k] 4 := by
      unfold remR
      rw [rV_1, rS_1, rS_1, part1 hB _ 2 10 rfl, part0, gat_in, pick1 _ _ _ hk]
      exact alg1_2 ((val_s2 (gsum a e [k]) B (by show a k 0 + e k 0 = 0; rw [C.za _ _ (by decide), C.ze _ _ (by decide)]; rfl) (by show a k (-1) + e k (-1) = 0; rw [C.za _ _ (by decide), C.ze _ _ (by decide)]; rfl)).trans (congrArg (· - gsum a e [k] 5 - B * gsum a e [k] 4) (G1 a e B k)))
    rw [e0]
    have g : 0 ≤ gsum a e [k] 5 ∧ gsum a e [k] 5 ≤ 7168 := by
      show 0 ≤ a k 5 + e k 5 ∧ a k 5 + e k 5 ≤ 7168
      have := (C.ba k hk).b5
      have := (C.be k hk).b5
      omega
    have g' : 0 ≤ gsum a e [k] 4 ∧ gsum a e [k] 4 ≤ 640 := by
      show 0 ≤ a k 4 + e k 4 ∧ a k 4 + e k 4 ≤ 640
      have := (C.ba k hk).b4
      have := (C.be k hk).b4
      omega
    have q := sc0 15 hB g
    have q' := sc0 16 hB g'
    omega
  · rw [rV_1, part1 hB _ 2 10 rfl]
    omega
  · rw [rS_1, part0]
    have := sel_bd k j (P := B ^ ((17 - 2 : Int)).toNat) (m := 8 * B ^ 16) (show 0 ≤ B ^ 15 ∧ B ^ 15 ≤ 8 * B ^ 16 by omega)
    exact this
theorem t2b (k₁ k₂ : Int) (h1 : k₁ = 0 ∨ k₁ = 1) (h2 : k₂ = 0 ∨ k₂ = 1) : 0 ≤ tl (a k₁) (a k₂) B + (tl (a k₁) (e k₂) B + tl (e k₁) (a k₂) B) ∧ tl (a k₁) (a k₂) B + (tl (a k₁) (e k₂) B + tl (e k₁) (a k₂) B) ≤ 32259 * B ^ 4 := by
  have q1 := tl_bd hB (C.ba _ h1) (C.ba _ h2)
  have q2 := tl_bd hB (C.ba _ h1) (C.be _ h2)
  have q3 := tl_bd hB (C.be _ h1) (C.ba _ h2)
  (first | lia -abstractProof | omega)
theorem g2b (k₁ k₂ : Int) (h1 : k₁ = 0 ∨ k₁ = 1) (h2 : k₂ = 0 ∨ k₂ = 1) : 0 ≤ gsum a e [k₁, k₂] 5 ∧ gsum a e [k₁, k₂] 5 ≤ 10752 := by
  show 0 ≤ c2 (a k₁) (a k₂) 5 + (c2 (a k₁) (e k₂) 5 + c2 (e k₁) (a k₂) 5) ∧ c2 (a k₁) (a k₂) 5 + (c2 (a k₁) (e k₂) 5 + c2 (e k₁) (a k₂) 5) ≤ 10752
  have q1 := ((C.ba _ h1).c2 (C.ba _ h2)).b5
  have q2 := ((C.ba _ h1).c2 (C.be _ h2)).b5
  have q3 := ((C.be _ h1).c2 (C.ba _ h2)).b5
  (first | lia | omega)
theorem rs_20 (h k₁ k₂ : Int) (h1 : k₁ = 0 ∨ k₁ = 1) (h2 : k₂ = 0 ∨ k₂ = 1) : RuleStep B (Nv a B) (Nv e B) a e (h, 0, [k₁, k₂]) h := by
  have p16 := pw hB C 16
  have hv1 : 0 ≤ B ^ 7 * (Nv a B k₁ * Nv a B k₂) ∧ B ^ 7 * (Nv a B k₁ * Nv a B k₂) ≤ 4 * B ^ 15 := sc 7 8 hB (nb2 hB C k₁ k₂ h1 h2)
  have u15 : 4 * B ^ 15 ≤ B ^ 16 := up1 (B := B) (c := 4) 15 hB (by decide) (by decide)
  refine ⟨?_, ?_, fun j => ?_⟩
  · have e0 : remR B (Nv a B) (Nv e B) a e (h, 0, [k₁, k₂]) h = B ^ 12 * (tl (a k₁) (a k₂) B + (tl (a k₁) (e k₂) B + tl (e k₁) (a k₂) B)) := by
      unfold remR
      rw [rV_2, rS_2, rS_2, part2 hB _ 0 7 rfl, part1 hB _ 0 12 rfl, part1 hB _ 0 12 rfl, gat_in, pick2 _ _ _ _ _ h1 h2, val_s0]
      exact alg2_0 (M2 a e B k₁ k₂)
    rw [e0]
    have q : 0 ≤ B ^ 12 * (tl (a k₁) (a k₂) B + (tl (a k₁) (e k₂) B + tl (e k₁) (a k₂) B)) ∧ B ^ 12 * (tl (a k₁) (a k₂) B + (tl (a k₁) (e k₂) B + tl (e k₁) (a k₂) B)) ≤ 32259 * B ^ 16 := sc 12 4 hB (t2b hB C k₁ k₂ h1 h2)
    omega
  · rw [rV_2, part2 hB _ 0 7 rfl]
    omega
  · rw [rS_2, part1 hB _ 0 12 rfl, part1 hB _ 0 12 rfl]
    have q1 : 0 ≤ B ^ 12 * Nv a B k₁ ∧ B ^ 12 * Nv a B k₁ ≤ 2 * B ^ 16 := sc 12 4 hB (nb hB C k₁ h1)
    have q2 : 0 ≤ B ^ 12 * Nv a B k₂ ∧ B ^ 12 * Nv a B k₂ ≤ 2 * B ^ 16 := sc 12 4 hB (nb hB C k₂ h2)
    have s1 := sel_bd k₁ j q2
    have s2 := sel_bd k₂ j q1
    omega
theorem rs_21 (h k₁ k₂ : Int) (h1 : k₁ = 0 ∨ k₁ = 1) (h2 : k₂ = 0 ∨ k₂ = 1) : RuleStep B (Nv a B) (Nv e B) a e (h, 1, [k₁, k₂]) h := by
  have p16 := pw hB C 16
  have p15 := pw hB C 15
  have hv1 : 0 ≤ B ^ 6 * (Nv a B k₁ * Nv a B k₂) ∧ B ^ 6 * (Nv a B k₁ * Nv a B k₂) ≤ 4 * B ^ 14 := sc 6 8 hB (nb2 hB C k₁ k₂ h1 h2)
  have u14 : 4 * B ^ 14 ≤ B ^ 15 := up1 (B := B) (c := 4) 14 hB (by decide) (by decide)
  have u15 : 32259 * B ^ 15 ≤ B ^ 16 := up1 (B := B) (c := 32259) 15 hB (by decide) (by decide)
  refine ⟨?_, ?_, fun j => ?_⟩
  · have e0 : remR B (Nv a B) (Nv e B) a e (h, 1, [k₁, k₂]) h = B ^ 11 * (tl (a k₁) (a k₂) B + (tl (a k₁) (e k₂) B + tl (e k₁) (a k₂) B)) + B ^ 16 * gsum a e [k₁, k₂] 5 := by
      unfold remR
      rw [rV_2, rS_2, rS_2, part2 hB _ 1 6 rfl, part1 hB _ 1 11 rfl, part1 hB _ 1 11 rfl, gat_in, pick2 _ _ _ _ _ h1 h2]
      exact alg2_1 (M2 a e B k₁ k₂) (val_s1 (gsum a e [k₁, k₂]) B (by show c2 _ _ 0 + (c2 _ _ 0 + c2 _ _ 0) = 0; rw [c2_low _ _ (by decide), c2_low _ _ (by decide), c2_low _ _ (by decide)]; rfl))
    rw [e0]
    have q : 0 ≤ B ^ 11 * (tl (a k₁) (a k₂) B + (tl (a k₁) (e k₂) B + tl (e k₁) (a k₂) B)) ∧ B ^ 11 * (tl (a k₁) (a k₂) B + (tl (a k₁) (e k₂) B + tl (e k₁) (a k₂) B)) ≤ 32259 * B ^ 15 := sc 11 4 hB (t2b hB C k₁ k₂ h1 h2)
    have q' := sc0 16 hB (g2b hB C k₁ k₂ h1 h2)
    omega
  · rw [rV_2, part2 hB _ 1 6 rfl]
    omega
  · rw [rS_2, part1 hB _ 1 11 rfl, part1 hB _ 1 11 rfl]
    have q1 : 0 ≤ B ^ 11 * Nv a B k₁ ∧ B ^ 11 * Nv a B k₁ ≤ 2 * B ^ 15 := sc 11 4 hB (nb hB C k₁ h1)
    have q2 : 0 ≤ B ^ 11 * Nv a B k₂ ∧ B ^ 11 * Nv a B k₂ ≤ 2 * B ^ 15 := sc 11 4 hB (nb hB C k₂ h2)
    have s1 := sel_bd k₁ j q2
    have s2 := sel_bd k₂ j q1
    omega
theorem t3b (k₁ k₂ k₃ : Int) (h1 : k₁ = 0 ∨ k₁ = 1) (h2 : k₂ = 0 ∨ k₂ = 1) (h3 : k₃ = 0 ∨ k₃ = 1) : 0 ≤ tl3 (a k₁) (a k₂) (a k₃) B + (tl3 (a k₁) (a k₂) (e k₃) B + tl3 (a k₁) (e k₂) (a k₃) B + tl3 (e k₁) (a k₂) (a k₃) B) ∧ tl3 (a k₁) (a k₂) (a k₃) B + (tl3 (a k₁) (a k₂) (e k₃) B + tl3 (a k₁) (e k₂) (a k₃) B + tl3 (e k₁) (a k₂) (a k₃) B) ≤ 43016 * B ^ 9 := by
  have q1 := tl3_bd hB (C.ba _ h1) (C.ba _ h2) (C.ba _ h3)
  have q2 := tl3_bd hB (C.ba _ h1) (C.ba _ h2) (C.be _ h3)
  have q3 := tl3_bd hB (C.ba _ h1) (C.be _ h2) (C.ba _ h3)
  have q4 := tl3_bd hB (C.be _ h1) (C.ba _ h2) (C.ba _ h3)
  omega
theorem g3b (k₁ k₂ k₃ : Int) (h1 : k₁ = 0 ∨ k₁ = 1) (h2 : k₂ = 0 ∨ k₂ = 1) (h3 : k₃ = 0 ∨ k₃ = 1) : 0 ≤ gsum a e [k₁, k₂, k₃] 5 ∧ gsum a e [k₁, k₂, k₃] 5 ≤ 14336 := by
  show 0 ≤ c3 (a k₁) (a k₂) (a k₃) 5 + (c3 (a k₁) (a k₂) (e k₃) 5 + c3 (a k₁) (e k₂) (a k₃) 5 + c3 (e k₁) (a k₂) (a k₃) 5) ∧ c3 (a k₁) (a k₂) (a k₃) 5 + (c3 (a k₁) (a k₂) (e k₃) 5 + c3 (a k₁) (e k₂) (a k₃) 5 + c3 (e k₁) (a k₂) (a k₃) 5) ≤ 14336
  rw [c3_5, c3_5, c3_5, c3_5]
  have q1 := ((C.ba _ h1).c2 ((C.ba _ h2).c2 (C.ba _ h3))).b5
  have q2 := ((C.ba _ h1).c2 ((C.ba _ h2).c2 (C.be _ h3))).b5
  have q3 := ((C.ba _ h1).c2 ((C.be _ h2).c2 (C.ba _ h3))).b5
  have q4 := ((C.be _ h1).c2 ((C.ba _ h2).c2 (C.ba _ h3))).b5
  (first | lia -abstractProof | omega)
theorem rs_30 (h k₁ k₂ k₃ : Int) (h1 : k₁ = 0 ∨ k₁ = 1) (h2 : k₂ = 0 ∨ k₂ = 1) (h3 : k₃ = 0 ∨ k₃ = 1) : RuleStep B (Nv a B) (Nv e B) a e (h, 0, [k₁, k₂, k₃]) h := by
  have p16 := pw hB C 16
  have p15 := pw hB C 15
  have hv1 : 0 ≤ B ^ 2 * (Nv a B k₁ * Nv a B k₂ * Nv a B k₃) ∧ B ^ 2 * (Nv a B k₁ * Nv a B k₂ * Nv a B k₃) ≤ 8 * B ^ 14 := sc 2 12 hB (nb3 hB C k₁ k₂ k₃ h1 h2 h3)
  have u14 : 8 * B ^ 14 ≤ B ^ 15 := up1 (B := B) (c := 8) 14 hB (by decide) (by decide)
  have u15 : 4 * B ^ 15 ≤ B ^ 16 := up1 (B := B) (c := 4) 15 hB (by decide) (by decide)
  refine ⟨?_, ?_, fun j => ?_⟩
  · have e0 : remR B (Nv a B) (Nv e B) a e (h, 0, [k₁, k₂, k₃]) h = B ^ 7 * (tl3 (a k₁) (a k₂) (a k₃) B + (tl3 (a k₁) (a k₂) (e k₃) B + tl3 (a k₁) (e k₂) (a k₃) B + tl3 (e k₁) (a k₂) (a k₃) B)) := by
      unfold remR
      rw [rV_3, rS_3, rS_3, part3 hB _ 0 2 rfl, part2 hB _ 0 7 rfl, part2 hB _ 0 7 rfl, part2 hB _ 0 7 rfl, gat_in, pick3 _ _ _ _ _ _ _ h1 h2 h3, val_s0]
      exact alg3_0 (M3 a e B k₁ k₂ k₃)
    rw [e0]
    have q : 0 ≤ B ^ 7 * (tl3 (a k₁) (a k₂) (a k₃) B + (tl3 (a k₁) (a k₂) (e k₃) B + tl3 (a k₁) (e k₂) (a k₃) B + tl3 (e k₁) (a k₂) (a k₃) B)) ∧ B ^ 7 * (tl3 (a k₁) (a k₂) (a k₃) B + (tl3 (a k₁) (a k₂) (e k₃) B + tl3 (a k₁) (e k₂) (a k₃) B + tl3 (e k₁) (a k₂) (a k₃) B)) ≤ 43016 * B ^ 16 := sc 7 9 hB (t3b hB C k₁ k₂ k₃ h1 h2 h3)
    omega
  · rw [rV_3, part3 hB _ 0 2 rfl]
    omega
  · rw [rS_3, part2 hB _ 0 7 rfl, part2 hB _ 0 7 rfl, part2 hB _ 0 7 rfl]
    have q1 : 0 ≤ B ^ 7 * (Nv a B k₁ * Nv a B k₂) ∧ B ^ 7 * (Nv a B k₁ * Nv a B k₂) ≤ 4 * B ^ 15 := sc 7 8 hB (nb2 hB C k₁ k₂ h1 h2)
    have q2 : 0 ≤ B ^ 7 * (Nv a B k₁ * Nv a B k₃) ∧ B ^ 7 * (Nv a B k₁ * Nv a B k₃) ≤ 4 * B ^ 15 := sc 7 8 hB (nb2 hB C k₁ k₃ h1 h3)
    have q3 : 0 ≤ B ^ 7 * (Nv a B k₂ * Nv a B k₃) ∧ B ^ 7 * (Nv a B k₂ * Nv a B k₃) ≤ 4 * B ^ 15 := sc 7 8 hB (nb2 hB C k₂ k₃ h2 h3)
    have s1 := sel_bd k₁ j q3
    have s2 := sel_bd k₂ j q2
    have s3 := sel_bd k₃ j q1
    omega
theorem rs_31 (h k₁ k₂ k₃ : Int) (h1 : k₁ = 0 ∨ k₁ = 1) (h2 : k₂ = 0 ∨ k₂ = 1) (h3 : k₃ = 0 ∨ k₃ = 1) : RuleStep B (Nv a B) (Nv e B) a e (h, 1, [k₁, k₂, k₃]) h := by
  have p16 := pw hB C 16
  have p15 := pw hB C 15
  have p14 := pw hB C 14
  have hv1 : 0 ≤ B ^ 1 * (Nv a B k₁ * Nv a B k₂ * Nv a B k₃) ∧ B ^ 1 * (Nv a B k₁ * Nv a B k₂ * Nv a B k₃) ≤ 8 * B ^ 13 := sc 1 12 hB (nb3 hB C k₁ k₂ k₃ h1 h2 h3)
  have u13 : 8 * B ^ 13 ≤ B ^ 14 := up1 (B := B) (c := 8) 13 hB (by decide) (by decide)
  have u14 : 8 * B ^ 14 ≤ B ^ 15 := up1 (B := B) (c := 8) 14 hB (by decide) (by decide)
  have u15 : 43016 * B ^ 15 ≤ B ^ 16 := up1 (B := B) (c := 43016) 15 hB (by decide) (by decide)
  refine ⟨?_, ?_, fun j => ?_⟩
  · have e0 : remR B (Nv a B) (Nv e B) a e (h, 1, [k₁, k₂, k₃]) h = B ^ 6 * (tl3 (a k₁) (a k₂) (a k₃) B + (tl3 (a k₁) (a k₂) (e k₃) B + tl3 (a k₁) (e k₂) (a k₃) B + tl3 (e k₁) (a k₂) (a k₃) B)) + B ^ 16 * gsum a e [k₁, k₂, k₃] 5 := by
      unfold remR
      rw [rV_3, rS_3, rS_3, part3 hB _ 1 1 rfl, part2 hB _ 1 6 rfl, part2 hB _ 1 6 rfl, part2 hB _ 1 6 rfl, gat_in, pick3 _ _ _ _ _ _ _ h1 h2 h3]
      exact alg3_1 (M3 a e B k₁ k₂ k₃) (val_s1 (gsum a e [k₁, k₂, k₃]) B (by show c3 _ _ _ 0 + (c3 _ _ _ 0 + c3 _ _ _ 0 + c3 _ _ _ 0) = 0; rw [c3_low _ _ _ (by decide), c3_low _ _ _ (by decide), c3_low _ _ _ (by decide), c3_low _ _ _ (by decide)]; rfl))
    rw [e0]
    have q : 0 ≤ B ^ 6 * (tl3 (a k₁) (a k₂) (a k₃) B + (tl3 (a k₁) (a k₂) (e k₃) B + tl3 (a k₁) (e k₂) (a k₃) B + tl3 (e k₁) (a k₂) (a k₃) B)) ∧ B ^ 6 * (tl3 (a k₁) (a k₂) (a k₃) B + (tl3 (a k₁) (a k₂) (e k₃) B + tl3 (a k₁) (e k₂) (a k₃) B + tl3 (e k₁) (a k₂) (a k₃) B)) ≤ 43016 * B ^ 15 := sc 6 9 hB (t3b hB C k₁ k₂ k₃ h1 h2 h3)
    have q' := sc0 16 hB (g3b hB C k₁ k₂ k₃ h1 h2 h3)
    omega
  · rw [rV_3, part3 hB _ 1 1 rfl]
    omega
  · rw [rS_3, part2 hB _ 1 6 rfl, part2 hB _ 1 6 rfl, part2 hB _ 1 6 rfl]
    have q1 : 0 ≤ B ^ 6 * (Nv a B k₁ * Nv a B k₂) ∧ B ^ 6 * (Nv a B k₁ * Nv a B k₂) ≤ 4 * B ^ 14 := sc 6 8 hB (nb2 hB C k₁ k₂ h1 h2)
    have q2 : 0 ≤ B ^ 6 * (Nv a B k₁ * Nv a B k₃) ∧ B ^ 6 * (Nv a B k₁ * Nv a B k₃) ≤ 4 * B ^ 14 := sc 6 8 hB (nb2 hB C k₁ k₃ h1 h3)
    have q3 : 0 ≤ B ^ 6 * (Nv a B k₂ * Nv a B k₃) ∧ B ^ 6 * (Nv a B k₂ * Nv a B k₃) ≤ 4 * B ^ 14 := sc 6 8 hB (nb2 hB C k₂ k₃ h2 h3)
    have s1 := sel_bd k₁ j q3
    have s2 := sel_bd k₂ j q2
    have s3 := sel_bd k₃ j q1
    omega
theorem rule_step {r : Rule} (R : RK r) (h : Int) : RuleStep B (Nv a B) (Nv e B) a e r h := by
  by_cases q : h = r.1
  · subst q
    have hk := R.kid
    obtain ⟨hd, l, ks⟩ := r
    dsimp only at hk ⊢
    rcases R.kind with ⟨e1, e2⟩ | ⟨k, e2, e1 | e1⟩ | ⟨k₁, k₂, e2, e1 | e1⟩ | ⟨k₁, k₂, k₃, e2, e1 | e1⟩ <;> dsimp only at e1 e2 <;> subst e1 <;> subst e2
    · exact rs_0 hB C hd
    · exact rs_11 hB C hd k (hk k (by simp))
    · exact rs_12 hB C hd k (hk k (by simp))
    · exact rs_20 hB C hd k₁ k₂ (hk _ (by simp)) (hk _ (by simp))
    · exact rs_21 hB C hd k₁ k₂ (hk _ (by simp)) (hk _ (by simp))
    · exact rs_30 hB C hd k₁ k₂ k₃ (hk _ (by simp)) (hk _ (by simp)) (hk _ (by simp))
    · exact rs_31 hB C hd k₁ k₂ k₃ (hk _ (by simp)) (hk _ (by simp)) (hk _ (by simp))
  · have p16 := pw hB C 16
    refine ⟨?_, ?_, fun j => ?_⟩
    · have e0 : remR B (Nv a B) (Nv e B) a e r h = 0 := by
        unfold remR
        have z : val (gat a e r h) B = 0 := by
          have : gat a e r h = fun _ => 0 := by funext n; unfold gat; rw [if_neg fun q' => q q'.symm]
          rw [this]; unfold val hv; simp
        rw [rV_out _ _ _ _ q, rS_out _ _ _ _ _ q, rS_out _ _ _ _ _ q, z]; simp
      rw [e0]; (first | lia | omega)
    · rw [rV_out _ _ _ _ q]; (first | lia | omega)
    · rw [rS_out _ _ _ _ _ q]; (first | lia | omega)
end
end Mine
end
section
open PySem PySem.W PySem.Calls PyProof.Rows
set_option Elab.async false
set_option linter.unusedVariables false
set_option linter.unusedSectionVars false
set_option exponentiation.threshold 2000
namespace Mine
/-! all the rules in Newton's step -/
theorem val_zero (B : Int) : val (fun _ => 0) B = 0 := by unfold val hv; simp
theorem val_sum (a e : Int → Int → Int) (B h : Int) : ∀ rs : List Rule, val (fun n => (rs.map fun r => gat a e r h n).sum) B = (rs.map fun r => val (gat a e r h) B).sum
  | [] => val_zero B
  | r :: rs => by
    have e1 : (fun n => ((r :: rs).map fun r => gat a e r h n).sum) = fun n => gat a e r h n + (rs.map fun r => gat a e r h n).sum := by funext n; rw [List.map_cons, List.sum_cons]
    rw [e1, val_add, val_sum a e B h rs, List.map_cons, List.sum_cons]
theorem rem_sum (B : Int) (N U : Int → Int) (a e : Int → Int → Int) (h : Int) : ∀ rs : List Rule,
    (rs.map fun r => remR B N U a e r h).sum = B ^ 5 * (rs.map fun r => rV B N r h).sum + ((rs.map fun r => rS B N r h 0).sum * U 0 + (rs.map fun r => rS B N r h 1).sum * U 1) - B ^ 17 * (rs.map fun r => val (gat a e r h) B).sum
  | [] => by simp
  | r :: rs => by
    simp only [List.map_cons, List.sum_cons]
    rw [rem_sum B N U a e h rs]
    unfold remR
    generalize (rs.map fun r => rV B N r h).sum = v
    generalize (rs.map fun r => rS B N r h 0).sum = s0
    generalize (rs.map fun r => rS B N r h 1).sum = s1
    generalize (rs.map fun r => val (gat a e r h) B).sum = w
    generalize rV B N r h = v'
    generalize rS B N r h 0 = s0'
    generalize rS B N r h 1 = s1'
    generalize val (gat a e r h) B = w'
    grind
theorem six {rules : List Rule} (hr : RulesOk rules) (f : Rule → Int) (c : Int) (hc : 0 ≤ c) (h : ∀ r ∈ rules, 0 ≤ f r ∧ f r ≤ c) : 0 ≤ (rules.map f).sum ∧ (rules.map f).sum ≤ 6 * c := by
  obtain ⟨h1, h2⟩ := sum_bound rules f c h
  have hl : rules.length ≤ 6 := by
    obtain ⟨rs, rfl, h4, _⟩ := hr.ex
    simp only [List.length_cons]; (first | lia -abstractProof | omega)
  have h3 : (rules.length : Int) * c ≤ 6 * c := Int.mul_le_mul_of_nonneg_right (by (first | lia -abstractProof | omega)) hc
  (first | lia -abstractProof | omega)
theorem fdiv_of {n o u r : Int} (ho : 0 < o) (hr : 0 ≤ r ∧ r < o) (e : n = o * u + r) : n.fdiv o = u := by
  rw [Int.fdiv_eq_ediv_of_nonneg _ (by (first | lia -abstractProof | omega)), e, Int.add_comm, Int.add_mul_ediv_left _ _ (by (first | lia -abstractProof | omega)), Int.ediv_eq_zero_of_lt hr.1 hr.2]
  (first | lia -abstractProof | omega)
/-- the two by two system, all but solved -/
theorem newton {P a b s01 s10 r0 r1 u0 u1 k0 k1 : Int} (hP : 4 ≤ P) (ha : 3 * P ≤ 4 * a ∧ a ≤ P) (hb : 3 * P ≤ 4 * b ∧ b ≤ P) (h01 : 0 ≤ s01 ∧ 4 * s01 ≤ P) (h10 : 0 ≤ s10 ∧ 4 * s10 ≤ P)
    (hr0 : 0 ≤ r0 ∧ 8 * r0 ≤ P) (hr1 : 0 ≤ r1 ∧ 8 * r1 ≤ P) (e0 : k0 = r0 + a * u0 - s01 * u1) (e1 : k1 = r1 + b * u1 - s10 * u0) :
    P ≤ a * b - s01 * s10 ∧ (b * k0 + s01 * k1).fdiv (a * b - s01 * s10) = u0 ∧ (a * k1 + s10 * k0).fdiv (a * b - s01 * s10) = u1 := by
  have q1 : 3 * P * (3 * P) ≤ 4 * a * (4 * b) := Int.mul_le_mul ha.1 hb.1 (by (first | lia | omega)) (by (first | lia | omega))
  have q2 := mb (X := P) (Y := P) (x := 4 * s01) (y := 4 * s10) (by (first | lia | omega)) (by (first | lia | omega))
  have q3 := mb (X := P) (Y := P) (x := b) (y := 8 * r0) (by (first | lia | omega)) (by (first | lia | omega))
  have q4 := mb (X := P) (Y := P) (x := 4 * s01) (y := 8 * r1) (by (first | lia | omega)) (by (first | lia | omega))
  have q5 := mb (X := P) (Y := P) (x := a) (y := 8 * r1) (by (first | lia | omega)) (by (first | lia | omega))
  have q6 := mb (X := P) (Y := P) (x := 4 * s10) (y := 8 * r0) (by (first | lia | omega)) (by (first | lia | omega))
  have q7 : 4 * P ≤ P * P := Int.mul_le_mul_of_nonneg_right hP (by (first | lia | omega))
  have z1 : 3 * P * (3 * P) = 9 * (P * P) := by grind
  have z2 : 4 * a * (4 * b) = 16 * (a * b) := by grind
  have z3 : 4 * s01 * (4 * s10) = 16 * (s01 * s10) := by grind
  have z4 : b * (8 * r0) = 8 * (b * r0) := by grind
  have z5 : 4 * s01 * (8 * r1) = 32 * (s01 * r1) := by grind
  have z6 : a * (8 * r1) = 8 * (a * r1) := by grind
  have z7 : 4 * s10 * (8 * r0) = 32 * (s10 * r0) := by grind
  rw [z1, z2] at q1
  rw [z3] at q2
  rw [z4] at q3
  rw [z5] at q4
  rw [z6] at q5
  rw [z7] at q6
  refine ⟨by (first | lia | omega), fdiv_of (r := b * r0 + s01 * r1) (by (first | lia | omega)) (by (first | lia | omega)) ?_, fdiv_of (r := a * r1 + s10 * r0) (by (first | lia | omega)) (by (first | lia | omega)) ?_⟩
  · rw [e0, e1]; grind
  · rw [e0, e1]; grind
theorem pow_mono {a b : Int} (ha : 0 ≤ a) (h : a ≤ b) : ∀ n : Nat, a ^ n ≤ b ^ n
  | 0 => by rw [Int.pow_zero, Int.pow_zero]; exact Int.le_refl _
  | n + 1 => by
    rw [Int.pow_succ, Int.pow_succ]
    exact Int.mul_le_mul (pow_mono ha h n) h ha (Int.pow_nonneg (by (first | lia | omega)))
section
variable {rules : List Rule} {D B : Int}
theorem cts (hr : RulesOk rules) (hD : D * D = 9) (d : Int) : Cts (wt rules D (iLt d)) (wt rules D (iEq d)) :=
  ⟨fun k hk => lt_bm hr hD d k hk, fun k hk => eq_bm hr hD d k hk, fun k n h => wt_neg _ k h, fun k n h => wt_neg _ k h⟩
theorem next_val (d h : Int) : val (wt rules D (iLt (d + 1)) h) B = val (wt rules D (iLt d) h) B + val (wt rules D (iEq d) h) B := by
  rw [← val_add]
  congr 1
  funext n
  exact (wt_next d h n).symm
theorem next_sum (hr : RulesOk rules) (hD : D * D = 9) {d : Int} (hd : 0 ≤ d) (h : Int) (hh : h = 0 ∨ h = 1) : (rules.map fun r => val (gat (wt rules D (iLt d)) (wt rules D (iEq d)) r h) B).sum = val (wt rules D (iLt (d + 1)) h) B := by
  rw [← val_sum]
  have w := fun (n : Nat) (hn : n < 5) => wt_lt hr.all hD hd n hn h hh
  have w1 := w 0 (by decide)
  have w2 := w 1 (by decide)
  have w3 := w 2 (by decide)
  have w4 := w 3 (by decide)
  have w5 := w 4 (by decide)
  unfold val
  rw [show wt rules D (iLt (d + 1)) h 1 = _ from w1, show wt rules D (iLt (d + 1)) h 2 = _ from w2, show wt rules D (iLt (d + 1)) h 3 = _ from w3, show wt rules D (iLt (d + 1)) h 4 = _ from w4, show wt rules D (iLt (d + 1)) h 5 = _ from w5]
  rfl
theorem step_ok (hr : RulesOk rules) (hD : D * D = 9) (hB : 2 ^ 37 ≤ B) (hB2 : B ≤ 2 ^ 48) {d : Int} (hd : 0 ≤ d) : StepOk rules B (fun h => val (wt rules D (iLt d) h) B) (fun h => val (wt rules D (iLt (d + 1)) h) B) := by
  have C := cts (rules := rules) hr hD d
  have p16 := pw hB C 16
  have R : ∀ h, ∀ r ∈ rules, RuleStep B (Nv (wt rules D (iLt d)) B) (Nv (wt rules D (iEq d)) B) (wt rules D (iLt d)) (wt rules D (iEq d)) r h := fun h r hm => rule_step hB C (hr.all.rk r hm) h
  have bV := fun h => six hr (fun r => rV B (Nv (wt rules D (iLt d)) B) r h) (8 * B ^ 16) (by (first | lia | omega)) fun r hm => (R h r hm).v
  have bS := fun h j => six hr (fun r => rS B (Nv (wt rules D (iLt d)) B) r h j) (8 * B ^ 16) (by (first | lia | omega)) fun r hm => (R h r hm).s j
  have bR := fun h => six hr (fun r => remR B (Nv (wt rules D (iLt d)) B) (Nv (wt rules D (iEq d)) B) (wt rules D (iLt d)) (wt rules D (iEq d)) r h) (2 ^ 17 * B ^ 16) (by (first | lia | omega)) fun r hm => (R h r hm).rem
  have eR := fun h => rem_sum B (Nv (wt rules D (iLt d)) B) (Nv (wt rules D (iEq d)) B) (wt rules D (iLt d)) (wt rules D (iEq d)) h rules
  have g := fun h hh => next_sum (rules := rules) (B := B) hr hD hd h hh
  have u17 : 6291456 * B ^ 16 ≤ B ^ 17 := up1 (B := B) (c := 6291456) 16 hB (by decide) (by decide)
  have pB : B ^ 17 ≤ 2 ^ 816 := pow_mono (b := 2 ^ 48) (by (first | lia | omega)) hB2 17
  have pB' : 2 ^ 629 ≤ B ^ 17 := pow_mono (a := 2 ^ 37) (by decide) hB 17
  have bits : ∀ x : Int, 0 ≤ x ∧ x ≤ 6 * (8 * B ^ 16) → Builtin.Int.intBits x ≤ 1000 := fun x hx => intBits_le (show x.natAbs < 2 ^ 1000 by
    have h1 : x ≤ 2 ^ 816 := by (first | lia | omega)
    have h2 : (2 : Int) ^ 816 < 2 ^ 1000 := by decide
    have h3 : ((2 ^ 1000 : Nat) : Int) = 2 ^ 1000 := by decide
    (first | lia | omega))
  refine ⟨_, _, doRules_eq B _ rules, fun h => bits _ (bV h), fun h j => bits _ (bS h j), ?_⟩
  have e0 := eR 0
  have e1 := eR 1
  rw [g 0 (.inl rfl), next_val] at e0
  rw [g 1 (.inr rfl), next_val] at e1
  have c0 := bR 0
  have c1 := bR 1
  have s00 := bS 0 0
  have s01 := bS 0 1
  have s10 := bS 1 0
  have s11 := bS 1 1
  rw [next_val, next_val]
  revert e0 e1 c0 c1 s00 s01 s10 s11
  show _ → _ → _ → _ → _ → _ → _ → _ → _
  generalize (rules.map fun r => remR B (Nv (wt rules D (iLt d)) B) (Nv (wt rules D (iEq d)) B) (wt rules D (iLt d)) (wt rules D (iEq d)) r 0).sum = R0
  generalize (rules.map fun r => remR B (Nv (wt rules D (iLt d)) B) (Nv (wt rules D (iEq d)) B) (wt rules D (iLt d)) (wt rules D (iEq d)) r 1).sum = R1
  generalize (rules.map fun r => rV B (Nv (wt rules D (iLt d)) B) r 0).sum = V0
  generalize (rules.map fun r => rV B (Nv (wt rules D (iLt d)) B) r 1).sum = V1
  generalize (rules.map fun r => rS B (Nv (wt rules D (iLt d)) B) r 0 0).sum = S00
  generalize (rules.map fun r => rS B (Nv (wt rules D (iLt d)) B) r 0 1).sum = S01
  generalize (rules.map fun r => rS B (Nv (wt rules D (iLt d)) B) r 1 0).sum = S10
  generalize (rules.map fun r => rS B (Nv (wt rules D (iLt d)) B) r 1 1).sum = S11
  show R0 = B ^ 5 * V0 + (S00 * val (wt rules D (iEq d) 0) B + S01 * val (wt rules D (iEq d) 1) B) - B ^ 17 * _ → R1 = B ^ 5 * V1 + (S10 * val (wt rules D (iEq d) 0) B + S11 * val (wt rules D (iEq d) 1) B) - B ^ 17 * _ → _
  generalize val (wt rules D (iEq d) 0) B = U0
  generalize val (wt rules D (iEq d) 1) B = U1
  generalize val (wt rules D (iLt d) 0) B = N0
  generalize val (wt rules D (iLt d) 1) B = N1
  intro e0 e1 c0 c1 s00 s01 s10 s11
  have k0 : (V0 - N0 * B ^ 12) * B ^ 5 = R0 + (B ^ 17 - S00) * U0 - S01 * U1 := by rw [e0]; grind
  have k1 : (V1 - N1 * B ^ 12) * B ^ 5 = R1 + (B ^ 17 - S11) * U1 - S10 * U0 := by rw [e1]; grind
  have n := newton (P := B ^ 17) (a := B ^ 17 - S00) (b := B ^ 17 - S11) (s01 := S01) (s10 := S10) (r0 := R0) (r1 := R1) (u0 := U0) (u1 := U1) (by (first | lia | omega)) (by (first | lia | omega)) (by (first | lia | omega)) (by (first | lia | omega)) (by (first | lia | omega)) (by (first | lia | omega)) (by (first | lia | omega)) k0 k1
  obtain ⟨n1, n2, n3⟩ := n
  refine ⟨by (first | lia | omega), ?_, by rw [n2], by rw [n3]⟩
  refine Nat.le_of_not_lt fun q => ?_
  have h1 := (intBits_le_iff (x := (B ^ 17 - S00) * (B ^ 17 - S11) - S01 * S10) (m := 99)).mp (by (first | lia | omega))
  have h3 : ((2 ^ 99 : Nat) : Int) = 2 ^ 99 := by decide
  have h4 : (2 : Int) ^ 99 ≤ 2 ^ 629 := by decide
  (first | lia | omega)
end
end Mine
end
section
open PySem PySem.W PySem.Calls PyProof.Rows
set_option Elab.async false
set_option linter.unusedVariables false
set_option linter.unusedSectionVars false
set_option exponentiation.threshold 2000
namespace Mine
/-! the plain law -/
theorem w_rng (c : Cells) : 37 ≤ c.w ∧ c.w ≤ 48 := by
  have h1 := Int.fmod_nonneg_of_pos c.c4 (b := 12) (by decide)
  have h2 := Int.fmod_lt_of_pos c.c4 (b := 12) (by decide)
  unfold Cells.w Cells.wI
  omega
theorem w_pow (c : Cells) : (2 : Int) ^ 37 ≤ 2 ^ c.w ∧ (2 : Int) ^ c.w ≤ 2 ^ 48 := by
  have h := w_rng c
  have e : ∀ n : Nat, (2 : Int) ^ n = ((2 ^ n : Nat) : Int) := fun n => by simp
  rw [e, e, e]
  exact ⟨Int.ofNat_le.mpr (Nat.pow_le_pow_right (by decide) h.1), Int.ofNat_le.mpr (Nat.pow_le_pow_right (by decide) h.2)⟩
theorem tau_sq (c : Cells) : 3 * c.tau * (3 * c.tau) = 9 := by
  have : c.tau = 1 ∨ c.tau = -1 := by
    rcases fmod2 (c.c4.fdiv 12) with q | q <;> unfold Cells.tau <;> rw [q] <;> decide
  rcases this with e | e <;> rw [e] <;> decide
theorem rules_ok (c : Cells) : RulesOk (rulesOf c) := by rw [rulesOf_eq]; exact rulesX_ok c
theorem ent_eq (c : Cells) (h : Int) (i : Nat) : (entsOf c h).getD i noneE = entAt (rulesOf c) (3 * c.tau) 5 h i := rfl
theorem ent_ok (c : Cells) (h : Int) (i : Nat) : EntOk (i : Int) (entAt (rulesOf c) (3 * c.tau) 5 h i) := built (rules_ok c).all.nn (tau_sq c) 5 (Nat.le_refl 5) h i
theorem wt_ent {rules : List Rule} {D : Int} (f : Int → Int) (h : Int) (i : Nat) : wt rules D f h (i : Int) = mass f (entAt rules D 5 h i).t := by
  unfold wt
  rw [tbAt_eq]; rfl
/-- a field is a count -/
theorem fld_wt (c : Cells) (t : Nat) (ht : t ≠ 0) (h : Int) (i : Nat) : fld (fieldOf t) (entAt (rulesOf c) (3 * c.tau) 5 h i) = wt (rulesOf c) (3 * c.tau) (iLt (t : Int)) h (i : Int) := by
  have E := ent_ok c h i
  rw [wt_ent]
  unfold fieldOf
  by_cases h1 : t = 1
  · subst h1
    exact E.a
  · by_cases h2 : t = 2
    · subst h2
      exact E.c
    · rw [if_neg h1, if_neg h2]
      have : fld 1 (entAt (rulesOf c) (3 * c.tau) 5 h i) = (entAt (rulesOf c) (3 * c.tau) 5 h i).b := rfl
      rw [this, E.b]
      exact mass_congr E.tab fun k hk => by
        have := hk.nn
        unfold iLt
        rw [if_pos (by (first | lia -abstractProof | omega))]
theorem fld_all (c : Cells) (f : Int) (h : Int) (i : Nat) : 0 ≤ fld f (entAt (rulesOf c) (3 * c.tau) 5 h i) ∧ fld f (entAt (rulesOf c) (3 * c.tau) 5 h i) ≤ 3584 := by
  have E := ent_ok c h i
  have T := tot_le (rules_ok c) (tau_sq c) 5 (Nat.le_refl 5) h (i : Int)
  rw [tbAt_eq] at T
  have T' : mass (fun _ => 1) (entAt (rulesOf c) (3 * c.tau) 5 h i).t ≤ 3584 := T
  have B : ∀ g : Int → Int, (∀ n, 0 ≤ g n ∧ g n ≤ 1) → 0 ≤ mass g (entAt (rulesOf c) (3 * c.tau) 5 h i).t ∧ mass g (entAt (rulesOf c) (3 * c.tau) 5 h i).t ≤ 3584 := fun g hg =>
    ⟨mass_nn E.tab fun n => (hg n).1, Int.le_trans (mass_le E.tab fun n => (hg n).2) T'⟩
  unfold fld
  split
  · rw [E.a]; exact B _ (iLt_01 1)
  · split
    · rw [E.b]; exact B _ fun _ => ⟨by decide, by decide⟩
    · rw [E.c]; exact B _ (iLt_01 2)
theorem dig_ok (c : Cells) (t : Nat) (h : Int) : ∀ d ∈ dueOf c t h, 0 ≤ d ∧ d < 2 ^ c.w := by
  have hw := (w_pow c).1
  intro d hd
  unfold dueOf at hd
  split at hd
  · rw [List.eq_of_mem_replicate hd]; omega
  · obtain ⟨i, _, rfl⟩ := List.mem_map.mp hd
    rw [ent_eq]
    have := fld_all c (fieldOf t) h (5 - i)
    omega
theorem told_wt (c : Cells) (t : Nat) : toldOf c t = fun h => val (wt (rulesOf c) (3 * c.tau) (iLt (t : Int)) h) (2 ^ c.w) := by
  funext h
  unfold toldOf dueOf
  by_cases ht : t = 0
  · subst ht
    rw [if_pos rfl]
    have z : wt (rulesOf c) (3 * c.tau) (iLt ((0 : Nat) : Int)) h = fun _ => 0 := by
      funext n
      have T := tab_ok (rules_ok c).all.nn (tau_sq c) 5 (Nat.le_refl 5) h n
      unfold wt
      rw [← mass_z (tbAt (rulesOf c) (3 * c.tau) 5 h n)]
      exact mass_congr T fun k hk => by
        have := hk.nn
        unfold iLt
        rw [if_neg (by (first | lia | omega))]
    rw [z, val_zero]
    show 0 + 2 ^ c.w * (0 + 2 ^ c.w * (0 + 2 ^ c.w * (0 + 2 ^ c.w * (0 + 2 ^ c.w * (0 + 2 ^ c.w * 0))))) = (0 : Int)
    simp
  · rw [if_neg ht]
    have e : dueE (entsOf c h) (fieldOf t) = [fld (fieldOf t) (entAt (rulesOf c) (3 * c.tau) 5 h 5), fld (fieldOf t) (entAt (rulesOf c) (3 * c.tau) 5 h 4), fld (fieldOf t) (entAt (rulesOf c) (3 * c.tau) 5 h 3), fld (fieldOf t) (entAt (rulesOf c) (3 * c.tau) 5 h 2), fld (fieldOf t) (entAt (rulesOf c) (3 * c.tau) 5 h 1), fld (fieldOf t) (entAt (rulesOf c) (3 * c.tau) 5 h 0)] := rfl
    rw [e, fld_wt c t ht, fld_wt c t ht, fld_wt c t ht, fld_wt c t ht, fld_wt c t ht, fld_wt c t ht]
    have z : wt (rulesOf c) (3 * c.tau) (iLt (t : Int)) h ((0 : Nat) : Int) = 0 := wt_zero _ _
    rw [z]
    unfold val hv
    show _ + 2 ^ c.w * (_ + 2 ^ c.w * (_ + 2 ^ c.w * (_ + 2 ^ c.w * (_ + 2 ^ c.w * (0 + 2 ^ c.w * 0))))) = _
    rw [Int.mul_zero, Int.add_zero, Int.mul_zero, Int.add_zero]
    rfl
theorem lawOk (c : Cells) : LawOk c where
  row := rowOk_of c
  build := build_ok (rules_ok c) (tau_sq c)
  rule := rule_ok (rules_ok c)
  few := (build_ok (rules_ok c) (tau_sq c)).few
  dig := dig_ok c
  step := fun t ht => by
    rw [told_wt, told_wt]
    have := step_ok (rules_ok c) (tau_sq c) (w_pow c).1 (w_pow c).2 (d := (t : Int)) (by (first | lia -abstractProof | omega))
    have e : ((t + 1 : Nat) : Int) = (t : Int) + 1 := by (first | lia -abstractProof | omega)
    rw [e]; exact this
theorem lawOk_all (ns : List Int) : LawOk (cellsOf ns) := lawOk _
end Mine
end
open PySem PySem.W PySem.Calls PyProof.Rows
set_option Elab.async false
set_option maxRecDepth 100000 in
set_option maxHeartbeats 8000000 in
theorem PySem.Challenge.cw_xh0023_01_holds : PySem.Challenge.rw_xh0023_01.Holds := by
  refine holds_law Mine.saidK fun said => ?_
  refine holds_open (q := Mine.hd.view_39) (loose := []) (Xt := fun s => xlAt Mine.hd.view_39 [] s && recOk (RowW.records PySem.Challenge.rw_xh0023_01.row.toRowW) s) (XP := XL Mine.hd.view_39 []) (Yf := Hook.obs (kmHook Mine.hd.heap_39 Mine.asK Mine.asK_eq [37, 30])) (Ya := Hook.val (kmHook Mine.hd.heap_39 Mine.asK Mine.asK_eq [37, 30])) (YP := Hook.says (kmHook Mine.hd.heap_39 Mine.asK Mine.asK_eq [37, 30])) (N := 1930) Mine.leftK (Hook.of _) (Hook.keeps _) (fun s e => xl_of s (Bool.and_eq_true_iff.mp e).1) XL.keeps (by rfl) (by rfl) (by rfl) (fun s e => recFacts_of (Bool.and_eq_true_iff.mp e).2) (by rfl) said (by decide +kernel) ⟨rfl, rfl, rfl, rfl, rfl, by decide +kernel⟩ ?hw ?hc
  case hw => w_witness2
  w_strict (k_go0; (all_goals try k_fold); (
    rename News _ _ _ _ => N9
    rename Frag.In _ _ => X9
    rename Top _ _ _ _ _ _ => T9
    rename Fr _ _ _ _ => F9
    rename TabsAt _ _ => TA9
    rename CellsAre _ _ _ => CA9
    rename IntsAre _ _ => I9
    rename Well _ _ _ _ => W9
    rename Heap.IsList _ _ _ => L9
    have W9 := W9
    cases W9 with
    | list ho9 hw9 =>
      have e9 := L9
      refine Mine.law_join (hfd := by exact rfl) (hbody := rfl) X9 T9 F9 N9 CA9 ?_ ?_ ?_ ?_ ho9 TA9 (Mine.ints_eq ho9 L9 I9) ?_ (Mine.lawOk_all _) (by assumption) (by assumption) (by assumption) ?_
      case refine_1 =>
        intro q hq
        exact List.mem_append_left [(37, tabObj #[]), (30, tabObj #[])] hq
      case refine_2 => exact .tail _ (.tail _ (.tail _ (.tail _ (.tail _ (.head _)))))
      case refine_3 => exact .tail _ (.tail _ (.tail _ (.tail _ (.tail _ (.tail _ (.head _))))))
      case refine_4 => exact rfl
      case refine_5 => omega
      case refine_6 =>
        intro h9 tk9 m9 F8 G8
        exact ⟨goodW_bool F8 (by assumption) (fun _ => rfl) (by wrow_post), G8⟩))
