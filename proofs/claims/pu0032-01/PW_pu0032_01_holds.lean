import PyProof.Rows.All
import Wide.All
import Open.FastT9
import Open.FastRun
import Open.Line
import OpenK.KWalk
import PyProof.GenComp
import PyProof.GenQ
import KE.KSortTup
import KE.KUnpack
import PySem.Challenge.RW_pu0032_01
set_option Elab.async false
set_option maxRecDepth 100000
set_option maxHeartbeats 8000000
set_option linter.unusedVariables false
set_option autoImplicit false
namespace Mine
open PySem PySem.W PySem.Calls PyProof.Rows
noncomputable abbrev pw : Program := PySem.Challenge.pw_pu0032_01
noncomputable def stA (i : Nat) : Stmt := match pw.main.body[i]? with | some s => s | none => .Pass ⟨0, 0, 0, 0⟩
noncomputable def clA (i : Nat) : Stmt := match stA 7 with | .ClassDef (body := b) .. => (match b[i]? with | some s => s | none => .Pass ⟨0, 0, 0, 0⟩) | s => s
noncomputable def parOf : Stmt → Arguments | .FunctionDef (args := a) .. => a | _ => ⟨[], [], none, [], [], none, []⟩
noncomputable def bodOf : Stmt → List Stmt | .FunctionDef (body := b) .. => b | _ => []
noncomputable def scoOf : Stmt → Scope | .FunctionDef (scope := s) .. => s | _ => { kind := .function, names := [], isGenerator := false, isCoroutine := false, more := [] }
noncomputable def fnO (s : Stmt) (n q m : Str) (t c : Nat) : Obj := { cls := .type "function", data := .func { name := n, qualname := q, params := parOf s, body := .stmts (bodOf s), scope := scoOf s, globals := 3, closure := [], defaults := .none, kwdefaults := .none, pyModule := .str m t, code := .ref c } }
noncomputable def KF (P : Params) : Frag :=
  [(2, { cls := Value.none, data := Data.dict #[] }),
    (3, { cls := Value.type "dict", data := Data.dict #[{ hash := PyData.keyHash P (Str.ofString "__name__"), key := Value.str (Str.ofString "__name__") 165, val := Value.str (Str.ofString "law_pu0032_01") 322 }, { hash := PyData.keyHash P (Str.ofString "__doc__"), key := Value.str (Str.ofString "__doc__") 166, val := Value.none }, { hash := PyData.keyHash P (Str.ofString "__package__"), key := Value.str (Str.ofString "__package__") 167, val := Value.none }, { hash := PyData.keyHash P (Str.ofString "__loader__"), key := Value.str (Str.ofString "__loader__") 168, val := Value.builtin "__main__.__loader__#opaque" }, { hash := PyData.keyHash P (Str.ofString "__spec__"), key := Value.str (Str.ofString "__spec__") 169, val := Value.none }, { hash := PyData.keyHash P (Str.ofString "__annotations__"), key := Value.str (Str.ofString "__annotations__") 170, val := Value.ref 6 }, { hash := PyData.keyHash P (Str.ofString "__builtins__"), key := Value.str (Str.ofString "__builtins__") 171, val := Value.ref 4 }, { hash := PyData.keyHash P (Str.ofString "__file__"), key := Value.str (Str.ofString "__file__") 173, val := Value.str (Str.ofString "/claim/cut.py") 172 }, { hash := PyData.keyHash P (Str.ofString "__cached__"), key := Value.str (Str.ofString "__cached__") 174, val := Value.none }, { hash := PyData.keyHash P (Str.ofString "_wall"), key := Value.str (Str.ofString "_wall") 193, val := Value.ref 21 }, { hash := PyData.keyHash P (Str.ofString "_strcoll"), key := Value.str (Str.ofString "_strcoll") 203, val := Value.ref 28 }, { hash := PyData.keyHash P (Str.ofString "_strxfrm"), key := Value.str (Str.ofString "_strxfrm") 210, val := Value.ref 35 }, { hash := PyData.keyHash P (Str.ofString "CHAR_MAX"), key := Value.str (Str.ofString "CHAR_MAX") 212, val := Value.int 127 211 }, { hash := PyData.keyHash P (Str.ofString "_grouping_intervals"), key := Value.str (Str.ofString "_grouping_intervals") 221, val := Value.ref 42 }, { hash := PyData.keyHash P (Str.ofString "Whitespace"), key := Value.str (Str.ofString "Whitespace") 321, val := Value.ref 104 }, { hash := PyData.keyHash P (Str.ofString "_law_gaps"), key := Value.str (Str.ofString "_law_gaps") 329, val := Value.ref 113 }, { hash := PyData.keyHash P (Str.ofString "_law_sign"), key := Value.str (Str.ofString "_law_sign") 337, val := Value.ref 120 }, { hash := PyData.keyHash P (Str.ofString "_law_figures"), key := Value.str (Str.ofString "_law_figures") 347, val := Value.ref 127 }, { hash := PyData.keyHash P (Str.ofString "_law_lead"), key := Value.str (Str.ofString "_law_lead") 353, val := Value.ref 132 }, { hash := PyData.keyHash P (Str.ofString "_law_read"), key := Value.str (Str.ofString "_law_read") 359, val := Value.ref 137 }, { hash := PyData.keyHash P (Str.ofString "_law_runs"), key := Value.str (Str.ofString "_law_runs") 370, val := Value.ref 144 }, { hash := PyData.keyHash P (Str.ofString "_law_line"), key := Value.str (Str.ofString "_law_line") 376, val := Value.ref 149 }, { hash := PyData.keyHash P (Str.ofString "_law_ordered"), key := Value.str (Str.ofString "_law_ordered") 382, val := Value.ref 154 }, { hash := PyData.keyHash P (Str.ofString "_law_numbered"), key := Value.str (Str.ofString "_law_numbered") 388, val := Value.ref 159 }, { hash := PyData.keyHash P (Str.ofString "law"), key := Value.str (Str.ofString "law") 394, val := Value.ref 164 }] 25 }),
    (22, { cls := Value.type "tuple", data := Data.seq #[] }),
    (24, { cls := Value.type "tuple", data := Data.seq #[Value.str (Str.ofString "a") 199, Value.str (Str.ofString "b") 200] }),
    (25, { cls := Value.type "tuple", data := Data.seq #[] }),
    (27, { cls := Value.type "code", data := Data.fields #[Value.str (Str.ofString "_strcoll") 196, Value.str (Str.ofString "_strcoll") 197, Value.str (Str.ofString "/claim/cut.py") 198, Value.int 5 0, Value.int 2 0, Value.int 0 0, Value.int 0 0, Value.int 3 0, Value.ref 22, Value.bool true, Value.int 181 0, Value.ref 23, Value.none, Value.ref 24, Value.ref 25, Value.ref 26, Value.int 201 0, Value.int 5 0, Value.str (Str.ofString "/claim/cut.py") 202] }),
    (28, fnO (stA 2) (Str.ofString "_strcoll") (Str.ofString "_strcoll") (Str.ofString "cpy313.locale") 194 27),
    (29, { cls := Value.type "tuple", data := Data.seq #[] }),
    (31, { cls := Value.type "tuple", data := Data.seq #[Value.str (Str.ofString "s") 207] }),
    (32, { cls := Value.type "tuple", data := Data.seq #[] }),
    (34, { cls := Value.type "code", data := Data.fields #[Value.str (Str.ofString "_strxfrm") 204, Value.str (Str.ofString "_strxfrm") 205, Value.str (Str.ofString "/claim/cut.py") 206, Value.int 7 0, Value.int 1 0, Value.int 0 0, Value.int 0 0, Value.int 3 0, Value.ref 29, Value.bool true, Value.int 181 0, Value.ref 30, Value.none, Value.ref 31, Value.ref 32, Value.ref 33, Value.int 208 0, Value.int 7 0, Value.str (Str.ofString "/claim/cut.py") 209] }),
    (35, fnO (stA 3) (Str.ofString "_strxfrm") (Str.ofString "_strxfrm") (Str.ofString "cpy313.locale") 194 34),
    (36, { cls := Value.type "tuple", data := Data.seq #[] }),
    (38, { cls := Value.type "tuple", data := Data.seq #[Value.str (Str.ofString "grouping") 216, Value.str (Str.ofString "last_interval") 217, Value.str (Str.ofString "interval") 218] }),
    (39, { cls := Value.type "tuple", data := Data.seq #[] }),
    (41, { cls := Value.type "code", data := Data.fields #[Value.str (Str.ofString "_grouping_intervals") 213, Value.str (Str.ofString "_grouping_intervals") 214, Value.str (Str.ofString "/claim/cut.py") 215, Value.int 10 0, Value.int 1 0, Value.int 0 0, Value.int 0 0, Value.int 35 0, Value.ref 36, Value.bool true, Value.int 181 0, Value.ref 37, Value.none, Value.ref 38, Value.ref 39, Value.ref 40, Value.int 219 0, Value.int 10 0, Value.str (Str.ofString "/claim/cut.py") 220] }),
    (42, fnO (stA 5) (Str.ofString "_grouping_intervals") (Str.ofString "_grouping_intervals") (Str.ofString "cpy313.locale") 194 41),
    (53, { cls := Value.type "tuple", data := Data.seq #[] }),
    (55, { cls := Value.type "tuple", data := Data.seq #[Value.str (Str.ofString "self") 244, Value.str (Str.ofString "ws") 245, Value.str (Str.ofString "S") 246, Value.str (Str.ofString "T") 247, Value.str (Str.ofString "count") 248, Value.str (Str.ofString "b") 249, Value.str (Str.ofString "n") 250, Value.str (Str.ofString "nt") 251, Value.str (Str.ofString "ch") 252] }),
    (56, { cls := Value.type "tuple", data := Data.seq #[] }),
    (58, { cls := Value.type "code", data := Data.fields #[Value.str (Str.ofString "__init__") 241, Value.str (Str.ofString "Whitespace.__init__") 242, Value.str (Str.ofString "/claim/cut.py") 243, Value.int 26 0, Value.int 2 0, Value.int 0 0, Value.int 0 0, Value.int 3 0, Value.ref 53, Value.bool true, Value.int 181 0, Value.ref 54, Value.none, Value.ref 55, Value.ref 56, Value.ref 57, Value.int 253 0, Value.int 26 0, Value.str (Str.ofString "/claim/cut.py") 254] }),
    (59, fnO (clA 1) (Str.ofString "__init__") (Str.ofString "Whitespace.__init__") (Str.ofString "cpy313.tabnanny") 222 58),
    (60, { cls := Value.type "tuple", data := Data.seq #[] }),
    (62, { cls := Value.type "tuple", data := Data.seq #[Value.str (Str.ofString "self") 259, Value.str (Str.ofString "count") 260, Value.str (Str.ofString "trailing") 261] }),
    (63, { cls := Value.type "tuple", data := Data.seq #[] }),
    (65, { cls := Value.type "code", data := Data.fields #[Value.str (Str.ofString "longest_run_of_spaces") 256, Value.str (Str.ofString "Whitespace.longest_run_of_spaces") 257, Value.str (Str.ofString "/claim/cut.py") 258, Value.int 49 0, Value.int 1 0, Value.int 0 0, Value.int 0 0, Value.int 3 0, Value.ref 60, Value.bool true, Value.int 181 0, Value.ref 61, Value.none, Value.ref 62, Value.ref 63, Value.ref 64, Value.int 262 0, Value.int 49 0, Value.str (Str.ofString "/claim/cut.py") 263] }),
    (66, fnO (clA 2) (Str.ofString "longest_run_of_spaces") (Str.ofString "Whitespace.longest_run_of_spaces") (Str.ofString "cpy313.tabnanny") 222 65),
    (67, { cls := Value.type "tuple", data := Data.seq #[] }),
    (69, { cls := Value.type "tuple", data := Data.seq #[Value.str (Str.ofString "self") 268, Value.str (Str.ofString "tabsize") 269, Value.str (Str.ofString "count") 270, Value.str (Str.ofString "trailing") 271, Value.str (Str.ofString "il") 272, Value.str (Str.ofString "i") 273] }),
    (70, { cls := Value.type "tuple", data := Data.seq #[] }),
    (72, { cls := Value.type "code", data := Data.fields #[Value.str (Str.ofString "indent_level") 265, Value.str (Str.ofString "Whitespace.indent_level") 266, Value.str (Str.ofString "/claim/cut.py") 267, Value.int 53 0, Value.int 2 0, Value.int 0 0, Value.int 0 0, Value.int 3 0, Value.ref 67, Value.bool true, Value.int 181 0, Value.ref 68, Value.none, Value.ref 69, Value.ref 70, Value.ref 71, Value.int 274 0, Value.int 53 0, Value.str (Str.ofString "/claim/cut.py") 275] }),
    (73, fnO (clA 3) (Str.ofString "indent_level") (Str.ofString "Whitespace.indent_level") (Str.ofString "cpy313.tabnanny") 222 72),
    (102, { cls := Value.type "tuple", data := Data.seq #[Value.str (Str.ofString "is_simple") 309, Value.str (Str.ofString "n") 310, Value.str (Str.ofString "norm") 311, Value.str (Str.ofString "nt") 312, Value.str (Str.ofString "raw") 313] }),
    (103, { cls := Value.type "dict", data := Data.dict #[{ hash := PyData.keyHash P (Str.ofString "__module__"), key := Value.str (Str.ofString "__module__") 231, val := Value.str (Str.ofString "cpy313.tabnanny") 222 }, { hash := PyData.keyHash P (Str.ofString "__firstlineno__"), key := Value.str (Str.ofString "__firstlineno__") 235, val := Value.int 23 234 }, { hash := PyData.keyHash P (Str.ofString "S"), key := Value.str (Str.ofString "S") 239, val := Value.str (Str.ofString " ") 237 }, { hash := PyData.keyHash P (Str.ofString "T"), key := Value.str (Str.ofString "T") 240, val := Value.str (Str.ofString "\t") 238 }, { hash := PyData.keyHash P (Str.ofString "__init__"), key := Value.str (Str.ofString "__init__") 255, val := Value.ref 59 }, { hash := PyData.keyHash P (Str.ofString "longest_run_of_spaces"), key := Value.str (Str.ofString "longest_run_of_spaces") 264, val := Value.ref 66 }, { hash := PyData.keyHash P (Str.ofString "indent_level"), key := Value.str (Str.ofString "indent_level") 276, val := Value.ref 73 }, { hash := PyData.keyHash P (Str.ofString "equal"), key := Value.str (Str.ofString "equal") 284, val := Value.ref 80 }, { hash := PyData.keyHash P (Str.ofString "not_equal_witness"), key := Value.str (Str.ofString "not_equal_witness") 292, val := Value.ref 87 }, { hash := PyData.keyHash P (Str.ofString "less"), key := Value.str (Str.ofString "less") 300, val := Value.ref 94 }, { hash := PyData.keyHash P (Str.ofString "not_less_witness"), key := Value.str (Str.ofString "not_less_witness") 308, val := Value.ref 101 }, { hash := PyData.keyHash P (Str.ofString "__static_attributes__"), key := Value.str (Str.ofString "__static_attributes__") 314, val := Value.ref 102 }, { hash := PyData.keyHash P (Str.ofString "__dict__"), key := Value.str (Str.ofString "__dict__") 316, val := Value.ref 105 }, { hash := PyData.keyHash P (Str.ofString "__weakref__"), key := Value.str (Str.ofString "__weakref__") 318, val := Value.ref 106 }, { hash := PyData.keyHash P (Str.ofString "__doc__"), key := Value.str (Str.ofString "__doc__") 319, val := Value.none }] 4 }),
    (104, { cls := Value.type "type", data := Data.cls { name := Str.ofString "Whitespace", bases := [Value.type "object"], mro := [Value.ref 104, Value.type "object"], ns := 103, qualname := Str.ofString "Whitespace" }, slots := #[none, none, some (Value.str (Str.ofString "Whitespace") 224), some (Value.str (Str.ofString "Whitespace") 232), some (Value.builtin "object.__new__"), some (Value.bool true)] }),
    (105, { cls := Value.type "getset_descriptor", data := Data.fields #[Value.str (Str.ofString "__dict__") 315, Value.ref 104, Value.builtin "function.__dict__", Value.builtin "function.__dict__#set"] }),
    (106, { cls := Value.type "getset_descriptor", data := Data.fields #[Value.str (Str.ofString "__weakref__") 317, Value.ref 104, Value.builtin "ExceptionGroup.__weakref__", Value.none] }),
    (109, { cls := Value.type "tuple", data := Data.seq #[] }),
    (112, { cls := Value.type "code", data := Data.fields #[Value.str (Str.ofString "_law_gaps") 324, Value.str (Str.ofString "_law_gaps") 325, Value.str (Str.ofString "/claim/cut.py") 326, Value.int 72 0, Value.int 2 0, Value.int 0 0, Value.int 0 0, Value.int 3 0, Value.ref 109, Value.bool true, Value.int 181 0, Value.ref 110, Value.none, Value.none, Value.none, Value.ref 111, Value.int 327 0, Value.int 72 0, Value.str (Str.ofString "/claim/cut.py") 328] }),
    (113, fnO (stA 9) (Str.ofString "_law_gaps") (Str.ofString "_law_gaps") (Str.ofString "law_pu0032_01") 322 112),
    (114, { cls := Value.type "tuple", data := Data.seq #[] }),
    (116, { cls := Value.type "tuple", data := Data.seq #[Value.str (Str.ofString "n") 333, Value.str (Str.ofString "point") 334] }),
    (117, { cls := Value.type "tuple", data := Data.seq #[] }),
    (119, { cls := Value.type "code", data := Data.fields #[Value.str (Str.ofString "_law_sign") 330, Value.str (Str.ofString "_law_sign") 331, Value.str (Str.ofString "/claim/cut.py") 332, Value.int 77 0, Value.int 1 0, Value.int 0 0, Value.int 0 0, Value.int 3 0, Value.ref 114, Value.bool true, Value.int 181 0, Value.ref 115, Value.none, Value.ref 116, Value.ref 117, Value.ref 118, Value.int 335 0, Value.int 77 0, Value.str (Str.ofString "/claim/cut.py") 336] }),
    (120, fnO (stA 10) (Str.ofString "_law_sign") (Str.ofString "_law_sign") (Str.ofString "law_pu0032_01") 322 119),
    (121, { cls := Value.type "tuple", data := Data.seq #[] }),
    (123, { cls := Value.type "tuple", data := Data.seq #[Value.str (Str.ofString "number") 341, Value.str (Str.ofString "gaps") 342, Value.str (Str.ofString "figures") 343, Value.str (Str.ofString "gap") 344] }),
    (124, { cls := Value.type "tuple", data := Data.seq #[] }),
    (126, { cls := Value.type "code", data := Data.fields #[Value.str (Str.ofString "_law_figures") 338, Value.str (Str.ofString "_law_figures") 339, Value.str (Str.ofString "/claim/cut.py") 340, Value.int 80 0, Value.int 2 0, Value.int 0 0, Value.int 0 0, Value.int 3 0, Value.ref 121, Value.bool true, Value.int 181 0, Value.ref 122, Value.none, Value.ref 123, Value.ref 124, Value.ref 125, Value.int 345 0, Value.int 80 0, Value.str (Str.ofString "/claim/cut.py") 346] }),
    (127, fnO (stA 11) (Str.ofString "_law_figures") (Str.ofString "_law_figures") (Str.ofString "law_pu0032_01") 322 126),
    (128, { cls := Value.type "tuple", data := Data.seq #[] }),
    (131, { cls := Value.type "code", data := Data.fields #[Value.str (Str.ofString "_law_lead") 348, Value.str (Str.ofString "_law_lead") 349, Value.str (Str.ofString "/claim/cut.py") 350, Value.int 86 0, Value.int 2 0, Value.int 0 0, Value.int 0 0, Value.int 3 0, Value.ref 128, Value.bool true, Value.int 181 0, Value.ref 129, Value.none, Value.none, Value.none, Value.ref 130, Value.int 351 0, Value.int 86 0, Value.str (Str.ofString "/claim/cut.py") 352] }),
    (132, fnO (stA 12) (Str.ofString "_law_lead") (Str.ofString "_law_lead") (Str.ofString "law_pu0032_01") 322 131),
    (133, { cls := Value.type "tuple", data := Data.seq #[] }),
    (136, { cls := Value.type "code", data := Data.fields #[Value.str (Str.ofString "_law_read") 354, Value.str (Str.ofString "_law_read") 355, Value.str (Str.ofString "/claim/cut.py") 356, Value.int 88 0, Value.int 2 0, Value.int 0 0, Value.int 0 0, Value.int 3 0, Value.ref 133, Value.bool true, Value.int 181 0, Value.ref 134, Value.none, Value.none, Value.none, Value.ref 135, Value.int 357 0, Value.int 88 0, Value.str (Str.ofString "/claim/cut.py") 358] }),
    (137, fnO (stA 13) (Str.ofString "_law_read") (Str.ofString "_law_read") (Str.ofString "law_pu0032_01") 322 136),
    (138, { cls := Value.type "tuple", data := Data.seq #[] }),
    (140, { cls := Value.type "tuple", data := Data.seq #[Value.str (Str.ofString "figures") 363, Value.str (Str.ofString "gaps") 364, Value.str (Str.ofString "left") 365, Value.str (Str.ofString "runs") 366, Value.str (Str.ofString "k") 367] }),
    (141, { cls := Value.type "tuple", data := Data.seq #[] }),
    (143, { cls := Value.type "code", data := Data.fields #[Value.str (Str.ofString "_law_runs") 360, Value.str (Str.ofString "_law_runs") 361, Value.str (Str.ofString "/claim/cut.py") 362, Value.int 101 0, Value.int 3 0, Value.int 0 0, Value.int 0 0, Value.int 3 0, Value.ref 138, Value.bool true, Value.int 181 0, Value.ref 139, Value.none, Value.ref 140, Value.ref 141, Value.ref 142, Value.int 368 0, Value.int 101 0, Value.str (Str.ofString "/claim/cut.py") 369] }),
    (144, fnO (stA 14) (Str.ofString "_law_runs") (Str.ofString "_law_runs") (Str.ofString "law_pu0032_01") 322 143),
    (145, { cls := Value.type "tuple", data := Data.seq #[] }),
    (148, { cls := Value.type "code", data := Data.fields #[Value.str (Str.ofString "_law_line") 371, Value.str (Str.ofString "_law_line") 372, Value.str (Str.ofString "/claim/cut.py") 373, Value.int 109 0, Value.int 4 0, Value.int 0 0, Value.int 0 0, Value.int 3 0, Value.ref 145, Value.bool true, Value.int 181 0, Value.ref 146, Value.none, Value.none, Value.none, Value.ref 147, Value.int 374 0, Value.int 109 0, Value.str (Str.ofString "/claim/cut.py") 375] }),
    (149, fnO (stA 15) (Str.ofString "_law_line") (Str.ofString "_law_line") (Str.ofString "law_pu0032_01") 322 148),
    (150, { cls := Value.type "tuple", data := Data.seq #[] }),
    (153, { cls := Value.type "code", data := Data.fields #[Value.str (Str.ofString "_law_ordered") 377, Value.str (Str.ofString "_law_ordered") 378, Value.str (Str.ofString "/claim/cut.py") 379, Value.int 119 0, Value.int 2 0, Value.int 0 0, Value.int 0 0, Value.int 3 0, Value.ref 150, Value.bool true, Value.int 181 0, Value.ref 151, Value.none, Value.none, Value.none, Value.ref 152, Value.int 380 0, Value.int 119 0, Value.str (Str.ofString "/claim/cut.py") 381] }),
    (154, fnO (stA 16) (Str.ofString "_law_ordered") (Str.ofString "_law_ordered") (Str.ofString "law_pu0032_01") 322 153),
    (155, { cls := Value.type "tuple", data := Data.seq #[] }),
    (158, { cls := Value.type "code", data := Data.fields #[Value.str (Str.ofString "_law_numbered") 383, Value.str (Str.ofString "_law_numbered") 384, Value.str (Str.ofString "/claim/cut.py") 385, Value.int 128 0, Value.int 3 0, Value.int 0 0, Value.int 0 0, Value.int 3 0, Value.ref 155, Value.bool true, Value.int 181 0, Value.ref 156, Value.none, Value.none, Value.none, Value.ref 157, Value.int 386 0, Value.int 128 0, Value.str (Str.ofString "/claim/cut.py") 387] }),
    (159, fnO (stA 17) (Str.ofString "_law_numbered") (Str.ofString "_law_numbered") (Str.ofString "law_pu0032_01") 322 158),
    (160, { cls := Value.type "tuple", data := Data.seq #[] }),
    (163, { cls := Value.type "code", data := Data.fields #[Value.str (Str.ofString "law") 389, Value.str (Str.ofString "law") 390, Value.str (Str.ofString "/claim/cut.py") 391, Value.int 147 0, Value.int 1 0, Value.int 0 0, Value.int 0 0, Value.int 3 0, Value.ref 160, Value.bool true, Value.int 181 0, Value.ref 161, Value.none, Value.none, Value.none, Value.ref 162, Value.int 392 0, Value.int 147 0, Value.str (Str.ofString "/claim/cut.py") 393] }),
    (164, fnO (stA 18) (Str.ofString "law") (Str.ofString "law") (Str.ofString "law_pu0032_01") 322 163)]
noncomputable def KA : List Addr := [2, 3, 22, 24, 25, 27, 28, 29, 31, 32, 34, 35, 36, 38, 39, 41, 42, 53, 55, 56, 58, 59, 60, 62, 63, 65, 66, 67, 69, 70, 72, 73, 102, 103, 104, 105, 106, 109, 112, 113, 114, 116, 117, 119, 120, 121, 123, 124, 126, 127, 128, 131, 132, 133, 136, 137, 138, 140, 141, 143, 144, 145, 148, 149, 150, 153, 154, 155, 158, 159, 160, 163, 164]
theorem KA_eq (P : Params) : KA = (KF P).map (·.1) := by kernel_rfl

noncomputable def q : Program := { pw with main := { pw.main with body := [stA 18] } }
theorem left_boot {p q : Program} {loose : List Str} {Xt : Shared → Bool} {α : Type} {Yf : Shared → α} {Ya : World → α} {N : Nat} {g0 : Bool} 
    (h0 : ∀ w : World, (fencedOpening treeTable p w N).map (fun s => (s.heap, s.gens, s.drawn, s.toks)) = some (boot_heap w.params, Array.mk [], boot_drawn, boot_toks))
    (h : ∀ w : World, (fun os => (topFrom treeTable p w N ⟨boot_heap w.params, Array.mk [], boot_drawn, boot_toks, os⟩).map (fun s => (openSeen q loose (importedModules p.main.body) Xt g0 s, Yf s))) = fun _ => some (openGood q loose, Ya w)) : LeftO p q loose Xt Yf Ya N g0 := fun w => by
  obtain ⟨⟨h', gs, d, k, os⟩, e, e'⟩ := Option.map_eq_some_iff.mp (h0 w)
  obtain ⟨rfl, rfl, rfl, rfl⟩ : h' = _ ∧ gs = _ ∧ d = _ ∧ k = _ := by simpa using e'
  unfold openEnds
  rw [e]
  exact congrFun (h w) os
theorem boot0 : ∀ w : World, (fencedOpening treeTable pw w 2000).map (fun s => (s.heap, s.gens, s.drawn, s.toks)) = some (boot_heap w.params, Array.mk [], boot_drawn, boot_toks) :=
  boot_open rfl rfl (fun _ => rfl)
theorem said0 : OpenLaw.wellSaid PySem.Challenge.rw_pu0032_01 = true := by
  rw [Fast.te9446332074065402090]
  kernel_rfl
noncomputable def loose : List Str := ["_wall","_strcoll","_strxfrm","CHAR_MAX","_grouping_intervals","Whitespace","_law_gaps","_law_sign","_law_figures","_law_lead","_law_read","_law_runs","_law_line","_law_ordered","_law_numbered"].map Str.ofString
theorem byRow3 (row : String) {P : World → Prop} (hf : ∀ w : World, P (w.withFollow row false)) (ht : ∀ w : World, P (w.withFollow row true)) : ∀ w : World, P w := byRow2 row hf ht
noncomputable def RunP (w : World) : Prop := (fun os => (Option.map (fun s => (Fast.tw4187177175401517315 q loose (Fast.tw5923862056798008813 pw.main.body) (fun _ => true) true s, KA.map s.heap.get?))
  (match (boot_heap w.params).isNs mainGlobals && (Array.mk ([] : List GenState)).size == 0 with
  | true => (Fast.tw14082659384304107361 Fast.tw14364793385576792824 pw w (boot_heap w.params).objs.size ((boot_heap w.params).nsMap mainGlobals "__annotations__") 2000 ⟨boot_heap w.params, Array.mk [], boot_drawn, boot_toks, os⟩ (topStub pw)).bind fun s₁ => match staticsOk (Fast.tw5923862056798008813 pw.main.body) (boot_heap w.params) s₁.heap && namesBound pw s₁.heap && gensDone s₁ && laidKept (boot_heap w.params) s₁.heap with
      | true => some s₁
      | false => none
  | false => none))) = fun (_ : OsState) => some (openGood q loose, (KF w.params).map fun p => some p.2)
theorem run_f (w : World) : RunP (w.withFollow "special-get-raises" false) := by unfold RunP; kernel_rfl
theorem run_t (w : World) : RunP (w.withFollow "special-get-raises" true) := by unfold RunP; kernel_rfl
theorem run0 : ∀ w : World, (fun os => (topFrom treeTable pw w 2000 ⟨boot_heap w.params, Array.mk [], boot_drawn, boot_toks, os⟩).map (fun s => (openSeen q loose (importedModules pw.main.body) (fun _ => true) true s, KA.map s.heap.get?))) = fun _ => some (openGood q loose, (KF w.params).map fun p => some p.2) := by
  unfold topFrom
  rw [Fast.te14082659384304107361, Fast.te14364793385576792824, Fast.te4187177175401517315, Fast.te5923862056798008813]
  exact byRow3 "special-get-raises" run_f run_t
theorem left0 : LeftO pw q loose (fun _ => true) (fun s => KA.map s.heap.get?) (fun w => (KF w.params).map fun p => some p.2) 2000 := left_boot boot0 run0

end Mine
namespace Mine
open PySem PySem.W PySem.Calls PyProof.Rows
/-- own small rules -/
theorem cells_acc {x : Str} (names : List (Str × NameKind)) : ∀ (n : Nat) (acc : List (Str × Addr)), (acc.lookup x).isSome = true → ((cellsFrom n names acc).lookup x).isSome = true := by
  induction names with
  | nil => intro n acc h; exact h
  | cons p r ih =>
    obtain ⟨y, k⟩ := p
    intro n acc h
    simp only [cellsFrom]
    split
    · refine ih _ _ ?_
      simp only [List.lookup]
      split
      · rfl
      · exact h
    · exact ih _ _ h
theorem cells_cell {x : Str} (names : List (Str × NameKind)) : ∀ (n : Nat) (acc : List (Str × Addr)), names.lookup x = some .cell → ((cellsFrom n names acc).lookup x).isSome = true := by
  induction names with
  | nil => intro n acc h; cases h
  | cons p r ih =>
    obtain ⟨y, k⟩ := p
    intro n acc h
    simp only [List.lookup] at h
    simp only [cellsFrom]
    by_cases e : (x == y) = true
    · rw [e] at h
      obtain rfl : k = .cell := Option.some.inj h
      rw [if_pos (by decide)]
      refine cells_acc r _ _ ?_
      simp only [List.lookup, e]; rfl
    · have e' : (x == y) = false := by simpa using e
      rw [e'] at h
      split <;> exact ih _ _ h
theorem fm_map {α β : Type} {g : α → Option β} {h : α → β} : ∀ {l : List α}, (∀ a ∈ l, g a = some (h a)) → l.filterMap g = l.map h
  | [], _ => rfl
  | a :: l, H => by
    rw [List.filterMap_cons, H a (.head _), List.map_cons]
    exact congrArg _ (fm_map fun b hb => H b (.tail _ hb))
theorem pick_rev (items : Array Value) : slicePick items none none (some (-1)) = items.toList.reverse.toArray := by
  have e : sliceRange ((items.size : Int) - 1) (-1) (-1) = (List.range items.size).map fun k => items.size - 1 - k := by
    unfold sliceRange
    rw [if_neg (by decide)]
    have c : (if (items.size : Int) - 1 > -1 then ((items.size : Int) - 1 - -1 - -1 - 1) / (- -1) else 0).toNat = items.size := by
      rw [show (- -1 : Int) = 1 from rfl, Int.ediv_one]; split <;> omega
    dsimp only
    rw [c]
    refine List.map_congr_left fun k hk => ?_
    have := List.mem_range.mp hk
    omega
  show ((sliceRange ((items.size : Int) - 1) (-1) (-1)).filterMap (items[·]?)).toArray = _
  rw [e, List.filterMap_map]
  congr 1
  by_cases h0 : items.size = 0
  · have : items = #[] := Array.size_eq_zero_iff.mp h0
    subst this; rfl
  rw [fm_map (h := fun k => (items[items.size - 1 - k]?).getD .none)]
  · refine List.ext_getElem (by simp) fun i h1 h2 => ?_
    have hi : i < items.size := by simpa using h1
    have hj : items.size - 1 - i < items.size := by omega
    simp [List.getElem_reverse, hj]
  · intro k hk
    have := List.mem_range.mp hk
    have hj : items.size - 1 - k < items.size := by omega
    simp [hj]
section
variable {prog : Program} {w : World} {A : Around} {E : Value → Shared → Prop} {s : Shared} {n : Nat}
theorem set_any {l : Addr} {items : Array Value} {k : Int} {j : Nat} {t : Tok} {v : Value} {Q : Unit → Shared → Prop} (ho : s.heap.get? l = some { cls := .type "list", data := .seq items n }) (hf : Builtin.List.listFitsIndex k = true) (hi : seqIndex? k items.size = some j) (hj : j < items.size)
    (h : Q () { s with heap := s.heap.update l (Obj.mapSeq (·.setIfInBounds j v)) }) : wpAny (model prog w) A (setItem (.ref l) (.int k t) v) Q E s := by
  have hl : s.heap.IsList l items := ⟨_, ho, rfl, n, rfl⟩
  have hx : items[j]? = some items[j] := Array.getElem?_eq_getElem hj
  unfold setItem
  refine wpAny_holding ?_
  refine wpAny_bind (wpAny_sequenceKey hl.typeIs (by decide) ?_)
  refine wpAny_bind (wpAny_callSpecial?_slot (name := Str.ofString "__setitem__") hl.typeIs slot_list_setitem (wpAny_call_entry slot_list_setitem hl.typeIs entry_list_setitem ?_ (args_list_setitem _ _ _)))
  show wpAny _ _ (Builtin.List.listSubscript? (.int k t) >>= _) _ _ s
  refine wpAny_bind (wpAny_listSubscript_int hf ?_)
  have last : ∀ {A' E'}, wpAny (model prog w) A' (setSeqItemAt l j v) (fun _ s' => Q () s') E' s := wpAny_setSeqItemAt ho rfl h
  cases k with
  | ofNat m =>
    have e : j = m := by
      unfold seqIndex? at hi
      have hm : ¬ (Int.ofNat m < 0) := by simp
      simp only [hm, if_false] at hi
      split at hi
      · have := Option.some.inj hi; simpa using this.symm
      · cases hi
    subst e
    show wpAny _ _ ((seqItemAt l j >>= fun r => pure (r.map (j, ·))) >>= _) _ _ s
    refine wpAny_bind (wpAny_bind (wpAny_seqItemAt ho rfl (wpAny_pure ?_)))
    rw [hx]
    show wpAny _ _ (setSeqItemAt l j v >>= _) _ _ s
    refine wpAny_bind (wpAny_mono last (fun _ s' h' => ?_) fun _ _ x => x)
    first
      | exact wpAny_bind (wpAny_pure (wpAny_pure ⟨.none, rfl, wpAny_pure h'⟩))
      | exact wpAny_pure ⟨.none, rfl, wpAny_pure h'⟩
  | negSucc m =>
    show wpAny _ _ ((Builtin.List.listItems (.ref l) >>= fun xs => pure ((seqIndex? (Int.negSucc m) xs.size).bind fun i => xs[i]?.map (i, ·))) >>= _) _ _ s
    refine wpAny_bind (wpAny_bind ?_)
    show wpAny _ _ (seqItems? (.ref l) >>= _) _ _ s
    refine wpAny_bind (wpAny_seqItems ho rfl ?_)
    refine wpAny_pure (wpAny_pure ?_)
    simp only [hi, Option.bind_some, hx, Option.map_some]
    show wpAny _ _ (setSeqItemAt l j v >>= _) _ _ s
    refine wpAny_bind (wpAny_mono last (fun _ s' h' => ?_) fun _ _ x => x)
    first
      | exact wpAny_bind (wpAny_pure (wpAny_pure ⟨.none, rfl, wpAny_pure h'⟩))
      | exact wpAny_pure ⟨.none, rfl, wpAny_pure h'⟩
end

end Mine

namespace Mine
open PySem PySem.W PySem.Calls PyProof.Rows

inductive D where
  | int (i : Int)
  | str (x : Str)
  | val (v : Value)

noncomputable def D.ok : D → Value → Prop
  | .int i, v => ∃ t, v = .int i t
  | .str x, v => ∃ t, v = .str x t
  | .val u, v => v = u

theorem okI {i : Int} {t : Tok} : (D.int i).ok (.int i t) := ⟨_, rfl⟩
theorem okS {x : Str} {t : Tok} : (D.str x).ok (.str x t) := ⟨_, rfl⟩
theorem okV {v : Value} : (D.val v).ok v := rfl

inductive At (x : Str) (d : D) : List Str → List (Option D) → Prop
  | head {nm vs} : At x d (x :: nm) (some d :: vs)
  | tail {y o nm vs} : At x d nm vs → At x d (y :: nm) (o :: vs)

inductive Put (x : Str) (d : D) : List Str → List (Option D) → List (Option D) → Prop
  | head {nm o vs} : Put x d (x :: nm) (o :: vs) (some d :: vs)
  | tail {y o nm vs vs'} : Put x d nm vs vs' → Put x d (y :: nm) (o :: vs) (o :: vs')

theorem At.mem {x d nm vs} (h : At x d nm vs) : x ∈ nm := by
  induction h with
  | head => exact .head _
  | tail _ ih => exact .tail _ ih
theorem Put.mem {x d nm vs vs'} (h : Put x d nm vs vs') : x ∈ nm := by
  induction h with
  | head => exact .head _
  | tail _ ih => exact .tail _ ih
theorem Put.at {x d nm vs vs'} (h : Put x d nm vs vs') (hn : nm.Nodup) {y e} (a : At y e nm vs') : (y = x ∧ e = d) ∨ (y ≠ x ∧ At y e nm vs) := by
  induction h with
  | head =>
    cases a with
    | head => exact .inl ⟨rfl, rfl⟩
    | tail a => exact .inr ⟨fun q => (List.nodup_cons.mp hn).1 (q ▸ a.mem), .tail a⟩
  | tail p ih =>
    cases a with
    | head => exact .inr ⟨fun q => (List.nodup_cons.mp hn).1 (q ▸ p.mem), .head⟩
    | tail a => exact (ih (List.nodup_cons.mp hn).2 a).imp id fun q => ⟨q.1, .tail q.2⟩

/-- what is forgotten of the names -/
inductive Wk : List (Option D) → List (Option D) → Prop
  | nil : Wk [] []
  | same {o vs vs'} : Wk vs vs' → Wk (o :: vs) (o :: vs')
  | none {o vs vs'} : Wk vs vs' → Wk (Option.none :: vs) (o :: vs')
theorem Wk.at {nm vs vs'} (h : Wk vs vs') {x d} (a : At x d nm vs) : At x d nm vs' := by
  induction h generalizing nm with
  | nil => exact a
  | same _ ih => cases a with
    | head => exact .head
    | tail a => exact .tail (ih a)
  | none _ ih => cases a with
    | tail a => exact .tail (ih a)

noncomputable abbrev OP := Obj → Prop

structure Ext (s s' : Shared) : Prop where
  heap : ∀ b o, s.heap.get? b = some o → s'.heap.get? b = some o
  gens : ∀ (i : Nat) x, s.gens[i]? = some x → s'.gens[i]? = some x
  bare : AllBare s.gens → AllBare s'.gens
  os : s'.os = s.os
theorem Ext.refl (s : Shared) : Ext s s := ⟨fun _ _ e => e, fun _ _ e => e, id, rfl⟩
theorem Ext.grow {s : Shared} {h' : Heap} {tk : Nat} (hk : ∀ b o, s.heap.get? b = some o → h'.get? b = some o) : Ext s { s with heap := h', toks := tk } :=
  ⟨hk, fun _ _ e => e, id, rfl⟩
theorem Ext.toks {s : Shared} {tk : Nat} : Ext s { s with toks := tk } := ⟨fun _ _ e => e, fun _ _ e => e, id, rfl⟩
theorem Ext.push {s : Shared} {o : Obj} {tk : Nat} : Ext s { s with heap := s.heap.push o, toks := tk } := .grow fun _ _ e => Heap.get?_push_of_some _ e

noncomputable def Own (env : Env) (nm : List Str) (c : Addr) : Prop := c = env.locals ∨ ∃ x ∈ nm, env.kindOf x = some .cell ∧ env.cells.lookup x = some c

structure Fx (hL : Heap) (s0 : Shared) (F : Addr → Option Obj) (env : Env) (nm : List Str) : Prop where
  lib : ∀ b o, hL.get? b = some o → F b = some o
  base : ∀ b o, s0.heap.get? b = some o → F b = some o
  ek : env.scope.kind = .function
  nmd : nm.Nodup
  db : ∀ x ∈ nm, (x == ("__debug__" : Str)) = false
  kd : ∀ x ∈ nm, env.kindOf x = some .local ∨ (env.kindOf x = some .cell ∧ ∃ c, env.cells.lookup x = some c)
  fr : ∀ c, Own env nm c → F c = none
  ap : ∀ x ∈ nm, ∀ c, env.kindOf x = some .cell → env.cells.lookup x = some c → c ≠ env.locals ∧ ∀ y, env.cells.lookup y = some c → y = x

structure St (hL : Heap) (s0 : Shared) (F : Addr → Option Obj) (env : Env) (nm : List Str) (vs : List (Option D)) (nw : List (Addr × OP)) (gl : List (Nat × GenState)) (s : Shared) : Prop where
  fx : Fx hL s0 F env nm
  keep : ∀ b o, F b = some o → s.heap.get? b = some o
  loc : ∃ mm, s.heap.Ns env.locals mm ∧ ∀ x d, At x d nm vs → env.kindOf x = some .local → ∃ v, mm x = some v ∧ d.ok v
  cel : ∀ x ∈ nm, ∀ c, env.kindOf x = some .cell → env.cells.lookup x = some c → ∃ ov, s.heap.IsCell c ov ∧ ∀ d, At x d nm vs → ∃ v, ov = some v ∧ d.ok v
  led : ∀ p ∈ nw, (∃ o, s.heap.get? p.1 = some o ∧ p.2 o) ∧ F p.1 = none ∧ ¬ Own env nm p.1
  nd : (nw.map (·.1)).Nodup
  gens : ∀ (i : Nat) x, s0.gens[i]? = some x → s.gens[i]? = some x
  gls : ∀ p ∈ gl, s.gens[p.1]? = some p.2 ∧ s0.gens.size ≤ p.1
  bare : AllBare s.gens
  os : s.os = s0.os

section
variable {hL : Heap} {s0 : Shared} {F : Addr → Option Obj} {env : Env} {nm : List Str} {vs vs' : List (Option D)} {nw nw' : List (Addr × OP)} {gl : List (Nat × GenState)} {s s' : Shared}

theorem St.ext (S : St hL s0 F env nm vs nw gl s) (x : Ext s s') : St hL s0 F env nm vs nw gl s' where
  fx := S.fx
  keep := fun b o e => x.heap _ _ (S.keep b o e)
  loc := let ⟨mm, a, b⟩ := S.loc; ⟨mm, a.keeps x.heap, b⟩
  cel := fun y hy c h1 h2 => let ⟨ov, a, b⟩ := S.cel y hy c h1 h2; ⟨ov, a.keeps x.heap, b⟩
  led := fun p hp => let ⟨⟨o, a, b⟩, r⟩ := S.led p hp; ⟨⟨o, x.heap _ _ a, b⟩, r⟩
  nd := S.nd
  gens := fun i y e => x.gens _ _ (S.gens i y e)
  gls := fun p hp => ⟨x.gens _ _ (S.gls p hp).1, (S.gls p hp).2⟩
  bare := x.bare S.bare
  os := x.os.trans S.os

theorem St.out (S : St hL s0 F env nm vs nw gl s) : Ext s0 s := ⟨fun b o e => S.keep _ _ (S.fx.base b o e), S.gens, fun _ => S.bare, S.os⟩
theorem St.lib (S : St hL s0 F env nm vs nw gl s) : ∀ b o, hL.get? b = some o → s.heap.get? b = some o := fun b o e => S.keep _ _ (S.fx.lib b o e)

theorem St.own_some (S : St hL s0 F env nm vs nw gl s) {c : Addr} (h : Own env nm c) : (s.heap.get? c).isSome = true := by
  rcases h with rfl | ⟨x, hx, h1, h2⟩
  · obtain ⟨mm, ⟨o, _, _, e, _⟩, _⟩ := S.loc; rw [e]; rfl
  · obtain ⟨ov, ⟨o, e, _⟩, _⟩ := S.cel x hx c h1 h2; rw [e]; rfl

/-- a new object onto the ledger -/
theorem St.add (S : St hL s0 F env nm vs nw gl s) (x : Ext s s') {a : Addr} {o : Obj} {P : OP} (hn : s.heap.get? a = none) (ho : s'.heap.get? a = some o) (hP : P o) :
    St hL s0 F env nm vs ((a, P) :: nw) gl s' :=
  { S.ext x with
    led := fun p hp => by
      rcases List.mem_cons.mp hp with rfl | hp
      · refine ⟨⟨o, ho, hP⟩, ?_, fun q => ?_⟩
        · cases q : F a with
          | none => rfl
          | some o' => rw [S.keep _ _ q] at hn; cases hn
        · have := S.own_some q; rw [hn] at this; cases this
      · exact (S.ext x).led p hp
    nd := by
      refine List.nodup_cons.mpr ⟨fun q => ?_, S.nd⟩
      obtain ⟨p, hp, rfl⟩ := List.mem_map.mp q
      obtain ⟨⟨o', e, _⟩, _⟩ := S.led p hp
      rw [hn] at e; cases e }
theorem St.none_size (_S : St hL s0 F env nm vs nw gl s) : s.heap.get? s.heap.objs.size = none := by
  cases q : s.heap.get? s.heap.objs.size with
  | none => rfl
  | some o' => exact absurd (Heap.lt_size q) (Nat.lt_irrefl _)
theorem St.alloc (S : St hL s0 F env nm vs nw gl s) {o : Obj} {P : OP} {tk : Nat} (hP : P o) (hf : o.isFreed = false := by rfl) :
    St hL s0 F env nm vs ((s.heap.objs.size, P) :: nw) gl { s with heap := s.heap.push o, toks := tk } :=
  S.add .push (by
    cases q : s.heap.get? s.heap.objs.size with
    | none => rfl
    | some o' => exact absurd (Heap.lt_size q) (Nat.lt_irrefl _)) (Heap.get?_push_size _ hf) hP

theorem St.sub (S : St hL s0 F env nm vs nw gl s) (h : nw'.Sublist nw) : St hL s0 F env nm vs nw' gl s :=
  { S with
    led := fun p hp => S.led p (h.subset hp)
    nd := (h.map _).nodup S.nd }
theorem St.tail {p : Addr × OP} (S : St hL s0 F env nm vs (p :: nw) gl s) : St hL s0 F env nm vs nw gl s := S.sub (List.sublist_cons_self _ _)
theorem St.wk (S : St hL s0 F env nm vs nw gl s) (h : Wk vs' vs) : St hL s0 F env nm vs' nw gl s :=
  { S with
    loc := let ⟨mm, a, b⟩ := S.loc; ⟨mm, a, fun x d e => b x d (h.at e)⟩
    cel := fun y hy c h1 h2 => let ⟨ov, a, b⟩ := S.cel y hy c h1 h2; ⟨ov, a, fun d e => b d (h.at e)⟩ }

/-- one entry of the ledger turned -/
inductive Rp (a : Addr) (P P' : OP) : List (Addr × OP) → List (Addr × OP) → Prop
  | head {r} : Rp a P P' ((a, P) :: r) ((a, P') :: r)
  | tail {p r r'} : Rp a P P' r r' → Rp a P P' (p :: r) (p :: r')
theorem Rp.mem {a P P' l l'} (h : Rp a P P' l l') : (a, P) ∈ l := by
  induction h with
  | head => exact .head _
  | tail _ ih => exact .tail _ ih
theorem Rp.addr {a P P' l l'} (h : Rp a P P' l l') : l'.map (·.1) = l.map (·.1) := by
  induction h with
  | head => rfl
  | tail _ ih => simp only [List.map_cons, ih]
theorem Rp.at {a P P' l l'} (h : Rp a P P' l l') (hn : (l.map (·.1)).Nodup) {p : Addr × OP} (hp : p ∈ l') : p = (a, P') ∨ (p.1 ≠ a ∧ p ∈ l) := by
  induction h with
  | head =>
    rcases List.mem_cons.mp hp with rfl | hp
    · exact .inl rfl
    · exact .inr ⟨fun q => (List.nodup_cons.mp hn).1 (List.mem_map.mpr ⟨p, hp, q⟩), .tail _ hp⟩
  | tail r ih =>
    rcases List.mem_cons.mp hp with rfl | hp
    · exact .inr ⟨fun q => (List.nodup_cons.mp hn).1 (List.mem_map.mpr ⟨_, r.mem, q.symm⟩), .head _⟩
    · exact (ih (List.nodup_cons.mp hn).2 hp).imp id fun q => ⟨q.1, .tail _ q.2⟩

theorem St.upd (S : St hL s0 F env nm vs nw gl s) {a : Addr} {P P' : OP} {o' : Obj} {h' : Heap} {tk : Nat} (r : Rp a P P' nw nw') (hs : ∀ b o, b ≠ a → s.heap.get? b = some o → h'.get? b = some o) (ho : h'.get? a = some o') (hP : P' o') :
    St hL s0 F env nm vs nw' gl { s with heap := h', toks := tk } := by
  obtain ⟨_, hFa, hOa⟩ := S.led _ r.mem
  have ne : ∀ {c}, Own env nm c → c ≠ a := fun h q => hOa (q ▸ h)
  refine { S with keep := fun b o e => hs b o (fun q => ?_) (S.keep b o e), loc := ?_, cel := ?_, led := ?_, nd := r.addr ▸ S.nd }
  · rw [q, hFa] at e; cases e
  · obtain ⟨mm, ⟨o, es, ep, e, q⟩, b⟩ := S.loc
    exact ⟨mm, ⟨o, es, ep, hs _ _ (ne (.inl rfl)) e, q⟩, b⟩
  · intro y hy c h1 h2
    obtain ⟨ov, ⟨o, e, q⟩, b⟩ := S.cel y hy c h1 h2
    exact ⟨ov, ⟨o, hs _ _ (ne (.inr ⟨y, hy, h1, h2⟩)) e, q⟩, b⟩
  · intro p hp
    rcases r.at S.nd hp with rfl | ⟨hne, hp⟩
    · exact ⟨⟨o', ho, hP⟩, hFa, hOa⟩
    · obtain ⟨⟨o, e, q⟩, z⟩ := S.led p hp
      exact ⟨⟨o, hs _ _ hne e, q⟩, z⟩

/-- what is known of an object -/
noncomputable def Bs (F : Addr → Option Obj) (a : Addr) (P : OP) : Prop := ∃ o, F a = some o ∧ P o
noncomputable def Kn (F : Addr → Option Obj) (nw : List (Addr × OP)) (a : Addr) (P : OP) : Prop := Bs F a P ∨ (a, P) ∈ nw
theorem Kn.own {F : Addr → Option Obj} {nw : List (Addr × OP)} {a : Addr} {P : OP} (h : (a, P) ∈ nw) : Kn F nw a P := .inr h
theorem Kn.bas {F : Addr → Option Obj} {nw : List (Addr × OP)} {a : Addr} {P : OP} (h : Bs F a P) : Kn F nw a P := .inl h
theorem St.get (S : St hL s0 F env nm vs nw gl s) {a : Addr} {P : OP} (k : Kn F nw a P) : ∃ o, s.heap.get? a = some o ∧ P o := by
  rcases k with ⟨o, e, p⟩ | k
  · exact ⟨o, S.keep _ _ e, p⟩
  · exact (S.led _ k).1

/-- names read and stored -/
theorem St.look (S : St hL s0 F env nm vs nw gl s) {M : Model} {A : Around} {E : Value → Shared → Prop} {Q : Value → Shared → Prop} {x : Str} {d : D} (a : At x d nm vs) (h : ∀ v, d.ok v → Q v s) : wpAny M A (loadName env x) Q E s := by
  rcases S.fx.kd x a.mem with k | ⟨k, c, hc⟩
  · obtain ⟨mm, hn, hm⟩ := S.loc
    obtain ⟨v, e, ok⟩ := hm x d a k
    exact wpAny_loadName_local S.fx.ek k hn e (h v ok)
  · obtain ⟨ov, hv, hm⟩ := S.cel x a.mem c k hc
    obtain ⟨v, rfl, ok⟩ := hm d a
    exact wpAny_loadName_cell S.fx.ek k hc hv (h v ok)
theorem r_name (S : St hL s0 F env nm vs nw gl s) {M : Model} {A : Around} {E : Value → Shared → Prop} {Q : Value → Shared → Prop} {x : Str} {pos : Pos} {d : D} (a : At x d nm vs) (h : ∀ v, d.ok v → Q v s) :
    wpAny M A (eval (.Name x pos) env) Q E s := wpAny_Name (S.look a h) (S.fx.db x a.mem)

theorem r_store (S : St hL s0 F env nm vs nw gl s) {M : Model} {A : Around} {E : Value → Shared → Prop} {Q : Unit → Shared → Prop} {x : Str} {v : Value} {d : D} (p : Put x d nm vs vs') (ok : d.ok v)
    (h : ∀ s', St hL s0 F env nm vs' nw gl s' → Q () s') : wpAny M A (storeName env x v) Q E s := by
  have hx := p.mem
  rcases S.fx.kd x hx with k | ⟨k, c, hc⟩
  · obtain ⟨mm, hn, hm⟩ := S.loc
    refine wpAny_storeName_local k hn (fun h' hn' hs => h _ ?_) (by rw [S.fx.ek]; rfl)
    have ne : ∀ b, b ≠ env.locals → ∀ o, s.heap.get? b = some o → h'.get? b = some o := fun b hb o e => (hs.2 b hb).trans e
    refine { S with keep := fun b o e => ne b (fun q => ?_) o (S.keep b o e), loc := ⟨_, hn', fun y e a ky => ?_⟩, cel := fun y hy c h1 h2 => ?_, led := fun q hq => ?_ }
    · have := S.fx.fr _ (.inl rfl); rw [← q, e] at this; cases this
    · rcases p.at S.fx.nmd a with ⟨rfl, rfl⟩ | ⟨hne, a⟩
      · exact ⟨v, by simp, ok⟩
      · obtain ⟨u, e1, e2⟩ := hm y e a ky
        exact ⟨u, by simp [hne, e1], e2⟩
    · obtain ⟨ov, ⟨o, e, q⟩, b⟩ := S.cel y hy c h1 h2
      refine ⟨ov, ⟨o, ne c (S.fx.ap y hy c h1 h2).1 o e, q⟩, fun e' a => ?_⟩
      rcases p.at S.fx.nmd a with ⟨rfl, rfl⟩ | ⟨hne, a⟩
      · rw [k] at h1; cases h1
      · exact b e' a
    · obtain ⟨⟨o, e, z⟩, z1, z2⟩ := S.led q hq
      exact ⟨⟨o, ne _ (fun w => z2 (.inl w)) o e, z⟩, z1, z2⟩
  · obtain ⟨ov, hv, hm⟩ := S.cel x hx c k hc
    refine wpAny_storeName_cell S.fx.ek k hc hv (fun h' hv' hs => h _ ?_)
    have ne : ∀ b, b ≠ c → ∀ o, s.heap.get? b = some o → h'.get? b = some o := fun b hb o e => (hs.2 b hb).trans e
    have oc : Own env nm c := .inr ⟨x, hx, k, hc⟩
    refine { S with keep := fun b o e => ne b (fun q => ?_) o (S.keep b o e), loc := ?_, cel := fun y hy c' h1 h2 => ?_, led := fun q hq => ?_ }
    · have := S.fx.fr _ oc; rw [← q, e] at this; cases this
    · obtain ⟨mm, ⟨o, es, ep, e, q⟩, b⟩ := S.loc
      refine ⟨mm, ⟨o, es, ep, ne _ (Ne.symm (S.fx.ap x hx c k hc).1) _ e, q⟩, fun y e' a ky => ?_⟩
      rcases p.at S.fx.nmd a with ⟨rfl, rfl⟩ | ⟨hne, a⟩
      · rw [k] at ky; cases ky
      · exact b y e' a ky
    · by_cases hcc : c' = c
      · subst hcc
        obtain rfl : y = x := (S.fx.ap x hx c' k hc).2 y h2
        refine ⟨_, hv', fun e' a => ?_⟩
        rcases p.at S.fx.nmd a with ⟨_, rfl⟩ | ⟨hne, a⟩
        · exact ⟨v, rfl, ok⟩
        · exact absurd rfl hne
      · obtain ⟨ov', ⟨o, e, q⟩, b⟩ := S.cel y hy c' h1 h2
        refine ⟨ov', ⟨o, ne c' hcc o e, q⟩, fun e' a => ?_⟩
        rcases p.at S.fx.nmd a with ⟨rfl, rfl⟩ | ⟨hne, a⟩
        · rw [hc] at h2; exact absurd (Option.some.inj h2).symm hcc
        · exact b e' a
    · obtain ⟨⟨o, e, z⟩, z1, z2⟩ := S.led q hq
      exact ⟨⟨o, ne _ (fun (w : q.1 = c) => z2 (w.symm ▸ oc)) o e, z⟩, z1, z2⟩
end
end Mine

namespace Mine
open PySem PySem.W PySem.Calls PyProof.Rows

inductive Oks : List D → List Value → Prop
  | nil : Oks [] []
  | cons {d v ds vs} : d.ok v → Oks ds vs → Oks (d :: ds) (v :: vs)

theorem bindL_miss (k : Str → Option NameKind) : ∀ (b : List (Str × Value)) (m : Str → Option Value) (x : Str), x ∉ b.map (·.1) → bindL k b m x = m x
  | [], _, _, _ => rfl
  | (n, v) :: r, m, x, h => by
    unfold bindL
    rw [bindL_miss k r _ x fun q => h (.tail _ q)]
    split
    · exact if_neg fun (q : x = n) => h (q ▸ List.Mem.head _)
    · rfl
theorem bindC_miss (k : Str → Option NameKind) : ∀ (b : List (Str × Value)) (m : Str → Option Value) (x : Str), x ∉ b.map (·.1) → bindC k b m x = m x
  | [], _, _, _ => rfl
  | (n, v) :: r, m, x, h => by
    unfold bindC
    rw [bindC_miss k r _ x fun q => h (.tail _ q)]
    split
    · rfl
    · exact if_neg fun (q : x = n) => h (q ▸ List.Mem.head _)
theorem bindL_hit (k : Str → Option NameKind) : ∀ (b : List (Str × Value)) (m : Str → Option Value) (x : Str) (v : Value), (b.map (·.1)).Nodup → (x, v) ∈ b → k x = some .local → bindL k b m x = some v
  | (n, u) :: r, m, x, v, hn, h, hk => by
    unfold bindL
    have hn' := List.nodup_cons.mp hn
    rcases List.mem_cons.mp h with e | h
    · cases e
      rw [bindL_miss k r _ _ hn'.1, if_pos hk]; exact if_pos rfl
    · exact bindL_hit k r _ x v hn'.2 h hk
theorem bindC_hit (k : Str → Option NameKind) : ∀ (b : List (Str × Value)) (m : Str → Option Value) (x : Str) (v : Value), (b.map (·.1)).Nodup → (x, v) ∈ b → k x = some .cell → bindC k b m x = some v
  | (n, u) :: r, m, x, v, hn, h, hk => by
    unfold bindC
    have hn' := List.nodup_cons.mp hn
    rcases List.mem_cons.mp h with e | h
    · cases e
      rw [bindC_miss k r _ _ hn'.1, if_neg (by rw [hk]; decide)]; exact if_pos rfl
    · exact bindC_hit k r _ x v hn'.2 h hk

theorem at_none {x d} : ∀ {ln : List Str}, ¬ At x d ln (ln.map fun _ => none)
  | _ :: _, .tail a => at_none a
theorem at_binds {x d} {ln : List Str} : ∀ {pn : List Str} {ds : List D} {vals : List Value}, pn.length = ds.length → Oks ds vals → At x d (pn ++ ln) (ds.map some ++ ln.map fun _ => none) → ∃ v, (x, v) ∈ pn.zip vals ∧ d.ok v
  | [], [], _, _, .nil, a => (at_none a).elim
  | _ :: pn, _ :: ds, _, h, .cons (v := v) ok r, a => by
    cases a with
    | head => exact ⟨v, .head _, ok⟩
    | tail a =>
      obtain ⟨u, hu, oku⟩ := at_binds (by simpa using h) r a
      exact ⟨u, .tail _ hu, oku⟩
theorem Oks.length {ds vs} (h : Oks ds vs) : ds.length = vs.length := by
  induction h with
  | nil => rfl
  | cons _ _ ih => simp [ih]

noncomputable def okNames (fd : FuncData) (nm : List Str) : Bool := (nm.all fun x => fd.scope.names.lookup x == some .local || fd.scope.names.lookup x == some .cell) && decide nm.Nodup && nm.all (fun x => !(x == ("__debug__" : Str)))

theorem enterG {prog : Program} {w : World} {A : Around} {R : Result → Shared → Prop} {s s0 : Shared} {F : Addr → Option Obj} {nw0 : List (Addr × OP)} {hL : Heap} {a : Addr} {o : Obj} {fd : FuncData} {body : List Stmt} {vals : List Value} {ds : List D} (pn ln : List Str)
    (hlib : ∀ b o, hL.get? b = some o → F b = some o) (hbase : ∀ b o, s0.heap.get? b = some o → F b = some o) (hkeep : ∀ b o, F b = some o → s.heap.get? b = some o)
    (hled : ∀ p ∈ nw0, (∃ o, s.heap.get? p.1 = some o ∧ p.2 o) ∧ F p.1 = none) (hnd0 : (nw0.map (·.1)).Nodup) (hgens : ∀ (i : Nat) x, s0.gens[i]? = some x → s.gens[i]? = some x) (hos : s.os = s0.os)
    (hbare : AllBare s.gens) (hlim : hL.NoLimit) (ho : hL.get? a = some o) (hdata : o.data = .func fd) (hcd : hL.CodeRec fd.code fd.qualname)
    (hroom : A.depth < recursionLimit) (hbody : fd.body = .stmts body) (hclo : fd.closure = []) (hbind : bindArgs fd ⟨vals, []⟩ = pure (pn.zip vals)) (hlen : pn.length = ds.length) (hds : Oks ds vals)
    (hok : okNames fd (pn ++ ln) = true) (hco : fd.scope.isCoroutine = false) (hgen : fd.scope.isGenerator = false) (hk : fd.scope.kind = .function)
    (h : ∀ L s₁, s.heap.get? L = none → St hL s0 F (callEnvC fd L a) (pn ++ ln) (ds.map some ++ ln.map fun _ => none) nw0 [] s₁ →
      wpAny (model prog w) (A.deeper (callEnvC fd L a)) (execs body (callEnvC fd L a)) (fun f s' => R (.ok (.ret (match f with | .ret v => v | _ => .none))) s') (fun _ _ => False) s₁) :
    codeAny (model prog w) A (.call (.ref a) ⟨vals, []⟩) R s := by
  obtain ⟨hok, hdb⟩ := Bool.and_eq_true_iff.mp hok
  obtain ⟨hall, hnd⟩ := Bool.and_eq_true_iff.mp hok
  have hnd := of_decide_eq_true hnd
  have kinds : ∀ x ∈ pn ++ ln, fd.scope.names.lookup x = some .local ∨ fd.scope.names.lookup x = some .cell := fun x hx => by
    have := List.all_eq_true.mp hall x hx
    rcases Bool.or_eq_true_iff.mp this with q | q
    · exact .inl (by simpa using q)
    · exact .inr (by simpa using q)
  have cs : ∀ n x, fd.scope.names.lookup x = some .cell → ((cellsFrom n fd.scope.names []).lookup x).isSome = true := fun n x e => cells_cell _ _ _ e
  have keys : (pn.zip vals).map (·.1) = pn := by
    rw [List.map_fst_zip]; rw [hlen, hds.length]; exact Nat.le_refl _
  have libs : ∀ b o, hL.get? b = some o → s.heap.get? b = some o := fun b o e => hkeep _ _ (hlib b o e)
  refine codeAny_call_cells hroom (libs _ _ ho) hdata (hlim.keeps libs) (hcd.keeps libs) hbody hbind hclo (fun x hx => ?_) (fun s₁ X => ?_) hco hgen hk
  · have hx' : x.1 ∈ pn := keys ▸ List.mem_map_of_mem hx
    exact (kinds x.1 (List.mem_append_left _ hx')).imp id fun e => ⟨e, cs _ _ e⟩
  · have hpn : ((pn.zip vals).map (·.1)).Nodup := by rw [keys]; exact (List.nodup_append.mp hnd).1
    have none_ge : ∀ b, s.heap.objs.size ≤ b → s.heap.get? b = none := fun b hb => by
      cases q : s.heap.get? b with
      | none => rfl
      | some o' => exact absurd (Heap.lt_size q) (Nat.not_lt.mpr hb)
    have F_none : ∀ b, s.heap.get? b = none → F b = none := fun b hb => by
      cases q : F b with
      | none => rfl
      | some o' => rw [hkeep _ _ q] at hb; cases hb
    have own_none : ∀ c, Own (callEnvC fd s.heap.objs.size a) (pn ++ ln) c → s.heap.get? c = none := fun c hc => by
      rcases hc with rfl | ⟨x, _, _, hc⟩
      · exact none_ge _ (Nat.le_refl _)
      · exact none_ge _ (Nat.le_of_lt (X.above x c (mem_of_lookup hc)))
    obtain ⟨h₁, tk, e₁⟩ := X.toInCall.same
    have S : St hL s0 F (callEnvC fd s.heap.objs.size a) (pn ++ ln) (ds.map some ++ ln.map fun _ => none) nw0 [] s₁ := by
      refine ⟨⟨hlib, hbase, hk, hnd, fun x hx => by simpa using List.all_eq_true.mp hdb x hx, fun x hx => ?_, fun c hc => F_none c (own_none c hc), fun x hx c k hc => ?_⟩, fun b o e => X.toInCall.keep _ _ (hkeep b o e), ⟨_, X.toInCall.ns, fun x d at' k => ?_⟩, fun x hx c k hc => ⟨_, X.cell x c hc, fun d at' => ?_⟩, fun p hp => ?_, hnd0, ?_, (fun _ h => nomatch h), ?_, ?_⟩
      · exact (kinds x hx).imp id fun e => ⟨e, Option.isSome_iff_exists.mp (cs _ _ e)⟩
      · exact ⟨Nat.ne_of_gt (X.above x c (mem_of_lookup hc)), fun y hy => name_of_addr X.apart (mem_of_lookup hy) (mem_of_lookup hc)⟩
      · obtain ⟨v, hv, ok⟩ := at_binds hlen hds at'
        exact ⟨v, bindL_hit _ _ _ _ _ hpn hv k, ok⟩
      · obtain ⟨v, hv, ok⟩ := at_binds hlen hds at'
        exact ⟨v, bindC_hit _ _ _ _ _ hpn hv k, ok⟩
      · obtain ⟨⟨o', e, z⟩, z1⟩ := hled p hp
        refine ⟨⟨o', X.toInCall.keep _ _ e, z⟩, z1, fun q => ?_⟩
        rw [own_none _ q] at e; cases e
      · subst e₁; exact hgens
      · subst e₁; exact hbare
      · subst e₁; exact hos
    exact wpAny_mono (h _ s₁ (none_ge _ (Nat.le_refl _)) S) (fun _ _ q => q) fun _ _ q => q.elim

theorem enter {prog : Program} {w : World} {A : Around} {E : Value → Shared → Prop} {Q : Value → Shared → Prop} {s : Shared} {hL : Heap} {a : Addr} {o : Obj} {fd : FuncData} {body : List Stmt} {vals : List Value} {ds : List D} (pn ln : List Str)
    (hlib : ∀ b o, hL.get? b = some o → s.heap.get? b = some o) (hbare : AllBare s.gens) (hlim : hL.NoLimit) (ho : hL.get? a = some o) (hdata : o.data = .func fd) (hcd : hL.CodeRec fd.code fd.qualname)
    (hroom : A.depth < recursionLimit) (hbody : fd.body = .stmts body) (hclo : fd.closure = []) (hbind : bindArgs fd ⟨vals, []⟩ = pure (pn.zip vals)) (hlen : pn.length = ds.length) (hds : Oks ds vals)
    (hok : okNames fd (pn ++ ln) = true) (hco : fd.scope.isCoroutine = false) (hgen : fd.scope.isGenerator = false) (hk : fd.scope.kind = .function)
    (h : ∀ L s₁, s.heap.get? L = none → St hL s s.heap.get? (callEnvC fd L a) (pn ++ ln) (ds.map some ++ ln.map fun _ => none) [] [] s₁ →
      wpAny (model prog w) (A.deeper (callEnvC fd L a)) (execs body (callEnvC fd L a)) (fun f s' => Q (match f with | .ret v => v | _ => .none) s') (fun _ _ => False) s₁) :
    wpAny (model prog w) A (call (.ref a) vals) Q E s :=
  wpAny_call (enterG (nw0 := []) pn ln hlib (fun _ _ e => e) (fun _ _ e => e) (fun _ h => nomatch h) List.Pairwise.nil (fun _ _ e => e) rfl hbare hlim ho hdata hcd hroom hbody hclo hbind hlen hds hok hco hgen hk h)
end Mine

namespace Mine
open PySem PySem.W PySem.Calls PyProof.Rows

section
variable {prog : Program} {w : World} {A : Around} {E : Value → Shared → Prop} {hL : Heap} {s0 : Shared} {F : Addr → Option Obj} {env : Env} {nm : List Str} {vs vs' : List (Option D)} {nw nw' : List (Addr × OP)} {gl : List (Nat × GenState)} {s : Shared} {Q : Value → Shared → Prop}

theorem c_int (S : St hL s0 F env nm vs nw gl s) {i k pos} {env' : Env} {M : Model} (h : ∀ t s', St hL s0 F env nm vs nw gl s' → Q (.int i t) s') : wpAny M A (eval (.Constant (.int i) k pos) env') Q E s :=
  wpAny_Constant_int (h _ _ (S.ext .toks))
theorem c_str (S : St hL s0 F env nm vs nw gl s) {x : Str} {k pos} {env' : Env} {M : Model} (h : ∀ t s', St hL s0 F env nm vs nw gl s' → Q (.str x t) s') : wpAny M A (eval (.Constant (.str x) k pos) env') Q E s :=
  wpAny_Constant_str (h _ _ (S.ext .toks))

theorem b_add (S : St hL s0 F env nm vs nw gl s) {a b : Int} {t u : Tok} (h : ∀ t s', St hL s0 F env nm vs nw gl s' → Q (.int (a + b) t) s') : wpAny (model prog w) A (binaryOp .Add (.int a t) (.int b u)) Q E s :=
  PyProof.Rows.add_int (h _ _ (S.ext .toks))
theorem b_sub (S : St hL s0 F env nm vs nw gl s) {a b : Int} {t u : Tok} (h : ∀ t s', St hL s0 F env nm vs nw gl s' → Q (.int (a - b) t) s') : wpAny (model prog w) A (binaryOp .Sub (.int a t) (.int b u)) Q E s :=
  PyProof.Rows.sub_int (h _ _ (S.ext .toks))
theorem mulOk {a b : Int} (h : a.natAbs < 2 ^ 63 ∨ b.natAbs < 2 ^ 63) : IntMulOk a b := by
  have bits : ∀ x : Int, x.natAbs < 2 ^ 63 → Builtin.Int.intBits x ≤ shortFactorBits := fun x hx => by
    unfold Builtin.Int.intBits shortFactorBits
    by_cases h0 : x.natAbs = 0
    · rw [Int.natAbs_eq_zero.mp h0]; decide
    · have := (Nat.log2_lt h0).mpr hx
      split <;> omega
  intro q
  simp only [Bool.and_eq_true, decide_eq_true_eq] at q
  rcases h with h | h <;> have := bits _ h <;> omega
theorem b_mul (S : St hL s0 F env nm vs nw gl s) {a b : Int} {t u : Tok} (hm : a.natAbs < 2 ^ 63 ∨ b.natAbs < 2 ^ 63) (h : ∀ t s', St hL s0 F env nm vs nw gl s' → Q (.int (a * b) t) s') : wpAny (model prog w) A (binaryOp .Mult (.int a t) (.int b u)) Q E s :=
  PyProof.Rows.mul_int (h _ _ (S.ext .toks)) (mulOk hm)
theorem b_fdiv (S : St hL s0 F env nm vs nw gl s) {a b : Int} {t u : Tok} (hb : b ≠ 0) (hs : b.natAbs < 1073741824) (h : ∀ t s', St hL s0 F env nm vs nw gl s' → Q (.int (a.fdiv b) t) s') : wpAny (model prog w) A (binaryOp .FloorDiv (.int a t) (.int b u)) Q E s :=
  PyProof.Rows.floordiv_int hb (h _ _ (S.ext .toks)) (.inl (PyProof.noPylong_small hs))
theorem b_mod (S : St hL s0 F env nm vs nw gl s) {a b : Int} {t u : Tok} (hb : b ≠ 0) (h : ∀ t s', St hL s0 F env nm vs nw gl s' → Q (.int (a.fmod b) t) s') : wpAny (model prog w) A (binaryOp .Mod (.int a t) (.int b u)) Q E s :=
  PyProof.Rows.mod_int' hb (h _ _ (S.ext .toks))
theorem b_pow (S : St hL s0 F env nm vs nw gl s) {a n : Int} {t u : Tok} (hn : 0 ≤ n) (hsz : (Builtin.Int.intBits a : Int) * n ≤ 2 ^ 27) (h : ∀ t s', St hL s0 F env nm vs nw gl s' → Q (.int (a ^ n.toNat) t) s') : wpAny (model prog w) A (binaryOp .Pow (.int a t) (.int n u)) Q E s :=
  PyProof.Rows.pow_int hn hsz (h _ _ (S.ext .toks))
theorem b_subb (S : St hL s0 F env nm vs nw gl s) {p q : Bool} (h : ∀ t s', St hL s0 F env nm vs nw gl s' → Q (.int (b2i p - b2i q) t) s') : wpAny (model prog w) A (binaryOp .Sub (.bool p) (.bool q)) Q E s :=
  PyProof.Rows.sub_bool (h _ _ (S.ext .toks))
theorem u_neg (S : St hL s0 F env nm vs nw gl s) {a : Int} {t : Tok} (h : ∀ t s', St hL s0 F env nm vs nw gl s' → Q (.int (-a) t) s') : wpAny (model prog w) A (unaryOp .USub (.int a t)) Q E s :=
  PyProof.Rows.neg_int (h _ _ (S.ext .toks))
theorem f_chr (S : St hL s0 F env nm vs nw gl s) {i : Int} {t : Tok} (h0 : 0 ≤ i) (h1 : i ≤ 1114111) (h : ∀ t s', St hL s0 F env nm vs nw gl s' → Q (.str ⟨#[i.toNat]⟩ t) s') : wpAny (model prog w) A (call (.builtin "chr") [.int i t]) Q E s :=
  chr_of_range h0 h1 (h _ _ (S.ext .toks))

section
variable {U : Unit → Shared → Prop} {M : Model}
theorem st_int (S : St hL s0 F env nm vs nw gl s) {x : Str} {i : Int} {t : Tok} (p : Put x (.int i) nm vs vs') (h : ∀ s', St hL s0 F env nm vs' nw gl s' → U () s') : wpAny M A (storeName env x (.int i t)) U E s := r_store S p ⟨_, rfl⟩ h
theorem st_str (S : St hL s0 F env nm vs nw gl s) {x y : Str} {t : Tok} (p : Put x (.str y) nm vs vs') (h : ∀ s', St hL s0 F env nm vs' nw gl s' → U () s') : wpAny M A (storeName env x (.str y t)) U E s := r_store S p ⟨_, rfl⟩ h
theorem st_val (S : St hL s0 F env nm vs nw gl s) {x : Str} {v : Value} (p : Put x (.val v) nm vs vs') (h : ∀ s', St hL s0 F env nm vs' nw gl s' → U () s') : wpAny M A (storeName env x v) U E s := r_store S p rfl h
end

/-- a global name of the text, and a built-in one -/
theorem r_glob (S : St hL s0 F env nm vs nw gl s) {M : Model} {mg : Str → Option Value} {x : Str} {pos : Pos} {v : Value} (g : hL.Ns mainGlobals mg) (e : mg x = some v) (hx : env.kindOf x = some .globalImplicit) (hg : env.globals = mainGlobals) (h : Q v s)
    (hd : (x == ("__debug__" : Str)) = false := by decide) : wpAny M A (eval (.Name x pos) env) Q E s :=
  Name_function_global S.fx.ek hx (loadGlobal_global (hg ▸ g.keeps S.lib) e h) hd
theorem r_builtin (S : St hL s0 F env nm vs nw gl s) {M : Model} {mg mb : Str → Option Value} {x : Str} {pos : Pos} {v : Value} (g : hL.Ns mainGlobals mg) (b : hL.Ns builtinsNs mb) (e : mg x = none) (e' : mb x = some v) (hx : env.kindOf x = some .globalImplicit) (hg : env.globals = mainGlobals) (hb : env.builtins = builtinsNs) (h : Q v s)
    (hd : (x == ("__debug__" : Str)) = false := by decide) : wpAny M A (eval (.Name x pos) env) Q E s :=
  Name_function_global S.fx.ek hx (loadGlobal_builtin (hg ▸ g.keeps S.lib) e (hb ▸ b.keeps S.lib) e' h) hd

theorem iteB {c : Bool} {X Y : Prop} (h1 : c = true → X) (h2 : c = false → Y) : if c = true then X else Y := by
  cases c
  · exact h2 rfl
  · exact h1 rfl
theorem iteD {p : Prop} {dp : Decidable p} {X Y : Prop} (h1 : p → X) (h2 : ¬ p → Y) : if (decide p) = true then X else Y := by
  by_cases h : p
  · rw [if_pos (decide_eq_true h)]; exact h1 h
  · rw [if_neg (by simp [h])]; exact h2 h
/-- the arguments of a call -/
theorem cw_builtin {M : Model} {pos : Pos} {id : String} {first : List Value} {e : Expr} {rest : List Expr} (h : wpAny M A (spliced (backTo pos (starEach (e :: rest) env))) (fun xs s₁ => wpAny M A (call (.builtin id) (first ++ xs)) Q E s₁) E s)
    (he : starEach (e :: rest) env = (false, eval e env) :: starEach rest env := by rfl) (hplain : (backTo pos (starEach rest env)).any (·.1) = false := by rfl) :
    wpAny M A (callWith pos (.builtin id) first (backTo pos (starEach (e :: rest) env)) []) Q E s := by
  rw [he] at h ⊢
  exact callWith_builtin (by show (false || (backTo pos (starEach rest env)).any (·.1)) = false; rw [hplain]; rfl) (evalArgs_plain h)
theorem cw_b0 {M : Model} {pos : Pos} {id : String} {e : Expr} {rest : List Expr} (h : wpAny M A (spliced (backTo pos (starEach (e :: rest) env))) (fun xs s₁ => wpAny M A (call (.builtin id) xs) Q E s₁) E s)
    (he : starEach (e :: rest) env = (false, eval e env) :: starEach rest env := by rfl) (hplain : (backTo pos (starEach rest env)).any (·.1) = false := by rfl) :
    wpAny M A (callWith pos (.builtin id) [] (backTo pos (starEach (e :: rest) env)) []) Q E s := cw_builtin h he hplain
theorem cw_b1 {M : Model} {pos : Pos} {id : String} {x : Value} {e : Expr} {rest : List Expr} (h : wpAny M A (spliced (backTo pos (starEach (e :: rest) env))) (fun xs s₁ => wpAny M A (call (.builtin id) (x :: xs)) Q E s₁) E s)
    (he : starEach (e :: rest) env = (false, eval e env) :: starEach rest env := by rfl) (hplain : (backTo pos (starEach rest env)).any (·.1) = false := by rfl) :
    wpAny M A (callWith pos (.builtin id) [x] (backTo pos (starEach (e :: rest) env)) []) Q E s := cw_builtin h he hplain
theorem r_meth {M : Model} {o : Expr} {name : Str} {apos pos : Pos} {args : List Expr} {pl : Sem Bool}
    (h : wpAny M A (eval o env) (fun ov s₁ => wpAny M A (getMethod ov name pl) (fun fx s₂ => match fx with | (f, first) => wpAny M A (callWith pos f first (backTo pos (starEach args env)) []) Q E s₂) E s₁) E s)
    (he : eval (.Call (.Attribute o name apos) args [] pos) env = (do let ov ← eval o env; standAt apos.atName; let (f, first) ← holding [ov] (getMethod ov name pl); callWith pos f first (backTo pos (starEach args env)) []) := by rfl) :
    wpAny M A (eval (.Call (.Attribute o name apos) args [] pos) env) Q E s := MethodCall_ h he
end
end Mine

namespace Mine
open PySem PySem.W PySem.Calls PyProof.Rows

/-- the whole heap, as the library's frames and ledgers want it -/
noncomputable def cut (h : Heap) (L : Nat) : Heap := ⟨h.objs.take L, h.life⟩
theorem cut_get {h : Heap} {L b : Nat} : (cut h L).get? b = if b < L then h.get? b else none := by
  unfold cut Heap.get?
  by_cases hb : b < L
  · rw [if_pos hb]
    have : (h.objs.take L)[b]? = h.objs[b]? := by
      simp only [Array.take_eq_extract, Array.getElem?_extract]
      split
      · simp
      · rename_i q; exact (Array.getElem?_eq_none (by omega)).symm
    rw [this]
  · rw [if_neg hb]
    have : (h.objs.take L)[b]? = none := by
      simp only [Array.take_eq_extract, Array.getElem?_extract]
      rw [if_neg (by omega)]
    rw [this]
theorem whole {h : Heap} {L : Addr} {m : Str → Option Value} (hn : h.Ns L m) : ∃ h₀ news, Fr h₀ L h m ∧ News h₀ L h news ∧ (∀ p ∈ news, h.get? p.1 = some p.2) ∧
    ∀ h', Fr h₀ L h' m → News h₀ L h' news → ∀ b o, b ≠ L → h.get? b = some o → h'.get? b = some o := by
  refine ⟨cut h L, (List.range h.objs.size).filterMap fun b => if L < b then (h.get? b).map (b, ·) else none, ⟨hn, fun b o e => ?_, ?_⟩, fun p hp => ?_, fun p hp => ?_, fun h' F' N' b o hb e => ?_⟩
  · rw [cut_get] at e; split at e
    · exact e
    · cases e
  · show (h.objs.take L).size ≤ L
    simp only [Array.take_eq_extract, Array.size_extract]; omega
  · obtain ⟨b, _, e⟩ := List.mem_filterMap.mp hp
    split at e
    · rename_i hl
      obtain ⟨o, e1, rfl⟩ := Option.map_eq_some_iff.mp e
      exact ⟨e1, Nat.ne_of_gt hl, by rw [cut_get, if_neg (Nat.not_lt.mpr (Nat.le_of_lt hl))]⟩
    · cases e
  · obtain ⟨b, _, e⟩ := List.mem_filterMap.mp hp
    split at e
    · obtain ⟨o, e1, rfl⟩ := Option.map_eq_some_iff.mp e
      exact e1
    · cases e
  · by_cases hl : b < L
    · exact F'.keep b o (by rw [cut_get, if_pos hl]; exact e)
    · have : L < b := Nat.lt_of_le_of_ne (Nat.not_lt.mp hl) (Ne.symm hb)
      exact (N' (b, o) (List.mem_filterMap.mpr ⟨b, List.mem_range.mpr (Heap.lt_size e), by rw [if_pos this, e]; rfl⟩)).1
end Mine

namespace Mine
open PySem PySem.W PySem.Calls PyProof.Rows

noncomputable def LO (ds : List D) : OP := fun o => ∃ (vs : List Value) (n : Nat), o = { cls := .type "list", data := .seq vs.toArray n } ∧ Oks ds vs
noncomputable def TO (ds : List D) : OP := fun o => ∃ (vs : List Value) (n : Nat), o = { cls := .type "tuple", data := .seq vs.toArray n } ∧ Oks ds vs

theorem Oks.append {ds es : List D} {vs us : List Value} (h : Oks ds vs) (k : Oks es us) : Oks (ds ++ es) (vs ++ us) := by
  induction h with
  | nil => exact k
  | cons a _ ih => exact .cons a ih
theorem Oks.get {ds : List D} {vs : List Value} (h : Oks ds vs) {i : Nat} {d : D} (e : ds[i]? = some d) : ∃ v, vs[i]? = some v ∧ d.ok v := by
  induction h generalizing i with
  | nil => simp at e
  | cons a _ ih => cases i with
    | zero => simp at e; subst e; exact ⟨_, rfl, a⟩
    | succ i => simp at e; simpa using ih e
theorem Oks.set {ds : List D} {vs : List Value} (h : Oks ds vs) {i : Nat} {d : D} {v : Value} (ok : d.ok v) : Oks (ds.set i d) (vs.set i v) := by
  induction h generalizing i with
  | nil => exact .nil
  | cons a r ih => cases i with
    | zero => exact .cons ok r
    | succ i => exact .cons a ih
theorem Oks.take {ds : List D} {vs : List Value} (h : Oks ds vs) (k : Nat) : Oks (ds.take k) (vs.take k) := by
  induction h generalizing k with
  | nil => simp; exact .nil
  | cons a _ ih => cases k with
    | zero => exact .nil
    | succ k => exact .cons a (ih k)

theorem LO.isList {ds : List D} {o : Obj} (h : LO ds o) {hp : Heap} {a : Addr} (e : hp.get? a = some o) : ∃ vs, hp.IsList a vs.toArray ∧ Oks ds vs := by
  obtain ⟨vs, n, rfl, ok⟩ := h
  exact ⟨vs, ⟨_, e, rfl, n, rfl⟩, ok⟩
theorem LO.plain {ds : List D} {o : Obj} (h : LO ds o) {hp : Heap} {a : Addr} (e : hp.get? a = some o) : ∃ vs, hp.PlainList a vs.toArray ∧ Oks ds vs := by
  obtain ⟨vs, n, rfl, ok⟩ := h
  exact ⟨vs, ⟨n, e⟩, ok⟩
theorem LO.of_plain {ds : List D} {hp : Heap} {a : Addr} {its : Array Value} {vs : List Value} (h : hp.PlainList a its) (e : its.toList = vs) (ok : Oks ds vs) : ∃ o, hp.get? a = some o ∧ LO ds o := by
  obtain ⟨n, e'⟩ := h
  subst e
  exact ⟨_, e', its.toList, n, by simp, ok⟩
theorem TO.isTup {ds : List D} {o : Obj} (h : TO ds o) {hp : Heap} {a : Addr} (e : hp.get? a = some o) : ∃ vs, IsTup hp a vs.toArray ∧ Oks ds vs := by
  obtain ⟨vs, n, rfl, ok⟩ := h
  exact ⟨vs, ⟨_, e, rfl, n, rfl⟩, ok⟩

/-- some entries of a ledger, in another order -/
inductive Ex1 (p : Addr × OP) : List (Addr × OP) → List (Addr × OP) → Prop
  | head {l} : Ex1 p (p :: l) l
  | tail {q l l'} : Ex1 p l l' → Ex1 p (q :: l) (q :: l')
inductive Sel : List (Addr × OP) → List (Addr × OP) → Prop
  | nil {l} : Sel l []
  | cons {p l l' r} : Ex1 p l l' → Sel l' r → Sel l (p :: r)
theorem Ex1.mem {p l l'} (h : Ex1 p l l') : p ∈ l ∧ (∀ q ∈ l', q ∈ l) := by
  induction h with
  | head => exact ⟨.head _, fun q hq => .tail _ hq⟩
  | tail _ ih => exact ⟨.tail _ ih.1, fun q hq => by
      rcases List.mem_cons.mp hq with rfl | hq
      · exact .head _
      · exact .tail _ (ih.2 q hq)⟩
theorem Ex1.nodup {p l l'} (h : Ex1 p l l') (hn : (l.map (·.1)).Nodup) : (l'.map (·.1)).Nodup ∧ p.1 ∉ l'.map (·.1) := by
  induction h with
  | head => exact (List.nodup_cons.mp hn).symm
  | @tail q l l' e ih =>
    obtain ⟨h1, h2⟩ := List.nodup_cons.mp hn
    obtain ⟨i1, i2⟩ := ih h2
    have sub : ∀ a, a ∈ l'.map (·.1) → a ∈ l.map (·.1) := fun a ha => by
      obtain ⟨r, hr, rfl⟩ := List.mem_map.mp ha
      exact List.mem_map.mpr ⟨r, e.mem.2 r hr, rfl⟩
    refine ⟨List.nodup_cons.mpr ⟨fun z => h1 (sub _ z), i1⟩, fun z => ?_⟩
    rcases List.mem_cons.mp z with z | z
    · exact h1 (z ▸ List.mem_map.mpr ⟨p, e.mem.1, rfl⟩)
    · exact i2 z
theorem Sel.mem {l r} (h : Sel l r) : ∀ {p}, p ∈ r → p ∈ l := by
  induction h with
  | nil => intro p hp; cases hp
  | cons e _ ih =>
    intro p hp
    rcases List.mem_cons.mp hp with rfl | hp
    · exact e.mem.1
    · exact e.mem.2 _ (ih hp)
theorem Sel.nodup {l r} (h : Sel l r) (hn : (l.map (·.1)).Nodup) : (r.map (·.1)).Nodup := by
  induction h with
  | nil => exact List.Pairwise.nil
  | cons e s ih =>
    obtain ⟨n1, n2⟩ := e.nodup hn
    refine List.nodup_cons.mpr ⟨fun z => ?_, ih n1⟩
    obtain ⟨q, hq, hz⟩ := List.mem_map.mp z
    exact n2 (List.mem_map.mpr ⟨q, s.mem hq, hz⟩)

section
variable {prog : Program} {w : World} {A : Around} {E : Value → Shared → Prop} {hL : Heap} {s0 : Shared} {F : Addr → Option Obj} {env : Env} {nm : List Str} {vs vs' : List (Option D)} {nw nw' : List (Addr × OP)} {gl : List (Nat × GenState)} {s : Shared} {Q : Value → Shared → Prop} {ds es : List D}

theorem m_list (S : St hL s0 F env nm vs nw gl s) {M : Model} {us : List Value} (ok : Oks ds us) (hsz : us.length ≤ sizeLine) (h : ∀ a s', s.heap.get? a = none → St hL s0 F env nm vs ((a, LO ds) :: nw) gl s' → Q (.ref a) s') : wpAny M A (newList us) Q E s :=
  wpAny_newList (h _ _ (S.none_size) (S.alloc ⟨us, 0, rfl, ok⟩)) hsz
theorem m_tuple (S : St hL s0 F env nm vs nw gl s) {M : Model} {us : List Value} (ok : Oks ds us) (hsz : us.length ≤ sizeLine) (h : ∀ a s', s.heap.get? a = none → St hL s0 F env nm vs ((a, TO ds) :: nw) gl s' → Q (.ref a) s') : wpAny M A (newTuple us) Q E s :=
  wpAny_newTuple (h _ _ (S.none_size) (S.alloc ⟨us, 0, rfl, ok⟩)) hsz

theorem St.sel (S : St hL s0 F env nm vs nw gl s) (h : Sel nw nw') : St hL s0 F env nm vs nw' gl s :=
  { S with
    led := fun p hp => S.led p (h.mem hp)
    nd := h.nodup S.nd }
theorem St.updL (S : St hL s0 F env nm vs nw gl s) {a : Addr} {P P' : OP} {o' : Obj} {h' : Heap} {tk : Nat} (r : Rp a P P' nw nw') (hs : ∀ b o, b ≠ env.locals → b ≠ a → s.heap.get? b = some o → h'.get? b = some o) (hn : ∀ mm, s.heap.Ns env.locals mm → h'.Ns env.locals mm) (ho : h'.get? a = some o') (hP : P' o') :
    St hL s0 F env nm vs nw' gl { s with heap := h', toks := tk } := by
  obtain ⟨_, hFa, hOa⟩ := S.led _ r.mem
  have ne : ∀ {c}, Own env nm c → c ≠ a := fun h q => hOa (q ▸ h)
  refine { S with keep := fun b o e => hs b o (fun q => ?_) (fun q => ?_) (S.keep b o e), loc := ?_, cel := ?_, led := ?_, nd := r.addr ▸ S.nd }
  · have := S.fx.fr _ (.inl rfl); rw [← q, e] at this; cases this
  · rw [q, hFa] at e; cases e
  · obtain ⟨mm, q, b⟩ := S.loc
    exact ⟨mm, hn mm q, b⟩
  · intro y hy c h1 h2
    obtain ⟨ov, ⟨o, e, q⟩, b⟩ := S.cel y hy c h1 h2
    exact ⟨ov, ⟨o, hs _ _ (S.fx.ap y hy c h1 h2).1 (ne (.inr ⟨y, hy, h1, h2⟩)) e, q⟩, b⟩
  · intro p hp
    rcases r.at S.nd hp with rfl | ⟨hne, hp⟩
    · exact ⟨⟨o', ho, hP⟩, hFa, hOa⟩
    · obtain ⟨⟨o, e, q⟩, z1, z2⟩ := S.led p hp
      exact ⟨⟨o, hs _ _ (fun q => z2 (.inl q)) hne e, q⟩, z1, z2⟩
theorem St.updS (S : St hL s0 F env nm vs nw gl s) {a : Addr} {P P' : OP} {h' : Heap} {tk : Nat} (r : Rp a P P' nw nw') (hs : Heap.SameBut a s.heap h') (ho : ∃ o, h'.get? a = some o ∧ P' o) : St hL s0 F env nm vs nw' gl { s with heap := h', toks := tk } :=
  let ⟨_, e, p⟩ := ho; S.upd r (fun b o hb e => (hs.2 b hb).trans e) e p

theorem l_append (S : St hL s0 F env nm vs nw gl s) {a : Addr} {d : D} {v : Value} (r : Rp a (LO ds) (LO (ds ++ [d])) nw nw') (ok : d.ok v) (hsz : ds.length ≤ sizeLine) (h : ∀ s', St hL s0 F env nm vs nw' gl s' → Q .none s') :
    wpAny (model prog w) A (call (.builtin "list.append") [.ref a, v]) Q E s := by
  obtain ⟨o, e, p⟩ := S.get (.inr r.mem)
  obtain ⟨us, hp, oks⟩ := p.plain e
  refine wpAny_list_append_plain hp (fun h' hp' hs => h _ (S.updS r hs ?_)) (by rw [List.size_toArray, ← oks.length]; exact hsz)
  exact LO.of_plain hp' (by simp) (oks.append (.cons ok .nil))
theorem l_get (S : St hL s0 F env nm vs nw gl s) {value slice : Expr} {a : Addr} {k : Int} {t : Tok} {d : D} (kn : Kn F nw a (LO ds)) (h0 : 0 ≤ k) (h1 : k < 2 ^ 63) (e : ds[k.toNat]? = some d) (h : ∀ v, d.ok v → Q v s)
    (hs : subscripted slice false (.ref a) (.int k t) = operate [.ref a, .int k t] (getItem (.ref a) (.int k t)) := by with_unfolding_all rfl) : wpAny (model prog w) A (subscriptTail value slice (.ref a) (.int k t)) Q E s := by
  obtain ⟨o, eo, p⟩ := S.get kn
  obtain ⟨us, hp, oks⟩ := p.isList eo
  obtain ⟨v, ev, ok⟩ := oks.get e
  exact tail_any hp.typeIs slot_list_getitem.lookup (wpAny_getItem_list hp h0 h1 (by simpa using ev) (h v ok)) hs
theorem l_getN (S : St hL s0 F env nm vs nw gl s) {value slice : Expr} {a : Addr} {k : Int} {t : Tok} {d : D} (kn : Kn F nw a (LO ds)) (h0 : k < 0) (h1 : -(ds.length : Int) ≤ k) (h2 : -(2 ^ 63) ≤ k) (e : ds[(k + ds.length).toNat]? = some d) (h : ∀ v, d.ok v → Q v s)
    (hs : subscripted slice false (.ref a) (.int k t) = operate [.ref a, .int k t] (getItem (.ref a) (.int k t)) := by with_unfolding_all rfl) : wpAny (model prog w) A (subscriptTail value slice (.ref a) (.int k t)) Q E s := by
  obtain ⟨o, eo, p⟩ := S.get kn
  obtain ⟨us, hp, oks⟩ := p.isList eo
  obtain ⟨v, ev, ok⟩ := oks.get e
  rw [oks.length] at h1 ev
  exact tail_any hp.typeIs slot_list_getitem.lookup (wpAny_getItem_list_neg hp h0 (by simpa using h1) h2 (by simpa using ev) (h v ok)) hs
theorem l_set (S : St hL s0 F env nm vs nw gl s) {U : Unit → Shared → Prop} {a : Addr} {k : Int} {t : Tok} {d : D} {v : Value} (r : Rp a (LO ds) (LO (ds.set k.toNat d)) nw nw') (ok : d.ok v) (h0 : 0 ≤ k) (h1 : k < 2 ^ 63) (h2 : k < ds.length) (h : ∀ s', St hL s0 F env nm vs nw' gl s' → U () s') :
    wpAny (model prog w) A (setItem (.ref a) (.int k t) v) U E s := by
  obtain ⟨o, eo, us, n, rfl, oks⟩ := S.get (.inr r.mem)
  have hj : k.toNat < us.toArray.size := by rw [List.size_toArray, ← oks.length]; omega
  refine set_any (n := n) eo (fitsIndex_of h0 h1) (by unfold seqIndex?; simp only [if_neg (Int.not_lt.mpr h0)]; rw [if_pos (by simp only [Bool.and_eq_true, decide_eq_true_eq]; omega)]) hj (h _ (S.updS r (Heap.SameBut.update ..) ⟨_, Heap.get?_update_self _ eo rfl, ?_⟩))
  refine ⟨us.set k.toNat v, n, ?_, oks.set ok⟩
  simp [Obj.mapSeq]
/-- the frame's own object may be laid anew with the same names -/
theorem St.move (S : St hL s0 F env nm vs nw gl s) {h' : Heap} {tk : Nat} (hs : ∀ b o, b ≠ env.locals → s.heap.get? b = some o → h'.get? b = some o) (hn : ∀ mm, s.heap.Ns env.locals mm → h'.Ns env.locals mm) : St hL s0 F env nm vs nw gl { s with heap := h', toks := tk } := by
  refine { S with keep := fun b o e => hs b o (fun q => ?_) (S.keep b o e), loc := ?_, cel := fun y hy c h1 h2 => ?_, led := fun p hp => ?_ }
  · have := S.fx.fr _ (.inl rfl); rw [← q, e] at this; cases this
  · obtain ⟨mm, a, b⟩ := S.loc; exact ⟨mm, hn mm a, b⟩
  · obtain ⟨ov, ⟨o, e, q⟩, b⟩ := S.cel y hy c h1 h2
    exact ⟨ov, ⟨o, hs c o (S.fx.ap y hy c h1 h2).1 e, q⟩, b⟩
  · obtain ⟨⟨o, e, z⟩, z1, z2⟩ := S.led p hp
    exact ⟨⟨o, hs _ o (fun q => z2 (.inl q)) e, z⟩, z1, z2⟩
theorem St.moveAdd (S : St hL s0 F env nm vs nw gl s) {h' : Heap} {tk : Nat} (hs : ∀ b o, b ≠ env.locals → s.heap.get? b = some o → h'.get? b = some o) (hn : ∀ mm, s.heap.Ns env.locals mm → h'.Ns env.locals mm) {a : Addr} {o : Obj} {P : OP} (ha : s.heap.get? a = none) (ho : h'.get? a = some o) (hP : P o) :
    St hL s0 F env nm vs ((a, P) :: nw) gl { s with heap := h', toks := tk } := by
  have S' := S.move (tk := tk) hs hn
  refine { S' with led := fun p hp => ?_, nd := ?_ }
  · rcases List.mem_cons.mp hp with rfl | hp
    · refine ⟨⟨o, ho, hP⟩, ?_, fun q => ?_⟩
      · cases q : F a with
        | none => rfl
        | some o' => rw [S.keep _ _ q] at ha; cases ha
      · have := S.own_some q; rw [ha] at this; cases this
    · exact S'.led p hp
  · refine List.nodup_cons.mpr ⟨fun q => ?_, S.nd⟩
    obtain ⟨p, hp, rfl⟩ := List.mem_map.mp q
    obtain ⟨⟨o', e, _⟩, _⟩ := S.led p hp
    rw [ha] at e; cases e
theorem Ns.uniq {h : Heap} {a : Addr} {m m' : Str → Option Value} (x : h.Ns a m) (y : h.Ns a m') : m = m' := by
  obtain ⟨o, es, ep, e, d, _, f⟩ := x
  obtain ⟨o', es', ep', e', d', _, f'⟩ := y
  rw [e] at e'; cases e'
  rw [d] at d'; cases d'
  exact funext fun n => (f n).symm.trans (f' n)

theorem b_cat (S : St hL s0 F env nm vs nw gl s) {a b : Addr} (ka : Kn F nw a (LO ds)) (kb : Kn F nw b (LO es)) (hsz : ds.length + es.length ≤ sizeLine) (h : ∀ c s', s.heap.get? c = none → St hL s0 F env nm vs ((c, LO (ds ++ es)) :: nw) gl s' → Q (.ref c) s') :
    wpAny (model prog w) A (binaryOp .Add (.ref a) (.ref b)) Q E s := by
  obtain ⟨o, eo, p⟩ := S.get ka
  obtain ⟨us, hp, oks⟩ := p.isList eo
  obtain ⟨o', eo', p'⟩ := S.get kb
  obtain ⟨us', hp', oks'⟩ := p'.isList eo'
  obtain ⟨mm, hn, _⟩ := S.loc
  obtain ⟨h₀, news, Fr₀, N₀, _, W⟩ := whole hn
  refine add_lists Fr₀ N₀ hp hp' (fun h' F' N' => h _ _ S.none_size ?_) (by rw [← oks.length, ← oks'.length]; exact hsz)
  exact S.moveAdd (tk := s.toks) (fun b o hb e => W h' F' (fun p hp => N' p (.tail _ hp)) b o hb e) (fun m' hm => Ns.uniq hn hm ▸ F'.ns) S.none_size (N' _ (.head _)).1 ⟨us ++ us', 0, rfl, oks.append oks'⟩
theorem Oks.rep {ds : List D} {us : List Value} (h : Oks ds us) : ∀ k, Oks (List.replicate k ds).flatten (List.replicate k us).flatten
  | 0 => .nil
  | k + 1 => by simp only [List.replicate_succ, List.flatten_cons]; exact h.append (h.rep k)
theorem foldl_arrays (us : List Value) : ∀ (k : Nat) (acc : List Value), (List.replicate k us.toArray).foldl (fun x1 x2 => x1 ++ x2) acc.toArray = (acc ++ (List.replicate k us).flatten).toArray
  | 0, acc => by simp
  | k + 1, acc => by
    simp only [List.replicate_succ, List.foldl_cons, List.flatten_cons]
    have := foldl_arrays us k (acc ++ us)
    simpa using this
theorem b_rep (S : St hL s0 F env nm vs nw gl s) {a : Addr} {k : Int} {t : Tok} (ka : Kn F nw a (LO ds)) (hlo : -(2 ^ 63 : Int) ≤ k) (hhi : k < 2 ^ 63) (hsz : ds.length * k.toNat ≤ 2 ^ 24) (h : ∀ c s', s.heap.get? c = none → St hL s0 F env nm vs ((c, LO (List.replicate k.toNat ds).flatten) :: nw) gl s' → Q (.ref c) s') :
    wpAny (model prog w) A (binaryOp .Mult (.ref a) (.int k t)) Q E s := by
  obtain ⟨o, eo, us, n, rfl, oks⟩ := S.get ka
  obtain ⟨mm, hn, _⟩ := S.loc
  obtain ⟨h₀, news, Fr₀, N₀, _, W⟩ := whole hn
  refine PyProof.Rows.mul_list Fr₀ N₀ eo hlo hhi (by rw [List.size_toArray, ← oks.length]; exact hsz) (fun h' F' N' => h _ _ S.none_size ?_)
  refine S.moveAdd (tk := s.toks) (fun b o hb e => W h' F' (fun p hp => N' p (.tail _ hp)) b o hb e) (fun m' hm => Ns.uniq hn hm ▸ F'.ns) S.none_size (N' _ (.head _)).1 ⟨(List.replicate k.toNat us).flatten, 0, ?_, oks.rep _⟩
  have e1 := foldl_arrays us k.toNat []
  simp only [List.nil_append] at e1
  by_cases he : us = []
  · subst he; simp
  · have e2 : us.toArray.isEmpty = false := by simpa using he
    simp only [e2, Bool.false_eq_true, if_false]
    rw [← e1]
theorem f_lenL (S : St hL s0 F env nm vs nw gl s) {a : Addr} (kn : Kn F nw a (LO ds)) (hz : (ds.length : Int) < 2 ^ 63) (h : ∀ t s', St hL s0 F env nm vs nw gl s' → Q (.int ds.length t) s') : wpAny (model prog w) A (call (.builtin "len") [.ref a]) Q E s := by
  obtain ⟨o, eo, p⟩ := S.get kn
  obtain ⟨us, hp, oks⟩ := p.isList eo
  refine PyProof.Rows.len_list hp (by simpa [← oks.length] using hz) ?_
  have := h (s.toks + 1) _ (S.ext (.toks (tk := s.toks + 1 + 1)))
  simpa [← oks.length] using this
theorem f_lenT (S : St hL s0 F env nm vs nw gl s) {a : Addr} (kn : Kn F nw a (TO ds)) (hz : (ds.length : Int) < 2 ^ 63) (h : ∀ t s', St hL s0 F env nm vs nw gl s' → Q (.int ds.length t) s') : wpAny (model prog w) A (call (.builtin "len") [.ref a]) Q E s := by
  obtain ⟨o, eo, p⟩ := S.get kn
  obtain ⟨us, hp, oks⟩ := p.isTup eo
  refine PyProof.Rows.len_tuple hp (by simpa [← oks.length] using hz) ?_
  have := h (s.toks + 1) _ (S.ext (.toks (tk := s.toks + 1 + 1)))
  simpa [← oks.length] using this
theorem f_lenS (S : St hL s0 F env nm vs nw gl s) {x : Str} {t : Tok} (hz : (x.length : Int) < 2 ^ 63) (h : ∀ t s', St hL s0 F env nm vs nw gl s' → Q (.int x.length t) s') : wpAny (model prog w) A (call (.builtin "len") [.str x t]) Q E s :=
  PyProof.Rows.len_str (by omega) (h _ _ (S.ext .toks))
end
end Mine

namespace Mine
open PySem PySem.W PySem.Calls PyProof.Rows
open PySem.Builtin.Str (strSliceIndices)

noncomputable def SLC (l u st : Value) : OP := fun o => o = { cls := .type "slice", data := .fields #[l, u, st] }
noncomputable def SlMk (l u st : Value) (Q : Value → Shared → Prop) (s : Shared) : Prop := Q (.ref s.heap.objs.size) { s with heap := s.heap.push { cls := .type "slice", data := .fields #[l, u, st] } }
/-- a text by its code points -/
noncomputable abbrev T (l : List Nat) : Str := ⟨l.toArray⟩

section
variable {prog : Program} {w : World} {A : Around} {E : Value → Shared → Prop} {hL : Heap} {s0 : Shared} {F : Addr → Option Obj} {env : Env} {nm : List Str} {vs vs' : List (Option D)} {nw nw' : List (Addr × OP)} {gl : List (Nat × GenState)} {s : Shared} {Q : Value → Shared → Prop} {ds es : List D}

theorem SlMk.intro (S : St hL s0 F env nm vs nw gl s) {l u st : Value} (h : ∀ a s', St hL s0 F env nm vs ((a, SLC l u st) :: nw) gl s' → Q (.ref a) s') : SlMk l u st Q s := h _ _ (S.alloc (tk := s.toks) rfl)
theorem r_slice {M : Model} {env' : Env} {lower upper step : Option Expr} {p : Pos} (h : wpAny M A (evalPart lower env') (fun l s₁ => wpAny M A (evalPart upper env') (fun u s₂ => wpAny M A (evalPart step env') (fun st s₃ => SlMk l u st Q s₃) E s₂) E s₁) E s) : wpAny M A (eval (.Slice lower upper step p) env') Q E s := wpAny_Slice h

theorem ls_any {sl : Addr} {vl vu vst : Value} (S : St hL s0 F env nm vs ((sl, SLC vl vu vst) :: nw) gl s) {value slice : Expr} {a : Addr} {lo hi st : Option Int} {es : List D} {ops : List Value}
    (kn : Kn F nw a (LO ds)) (pl : IsPart vl lo) (pu : IsPart vu hi) (ps : IsPart vst st) (h0 : st ≠ some 0) (hsz : ds.length ≤ sizeLine) (hp : ∀ us : List Value, Oks ds us → Oks es (slicePick us.toArray lo hi st).toList)
    (h : ∀ c s', St hL s0 F env nm vs ((c, LO es) :: nw) gl s' → Q (.ref c) s') (hs : subscripted slice false (.ref a) (.ref sl) = operate ops (getItem (.ref a) (.ref sl))) :
    wpAny (model prog w) A (subscriptTail value slice (.ref a) (.ref sl)) Q E s := by
  obtain ⟨o, eo, p⟩ := S.tail.get kn
  obtain ⟨us, hl, oks⟩ := p.isList eo
  obtain ⟨os, es', ps'⟩ := S.get (.inr (.head _))
  refine tail_any hl.typeIs slot_list_getitem.lookup (wpAny_getItem_list_slice hl ⟨_, es', by rw [ps'], by rw [ps']⟩ pl pu ps h0 (h _ _ (S.tail.alloc (tk := s.toks) ?_)) (by rw [List.size_toArray, ← oks.length]; exact hsz)) hs
  exact ⟨(slicePick us.toArray lo hi st).toList, 0, by simp, hp us oks⟩
theorem ls_upto {sl : Addr} {k : Int} {t : Tok} (S : St hL s0 F env nm vs ((sl, SLC .none (.int k t) .none) :: nw) gl s) {value : Expr} {lo hi : Option Expr} {p : Pos} {a : Addr} (kn : Kn F nw a (LO ds)) (h0 : 0 ≤ k) (hsz : ds.length ≤ sizeLine)
    (h : ∀ c s', St hL s0 F env nm vs ((c, LO (ds.take k.toNat)) :: nw) gl s' → Q (.ref c) s') : wpAny (model prog w) A (subscriptTail value (.Slice lo hi none p) (.ref a) (.ref sl)) Q E s :=
  ls_any S kn .none (.int k t) .none (by simp) hsz (fun us ok => by
    have e : (k.toNat : Int) = k := Int.toNat_of_nonneg h0
    have := slicePick_upto' us.toArray k.toNat; rw [e] at this
    rw [this]; exact ok.take k.toNat) h rfl
theorem Oks.drop {ds : List D} {us : List Value} (h : Oks ds us) (k : Nat) : Oks (ds.drop k) (us.drop k) := by
  induction h generalizing k with
  | nil => simp; exact .nil
  | cons a r ih => cases k with
    | zero => exact .cons a r
    | succ k => exact ih k
theorem Oks.reverse {ds : List D} {us : List Value} (h : Oks ds us) : Oks ds.reverse us.reverse := by
  induction h with
  | nil => exact .nil
  | cons a r ih => simp only [List.reverse_cons]; exact ih.append (.cons a .nil)
theorem ls_from {sl : Addr} {k : Int} {t : Tok} (S : St hL s0 F env nm vs ((sl, SLC (.int k t) .none .none) :: nw) gl s) {value : Expr} {lo hi : Option Expr} {p : Pos} {a : Addr} (kn : Kn F nw a (LO ds)) (h0 : 0 ≤ k) (hsz : ds.length ≤ sizeLine)
    (h : ∀ c s', St hL s0 F env nm vs ((c, LO (ds.drop k.toNat)) :: nw) gl s' → Q (.ref c) s') : wpAny (model prog w) A (subscriptTail value (.Slice lo hi none p) (.ref a) (.ref sl)) Q E s :=
  ls_any S kn (.int k t) .none .none (by simp) hsz (fun us ok => by
    have e : (k.toNat : Int) = k := Int.toNat_of_nonneg h0
    have := slicePick_from' us.toArray k.toNat; rw [e] at this
    rw [this]; exact ok.drop k.toNat) h rfl
theorem ls_last {sl : Addr} {t : Tok} (S : St hL s0 F env nm vs ((sl, SLC (.int (-1) t) .none .none) :: nw) gl s) {value : Expr} {lo hi : Option Expr} {p : Pos} {a : Addr} (kn : Kn F nw a (LO ds)) (hsz : ds.length ≤ sizeLine)
    (h : ∀ c s', St hL s0 F env nm vs ((c, LO (ds.drop (ds.length - 1))) :: nw) gl s' → Q (.ref c) s') : wpAny (model prog w) A (subscriptTail value (.Slice lo hi none p) (.ref a) (.ref sl)) Q E s :=
  ls_any S kn (.int (-1) t) .none .none (by simp) hsz (fun us ok => by
    have e := slicePick_last us.toArray 1 (Nat.le_refl _)
    have e' : (some (-((1 : Nat) : Int))) = some (-1 : Int) := rfl
    rw [e'] at e
    rw [e]; simpa [ok.length] using ok.drop (ds.length - 1)) h rfl
theorem ls_but {sl : Addr} {t : Tok} (S : St hL s0 F env nm vs ((sl, SLC .none (.int (-1) t) .none) :: nw) gl s) {value : Expr} {lo hi : Option Expr} {p : Pos} {a : Addr} (kn : Kn F nw a (LO ds)) (hsz : ds.length ≤ sizeLine)
    (h : ∀ c s', St hL s0 F env nm vs ((c, LO (ds.take (ds.length - 1))) :: nw) gl s' → Q (.ref c) s') : wpAny (model prog w) A (subscriptTail value (.Slice lo hi none p) (.ref a) (.ref sl)) Q E s :=
  ls_any S kn .none (.int (-1) t) .none (by simp) hsz (fun us ok => by
    have e := slicePick_butLast us.toArray 1 (Nat.le_refl _)
    have e' : (some (-((1 : Nat) : Int))) = some (-1 : Int) := rfl
    rw [e'] at e
    rw [e]; simpa [ok.length] using ok.take (ds.length - 1)) h rfl
theorem ls_run {sl : Addr} {i j : Int} {t u : Tok} (S : St hL s0 F env nm vs ((sl, SLC (.int i t) (.int j u) .none) :: nw) gl s) {value : Expr} {lo hi' : Option Expr} {p : Pos} {a : Addr} (kn : Kn F nw a (LO ds)) (hi : 0 ≤ i) (hj : 0 ≤ j) (hsz : ds.length ≤ sizeLine)
    (h : ∀ c s', St hL s0 F env nm vs ((c, LO ((ds.take j.toNat).drop i.toNat)) :: nw) gl s' → Q (.ref c) s') : wpAny (model prog w) A (subscriptTail value (.Slice lo hi' none p) (.ref a) (.ref sl)) Q E s :=
  ls_any S kn (.int i t) (.int j u) .none (by simp) hsz (fun us ok => by
    have e : (i.toNat : Int) = i := Int.toNat_of_nonneg hi
    have e' : (j.toNat : Int) = j := Int.toNat_of_nonneg hj
    rw [← e, ← e', slicePick_plain]
    simp only [Option.elim_some, clipAt_nat, List.size_toArray, Int.toNat_natCast]
    have : (((us.drop (min i.toNat us.length)).take (min j.toNat us.length - min i.toNat us.length))) = (us.take j.toNat).drop i.toNat := by
      apply List.ext_getElem?
      intro k
      simp only [List.getElem?_take, List.getElem?_drop]
      by_cases h1 : k < min j.toNat us.length - min i.toNat us.length
      · rw [if_pos h1, if_pos (by omega)]
        congr 1; omega
      · rw [if_neg h1]
        split
        · exact (List.getElem?_eq_none (by omega)).symm
        · rfl
    rw [this]
    exact (ok.take _).drop _) h rfl
theorem ls_rev {sl : Addr} {t : Tok} (S : St hL s0 F env nm vs ((sl, SLC .none .none (.int (-1) t)) :: nw) gl s) {value : Expr} {lo hi : Option Expr} {st : Expr} {p : Pos} {a : Addr} (kn : Kn F nw a (LO ds)) (hsz : ds.length ≤ sizeLine)
    (h : ∀ c s', St hL s0 F env nm vs ((c, LO ds.reverse) :: nw) gl s' → Q (.ref c) s') : wpAny (model prog w) A (subscriptTail value (.Slice lo hi (some st) p) (.ref a) (.ref sl)) Q E s :=
  ls_any S kn .none .none (.int (-1) t) (by simp) hsz (fun us ok => by rw [pick_rev]; simpa using ok.reverse) h rfl

/-- texts -/
theorem T_len (l : List Nat) : (T l).length = l.length := by simp [Str.length]
theorem txt_any (x : Str) (a b : Nat) (ha : a ≤ b) (hb : b ≤ x.length) (l u : Option Int) (e : strSliceIndices l u 1 x.length = sliceRange a b 1) : Txt.slice x l u = T ((x.cps.toList.drop a).take (b - a)) := by
  unfold Txt.slice
  rw [e, sliceRange_one, pick_run]
  split
  · rename_i h
    simp only [BEq.rfl, Bool.true_and, List.length_map, List.length_range, beq_iff_eq] at h
    have hb' : b ≤ x.cps.size := hb
    have h' : b - a = x.cps.size := h
    have e1 : a = 0 := by omega
    have e2 : b = x.cps.size := by omega
    subst e1 e2
    apply Str.ext'
    rw [Nat.sub_zero, List.drop_zero, List.take_of_length_le (by simp)]
  · rfl
theorem txt_upto (l : List Nat) (k : Int) (h : 0 ≤ k) : Txt.slice (T l) none (some k) = T (l.take k.toNat) := by
  rw [txt_any (T l) 0 (min k.toNat l.length) (Nat.zero_le _) (by rw [T_len]; exact Nat.min_le_right _ _)]
  · congr 1
    simp only [List.drop_zero, Nat.sub_zero]
    exact List.take_eq_take_iff.mpr (by omega)
  · rw [T_len]
    show sliceRange 0 (max 0 (min (if k < 0 then k + (l.length : Int) else k) l.length)) 1 = _
    rw [if_neg (by omega)]
    have e : max 0 (min k (l.length : Int)) = ((min k.toNat l.length : Nat) : Int) := by omega
    rw [e]; rfl
theorem txt_from (l : List Nat) (k : Int) (h : 0 ≤ k) : Txt.slice (T l) (some k) none = T (l.drop k.toNat) := by
  rw [txt_any (T l) (min k.toNat l.length) l.length (Nat.min_le_right _ _) (by rw [T_len]; exact Nat.le_refl _)]
  · congr 1
    show (l.drop (min k.toNat l.length)).take (l.length - min k.toNat l.length) = l.drop k.toNat
    rw [List.take_of_length_le (by simp)]
    by_cases hk : k.toNat ≤ l.length
    · rw [Nat.min_eq_left hk]
    · rw [Nat.min_eq_right (by omega), List.drop_length, List.drop_eq_nil_of_le (by omega)]
  · rw [T_len]
    show sliceRange (max 0 (min (if k < 0 then k + (l.length : Int) else k) l.length)) l.length 1 = _
    rw [if_neg (by omega)]
    have e : max 0 (min k (l.length : Int)) = ((min k.toNat l.length : Nat) : Int) := by omega
    rw [e]
theorem ss_any {sl : Addr} {l u : Option (Int × Tok)} (S : St hL s0 F env nm vs ((sl, SLC (partValue l) (partValue u) .none) :: nw) gl s) {value : Expr} {lo hi : Option Expr} {p : Pos} {x : Str} {t : Tok} (hsz : x.length ≤ sizeLine)
    (h : ∀ t s', St hL s0 F env nm vs nw gl s' → Q (.str (Txt.slice x (l.map (·.1)) (u.map (·.1))) t) s') : wpAny (model prog w) A (subscriptTail value (.Slice lo hi none p) (.str x t) (.ref sl)) Q E s := by
  obtain ⟨os, es', ps'⟩ := S.get (.inr (.head _))
  refine tail_any (typeIs_str s x t) PySem.F.slot_str_getitem.lookup (wpAny_getItem_str_slice (l := l) (u := u) (st := none) ⟨_, es', by rw [ps'], by rw [ps']; rfl⟩ rfl (post_val_or_str ⟨Nat.le_trans (Txt.slice_le x _ _) hsz, fun t' k => h t' _ (S.tail.ext .toks)⟩)) rfl
theorem ss_upto {sl : Addr} {k : Int} {u : Tok} (S : St hL s0 F env nm vs ((sl, SLC .none (.int k u) .none) :: nw) gl s) {value : Expr} {lo hi : Option Expr} {p : Pos} {l : List Nat} {t : Tok} (h0 : 0 ≤ k) (hsz : l.length ≤ sizeLine)
    (h : ∀ t s', St hL s0 F env nm vs nw gl s' → Q (.str (T (l.take k.toNat)) t) s') : wpAny (model prog w) A (subscriptTail value (.Slice lo hi none p) (.str (T l) t) (.ref sl)) Q E s :=
  ss_any (l := none) (u := some (k, u)) S (by rw [T_len]; exact hsz) (fun t s' S' => by
    have := h t s' S'; rw [← txt_upto l k h0] at this; exact this)
theorem ss_from {sl : Addr} {k : Int} {u : Tok} (S : St hL s0 F env nm vs ((sl, SLC (.int k u) .none .none) :: nw) gl s) {value : Expr} {lo hi : Option Expr} {p : Pos} {l : List Nat} {t : Tok} (h0 : 0 ≤ k) (hsz : l.length ≤ sizeLine)
    (h : ∀ t s', St hL s0 F env nm vs nw gl s' → Q (.str (T (l.drop k.toNat)) t) s') : wpAny (model prog w) A (subscriptTail value (.Slice lo hi none p) (.str (T l) t) (.ref sl)) Q E s :=
  ss_any (l := some (k, u)) (u := none) S (by rw [T_len]; exact hsz) (fun t s' S' => by
    have := h t s' S'; rw [← txt_from l k h0] at this; exact this)
theorem b_cats (S : St hL s0 F env nm vs nw gl s) {l l' : List Nat} {t u : Tok} (hsz : l.length + l'.length ≤ sizeLine) (h : ∀ t s', St hL s0 F env nm vs nw gl s' → Q (.str (T (l ++ l')) t) s') :
    wpAny (model prog w) A (binaryOp .Add (.str (T l) t) (.str (T l') u)) Q E s := by
  have e : T l ++ T l' = T (l ++ l') := by apply Str.ext'; simp [Str.cps_append]
  refine PyProof.Rows.add_str (fun t' tk => ?_) ?_
  · rw [e]; exact h _ _ (S.ext .toks)
  · first | (rw [e, T_len, List.length_append]; exact hsz) | (simp only [T_len]; exact hsz)
end
end Mine

namespace Mine
open PySem PySem.W PySem.Calls PyProof.Rows

/-- an iterator that lies at I: its i-th state, how many items, what they are -/
structure It (prog : Program) (w : World) (I : Addr) (P : Nat → OP) (n : Nat) (V : Nat → D → Prop) (side : Heap → Prop) : Prop where
  next : ∀ (A : Around) (i : Nat) (s : Shared) (Q : Option Value → Shared → Prop) (E : Value → Shared → Prop), A.handled = none → i < n → (∃ o, s.heap.get? I = some o ∧ P i o) → side s.heap →
    (∀ d v h' tk, V i d → d.ok v → (∃ o, h'.get? I = some o ∧ P (i + 1) o) → (∀ b o, b ≠ I → s.heap.get? b = some o → h'.get? b = some o) → Q (some v) { s with heap := h', toks := tk }) → wpAny (model prog w) A (pyNext (.ref I)) Q E s
  stop : ∀ (A : Around) (s : Shared) (Q : Option Value → Shared → Prop) (E : Value → Shared → Prop), A.handled = none → (∃ o, s.heap.get? I = some o ∧ P n o) → side s.heap →
    (∀ h' tk, (∀ b o, b ≠ I → s.heap.get? b = some o → h'.get? b = some o) → Q none { s with heap := h', toks := tk }) → wpAny (model prog w) A (pyNext (.ref I)) Q E s
  self : ∀ (A : Around) (i : Nat) (s : Shared) (Q : Value → Shared → Prop) (E : Value → Shared → Prop), (∃ o, s.heap.get? I = some o ∧ P i o) → Q (.ref I) s → wpAny (model prog w) A (pyIter (.ref I)) Q E s

noncomputable def LI (l : Addr) (i : Nat) : OP := fun o => o.cls = .type "list_iterator" ∧ o.data = .fields #[.ref l, .int i 0]
noncomputable def RI (a n : Int) (i : Nat) : OP := fun o => o = { cls := .type "range_iterator", dict := none, data := .fields #[rawInt (a + i), rawInt (n - i), rawInt 1], slots := #[] }
noncomputable def SI (ty : String) (x : Str) (i : Nat) : OP := fun o => ∃ t, o.cls = .type ty ∧ o.data = .fields #[.str x t, .int i 0]

theorem It.list {prog : Program} {w : World} {I l : Addr} {ds : List D} (hne : l ≠ I) : It prog w I (LI l) ds.length (fun i d => ds[i]? = some d) (fun h => ∃ o, h.get? l = some o ∧ LO ds o) where
  next := fun A i s Q E hh hi hit hs hQ => by
    obtain ⟨o, eo, p⟩ := hs
    obtain ⟨us, hl, oks⟩ := p.isList eo
    obtain ⟨oi, ei, c1, c2⟩ := hit
    obtain ⟨v, ev, ok⟩ := oks.get (List.getElem?_eq_getElem hi)
    refine wpAny_pyNext_list_item ⟨oi, ei, c1, c2⟩ hl (x := v) (by simpa using ev) fun h' hit' hsb => ?_
    obtain ⟨oi', ei', c1', c2'⟩ := hit'
    exact hQ _ v h' s.toks (List.getElem?_eq_getElem hi) ok ⟨oi', ei', c1', c2'⟩ fun b o hb e => hsb.extBut b o hb e
  stop := fun A s Q E hh hit hs hQ => by
    obtain ⟨o, eo, p⟩ := hs
    obtain ⟨us, hl, oks⟩ := p.isList eo
    obtain ⟨oi, ei, c1, c2⟩ := hit
    refine wpAny_pyNext_list_end hh ⟨oi, ei, c1, c2⟩ hl (by simp [oks.length]) fun h' he => hQ h' s.toks fun b o hb e => he b o hb e
  self := fun A i s Q E hit hQ => by
    obtain ⟨oi, ei, c1, c2⟩ := hit
    exact wpAny_pyIter_listiter (l := l) (i := i) ⟨oi, ei, c1, c2⟩ hQ
theorem It.range {prog : Program} {w : World} {I : Addr} {a : Int} {n : Nat} : It prog w I (RI a n) n (fun i d => d = .int (a + i)) (fun _ => True) where
  next := fun A i s Q E hh hi hit _ hQ => by
    obtain ⟨oi, ei, rfl⟩ := hit
    refine wpAny_pyNext_range_item ei (by omega) fun h' hit' hsb => ?_
    refine hQ _ _ h' _ rfl ⟨_, rfl⟩ ⟨_, hit', ?_⟩ fun b o hb e => hsb.extBut b o hb e
    unfold RI
    have e1 : a + (i : Int) + 1 = a + ((i + 1 : Nat) : Int) := by omega
    have e2 : (n : Int) - (i : Int) - 1 = (n : Int) - ((i + 1 : Nat) : Int) := by omega
    rw [e1, e2]
  stop := fun A s Q E hh hit _ hQ => by
    obtain ⟨oi, ei, rfl⟩ := hit
    exact wpAny_pyNext_range_end hh ei (by omega) fun h' he => hQ h' s.toks fun b o hb e => he b o hb e
  self := fun A i s Q E hit hQ => by
    obtain ⟨oi, ei, rfl⟩ := hit
    exact wpAny_pyIter_rangeiter ei hQ
theorem It.str {prog : Program} {w : World} {I : Addr} {l : List Nat} {ty : String} (hty : ty = "str_ascii_iterator" ∨ ty = "str_iterator") : It prog w I (SI ty (T l)) l.length (fun i d => ∃ c, l[i]? = some c ∧ d = .str (T [c])) (fun _ => True) where
  next := fun A i s Q E hh hi hit _ hQ => by
    obtain ⟨oi, ei, t, c1, c2⟩ := hit
    have hc : (T l).cps[i]? = some l[i] := by simp [hi]
    have hc' : l[i]? = some l[i] := by simp [hi]
    rcases hty with rfl | rfl
    · refine wpAny_pyNext_ascii_item ⟨oi, ei, c1, c2⟩ hc fun h' hit' hsb => ?_
      obtain ⟨oi', ei', c1', c2'⟩ := hit'
      exact hQ _ _ h' _ ⟨_, hc', rfl⟩ ⟨_, rfl⟩ ⟨oi', ei', t, c1', c2'⟩ fun b o hb e => hsb.extBut b o hb e
    · refine wpAny_pyNext_wide_item ⟨oi, ei, c1, c2⟩ hc fun h' hit' hsb => ?_
      obtain ⟨oi', ei', c1', c2'⟩ := hit'
      exact hQ _ _ h' _ ⟨_, hc', rfl⟩ ⟨_, rfl⟩ ⟨oi', ei', t, c1', c2'⟩ fun b o hb e => hsb.extBut b o hb e
  stop := fun A s Q E hh hit _ hQ => by
    obtain ⟨oi, ei, t, c1, c2⟩ := hit
    rcases hty with rfl | rfl
    · exact wpAny_pyNext_ascii_end hh ⟨oi, ei, c1, c2⟩ (by simp) fun h' he => hQ h' s.toks fun b o hb e => he b o hb e
    · exact wpAny_pyNext_wide_end hh ⟨oi, ei, c1, c2⟩ (by simp) fun h' he => hQ h' s.toks fun b o hb e => he b o hb e
  self := fun A i s Q E hit hQ => by
    obtain ⟨oi, ei, t, c1, c2⟩ := hit
    rcases hty with rfl | rfl
    · exact wpAny_pyIter_striter_ascii (x := T l) (t := t) (i := i) ⟨oi, ei, c1, c2⟩ hQ
    · exact wpAny_pyIter_striter_wide (x := T l) (t := t) (i := i) ⟨oi, ei, c1, c2⟩ hQ

section
variable {prog : Program} {w : World} {A : Around} {E : Value → Shared → Prop} {hL : Heap} {s0 : Shared} {F : Addr → Option Obj} {env : Env} {nm : List Str} {vs vs' : List (Option D)} {nw nw' : List (Addr × OP)} {gl : List (Nat × GenState)} {s : Shared} {Q : Flow → Shared → Prop} {ds es : List D}

theorem cut_next {M : Model} {t : Sem Flow} (P : Shared → Prop) (h : wpAny M A t (fun f s' => f = .next ∧ P s') (fun _ _ => False) s) (k : ∀ s', P s' → Q .next s') : wpAny M A t Q E s :=
  wpAny_mono h (fun f s' h' => h'.1 ▸ k s' h'.2) fun _ _ x => x.elim
/-- what a turn of a loop must end in -/
noncomputable def Turn (hL : Heap) (s0 : Shared) (env : Env) (nm : List Str) (gl : List (Nat × GenState)) (p : Addr × OP) (J : (Addr → Option Obj) → List (Option D) → List (Addr × OP) → Prop) (Q : Flow → Shared → Prop) (f : Flow) (s : Shared) : Prop :=
  match f with
  | .next | .cont => ∃ F vs nw, St hL s0 F env nm vs (p :: nw) gl s ∧ J F vs nw
  | .brk => Q .next s
  | .ret v => Q (.ret v) s

theorem for_core {I : Addr} {P : Nat → OP} {n : Nat} {V : Nat → D → Prop} {side : Heap → Prop} {target : Expr} {body : List Stmt} {R : Result → Shared → Prop} (it : It prog w I P n V side) (hh : A.handled = none)
    (S : St hL s0 F env nm vs ((I, P 0) :: nw) gl s) (J : Nat → (Addr → Option Obj) → List (Option D) → List (Addr × OP) → Prop) (j0 : J 0 F vs nw)
    (hside : ∀ i F vs nw s, J i F vs nw → St hL s0 F env nm vs ((I, P i) :: nw) gl s → side s.heap)
    (go : ∀ v s (Q : Unit → Shared → Prop) (E : Value → Shared → Prop), (∃ i o, s.heap.get? I = some o ∧ P i o) → Q () s → wpAny (model prog w) A (letOwnedTupleGo target (.ref I) v) Q E s)
    (turn : ∀ i d v F vs nw s, i < n → V i d → d.ok v → J i F vs nw → St hL s0 F env nm vs ((I, P (i + 1)) :: nw) gl s →
      wpAny (model prog w) A (assign target env v) (fun _ s₂ => wpAny (model prog w) A (execs body env) (Turn hL s0 env nm gl (I, P (i + 1)) (J (i + 1)) Q) (fun _ _ => False) s₂) (fun _ _ => False) s)
    (done : ∀ F vs nw s, J n F vs nw → St hL s0 F env nm vs nw gl s → Q .next s)
    (hR : ∀ f s, Q f s → R (.ok f) s) :
    codeAny (model prog w) A (.forLoop target (.ref I) body [] env) R s := by
  have led : ∀ {F vs nw s}, St hL s0 F env nm vs nw gl s → True := fun _ => trivial
  refine codeAny_forLoop_any (fun k s => ∃ i F vs nw, k = n - i ∧ i ≤ n ∧ J i F vs nw ∧ St hL s0 F env nm vs ((I, P i) :: nw) gl s) ?_ n ⟨0, F, vs, nw, rfl, Nat.zero_le _, j0, S⟩
  rintro k s ⟨i, F, vs, nw, rfl, hle, hj, S⟩
  have hI := S.get (.inr (.head _) : Kn F _ I (P i))
  by_cases hi : i < n
  · refine it.next A i s _ _ hh hi hI (hside i F vs nw s hj S) fun d v h' tk hV ok hI' hk => ?_
    have S' : St hL s0 F env nm vs ((I, P (i + 1)) :: nw) gl { s with heap := h', toks := tk } := by
      obtain ⟨o', e', p'⟩ := hI'
      exact S.upd .head hk e' p'
    refine go v _ _ _ ⟨i + 1, hI'⟩ ?_
    refine wpAny_mono (turn i d v F vs nw _ hi hV ok hj S') (fun _ s₂ h₂ => wpAny_mono h₂ (fun f s₃ h₃ => ?_) fun _ _ x => x.elim) fun _ _ x => x.elim
    cases f with
    | next => obtain ⟨F, vs, nw, S, j⟩ := h₃; exact ⟨n - (i + 1), by omega, i + 1, F, vs, nw, rfl, hi, j, S⟩
    | cont => obtain ⟨F, vs, nw, S, j⟩ := h₃; exact ⟨n - (i + 1), by omega, i + 1, F, vs, nw, rfl, hi, j, S⟩
    | brk => exact hR _ _ h₃
    | ret v => exact hR _ _ h₃
  · obtain rfl : i = n := by omega
    refine it.stop A s _ _ hh hI (hside _ F vs nw s hj S) fun h' tk hk => ?_
    refine wpAny_execs_nil (hR _ _ (done F vs nw _ hj ?_))
    have hIF := (S.led _ (.head _)).2
    have nd := List.nodup_cons.mp S.nd
    refine { S with keep := fun b o e => hk b o (fun q => ?_) (S.keep b o e), loc := ?_, cel := fun y hy c h1 h2 => ?_, led := fun p hp => ?_, nd := nd.2 }
    · rw [q, hIF.1] at e; cases e
    · obtain ⟨mm, ⟨o, es, ep, e, q⟩, b⟩ := S.loc
      exact ⟨mm, ⟨o, es, ep, hk _ _ (fun z => hIF.2 (.inl z.symm)) e, q⟩, b⟩
    · obtain ⟨ov, ⟨o, e, q⟩, b⟩ := S.cel y hy c h1 h2
      exact ⟨ov, ⟨o, hk _ _ (fun z => hIF.2 (.inr ⟨y, hy, h1, z ▸ h2⟩)) e, q⟩, b⟩
    · obtain ⟨⟨o, e, z⟩, z1, z2⟩ := S.led p (.tail _ hp)
      exact ⟨⟨o, hk _ _ (fun q => nd.1 (List.mem_map.mpr ⟨p, hp, q⟩)) e, z⟩, z1, z2⟩
end
end Mine

namespace Mine
open PySem PySem.W PySem.Calls PyProof.Rows

noncomputable def RG (a b : Int) : OP := fun o => ∃ t u v, o = { cls := .type "range", dict := none, data := .fields #[.int a t, .int b u, .int 1 v], slots := #[] }
noncomputable def CE (d : D) : OP := fun o => ∃ v, o.data = .cell (some v) ∧ d.ok v

section
variable {prog : Program} {w : World} {A : Around} {E : Value → Shared → Prop} {hL : Heap} {s0 : Shared} {F : Addr → Option Obj} {env : Env} {nm : List Str} {vs vs' : List (Option D)} {nw nw' : List (Addr × OP)} {gl : List (Nat × GenState)} {s : Shared} {Q : Value → Shared → Prop} {ds es : List D}

theorem f_range1 (S : St hL s0 F env nm vs nw gl s) {n : Int} {t : Tok} (h : ∀ r s', St hL s0 F env nm vs ((r, RG 0 n) :: nw) gl s' → Q (.ref r) s') : wpAny (model prog w) A (call (.type "range") [.int n t]) Q E s :=
  call_range_1 (h _ _ (S.alloc ⟨_, _, _, rfl⟩))
theorem f_range2 (S : St hL s0 F env nm vs nw gl s) {a b : Int} {t u : Tok} (h : ∀ r s', St hL s0 F env nm vs ((r, RG a b) :: nw) gl s' → Q (.ref r) s') : wpAny (model prog w) A (call (.type "range") [.int a t, .int b u]) Q E s :=
  call_range_2 (h _ _ (S.alloc ⟨_, _, _, rfl⟩))
theorem i_list (S : St hL s0 F env nm vs nw gl s) {l : Addr} (kn : Kn F nw l (LO ds)) (h : ∀ I s', It prog w I (LI l) ds.length (fun i d => ds[i]? = some d) (fun h => ∃ o, h.get? l = some o ∧ LO ds o) → St hL s0 F env nm vs ((I, LI l 0) :: nw) gl s' → Q (.ref I) s') :
    wpAny (model prog w) A (pyIter (.ref l)) Q E s := by
  obtain ⟨o, eo, p⟩ := S.get kn
  obtain ⟨us, hl, oks⟩ := p.isList eo
  exact wpAny_pyIter_list hl (h _ _ (It.list (fun q => absurd (Heap.lt_size eo) (by rw [q]; exact Nat.lt_irrefl _))) (S.alloc (tk := s.toks) ⟨rfl, rfl⟩))
theorem rangeSize_one (a b : Int) : Builtin.Range.rangeSize a b 1 = ((b - a).toNat : Int) := by
  unfold Builtin.Range.rangeSize
  simp only [show (1 : Int) > 0 from by decide, if_true]
  split <;> omega
theorem i_range {r : Addr} {a b : Int} (S : St hL s0 F env nm vs ((r, RG a b) :: nw) gl s) (ha : -(2 ^ 60) ≤ a ∧ a ≤ 2 ^ 60) (hb : -(2 ^ 60) ≤ b ∧ b ≤ 2 ^ 60)
    (h : ∀ I s', It prog w I (RI a (b - a).toNat) (b - a).toNat (fun i d => d = .int (a + i)) (fun _ => True) → St hL s0 F env nm vs ((I, RI a (b - a).toNat 0) :: nw) gl s' → Q (.ref I) s') : wpAny (model prog w) A (pyIter (.ref r)) Q E s := by
  obtain ⟨o, eo, t, u, v, rfl⟩ := S.get (.inr (.head _))
  have fl : ∀ x : Int, -(2 ^ 62) ≤ x → x ≤ 2 ^ 62 → Builtin.Range.rangeFitsLong x = true := fun x h1 h2 => by
    unfold Builtin.Range.rangeFitsLong; simp; omega
  refine wpAny_pyIter_range eo ?_ (h _ _ It.range (S.tail.alloc (tk := s.toks) ?_))
  · unfold Builtin.Range.small
    rw [rangeSize_one, fl a (by omega) (by omega), fl b (by omega) (by omega), fl 1 (by decide) (by decide), fl _ (by omega) (by omega)]
    simp only [Bool.true_and]
    rw [if_pos (by decide), fl _ (by omega) (by omega)]; simp
  · unfold RI; rw [rangeSize_one]; simp
theorem i_str (S : St hL s0 F env nm vs nw gl s) {l : List Nat} {t : Tok} (h : ∀ I ty s', It prog w I (SI ty (T l)) l.length (fun i d => ∃ c, l[i]? = some c ∧ d = .str (T [c])) (fun _ => True) → St hL s0 F env nm vs ((I, SI ty (T l) 0) :: nw) gl s' → Q (.ref I) s') :
    wpAny (model prog w) A (pyIter (.str (T l) t)) Q E s := by
  cases ha : (T l).cps.all (· < 128)
  · exact wpAny_pyIter_wide ha (h _ _ _ (It.str (.inr rfl)) (S.alloc (tk := s.toks) ⟨t, rfl, rfl⟩))
  · exact wpAny_pyIter_ascii ha (h _ _ _ (It.str (.inl rfl)) (S.alloc (tk := s.toks) ⟨t, rfl, rfl⟩))

theorem f_tuple (S : St hL s0 F env nm vs nw gl s) {l : Addr} (kn : Kn F nw l (LO ds)) (hsz : ds.length ≤ sizeLine) (h : ∀ a s', s.heap.get? a = none → St hL s0 F env nm vs ((a, TO ds) :: nw) gl s' → Q (.ref a) s') : wpAny (model prog w) A (call (.type "tuple") [.ref l]) Q E s := by
  obtain ⟨o, eo, p⟩ := S.get kn
  obtain ⟨us, hl, oks⟩ := p.isList eo
  refine call_tuple_list hl (fun h' hk => h _ _ ?_ ((S.ext (.grow (tk := s.toks) hk)).alloc (tk := s.toks) ⟨us, 0, rfl, oks⟩)) (by rw [List.size_toArray, ← oks.length]; exact hsz)
  show s.heap.get? h'.objs.size = none
  cases q : s.heap.get? h'.objs.size with
  | none => rfl
  | some o' => exact absurd (Heap.lt_size (hk _ _ q)) (Nat.lt_irrefl _)
/-- a cell's value, for a closure -/
theorem St.cap (S : St hL s0 F env nm vs nw gl s) {x : Str} {d : D} {c : Addr} (a : At x d nm vs) (k : env.kindOf x = some .cell) (hc : env.cells.lookup x = some c) : ∃ o, s.heap.get? c = some o ∧ CE d o := by
  obtain ⟨ov, ⟨o, e, q⟩, b⟩ := S.cel x a.mem c k hc
  obtain ⟨v, rfl, ok⟩ := b d a
  exact ⟨o, e, v, q, ok⟩
theorem r_cap (S : St hL s0 F env nm vs nw gl s) {M : Model} {x : Str} {pos : Pos} {d : D} {c : Addr} (b : Bs F c (CE d)) (hk : env.kindOf x = some .cell) (hc : env.cells.lookup x = some c) (h : ∀ v, d.ok v → Q v s) (hd : (x == ("__debug__" : Str)) = false := by decide) :
    wpAny M A (eval (.Name x pos) env) Q E s := by
  obtain ⟨o, e, v, q, ok⟩ := b
  exact wpAny_Name (wpAny_loadName_cell S.fx.ek hk hc ⟨o, S.keep _ _ e, q⟩ (h v ok)) hd
end
end Mine

namespace Mine
open PySem PySem.W PySem.Calls PyProof.Rows

/-- the frame of a comprehension -/
noncomputable def compE (scope : Scope) (cl : List (Str × Addr)) (C : Addr) (env : Env) : Env :=
  { scope := relabel scope env, locals := C, globals := env.globals, cells := cl, qual := env.qual, func := none, code := env.code, frame := env.frame, builtins := env.builtins }

section
variable {prog : Program} {w : World} {A : Around} {E : Value → Shared → Prop} {hL : Heap} {s0 : Shared} {F : Addr → Option Obj} {env : Env} {nm : List Str} {vs vs' : List (Option D)} {nw nw' : List (Addr × OP)} {gl : List (Nat × GenState)} {s : Shared} {Q : Value → Shared → Prop} {ds es : List D}

/-- the comprehension's own state: all that stood when it began is its base, but the iterator -/
noncomputable abbrev StC (hL : Heap) (s2 : Shared) (I : Addr) (cenv : Env) (x : Str) (dx : Option D) (nw : List (Addr × OP)) (s : Shared) : Prop :=
  St hL { s2 with heap := s2.heap.hide I } (fun b => if b = I then none else s2.heap.get? b) cenv [x] [dx] nw [] s

theorem comp_known {I : Addr} {P : OP} (S : St hL s0 F env nm vs ((I, P) :: nw) gl s) {a : Addr} {P' : OP} (k : Kn F nw a P') : Bs (fun b => if b = I then none else s.heap.get? b) a P' := by
  obtain ⟨o, e, p⟩ := S.tail.get k
  have hI := (S.led _ (.head _)).2.1
  have nd := (List.nodup_cons.mp S.nd).1
  refine ⟨o, ?_, p⟩
  show (if a = I then none else s.heap.get? a) = some o
  rw [if_neg, e]
  rintro rfl
  rcases k with ⟨o', e', _⟩ | k
  · rw [hI] at e'; cases e'
  · exact nd (List.mem_map.mpr ⟨_, k, rfl⟩)
theorem comp_cell {I : Addr} {P : OP} (S : St hL s0 F env nm vs ((I, P) :: nw) gl s) {x : Str} {d : D} {c : Addr} (a : At x d nm vs) (k : env.kindOf x = some .cell) (hc : env.cells.lookup x = some c) : Bs (fun b => if b = I then none else s.heap.get? b) c (CE d) := by
  obtain ⟨o, e, p⟩ := S.cap a k hc
  refine ⟨o, ?_, p⟩
  show (if c = I then none else s.heap.get? c) = some o
  rw [if_neg, e]
  rintro rfl
  exact (S.led _ (.head _)).2.2 (.inr ⟨x, a.mem, k, hc⟩)

theorem comp_core {I : Addr} {P : Nat → OP} {n : Nat} {V : Nat → D → Prop} {side : Heap → Prop} (it : It prog w I P n V side) (hh : A.handled = none) {elt iter : Expr} {x : Str} {px : Pos} {ifs : List Expr} {scope : Scope} {pos : Pos} {cl : List (Str × Addr)}
    {RR : Addr → Addr → Result → Shared → Prop}
    (S : St hL s0 F env nm vs ((I, P 0) :: nw) gl s) (hn : n ≤ sizeLine) (hsd : ∀ h : Heap, (∀ b o, (if b = I then none else s.heap.get? b) = some o → h.get? b = some o) → side h)
    (hcell : ∀ y ∈ scope.names, y.2 ≠ .cell) (hkind : scope.kind = .function) (hx : (relabel scope env).names.lookup x = some .local) (hdb : (x == ("__debug__" : Str)) = false)
    (J : Nat → List (Addr × OP) → List D → Prop) (j0 : J 0 [] [])
    (turn : ∀ i d nwc acc C D₀ s', i < n → V i d → J i nwc acc → acc.length ≤ i → StC hL s I (compE scope cl C env) x (some d) ((D₀, LO acc) :: (I, P (i + 1)) :: nwc) s' →
      wpAny (model prog w) A (forIn ifs true fun c r => if r = true then do let ok ← isTrue c (compE scope cl C env) (eval c (compE scope cl C env)); pure (ForInStep.yield ok) else pure (ForInStep.yield r))
        (fun ok s₃ => if ok = true then wpAny (model prog w) A (eval elt (compE scope cl C env)) (fun y s₄ => ∃ e nwc', e.ok y ∧ StC hL s I (compE scope cl C env) x (some d) ((D₀, LO acc) :: (I, P (i + 1)) :: nwc') s₄ ∧ J (i + 1) nwc' (acc ++ [e])) (fun _ _ => False) s₃
          else StC hL s I (compE scope cl C env) x (some d) ((D₀, LO acc) :: (I, P (i + 1)) :: nwc) s₃ ∧ J (i + 1) nwc acc) (fun _ _ => False) s')
    (done : ∀ nwc acc C D₀ dx s', J n nwc acc → StC hL s I (compE scope cl C env) x dx ((D₀, LO acc) :: nwc) s' → s.heap.get? D₀ = none → s.heap.get? C = none → (∀ p ∈ nwc, s.heap.get? p.1 = none) → RR D₀ C (.ok .next) s') :
    wpAny (model prog w) A (newList []) (fun acc s₃ => wpAny (model prog w) A (newFunctionEnv scope env.globals cl [] env.qual none .none (some env)) (fun cenv s₄ =>
      codeAny (model prog w) A (.compStart (.ListComp elt [⟨.Name x px, iter, ifs, 0⟩] scope pos) 0 (.ref I) acc { cenv with scope := relabel scope env }) (fun r s' => ∃ D₀, acc = .ref D₀ ∧ RR D₀ cenv.locals r s') s₄) E s₃) E s := by
  have hIo := S.get (.inr (.head _) : Kn F ((I, P 0) :: nw) I (P 0))
  have hIF := (S.led _ (.head _)).2
  refine wpAny_newObj_type (wpAny_newFunctionEnv hcell (by intro y hy; simp at hy) (fun h₁ hns₁ hsb₁ => ?_) hkind)
  dsimp only at hns₁ hsb₁ ⊢
  generalize hH : s.heap.push { cls := .type "list", dict := none, data := .seq ([] : List Value).toArray } = H2 at hns₁ hsb₁ ⊢
  have hC : H2.objs.size = s.heap.objs.size + 1 := by rw [← hH, Heap.size_push]
  have none_ge : ∀ b, s.heap.objs.size ≤ b → s.heap.get? b = none := fun b hb => by
    cases q : s.heap.get? b with
    | none => rfl
    | some o' => exact absurd (Heap.lt_size q) (Nat.not_lt.mpr hb)
  have old : ∀ b o, s.heap.get? b = some o → h₁.get? b = some o := fun b o e => by
    have hlt := Heap.lt_size e
    exact hsb₁.extBut b o (fun q => by rw [q, hC] at hlt; exact Nat.lt_irrefl _ (Nat.lt_of_succ_lt hlt)) (Heap.get?_push_of_some _ (hH ▸ Heap.get?_push_of_some _ e))
  have hD : h₁.get? s.heap.objs.size = some { cls := .type "list", dict := none, data := .seq ([] : List Value).toArray } :=
    hsb₁.extBut _ _ (fun q => by rw [hC] at q; exact Nat.succ_ne_self _ q.symm) (Heap.get?_push_of_some _ (hH ▸ Heap.get?_push_size _ rfl))
  have hClocals : ({ newEnv scope H2.objs.size env.globals cl env.qual none .none (some env) builtinsNs with scope := relabel scope env } : Env) = compE scope cl H2.objs.size env := rfl
  rw [hClocals]
  have hIne : ∀ b, s.heap.get? b = none → b ≠ I := fun b hb q => by obtain ⟨o, e, _⟩ := hIo; rw [← q, hb] at e; cases e
  have S4 : StC hL s I (compE scope cl H2.objs.size env) x none ((s.heap.objs.size, LO []) :: (I, P 0) :: []) { s with heap := h₁, toks := s.toks + ([] : List (Str × Value)).length } := by
    refine ⟨⟨fun b o e => ?_, fun b o e => ?_, hkind, by simp, fun y hy => ?_, fun y hy => ?_, fun c hc => ?_, fun y hy c k => ?_⟩, fun b o e => ?_, ⟨_, hns₁, fun y d a k => ?_⟩, fun y hy c k => ?_, fun p hp => ?_, ?_, fun _ _ e => e, (fun _ h => nomatch h), S.bare, rfl⟩
    · show (if b = I then none else s.heap.get? b) = some o
      rw [if_neg, S.lib b o e]
      rintro rfl; rw [S.fx.lib _ _ e] at hIF; cases hIF.1
    · show (if b = I then none else s.heap.get? b) = some o
      have e' : (s.heap.hide I).get? b = some o := e
      by_cases hb : b = I
      · subst hb; rw [Heap.hide_self] at e'; cases e'
      · rw [if_neg hb]; rwa [Heap.hide_ne _ hb] at e'
    · rw [List.mem_singleton.mp hy]; exact hdb
    · rw [List.mem_singleton.mp hy]; exact .inl hx
    · rcases hc with rfl | ⟨y, hy, k, _⟩
      · show (if H2.objs.size = I then none else s.heap.get? H2.objs.size) = none
        rw [none_ge _ (by omega)]; split <;> rfl
      · rw [List.mem_singleton.mp hy] at k
        have : (relabel scope env).names.lookup x = some .cell := k
        rw [hx] at this; cases this
    · rw [List.mem_singleton.mp hy] at k
      have : (relabel scope env).names.lookup x = some .cell := k
      rw [hx] at this; cases this
    · have e' : (if b = I then none else s.heap.get? b) = some o := e
      split at e'
      · cases e'
      · exact old b o e'
    · cases a with
      | tail a => cases a
    · rw [List.mem_singleton.mp hy] at k
      have : (relabel scope env).names.lookup x = some .cell := k
      rw [hx] at this; cases this
    · have own : ∀ c, Own (compE scope cl H2.objs.size env) [x] c → c = H2.objs.size := fun c hc => by
        rcases hc with rfl | ⟨y, hy, k, _⟩
        · rfl
        · rw [List.mem_singleton.mp hy] at k
          have : (relabel scope env).names.lookup x = some .cell := k
          rw [hx] at this; cases this
      rcases List.mem_cons.mp hp with rfl | hp
      · refine ⟨⟨_, hD, [], 0, rfl, .nil⟩, ?_, fun q => ?_⟩
        · show (if s.heap.objs.size = I then none else s.heap.get? s.heap.objs.size) = none
          rw [none_ge _ (Nat.le_refl _)]; split <;> rfl
        · have := own _ q; rw [hC] at this; exact absurd this (by show s.heap.objs.size ≠ _; omega)
      · obtain rfl := List.mem_singleton.mp hp
        obtain ⟨o, e, p⟩ := hIo
        refine ⟨⟨o, old _ _ e, p⟩, if_pos rfl, fun q => ?_⟩
        have h1 := Heap.lt_size e
        have h2 := own _ q
        have h3 : I = H2.objs.size := h2
        rw [h3, hC] at h1; exact Nat.lt_irrefl _ (Nat.lt_of_succ_lt h1)
    · refine List.nodup_cons.mpr ⟨fun q => ?_, by simp⟩
      have : s.heap.objs.size = I := by simpa using q
      exact hIne _ (none_ge _ (Nat.le_refl _)) this
  generalize { s with heap := h₁, toks := s.toks + ([] : List (Str × Value)).length } = s4 at S4
  have loop : codeAny (model prog w) A (.compLoop (.ListComp elt [⟨.Name x px, iter, ifs, 0⟩] scope pos) 0 (.ref I) (.ref s.heap.objs.size) (compE scope cl H2.objs.size env))
      (fun r s' => ∃ D₀, Value.ref s.heap.objs.size = .ref D₀ ∧ RR D₀ H2.objs.size r s') s4 := by
    refine codeAny_compLoop_tests (fun k s' => ∃ i dx nwc acc, k = n + 1 - i ∧ i ≤ n ∧ acc.length ≤ i ∧ J i nwc acc ∧ (∀ p ∈ nwc, s.heap.get? p.1 = none) ∧ StC hL s I (compE scope cl H2.objs.size env) x dx ((s.heap.objs.size, LO acc) :: (I, P i) :: nwc) s') ?_ (n + 1)
      ⟨0, none, [], [], rfl, Nat.zero_le _, Nat.le_refl _, j0, (fun _ h => nomatch h), S4⟩
    rintro k s' ⟨i, dx, nwc, acc, rfl, hle, hal, hj, hfr, S'⟩
    have hI' := S'.get (.inr (.tail _ (.head _)) : Kn _ _ I (P i))
    have hs' : side s'.heap := hsd _ S'.keep
    by_cases hi : i < n
    · refine it.next A i s' _ _ hh hi hI' hs' fun d v h' tk hV ok hI'' hk => ?_
      have S'' : StC hL s I (compE scope cl H2.objs.size env) x dx ((s.heap.objs.size, LO acc) :: (I, P (i + 1)) :: nwc) { s' with heap := h', toks := tk } := by
        obtain ⟨o', e', p'⟩ := hI''
        exact S'.upd (.tail .head) hk e' p'
      refine wpAny_assign_Name (r_store S'' (Put.head (d := d)) ok fun s₂ S₂ => ?_)
      refine wpAny_mono (turn i d nwc acc _ _ s₂ hi hV hj hal S₂) (fun b s₃ h₃ => ?_) fun _ _ z => z.elim
      cases b with
      | true =>
        rw [if_pos rfl] at h₃ ⊢
        refine wpAny_mono h₃ (fun y s₄ h₄ => ?_) fun _ _ z => z.elim
        obtain ⟨e, nwc', oke, S₄, j⟩ := h₄
        have fr' : ∀ p ∈ nwc', s.heap.get? p.1 = none := fun p hp => by
          have z := (S₄.led p (.tail _ (.tail _ hp))).2.1
          have z' : (if p.1 = I then none else s.heap.get? p.1) = none := z
          have ne : p.1 ≠ I := fun q => (List.nodup_cons.mp (List.nodup_cons.mp S₄.nd).2).1 (List.mem_map.mpr ⟨p, hp, q⟩)
          rwa [if_neg ne] at z'
        refine l_append S₄ (Rp.head (P' := LO (acc ++ [e]))) oke (by omega) fun s₅ S₅ => ?_
        exact ⟨n + 1 - (i + 1), by omega, i + 1, some d, nwc', acc ++ [e], rfl, hi, (by rw [List.length_append, List.length_singleton]; omega), j, fr', S₅⟩
      | false =>
        rw [if_neg Bool.false_ne_true] at h₃ ⊢
        exact ⟨n + 1 - (i + 1), by omega, i + 1, some d, nwc, acc, rfl, hi, by omega, h₃.2, hfr, h₃.1⟩
    · obtain rfl : i = n := by omega
      refine it.stop A s' _ _ hh hI' hs' fun h' tk hk => ?_
      refine ⟨_, rfl, done nwc acc H2.objs.size _ dx _ hj ?_ (none_ge _ (Nat.le_refl _)) (none_ge _ (by omega)) hfr⟩
      have nd1 := List.nodup_cons.mp S'.nd
      have nd := List.nodup_cons.mp nd1.2
      have hIF' := (S'.led _ (.tail _ (.head _))).2
      refine { S' with keep := fun b o e => hk b o (fun q => ?_) (S'.keep b o e), loc := ?_, cel := fun y hy c h1 h2 => ?_, led := fun p hp => ?_, nd := ?_ }
      · rw [q] at e
        have e' : (if I = I then none else s.heap.get? I) = some o := e
        rw [if_pos rfl] at e'; cases e'
      · obtain ⟨mm, ⟨o, es, ep, e, q⟩, b⟩ := S'.loc
        exact ⟨mm, ⟨o, es, ep, hk _ _ (fun z => hIF'.2 (.inl z.symm)) e, q⟩, b⟩
      · obtain ⟨ov, ⟨o, e, q⟩, b⟩ := S'.cel y hy c h1 h2
        exact ⟨ov, ⟨o, hk _ _ (fun z => hIF'.2 (.inr ⟨y, hy, h1, z ▸ h2⟩)) e, q⟩, b⟩
      · have hp' : p ∈ (s.heap.objs.size, LO acc) :: (I, P i) :: nwc := by
          rcases List.mem_cons.mp hp with rfl | hp
          · exact .head _
          · exact .tail _ (.tail _ hp)
        have ne : p.1 ≠ I := by
          rcases List.mem_cons.mp hp with rfl | hp
          · exact fun q => nd1.1 (List.mem_map.mpr ⟨_, .head _, q.symm⟩)
          · exact fun q => nd.1 (List.mem_map.mpr ⟨p, hp, q⟩)
        obtain ⟨⟨o, e, z⟩, z1, z2⟩ := S'.led p hp'
        exact ⟨⟨o, hk _ _ ne e, z⟩, z1, z2⟩
      · refine List.nodup_cons.mpr ⟨fun q => nd1.1 (by simp only [List.map_cons]; exact .tail _ q), nd.2⟩
  exact codeAny_compStart_list loop (it.self A 0 _ _ _ (S4.get (.inr (.tail _ (.head _)))) loop)
end
end Mine

namespace Mine
open PySem PySem.W PySem.Calls PyProof.Rows

section
variable {prog : Program} {w : World} {A : Around} {E : Value → Shared → Prop} {hL : Heap} {s0 : Shared} {F : Addr → Option Obj} {env : Env} {nm : List Str} {vs vs' : List (Option D)} {nw nw' : List (Addr × OP)} {gl : List (Nat × GenState)} {s : Shared} {Q : Value → Shared → Prop} {ds es : List D}

/-- back from a comprehension to the frame around it -/
theorem St.back {I : Addr} {P : OP} (S : St hL s0 F env nm vs ((I, P) :: nw) gl s) {cenv : Env} {x : Str} {dx : Option D} {D₀ : Addr} {acc : List D} {nwc : List (Addr × OP)} {s' : Shared} {h' : Heap} (S' : StC hL s I cenv x dx ((D₀, LO acc) :: nwc) s')
    (hD : s.heap.get? D₀ = none) (hC : s.heap.get? cenv.locals = none) (hfr : ∀ p ∈ nwc, s.heap.get? p.1 = none) (hsb : Heap.SameBut cenv.locals s'.heap h') :
    St hL s0 F env nm vs (((D₀, LO acc) :: nwc) ++ nw) gl { s' with heap := h' } := by
  have hIF := (S.led _ (.head _)).2
  have up : ∀ b o, b ≠ I → s.heap.get? b = some o → h'.get? b = some o := fun b o hb e => by
    have e1 : (if b = I then none else s.heap.get? b) = some o := by rw [if_neg hb, e]
    have e2 := S'.keep b o e1
    refine hsb.extBut b o (fun q => ?_) e2
    rw [q, hC] at e; cases e
  have fresh : ∀ p ∈ (D₀, LO acc) :: nwc, s.heap.get? p.1 = none := fun p hp => by
    rcases List.mem_cons.mp hp with rfl | hp
    · exact hD
    · exact hfr p hp
  refine ⟨S.fx, fun b o e => up b o (fun q => ?_) (S.keep b o e), ?_, fun y hy c h1 h2 => ?_, fun p hp => ?_, ?_, fun i z e => S'.gens i z (S.gens i z e), fun p hp => ⟨S'.gens _ _ (S.gls p hp).1, (S.gls p hp).2⟩, S'.bare, S'.os.trans S.os⟩
  · rw [q, hIF.1] at e; cases e
  · obtain ⟨mm, ⟨o, es, ep, e, q⟩, b⟩ := S.loc
    exact ⟨mm, ⟨o, es, ep, up _ _ (fun z => hIF.2 (.inl z.symm)) e, q⟩, b⟩
  · obtain ⟨ov, ⟨o, e, q⟩, b⟩ := S.cel y hy c h1 h2
    exact ⟨ov, ⟨o, up _ _ (fun z => hIF.2 (.inr ⟨y, hy, h1, z ▸ h2⟩)) e, q⟩, b⟩
  · rcases List.mem_append.mp hp with hp | hp
    · obtain ⟨⟨o, e, z⟩, _, z2⟩ := S'.led p hp
      have hn := fresh p hp
      refine ⟨⟨o, hsb.extBut _ _ (fun q => z2 (.inl q)) e, z⟩, ?_, fun q => ?_⟩
      · cases q : F p.1 with
        | none => rfl
        | some o' => rw [S.keep _ _ q] at hn; cases hn
      · have := S.own_some q; rw [hn] at this; cases this
    · have nd := (List.nodup_cons.mp S.nd).1
      obtain ⟨⟨o, e, z⟩, z1, z2⟩ := S.led p (.tail _ hp)
      exact ⟨⟨o, up _ _ (fun q => nd (List.mem_map.mpr ⟨p, hp, q⟩)) e, z⟩, z1, z2⟩
  · rw [List.map_append]
    refine List.nodup_append.mpr ⟨S'.nd, (List.nodup_cons.mp S.nd).2, fun a ha b hb q => ?_⟩
    obtain ⟨p, hp, rfl⟩ := List.mem_map.mp ha
    obtain ⟨p', hp', rfl⟩ := List.mem_map.mp hb
    obtain ⟨⟨o, e, _⟩, _⟩ := S.led p' (.tail _ hp')
    have := fresh p hp
    rw [q, e] at this; cases this

theorem r_listcomp {elt iter : Expr} {x : Str} {px : Pos} {ifs : List Expr} {scope : Scope} {pos : Pos} {cl : List (Str × Addr)} {M : Model} (hclos : closureFor scope env = pure cl) (hkind : scope.kind = .function) (hnames : ∀ x ∈ scope.names, x.2 = .local → scope.names.lookup x.1 = some .local)
    (h : wpAny M A (eval iter env) (fun xv s₁ => wpAny M A (pyIter xv) (fun it s₂ => wpAny M A (newList []) (fun acc s₃ => wpAny M A (newFunctionEnv scope env.globals cl [] env.qual none .none (some env)) (fun cenv s₄ =>
      codeAny M A (.compStart (.ListComp elt [⟨.Name x px, iter, ifs, 0⟩] scope pos) 0 it acc { cenv with scope := relabel scope env }) (compPost M A E none Q acc cenv.locals) s₄) E s₃) E s₂) E s₁) E s)
    (hs : ∀ x, foldedSetIterable iter env x = pure x := by intro _; rfl) : wpAny M A (eval (.ListComp elt [⟨.Name x px, iter, ifs, 0⟩] scope pos) env) Q E s := by
  rw [eval_ListComp]
  exact wpAny_comprehension_free rfl hs hclos hkind hnames h

theorem comp_end {I : Addr} {P : Nat → OP} {n : Nat} {V : Nat → D → Prop} {side : Heap → Prop} (it : It prog w I P n V side) (hh : A.handled = none) {elt iter : Expr} {x : Str} {px : Pos} {ifs : List Expr} {scope : Scope} {pos : Pos} {cl : List (Str × Addr)}
    (S : St hL s0 F env nm vs ((I, P 0) :: nw) gl s) (hn : n ≤ sizeLine) (hsd : ∀ h : Heap, (∀ b o, (if b = I then none else s.heap.get? b) = some o → h.get? b = some o) → side h)
    (hcell : ∀ y ∈ scope.names, y.2 ≠ .cell) (hkind : scope.kind = .function) (hx : (relabel scope env).names.lookup x = some .local) (hdb : (x == ("__debug__" : Str)) = false)
    (J : Nat → List (Addr × OP) → List D → Prop) (j0 : J 0 [] [])
    (turn : ∀ i d nwc acc C D₀ s', i < n → V i d → J i nwc acc → acc.length ≤ i → StC hL s I (compE scope cl C env) x (some d) ((D₀, LO acc) :: (I, P (i + 1)) :: nwc) s' →
      wpAny (model prog w) A (forIn ifs true fun c r => if r = true then do let ok ← isTrue c (compE scope cl C env) (eval c (compE scope cl C env)); pure (ForInStep.yield ok) else pure (ForInStep.yield r))
        (fun ok s₃ => if ok = true then wpAny (model prog w) A (eval elt (compE scope cl C env)) (fun y s₄ => ∃ e nwc', e.ok y ∧ StC hL s I (compE scope cl C env) x (some d) ((D₀, LO acc) :: (I, P (i + 1)) :: nwc') s₄ ∧ J (i + 1) nwc' (acc ++ [e])) (fun _ _ => False) s₃
          else StC hL s I (compE scope cl C env) x (some d) ((D₀, LO acc) :: (I, P (i + 1)) :: nwc) s₃ ∧ J (i + 1) nwc acc) (fun _ _ => False) s')
    (done : ∀ nwc acc D₀ s', J n nwc acc → s.heap.get? D₀ = none → St hL s0 F env nm vs (((D₀, LO acc) :: nwc) ++ nw) gl s' → Q (.ref D₀) s') :
    wpAny (model prog w) A (newList []) (fun acc s₃ => wpAny (model prog w) A (newFunctionEnv scope env.globals cl [] env.qual none .none (some env)) (fun cenv s₄ =>
      codeAny (model prog w) A (.compStart (.ListComp elt [⟨.Name x px, iter, ifs, 0⟩] scope pos) 0 (.ref I) acc { cenv with scope := relabel scope env }) (compPost (model prog w) A E none Q acc cenv.locals) s₄) E s₃) E s := by
  refine wpAny_mono (comp_core it hh (E := E) (RR := fun D₀ C r s' => compPost (model prog w) A E none Q (.ref D₀) C r s') S hn hsd hcell hkind hx hdb J j0 turn (fun nwc acc C D₀ dx s' j S' hD hC hfr => ?_)) (fun acc s₃ h₃ => wpAny_mono h₃ (fun cenv s₄ h₄ => codeAny_mono h₄ fun r s' h => ?_) fun _ _ e => e) fun _ _ e => e
  · obtain ⟨mm, hm, _⟩ := S'.loc
    exact ⟨mm, hm, fun h' hsb => done nwc acc D₀ _ j hD (S.back (cenv := compE scope cl C env) S' hD hC hfr hsb)⟩
  · obtain ⟨D₀, rfl, h⟩ := h; exact h
theorem f_max2 (S : St hL s0 F env nm vs nw gl s) {a b : Int} {t u : Tok} (hh : A.handled = none) (h : ∀ t s', St hL s0 F env nm vs nw gl s' → Q (.int (max a b) t) s') : wpAny (model prog w) A (call (.builtin "max") [.int a t, .int b u]) Q E s := by
  refine max_two_ints hh fun h' tk hk => ?_
  have S' := S.ext (.grow (tk := tk) hk)
  split
  · rename_i c
    have e : max a b = b := by omega
    have := h u _ S'; rwa [e] at this
  · rename_i c
    have e : max a b = a := by omega
    have := h t _ S'; rwa [e] at this
theorem as_tuple2 (S : St hL s0 F env nm vs nw gl s) {U : Unit → Shared → Prop} {x y : Str} {px py pos : Pos} {k : Nat} {t : Addr} {d e : D} (hh : A.handled = none) (kn : Kn F nw t (TO [d, e])) (p : Put x d nm vs vs') {vs'' : List (Option D)} (q : Put y e nm vs' vs'')
    (h : ∀ s', St hL s0 F env nm vs'' nw gl s' → U () s') : wpAny (model prog w) A (assign (.Tuple [.Name x px, .Name y py] k pos) env (.ref t)) U E s := by
  obtain ⟨o, eo, pt⟩ := S.get kn
  obtain ⟨us, ⟨o', e', c, z⟩, oks⟩ := pt.isTup eo
  obtain ⟨_, _⟩ | ⟨ok1, _ | ⟨ok2, _ | _⟩⟩ := oks
  refine wpAny_assign_Tuple hh ⟨o', e', c, z⟩ rfl rfl fun h' he => ?_
  have S' := S.ext (.grow (tk := s.toks) fun b o e => he b o (fun q => absurd (Heap.lt_size e) (by rw [q]; exact Nat.lt_irrefl _)) e)
  refine wpAny_assignInOrder_more (wpAny_assign_Name (r_store S' p ok1 fun s₁ S₁ => ?_))
  exact wpAny_assignInOrder_more (wpAny_assign_Name (r_store S₁ q ok2 fun s₂ S₂ => wpAny_assignInOrder_none (h _ S₂)))
theorem t_get (S : St hL s0 F env nm vs nw gl s) {value slice : Expr} {a : Addr} {k : Int} {t : Tok} {d : D} (kn : Kn F nw a (TO ds)) (h0 : 0 ≤ k) (h1 : k < 2 ^ 63) (e : ds[k.toNat]? = some d) (h : ∀ v, d.ok v → Q v s)
    (hs : subscripted slice false (.ref a) (.int k t) = operate [.ref a, .int k t] (getItem (.ref a) (.int k t)) := by with_unfolding_all rfl) : wpAny (model prog w) A (subscriptTail value slice (.ref a) (.int k t)) Q E s := by
  obtain ⟨o, eo, p⟩ := S.get kn
  obtain ⟨us, hp, oks⟩ := p.isTup eo
  obtain ⟨v, ev, ok⟩ := oks.get e
  have hl : k.toNat < us.length := (List.getElem?_eq_some_iff.mp ev).1
  refine item_tupleT (l := us) (j := k.toNat) hp (by omega) h1 ?_ ev (h v ok) hs
  unfold seqIndex?
  simp only [if_neg (Int.not_lt.mpr h0)]
  rw [if_pos (by simp; omega)]
end
end Mine

namespace Mine
open PySem PySem.W PySem.Calls PyProof.Rows

theorem mul_T (l : List Nat) (n : Nat) : Txt.mul (T l) n = T (List.replicate n l).flatten := by
  have fold : ∀ (k : Nat) (acc : List Nat), (List.replicate k l.toArray).foldl (· ++ ·) acc.toArray = (acc ++ (List.replicate k l).flatten).toArray := by
    intro k
    induction k with
    | zero => intro acc; simp
    | succ k ih => intro acc; simp only [List.replicate_succ, List.foldl_cons, List.flatten_cons]; have := ih (acc ++ l); simpa using this
  unfold Txt.mul
  split
  · rename_i h
    have : n = 0 := by omega
    subst this; rfl
  · split
    · rename_i h0 h
      simp only [Bool.or_eq_true, beq_iff_eq] at h
      rcases h with h | h
      · have : n = 1 := by omega
        subst this; simp
      · have : l = [] := by simpa [T_len] using h
        subst this; simp
    · apply Str.ext'
      have := fold n []
      simpa using this
theorem join_T (ls : List (List Nat)) : Txt.join (T []) (ls.map T) = T ls.flatten := by
  have app : ∀ a b : List Nat, T a ++ T b = T (a ++ b) := fun a b => by apply Str.ext'; simp [Str.cps_append]
  have go : ∀ (ls : List (List Nat)) (acc : List Nat), (ls.map T).foldl (fun acc p => acc ++ (T []).cps ++ p.cps) acc.toArray = (acc ++ ls.flatten).toArray := by
    intro ls
    induction ls with
    | nil => intro acc; simp
    | cons l ls ih =>
      intro acc
      simp only [List.map_cons, List.foldl_cons, List.flatten_cons]
      have := ih (acc ++ l)
      simpa using this
  cases ls with
  | nil => rfl
  | cons l ls =>
    apply Str.ext'
    exact go ls l
section
variable {prog : Program} {w : World} {A : Around} {E : Value → Shared → Prop} {hL : Heap} {s0 : Shared} {F : Addr → Option Obj} {env : Env} {nm : List Str} {vs vs' : List (Option D)} {nw nw' : List (Addr × OP)} {gl : List (Nat × GenState)} {s : Shared} {Q : Value → Shared → Prop} {ds es : List D}
theorem l_setN (S : St hL s0 F env nm vs nw gl s) {U : Unit → Shared → Prop} {a : Addr} {k : Int} {t : Tok} {d : D} {v : Value} (r : Rp a (LO ds) (LO (ds.set (k + ds.length).toNat d)) nw nw') (ok : d.ok v) (h0 : k < 0) (h1 : -(ds.length : Int) ≤ k) (h2 : -(2 ^ 63) ≤ k) (h : ∀ s', St hL s0 F env nm vs nw' gl s' → U () s') :
    wpAny (model prog w) A (setItem (.ref a) (.int k t) v) U E s := by
  obtain ⟨o, eo, us, n, rfl, oks⟩ := S.get (.inr r.mem)
  have hlen := oks.length
  have hsz : us.toArray.size = ds.length := by rw [List.size_toArray, hlen]
  have hj : (k + us.toArray.size).toNat < us.toArray.size := by rw [hsz]; omega
  refine set_any (n := n) eo (fitsIndex_neg h0 h2) (seqIndex_neg h0 (by rw [hsz]; exact h1)) hj (h _ (S.updS r (Heap.SameBut.update ..) ⟨_, Heap.get?_update_self _ eo rfl, ?_⟩))
  refine ⟨us.set (k + ds.length).toNat v, n, ?_, oks.set ok⟩
  simp [Obj.mapSeq, hlen]
theorem b_muls (S : St hL s0 F env nm vs nw gl s) {l : List Nat} {n : Nat} {t u : Tok} (hsz : l.length * n ≤ 10000) (hl : l.length ≤ 1000) (hn : n ≤ 10000) (h : ∀ t s', St hL s0 F env nm vs nw gl s' → Q (.str (T (List.replicate n l).flatten) t) s') :
    wpAny (model prog w) A (binaryOp .Mult (.str (T l) t) (.int (n : Int) u)) Q E s := by
  refine SB.mul (mulOk_of l.length n (by rw [T_len]; exact Nat.le_refl _) (by omega) (by omega) (by omega) (by omega)) fun t' k => ?_
  rw [mul_T]
  exact h _ _ (S.ext .toks)
theorem Oks.strs {ls : List (List Nat)} {us : List Value} (h : Oks (ls.map fun l => D.str (T l)) us) : StrsAre us (ls.map T) := by
  induction ls generalizing us with
  | nil => cases h; exact .nil
  | cons l ls ih => cases h with
    | cons a r => obtain ⟨t, rfl⟩ := a; exact .cons _ _ (ih r)
theorem f_join (S : St hL s0 F env nm vs nw gl s) {a : Addr} {t : Tok} {ls : List (List Nat)} (kn : Kn F nw a (LO (ls.map fun l => D.str (T l)))) (hsz : ls.flatten.length ≤ 100000) (h : ∀ t s', St hL s0 F env nm vs nw gl s' → Q (.str (T ls.flatten) t) s') :
    wpAny (model prog w) A (call (.builtin "str.join") [.str (T []) t, .ref a]) Q E s := by
  obtain ⟨o, eo, p⟩ := S.get kn
  obtain ⟨us, hp, oks⟩ := p.isList eo
  refine join_list hp (ys := ls.map T) (by simpa using oks.strs) ?_ fun t' k => ?_
  · have e1 : ((ls.map T).map (·.length)).sum = ls.flatten.length := by
      rw [List.length_flatten, List.map_map]; exact congrArg List.sum (List.map_congr_left fun l _ => T_len l)
    rw [e1, T_len, List.length_nil, Nat.mul_zero]; omega
  · rw [join_T]; exact h _ _ (S.ext .toks)
end
end Mine

namespace Mine
open PySem PySem.W PySem.Calls PyProof.Rows

theorem Oks.items {ns : List Int} {us : List Value} (h : Oks (ns.map D.int) us) : ∃ xs : List (Int × Tok), us = xs.map (fun p => .int p.1 p.2) ∧ xs.map (·.1) = ns := by
  induction ns generalizing us with
  | nil => cases h; exact ⟨[], rfl, rfl⟩
  | cons n ns ih => cases h with
    | cons a r =>
      obtain ⟨t, rfl⟩ := a
      obtain ⟨xs, e1, e2⟩ := ih r
      exact ⟨(n, t) :: xs, by rw [e1]; rfl, by rw [← e2]; rfl⟩
theorem Oks.ints {ns : List Int} {us : List Value} (h : Oks (ns.map D.int) us) : IntsAre us ns := by
  induction ns generalizing us with
  | nil => cases h; exact .nil
  | cons n ns ih => cases h with
    | cons a r => obtain ⟨t, rfl⟩ := a; exact .cons _ _ (ih r)
theorem numAt_eq (xs : List (Int × Tok)) (i : Nat) : numAt xs.toArray i = (xs.map (·.1)).getD i 0 := by
  unfold numAt
  rw [List.getD_eq_getElem?_getD, List.getElem?_map]; simp
theorem preSum_eq (ns : List Int) : ∀ k, k ≤ ns.length → preSum (fun i => ns.getD i 0) k = (ns.take k).sum := by
  intro k
  induction k with
  | zero => intro _; rfl
  | succ k ih =>
    intro h
    unfold preSum
    have hk : k < ns.length := h
    rw [ih (by omega), List.take_add_one, List.getElem?_eq_getElem hk, List.getD_eq_getElem?_getD, List.getElem?_eq_getElem hk, Option.toList_some, List.sum_append]
    simp
theorem argBest_max (f : Nat → Int) : ∀ k, argBest (fun i j => decide (f i > f j)) k ≤ k ∧ ∀ j ≤ k, f j ≤ f (argBest (fun i j => decide (f i > f j)) k) := by
  intro k
  induction k with
  | zero =>
    refine ⟨Nat.le_refl _, fun j hj => ?_⟩
    have e : j = 0 := by omega
    subst e; exact Int.le_refl _
  | succ k ih =>
    unfold argBest
    split
    · rename_i h
      have h := of_decide_eq_true h
      refine ⟨Nat.le_refl _, fun j hj => ?_⟩
      by_cases e : j = k + 1
      · subst e; exact Int.le_refl _
      · have := ih.2 j (by omega); omega
    · rename_i h
      have h : ¬ f (k + 1) > f (argBest (fun i j => decide (f i > f j)) k) := by simpa using h
      refine ⟨by have := ih.1; omega, fun j hj => ?_⟩
      by_cases e : j = k + 1
      · subst e; omega
      · exact ih.2 j (by omega)

section
variable {prog : Program} {w : World} {A : Around} {E : Value → Shared → Prop} {hL : Heap} {s0 : Shared} {F : Addr → Option Obj} {env : Env} {nm : List Str} {vs vs' : List (Option D)} {nw nw' : List (Addr × OP)} {gl : List (Nat × GenState)} {s : Shared} {Q : Value → Shared → Prop} {ds es : List D}

theorem f_sum (S : St hL s0 F env nm vs nw gl s) {a : Addr} {ns : List Int} (hh : A.handled = none) (kn : Kn F nw a (LO (ns.map D.int))) (hfit : ∀ k ≤ ns.length, -(2 ^ 63) ≤ (ns.take k).sum ∧ (ns.take k).sum < 2 ^ 63) (hfit' : ∀ n ∈ ns, -(2 ^ 63) ≤ n ∧ n < 2 ^ 63)
    (h : ∀ t s', St hL s0 F env nm vs nw gl s' → Q (.int ns.sum t) s') : wpAny (model prog w) A (call (.builtin "sum") [.ref a]) Q E s := by
  obtain ⟨o, eo, p⟩ := S.get kn
  obtain ⟨us, hl, oks⟩ := p.isList eo
  obtain ⟨xs, rfl, rfl⟩ := oks.items
  have e0 : (fun i => numAt xs.toArray i) = fun i => (xs.map (·.1)).getD i 0 := funext fun i => numAt_eq xs i
  have e1 : ∀ k, k ≤ xs.length → preSum (numAt xs.toArray) k = ((xs.map (·.1)).take k).sum := fun k hk => by
    have := preSum_eq (xs.map (·.1)) k (by simpa using hk)
    rw [← this]; exact congrArg (fun f => preSum f k) e0
  have hl' : s.heap.IsList a (intItems xs.toArray) := by simpa [intItems] using hl
  refine sum_intList hh hl' (fun j hj => ?_) fun h' tk t' hk => ?_
  · have hj' : j < xs.length := by simpa using hj
    refine ⟨?_, ?_⟩
    · rw [numAt_eq]
      refine hfit' _ ?_
      rw [List.getD_eq_getElem?_getD, List.getElem?_eq_getElem (by simpa using hj')]
      exact List.getElem_mem _
    · rw [e1 _ hj']; exact hfit _ (by rw [List.length_map]; exact hj')
  · have := h t' _ (S.ext (.grow (tk := tk) hk))
    have e2 : (xs.map (·.1)).take xs.length = xs.map (·.1) := List.take_of_length_le (by simp)
    rw [List.size_toArray, e1 _ (Nat.le_refl _), e2]
    exact this
theorem f_maxL (S : St hL s0 F env nm vs nw gl s) {a : Addr} {ns : List Int} (hh : A.handled = none) (kn : Kn F nw a (LO (ns.map D.int))) (hne : ns ≠ [])
    (h : ∀ m t s', m ∈ ns → (∀ n ∈ ns, n ≤ m) → St hL s0 F env nm vs nw gl s' → Q (.int m t) s') : wpAny (model prog w) A (call (.builtin "max") [.ref a]) Q E s := by
  obtain ⟨o, eo, p⟩ := S.get kn
  obtain ⟨us, hl, oks⟩ := p.isList eo
  obtain ⟨xs, rfl, rfl⟩ := oks.items
  have hl' : s.heap.IsList a (intItems xs.toArray) := by simpa [intItems] using hl
  have hlen : 0 < xs.length := List.length_pos_iff.mpr fun q => hne (by rw [q]; rfl)
  obtain ⟨b1, b2⟩ := argBest_max (numAt xs.toArray) (xs.toArray.size - 1)
  refine max_intList hh hl' (by simpa using hlen) fun v h' tk hv hk => ?_
  obtain ⟨t, rfl⟩ := intItems_at hv
  generalize argBest (fun i j => decide (numAt xs.toArray i > numAt xs.toArray j)) (xs.toArray.size - 1) = j at b1 b2
  rw [List.size_toArray] at b1 b2
  refine h _ _ _ ?_ (fun n hn => ?_) (S.ext (.grow hk))
  · rw [numAt_eq, List.getD_eq_getElem?_getD, List.getElem?_eq_getElem (by simp; omega)]
    exact List.getElem_mem _
  · obtain ⟨i, hi, rfl⟩ := List.mem_iff_getElem.mp hn
    have := b2 i (by simp at hi; omega)
    rw [numAt_eq] at this
    rw [List.getD_eq_getElem?_getD, List.getElem?_eq_getElem hi] at this
    exact this
theorem f_ord (S : St hL s0 F env nm vs nw gl s) {c : Nat} {t : Tok} (h : ∀ t s', St hL s0 F env nm vs nw gl s' → Q (.int c t) s') : wpAny (model prog w) A (call (.builtin "ord") [.str (T [c]) t]) Q E s :=
  PySem.P.ord_of_char (h _ _ (S.ext .toks))
theorem f_count (S : St hL s0 F env nm vs nw gl s) {a : Addr} {ns : List Int} {k : Int} {t : Tok} (kn : Kn F nw a (LO (ns.map D.int))) (h : ∀ t s', St hL s0 F env nm vs nw gl s' → Q (.int (ns.count k : Nat) t) s') : wpAny (model prog w) A (call (.builtin "list.count") [.ref a, .int k t]) Q E s := by
  obtain ⟨o, eo, p⟩ := S.get kn
  obtain ⟨us, hl, oks⟩ := p.isList eo
  exact count_list_ints hl oks.ints (h _ _ (S.ext .toks))
theorem g_list (S : St hL s0 F env nm vs nw gl s) {a : Addr} {name : Str} {id : String} {pl : Sem Bool} {G : Value × List Value → Shared → Prop} (slot : Slot "list" name id) (hty : typeOf (.builtin id) = pure (.type "method_descriptor")) (kn : Kn F nw a (LO ds)) (h : G (.builtin id, [.ref a]) s) : wpAny (model prog w) A (getMethod (.ref a) name pl) G E s := by
  obtain ⟨o, eo, us, n, rfl, oks⟩ := S.get kn
  exact getMethod_list_of slot hty ⟨_, eo, rfl, n, rfl⟩ ⟨_, eo, rfl⟩ h
theorem g_append (S : St hL s0 F env nm vs nw gl s) {a : Addr} {pl : Sem Bool} {G : Value × List Value → Shared → Prop} (kn : Kn F nw a (LO ds)) (h : G (.builtin "list.append", [.ref a]) s) : wpAny (model prog w) A (getMethod (.ref a) (Str.ofString "append") pl) G E s := g_list S PySem.F.slot_list_append PySem.F.type_list_append kn h
theorem g_count (S : St hL s0 F env nm vs nw gl s) {a : Addr} {pl : Sem Bool} {G : Value × List Value → Shared → Prop} (kn : Kn F nw a (LO ds)) (h : G (.builtin "list.count", [.ref a]) s) : wpAny (model prog w) A (getMethod (.ref a) (Str.ofString "count") pl) G E s := g_list S PySem.F.slot_list_count PySem.F.type_list_count kn h
theorem g_join {M : Model} {x : Str} {t : Tok} {pl : Sem Bool} {G : Value × List Value → Shared → Prop} (h : G (.builtin "str.join", [.str x t]) s) : wpAny M A (getMethod (.str x t) (Str.ofString "join") pl) G E s := PySem.GM.join h
theorem f_isb (S : St hL s0 F env nm vs nw gl s) {i : Int} {t : Tok} (h : ∀ s', St hL s0 F env nm vs nw gl s' → Q (.bool false) s') : wpAny (model prog w) A (call (.builtin "isinstance") [.int i t, .type "bool"]) Q E s :=
  call_isinstance (isinstance_false_int (T := "bool") rfl (by kernel_rfl) (by rw [isSubtype_type]; kernel_rfl)) (h _ (S.ext .toks))
end
end Mine

namespace Mine
open PySem PySem.W PySem.Calls PyProof.Rows
section
variable {prog : Program} {w : World} {A : Around} {E : Value → Shared → Prop} {hL : Heap} {s0 : Shared} {F : Addr → Option Obj} {env : Env} {nm : List Str} {vs vs' : List (Option D)} {nw nw' : List (Addr × OP)} {gl : List (Nat × GenState)} {s : Shared} {Q : Value → Shared → Prop} {ds es : List D}

/-- after a call: its results join the base -/
structure Gr (F F' : Addr → Option Obj) (s s' : Shared) : Prop where
  sub : ∀ b o, F b = some o → F' b = some o
  new : ∀ b o, s.heap.get? b = none → s'.heap.get? b = some o → F' b = some o
theorem Gr.bs {F F' : Addr → Option Obj} {s s' : Shared} (g : Gr F F' s s') {a : Addr} {P : OP} (h : Bs F a P) : Bs F' a P := let ⟨o, e, p⟩ := h; ⟨o, g.sub _ _ e, p⟩
theorem Gr.add {F F' : Addr → Option Obj} {s s' : Shared} (g : Gr F F' s s') {a : Addr} {P : OP} (hn : s.heap.get? a = none) (h : Bs s'.heap.get? a P) : Bs F' a P := let ⟨o, e, p⟩ := h; ⟨o, g.new _ _ hn e, p⟩

open Classical in
theorem St.grow (S : St hL s0 F env nm vs nw gl s) {s' : Shared} (x : Ext s s') : ∃ F', St hL s0 F' env nm vs nw gl s' ∧ Gr F F' s s' := by
  have hsub : ∀ b o, F b = some o → (if Own env nm b ∨ b ∈ nw.map (·.1) then none else s'.heap.get? b) = some o := fun b o e => by
    rw [if_neg, x.heap _ _ (S.keep b o e)]
    rintro (h | h)
    · rw [S.fx.fr b h] at e; cases e
    · obtain ⟨p, hp, rfl⟩ := List.mem_map.mp h
      rw [(S.led p hp).2.1] at e; cases e
  have S' := S.ext x
  refine ⟨fun b => if Own env nm b ∨ b ∈ nw.map (·.1) then none else s'.heap.get? b, ⟨⟨fun b o e => hsub b o (S.fx.lib b o e), fun b o e => hsub b o (S.fx.base b o e), S.fx.ek, S.fx.nmd, S.fx.db, S.fx.kd, fun c hc => if_pos (.inl hc), S.fx.ap⟩, fun b o e => ?_, S'.loc, S'.cel, fun p hp => ⟨(S'.led p hp).1, if_pos (.inr (List.mem_map.mpr ⟨p, hp, rfl⟩)), (S'.led p hp).2.2⟩, S'.nd, S'.gens, S'.gls, S'.bare, S'.os⟩, hsub, fun b o hn e => ?_⟩
  · split at e
    · cases e
    · exact e
  · rw [if_neg, e]
    rintro (h | h)
    · have := S.own_some h; rw [hn] at this; cases this
    · obtain ⟨p, hp, rfl⟩ := List.mem_map.mp h
      obtain ⟨⟨o', e', _⟩, _⟩ := S.led p hp
      rw [hn] at e'; cases e'
theorem St.shrink {F' : Addr → Option Obj} (S : St hL s0 F' env nm vs nw gl s) (fx : Fx hL s0 F env nm) (hsub : ∀ b o, F b = some o → F' b = some o) : St hL s0 F env nm vs nw gl s :=
  ⟨fx, fun b o e => S.keep b o (hsub b o e), S.loc, S.cel, fun p hp => ⟨(S.led p hp).1, (by
    cases q : F p.1 with
    | none => rfl
    | some o => have := hsub _ _ q; rw [(S.led p hp).2.1] at this; cases this), (S.led p hp).2.2⟩, S.nd, S.gens, S.gls, S.bare, S.os⟩
theorem St.new (S : St hL s0 F env nm vs nw gl s) {a : Addr} {P : OP} (h : (a, P) ∈ nw) : F a = none := (S.led _ h).2.1
theorem St.bs (S : St hL s0 F env nm vs nw gl s) {a : Addr} {P : OP} (h : (a, P) ∈ nw) : Bs s.heap.get? a P := (S.led _ h).1
end
end Mine

namespace Mine
open PySem PySem.W PySem.Calls PyProof.Rows
noncomputable abbrev nD (l : List Nat) : List D := l.map fun (k : Nat) => D.int (k : Int)
theorem szl : 100000 ≤ sizeLine := by decide
theorem nD_length (l : List Nat) : (nD l).length = l.length := by simp
theorem nD_get (l : List Nat) (i : Nat) : (nD l)[i]? = (l[i]?).map fun (k : Nat) => D.int (k : Int) := by simp
theorem nD_append (l r : List Nat) : nD (l ++ r) = nD l ++ nD r := by simp
theorem nD_reverse (l : List Nat) : (nD l).reverse = nD l.reverse := by simp
theorem nD_one (l : List Nat) (k : Nat) : nD (l ++ [k]) = nD l ++ [D.int (k : Int)] := by simp
theorem take_snoc {α : Type} (l : List α) (i : Nat) {c : α} (h : l[i]? = some c) : l.take (i + 1) = l.take i ++ [c] := by rw [List.take_add_one, h]; rfl
section
variable {prog : Program} {w : World} {A : Around} {E : Value → Shared → Prop} {hL : Heap} {s0 : Shared} {F : Addr → Option Obj} {env : Env} {nm : List Str} {vs vs' : List (Option D)} {nw nw' : List (Addr × OP)} {gl : List (Nat × GenState)} {s : Shared} {Q : Value → Shared → Prop} {ds es : List D}
theorem l_nd (S : St hL s0 F env nm vs nw gl s) {value slice : Expr} {a : Addr} {i : Nat} {t : Tok} {ns : List Nat} (kn : Kn F nw a (LO (nD ns))) (hi : i < ns.length) (hb : i < 1000000) (h : ∀ t, Q (.int (ns.getD i 0 : Nat) t) s)
    (hs : subscripted slice false (.ref a) (.int i t) = operate [.ref a, .int i t] (getItem (.ref a) (.int i t))) : wpAny (model prog w) A (subscriptTail value slice (.ref a) (.int i t)) Q E s :=
  l_get S (d := .int (ns.getD i 0 : Nat)) kn (Int.natCast_nonneg _) (by omega) (by rw [Int.toNat_natCast, nD_get, List.getElem?_eq_getElem hi, List.getD_eq_getElem?_getD, List.getElem?_eq_getElem hi]; rfl) (fun v ok => by obtain ⟨t, rfl⟩ := ok; exact h t) hs
theorem l_last (S : St hL s0 F env nm vs nw gl s) {value slice : Expr} {a : Addr} {t : Tok} {d : D} (kn : Kn F nw a (LO (ds ++ [d]))) (h : ∀ v, d.ok v → Q v s)
    (hs : subscripted slice false (.ref a) (.int (-1) t) = operate [.ref a, .int (-1) t] (getItem (.ref a) (.int (-1) t))) : wpAny (model prog w) A (subscriptTail value slice (.ref a) (.int (-1) t)) Q E s := by
  have e : ((-1 : Int) + ((ds ++ [d]).length : Nat)).toNat = ds.length := by simp; omega
  exact l_getN S kn (by decide) (by simp; omega) (by decide) (by rw [e]; simp) h hs
theorem l_setLast (S : St hL s0 F env nm vs nw gl s) {U : Unit → Shared → Prop} {a : Addr} {t : Tok} {d d0 : D} {v : Value} (r : Rp a (LO (ds ++ [d0])) (LO (ds ++ [d])) nw nw') (ok : d.ok v) (h : ∀ s', St hL s0 F env nm vs nw' gl s' → U () s') :
    wpAny (model prog w) A (setItem (.ref a) (.int (-1) t) v) U E s := by
  have e : ((-1 : Int) + ((ds ++ [d0]).length : Nat)).toNat = ds.length := by simp; omega
  have e2 : (ds ++ [d0]).set ((-1 : Int) + ((ds ++ [d0]).length : Nat)).toNat d = ds ++ [d] := by rw [e]; simp
  exact l_setN S (d := d) (by rw [e2]; exact r) ok (by decide) (by simp; omega) (by decide) h
theorem f_lenX (S : St hL s0 F env nm vs nw gl s) {l : List Nat} {t : Tok} (hz : l.length ≤ 1000000) (h : ∀ t s', St hL s0 F env nm vs nw gl s' → Q (.int (l.length : Nat) t) s') : wpAny (model prog w) A (call (.builtin "len") [.str (T l) t]) Q E s :=
  f_lenS S (by rw [T_len]; omega) (fun t s' S' => by rw [T_len]; exact h t s' S')
noncomputable def Cap (F : Addr → Option Obj) (env : Env) (x : Str) (d : D) : Prop := ∃ c, env.kindOf x = some .cell ∧ env.cells.lookup x = some c ∧ Bs F c (CE d)
theorem comp_cap {I : Addr} {P : OP} (S : St hL s0 F env nm vs ((I, P) :: nw) gl s) {scope : Scope} {cl : List (Str × Addr)} {C : Addr} {y : Str} {dy : Option D} {nwc : List (Addr × OP)} {s' : Shared} (_ : StC hL s I (compE scope cl C env) y dy nwc s') {d : D} (x : Str) (c : Addr) (a : At x d nm vs) (k : env.kindOf x = some .cell) (hc : env.cells.lookup x = some c) (hk : (relabel scope env).names.lookup x = some .cell) (hl : cl.lookup x = some c) :
    Cap (fun b => if b = I then none else s.heap.get? b) (compE scope cl C env) x d := ⟨c, hk, hl, comp_cell S a k hc⟩
theorem r_capt (S : St hL s0 F env nm vs nw gl s) {M : Model} {x : Str} {pos : Pos} {d : D} (c : Cap F env x d) (h : ∀ v, d.ok v → Q v s) (hd : (x == ("__debug__" : Str)) = false) : wpAny M A (eval (.Name x pos) env) Q E s :=
  let ⟨_, h1, h2, b⟩ := c; r_cap S b h1 h2 h hd
end
end Mine

namespace Mine
open PySem PySem.W PySem.Calls PyProof.Rows PySem.SeqAt
/-- what a value reads as -/
noncomputable def Rd (h : Heap) (v : Value) (p : PyData) : Prop := ∃ as, Reads h v p as
inductive DRs (h : Heap) : List D → List PyData → Prop
  | nil : DRs h [] []
  | int {i : Int} {ds ps} : DRs h ds ps → DRs h (.int i :: ds) (.int i :: ps)
  | str {x : Str} {ds ps} : DRs h ds ps → DRs h (.str x :: ds) (.str x :: ps)
  | val {v : Value} {p : PyData} {ds ps} : Rd h v p → DRs h ds ps → DRs h (.val v :: ds) (p :: ps)
theorem DRs.reads {h : Heap} {ds : List D} {ps : List PyData} (r : DRs h ds ps) : ∀ {vs}, Oks ds vs → ∃ as, ReadsAll h vs ps as := by
  induction r with
  | nil => intro vs ok; cases ok; exact ⟨_, .nil⟩
  | int _ ih =>
    intro vs ok; cases ok with
    | cons o k => obtain ⟨t, rfl⟩ := o; obtain ⟨as, r⟩ := ih k; exact ⟨_, .cons (.int _ _) r⟩
  | str _ ih =>
    intro vs ok; cases ok with
    | cons o k => obtain ⟨t, rfl⟩ := o; obtain ⟨as, r⟩ := ih k; exact ⟨_, .cons (.str _ _) r⟩
  | val d _ ih =>
    intro vs ok; cases ok with
    | cons o k => cases o; obtain ⟨as, r⟩ := ih k; obtain ⟨bs, d⟩ := d; exact ⟨_, .cons d r⟩
noncomputable def iP (ns : List Nat) : List PyData := ns.map fun (k : Nat) => .int (k : Int)
theorem DRs.nats {h : Heap} : ∀ ns : List Nat, DRs h (nD ns) (iP ns)
  | [] => .nil
  | _ :: ns => .int (DRs.nats ns)
noncomputable def sP (ls : List (List Nat)) : List PyData := ls.map fun l => .str (T l)
theorem DRs.strs {h : Heap} : ∀ ls : List (List Nat), DRs h (ls.map fun l => D.str (T l)) (sP ls)
  | [] => .nil
  | _ :: ns => .str (DRs.strs ns)
theorem eqvAll_iP : ∀ ns ms : List Nat, PyData.eqvAll (iP ns) (iP ms) = decide (ns = ms)
  | [], [] => rfl
  | [], _ :: _ => rfl
  | _ :: _, [] => rfl
  | n :: ns, m :: ms => by
    show (PyData.eqv (.int n) (.int m) && PyData.eqvAll (iP ns) (iP ms)) = _
    have e : ((n : Int) == (m : Int)) = decide (n = m) := by rw [Bool.eq_iff_iff, beq_iff_eq, decide_eq_true_iff]; omega
    rw [eqvAll_iP ns ms, PyData.eqv, e, Bool.eq_iff_iff]
    simp
theorem eqvAll_sP : ∀ ns ms : List (List Nat), PyData.eqvAll (sP ns) (sP ms) = decide (ns = ms)
  | [], [] => rfl
  | [], _ :: _ => rfl
  | _ :: _, [] => rfl
  | n :: ns, m :: ms => by
    show (PyData.eqv (.str (T n)) (.str (T m)) && PyData.eqvAll (sP ns) (sP ms)) = _
    rw [eqvAll_sP ns ms, PyData.eqv, Bool.eq_iff_iff]
    simp
theorem canLay_iP : ∀ ns : List Nat, PyData.canLayAll0 (iP ns) = true
  | [] => rfl
  | _ :: ns => by show (true && PyData.canLayAll0 (iP ns)) = true; rw [canLay_iP ns]; rfl
theorem depth_iP : ∀ ns : List Nat, PyData.depthAll (iP ns) = 0
  | [] => rfl
  | _ :: ns => by show max 0 (PyData.depthAll (iP ns)) = 0; rw [depth_iP ns]; rfl
theorem shaped_iP (ns : List Nat) : shaped (.list (iP ns)) = true := by
  simp [shaped, PyData.canLay0, PyData.depth, canLay_iP, depth_iP]
section
variable {prog : Program} {w : World} {A : Around} {E : Value → Shared → Prop} {hL : Heap} {s0 : Shared} {F : Addr → Option Obj} {env : Env} {nm : List Str} {vs vs' : List (Option D)} {nw nw' : List (Addr × OP)} {gl : List (Nat × GenState)} {s : Shared} {Q : Value → Shared → Prop} {ds es : List D}
theorem rd_list (S : St hL s0 F env nm vs nw gl s) {a : Addr} {ps : List PyData} (kn : Kn F nw a (LO ds)) (r : DRs s.heap ds ps) : Rd s.heap (.ref a) (.list ps) := by
  obtain ⟨o, e, us, n, rfl, ok⟩ := S.get kn
  obtain ⟨as, r⟩ := r.reads ok
  exact ⟨_, .list e rfl rfl (by simpa using r)⟩
theorem rd_tuple (S : St hL s0 F env nm vs nw gl s) {a : Addr} {ps : List PyData} (kn : Kn F nw a (TO ds)) (r : DRs s.heap ds ps) : Rd s.heap (.ref a) (.tuple ps) := by
  obtain ⟨o, e, us, n, rfl, ok⟩ := S.get kn
  obtain ⟨as, r⟩ := r.reads ok
  exact ⟨_, .tuple e rfl rfl (by simpa using r)⟩
theorem q_eq {a b : Value} {da db : PyData} (ra : Rd s.heap a da) (rb : Rd s.heap b db) (ha : shaped da = true) (hb : shaped db = true) (hu : A.units + 64 < cLine) (h : Q (.bool (PyData.eqv da db)) s) : wpAny (model prog w) A (compareOp .Eq a b) Q E s :=
  let ⟨_, ra⟩ := ra; let ⟨_, rb⟩ := rb; eq_dataH ra rb ha hb hu h
theorem q_ne {a b : Value} {da db : PyData} (ra : Rd s.heap a da) (rb : Rd s.heap b db) (ha : shaped da = true) (hb : shaped db = true) (hu : A.units + 64 < cLine) (h : Q (.bool (!PyData.eqv da db)) s) : wpAny (model prog w) A (compareOp .NotEq a b) Q E s :=
  let ⟨_, ra⟩ := ra; let ⟨_, rb⟩ := rb; ne_dataH ra rb ha hb hu h
/-- two lists of numbers -/
theorem q_eqN (S : St hL s0 F env nm vs nw gl s) {a b : Addr} {ns ms : List Nat} (ka : Kn F nw a (LO (nD ns))) (kb : Kn F nw b (LO (nD ms))) (hu : A.units + 64 < cLine) (h : Q (.bool (decide (ns = ms))) s) : wpAny (model prog w) A (compareOp .Eq (.ref a) (.ref b)) Q E s :=
  q_eq (rd_list S ka (.nats ns)) (rd_list S kb (.nats ms)) (shaped_iP _) (shaped_iP _) hu (by rw [PyData.eqv, eqvAll_iP]; exact h)
theorem q_neN (S : St hL s0 F env nm vs nw gl s) {a b : Addr} {ns ms : List Nat} (ka : Kn F nw a (LO (nD ns))) (kb : Kn F nw b (LO (nD ms))) (hu : A.units + 64 < cLine) (h : Q (.bool (!decide (ns = ms))) s) : wpAny (model prog w) A (compareOp .NotEq (.ref a) (.ref b)) Q E s :=
  q_ne (rd_list S ka (.nats ns)) (rd_list S kb (.nats ms)) (shaped_iP _) (shaped_iP _) hu (by rw [PyData.eqv, eqvAll_iP]; exact h)
theorem any_iP (k : Nat) : ∀ ns : List Nat, (iP ns).any (fun y => PyData.eqv y (.int k)) = decide (k ∈ ns)
  | [] => by simp [iP]
  | n :: ns => by
    show (PyData.eqv (.int n) (.int k) || (iP ns).any (fun y => PyData.eqv y (.int k))) = _
    have e : ((n : Int) == (k : Int)) = decide (k = n) := by rw [Bool.eq_iff_iff, beq_iff_eq, decide_eq_true_iff]; omega
    rw [any_iP k ns, PyData.eqv, e, Bool.eq_iff_iff]
    simp
theorem q_inN (S : St hL s0 F env nm vs nw gl s) {a : Addr} {k : Nat} {t : Tok} {ns : List Nat} (ka : Kn F nw a (LO (nD ns))) (hu : A.units + 64 < cLine) (h : Q (.bool (decide (k ∈ ns))) s) : wpAny (model prog w) A (compareOp .In (.int k t) (.ref a)) Q E s := by
  obtain ⟨as, ra⟩ := rd_list S ka (.nats ns)
  exact in_list_reads ra (.int _ _) (canLay_iP _) rfl (by rw [depth_iP]; show A.units + 1 + min 0 0 < cLine; omega) (by rw [any_iP]; exact h)
end
end Mine

namespace Mine
open PySem PySem.W PySem.Calls PyProof.Rows

noncomputable def KH (w : World) : Frag := KF w.params
noncomputable def fdAt (w : World) (a : Addr) : FuncData := match (KH w).lookup a with
  | some ⟨_, _, .func fd, _⟩ => fd
  | _ => default

structure Lb (w : World) (hL : Heap) (mg mb : Str → Option Value) : Prop where
  K : (KH w).In hL
  g : hL.Ns mainGlobals mg
  b : hL.Ns builtinsNs mb
  bi : ∀ x : Str, x ≠ "__name__" → mb x = bootBuiltins x
  lim : hL.NoLimit

/-- room for k frames more -/
structure Rm (k : Nat) (A : Around) : Prop where
  h : A.handled = none
  d : A.depth + k < recursionLimit
  u : A.units + 8 * k < cLine
theorem Rm.deeper {k : Nat} {A : Around} {env : Env} (r : Rm (k + 1) A) : Rm k (A.deeper env) :=
  ⟨r.h, by have := r.d; show A.depth + 1 + k < _; omega, by have := r.u; show A.units + 3 + 8 * k < _; omega⟩
theorem Rm.in1 {k : Nat} {A : Around} (r : Rm (k + 1) A) : Rm k A.in1 :=
  ⟨r.h, by have := r.d; show A.depth + k < _; omega, by have := r.u; show A.units + 1 + 8 * k < _; omega⟩
theorem Rm.le {k j : Nat} {A : Around} (r : Rm k A) (h : j ≤ k) : Rm j A := ⟨r.h, by have := r.d; omega, by have := r.u; omega⟩

theorem fd_get {w : World} {hL : Heap} {a : Addr} (X : (KH w).In hL) (e : ((KH w).lookup a).any (fun o => match o.data with | .func _ => true | _ => false) = true) : ∃ o, hL.get? a = some o ∧ o.data = .func (fdAt w a) := by
  unfold fdAt
  cases h : (KH w).lookup a with
  | none => rw [h] at e; cases e
  | some o =>
    rw [h] at e
    refine ⟨o, X _ _ h, ?_⟩
    obtain ⟨c, d, dt, sl⟩ := o
    cases dt <;> first | rfl | cases e

noncomputable def Pr (hL : Heap) (s : Shared) : Prop := (∀ b o, hL.get? b = some o → s.heap.get? b = some o) ∧ AllBare s.gens
theorem St.pr {hL : Heap} {s0 : Shared} {F : Addr → Option Obj} {env : Env} {nm : List Str} {vs : List (Option D)} {nw : List (Addr × OP)} {gl : List (Nat × GenState)} {s : Shared} (S : St hL s0 F env nm vs nw gl s) : Pr hL s := ⟨S.lib, S.bare⟩
theorem enterF {w : World} {hL : Heap} {mg mb : Str → Option Value} (B : Lb w hL mg mb) {prog : Program} {A : Around} {E : Value → Shared → Prop} {Q : Value → Shared → Prop} {s : Shared} {a : Addr} {body : List Stmt} {vals : List Value} {ds : List D} (pn ln nm0 : List Str) (vs0 : List (Option D))
    (P : Pr hL s) (hnm : pn ++ ln = nm0) (hvs : (ds.map some ++ ln.map fun _ => none) = vs0)
    (hf : ((KH w).lookup a).any (fun o => match o.data with | .func _ => true | _ => false) = true) (hcd : codeIn (KH w) (fdAt w a).code (fdAt w a).qualname = true)
    (hroom : A.depth < recursionLimit) (hbody : (fdAt w a).body = .stmts body) (hclo : (fdAt w a).closure = []) (hbind : bindArgs (fdAt w a) ⟨vals, []⟩ = pure (pn.zip vals)) (hlen : pn.length = ds.length) (hds : Oks ds vals)
    (hok : okNames (fdAt w a) nm0 = true) (hco : (fdAt w a).scope.isCoroutine = false) (hgen : (fdAt w a).scope.isGenerator = false) (hk : (fdAt w a).scope.kind = .function)
    (h : ∀ L s₁, s.heap.get? L = none → St hL s s.heap.get? (callEnvC (fdAt w a) L a) nm0 vs0 [] [] s₁ →
      wpAny (model prog w) (A.deeper (callEnvC (fdAt w a) L a)) (execs body (callEnvC (fdAt w a) L a)) (fun f s' => Q (match f with | .ret v => v | _ => .none) s') (fun _ _ => False) s₁) :
    wpAny (model prog w) A (call (.ref a) vals) Q E s := by
  obtain ⟨o, ho, hd⟩ := fd_get B.K hf
  subst hnm hvs
  exact enter pn ln P.1 P.2 B.lim ho hd (codeRec_of B.K hcd) hroom hbody hclo hbind hlen hds hok hco hgen hk h

theorem glb {w : World} {hL : Heap} {mg mb : Str → Option Value} (B : Lb w hL mg mb) {x : Str} {v : Value} (e : nsIn (KH w) mainGlobals x = some (some v)) : mg x = some v := mg_of B.K B.g e
theorem blt {w : World} {hL : Heap} {mg mb : Str → Option Value} (B : Lb w hL mg mb) {x : Str} {v : Value} (e : nsIn (KH w) mainGlobals x = some none) (hv : bootBuiltins x = some v) (hn : x ≠ "__name__") : mg x = none ∧ mb x = some v := ⟨mg_none_of B.K B.g e, (B.bi x hn).trans hv⟩

theorem r_glo {w : World} {hL : Heap} {mg mb : Str → Option Value} (B : Lb w hL mg mb) {M : Model} {A : Around} {E : Value → Shared → Prop} {s0 : Shared} {F : Addr → Option Obj} {env : Env} {nm : List Str} {vs : List (Option D)} {nw : List (Addr × OP)} {gl : List (Nat × GenState)} {s : Shared} {Q : Value → Shared → Prop} {x : Str} {pos : Pos} {v : Value}
    (S : St hL s0 F env nm vs nw gl s) (e : nsIn (KH w) mainGlobals x = some (some v)) (hx : env.kindOf x = some .globalImplicit) (hg : env.globals = mainGlobals) (h : Q v s)
    (hd : (x == ("__debug__" : Str)) = false := by decide) : wpAny M A (eval (.Name x pos) env) Q E s := r_glob S B.g (glb B e) hx hg h hd
theorem r_blt {w : World} {hL : Heap} {mg mb : Str → Option Value} (B : Lb w hL mg mb) {M : Model} {A : Around} {E : Value → Shared → Prop} {s0 : Shared} {F : Addr → Option Obj} {env : Env} {nm : List Str} {vs : List (Option D)} {nw : List (Addr × OP)} {gl : List (Nat × GenState)} {s : Shared} {Q : Value → Shared → Prop} {x : Str} {pos : Pos} {v : Value}
    (S : St hL s0 F env nm vs nw gl s) (e : nsIn (KH w) mainGlobals x = some none) (hv : bootBuiltins x = some v) (hn : x ≠ "__name__") (hx : env.kindOf x = some .globalImplicit) (hg : env.globals = mainGlobals) (hb : env.builtins = builtinsNs) (h : Q v s)
    (hd : (x == ("__debug__" : Str)) = false := by decide) : wpAny M A (eval (.Name x pos) env) Q E s := r_builtin S B.g B.b (blt B e hv hn).1 (blt B e hv hn).2 hx hg hb h hd
end Mine

namespace Mine
open PySem PySem.W PySem.Calls PyProof.Rows
section
variable {w : World} {hL : Heap} {mg mb : Str → Option Value} {M : Model} {A : Around} {E : Value → Shared → Prop} {s0 : Shared} {F : Addr → Option Obj} {env : Env} {nm : List Str} {vs : List (Option D)} {nw : List (Addr × OP)} {gl : List (Nat × GenState)} {s : Shared} {Q : Value → Shared → Prop} {pos : Pos}
theorem gn_strcoll (B : Lb w hL mg mb) (S : St hL s0 F env nm vs nw gl s) (hx : env.kindOf (Str.ofString "_strcoll") = some .globalImplicit) (hg : env.globals = mainGlobals) (hb : env.builtins = builtinsNs) (h : Q (.ref 28) s) : wpAny M A (eval (.Name (Str.ofString "_strcoll") pos) env) Q E s := r_glo B S (by kernel_rfl) hx hg h
theorem gn_strxfrm (B : Lb w hL mg mb) (S : St hL s0 F env nm vs nw gl s) (hx : env.kindOf (Str.ofString "_strxfrm") = some .globalImplicit) (hg : env.globals = mainGlobals) (hb : env.builtins = builtinsNs) (h : Q (.ref 35) s) : wpAny M A (eval (.Name (Str.ofString "_strxfrm") pos) env) Q E s := r_glo B S (by kernel_rfl) hx hg h
theorem gn_grouping_intervals (B : Lb w hL mg mb) (S : St hL s0 F env nm vs nw gl s) (hx : env.kindOf (Str.ofString "_grouping_intervals") = some .globalImplicit) (hg : env.globals = mainGlobals) (hb : env.builtins = builtinsNs) (h : Q (.ref 42) s) : wpAny M A (eval (.Name (Str.ofString "_grouping_intervals") pos) env) Q E s := r_glo B S (by kernel_rfl) hx hg h
theorem gn_Whitespace (B : Lb w hL mg mb) (S : St hL s0 F env nm vs nw gl s) (hx : env.kindOf (Str.ofString "Whitespace") = some .globalImplicit) (hg : env.globals = mainGlobals) (hb : env.builtins = builtinsNs) (h : Q (.ref 104) s) : wpAny M A (eval (.Name (Str.ofString "Whitespace") pos) env) Q E s := r_glo B S (by kernel_rfl) hx hg h
theorem gn_law_gaps (B : Lb w hL mg mb) (S : St hL s0 F env nm vs nw gl s) (hx : env.kindOf (Str.ofString "_law_gaps") = some .globalImplicit) (hg : env.globals = mainGlobals) (hb : env.builtins = builtinsNs) (h : Q (.ref 113) s) : wpAny M A (eval (.Name (Str.ofString "_law_gaps") pos) env) Q E s := r_glo B S (by kernel_rfl) hx hg h
theorem gn_law_sign (B : Lb w hL mg mb) (S : St hL s0 F env nm vs nw gl s) (hx : env.kindOf (Str.ofString "_law_sign") = some .globalImplicit) (hg : env.globals = mainGlobals) (hb : env.builtins = builtinsNs) (h : Q (.ref 120) s) : wpAny M A (eval (.Name (Str.ofString "_law_sign") pos) env) Q E s := r_glo B S (by kernel_rfl) hx hg h
theorem gn_law_figures (B : Lb w hL mg mb) (S : St hL s0 F env nm vs nw gl s) (hx : env.kindOf (Str.ofString "_law_figures") = some .globalImplicit) (hg : env.globals = mainGlobals) (hb : env.builtins = builtinsNs) (h : Q (.ref 127) s) : wpAny M A (eval (.Name (Str.ofString "_law_figures") pos) env) Q E s := r_glo B S (by kernel_rfl) hx hg h
theorem gn_law_lead (B : Lb w hL mg mb) (S : St hL s0 F env nm vs nw gl s) (hx : env.kindOf (Str.ofString "_law_lead") = some .globalImplicit) (hg : env.globals = mainGlobals) (hb : env.builtins = builtinsNs) (h : Q (.ref 132) s) : wpAny M A (eval (.Name (Str.ofString "_law_lead") pos) env) Q E s := r_glo B S (by kernel_rfl) hx hg h
theorem gn_law_read (B : Lb w hL mg mb) (S : St hL s0 F env nm vs nw gl s) (hx : env.kindOf (Str.ofString "_law_read") = some .globalImplicit) (hg : env.globals = mainGlobals) (hb : env.builtins = builtinsNs) (h : Q (.ref 137) s) : wpAny M A (eval (.Name (Str.ofString "_law_read") pos) env) Q E s := r_glo B S (by kernel_rfl) hx hg h
theorem gn_law_runs (B : Lb w hL mg mb) (S : St hL s0 F env nm vs nw gl s) (hx : env.kindOf (Str.ofString "_law_runs") = some .globalImplicit) (hg : env.globals = mainGlobals) (hb : env.builtins = builtinsNs) (h : Q (.ref 144) s) : wpAny M A (eval (.Name (Str.ofString "_law_runs") pos) env) Q E s := r_glo B S (by kernel_rfl) hx hg h
theorem gn_law_line (B : Lb w hL mg mb) (S : St hL s0 F env nm vs nw gl s) (hx : env.kindOf (Str.ofString "_law_line") = some .globalImplicit) (hg : env.globals = mainGlobals) (hb : env.builtins = builtinsNs) (h : Q (.ref 149) s) : wpAny M A (eval (.Name (Str.ofString "_law_line") pos) env) Q E s := r_glo B S (by kernel_rfl) hx hg h
theorem gn_law_ordered (B : Lb w hL mg mb) (S : St hL s0 F env nm vs nw gl s) (hx : env.kindOf (Str.ofString "_law_ordered") = some .globalImplicit) (hg : env.globals = mainGlobals) (hb : env.builtins = builtinsNs) (h : Q (.ref 154) s) : wpAny M A (eval (.Name (Str.ofString "_law_ordered") pos) env) Q E s := r_glo B S (by kernel_rfl) hx hg h
theorem gn_law_numbered (B : Lb w hL mg mb) (S : St hL s0 F env nm vs nw gl s) (hx : env.kindOf (Str.ofString "_law_numbered") = some .globalImplicit) (hg : env.globals = mainGlobals) (hb : env.builtins = builtinsNs) (h : Q (.ref 159) s) : wpAny M A (eval (.Name (Str.ofString "_law_numbered") pos) env) Q E s := r_glo B S (by kernel_rfl) hx hg h
theorem gn_len (B : Lb w hL mg mb) (S : St hL s0 F env nm vs nw gl s) (hx : env.kindOf (Str.ofString "len") = some .globalImplicit) (hg : env.globals = mainGlobals) (hb : env.builtins = builtinsNs) (h : Q (.builtin "len") s) : wpAny M A (eval (.Name (Str.ofString "len") pos) env) Q E s := r_blt B S (by kernel_rfl) (by kernel_rfl) (by decide) hx hg hb h
theorem gn_max (B : Lb w hL mg mb) (S : St hL s0 F env nm vs nw gl s) (hx : env.kindOf (Str.ofString "max") = some .globalImplicit) (hg : env.globals = mainGlobals) (hb : env.builtins = builtinsNs) (h : Q (.builtin "max") s) : wpAny M A (eval (.Name (Str.ofString "max") pos) env) Q E s := r_blt B S (by kernel_rfl) (by kernel_rfl) (by decide) hx hg hb h
theorem gn_sum (B : Lb w hL mg mb) (S : St hL s0 F env nm vs nw gl s) (hx : env.kindOf (Str.ofString "sum") = some .globalImplicit) (hg : env.globals = mainGlobals) (hb : env.builtins = builtinsNs) (h : Q (.builtin "sum") s) : wpAny M A (eval (.Name (Str.ofString "sum") pos) env) Q E s := r_blt B S (by kernel_rfl) (by kernel_rfl) (by decide) hx hg hb h
theorem gn_sorted (B : Lb w hL mg mb) (S : St hL s0 F env nm vs nw gl s) (hx : env.kindOf (Str.ofString "sorted") = some .globalImplicit) (hg : env.globals = mainGlobals) (hb : env.builtins = builtinsNs) (h : Q (.builtin "sorted") s) : wpAny M A (eval (.Name (Str.ofString "sorted") pos) env) Q E s := r_blt B S (by kernel_rfl) (by kernel_rfl) (by decide) hx hg hb h
theorem gn_chr (B : Lb w hL mg mb) (S : St hL s0 F env nm vs nw gl s) (hx : env.kindOf (Str.ofString "chr") = some .globalImplicit) (hg : env.globals = mainGlobals) (hb : env.builtins = builtinsNs) (h : Q (.builtin "chr") s) : wpAny M A (eval (.Name (Str.ofString "chr") pos) env) Q E s := r_blt B S (by kernel_rfl) (by kernel_rfl) (by decide) hx hg hb h
theorem gn_ord (B : Lb w hL mg mb) (S : St hL s0 F env nm vs nw gl s) (hx : env.kindOf (Str.ofString "ord") = some .globalImplicit) (hg : env.globals = mainGlobals) (hb : env.builtins = builtinsNs) (h : Q (.builtin "ord") s) : wpAny M A (eval (.Name (Str.ofString "ord") pos) env) Q E s := r_blt B S (by kernel_rfl) (by kernel_rfl) (by decide) hx hg hb h
theorem gn_isinstance (B : Lb w hL mg mb) (S : St hL s0 F env nm vs nw gl s) (hx : env.kindOf (Str.ofString "isinstance") = some .globalImplicit) (hg : env.globals = mainGlobals) (hb : env.builtins = builtinsNs) (h : Q (.builtin "isinstance") s) : wpAny M A (eval (.Name (Str.ofString "isinstance") pos) env) Q E s := r_blt B S (by kernel_rfl) (by kernel_rfl) (by decide) hx hg hb h
theorem gn_range (B : Lb w hL mg mb) (S : St hL s0 F env nm vs nw gl s) (hx : env.kindOf (Str.ofString "range") = some .globalImplicit) (hg : env.globals = mainGlobals) (hb : env.builtins = builtinsNs) (h : Q (.type "range") s) : wpAny M A (eval (.Name (Str.ofString "range") pos) env) Q E s := r_blt B S (by kernel_rfl) (by kernel_rfl) (by decide) hx hg hb h
theorem gn_tuple (B : Lb w hL mg mb) (S : St hL s0 F env nm vs nw gl s) (hx : env.kindOf (Str.ofString "tuple") = some .globalImplicit) (hg : env.globals = mainGlobals) (hb : env.builtins = builtinsNs) (h : Q (.type "tuple") s) : wpAny M A (eval (.Name (Str.ofString "tuple") pos) env) Q E s := r_blt B S (by kernel_rfl) (by kernel_rfl) (by decide) hx hg hb h
theorem gn_bool (B : Lb w hL mg mb) (S : St hL s0 F env nm vs nw gl s) (hx : env.kindOf (Str.ofString "bool") = some .globalImplicit) (hg : env.globals = mainGlobals) (hb : env.builtins = builtinsNs) (h : Q (.type "bool") s) : wpAny M A (eval (.Name (Str.ofString "bool") pos) env) Q E s := r_blt B S (by kernel_rfl) (by kernel_rfl) (by decide) hx hg hb h
end

end Mine

namespace Mine
open PySem PySem.W PySem.Calls PyProof.Rows

inductive Ents : List (Str × D) → List DictEntry → Prop
  | nil : Ents [] []
  | cons {x d kv e es} : e.key.isStr x = true → (∃ t, e.key = .str x t) → d.ok e.val → Ents kv es → Ents ((x, d) :: kv) (e :: es)
noncomputable def DI (kv : List (Str × D)) : OP := fun o => ∃ es n, o = dictOf es n ∧ Ents kv es
noncomputable def IN (C dx : Addr) : OP := fun o => o = instObj C dx

theorem Ents.snoc {kv es x d e} (h : Ents kv es) (h1 : e.key.isStr x = true) (h2 : ∃ t, e.key = .str x t) (h3 : d.ok e.val) : Ents (kv ++ [(x, d)]) (es ++ [e]) := by
  induction h with
  | nil => exact .cons h1 h2 h3 .nil
  | cons a b c _ ih => exact .cons a b c ih
theorem Ents.noRef {kv es} (h : Ents kv es) : es.any (·.refKey) = false := by
  induction h with
  | nil => rfl
  | cons a b c _ ih =>
    obtain ⟨t, e⟩ := b
    rw [List.any_cons, ih, Bool.or_false]
    unfold DictEntry.refKey; rw [e]
theorem Ents.length {kv es} (h : Ents kv es) : es.length = kv.length := by
  induction h with
  | nil => rfl
  | cons _ _ _ _ ih => simp [ih]
theorem Ents.miss {kv es} (h : Ents kv es) {x : Str} (hx : x ∉ kv.map (·.1)) : es.any (·.key.isStr x) = false ∧ es.find? (·.key.isStr x) = none ∧ ∀ hsh key v, putL x hsh key v es = es ++ [⟨hsh, key, v⟩] := by
  induction h with
  | nil => exact ⟨rfl, rfl, fun _ _ _ => rfl⟩
  | @cons y d kv e es a b c _ ih =>
    obtain ⟨i1, i2, i3⟩ := ih fun q => hx (by simp only [List.map_cons]; exact .tail _ q)
    have ne : e.key.isStr x = false := by
      obtain ⟨t, e'⟩ := b
      rw [e']
      show (y == x) = false
      exact beq_eq_false_iff_ne.mpr fun q => hx (by simp [q])
    refine ⟨by simp [ne, i1], by simp [ne, i2], fun hsh key v => ?_⟩
    unfold putL; rw [if_neg (by rw [ne]; exact Bool.false_ne_true), i3]; rfl
/-- the first entry of that name -/
inductive AtK (x : Str) (d : D) : List (Str × D) → Prop
  | head {kv} : AtK x d ((x, d) :: kv)
  | tail {y e kv} : (y == x) = false → AtK x d kv → AtK x d ((y, e) :: kv)
theorem Ents.look {kv es} (h : Ents kv es) {x : Str} {d : D} (a : AtK x d kv) : ∃ v, getL x es = some (some v) ∧ d.ok v := by
  have : ∃ e, es.find? (·.key.isStr x) = some e ∧ d.ok e.val := by
    induction h with
    | nil => cases a
    | @cons y d' kv e es h1 b c _ ih =>
      cases a with
      | head => exact ⟨e, by simp [h1], c⟩
      | tail hne a =>
        obtain ⟨e', f, ok⟩ := ih a
        have ne : e.key.isStr x = false := by
          obtain ⟨t, e''⟩ := b
          rw [e'']
          exact hne
        exact ⟨e', by simp [ne, f], ok⟩
  obtain ⟨e, f, ok⟩ := this
  exact ⟨e.val, by unfold getL; rw [f], ok⟩

theorem whole2 {h : Heap} {L d : Addr} {m : Str → Option Value} {od : Obj} (hn : h.Ns L m) (hd : h.get? d = some od) (hdL : d ≠ L) : ∃ h₀ news, Fr h₀ L h m ∧ News h₀ L h ((d, od) :: news) ∧ (∀ p ∈ news, p.1 ≠ d) ∧
    ∀ h' od', Fr h₀ L h' m → News h₀ L h' ((d, od') :: news) → ∀ b o, b ≠ L → b ≠ d → h.get? b = some o → h'.get? b = some o := by
  obtain ⟨h₀, news, F, N, N', W⟩ := whole hn
  refine ⟨h₀.hide d, news.filter (·.1 != d), ⟨F.ns, fun b o e => F.keep b o (Heap.of_hide e), by rw [Heap.hide_size]; exact F.above⟩, fun p hp => ?_, fun p hp => ?_, fun h' od' F' NN b o hL hb e => ?_⟩
  · rcases List.mem_cons.mp hp with rfl | hp
    · exact ⟨hd, hdL, Heap.hide_self _ _⟩
    · obtain ⟨hp, hne⟩ := List.mem_filter.mp hp
      obtain ⟨a, b, c⟩ := N p hp
      refine ⟨a, b, ?_⟩
      rw [Heap.hide_ne _ (by simpa using hne)]; exact c
  · simpa using (List.mem_filter.mp hp).2
  · by_cases hb0 : (h₀.get? b).isSome
    · obtain ⟨o', e'⟩ := Option.isSome_iff_exists.mp hb0
      have := F.keep b o' e'
      rw [e] at this; cases this
      exact F'.keep b o (by rw [Heap.hide_ne _ hb]; exact e')
    · have hmem : (b, o) ∈ news := by
        -- b is not in the base, so it is of the ledger: by the whole's own word at h itself
        exact Classical.byContradiction fun hno => by
          have := W (h.hide b) ⟨?_, ?_, ?_⟩ ?_ b o hL e
          · rw [Heap.hide_self] at this; cases this
          · obtain ⟨oL, es, ep, hLo, r⟩ := hn
            exact ⟨oL, es, ep, by rw [Heap.hide_ne _ (Ne.symm hL)]; exact hLo, r⟩
          · intro b' o' e'
            rw [Heap.hide_ne _ (fun q => hb0 (by rw [← q, e']; rfl))]; exact F.keep b' o' e'
          · exact F.above
          · intro p hp
            have hpb : p.1 ≠ b := fun q => hno (by
              have z := N' p hp
              rw [q, e] at z
              have : p = (b, o) := by
                obtain ⟨p1, p2⟩ := p
                simp only at q z; subst q; rw [Option.some.inj z]
              exact this ▸ hp)
            exact ⟨by rw [Heap.hide_ne _ hpb]; exact (N p hp).1, (N p hp).2⟩
      exact (NN (b, o) (.tail _ (List.mem_filter.mpr ⟨hmem, by simpa using hb⟩))).1

section
variable {w : World} {hL : Heap} {mg mb : Str → Option Value} {prog : Program} {A : Around} {E : Value → Shared → Prop} {s0 : Shared} {F : Addr → Option Obj} {env : Env} {nm : List Str} {vs : List (Option D)} {nw nw' : List (Addr × OP)} {gl : List (Nat × GenState)} {s : Shared} {Q : Value → Shared → Prop} {U : Unit → Shared → Prop}

theorem Lb.at {B : Lb w hL mg mb} (S : St hL s0 F env nm vs nw gl s) : (KH w).In s.heap := fun a o e => S.lib a o (B.K a o e)

/-- a name of the object's own, set for the first time -/
theorem a_set (B : Lb w hL mg mb) (S : St hL s0 F env nm vs nw gl s) {x dx : Addr} {kv : List (Str × D)} {name : Str} {d : D} {v : Value} (hx : Kn F nw x (IN 104 dx)) (r : Rp dx (DI kv) (DI (kv ++ [(name, d)])) nw nw') (hnot0 : (kv.all fun p => !(p.1 == name)) = true) (hlen0 : decide (kv.length < 900) = true) (ok : d.ok v)
    (ht : takerIn (KH w) 104 name = some none) (h : ∀ s', St hL s0 F env nm vs nw' gl s' → U () s') : wpAny (model prog w) A (setAttr (.ref x) name v) U E s := by
  have hlen := of_decide_eq_true hlen0
  have hnot : name ∉ kv.map (·.1) := fun q => by
    obtain ⟨p, hp, e⟩ := List.mem_map.mp q
    have := List.all_eq_true.mp hnot0 p hp
    simp [e] at this
  obtain ⟨ox, ex, rfl⟩ := S.get hx
  obtain ⟨od, ed, es, n, rfl, en⟩ := S.get (.inr r.mem)
  obtain ⟨_, hdF, hdO⟩ := S.led _ r.mem
  obtain ⟨mm, hn, _⟩ := S.loc
  obtain ⟨h₀, news, Fr₀, N₀, hne, W⟩ := whole2 hn ed fun q => hdO (.inl q)
  have X : (KH w).In s.heap := fun a o e => S.lib a o (B.K a o e)
  have I : InstAt s.heap x (instObj 104 dx) 104 (some (dictOf es n)) := ⟨ex, rfl, rfl, ed⟩
  obtain ⟨m1, m2, m3⟩ := en.miss hnot
  refine set_plain X I (by kernel_rfl) (osa_dict (s := { s with toks := s.toks + 1 }) (pre := []) (post := news) (es := es ++ [⟨PyData.keyHash w.params name, .str name (s.toks + 1), v⟩]) (n := n + 1) Fr₀ N₀ X I rfl (by kernel_rfl) ht (by kernel_rfl) ?_ (fun _ h => nomatch h) hne rfl ?_ ?_ fun h' F' N' => ?_)
  · rw [lookIn_dict]; unfold getL; rw [m2, en.noRef]; rfl
  · rw [putName_dict, m3]; unfold putN; rw [m1]; rfl
  · rw [List.length_append, en.length]; simp; omega
  · refine h _ (S.updL r (fun b o hb1 hb2 e => W h' _ F' N' b o hb1 hb2 e) (fun m' hm => Ns.uniq hn hm ▸ F'.ns) (N' _ (.head _)).1 ?_)
    rw [putName_dict, m3]
    exact ⟨_, _, rfl, en.snoc (by simp [Value.isStr]) ⟨_, rfl⟩ ok⟩
/-- a name of the object's own, read -/
theorem a_get (B : Lb w hL mg mb) (S : St hL s0 F env nm vs nw gl s) {x dx : Addr} {kv : List (Str × D)} {name : Str} {d : D} {expr : Bool} {attr : Option Value} (ex : s.heap.get? x = some (instObj 104 dx)) (ed : ∃ o, s.heap.get? dx = some o ∧ DI kv o) (a : AtK name d kv)
    (ha : findIn (KH w) (.ref 104) name = some attr) (hno : noGet (KH w) attr = true) (hh : ∀ v, d.ok v → handedIn v = true) (h : ∀ v s', d.ok v → St hL s0 F env nm vs nw gl s' → Q v s') : wpAny (model prog w) A (getAttr (.ref x) name expr) Q E s := by
  obtain ⟨o, ed, es, n, rfl, en⟩ := ed
  have X : (KH w).In s.heap := fun a o e => S.lib a o (B.K a o e)
  obtain ⟨v, hv, ok⟩ := en.look a
  exact get_value X (⟨ex, rfl, rfl, ed⟩ : InstAt s.heap x (instObj 104 dx) 104 (some (dictOf es n))) (by kernel_rfl) (findObj_own (by kernel_rfl) ha hno (by rw [lookIn_dict]; exact hv)) (hh v ok) (h v _ ok (S.ext .toks))
theorem handI {i : Int} : ∀ v, (D.int i).ok v → handedIn v = true := by rintro _ ⟨t, rfl⟩; rfl
theorem handS {x : Str} : ∀ v, (D.str x).ok v → handedIn v = true := by rintro _ ⟨t, rfl⟩; rfl
theorem handR {a : Addr} : ∀ v, (D.val (.ref a)).ok v → handedIn v = true := by rintro _ rfl; rfl
theorem handB {b : Bool} : ∀ v, (D.val (.bool b)).ok v → handedIn v = true := by rintro _ rfl; rfl
theorem a_getK (B : Lb w hL mg mb) (S : St hL s0 F env nm vs nw gl s) {x dx : Addr} {kv : List (Str × D)} {name : Str} {d : D} {expr : Bool} (hx : Kn F nw x (IN 104 dx)) (hd : Kn F nw dx (DI kv)) (a : AtK name d kv)
    (ha : findIn (KH w) (.ref 104) name = some none) (hh : ∀ v, d.ok v → handedIn v = true) (h : ∀ v s', d.ok v → St hL s0 F env nm vs nw gl s' → Q v s') : wpAny (model prog w) A (getAttr (.ref x) name expr) Q E s := by
  obtain ⟨o, e, rfl⟩ := S.get hx
  exact a_get B S e (S.get hd) a ha rfl hh h
/-- S, T of the class -/
theorem a_cls (B : Lb w hL mg mb) (S : St hL s0 F env nm vs nw gl s) {name : Str} {v : Value} {expr : Bool} (hr : readsIn (KH w) 104 (.type "type") = true) (e : findCls (KH w) (.ref 104) (.type "type") name = some (.val v)) (hh : handedIn v = true) (h : ∀ s', St hL s0 F env nm vs nw gl s' → Q v s') :
    wpAny (model prog w) A (getAttr (.ref 104) name expr) Q E s := cls_value (fun a o e => S.lib a o (B.K a o e)) hr e hh (h _ (S.ext .toks))

theorem u_tuple (S : St hL s0 F env nm vs nw gl s) {t : Addr} {ds : List D} {n : Nat} {L : List Value → Shared → Prop} (hh : A.handled = none) (kn : Kn F nw t (TO ds)) (hn : ds.length = n) (h : ∀ us s', Oks ds us → St hL s0 F env nm vs nw gl s' → L us s') :
    wpAny (model prog w) A (unpackItems (.ref t) n none) L E s := by
  obtain ⟨o, eo, p⟩ := S.get kn
  obtain ⟨us, ⟨o', e', c, z⟩, oks⟩ := p.isTup eo
  have := wpAny_unpackItems_tuple (prog := prog) (w := w) (A := A) (E := E) (s := s) (Q := L) hh (⟨o', e', c, z⟩ : s.heap.IsTuple t us.toArray) (fun h' he => h us _ oks (S.ext (.grow (tk := s.toks) fun b o e => he b o (fun q => absurd (Heap.lt_size e) (by rw [q]; exact Nat.lt_irrefl _)) e)))
  rwa [List.size_toArray, ← oks.length, hn] at this
theorem r_swap2 {M : Model} {V : Flow → Shared → Prop} {a b : Str} {pa pb tp p2 pos : Pos} {k k2 : Nat} {us : List Expr} (hs : swapsWithSole [.Tuple [.Name a pa, .Name b pb] k tp] (.Tuple us k2 p2) pos.line env = pure false)
    (hw : swappedStores [.Tuple [.Name a pa, .Name b pb] k tp] (.Tuple us k2 p2) env = pure (some [a, b]))
    (h : wpAny M A (eval (.Tuple us k2 p2) env) (fun v s₁ => wpAny M A (unpackItems v 2 none) (fun items s₂ => ∃ x y, items = [x, y] ∧ wpAny M A (storeName env b y) (fun _ s₃ => wpAny M A (storeName env a x) (fun _ s₄ => V .next s₄) E s₃) E s₂) E s₁) E s) :
    wpAny M A (exec (.Assign [.Tuple [.Name a pa, .Name b pb] k tp] (.Tuple us k2 p2) pos) env) V E s := by
  show wpAny M A (standAt pos >>= fun _ => swapsWithSole [.Tuple [.Name a pa, .Name b pb] k tp] (.Tuple us k2 p2) pos.line env >>= _) V E s
  refine wpAny_bind (wpAny_standAt (wpAny_bind (wpAny_of_eq hs ?_)))
  simp only [Bool.false_eq_true, if_false]
  refine wpAny_bind (wpAny_mono h (fun v s₁ h₁ => ?_) fun _ _ e => e)
  refine wpAny_bind (wpAny_of_eq hw ?_)
  show wpAny M A (rule "assign.swapped-stores" >>= fun _ => unpackItems v 2 none >>= _) V E s₁
  refine wpAny_bind (wpAny_rule (wpAny_bind (wpAny_mono h₁ (fun items s₂ h₂ => ?_) fun _ _ e => e)))
  obtain ⟨x, y, rfl, h₂⟩ := h₂
  refine wpAny_bind ?_
  show wpAny M A (assignInOrder [fun v => bindName env b v, fun v => bindName env a v] [y, x]) _ E s₂
  exact wpAny_assignInOrder_more (wpAny_bindName (wpAny_mono h₂ (fun _ s₃ h₃ => wpAny_assignInOrder_more (wpAny_bindName (wpAny_mono h₃ (fun _ s₄ h₄ => wpAny_assignInOrder_none (wpAny_pure h₄)) fun _ _ e => e))) fun _ _ e => e))
end
end Mine

namespace Mine
open PySem PySem.W PySem.Calls PyProof.Rows
section
variable {w : World} {hL : Heap} {mg mb : Str → Option Value} {prog : Program} {A : Around} {E : Value → Shared → Prop} {s0 : Shared} {F : Addr → Option Obj} {env : Env} {nm : List Str} {vs : List (Option D)} {nw nw' : List (Addr × OP)} {gl : List (Nat × GenState)} {s : Shared} {Q : Value → Shared → Prop} {U : Unit → Shared → Prop}
/-- calls of the program's own functions and classes -/
theorem cw_k0 (B : Lb w hL mg mb) {M : Model} {pos : Pos} {f : Value} {e : Expr} {rest : List Expr} (hk : keepIn (KH w) f = true)
    (h : wpAny M A (spliced (backTo pos (starEach (e :: rest) env))) (fun xs s₁ => (KH w).In s₁.heap ∧ wpAny M A (call f xs) Q E s₁) E s)
    (he : starEach (e :: rest) env = (false, eval e env) :: starEach rest env := by rfl) (hplain : (backTo pos (starEach rest env)).any (·.1) = false := by rfl) :
    wpAny M A (callWith pos f [] (backTo pos (starEach (e :: rest) env)) []) Q E s := callWith_K B.K hk h he hplain
theorem cw_k1 (B : Lb w hL mg mb) {M : Model} {pos : Pos} {f x : Value} {e : Expr} {rest : List Expr} (hk : keepIn (KH w) f = true)
    (h : wpAny M A (spliced (backTo pos (starEach (e :: rest) env))) (fun xs s₁ => (KH w).In s₁.heap ∧ wpAny M A (call f (x :: xs)) Q E s₁) E s)
    (he : starEach (e :: rest) env = (false, eval e env) :: starEach rest env := by rfl) (hplain : (backTo pos (starEach rest env)).any (·.1) = false := by rfl) :
    wpAny M A (callWith pos f [x] (backTo pos (starEach (e :: rest) env)) []) Q E s := callWith_K B.K hk h he hplain
theorem cw_k2 (B : Lb w hL mg mb) (S : St hL s0 F env nm vs nw gl s) {M : Model} {pos : Pos} {f x : Value} (hk : keepIn (KH w) f = true) (h : wpAny M A (call f [x]) Q E s) :
    wpAny M A (callWith pos f [x] (backTo pos (starEach [] env)) []) Q E s := callWith_K0 (Lb.at (B := B) S) hk h
theorem in_and (B : Lb w hL mg mb) (S : St hL s0 F env nm vs nw gl s) {X : Prop} (h : X) : (KH w).In s.heap ∧ X := ⟨Lb.at (B := B) S, h⟩
/-- a method of the class, read at an object -/
theorem g_inst (B : Lb w hL mg mb) (S : St hL s0 F env nm vs nw gl s) {x dx f : Addr} {kv : List (Str × D)} {name : Str} {pl : Sem Bool} {G : Value × List Value → Shared → Prop} (hx : Kn F nw x (IN 104 dx)) (hd : Kn F nw dx (DI kv)) (hno : (kv.all fun p => !(p.1 == name)) = true)
    (hf : findIn (KH w) (.ref 104) name = some (some (.ref f))) (ht : isFn (KH w) (.ref f) = true) (h : G (.ref f, [.ref x]) s) : wpAny (model prog w) A (getMethod (.ref x) name pl) G E s := by
  obtain ⟨ox, ex, rfl⟩ := S.get hx
  obtain ⟨od, ed, es, n, rfl, en⟩ := S.get hd
  have hnot : name ∉ kv.map (·.1) := fun q => by
    obtain ⟨p, hp, e⟩ := List.mem_map.mp q
    have := List.all_eq_true.mp hno p hp
    simp [e] at this
  obtain ⟨m1, m2, m3⟩ := en.miss hnot
  exact method_fn (Lb.at (B := B) S) (⟨ex, rfl, rfl, ed⟩ : InstAt s.heap x (instObj 104 dx) 104 (some (dictOf es n))) (by kernel_rfl) (by kernel_rfl) hf (beq_iff_eq.mp ht) (by show (lookIn name (dictOf es n)).map _ = _; rw [lookIn_dict]; unfold getL; rw [m2, en.noRef]; rfl) h
theorem g_level (B : Lb w hL mg mb) (S : St hL s0 F env nm vs nw gl s) {x dx : Addr} {kv : List (Str × D)} {pl : Sem Bool} {G : Value × List Value → Shared → Prop} (hx : Kn F nw x (IN 104 dx)) (hd : Kn F nw dx (DI kv)) (hno : (kv.all fun p => !(p.1 == Str.ofString "indent_level")) = true)
    (h : G (.ref 73, [.ref x]) s) : wpAny (model prog w) A (getMethod (.ref x) (Str.ofString "indent_level") pl) G E s := g_inst B S hx hd hno (by kernel_rfl) (by kernel_rfl) h
theorem g_long (B : Lb w hL mg mb) (S : St hL s0 F env nm vs nw gl s) {x dx : Addr} {kv : List (Str × D)} {pl : Sem Bool} {G : Value × List Value → Shared → Prop} (hx : Kn F nw x (IN 104 dx)) (hd : Kn F nw dx (DI kv)) (hno : (kv.all fun p => !(p.1 == Str.ofString "longest_run_of_spaces")) = true)
    (h : G (.ref 66, [.ref x]) s) : wpAny (model prog w) A (getMethod (.ref x) (Str.ofString "longest_run_of_spaces") pl) G E s := g_inst B S hx hd hno (by kernel_rfl) (by kernel_rfl) h
end
end Mine

namespace Mine
open PySem PySem.W PySem.Calls PyProof.Rows PySem.SeqAt
noncomputable def iN (ns : List Nat) : List Int := ns.map fun (k : Nat) => (k : Int)
theorem nD_iN (ns : List Nat) : nD ns = (iN ns).map D.int := by simp [iN, List.map_map]
theorem iN_sum : ∀ ns : List Nat, (iN ns).sum = (ns.sum : Nat)
  | [] => rfl
  | n :: ns => by show (n : Int) + (iN ns).sum = _; rw [iN_sum ns, List.sum_cons]; omega
theorem iN_take (ns : List Nat) (k : Nat) : (iN ns).take k = iN (ns.take k) := by simp [iN]
theorem take_sum_le : ∀ (ns : List Nat) (k : Nat), (ns.take k).sum ≤ ns.sum
  | [], k => by simp
  | n :: ns, 0 => by simp
  | n :: ns, k + 1 => by have := take_sum_le ns k; simp only [List.take_succ_cons, List.sum_cons]; omega
theorem mem_sum_le : ∀ (ns : List Nat), ∀ n ∈ ns, n ≤ ns.sum
  | [], n, h => by cases h
  | m :: ns, n, h => by
    rw [List.sum_cons]
    rcases List.mem_cons.mp h with rfl | h
    · omega
    · have := mem_sum_le ns n h; omega
theorem mem_iN {ns : List Nat} {m : Int} (h : m ∈ iN ns) : ∃ k : Nat, k ∈ ns ∧ m = k := by
  obtain ⟨k, hk, rfl⟩ := List.mem_map.mp h; exact ⟨k, hk, rfl⟩
theorem iN_mem {ns : List Nat} {k : Nat} (h : k ∈ ns) : (k : Int) ∈ iN ns := List.mem_map.mpr ⟨k, h, rfl⟩
theorem iN_count (ns : List Nat) (k : Nat) : (iN ns).count (k : Int) = ns.count k := by
  induction ns with
  | nil => rfl
  | cons n ns ih =>
    show ((n : Int) :: iN ns).count (k : Int) = _
    rw [List.count_cons, List.count_cons, ih]
    by_cases e : n = k
    · subst e; simp
    · have : ¬ ((n : Int) = k) := by omega
      simp [e, this]
/-- one more than the greatest, 0 of none -/
noncomputable def top : List Nat → Nat
  | [] => 0
  | n :: ns => max (n + 1) (top ns)
theorem top_ge : ∀ {ns : List Nat} {n : Nat}, n ∈ ns → n < top ns
  | m :: ns, n, h => by
    rw [top]
    rcases List.mem_cons.mp h with rfl | h
    · omega
    · have := top_ge h; omega
theorem top_at : ∀ {ns : List Nat}, ns ≠ [] → ∃ n ∈ ns, top ns = n + 1
  | [m], _ => ⟨m, .head _, by simp [top]⟩
  | m :: k :: ns, _ => by
    obtain ⟨n, hn, e⟩ := top_at (ns := k :: ns) (by simp)
    rw [top, e]
    by_cases q : n ≤ m
    · exact ⟨m, .head _, by omega⟩
    · exact ⟨n, .tail _ hn, by omega⟩
section
variable {prog : Program} {w : World} {A : Around} {E : Value → Shared → Prop} {hL : Heap} {s0 : Shared} {F : Addr → Option Obj} {env : Env} {nm : List Str} {vs vs' : List (Option D)} {nw nw' : List (Addr × OP)} {gl : List (Nat × GenState)} {s : Shared} {Q : Value → Shared → Prop} {ds es : List D}
theorem f_sumN (S : St hL s0 F env nm vs nw gl s) {a : Addr} {ns : List Nat} (hh : A.handled = none) (kn : Kn F nw a (LO (nD ns))) (hb : ns.sum ≤ 1000000000) (h : ∀ t s', St hL s0 F env nm vs nw gl s' → Q (.int (ns.sum : Nat) t) s') :
    wpAny (model prog w) A (call (.builtin "sum") [.ref a]) Q E s := by
  refine f_sum S (ns := iN ns) hh (by rw [← nD_iN]; exact kn) (fun k _ => ?_) (fun m hm => ?_) (by rw [iN_sum]; exact h)
  · rw [iN_take, iN_sum]; have := take_sum_le ns k; omega
  · obtain ⟨k, hk, rfl⟩ := mem_iN hm; have := mem_sum_le ns k hk; omega
theorem f_maxN (S : St hL s0 F env nm vs nw gl s) {a : Addr} {ns : List Nat} (hh : A.handled = none) (kn : Kn F nw a (LO (nD ns))) (hne : ns ≠ []) (h : ∀ t s', St hL s0 F env nm vs nw gl s' → Q (.int (top ns - 1 : Nat) t) s') :
    wpAny (model prog w) A (call (.builtin "max") [.ref a]) Q E s := by
  refine f_maxL S (ns := iN ns) hh (by rw [← nD_iN]; exact kn) (by intro e; exact hne (List.map_eq_nil_iff.mp e)) fun m t s' hm hg S' => ?_
  obtain ⟨k, hk, rfl⟩ := mem_iN hm
  obtain ⟨n, hn, e⟩ := top_at hne
  have h1 := hg _ (iN_mem hn)
  have h2 := top_ge hk
  have : k = top ns - 1 := by omega
  rw [this]; exact h _ _ S'
theorem f_maxM (S : St hL s0 F env nm vs nw gl s) {a : Addr} {ns : List Nat} (hh : A.handled = none) (kn : Kn F nw a (LO (nD ns ++ [.int (-1)]))) (h : ∀ t s', St hL s0 F env nm vs nw gl s' → Q (.int ((top ns : Nat) - 1) t) s') :
    wpAny (model prog w) A (call (.builtin "max") [.ref a]) Q E s := by
  refine f_maxL S (ns := iN ns ++ [-1]) hh (by rw [List.map_append, ← nD_iN]; exact kn) (by simp) fun m t s' hm hg S' => ?_
  have : m = (top ns : Nat) - 1 := by
    rcases List.mem_append.mp hm with hm | hm
    · obtain ⟨k, hk, rfl⟩ := mem_iN hm
      obtain ⟨n, hn, e⟩ := top_at (List.ne_nil_of_mem hk)
      have h1 := hg _ (List.mem_append_left _ (iN_mem hn))
      have h2 := top_ge hk
      omega
    · obtain rfl := List.mem_singleton.mp hm
      cases ns with
      | nil => rfl
      | cons n ns => have h1 := hg _ (List.mem_append_left _ (iN_mem (.head _ : n ∈ n :: ns))); omega
  rw [this]; exact h _ _ S'
theorem f_countN (S : St hL s0 F env nm vs nw gl s) {a : Addr} {ns : List Nat} {k : Nat} {t : Tok} (kn : Kn F nw a (LO (nD ns))) (h : ∀ t s', St hL s0 F env nm vs nw gl s' → Q (.int (ns.count k : Nat) t) s') : wpAny (model prog w) A (call (.builtin "list.count") [.ref a, .int k t]) Q E s :=
  f_count S (ns := iN ns) (by rw [← nD_iN]; exact kn) (by rw [iN_count]; exact h)
end
end Mine

namespace Mine
open PySem PySem.W PySem.Calls PyProof.Rows
/-- what a value of this kind is handed on to -/
noncomputable def Cont (d : D) (Q : Value → Shared → Prop) (s : Shared) : Prop := ∀ v, d.ok v → Q v s
section
variable {Q : Value → Shared → Prop} {s : Shared} {P : Value → Prop} {n : Int} {x : Str} {u : Value}
theorem Cont.int (h : ∀ t, Q (.int n t) s) : Cont (.int n) Q s := fun v ⟨t, e⟩ => by cases e; exact h t
theorem Cont.str (h : ∀ t, Q (.str x t) s) : Cont (.str x) Q s := fun v ⟨t, e⟩ => by cases e; exact h t
theorem Cont.val (h : Q u s) : Cont (.val u) Q s := fun v e => by cases e; exact h
theorem opI (h : ∀ t, P (.int n t)) : ∀ v, (D.int n).ok v → P v := fun v ⟨t, e⟩ => by cases e; exact h t
theorem opS (h : ∀ t, P (.str x t)) : ∀ v, (D.str x).ok v → P v := fun v ⟨t, e⟩ => by cases e; exact h t
theorem opV (h : P u) : ∀ v, (D.val u).ok v → P v := fun v e => by cases e; exact h
end
section
variable {prog : Program} {w : World} {A : Around} {E : Value → Shared → Prop} {hL : Heap} {mg mb : Str → Option Value} {s0 : Shared} {F : Addr → Option Obj} {env : Env} {nm : List Str} {vs : List (Option D)} {nw : List (Addr × OP)} {gl : List (Nat × GenState)} {s : Shared} {Q : Value → Shared → Prop} {ds : List D}
theorem r_nameC (S : St hL s0 F env nm vs nw gl s) {M : Model} {x : Str} {pos : Pos} {d : D} (a : At x d nm vs) (h : Cont d Q s) : wpAny M A (eval (.Name x pos) env) Q E s := r_name S a h
theorem r_captC (S : St hL s0 F env nm vs nw gl s) {M : Model} {x : Str} {pos : Pos} {d : D} (c : Cap F env x d) (hd : (x == ("__debug__" : Str)) = false) (h : Cont d Q s) : wpAny M A (eval (.Name x pos) env) Q E s := r_capt S c h hd
theorem a_getC (B : Lb w hL mg mb) (S : St hL s0 F env nm vs nw gl s) {x dx : Addr} {kv : List (Str × D)} {name : Str} {d : D} {expr : Bool} (hx : Kn F nw x (IN 104 dx)) (hd : Kn F nw dx (DI kv)) (a : AtK name d kv)
    (ha : findIn (KH w) (.ref 104) name = some none) (hh : ∀ v, d.ok v → handedIn v = true) (h : ∀ s', St hL s0 F env nm vs nw gl s' → Cont d Q s') : wpAny (model prog w) A (getAttr (.ref x) name expr) Q E s :=
  a_getK B S hx hd a ha hh (fun v s' ok S' => h s' S' v ok)
theorem l_lastC (S : St hL s0 F env nm vs nw gl s) {value slice : Expr} {a : Addr} {t : Tok} {d : D} (kn : Kn F nw a (LO (ds ++ [d])))
    (hs : subscripted slice false (.ref a) (.int (-1) t) = operate [.ref a, .int (-1) t] (getItem (.ref a) (.int (-1) t))) (h : Cont d Q s) : wpAny (model prog w) A (subscriptTail value slice (.ref a) (.int (-1) t)) Q E s := l_last S kn h hs
end
end Mine

namespace Mine
open PySem PySem.W PySem.Calls PyProof.Rows

section
variable {M : Model} {A : Around} {R : GenEnd} {Y : Protocol} {n : Nat} {s₀ : Shared} {c : Code} {fs : List Frame} {s : Shared} {env : Env}
  {K : Flow → Sem Fin} {H : Value → Sem Fin} {gd : Bool → Bool} {lv : List Value → List Value}
theorem sg_stmt {st : Stmt} (h : wpAny M (A.over c fs) (exec st env) (fun f s' => Seg M A R Y n s₀ c (K f) fs s') (fun _ _ => False) s) : Seg M A R Y n s₀ c ((exec st env).wrap K H gd lv) fs s :=
  seg_wrap (wpAny_mono h (fun _ _ x => x) fun _ _ x => x.elim)
theorem sg_If {test : Expr} {body orelse : List Stmt} {pos : Pos} (h : wpAny M (A.over c fs) (isTrue test env (eval test env)) (fun b s' => if b = true then Seg M A R Y n s₀ c ((execs body env).wrap K H gd lv) fs s' else Seg M A R Y n s₀ c ((execs orelse env).wrap K H gd lv) fs s') (fun _ _ => False) s) :
    Seg M A R Y n s₀ c ((exec (.If test body orelse pos) env).wrap K H gd lv) fs s := by
  rw [exec_If]
  refine seg_bind_wrap (wpAny_standAt ?_)
  refine seg_bind_wrap (wpAny_mono h (fun b s' h' => ?_) fun _ _ x => x.elim)
  cases b <;> exact h'
noncomputable def backK (env : Env) (K : Flow → Sem Fin) (H : Value → Sem Fin) (gd : Bool → Bool) (lv : List Value → List Value) (r : Result) : Sem Fin :=
  ((match r with | .ok f => (.pure f : Sem Flow) | .error e => .raise e).onRaise fun (x : Value) => do
        if (← field x 1) == Value.none then unsupported "frame.own-activation:exception-without-traceback"
        setFlight x env.frame).wrap K H gd lv
theorem sg_For {target iter : Expr} {body orelse : List Stmt} {pos : Pos} (hs : ∀ x, foldedSetIterable iter env x = pure x)
    (h : wpAny M (A.over c fs) (eval iter env) (fun x s₁ => wpAny M (A.over c fs) (pyIter x) (fun it s₂ => ∀ p, Seg M A R Y n s₀ (.forLoop target it body orelse env) (M.den (.forLoop target it body orelse env)) (.ret (backK env K H gd lv) none (gd false) (lv []) c p [] :: fs) s₂) (fun _ _ => False) s₁) (fun _ _ => False) s) :
    Seg M A R Y n s₀ c ((exec (.For target iter body orelse pos) env).wrap K H gd lv) fs s := by
  rw [exec_For]
  refine seg_bind_wrap (wpAny_standAt ?_)
  refine seg_bind_wrap (wpAny_mono h (fun x s₁ h₁ => ?_) fun _ _ x => x.elim)
  refine seg_bind_wrap (wpAny_of_eq (hs x) ?_)
  refine seg_bind_wrap (wpAny_standAt ?_)
  refine seg_bind_wrap (wpAny_holding (wpAny_mono h₁ (fun it s₂ h₂ => ?_) fun _ _ x => x.elim))
  exact seg_call h₂
theorem sg_While {test : Expr} {body orelse : List Stmt} {pos : Pos}
    (h : ∀ p, Seg M A R Y n s₀ (.whileLoop test body orelse env) (M.den (.whileLoop test body orelse env)) (.ret (backK env K H gd lv) none (gd false) (lv []) c p [] :: fs) s) :
    Seg M A R Y n s₀ c ((exec (.While test body orelse pos) env).wrap K H gd lv) fs s := seg_While h
end
section
variable {prog : Program} {w : World} {A : Around} {R : GenEnd} {Y : Protocol} {n : Nat} {s₀ : Shared} {fs : List Frame} {s : Shared} {env : Env}
theorem sg_loop {target : Expr} {it : Value} {body : List Stmt}
    (h : wpAny (model prog w) (A.over (.forLoop target it body [] env) fs) (pyNext it) (fun r s₁ => match r with
      | none => Seg (model prog w) A R Y n s₀ (.forLoop target it body [] env) (.pure (.again (.block [] env))) fs s₁
      | some v => wpAny (model prog w) (A.over (.forLoop target it body [] env) fs) (letOwnedTupleGo target it v) (fun _ s₁' => wpAny (model prog w) (A.over (.forLoop target it body [] env) fs) (assign target env v) (fun _ s₂ =>
          ∀ H : Value → Sem Fin, Seg (model prog w) A R Y n s₀ (.forLoop target it body [] env) ((execs body env).wrap (fun f => match f with
            | .next | .cont => .pure (.again (.forLoop target it body [] env))
            | .brk => .pure (.done .next)
            | .ret v => .pure (.done (.ret v))) H id id) fs s₂) (fun _ _ => False) s₁') (fun _ _ => False) s₁) (fun _ _ => False) s) :
    Seg (model prog w) A R Y n s₀ (.forLoop target it body [] env) ((model prog w).den (.forLoop target it body [] env)) fs s := by
  show Seg _ A R Y n s₀ _ ((forTurn target it body [] env).onRaise (fun x => do noteFrame x env; theTreesLotGoes x)) fs s
  rw [Sem.onRaise_eq_wrap]
  unfold forTurn
  refine seg_bind_wrap (wpAny_standAt ?_)
  refine seg_bind_wrap (wpAny_onRaise (wpAny_mono h (fun r s₁ h₁ => ?_) fun _ _ x => x.elim))
  cases r with
  | none => exact h₁
  | some v =>
    refine seg_bind_wrap (wpAny_mono h₁ (fun _ s₂ h₂ => ?_) fun _ _ x => x.elim)
    refine seg_bind_wrap (wpAny_mono h₂ (fun _ s₃ h₃ => ?_) fun _ _ x => x.elim)
    rw [Sem.bind_eq_wrap', Sem.wrap_wrap]
    refine (congrArg (fun t => Seg (model prog w) A R Y n s₀ (.forLoop target it body [] env) t fs s₃) (Sem.wrap_congr (execs body env) id id (fun f => ?_) fun e => rfl)).mpr (h₃ _)
    cases f <;> rfl
theorem sg_whileT {test : Expr} {body : List Stmt}
    (h : wpAny (model prog w) (A.over (.whileLoop test body [] env) fs) (isTrue test env (eval test env)) (fun b s' => b = true ∧ ∀ H : Value → Sem Fin,
        Seg (model prog w) A R Y n s₀ (.whileLoop test body [] env) ((execs body env).wrap (fun f => match f with
            | .next | .cont => .pure (.again (.whileLoop test body [] env))
            | .brk => .pure (.done .next)
            | .ret v => .pure (.done (.ret v))) H id id) fs s') (fun _ _ => False) s) :
    Seg (model prog w) A R Y n s₀ (.whileLoop test body [] env) ((model prog w).den (.whileLoop test body [] env)) fs s := by
  refine seg_whileLoop (wpAny_mono h (fun b s' h' => ?_) fun _ _ x => x.elim)
  obtain ⟨rfl, h'⟩ := h'
  rw [if_pos rfl]
  exact h' _
/-- the next item of a generator of a def -/
theorem n_gen {E : Value → Shared → Prop} {a : Addr} {g : Nat} {gs : GenState} {P : Nat → Shared → Shared → Prop} {Q : Option Value → Shared → Prop} (hh : A.handled = none) (hl : s.heap.NoLimit) (hroom : A.depth < recursionLimit)
    (hg : s.heap.IsGen a g) (hgs : s.gens[g]? = some gs) (hgo : gs.Goes (model prog w) A.in1 (fun n s₀ r s₁ => r = .ok (.ret .none) ∧ P n s₀ s₁) Y n (.send .none) (s.setGen g .running))
    (hY : ∀ v s₁ gs', gs'.bare = true → Y (n - 1) (s.setGen g .running) v s₁ (fun r' s'' => match n with
        | 0 => False
        | m + 1 => gs'.Goes (model prog w) A.in1 (fun n s₀ r s₁ => r = .ok (.ret .none) ∧ P n s₀ s₁) Y m r' s'') → Q (some v) (s₁.setGen g gs'))
    (hP : ∀ s₁, P n (s.setGen g .running) s₁ → ∀ h', (∀ b o, s₁.heap.get? b = some o → h'.get? b = some o) → Q none { s₁.setGen g .finished with heap := h' }) :
    wpAny (model prog w) A (pyNext (.ref a)) Q E s := by
  unfold pyNext
  refine wpAny_bind (wpAny_attempt (wpAny_callSpecial?_slot (name := Str.ofString "__next__") hg.typeIs slot_gen_next (wpAny_call_entry slot_gen_next hg.typeIs entry_gen_next ?_ (args_gen_next _))))
  show wpAny _ A.in1 (Builtin.Generator.genWake (.ref a) (.send .none)) _ _ s
  unfold Builtin.Generator.genWake
  refine wpAny_bind (wpAny_holding (wpAny_genNumber hg (wpAny_bind (wpAny_genState hgs ?_))))
  have room : ∀ {T : Unit → Shared → Prop} {E' : Value → Shared → Prop}, T () s → wpAny (model prog w) A.in1 roomToWake T E' s := fun h => wpAny_roomToWake hl hroom h
  have main : ∀ {K : GenResult → Sem Fin} {T : Fin → Shared → Prop} {E' : Value → Shared → Prop}, (∀ v s', Q (some v) s' → wpAny (model prog w) A.in1 (K (.yielded v)) T E' s') →
      (∀ s₁, P n (s.setGen g .running) s₁ → wpAny (model prog w) A.in1 (K (.returned .none)) T E' (s₁.setGen g .finished)) → wpAny (model prog w) A.in1 (.resume g (.send .none) [] K) T E' s := fun h1 h2 =>
    wpAny_resumeQ hgs hgo (fun x s₁ hx => by obtain ⟨rfl, hp⟩ := hx; exact h2 s₁ hp) (fun v s₁ gs' hb hv => h1 v _ (hY v s₁ gs' hb hv))
  cases gs with
  | running => exact hgo.elim
  | finished => exact hgo.elim
  | _ =>
    refine wpAny_bind (room (main (fun v s' hq => wpAny_pure ⟨v, rfl, wpAny_pure hq⟩) fun s₁ hp => ?_))
    show wpAny _ A.in1 (newExc (.type "StopIteration") [] >>= _) _ _ _
    refine wpAny_bind ?_
    simp only [newExc, newTuple]
    refine wpAny_bind (wpAny_newObj_type ?_ (by size_fits))
    refine wpAny_bind (m := firstArgMember _ _) (wpAny_of_eq (a := Value.none) (by simp only [firstArgMember]; rfl) ?_)
    refine wpAny_newObj_type ?_ (by size_fits)
    simp only [raiseNew]
    refine wpAny_bind (wpAny_bind (wpAny_handled ?_))
    rw [show A.in1.handled = none from hh]
    refine wpAny_throw (wpAny_bind (wpAny_isInstance (T := "StopIteration") (b := true) ⟨_, Heap.get?_push_size _ rfl, rfl⟩ isSubtype_stop ?_))
    exact wpAny_pure (hP s₁ hp _ fun b o hb => Heap.get?_push_of_some _ (Heap.get?_push_of_some _ hb))
end
end Mine

namespace Mine
open PySem PySem.W PySem.Calls PyProof.Rows

noncomputable abbrev gnm : List Str := [Str.ofString "grouping", Str.ofString "last_interval", Str.ofString "interval"]
noncomputable def genv (w : World) (C : Addr) : Env := callEnvC (fdAt w 42) C 42
/-- addresses of the generator's own that no other owns -/
structure GD (hL : Heap) (za C I : Addr) : Prop where
  hC : hL.get? C = none
  hI : hL.get? I = none
  zC : za ≠ C
  zI : za ≠ I
  ne : C ≠ I
structure GB (hL : Heap) (za : Addr) (sz : List Nat) (C : Addr) (vs : List (Option D)) (s : Shared) : Prop where
  lib : ∀ b o, hL.get? b = some o → s.heap.get? b = some o
  bare : AllBare s.gens
  z : Bs s.heap.get? za (LO (nD sz))
  loc : ∃ mm, s.heap.Ns C mm ∧ ∀ x d, At x d gnm vs → ∃ v, mm x = some v ∧ d.ok v
structure GF (hL : Heap) (za : Addr) (sz : List Nat) (C I : Addr) (vs : List (Option D)) (i : Nat) (s : Shared) : Prop extends GB hL za sz C vs s where
  it : ∃ o, s.heap.get? I = some o ∧ LI za i o
structure GOut (C I : Addr) (s s' : Shared) : Prop where
  heap : ∀ b o, b ≠ C → b ≠ I → s.heap.get? b = some o → s'.heap.get? b = some o
  gens : ∀ (i : Nat) x, s.gens[i]? = some x → s'.gens[i]? = some x
  os : s'.os = s.os
theorem GOut.trans {C I : Addr} {a b c : Shared} (x : GOut C I a b) (y : GOut C I b c) : GOut C I a c :=
  ⟨fun q o h1 h2 e => y.heap q o h1 h2 (x.heap q o h1 h2 e), fun i z e => y.gens i z (x.gens i z e), y.os.trans x.os⟩
theorem GOut.refl {C I : Addr} {a : Shared} : GOut C I a a := ⟨fun _ _ _ _ e => e, fun _ _ e => e, rfl⟩
/-- the state that the generator's walk begins with: all but its own two objects is its base -/
noncomputable def gBase (C I : Addr) (s : Shared) : Shared := { s with heap := (s.heap.hide C).hide I }
noncomputable def gF (C I : Addr) (s : Shared) : Addr → Option Obj := fun b => if b = C ∨ b = I then none else s.heap.get? b
noncomputable abbrev GS (hL : Heap) (w : World) (C I : Addr) (s0 : Shared) (vs : List (Option D)) (nw : List (Addr × OP)) (s : Shared) : Prop := St hL (gBase C I s0) (gF C I s0) (genv w C) gnm vs nw [] s

theorem gkind (w : World) (C : Addr) : ∀ x ∈ gnm, (genv w C).kindOf x = some .local := by
  intro x hx
  simp only [List.mem_cons, List.not_mem_nil, or_false] at hx
  rcases hx with rfl | rfl | rfl <;> kernel_rfl
theorem gFx {hL : Heap} {w : World} {za C I : Addr} (Dg : GD hL za C I) {s : Shared} (lib : ∀ b o, hL.get? b = some o → s.heap.get? b = some o) : Fx hL (gBase C I s) (gF C I s) (genv w C) gnm := by
  have own : ∀ c, Own (genv w C) gnm c → c = C := fun c hc => by
    rcases hc with rfl | ⟨x, hx, k, _⟩
    · rfl
    · rw [gkind w C x hx] at k; cases k
  refine ⟨fun b o e => ?_, fun b o e => ?_, by kernel_rfl, by decide, by decide, fun x hx => .inl (gkind w C x hx), fun c hc => ?_, fun x hx c k => ?_⟩
  · unfold gF
    rw [if_neg, lib b o e]
    rintro (rfl | rfl)
    · rw [Dg.hC] at e; cases e
    · rw [Dg.hI] at e; cases e
  · have e' : ((s.heap.hide C).hide I).get? b = some o := e
    unfold gF
    by_cases h2 : b = I
    · subst h2; rw [Heap.hide_self] at e'; cases e'
    · rw [Heap.hide_ne _ h2] at e'
      by_cases h1 : b = C
      · subst h1; rw [Heap.hide_self] at e'; cases e'
      · rw [Heap.hide_ne _ h1] at e'
        rw [if_neg (by rintro (h | h); exact h1 h; exact h2 h)]; exact e'
  · rw [own c hc]; unfold gF; rw [if_pos (.inl rfl)]
  · rw [gkind w C x hx] at k; cases k
theorem GB.st {hL : Heap} {w : World} {za C I : Addr} {sz : List Nat} (Dg : GD hL za C I) {vs : List (Option D)} {s : Shared} (G : GB hL za sz C vs s) : GS hL w C I s vs [] s where
  fx := gFx Dg G.lib
  keep := fun b o e => by
    unfold gF at e
    split at e
    · cases e
    · exact e
  loc := let ⟨mm, h1, h2⟩ := G.loc; ⟨mm, h1, fun x d a _ => h2 x d a⟩
  cel := fun x hx c k => by rw [gkind w C x hx] at k; cases k
  led := fun _ h => nomatch h
  nd := List.Pairwise.nil
  gens := fun _ _ e => e
  gls := fun _ h => nomatch h
  bare := G.bare
  os := rfl
theorem GF.st {hL : Heap} {w : World} {za C I : Addr} {sz : List Nat} (Dg : GD hL za C I) {vs : List (Option D)} {i : Nat} {s : Shared} (G : GF hL za sz C I vs i s) : GS hL w C I s vs [(I, LI za i)] s :=
  { G.toGB.st (w := w) Dg with
    led := fun p hp => by
      obtain rfl := List.mem_singleton.mp hp
      refine ⟨G.it, by unfold gF; rw [if_pos (.inr rfl)], fun hc => ?_⟩
      rcases hc with h | ⟨x, hx, k, _⟩
      · exact Dg.ne h.symm
      · rw [gkind w C x hx] at k; cases k
    nd := by simp }
theorem gz {hL : Heap} {za C I : Addr} {s0 : Shared} (Dg : GD hL za C I) {P : OP} (h : Bs s0.heap.get? za P) : Bs (gF C I s0) za P := by
  obtain ⟨o, e, p⟩ := h
  refine ⟨o, ?_, p⟩
  unfold gF
  rw [if_neg (by rintro (h | h); exact Dg.zC h; exact Dg.zI h), e]
theorem GB.of {hL : Heap} {w : World} {za C I : Addr} {sz : List Nat} (Dg : GD hL za C I) {vs : List (Option D)} {nw : List (Addr × OP)} {s0 s : Shared} (h : Bs s0.heap.get? za (LO (nD sz))) (S : GS hL w C I s0 vs nw s) : GB hL za sz C vs s where
  lib := S.lib
  bare := S.bare
  z := S.get (.inl (gz Dg h))
  loc := let ⟨mm, h1, h2⟩ := S.loc; ⟨mm, h1, fun x d a => h2 x d a (gkind w C x a.mem)⟩
theorem GF.of {hL : Heap} {w : World} {za C I : Addr} {sz : List Nat} (Dg : GD hL za C I) {vs : List (Option D)} {i : Nat} {nw : List (Addr × OP)} {s0 s : Shared} (h : Bs s0.heap.get? za (LO (nD sz))) (S : GS hL w C I s0 vs ((I, LI za i) :: nw) s) : GF hL za sz C I vs i s :=
  { GB.of (w := w) Dg h S with it := (S.led _ (.head _)).1 }
theorem GOut.of {hL : Heap} {w : World} {C I : Addr} {vs : List (Option D)} {nw : List (Addr × OP)} {s0 s : Shared} (S : GS hL w C I s0 vs nw s) : GOut C I s0 s :=
  ⟨fun b o h1 h2 e => S.keep b o (by unfold gF; rw [if_neg (by rintro (h | h); exact h1 h; exact h2 h), e]), S.gens, S.os⟩

/-- which interval comes j-th -/
noncomputable def iv (sz : List Nat) (e j : Nat) : Option Nat := if j < e then some (sz.getD j 0) else if e < sz.length ∧ sz.getD e 0 = 0 then some (sz.getD (e - 1) 0) else none
structure GE (sz : List Nat) (e : Nat) : Prop where
  le : e ≤ sz.length
  pos : 1 ≤ e
  no : ∀ i, i < e → sz.getD i 0 ≠ 0 ∧ sz.getD i 0 ≠ 127
  at_ : e < sz.length → sz.getD e 0 = 0 ∨ sz.getD e 0 = 127
/-- the generator's frame after j items -/
noncomputable def GJ (hL : Heap) (za : Addr) (sz : List Nat) (e : Nat) (C I : Addr) (j : Nat) (s : Shared) : Prop :=
  if j ≤ e then GF hL za sz C I [some (.val (.ref za)), none, some (.int (sz.getD (j - 1) 0 : Nat))] j s
  else ∃ i, GF hL za sz C I [some (.val (.ref za)), some (.int (sz.getD (e - 1) 0 : Nat)), none] i s
noncomputable def GY (hL : Heap) (za : Addr) (sz : List Nat) (e : Nat) (C I : Addr) (N : Nat) : Protocol := fun m s₀ v s₁ kap =>
  m < N ∧ (∃ (k : Nat) (t : Tok), iv sz e (N - 1 - m) = some k ∧ v = .int k t) ∧ GOut C I s₀ s₁ ∧ GJ hL za sz e C I (N - m) s₁ ∧ (0 < m → ∀ s'', GJ hL za sz e C I (N - m) s'' → kap (.send .none) s'')
noncomputable def GP (sz : List Nat) (e : Nat) (C I : Addr) (N : Nat) : Nat → Shared → Shared → Prop := fun n s₀ s₁ => iv sz e (N - n) = none ∧ GOut C I s₀ s₁ ∧ AllBare s₁.gens
noncomputable abbrev GR (sz : List Nat) (e : Nat) (C I : Addr) (N : Nat) : GenEnd := fun n s₀ r s₁ => r = .ok (.ret .none) ∧ GP sz e C I N n s₀ s₁
section
variable {w : World} {hL : Heap} {mg mb : Str → Option Value} {M : Model} {A : Around} {E : Value → Shared → Prop} {s0 : Shared} {F : Addr → Option Obj} {env : Env} {nm : List Str} {vs : List (Option D)} {nw : List (Addr × OP)} {gl : List (Nat × GenState)} {s : Shared} {Q : Value → Shared → Prop} {pos : Pos}
theorem gn_CHAR_MAX (B : Lb w hL mg mb) (S : St hL s0 F env nm vs nw gl s) (hx : env.kindOf (Str.ofString "CHAR_MAX") = some .globalImplicit) (hg : env.globals = mainGlobals) (hb : env.builtins = builtinsNs) (h : Q (.int 127 211) s) : wpAny M A (eval (.Name (Str.ofString "CHAR_MAX") pos) env) Q E s := r_glo B S (by kernel_rfl) hx hg h
end
end Mine

namespace Mine
open PySem PySem.W PySem.Calls PyProof.Rows

theorem at_ints {vs : List Value} {xs : List Int} (h : IntsAre vs xs) : ∀ {i : Nat} {x : Int}, xs[i]? = some x → ∃ t, vs[i]? = some (.int x t) := by
  induction h with
  | nil => intro i x e; simp at e
  | cons n t _ ih =>
    intro i x e
    cases i with
    | zero => simp at e; subst e; exact ⟨t, rfl⟩
    | succ i => simpa using ih (by simpa using e)
theorem lt_loop (l b : Addr) (xs ys : List Int) (vs us : List Value) (n n2 : Nat) (hx : IntsAre vs xs) (hy : IntsAre us ys) (k : Nat) :
    ∀ i : Nat, xs.length - i = k → i ≤ xs.length → i ≤ ys.length → Meets (Builtin.«list.__eq__.loop» ⟨[.ref l, .ref b, rawInt i, rawInt 0], []⟩)
      (fun _ R s => s.heap.get? l = some { cls := .type "list", dict := none, data := .seq vs.toArray n, slots := #[] } ∧ s.heap.get? b = some { cls := .type "list", dict := none, data := .seq us.toArray n2, slots := #[] } ∧
        R (.ok (.ret (.bool (decide (xs.drop i < ys.drop i))))) s) := by
  have lx : vs.length = xs.length := hx.length
  have ly : us.length = ys.length := hy.length
  induction k with
  | zero =>
    intro i hk hi hj prog w A R s h
    obtain ⟨hp, g, d, tk, os⟩ := s; obtain ⟨hl, hb, h⟩ := h
    wp_walk using AutoSeq1.wpAny_loadPart' hl, AutoSeq1.wpAny_loadPart' hb
    have e1 : vs.toArray[((i : Nat) : Int).toNat]? = none := by simp; omega
    rw [e1]
    wp_walk using AutoSeq1.wpAny_loadPart' hl, AutoSeq1.wpAny_loadPart' hb
    show R (.ok (.ret (.bool (decide (vs.toArray.size < us.toArray.size))))) _
    have e2 : xs.drop i = [] := List.drop_eq_nil_of_le (by omega)
    have e3 : decide (vs.toArray.size < us.toArray.size) = decide (xs.drop i < ys.drop i) := by
      rw [e2, List.size_toArray, List.size_toArray, lx, ly, Bool.eq_iff_iff, decide_eq_true_iff, decide_eq_true_iff]
      constructor
      · intro q
        cases e : ys.drop i with
        | nil => have := List.drop_eq_nil_iff.mp e; omega
        | cons a r => exact List.nil_lt_cons _ _
      · intro q
        cases e : ys.drop i with
        | nil => rw [e] at q; exact absurd q (List.not_lt_nil _)
        | cons a r => have : ys.drop i ≠ [] := by rw [e]; simp
                      have := mt List.drop_eq_nil_iff.mpr this; omega
    rw [e3]; exact h
  | succ k ih =>
    intro i hk hi hj prog w A R s h
    obtain ⟨hp, g, d, tk, os⟩ := s; obtain ⟨hl, hb, h⟩ := h
    wp_walk using AutoSeq1.wpAny_loadPart' hl, AutoSeq1.wpAny_loadPart' hb
    have hlt : i < xs.length := by omega
    obtain ⟨t, e1⟩ := at_ints hx (List.getElem?_eq_getElem hlt)
    have e1' : vs.toArray[((i : Nat) : Int).toNat]? = some (.int xs[i] t) := by simpa using e1
    have d1 := List.drop_eq_getElem_cons hlt
    rw [e1']
    by_cases hly : i < ys.length
    · obtain ⟨u, e2⟩ := at_ints hy (List.getElem?_eq_getElem hly)
      have e2' : us.toArray[((i : Nat) : Int).toNat]? = some (.int ys[i] u) := by simpa using e2
      have d2 := List.drop_eq_getElem_cons hly
      have hc : ((i : Int) + 1) = ((i + 1 : Nat) : Int) := by push_cast; rfl
      rw [d1, d2] at h
      rw [e2']
      refine wpAny_bind (wpAny_eqBool_int ?_)
      by_cases q : xs[i] = ys[i]
      · rw [show (xs[i] == ys[i]) = true from beq_iff_eq.mpr q]
        wp_walk
        rw [hc]
        have e3 : decide (xs[i] :: xs.drop (i + 1) < ys[i] :: ys.drop (i + 1)) = decide (xs.drop (i + 1) < ys.drop (i + 1)) := by
          rw [Bool.eq_iff_iff, decide_eq_true_iff, decide_eq_true_iff, List.cons_lt_cons_iff, q]
          simp
        rw [e3] at h
        exact ⟨plainId_quiet MeetsSeq3.plain_eq_loop _, codeAny_builtin MeetsSeq3.entry_eq_loop (by
          rw [Around.under_plainId MeetsSeq3.plain_eq_loop _]
          exact ih (i + 1) (by omega) (by omega) (by omega) prog w A R _ ⟨hl, hb, h⟩)⟩
      · rw [show (xs[i] == ys[i]) = false from beq_eq_false_iff_ne.mpr q]
        wp_walk using AutoSeq1.wpAny_loadPart' hl, AutoSeq1.wpAny_loadPart' hb
        rw [e1', e2']
        have e3 : decide (xs[i] :: xs.drop (i + 1) < ys[i] :: ys.drop (i + 1)) = decide (xs[i] < ys[i]) := by
          rw [Bool.eq_iff_iff, decide_eq_true_iff, decide_eq_true_iff, List.cons_lt_cons_iff]
          simp [q]
        rw [e3] at h
        show wpAny _ _ (richCompare .Lt _ _ >>= _) _ _ _
        refine wpAny_bind ?_
        show wpAny _ _ (compareOp .Lt _ _) _ _ _
        refine PyProof.Rows.lt_int ?_
        exact wpAny_pure h
    · have e2' : us.toArray[((i : Nat) : Int).toNat]? = none := by simp; omega
      rw [e2']
      wp_walk using AutoSeq1.wpAny_loadPart' hl, AutoSeq1.wpAny_loadPart' hb
      show R (.ok (.ret (.bool (decide (vs.toArray.size < us.toArray.size))))) _
      have e2 : ys.drop i = [] := List.drop_eq_nil_of_le (by omega)
      have e3 : decide (vs.toArray.size < us.toArray.size) = decide (xs.drop i < ys.drop i) := by
        rw [e2, List.size_toArray, List.size_toArray, lx, ly, Bool.eq_iff_iff, decide_eq_true_iff, decide_eq_true_iff]
        constructor
        · intro q; omega
        · intro q; exact absurd q (List.not_lt_nil _)
      rw [e3]; exact h
theorem list_lt (l b : Addr) (xs ys : List Int) (vs us : List Value) (n n2 : Nat) (hx : IntsAre vs xs) (hy : IntsAre us ys) :
    Meets (Builtin.«list.__lt__» ⟨[.ref l, .ref b], []⟩)
      (fun _ R s => s.heap.get? l = some { cls := .type "list", dict := none, data := .seq vs.toArray n, slots := #[] } ∧ s.heap.get? b = some { cls := .type "list", dict := none, data := .seq us.toArray n2, slots := #[] } ∧
        R (.ok (.ret (.bool (decide (xs < ys))))) s) := by
  intro prog w A R s h
  obtain ⟨hp, g, d, tk, os⟩ := s; obtain ⟨hl, hb, h⟩ := h
  have f3 := AutoSeq1.sub_list_list
  wp_walk using AutoSeq1.wpAny_loadPart' hl, AutoSeq1.wpAny_loadPart' hb
  exact ⟨plainId_quiet MeetsSeq3.plain_eq_loop _, codeAny_builtin MeetsSeq3.entry_eq_loop (by
    rw [Around.under_plainId MeetsSeq3.plain_eq_loop _]
    exact lt_loop l b xs ys vs us n n2 hx hy _ 0 rfl (Nat.zero_le _) (Nat.zero_le _) prog w A R _ ⟨hl, hb, by simpa using h⟩)⟩
end Mine

namespace Mine
open PySem PySem.W PySem.Calls PyProof.Rows
section
variable {prog : Program} {w : World} {A : Around} {E : Value → Shared → Prop} {hL : Heap} {s0 : Shared} {F : Addr → Option Obj} {env : Env} {nm : List Str} {vs vs' : List (Option D)} {nw nw' : List (Addr × OP)} {gl : List (Nat × GenState)} {s : Shared} {Q : Value → Shared → Prop} {ds es : List D}
theorem call_lt {a b : Addr} {xs ys : List Int} (ha : ∃ o, s.heap.get? a = some o ∧ LO (xs.map D.int) o) (hb : ∃ o, s.heap.get? b = some o ∧ LO (ys.map D.int) o) (h : Q (.bool (decide (xs < ys))) s) : wpAny (model prog w) A (call (.builtin "list.__lt__") [.ref a, .ref b]) Q E s := by
  obtain ⟨oa, ea, us, n, rfl, oka⟩ := ha
  obtain ⟨ob, eb, vs, m, rfl, okb⟩ := hb
  exact call_meets PySem.F.slot_list_lt ⟨_, ea, rfl⟩ PySem.F.entry_list_lt (PySem.F.args_list_lt_2 _ _) (list_lt a b xs ys us vs n m oka.ints okb.ints) ⟨ea, eb, h⟩
theorem q_ltH {a b : Addr} {xs ys : List Int} (ha : ∃ o, s.heap.get? a = some o ∧ LO (xs.map D.int) o) (hb : ∃ o, s.heap.get? b = some o ∧ LO (ys.map D.int) o) (hu : A.units + 64 < cLine) (h : Q (.bool (decide (xs < ys))) s) : wpAny (model prog w) A (compareOp .Lt (.ref a) (.ref b)) Q E s := by
  obtain ⟨oa, ea, us, n, rfl, oka⟩ := ha
  obtain ⟨ob, eb, vs, m, rfl, okb⟩ := hb
  show wpAny (model prog w) A (richCompare .Lt (.ref a) (.ref b)) Q E s
  exact wpAny_richCompare_same_room (T := "list") (op := .Lt) ⟨_, ea, rfl⟩ ⟨_, eb, rfl⟩ PySem.F.slot_list_lt (call_lt ⟨_, ea, us, n, rfl, oka⟩ ⟨_, eb, vs, m, rfl, okb⟩ ⟨(fun q => by cases q), h⟩) (by omega)
theorem q_lt (S : St hL s0 F env nm vs nw gl s) {a b : Addr} {xs ys : List Int} (ka : Kn F nw a (LO (xs.map D.int))) (kb : Kn F nw b (LO (ys.map D.int))) (hu : A.units + 64 < cLine) (h : Q (.bool (decide (xs < ys))) s) : wpAny (model prog w) A (compareOp .Lt (.ref a) (.ref b)) Q E s :=
  q_ltH (S.get ka) (S.get kb) hu h
theorem one_lt {a b : Addr} {xs ys : List Int} {Q : Bool → Shared → Prop} (ha : ∃ o, s.heap.get? a = some o ∧ LO (xs.map D.int) o) (hb : ∃ o, s.heap.get? b = some o ∧ LO (ys.map D.int) o) (hu : A.units + 64 < cLine) (h : Q (decide (xs < ys)) s) : wpAny (model prog w) A (oneLt' true (.ref a) (.ref b)) Q E s := by
  obtain ⟨oa, ea, us, n, rfl, oka⟩ := ha
  obtain ⟨ob, eb, vs, m, rfl, okb⟩ := hb
  rw [oneLt'_eq]
  simp only [if_true]
  refine wpAny_bind (wpAny_cRoomFor (by omega) ?_)
  refine wpAny_bind (wpAny_callSpecialIfBound?_slot ⟨_, ea, rfl⟩ PySem.F.slot_list_lt (call_lt ⟨_, ea, us, n, rfl, oka⟩ ⟨_, eb, vs, m, rfl, okb⟩ ?_))
  exact wpAny_truthy_bool h
end

/-- the sort's decision tree, over a comparison that only reads -/
noncomputable def evT {α : Type} (lt : Nat → Nat → Bool) : KasT α → α
  | .ret a => a
  | .ask i j k => evT lt (k (lt i j))
theorem evT_bind {α β : Type} (lt : Nat → Nat → Bool) {f : α → KasT β} : ∀ t : KasT α, evT lt (t.bind f) = evT lt (f (evT lt t))
  | .ret _ => rfl
  | .ask i j k => by show evT lt ((k (lt i j)).bind f) = _; rw [evT_bind lt (k (lt i j))]; rfl
end Mine

namespace Mine
open PySem PySem.W PySem.Calls PyProof.Rows
section
variable (lt : Nat → Nat → Bool)
/-- a strict weak order -/
structure Sw : Prop where
  as : ∀ i j, lt i j = true → lt j i = false
  tr : ∀ i j k, lt j i = false → lt k j = false → lt k i = false
noncomputable abbrev gp (p : Array Nat) (i : Nat) : Nat := p.getD i 0
noncomputable def Up (p : Array Nat) (n : Nat) : Prop := ∀ i j, i ≤ j → j < n → lt (gp p j) (gp p i) = false
noncomputable def Dn (p : Array Nat) (n : Nat) : Prop := ∀ i j, i ≤ j → j < n → lt (gp p i) (gp p j) = false
noncomputable def Ev (p : Array Nat) (a b : Nat) : Prop := ∀ i j, a ≤ i → i < b → a ≤ j → j < b → lt (gp p i) (gp p j) = false
variable {lt} (W : Sw lt)
include W
theorem Sw.rf (i : Nat) : lt i i = false := by
  cases h : lt i i with
  | false => rfl
  | true => exact (W.as i i h) ▸ h.symm
theorem Sw.mix {i j k : Nat} (h1 : lt i j = true) (h2 : lt k j = false) : lt i k = true := by
  cases h : lt i k with
  | true => rfl
  | false => have := W.tr j k i h2 h; rw [h1] at this; cases this
omit W
theorem rev_at {p : Array Nat} {i j : Nat} (hj : j ≤ p.size) (k : Nat) : gp (kas_rev p i j) k = if i ≤ k ∧ k < j then gp p (i + j - 1 - k) else gp p k := by
  have := getElem?_mirror_all (xs := p) (i := i) hj k
  unfold gp kas_rev
  rw [Array.getD_eq_getD_getElem?, this]
  split <;> rw [Array.getD_eq_getD_getElem?]
theorem rev_perm (p : Array Nat) (i j : Nat) : (kas_rev p i j).Perm p := mirror_perm p i j ((j - i) / 2)
theorem rev_dn {p : Array Nat} {a b n : Nat} (hb : b ≤ n) (hn : n ≤ p.size) (h : Dn lt p n) (e : Ev lt p a b) : Dn lt (kas_rev p a b) n := by
  intro i j hij hj
  rw [rev_at (by omega), rev_at (by omega)]
  by_cases hi : a ≤ i ∧ i < b <;> by_cases hj' : a ≤ j ∧ j < b
  · rw [if_pos hi, if_pos hj']; exact e _ _ (by omega) (by omega) (by omega) (by omega)
  · rw [if_pos hi, if_neg hj']; exact h _ _ (by omega) (by omega)
  · rw [if_neg hi, if_pos hj']; exact h _ _ (by omega) (by omega)
  · rw [if_neg hi, if_neg hj']; exact h _ _ hij hj
include W
theorem asc_ok {p : Array Nat} : ∀ (f n : Nat), 1 ≤ n → Up lt p n → n ≤ evT lt (kas_asc p f n) ∧ evT lt (kas_asc p f n) ≤ n + f ∧ Up lt p (evT lt (kas_asc p f n)) ∧ (evT lt (kas_asc p f n) < n + f → lt (gp p (evT lt (kas_asc p f n))) (gp p (evT lt (kas_asc p f n) - 1)) = true)
  | 0, n, h1, hu => ⟨Nat.le_refl _, Nat.le_refl _, hu, fun h => absurd h (Nat.lt_irrefl _)⟩
  | f + 1, n, h1, hu => by
    have e : evT lt (kas_asc p (f + 1) n) = if lt (gp p n) (gp p (n - 1)) = true then n else evT lt (kas_asc p f (n + 1)) := by
      show evT lt (if lt (gp p n) (gp p (n - 1)) = true then KasT.ret n else kas_asc p f (n + 1)) = _
      split <;> rfl
    rw [e]
    cases c : lt (gp p n) (gp p (n - 1)) with
    | true => rw [if_pos rfl]; exact ⟨Nat.le_refl _, by omega, hu, fun _ => c⟩
    | false =>
      rw [if_neg (by decide)]
      have hu' : Up lt p (n + 1) := by
        intro i j hij hj
        by_cases hjn : j = n
        · subst hjn
          by_cases hin : i = j
          · subst hin; exact W.rf _
          · exact W.tr _ (gp p (j - 1)) _ (hu i (j - 1) (by omega) (by omega)) c
        · exact hu i j hij (by omega)
      obtain ⟨a, b, c', d⟩ := asc_ok f (n + 1) (by omega) hu'
      exact ⟨by omega, by omega, c', fun h => d (by omega)⟩
theorem desc_ok {N : Nat} : ∀ (f : Nat) (p : Array Nat) (n q : Nat), n + f ≤ N → N ≤ p.size → q + 1 ≤ n → Dn lt p n → Ev lt p (n - (q + 1)) n →
    ∀ r, r = evT lt (kas_desc f p n q) → r.1.size = p.size ∧ r.1.Perm p ∧ n ≤ r.2.1 ∧ r.2.1 ≤ n + f ∧ r.2.2 + 1 ≤ r.2.1 ∧ Dn lt r.1 r.2.1 ∧ Ev lt r.1 (r.2.1 - (r.2.2 + 1)) r.2.1
  | 0, p, n, q, hN, hz, hq, hd, he, r, hr => by subst hr; exact ⟨rfl, .refl _, Nat.le_refl _, Nat.le_refl _, hq, hd, he⟩
  | f + 1, p, n, q, hN, hz, hq, hd, he, r, hr => by
    have e : evT lt (kas_desc (f + 1) p n q) = if lt (gp p n) (gp p (n - 1)) = true then (if q > 0 then evT lt (kas_desc f (kas_rev p (n - (q + 1)) n) (n + 1) 0) else evT lt (kas_desc f p (n + 1) 0))
        else if lt (gp p (n - 1)) (gp p n) = true then (p, n, q) else evT lt (kas_desc f p (n + 1) (q + 1)) := by
      show evT lt (if lt (gp p n) (gp p (n - 1)) = true then (if q > 0 then kas_desc f (kas_rev p (n - (q + 1)) n) (n + 1) 0 else kas_desc f p (n + 1) 0)
        else KasT.ask (gp p (n - 1)) (gp p n) fun d => if d = true then KasT.ret (p, n, q) else kas_desc f p (n + 1) (q + 1)) = _
      split
      · split <;> rfl
      · show evT lt (if lt (gp p (n - 1)) (gp p n) = true then KasT.ret (p, n, q) else kas_desc f p (n + 1) (q + 1)) = _
        split <;> rfl
    have grow : lt (gp p (n - 1)) (gp p n) = false → Dn lt p (n + 1) := by
      intro c i j hij hj
      by_cases hjn : j = n
      · subst hjn
        by_cases hin : i = j
        · subst hin; exact W.rf _
        · exact W.tr _ (gp p (j - 1)) _ c (hd i (j - 1) (by omega) (by omega))
      · exact hd i j hij (by omega)
    have one : ∀ p' : Array Nat, Ev lt p' (n + 1 - (0 + 1)) (n + 1) := by
      intro p' i j a1 a2 a3 a4
      have : i = j := by omega
      subst this; exact W.rf _
    rw [e] at hr
    cases c : lt (gp p n) (gp p (n - 1)) with
    | true =>
      rw [c, if_pos rfl] at hr
      have g := grow (W.as _ _ c)
      by_cases hq0 : q > 0
      · rw [if_pos hq0] at hr
        have g' := rev_dn (a := n - (q + 1)) (b := n) (by omega) (by omega) g he
        have hs := kas_rev_size (p := p) (n - (q + 1)) n
        obtain ⟨a, b, c', d, e', f', h'⟩ := desc_ok (N := N) f _ (n + 1) 0 (by omega) (by rw [hs]; exact hz) (by omega) g' (one _) r hr
        exact ⟨a.trans hs, b.trans (rev_perm _ _ _), by omega, by omega, e', f', h'⟩
      · rw [if_neg hq0] at hr
        obtain ⟨a, b, c', d, e', f', h'⟩ := desc_ok (N := N) f p (n + 1) 0 (by omega) hz (by omega) g (one _) r hr
        exact ⟨a, b, by omega, by omega, e', f', h'⟩
    | false =>
      rw [c, if_neg (by decide)] at hr
      cases d : lt (gp p (n - 1)) (gp p n) with
      | true => rw [d, if_pos rfl] at hr; subst hr; exact ⟨rfl, .refl _, Nat.le_refl _, Nat.le_add_right n (f + 1), hq, hd, he⟩
      | false =>
        rw [d, if_neg (by decide)] at hr
        have he' : Ev lt p (n + 1 - (q + 1 + 1)) (n + 1) := by
          intro i j a1 a2 a3 a4
          have hin : i < n → lt (gp p i) (gp p n) = false := fun h => W.tr _ (gp p (n - 1)) _ d (he i (n - 1) (by omega) h (by omega) (by omega))
          have hni : j < n → lt (gp p n) (gp p j) = false := fun h => W.tr _ (gp p (n - 1)) _ (he (n - 1) j (by omega) (by omega) (by omega) h) c
          by_cases h1 : i = n
          · subst h1
            by_cases h2 : j = i
            · subst h2; exact W.rf _
            · exact hni (by omega)
          · by_cases h2 : j = n
            · subst h2; exact hin (by omega)
            · exact he i j (by omega) (by omega) (by omega) (by omega)
        obtain ⟨a, b, c', d', e', f', h'⟩ := desc_ok (N := N) f p (n + 1) (q + 1) (by omega) hz (by omega) (grow d) he' r hr
        exact ⟨a, b, by omega, by omega, e', f', h'⟩
theorem tail_ok {p : Array Nat} {n N : Nat} (h1 : 1 ≤ n) (hn : n ≤ N) (hz : N ≤ p.size) (hd : Dn lt p n) : ∀ r, r = evT lt (kas_tail3 n N p) → r.2.size = p.size ∧ r.2.Perm p ∧ 1 ≤ r.1 ∧ r.1 ≤ N ∧ Up lt r.2 r.1 := by
  intro r hr
  unfold kas_tail3 at hr
  rw [evT_bind] at hr
  have hu : Up lt (kas_rev p 0 n) n := by
    intro i j hij hj
    rw [rev_at (by omega), rev_at (by omega), if_pos (by omega), if_pos (by omega)]
    exact hd _ _ (by omega) (by omega)
  obtain ⟨a, b, c, d⟩ := asc_ok W (N - n) n h1 hu
  subst hr
  exact ⟨kas_rev_size 0 n, rev_perm _ _ _, by show 1 ≤ evT lt (kas_asc (kas_rev p 0 n) (N - n) n); omega, by show evT lt (kas_asc (kas_rev p 0 n) (N - n) n) ≤ N; omega, c⟩
theorem part_ok {p : Array Nat} {n N : Nat} (h1 : 1 ≤ n) (hn : n + 1 ≤ N) (hz : N ≤ p.size) (hd : Dn lt p n) (hc : lt (gp p n) (gp p (n - 1)) = true) : ∀ r, r = evT lt (kas_descPart n N p) → r.2.size = p.size ∧ r.2.Perm p ∧ 1 ≤ r.1 ∧ r.1 ≤ N ∧ Up lt r.2 r.1 := by
  intro r hr
  unfold kas_descPart at hr
  rw [evT_bind] at hr
  have hd' : Dn lt p (n + 1) := by
    intro i j hij hj
    by_cases hjn : j = n
    · subst hjn
      by_cases hin : i = j
      · subst hin; exact W.rf _
      · exact W.tr _ (gp p (j - 1)) _ (W.as _ _ hc) (hd i (j - 1) (by omega) (by omega))
    · exact hd i j hij (by omega)
  obtain ⟨a, b, c, d, e, f, g⟩ := desc_ok W (N := N) (N - (n + 1)) p (n + 1) 0 (by omega) hz (by omega) hd' (by
    intro i j a1 a2 a3 a4
    have : i = j := by omega
    subst this; exact W.rf _) _ rfl
  generalize evT lt (kas_desc (N - (n + 1)) p (n + 1) 0) = x at a b c d e f g hr
  split at hr
  · have hs := kas_rev_size (p := x.1) (x.2.1 - (x.2.2 + 1)) x.2.1
    obtain ⟨a', b', c', d', e'⟩ := tail_ok W (by omega) (by omega) (by rw [hs, a]; exact hz) (rev_dn (Nat.le_refl _) (by omega) f g) r hr
    exact ⟨by rw [a', hs, a], b'.trans ((rev_perm _ _ _).trans b), c', d', e'⟩
  · obtain ⟨a', b', c', d', e'⟩ := tail_ok W (by omega) (by omega) (by rw [a]; exact hz) f r hr
    exact ⟨by rw [a', a], b'.trans b, c', d', e'⟩
theorem count_ok {p : Array Nat} {N : Nat} (h1 : 1 ≤ N) (hz : N ≤ p.size) : ∀ r, r = evT lt (kas_count N p) → r.2.size = p.size ∧ r.2.Perm p ∧ 1 ≤ r.1 ∧ r.1 ≤ N ∧ Up lt r.2 r.1 := by
  intro r hr
  unfold kas_count at hr
  rw [evT_bind] at hr
  obtain ⟨a, b, c, d⟩ := asc_ok W (p := p) (N - 1) 1 (Nat.le_refl _) (by
    intro i j a1 a2
    have : i = j := by omega
    subst this; exact W.rf _)
  generalize evT lt (kas_asc p (N - 1) 1) = n at a b c d hr
  by_cases e1 : (n == N) = true
  · rw [if_pos e1] at hr
    subst hr
    exact ⟨rfl, .refl _, a, by show n ≤ N; omega, c⟩
  · rw [if_neg e1] at hr
    have hn : n < N := by have : n ≠ N := fun q => e1 (by rw [q]; exact beq_self_eq_true _)
                          omega
    have hc := d (by omega)
    by_cases e2 : n > 1
    · rw [if_pos e2] at hr
      cases q : lt (gp p 0) (gp p (n - 1)) with
      | true =>
        have hr' : r = evT lt (if lt (gp p 0) (gp p (n - 1)) = true then KasT.ret (n, p) else kas_descPart n N (kas_rev p 0 n)) := hr
        rw [q, if_pos rfl] at hr'
        subst hr'
        exact ⟨rfl, .refl _, a, by show n ≤ N; omega, c⟩
      | false =>
        have hr' : r = evT lt (if lt (gp p 0) (gp p (n - 1)) = true then KasT.ret (n, p) else kas_descPart n N (kas_rev p 0 n)) := hr
        rw [q, if_neg (by decide)] at hr'
        have ev : Ev lt p 0 n := by
          intro i j _ h2 _ h4
          exact W.tr _ _ _ (c j (n - 1) (by omega) (by omega)) (W.tr _ _ _ q (c 0 i (by omega) h2))
        have dn : Dn lt p n := fun i j h2 h3 => ev i j (by omega) (by omega) (by omega) h3
        have hs := kas_rev_size (p := p) 0 n
        have hc' : lt (gp (kas_rev p 0 n) n) (gp (kas_rev p 0 n) (n - 1)) = true := by
          rw [rev_at (by omega), rev_at (by omega), if_neg (by omega), if_pos (by omega), show 0 + n - 1 - (n - 1) = 0 from by omega]
          exact W.mix hc (ev 0 (n - 1) (by omega) (by omega) (by omega) (by omega))
        obtain ⟨a', b', c', d', e'⟩ := part_ok W a (by omega) (by rw [hs]; exact hz) (rev_dn (Nat.le_refl _) (by omega) dn ev) hc' r hr'
        exact ⟨by rw [a', hs], b'.trans (rev_perm _ _ _), c', d', e'⟩
    · rw [if_neg e2] at hr
      have en : n = 1 := by omega
      subst en
      exact part_ok W (Nat.le_refl _) (by omega) hz (by
        intro i j a1 a2
        have : i = j := by omega
        subst this; exact W.rf _) hc r hr
theorem place_ok {p : Array Nat} {k : Nat} (hu : Up lt p k) : ∀ (f l r : Nat), l ≤ r → r ≤ k → r - l ≤ f → (∀ i, i < l → lt (gp p k) (gp p i) = false) → (∀ i, r ≤ i → i < k → lt (gp p k) (gp p i) = true) →
    l ≤ evT lt (kas_place p k f l r) ∧ evT lt (kas_place p k f l r) ≤ k ∧ (∀ i, i < evT lt (kas_place p k f l r) → lt (gp p k) (gp p i) = false) ∧ (∀ i, evT lt (kas_place p k f l r) ≤ i → i < k → lt (gp p k) (gp p i) = true)
  | 0, l, r, hlr, hrk, hf, h1, h2 => ⟨Nat.le_refl _, by show l ≤ k; omega, h1, fun i hi hk => h2 i (by have : l ≤ i := hi; omega) hk⟩
  | f + 1, l, r, hlr, hrk, hf, h1, h2 => by
    by_cases c : l ≥ r
    · have e : evT lt (kas_place p k (f + 1) l r) = l := by rw [show kas_place p k (f + 1) l r = if l ≥ r then KasT.ret l else .ask (gp p k) (gp p ((l + r) / 2)) fun c => if c = true then kas_place p k f l ((l + r) / 2) else kas_place p k f ((l + r) / 2 + 1) r from rfl, if_pos c]; rfl
      rw [e]
      exact ⟨Nat.le_refl _, by omega, h1, fun i hi hk => h2 i (by omega) hk⟩
    · have e : evT lt (kas_place p k (f + 1) l r) = if lt (gp p k) (gp p ((l + r) / 2)) = true then evT lt (kas_place p k f l ((l + r) / 2)) else evT lt (kas_place p k f ((l + r) / 2 + 1) r) := by
        rw [show kas_place p k (f + 1) l r = if l ≥ r then KasT.ret l else .ask (gp p k) (gp p ((l + r) / 2)) fun c => if c = true then kas_place p k f l ((l + r) / 2) else kas_place p k f ((l + r) / 2 + 1) r from rfl, if_neg c]
        show evT lt (if lt (gp p k) (gp p ((l + r) / 2)) = true then kas_place p k f l ((l + r) / 2) else kas_place p k f ((l + r) / 2 + 1) r) = _
        split <;> rfl
      rw [e]
      cases d : lt (gp p k) (gp p ((l + r) / 2)) with
      | true =>
        rw [if_pos rfl]
        exact place_ok hu f l ((l + r) / 2) (by omega) (by omega) (by omega) h1 fun i hi hk => W.mix d (hu _ i hi hk)
      | false =>
        rw [if_neg (by decide)]
        obtain ⟨a, b, c', d'⟩ := place_ok hu f ((l + r) / 2 + 1) r (by omega) hrk (by omega) (fun i hi => W.tr _ _ _ (hu i ((l + r) / 2) (by omega) (by omega)) d) h2
        exact ⟨by omega, b, c', d'⟩
theorem bin_ok : ∀ (f : Nat) (p : Array Nat) (k : Nat), k + f ≤ p.size → Up lt p k → (evT lt (kas_bin f p k)).size = p.size ∧ (evT lt (kas_bin f p k)).Perm p ∧ Up lt (evT lt (kas_bin f p k)) (k + f)
  | 0, p, k, hz, hu => ⟨rfl, .refl _, hu⟩
  | f + 1, p, k, hz, hu => by
    have e : evT lt (kas_bin (f + 1) p k) = evT lt (kas_bin f (bubble p k (k - evT lt (kas_place p k k 0 k))) (k + 1)) := by
      show evT lt ((kas_place p k k 0 k).bind fun l => kas_bin f (bubble p k (k - l)) (k + 1)) = _
      rw [evT_bind]
    obtain ⟨_, b, c, d⟩ := place_ok W hu k 0 k (Nat.zero_le _) (Nat.le_refl _) (by omega) (fun i hi => absurd hi (Nat.not_lt_zero _)) (fun i hi hk => absurd hk (by omega))
    rw [e]
    generalize evT lt (kas_place p k k 0 k) = l at b c d ⊢
    have at_ : ∀ x, gp (bubble p k (k - l)) x = if x = l then gp p k else if l < x ∧ x ≤ k then gp p (x - 1) else gp p x := fun x => by
      have := getElem?_bubble (xs := p) (src := k) (by omega) (k - l) (by omega) x
      unfold gp
      rw [Array.getD_eq_getD_getElem?, this, show k - (k - l) = l from by omega]
      by_cases q1 : x = l
      · rw [if_pos q1, if_pos q1, Array.getD_eq_getD_getElem?]
      · rw [if_neg q1, if_neg q1]
        by_cases q2 : l < x ∧ x ≤ k
        · rw [if_pos q2, if_pos q2, Array.getD_eq_getD_getElem?]
        · rw [if_neg q2, if_neg q2, Array.getD_eq_getD_getElem?]
    have hs : (bubble p k (k - l)).size = p.size := bubble_size _ _ _
    have hu' : Up lt (bubble p k (k - l)) (k + 1) := by
      intro i j hij hj
      rw [at_, at_]
      by_cases i1 : i = l
      · rw [if_pos i1]
        by_cases j1 : j = l
        · rw [if_pos j1]; exact W.rf _
        · rw [if_neg j1, if_pos (by omega)]; exact W.as _ _ (d _ (by omega) (by omega))
      · rw [if_neg i1]
        by_cases j1 : j = l
        · rw [if_pos j1, if_neg (by omega)]; exact c _ (by omega)
        · rw [if_neg j1]
          by_cases i2 : l < i ∧ i ≤ k
          · rw [if_pos i2, if_pos (by omega)]; exact hu _ _ (by omega) (by omega)
          · rw [if_neg i2]
            by_cases j2 : l < j ∧ j ≤ k
            · rw [if_pos j2]; exact hu _ _ (by omega) (by omega)
            · rw [if_neg j2]; exact hu _ _ (by omega) (by omega)
    obtain ⟨a', b', c'⟩ := bin_ok f (bubble p k (k - l)) (k + 1) (by omega) hu'
    exact ⟨by rw [a', hs], b'.trans (bubble_perm _ _ _), by rw [show k + (f + 1) = k + 1 + f from by omega]; exact c'⟩
theorem sort_ok {n : Nat} (h1 : 1 ≤ n) : (evT lt (kas_sort n)).size = n ∧ (evT lt (kas_sort n)).Perm (List.range n).toArray ∧ Up lt (evT lt (kas_sort n)) n := by
  unfold kas_sort
  rw [evT_bind]
  have hz : (List.toArray (List.range n)).size = n := by simp
  obtain ⟨a, b, c, d, e⟩ := count_ok W (p := List.toArray (List.range n)) (N := n) h1 (by omega) _ rfl
  generalize evT lt (kas_count n (List.toArray (List.range n))) = r at a b c d e ⊢
  by_cases q : r.1 < n
  · rw [if_pos q]
    have em : max r.1 1 = r.1 := by omega
    rw [em]
    obtain ⟨a', b', c'⟩ := bin_ok W (n - r.1) r.2 r.1 (by omega) e
    have e2 : r.1 + (n - r.1) = n := by omega
    rw [e2] at c'
    exact ⟨by omega, b'.trans b, c'⟩
  · rw [if_neg q]
    have : r.1 = n := by omega
    exact ⟨by show r.2.size = n; omega, b, this ▸ e⟩
end
end Mine

namespace Mine
open PySem PySem.W PySem.Calls PyProof.Rows
/-- the tree asks within bounds, and its leaves are so -/
noncomputable def LfT {α : Type} (P : α → Prop) (n : Nat) : KasT α → Prop
  | .ret a => P a
  | .ask i j k => i < n ∧ j < n ∧ ∀ b, LfT P n (k b)
theorem LfT.bind {α β : Type} {n : Nat} {P : α → Prop} {P' : β → Prop} {f : α → KasT β} (hf : ∀ a, P a → LfT P' n (f a)) : ∀ t : KasT α, LfT P n t → LfT P' n (t.bind f)
  | .ret a, h => hf a h
  | .ask _ _ k, h => ⟨h.1, h.2.1, fun b => LfT.bind hf (k b) (h.2.2 b)⟩
theorem LfT.ite {α : Type} {n : Nat} {P : α → Prop} {c : Prop} [Decidable c] {t u : KasT α} (h1 : LfT P n t) (h2 : LfT P n u) : LfT P n (if c then t else u) := by split <;> assumption
theorem evT_wp {α : Type} {cmp : Nat → Nat → (Bool → Shared → Prop) → Shared → Prop} (lt : Nat → Nat → Bool) (s : Shared) (n : Nat) {P : α → Prop} (hc : ∀ i j C, i < n → j < n → C (lt i j) s → cmp i j C s) {Q : α → Shared → Prop} : ∀ t : KasT α, LfT P n t → Q (evT lt t) s → t.kasWp cmp Q s
  | .ret _, _, h => h
  | .ask i j k, q, h => hc i j _ q.1 q.2.1 (evT_wp lt s n hc (k (lt i j)) (q.2.2 _) h)
noncomputable def BdA (n : Nat) (p : Array Nat) : Prop := 0 < n ∧ ∀ y ∈ p, y < n
theorem BdA.at {n : Nat} {p : Array Nat} (h : BdA n p) (x : Nat) : p.getD x 0 < n := by
  rw [Array.getD_eq_getD_getElem?]
  cases e : p[x]? with
  | none => exact h.1
  | some y => exact h.2 y (Array.mem_of_getElem? e)
theorem BdA.perm {n : Nat} {p p' : Array Nat} (h : BdA n p) (q : p'.Perm p) : BdA n p' := ⟨h.1, fun y hy => h.2 y (q.mem_iff.mp hy)⟩
theorem asc_lf {n : Nat} {p : Array Nat} (B : BdA n p) : ∀ f m, LfT (fun _ => True) n (kas_asc p f m)
  | 0, _ => trivial
  | f + 1, m => ⟨B.at _, B.at _, fun _ => .ite trivial (asc_lf B f _)⟩
theorem desc_lf {n : Nat} : ∀ f (p : Array Nat) m q, BdA n p → LfT (fun r => BdA n r.1) n (kas_desc f p m q)
  | 0, _, _, _, B => B
  | f + 1, p, m, q, B => ⟨B.at _, B.at _, fun _ => .ite (.ite (desc_lf f _ _ _ (B.perm (rev_perm _ _ _))) (desc_lf f _ _ _ B)) ⟨B.at _, B.at _, fun _ => .ite B (desc_lf f _ _ _ B)⟩⟩
theorem LfT.leaf {α : Type} {n : Nat} {P : α → Prop} {a : α} (h : P a) : LfT P n (.ret a) := h
theorem tail_lf {n : Nat} {p : Array Nat} (B : BdA n p) (m N : Nat) : LfT (fun r : Nat × Array Nat => BdA n r.2) n (kas_tail3 m N p) := by
  unfold kas_tail3
  refine LfT.bind (fun _ _ => .leaf ?_) _ (asc_lf (B.perm (rev_perm _ _ _)) _ _)
  exact B.perm (rev_perm _ _ _)
theorem part_lf {n : Nat} {p : Array Nat} (B : BdA n p) (m N : Nat) : LfT (fun r : Nat × Array Nat => BdA n r.2) n (kas_descPart m N p) := by
  unfold kas_descPart
  exact LfT.bind (fun _ h => .ite (tail_lf (h.perm (rev_perm _ _ _)) _ _) (tail_lf h _ _)) _ (desc_lf _ _ _ _ B)
theorem count_lf {n : Nat} {p : Array Nat} (B : BdA n p) (N : Nat) : LfT (fun r : Nat × Array Nat => BdA n r.2) n (kas_count N p) := by
  unfold kas_count
  refine LfT.bind (P' := fun r : Nat × Array Nat => BdA n r.2) (fun x _ => ?_) _ (asc_lf B _ _)
  refine LfT.ite (show BdA n p from B) (LfT.ite ?_ (part_lf B _ _))
  exact ⟨B.at _, B.at _, fun _ => LfT.ite (show BdA n p from B) (part_lf (B.perm (rev_perm _ _ _)) _ _)⟩
theorem place_lf {n : Nat} {p : Array Nat} (B : BdA n p) (k : Nat) : ∀ f l r, LfT (fun _ => True) n (kas_place p k f l r)
  | 0, _, _ => trivial
  | f + 1, l, r => by
    rw [show kas_place p k (f + 1) l r = if l ≥ r then KasT.ret l else .ask (gp p k) (gp p ((l + r) / 2)) fun c => if c = true then kas_place p k f l ((l + r) / 2) else kas_place p k f ((l + r) / 2 + 1) r from rfl]
    exact .ite trivial ⟨B.at _, B.at _, fun _ => .ite (place_lf B k f _ _) (place_lf B k f _ _)⟩
theorem bin_lf {n : Nat} : ∀ f (p : Array Nat) k, BdA n p → LfT (BdA n) n (kas_bin f p k)
  | 0, _, _, B => B
  | f + 1, p, k, B => LfT.bind (fun _ _ => bin_lf f _ _ (B.perm (bubble_perm _ _ _))) _ (place_lf B k _ _ _)
theorem sort_lf {n : Nat} (h : 0 < n) : LfT (BdA n) n (kas_sort n) := by
  have B : BdA n (List.toArray (List.range n)) := ⟨h, fun y hy => by simpa using hy⟩
  unfold kas_sort
  exact LfT.bind (fun _ hr => .ite (bin_lf _ _ _ hr) (.leaf hr)) _ (count_lf B _)
end Mine

namespace Mine
open PySem PySem.W PySem.Calls PyProof.Rows
theorem fresh_of {h : Heap} {L : Addr} {mm : Str → Option Value} {h₀ : Heap} {news : List (Addr × Obj)} (Fr₀ : Fr h₀ L h mm) (N₀ : News h₀ L h news) (W : ∀ h', Fr h₀ L h' mm → News h₀ L h' news → ∀ b o, b ≠ L → h.get? b = some o → h'.get? b = some o)
    {x : Addr} (hx : x ≠ L) (h0 : h₀.get? x = none) (hq : ∀ q ∈ news, q.1 ≠ x) : h.get? x = none := by
  cases q : h.get? x with
  | none => rfl
  | some o =>
    have := W (h.hide x) ⟨?_, ?_, Fr₀.above⟩ (fun p hp => ?_) x o hx q
    · rw [Heap.hide_self] at this; cases this
    · obtain ⟨oL, es, ep, hLo, r⟩ := Fr₀.ns
      exact ⟨oL, es, ep, by rw [Heap.hide_ne _ (Ne.symm hx)]; exact hLo, r⟩
    · intro b o' e
      rw [Heap.hide_ne _ (fun z => by rw [z, h0] at e; cases e)]
      exact Fr₀.keep b o' e
    · exact ⟨by rw [Heap.hide_ne _ (hq p hp)]; exact (N₀ p hp).1, (N₀ p hp).2⟩
theorem ltK_sw (ks : List (List Int)) : Sw (fun i j => decide (ks.getD i [] < ks.getD j [])) := by
  constructor
  · intro i j h
    have h := of_decide_eq_true h
    exact decide_eq_false fun q => List.lt_irrefl _ (List.lt_trans h q)
  · intro i j k h1 h2
    have h1 := of_decide_eq_false h1
    have h2 := of_decide_eq_false h2
    exact decide_eq_false (List.not_lt.mpr (List.le_trans (List.not_lt.mp h1) (List.not_lt.mp h2)))
theorem ltS_sw (ks : List (List Nat)) : Sw (fun i j => decide (ks.getD i [] < ks.getD j [])) := by
  constructor
  · intro i j h
    have h := of_decide_eq_true h
    exact decide_eq_false fun q => List.lt_irrefl _ (List.lt_trans h q)
  · intro i j k h1 h2
    have h1 := of_decide_eq_false h1
    have h2 := of_decide_eq_false h2
    exact decide_eq_false (List.not_lt.mpr (List.le_trans (List.not_lt.mp h1) (List.not_lt.mp h2)))
theorem oks_refs : ∀ {rows : List Addr} {us : List Value}, Oks (rows.map fun a => D.val (.ref a)) us → us = rows.map Value.ref
  | [], _, .nil => rfl
  | _ :: _, _, .cons ok r => by rw [show _ = Value.ref _ from ok, oks_refs r]; rfl
theorem refs_oks : ∀ (rows : List Addr), Oks (rows.map fun a => D.val (.ref a)) (rows.map Value.ref)
  | [] => .nil
  | _ :: r => .cons rfl (refs_oks r)
section
variable {prog : Program} {w : World} {A : Around} {E : Value → Shared → Prop} {hL : Heap} {s0 : Shared} {F : Addr → Option Obj} {env : Env} {nm : List Str} {vs vs' : List (Option D)} {nw nw' : List (Addr × OP)} {gl : List (Nat × GenState)} {s : Shared} {Q : Value → Shared → Prop} {ds es : List D}
/-- on to another state: the frame's names stand, all else too -/
theorem St.moveAll (S : St hL s0 F env nm vs nw gl s) {s' : Shared} (hs : ∀ b o, b ≠ env.locals → s.heap.get? b = some o → s'.heap.get? b = some o) (hn : ∀ mm, s.heap.Ns env.locals mm → s'.heap.Ns env.locals mm) (hg : ∀ (i : Nat) x, s.gens[i]? = some x → s'.gens[i]? = some x) (hb : AllBare s'.gens) (ho : s'.os = s.os) {a : Addr} {o : Obj} {P : OP} (ha : s.heap.get? a = none) (hoa : s'.heap.get? a = some o) (hP : P o) :
    St hL s0 F env nm vs ((a, P) :: nw) gl s' := by
  refine { S with keep := fun b o e => hs b o (fun q => ?_) (S.keep b o e), loc := ?_, cel := fun y hy c h1 h2 => ?_, led := fun p hp => ?_, nd := ?_, gens := fun i x e => hg i x (S.gens i x e), gls := fun p hp => ⟨hg _ _ (S.gls p hp).1, (S.gls p hp).2⟩, bare := hb, os := ho.trans S.os }
  · have := S.fx.fr _ (.inl rfl); rw [← q, e] at this; cases this
  · obtain ⟨mm, a, b⟩ := S.loc; exact ⟨mm, hn mm a, b⟩
  · obtain ⟨ov, ⟨o, e, q⟩, b⟩ := S.cel y hy c h1 h2
    exact ⟨ov, ⟨o, hs c o (S.fx.ap y hy c h1 h2).1 e, q⟩, b⟩
  · rcases List.mem_cons.mp hp with rfl | hp
    · refine ⟨⟨o, hoa, hP⟩, ?_, fun q => ?_⟩
      · cases q : F a with
        | none => rfl
        | some o' => rw [S.keep _ _ q] at ha; cases ha
      · have := S.own_some q; rw [ha] at this; cases this
    · obtain ⟨⟨o, e, z⟩, z1, z2⟩ := S.led p hp
      exact ⟨⟨o, hs _ o (fun q => z2 (.inl q)) e, z⟩, z1, z2⟩
  · refine List.nodup_cons.mpr ⟨fun q => ?_, S.nd⟩
    obtain ⟨p, hp, rfl⟩ := List.mem_map.mp q
    obtain ⟨⟨o', e, _⟩, _⟩ := S.led p hp
    rw [ha] at e; cases e
theorem f_sortL (S : St hL s0 F env nm vs nw gl s) {l : Addr} {rows : List Addr} {ks : List (List Int)} (kn : Kn F nw l (LO (rows.map fun a => .val (.ref a)))) (hlen : rows.length = ks.length) (h2 : 2 ≤ rows.length) (h64 : rows.length < 64)
    (hk : ∀ i, i < rows.length → Kn F nw (rows.getD i 0) (LO ((ks.getD i []).map D.int))) (hu : A.units + 80 < cLine)
    (h : ∀ D₀ (p : Array Nat) s', p.size = rows.length → p.Perm (List.range rows.length).toArray → Up (fun i j => decide (ks.getD i [] < ks.getD j [])) p rows.length → s.heap.get? D₀ = none → St hL s0 F env nm vs ((D₀, LO (p.toList.map fun i => .val (.ref (rows.getD i 0)))) :: nw) gl s' → Q (.ref D₀) s') :
    wpAny (model prog w) A (call (.builtin "sorted") [.ref l]) Q E s := by
  obtain ⟨o, eo, pl⟩ := S.get kn
  obtain ⟨us, hl, oks⟩ := pl.isList eo
  obtain rfl := oks_refs oks
  obtain ⟨mm, hn, _⟩ := S.loc
  obtain ⟨h₀, news, Fr₀, N₀, _, W⟩ := whole hn
  have hlu : (rows.map Value.ref).length = rows.length := List.length_map _
  refine kat_sorted Fr₀ N₀ hl (by omega) (by omega) fun D₀ e1 h' F' N' hlt => ?_
  have N'' : News h₀ env.locals h' news := fun p hp => N' p (.tail _ hp)
  have keep := W h' F' N''
  have ns : ∀ m', s.heap.Ns env.locals m' → h'.Ns env.locals m' := fun m' hm => Ns.uniq hn hm ▸ F'.ns
  have hat : ∀ i, i < rows.length → ∃ o, h'.get? (rows.getD i 0) = some o ∧ LO ((ks.getD i []).map D.int) o := fun i hi => by
    obtain ⟨o, e, p⟩ := S.get (hk i hi)
    refine ⟨o, keep _ _ (fun q => ?_) e, p⟩
    rcases hk i hi with ⟨o', e', _⟩ | hm
    · have := S.fx.fr _ (.inl rfl); rw [← q, e'] at this; cases this
    · exact (S.led _ hm).2.2 (.inl q)
  refine kas_kind (T := .type "list") (by omega) (fun v hv => ?_) rfl rfl ?_
  · obtain ⟨a, ha, rfl⟩ := List.mem_map.mp hv
    obtain ⟨i, hi, rfl⟩ := List.mem_iff_getElem.mp ha
    obtain ⟨o, e, us, n, rfl, _⟩ := hat i hi
    have e' : rows.getD i 0 = rows[i] := by rw [List.getD_eq_getElem?_getD, List.getElem?_eq_getElem hi]; rfl
    rw [e'] at e
    exact (Looks.ld e).andThen .now
  · rw [hlu]
    have so := sort_ok (ltK_sw ks) (n := rows.length) (by omega)
    refine evT_wp (fun i j => decide (ks.getD i [] < ks.getD j [])) _ rows.length (fun i j C hi hj hC => ?_) _ (sort_lf (by omega)) ?_
    · unfold kas_ask
      rw [keyLt'_oneType]
      have gi : ∀ i, i < rows.length → (rows.map Value.ref).getD i Value.none = .ref (rows.getD i 0) := fun i hi => by
        rw [List.getD_eq_getElem?_getD, List.getElem?_map, List.getD_eq_getElem?_getD, List.getElem?_eq_getElem hi]; rfl
      rw [gi i hi, gi j hj]
      exact one_lt (hat i hi) (hat j hj) (by show A.units + 1 + 1 + 64 < cLine; omega) hC
    · obtain ⟨z1, z2, z3⟩ := so
      refine KasFin.intro (news := (D₀, seqObj "list" #[] e1) :: news) F' N' (.head fun q hq => Nat.ne_of_lt (hlt q hq)) fun h2' c F2 N2 => ?_
      have keep2 := W h2' F2 fun p hp => N2 p (.tail _ hp)
      have nD0 := (N2 _ (.head _))
      have hD := fresh_of Fr₀ N₀ W nD0.2.1 nD0.2.2 fun q hq => Nat.ne_of_lt (hlt q hq)
      have ns2 : ∀ m', s.heap.Ns env.locals m' → h2'.Ns env.locals m' := fun m' hm => Ns.uniq hn hm ▸ F2.ns
      refine h D₀ _ _ z1 z2 z3 hD (S.moveAll (s' := { s with heap := h2' }) keep2 ns2 (fun _ _ e => e) S.bare rfl hD nD0.1 ⟨_, c, rfl, ?_⟩)
      have e : ((evT (fun i j => decide (ks.getD i [] < ks.getD j [])) (kas_sort rows.length)).toList.map fun i => (rows.map Value.ref).getD i Value.none) = ((evT (fun i j => decide (ks.getD i [] < ks.getD j [])) (kas_sort rows.length)).toList.map fun i => rows.getD i 0).map Value.ref := by
        rw [List.map_map]
        refine List.map_congr_left fun i hi => ?_
        have hi' : i < rows.length := by
          have := (z2.mem_iff (a := i)).mp (by simpa using hi)
          simpa using this
        show (rows.map Value.ref).getD i Value.none = .ref (rows.getD i 0)
        rw [List.getD_eq_getElem?_getD, List.getElem?_map, List.getD_eq_getElem?_getD, List.getElem?_eq_getElem hi']; rfl
      rw [e]
      have := refs_oks ((evT (fun i j => decide (ks.getD i [] < ks.getD j [])) (kas_sort rows.length)).toList.map fun i => rows.getD i 0)
      rw [List.map_map] at this
      exact this
end
end Mine

namespace Mine
open PySem PySem.W PySem.Calls PyProof.Rows
theorem oks_at {ls : List (List Nat)} {us : List Value} (h : Oks (ls.map fun l => D.str (T l)) us) {i : Nat} (hi : i < ls.length) : ∃ t, us.getD i Value.none = .str (T (ls.getD i [])) t := by
  obtain ⟨v, e, t, rfl⟩ := h.get (i := i) (d := .str (T (ls.getD i []))) (by rw [List.getElem?_map, List.getD_eq_getElem?_getD, List.getElem?_eq_getElem hi]; rfl)
  exact ⟨t, by rw [List.getD_eq_getElem?_getD, e]; rfl⟩
theorem oks_map {f : Nat → D} {g : Nat → Value} : ∀ l : List Nat, (∀ i ∈ l, (f i).ok (g i)) → Oks (l.map f) (l.map g)
  | [], _ => .nil
  | a :: l, h => .cons (h a (.head _)) (oks_map l fun i hi => h i (.tail _ hi))
section
variable {prog : Program} {w : World} {A : Around} {E : Value → Shared → Prop} {hL : Heap} {s0 : Shared} {F : Addr → Option Obj} {env : Env} {nm : List Str} {vs vs' : List (Option D)} {nw nw' : List (Addr × OP)} {gl : List (Nat × GenState)} {s : Shared} {Q : Value → Shared → Prop} {ds es : List D}
theorem keys_go {h₀ : Heap} {L kS : Addr} {mm : Str → Option Value} {rest : List (Addr × Obj)} {f : Value} {Fin : List Value → Nat → Shared → Prop} {s : Shared}
    (hf : ∀ s1 a t (Q' : Value → Shared → Prop), Pr hL s1 → (∀ t' s2, Ext s1 s2 → Q' (.str (T a) t') s2) → wpAny (model prog w) A (call f [.str (T a) t]) Q' (fun _ _ => False) s1)
    (hp : ∀ s1 : Shared, Fr h₀ L s1.heap mm → News h₀ L s1.heap rest → ∀ b o, hL.get? b = some o → s1.heap.get? b = some o) (hne : ∀ p ∈ rest, p.1 ≠ kS) :
    ∀ (r : List (List Nat)) (rv : List Value) (done : List (List Nat)) (ks : List Value) (e : Nat) (s1 : Shared), Oks (r.map fun l => D.str (T l)) rv → Oks (done.map fun l => D.str (T l)) ks → Fr h₀ L s1.heap mm → News h₀ L s1.heap ((kS, seqObj "list" ks.toArray e) :: rest) →
      (∀ (i : Nat) x, s.gens[i]? = some x → s1.gens[i]? = some x) → AllBare s1.gens → s1.os = s.os → (∀ ks' e' s', Oks ((done ++ r).map fun l => D.str (T l)) ks' → Fr h₀ L s'.heap mm → News h₀ L s'.heap ((kS, seqObj "list" ks'.toArray e') :: rest) → (∀ (i : Nat) x, s.gens[i]? = some x → s'.gens[i]? = some x) → AllBare s'.gens → s'.os = s.os → Fin ks' e' s') → KatKeys prog w A h₀ L mm kS f Fin rv ks e s1
  | [], _, done, ks, e, s1, .nil, ok, F1, N1, g1, b1, o1, k => by
    rw [List.append_nil] at k
    exact KatKeys.nil (k ks e s1 ok F1 N1 g1 b1 o1)
  | a :: r, _, done, ks, e, s1, .cons (v := v) okv okr, ok, F1, N1, g1, b1, o1, k => by
    obtain ⟨t, rfl⟩ := okv
    refine KatKeys.cons (hf s1 a t _ ⟨hp s1 F1 fun p hp => N1 p (.tail _ hp), b1⟩ fun t' s2 X => ?_)
    have F2 : Fr h₀ L s2.heap mm := F1.kept X.heap
    have N2 := N1.grown X.heap
    refine KatBack.intro F2 N2 (.head hne) fun h' c F3 N3 => ?_
    refine keys_go hf hp hne r _ (done ++ [a]) (ks ++ [.str (T a) t']) c { s2 with heap := h' } okr ?_ F3 N3 (fun i x q => X.gens i x (g1 i x q)) (X.bare b1) (X.os.trans o1) ?_
    · rw [List.map_append]; exact ok.append (.cons ⟨_, rfl⟩ .nil)
    · rw [List.append_assoc]; exact k
theorem f_sortS (S : St hL s0 F env nm vs nw gl s) {l : Addr} {f : Addr} {ls : List (List Nat)} (kn : Kn F nw l (LO (ls.map fun l => .str (T l)))) (h2 : 2 ≤ ls.length) (h64 : ls.length < 64)
    (hf : ∀ s1 a t (Q' : Value → Shared → Prop), Pr hL s1 → (∀ t' s2, Ext s1 s2 → Q' (.str (T a) t') s2) → wpAny (model prog w) A.in1.in1 (call (.ref f) [.str (T a) t]) Q' (fun _ _ => False) s1)
    (h : ∀ D₀ (p : Array Nat) s', p.size = ls.length → p.Perm (List.range ls.length).toArray → Up (fun i j => decide (ls.getD i [] < ls.getD j [])) p ls.length → s.heap.get? D₀ = none → St hL s0 F env nm vs ((D₀, LO (p.toList.map fun i => .str (T (ls.getD i [])))) :: nw) gl s' → Q (.ref D₀) s') :
    wpAny (model prog w) A (call (.builtin "sorted") [.ref l] [(Str.ofString "key", .ref f)]) Q E s := by
  obtain ⟨o, eo, pl⟩ := S.get kn
  obtain ⟨us, hl, oks⟩ := pl.isList eo
  have hlu : us.length = ls.length := by rw [← oks.length, List.length_map]
  obtain ⟨mm, hn, _⟩ := S.loc
  obtain ⟨h₀, news, Fr₀, N₀, _, W⟩ := whole hn
  refine kat_sortedK (b := false) Fr₀ N₀ hl (by omega) (by omega) (ksk_s1 _ _) (fun x => ksk_l1 (.ref x) _) (fun x => ksk_t1 f x) fun D₀ kS e1 h' F' N' hDk hlt => ?_
  have hlib : ∀ s1 : Shared, Fr h₀ env.locals s1.heap mm → News h₀ env.locals s1.heap ((D₀, seqObj "list" #[] e1) :: news) → ∀ b o, hL.get? b = some o → s1.heap.get? b = some o := fun s1 F1 N1 b o e => by
    refine W s1.heap F1 (fun p hp => N1 p (.tail _ hp)) b o (fun q => ?_) (S.lib b o e)
    have := S.fx.fr _ (.inl rfl)
    rw [← q, S.fx.lib b o e] at this; cases this
  refine keys_go (s := s) hf hlib (fun p hp => ?_) ls us [] [] 0 { s with heap := h' } oks .nil F' N' (fun _ _ e => e) S.bare rfl fun ks e s1 okk F1 N1 g1 b1 o1 => ?_
  · rcases List.mem_cons.mp hp with rfl | hp
    · exact Nat.ne_of_lt hDk
    · exact Nat.ne_of_lt (Nat.lt_trans (hlt p hp) hDk)
  · rw [List.nil_append] at okk
    have hlk : ks.length = ls.length := by rw [← okk.length, List.length_map]
    refine kas_kind (T := .type "str") (by omega) (fun v hv => ?_) rfl rfl ?_
    · obtain ⟨i, hi, rfl⟩ := List.mem_iff_getElem.mp hv
      obtain ⟨t, e'⟩ := oks_at okk (i := i) (by omega)
      rw [List.getD_eq_getElem?_getD, List.getElem?_eq_getElem hi] at e'
      have e2 : ks[i] = .str (T (ls.getD i [])) t := e'
      rw [e2]
      exact Looks.of_pure rfl
    · rw [hlu]
      obtain ⟨z1, z2, z3⟩ := sort_ok (ltS_sw ls) (n := ls.length) (by omega)
      refine evT_wp (fun i j => decide (ls.getD i [] < ls.getD j [])) _ ls.length (fun i j C hi hj hC => ?_) _ (sort_lf (by omega)) ?_
      · unfold kas_ask
        rw [keyLt'_oneType]
        obtain ⟨t, e1⟩ := oks_at okk hi
        obtain ⟨u, e2⟩ := oks_at okk hj
        show wpAny _ _ (oneLt' true (ks.getD i Value.none) (ks.getD j Value.none)) _ _ _
        rw [e1, e2]
        exact oneLt_str hC
      · refine KatFin.intro F1 N1 (.head fun p hp => ?_) fun h2' c F2 N2 => ?_
        · rcases List.mem_cons.mp hp with rfl | hp
          · exact Nat.ne_of_lt hDk
          · exact Nat.ne_of_lt (Nat.lt_trans (hlt p hp) hDk)
        refine KasFin.intro F2 N2 (.tail (Nat.ne_of_gt hDk) (.head fun q hq => Nat.ne_of_lt (hlt q hq))) fun h3 c2 F3 N3 => ?_
        have nD0 := (N3 _ (.tail _ (.head _)))
        have hD := fresh_of Fr₀ N₀ W nD0.2.1 nD0.2.2 fun q hq => Nat.ne_of_lt (hlt q hq)
        have keep3 := W h3 F3 fun p hp => N3 p (.tail _ (.tail _ hp))
        have ns3 : ∀ m', s.heap.Ns env.locals m' → h3.Ns env.locals m' := fun m' hm => Ns.uniq hn hm ▸ F3.ns
        refine h D₀ _ _ z1 z2 z3 hD (S.moveAll (s' := { s1 with heap := h3 }) keep3 ns3 g1 b1 o1 hD nD0.1 ⟨_, c2, rfl, ?_⟩)
        refine oks_map _ fun i hi => ?_
        have hi' : i < ls.length := by
          have := (z2.mem_iff (a := i)).mp (by simpa using hi)
          simpa using this
        obtain ⟨t, e⟩ := oks_at oks hi'
        exact ⟨t, e⟩
end
end Mine

namespace Mine
open PySem PySem.W PySem.Calls PyProof.Rows PySem.SeqAt
theorem Sel.drop {l r : List (Addr × OP)} {q : Addr × OP} (h : Sel l r) : Sel (q :: l) r := by
  induction h generalizing q with
  | nil => exact .nil
  | cons e _ ih => exact .cons (.tail e) ih
theorem Sel.same : ∀ l : List (Addr × OP), Sel l l
  | [] => .nil
  | _ :: l => .cons .head (Sel.same l)
theorem iN_lt : ∀ a b : List Nat, iN a < iN b ↔ a < b
  | [], [] => by simp [iN]
  | [], _ :: _ => by simp [iN]
  | _ :: _, [] => by simp [iN]
  | x :: a, y :: b => by
    show ((x : Int) :: iN a < (y : Int) :: iN b) ↔ _
    rw [List.cons_lt_cons_iff, List.cons_lt_cons_iff, iN_lt a b, Int.ofNat_lt, Int.ofNat_inj]
noncomputable def rowN (k : List Nat) (i : Nat) : List Int := iN k ++ [-1, (i : Int)]
theorem row_lt (i j : Nat) : ∀ a b : List Nat, a < b → rowN a i < rowN b j
  | _, [], h => absurd h (List.not_lt_nil _)
  | [], y :: b, _ => by
    show (-1 : Int) :: [(i : Int)] < (y : Int) :: rowN b j
    rw [List.cons_lt_cons_iff]; left; exact Int.lt_of_lt_of_le (by decide) (Int.natCast_nonneg y)
  | x :: a, y :: b, h => by
    show (x : Int) :: rowN a i < (y : Int) :: rowN b j
    rw [List.cons_lt_cons_iff] at h ⊢
    rcases h with h | ⟨h1, h2⟩
    · left; omega
    · right; exact ⟨by omega, row_lt i j a b h2⟩
theorem up_pair {lt : Nat → Nat → Bool} {p : Array Nat} {n : Nat} (hs : p.size = n) (U : Up lt p n) {le : List Nat → List Nat → Prop} {ls : List (List Nat)} (hp : ∀ i ∈ p.toList, i < n) (h : ∀ i j, i < n → j < n → lt j i = false → le (ls.getD i []) (ls.getD j [])) : (p.toList.map fun i => ls.getD i []).Pairwise le := by
  rw [List.pairwise_map, List.pairwise_iff_getElem]
  intro i j hi hj hij
  have hi' : i < p.size := by simpa using hi
  have hj' : j < p.size := by simpa using hj
  have u := U i j (by omega) (by omega)
  unfold gp at u
  rw [show p.getD j 0 = p.toList[j] from by simp [Array.getD, hj'], show p.getD i 0 = p.toList[i] from by simp [Array.getD, hi']] at u
  exact h _ _ (hp _ (List.getElem_mem _)) (hp _ (List.getElem_mem _)) u
theorem orders {ls ks : List (List Nat)} {n : Nat} (ho : ∀ i j, i < n → j < n → (ks.getD i [] = ks.getD j [] → ls.getD i [] = ls.getD j []) ∧ (ks.getD i [] < ks.getD j [] → ls.getD i [] < ls.getD j []))
    {rows : List (List Int)} (hr : ∀ i, i < n → rows.getD i [] = rowN (ks.getD i []) i) {p q : Array Nat} (hp : p.size = n) (hq : q.size = n) (pp : p.Perm (List.range n).toArray) (pq : q.Perm (List.range n).toArray)
    (up : Up (fun i j => decide (rows.getD i [] < rows.getD j [])) p n) (uq : Up (fun i j => decide (ls.getD i [] < ls.getD j [])) q n) : (q.toList.map fun i => ls.getD i []) = p.toList.map fun i => ls.getD i [] := by
  have mem : ∀ {p : Array Nat}, p.Perm (List.range n).toArray → ∀ i ∈ p.toList, i < n := fun h i hi => by
    have := (h.mem_iff (a := i)).mp (by simpa using hi)
    simpa using this
  refine List.Perm.eq_of_pairwise (le := fun a b : List Nat => ¬ b < a) (fun a b _ _ h1 h2 => ?_) (up_pair hq uq (mem pq) fun i j hi hj h => ?_) (up_pair hp up (mem pp) fun i j hi hj h => ?_) ?_
  · exact List.le_antisymm (List.not_lt.mp h1) (List.not_lt.mp h2)
  · exact of_decide_eq_false h
  · have h := of_decide_eq_false h
    rw [hr i hi, hr j hj] at h
    intro hl
    have o := ho i j hi hj
    have o' := ho j i hj hi
    by_cases e : ks.getD i [] = ks.getD j []
    · rw [o.1 e] at hl; exact List.lt_irrefl _ hl
    · by_cases e2 : ks.getD i [] < ks.getD j []
      · exact List.lt_irrefl _ (List.lt_trans hl (o.2 e2))
      · by_cases e3 : ks.getD j [] < ks.getD i []
        · exact h (row_lt _ _ _ _ e3)
        · exact e (List.le_antisymm (List.not_lt.mp e3) (List.not_lt.mp e2))
  · refine List.Perm.map _ ?_
    have h1 := Array.perm_iff_toList_perm.mp pq
    have h2 := Array.perm_iff_toList_perm.mp pp
    exact h1.trans h2.symm
noncomputable def Cp (l : List Nat) : Prop := ∀ c ∈ l, c < 0x110000
theorem Cp.ok {l : List Nat} (h : Cp l) : PyData.strOk (T l) = true := by
  simp only [PyData.strOk, Array.all_eq_true_iff_forall_mem]
  intro c hc
  exact decide_eq_true (h c (by simpa using hc))
theorem canLay_sP : ∀ ns : List (List Nat), (∀ l ∈ ns, Cp l) → PyData.canLayAll0 (sP ns) = true
  | [], _ => rfl
  | l :: ns, h => by show (PyData.strOk (T l) && PyData.canLayAll0 (sP ns)) = true; rw [canLay_sP ns fun l hl => h l (.tail _ hl), (h l (.head _)).ok]; rfl
theorem depth_sP : ∀ ns : List (List Nat), PyData.depthAll (sP ns) = 0
  | [] => rfl
  | _ :: ns => by show max 0 (PyData.depthAll (sP ns)) = 0; rw [depth_sP ns]; rfl
theorem shaped_sP (ns : List (List Nat)) (h : ∀ l ∈ ns, Cp l) : shaped (.list (sP ns)) = true := by
  simp [shaped, PyData.canLay0, PyData.depth, canLay_sP _ h, depth_sP]
section
variable {prog : Program} {w : World} {A : Around} {E : Value → Shared → Prop} {hL : Heap} {s0 : Shared} {F : Addr → Option Obj} {env : Env} {nm : List Str} {vs vs' : List (Option D)} {nw nw' : List (Addr × OP)} {gl : List (Nat × GenState)} {s : Shared} {Q : Value → Shared → Prop} {ds es : List D}
theorem q_eqS (S : St hL s0 F env nm vs nw gl s) {a b : Addr} {ns ms : List (List Nat)} (ka : Kn F nw a (LO (ns.map fun l => .str (T l)))) (kb : Kn F nw b (LO (ms.map fun l => .str (T l)))) (hn : ∀ l ∈ ns, Cp l) (hm : ∀ l ∈ ms, Cp l) (hu : A.units + 64 < cLine) (h : Q (.bool (decide (ns = ms))) s) : wpAny (model prog w) A (compareOp .Eq (.ref a) (.ref b)) Q E s :=
  q_eq (rd_list S ka (.strs ns)) (rd_list S kb (.strs ms)) (shaped_sP _ hn) (shaped_sP _ hm) hu (by rw [PyData.eqv, eqvAll_sP]; exact h)
theorem q_ltN (S : St hL s0 F env nm vs nw gl s) {a b : Addr} {ns ms : List Nat} (ka : Kn F nw a (LO (nD ns))) (kb : Kn F nw b (LO (nD ms))) (hu : A.units + 64 < cLine) (h : Q (.bool (decide (ns < ms))) s) : wpAny (model prog w) A (compareOp .Lt (.ref a) (.ref b)) Q E s := by
  rw [nD_iN] at ka kb
  refine q_lt S ka kb hu ?_
  rw [show decide (iN ns < iN ms) = decide (ns < ms) from by rw [Bool.eq_iff_iff, decide_eq_true_iff, decide_eq_true_iff]; exact iN_lt ns ms]
  exact h
end
end Mine

namespace Mine
open PySem PySem.W PySem.Calls PyProof.Rows PySem.SeqAt
section
variable {prog : Program} {w : World} {A : Around} {E : Value → Shared → Prop} {hL : Heap} {s0 : Shared} {F : Addr → Option Obj} {env : Env} {nm : List Str} {vs vs' : List (Option D)} {nw nw' : List (Addr × OP)} {gl : List (Nat × GenState)} {s : Shared} {Q : Value → Shared → Prop} {ds es : List D}
theorem cut_val {M : Model} {t : Sem Value} (P : Value → Shared → Prop) (h : wpAny M A t P (fun _ _ => False) s) (k : ∀ v s', P v s' → Q v s') : wpAny M A t Q E s :=
  wpAny_mono h k fun _ _ x => x.elim
theorem unpack_list {t : Addr} {items : Array Value} {targets : List (Bool × (Value → Sem Unit))} {Q : Unit → Shared → Prop} (hh : A.handled = none) (ht : s.heap.IsList t items)
    (hn : targets.length = items.size) (hstar : targets.findIdx? (·.1) = none)
    (h : ∀ h', Heap.ExtBut s.heap.objs.size s.heap h' → wpAny (model prog w) A (assignInOrder (targets.map (·.2)) items.toList) Q E { s with heap := h' }) :
    wpAny (model prog w) A (unpack (.ref t) targets) Q E s := by
  unfold unpack
  rw [hn, hstar]
  exact wpAny_bind (wpAny_holding (kun_itemsOf hh ht h))
theorem as_list2 (S : St hL s0 F env nm vs nw gl s) {U : Unit → Shared → Prop} {x y : Str} {px py pos : Pos} {k : Nat} {t : Addr} {d e : D} (hh : A.handled = none) (kn : Kn F nw t (LO [d, e])) (p : Put x d nm vs vs') {vs'' : List (Option D)} (q : Put y e nm vs' vs'')
    (h : ∀ s', St hL s0 F env nm vs'' nw gl s' → U () s') : wpAny (model prog w) A (assign (.Tuple [.Name x px, .Name y py] k pos) env (.ref t)) U E s := by
  obtain ⟨o, eo, pt⟩ := S.get kn
  obtain ⟨us, hl, oks⟩ := pt.isList eo
  obtain ⟨_, _⟩ | ⟨ok1, _ | ⟨ok2, _ | _⟩⟩ := oks
  rw [assign_Tuple]
  refine wpAny_bind (wpAny_standAt (unpack_list hh hl rfl rfl fun h' he => ?_))
  have S' := S.ext (.grow (tk := s.toks) fun b o e => he b o (fun q => absurd (Heap.lt_size e) (by rw [q]; exact Nat.lt_irrefl _)) e)
  refine wpAny_assignInOrder_more (wpAny_assign_Name (r_store S' p ok1 fun s₁ S₁ => ?_))
  exact wpAny_assignInOrder_more (wpAny_assign_Name (r_store S₁ q ok2 fun s₂ S₂ => wpAny_assignInOrder_none (h _ S₂)))
theorem go_list {target : Expr} {I l : Addr} {v : Value} {s : Shared} {Q : Unit → Shared → Prop} (hi : ∃ i o, s.heap.get? I = some o ∧ LI l i o) (h : Q () s) :
    wpAny (model prog w) A (letOwnedTupleGo target (.ref I) v) Q E s := by
  obtain ⟨i, o, ho, hc, hd⟩ := hi
  unfold letOwnedTupleGo
  cases target <;> first
    | exact wpAny_pure h
    | (cases v <;> first
        | exact wpAny_pure h
        | (refine wpAny_bind (wpAny_load ho ?_)
           rw [hc, hd]
           exact wpAny_pure h))
end
noncomputable def tk (gs : List Nat) : Nat → Nat
  | 0 => 1
  | k + 1 => tk gs k * (gs.getD k 0 + 1)
noncomputable def nk (fs gs : List Nat) : Nat → Nat
  | 0 => 0
  | k + 1 => nk fs gs k * (gs.getD k 0 + 1) + fs.getD k 0
theorem tk_pos (gs : List Nat) : ∀ k, 0 < tk gs k
  | 0 => Nat.one_pos
  | k + 1 => Nat.mul_pos (tk_pos gs k) (Nat.succ_pos _)
noncomputable def totOf (gs : List Nat) : Nat := tk gs gs.length
noncomputable def numOf (fs gs : List Nat) : Nat := nk fs gs gs.length
noncomputable def picksOf (n t : Nat) : List (Int × Nat) := [(0, 1), ((n : Int) - 1, 0)] ++ ((List.range 5).map fun k => ((n : Int), k)) ++ [((n : Int) + 1, 0), ((t : Int) - 1, 2)]
noncomputable def pkOf (t : Nat) (p : Int) : Nat := (p % (t : Int)).toNat
theorem fmod_pk {t : Nat} (ht : 0 < t) (p : Int) : p.fmod (t : Int) = ((pkOf t p : Nat) : Int) := by
  rw [Int.fmod_eq_emod_of_nonneg _ (by omega), pkOf, Int.toNat_of_nonneg (Int.emod_nonneg _ (by omega))]
end Mine

namespace Mine
open PySem PySem.W PySem.Calls PyProof.Rows PySem.SeqAt
section
variable {prog : Program} {w : World} {A : Around} {E : Value → Shared → Prop} {hL : Heap} {s0 : Shared} {F : Addr → Option Obj} {env : Env} {nm : List Str} {vs vs' : List (Option D)} {nw nw' : List (Addr × OP)} {gl : List (Nat × GenState)} {s : Shared} {Q : Value → Shared → Prop} {ds es : List D}
theorem s_at (S : St hL s0 F env nm vs nw gl s) {value slice : Expr} {l : List Nat} {k : Int} {c : Nat} {t u : Tok} (h0 : 0 ≤ k) (hk : k < 2 ^ 63) (e : l[k.toNat]? = some c) (h : ∀ t s', St hL s0 F env nm vs nw gl s' → Q (.str (T [c]) t) s')
    (hs : subscripted slice false (.str (T l) t) (.int k u) = operate [.str (T l) t, .int k u] (getItem (.str (T l) t) (.int k u)) := by with_unfolding_all rfl) : wpAny (model prog w) A (subscriptTail value slice (.str (T l) t) (.int k u)) Q E s := by
  have hl : k.toNat < l.length := (List.getElem?_eq_some_iff.mp e).1
  refine tail_any (T := "str") (typeIs_str _ _ _) PySem.F.slot_str_getitem.lookup (PySem.P.getItem_str (c := c) ?_ ?_ (h _ _ (S.ext .toks))) hs
  · rw [decide_eq_false (by omega), decide_eq_false (by omega)]; rfl
  · rw [T_len]
    have e2 : seqIndex? k l.length = some k.toNat := by
      unfold seqIndex?; simp only [if_neg (Int.not_lt.mpr h0)]; rw [if_pos (by simp only [Bool.and_eq_true, decide_eq_true_eq]; omega)]
    rw [e2]
    show l.toArray[k.toNat]? = some c
    simpa using e
/-- a list of the caller's -/
noncomputable def LW (ds : List D) : OP := fun o => ∃ (vs : List Value) (n : Nat), o.cls = .type "list" ∧ o.data = .seq vs.toArray n ∧ Oks ds vs
theorem LW.isList {ds : List D} {o : Obj} (h : LW ds o) {hp : Heap} {a : Addr} (e : hp.get? a = some o) : ∃ vs, hp.IsList a vs.toArray ∧ Oks ds vs := by
  obtain ⟨vs, n, c, d, ok⟩ := h
  exact ⟨vs, ⟨o, e, c, n, d⟩, ok⟩
theorem LW.of {h : Heap} {a : Addr} {vs : List Value} {ns : List Int} (hl : h.IsList a vs.toArray) (hi : IntsAre vs ns) : Bs h.get? a (LW (ns.map D.int)) := by
  obtain ⟨o, e, c, n, d⟩ := hl
  refine ⟨o, e, vs, n, c, d, ?_⟩
  clear d e
  induction hi with
  | nil => exact .nil
  | cons n t _ ih => exact .cons ⟨t, rfl⟩ ih
theorem b_catW (S : St hL s0 F env nm vs nw gl s) {a b : Addr} (ka : Kn F nw a (LW ds)) (kb : Kn F nw b (LO es)) (hsz : ds.length + es.length ≤ sizeLine) (h : ∀ c s', s.heap.get? c = none → St hL s0 F env nm vs ((c, LO (ds ++ es)) :: nw) gl s' → Q (.ref c) s') :
    wpAny (model prog w) A (binaryOp .Add (.ref a) (.ref b)) Q E s := by
  obtain ⟨o, eo, p⟩ := S.get ka
  obtain ⟨us, hp, oks⟩ := p.isList eo
  obtain ⟨o', eo', p'⟩ := S.get kb
  obtain ⟨us', hp', oks'⟩ := p'.isList eo'
  obtain ⟨mm, hn, _⟩ := S.loc
  obtain ⟨h₀, news, Fr₀, N₀, _, W⟩ := whole hn
  refine add_lists Fr₀ N₀ hp hp' (fun h' F' N' => h _ _ S.none_size ?_) (by rw [← oks.length, ← oks'.length]; exact hsz)
  exact S.moveAdd (tk := s.toks) (fun b o hb e => W h' F' (fun p hp => N' p (.tail _ hp)) b o hb e) (fun m' hm => Ns.uniq hn hm ▸ F'.ns) S.none_size (N' _ (.head _)).1 ⟨us ++ us', 0, rfl, oks.append oks'⟩
theorem ls_anyW {sl : Addr} {vl vu vst : Value} (S : St hL s0 F env nm vs ((sl, SLC vl vu vst) :: nw) gl s) {value slice : Expr} {a : Addr} {lo hi st : Option Int} {es : List D} {ops : List Value}
    (kn : Kn F nw a (LW ds)) (pl : IsPart vl lo) (pu : IsPart vu hi) (ps : IsPart vst st) (h0 : st ≠ some 0) (hsz : ds.length ≤ sizeLine) (hp : ∀ us : List Value, Oks ds us → Oks es (slicePick us.toArray lo hi st).toList)
    (h : ∀ c s', St hL s0 F env nm vs ((c, LO es) :: nw) gl s' → Q (.ref c) s') (hs : subscripted slice false (.ref a) (.ref sl) = operate ops (getItem (.ref a) (.ref sl))) :
    wpAny (model prog w) A (subscriptTail value slice (.ref a) (.ref sl)) Q E s := by
  obtain ⟨o, eo, p⟩ := S.tail.get kn
  obtain ⟨us, hl, oks⟩ := p.isList eo
  obtain ⟨os, es', ps'⟩ := S.get (.inr (.head _))
  refine tail_any hl.typeIs slot_list_getitem.lookup (wpAny_getItem_list_slice hl ⟨_, es', by rw [ps'], by rw [ps']⟩ pl pu ps h0 (h _ _ (S.tail.alloc (tk := s.toks) ?_)) (by rw [List.size_toArray, ← oks.length]; exact hsz)) hs
  exact ⟨(slicePick us.toArray lo hi st).toList, 0, by simp, hp us oks⟩
theorem ls_uptoW {sl : Addr} {k : Int} {t : Tok} (S : St hL s0 F env nm vs ((sl, SLC .none (.int k t) .none) :: nw) gl s) {value : Expr} {lo hi : Option Expr} {p : Pos} {a : Addr} (kn : Kn F nw a (LW ds)) (h0 : 0 ≤ k) (hsz : ds.length ≤ sizeLine)
    (h : ∀ c s', St hL s0 F env nm vs ((c, LO (ds.take k.toNat)) :: nw) gl s' → Q (.ref c) s') : wpAny (model prog w) A (subscriptTail value (.Slice lo hi none p) (.ref a) (.ref sl)) Q E s :=
  ls_anyW S kn .none (.int k t) .none (by simp) hsz (fun us ok => by
    have e : (k.toNat : Int) = k := Int.toNat_of_nonneg h0
    have := slicePick_upto' us.toArray k.toNat; rw [e] at this
    rw [this]; exact ok.take k.toNat) h rfl
theorem ls_fromW {sl : Addr} {k : Int} {t : Tok} (S : St hL s0 F env nm vs ((sl, SLC (.int k t) .none .none) :: nw) gl s) {value : Expr} {lo hi : Option Expr} {p : Pos} {a : Addr} (kn : Kn F nw a (LW ds)) (h0 : 0 ≤ k) (hsz : ds.length ≤ sizeLine)
    (h : ∀ c s', St hL s0 F env nm vs ((c, LO (ds.drop k.toNat)) :: nw) gl s' → Q (.ref c) s') : wpAny (model prog w) A (subscriptTail value (.Slice lo hi none p) (.ref a) (.ref sl)) Q E s :=
  ls_anyW S kn (.int k t) .none .none (by simp) hsz (fun us ok => by
    have e : (k.toNat : Int) = k := Int.toNat_of_nonneg h0
    have := slicePick_from' us.toArray k.toNat; rw [e] at this
    rw [this]; exact ok.drop k.toNat) h rfl
theorem f_lenW (S : St hL s0 F env nm vs nw gl s) {a : Addr} (kn : Kn F nw a (LW ds)) (hz : (ds.length : Int) < 2 ^ 63) (h : ∀ t s', St hL s0 F env nm vs nw gl s' → Q (.int ds.length t) s') : wpAny (model prog w) A (call (.builtin "len") [.ref a]) Q E s := by
  obtain ⟨o, eo, p⟩ := S.get kn
  obtain ⟨us, hp, oks⟩ := p.isList eo
  refine PyProof.Rows.len_list hp (by simpa [← oks.length] using hz) ?_
  have := h (s.toks + 1) _ (S.ext (.toks (tk := s.toks + 1 + 1)))
  simpa [← oks.length] using this
end
end Mine

namespace Mine
open PySem PySem.W PySem.Calls PyProof.Rows PySem.SeqAt
section
variable {prog : Program} {w : World} {A : Around} {E : Value → Shared → Prop} {hL : Heap} {s0 : Shared} {F : Addr → Option Obj} {env : Env} {nm : List Str} {vs vs' : List (Option D)} {nw nw' : List (Addr × OP)} {gl : List (Nat × GenState)} {s : Shared} {ds es : List D}
noncomputable def NsO (o : Obj) : Prop := ∃ mm, ∀ (h : Heap) (a : Addr), h.get? a = some o → h.Ns a mm
theorem NsO.of {h : Heap} {a : Addr} {mm : Str → Option Value} (n : h.Ns a mm) : ∃ o, h.get? a = some o ∧ NsO o := by
  obtain ⟨o, es, ep, e, q⟩ := n
  exact ⟨o, e, mm, fun h' a' e' => ⟨o, es, ep, e', q⟩⟩
/-- one address of the ledger let go, whatever becomes of its object -/
theorem St.cut {C : Addr} {P : OP} (S : St hL s0 F env nm vs ((C, P) :: nw) gl s) {h' : Heap} (hs : ∀ b o, b ≠ C → s.heap.get? b = some o → h'.get? b = some o) : St hL s0 F env nm vs nw gl { s with heap := h' } := by
  have hC := (S.led _ (.head _)).2
  have nd := List.nodup_cons.mp S.nd
  refine { S with keep := fun b o e => hs b o (fun q => ?_) (S.keep b o e), loc := ?_, cel := ?_, led := fun p hp => ?_, nd := nd.2 }
  · rw [q, hC.1] at e; cases e
  · obtain ⟨mm, ⟨o, es, ep, e, q⟩, b⟩ := S.loc
    exact ⟨mm, ⟨o, es, ep, hs _ _ (fun z => hC.2 (.inl z.symm)) e, q⟩, b⟩
  · intro y hy c h1 h2
    obtain ⟨ov, ⟨o, e, q⟩, b⟩ := S.cel y hy c h1 h2
    exact ⟨ov, ⟨o, hs _ _ (fun z => hC.2 (.inr ⟨y, hy, h1, z ▸ h2⟩)) e, q⟩, b⟩
  · obtain ⟨⟨o, e, z⟩, r⟩ := S.led p (.tail _ hp)
    exact ⟨⟨o, hs _ _ (fun q => nd.1 (List.mem_map.mpr ⟨p, hp, q⟩)) e, z⟩, r⟩
/-- an address that nobody holds, put into the ledger -/
theorem St.hold (S : St hL s0 F env nm vs nw gl s) {C : Addr} {P : OP} {o : Obj} (e : s.heap.get? C = some o) (p : P o) (hF : F C = none) (hO : ¬ Own env nm C) (hn : C ∉ nw.map (·.1)) : St hL s0 F env nm vs ((C, P) :: nw) gl s :=
  { S with
    led := fun q hq => by
      rcases List.mem_cons.mp hq with rfl | hq
      · exact ⟨⟨o, e, p⟩, hF, hO⟩
      · exact S.led q hq
    nd := List.nodup_cons.mpr ⟨hn, S.nd⟩ }
theorem r_listcompA {elt iter : Expr} {x y : Str} {px py : Pos} {ifs : List Expr} {scope : Scope} {pos spos : Pos} {cl : List (Str × Addr)} {M : Model} {Q : Flow → Shared → Prop} (hsw : swapsWith (.ListComp elt [⟨.Name x px, iter, ifs, 0⟩] scope pos) (some (.Name y py)) spos.line env = pure true) (hclos : closureFor scope env = pure cl) (hkind : scope.kind = .function) (hnames : ∀ x ∈ scope.names, x.2 = .local → scope.names.lookup x.1 = some .local)
    (h : wpAny M A (eval iter env) (fun xv s₁ => wpAny M A (pyIter xv) (fun it s₂ => wpAny M A (newList []) (fun acc s₃ => wpAny M A (newFunctionEnv scope env.globals cl [] env.qual none .none (some env)) (fun cenv s₄ =>
      codeAny M A (.compStart (.ListComp elt [⟨.Name x px, iter, ifs, 0⟩] scope pos) 0 it acc { cenv with scope := relabel scope env }) (compPost M A E (some (assign (.Name y py) env)) (fun _ s' => Q .next s') acc cenv.locals) s₄) E s₃) E s₂) E s₁) E s)
    (hs : ∀ x, foldedSetIterable iter env x = pure x := by intro _; rfl) : wpAny M A (exec (.Assign [.Name y py] (.ListComp elt [⟨.Name x px, iter, ifs, 0⟩] scope pos) spos) env) Q E s := by
  rw [exec_Assign_Name_used _ _ _ _ hsw]
  refine wpAny_bind (wpAny_standAt (wpAny_bind ?_))
  show wpAny M A (do let _ ← comprehension (.ListComp elt [⟨.Name x px, iter, ifs, 0⟩] scope pos) scope env _ (newList []) false (eval iter env) (some (assign (.Name y py) env))) _ _ s
  exact wpAny_bind (wpAny_mono (wpAny_comprehension_free (use := some (assign (.Name y py) env)) (Q := fun _ s' => Q .next s') rfl hs hclos hkind hnames h) (fun _ s' hq => wpAny_pure (wpAny_pure hq)) fun _ _ e => e)
theorem comp_endA {I : Addr} {P : Nat → OP} {n : Nat} {V : Nat → D → Prop} {side : Heap → Prop} (it : It prog w I P n V side) (hh : A.handled = none) {elt iter : Expr} {x y : Str} {px py : Pos} {ifs : List Expr} {scope : Scope} {pos : Pos} {cl : List (Str × Addr)} {Q : Value → Shared → Prop} {vs' : Addr → List (Option D)}
    (S : St hL s0 F env nm vs ((I, P 0) :: nw) gl s) (hn : n ≤ sizeLine) (hsd : ∀ h : Heap, (∀ b o, (if b = I then none else s.heap.get? b) = some o → h.get? b = some o) → side h)
    (hcell : ∀ y ∈ scope.names, y.2 ≠ .cell) (hkind : scope.kind = .function) (hx : (relabel scope env).names.lookup x = some .local) (hdb : (x == ("__debug__" : Str)) = false)
    (J : Nat → List (Addr × OP) → List D → Prop) (j0 : J 0 [] [])
    (turn : ∀ i d nwc acc C D₀ s', i < n → V i d → J i nwc acc → acc.length ≤ i → StC hL s I (compE scope cl C env) x (some d) ((D₀, LO acc) :: (I, P (i + 1)) :: nwc) s' →
      wpAny (model prog w) A (forIn ifs true fun c r => if r = true then do let ok ← isTrue c (compE scope cl C env) (eval c (compE scope cl C env)); pure (ForInStep.yield ok) else pure (ForInStep.yield r))
        (fun ok s₃ => if ok = true then wpAny (model prog w) A (eval elt (compE scope cl C env)) (fun y s₄ => ∃ e nwc', e.ok y ∧ StC hL s I (compE scope cl C env) x (some d) ((D₀, LO acc) :: (I, P (i + 1)) :: nwc') s₄ ∧ J (i + 1) nwc' (acc ++ [e])) (fun _ _ => False) s₃
          else StC hL s I (compE scope cl C env) x (some d) ((D₀, LO acc) :: (I, P (i + 1)) :: nwc) s₃ ∧ J (i + 1) nwc acc) (fun _ _ => False) s')
    (put : ∀ D₀, Put y (.val (.ref D₀)) nm vs (vs' D₀))
    (done : ∀ nwc acc D₀ s', J n nwc acc → s.heap.get? D₀ = none → St hL s0 F env nm (vs' D₀) (((D₀, LO acc) :: nwc) ++ nw) gl s' → Q .none s') :
    wpAny (model prog w) A (newList []) (fun acc s₃ => wpAny (model prog w) A (newFunctionEnv scope env.globals cl [] env.qual none .none (some env)) (fun cenv s₄ =>
      codeAny (model prog w) A (.compStart (.ListComp elt [⟨.Name x px, iter, ifs, 0⟩] scope pos) 0 (.ref I) acc { cenv with scope := relabel scope env }) (compPost (model prog w) A E (some (assign (.Name y py) env)) Q acc cenv.locals) s₄) E s₃) E s := by
  refine wpAny_mono (comp_core it hh (E := E) (RR := fun D₀ C r s' => compPost (model prog w) A E (some (assign (.Name y py) env)) Q (.ref D₀) C r s') S hn hsd hcell hkind hx hdb J j0 turn (fun nwc acc C D₀ dx s' j S' hD hC hfr => ?_)) (fun acc s₃ h₃ => wpAny_mono h₃ (fun cenv s₄ h₄ => codeAny_mono h₄ fun r s' h => ?_) fun _ _ e => e) fun _ _ e => e
  · obtain ⟨mm, hm, _⟩ := S'.loc
    have S1 := S.back (cenv := compE scope cl C env) S' hD hC hfr (Heap.SameBut.refl ..)
    obtain ⟨o, eo, no⟩ := NsO.of hm
    have hfC : F C = none := by
      cases q : F C with
      | none => rfl
      | some o' => rw [S.keep _ _ q] at hC; cases hC
    have S2 := S1.hold (C := C) (P := NsO) eo no hfC (fun q => by have := S.own_some q; rw [hC] at this; cases this) (fun q => by
      obtain ⟨p, hp, rfl⟩ := List.mem_map.mp q
      rcases List.mem_append.mp hp with hp | hp
      · exact (S'.led p hp).2.2 (.inl rfl)
      · obtain ⟨⟨o, e, _⟩, _⟩ := S.led p (.tail _ hp)
        rw [hC] at e; cases e)
    refine wpAny_assign_Name (r_store S2 (put D₀) rfl fun s'' S3 => ?_)
    obtain ⟨o3, e3, mm3, n3⟩ := (S3.led _ (.head _)).1
    exact ⟨mm3, n3 _ _ e3, fun h' hsb => done nwc acc D₀ _ j hD (S3.cut fun b o hb e => hsb.extBut b o hb e)⟩
  · obtain ⟨D₀, rfl, h⟩ := h; exact h
end
end Mine

namespace Mine
open PySem PySem.W PySem.Calls PyProof.Rows
/-- the names of the module and of the builtins that the law reads, with their values -/
inductive Gv : Str → Value → Prop
  | g_CHAR_MAX : Gv (Str.ofString "CHAR_MAX") (.int 127 211)
  | g_strcoll : Gv (Str.ofString "_strcoll") (.ref 28)
  | g_strxfrm : Gv (Str.ofString "_strxfrm") (.ref 35)
  | g_grouping_intervals : Gv (Str.ofString "_grouping_intervals") (.ref 42)
  | g_Whitespace : Gv (Str.ofString "Whitespace") (.ref 104)
  | g_law_gaps : Gv (Str.ofString "_law_gaps") (.ref 113)
  | g_law_sign : Gv (Str.ofString "_law_sign") (.ref 120)
  | g_law_figures : Gv (Str.ofString "_law_figures") (.ref 127)
  | g_law_lead : Gv (Str.ofString "_law_lead") (.ref 132)
  | g_law_read : Gv (Str.ofString "_law_read") (.ref 137)
  | g_law_runs : Gv (Str.ofString "_law_runs") (.ref 144)
  | g_law_line : Gv (Str.ofString "_law_line") (.ref 149)
  | g_law_ordered : Gv (Str.ofString "_law_ordered") (.ref 154)
  | g_law_numbered : Gv (Str.ofString "_law_numbered") (.ref 159)
  | g_len : Gv (Str.ofString "len") (.builtin "len")
  | g_max : Gv (Str.ofString "max") (.builtin "max")
  | g_sum : Gv (Str.ofString "sum") (.builtin "sum")
  | g_sorted : Gv (Str.ofString "sorted") (.builtin "sorted")
  | g_chr : Gv (Str.ofString "chr") (.builtin "chr")
  | g_ord : Gv (Str.ofString "ord") (.builtin "ord")
  | g_isinstance : Gv (Str.ofString "isinstance") (.builtin "isinstance")
  | g_range : Gv (Str.ofString "range") (.type "range")
  | g_tuple : Gv (Str.ofString "tuple") (.type "tuple")
  | g_bool : Gv (Str.ofString "bool") (.type "bool")
theorem gn_all {w : World} {hL : Heap} {mg mb : Str → Option Value} {M : Model} {A : Around} {E : Value → Shared → Prop} {s0 : Shared} {F : Addr → Option Obj} {env : Env} {nm : List Str} {vs : List (Option D)} {nw : List (Addr × OP)} {gl : List (Nat × GenState)} {s : Shared} {Q : Value → Shared → Prop} {pos : Pos} {x : Str} {v : Value} (B : Lb w hL mg mb) (S : St hL s0 F env nm vs nw gl s) (g : Gv x v) (hx : env.kindOf x = some .globalImplicit) (hg : env.globals = mainGlobals) (hb : env.builtins = builtinsNs) (h : Q v s) : wpAny M A (eval (.Name x pos) env) Q E s := by
  cases g
  case g_CHAR_MAX => exact gn_CHAR_MAX B S hx hg hb h
  case g_strcoll => exact gn_strcoll B S hx hg hb h
  case g_strxfrm => exact gn_strxfrm B S hx hg hb h
  case g_grouping_intervals => exact gn_grouping_intervals B S hx hg hb h
  case g_Whitespace => exact gn_Whitespace B S hx hg hb h
  case g_law_gaps => exact gn_law_gaps B S hx hg hb h
  case g_law_sign => exact gn_law_sign B S hx hg hb h
  case g_law_figures => exact gn_law_figures B S hx hg hb h
  case g_law_lead => exact gn_law_lead B S hx hg hb h
  case g_law_read => exact gn_law_read B S hx hg hb h
  case g_law_runs => exact gn_law_runs B S hx hg hb h
  case g_law_line => exact gn_law_line B S hx hg hb h
  case g_law_ordered => exact gn_law_ordered B S hx hg hb h
  case g_law_numbered => exact gn_law_numbered B S hx hg hb h
  case g_len => exact gn_len B S hx hg hb h
  case g_max => exact gn_max B S hx hg hb h
  case g_sum => exact gn_sum B S hx hg hb h
  case g_sorted => exact gn_sorted B S hx hg hb h
  case g_chr => exact gn_chr B S hx hg hb h
  case g_ord => exact gn_ord B S hx hg hb h
  case g_isinstance => exact gn_isinstance B S hx hg hb h
  case g_range => exact gn_range B S hx hg hb h
  case g_tuple => exact gn_tuple B S hx hg hb h
  case g_bool => exact gn_bool B S hx hg hb h
end Mine

namespace Mine
open PySem PySem.W PySem.Calls PyProof.Rows
set_option compiler.extract_closed false
local macro_rules | `(tactic| walk_at "at") => `(tactic| with_reducible first | exact At.head | (apply At.tail; walk_at "at"))
local macro_rules | `(tactic| walk_at "sz") => `(tactic| first | decide | (have sz9 := szl; omega) | (have sz9 := szl; simp only [nD_length, List.length_map, List.length_append, List.length_replicate, List.length_cons, List.length_nil, List.length_take, List.length_reverse] <;> omega) | (simp [sizeLine]; done) | (simp [sizeLine]; omega))
local macro_rules | `(tactic| walk_at "kn") => `(tactic| with_reducible first | (apply Kn.own; (repeat first | exact List.mem_cons_self | apply List.mem_cons_of_mem); done) | (apply Kn.bas; assumption))
local macro_rules | `(tactic| walk_at "go1") => `(tactic| first | ((with_reducible show wpAny _ _ (eval ..) ..); first | (rename St .. => S0; (with_reducible first | refine r_nameC S0 (by walk_at "at") ?_ | refine r_captC S0 (by assumption) (by decide) ?_); (first | (refine Cont.int ?_; intro t9) | (refine Cont.str ?_; intro t9) | refine Cont.val ?_)) | (rename St .. => S0; (with_reducible first | refine c_int S0 ?_ | refine c_str S0 ?_); clear S0; intro t9 s9 S9) | (with_reducible first | refine wpAny_Constant_none ?_ | refine wpAny_Constant_bool ?_ | refine wpAny_BinOp ?_ | refine wpAny_Call_NameR ?_ | refine r_meth ?_ rfl | refine Subscript_ ?_ | refine wpAny_Compare1 ?_ rfl | refine List_ ?_ | refine Tuple_ ?_ | refine wpAny_IfExp ?_ | refine wpAny_UnaryOp ?_ | refine r_slice ?_ | refine Attribute_any_ ?_ (by with_unfolding_all rfl)) | (rename St .. => S0; with_reducible refine gn_all ‹Lb ..› S0 (by constructor) (by kernel_rfl) (by kernel_rfl) (by kernel_rfl) ?_)) | ((with_reducible show wpAny _ _ (binaryOp ..) ..); rename St .. => S0; first | ((with_reducible first | refine b_add S0 ?_ | refine b_sub S0 ?_ | refine b_mod S0 ?k ?_ | refine b_mul S0 ?k ?_ | refine b_fdiv S0 ?k ?k1 ?_ | refine b_subb S0 ?_); (try case k => first | decide | omega); (try case k1 => first | decide | omega); clear S0; intro t9 s9 S9) | ((with_reducible first | refine' b_muls S0 ?k1 ?k2 ?k3 ?_ | refine' b_cats S0 ?k1 ?_); (try case k2 => walk_at "sz"); (try case k3 => walk_at "sz"); (case k1 => walk_at "sz"); clear S0; intro t9 s9 S9) | ((with_reducible refine' b_cat S0 ?k1 ?k2 ?k3 ?_); (case k1 => walk_at "kn"); (case k2 => walk_at "kn"); (case k3 => walk_at "sz"); clear S0; intro a9 s9 n9 S9)) | (with_reducible first | refine wpAny_execs_cons ?_ | refine wpAny_execs_nil ?_ | (show wpAny _ _ (exec ..) ..; first | refine wpAny_Assign_Name ?_ rfl | refine wpAny_Return_some ?_ | refine plainObj_wpAny_Assign_Attribute ?_ rfl | refine wpAny_Assign_Subscript ?_ rfl | refine wpAny_Assign_three ?_ rfl rfl | refine wpAny_Break ?_ | refine wpAny_Expr ?_ rfl rfl) | (show wpAny _ _ (storeName ..) ..; rename St .. => S0; (first | refine st_int S0 (by repeat constructor) ?_ | refine st_str S0 (by repeat constructor) ?_ | refine st_val S0 (by repeat constructor) ?_); clear S0; intro s9 S9) | refine wpAny_items_nil ?_ | refine wpAny_items_cons ?_ rfl | refine cw_b0 ?_ rfl rfl | refine cw_b1 ?_ rfl rfl | refine cw_builtin ?_ rfl rfl | refine PyProof.Rows.callWith_type1 ?_ rfl rfl | refine wpAny_isTrue_Compare1 ?_ rfl | refine wpAny_truthy_bool ?_ | (show wpAny _ _ (compareOp ..) ..; first | refine PyProof.Rows.lt_int ?_ | refine PyProof.Rows.le_int ?_ | refine PyProof.Rows.eq_int ?_ | refine PyProof.Rows.ge_int ?_ | refine PyProof.Rows.gt_int ?_ | refine PyProof.Rows.ne_int ?_ | refine PyProof.Rows.lt_str ?_ | refine PySem.P.gt_str ?_ | refine PyProof.Rows.eq_str ?_) | refine wpAny_evalPart_some ?_ | refine wpAny_evalPart_none ?_ | refine wpAny_assign_Name ?_) | (rename St .. => S0; (with_reducible first | refine' m_list S0 ?k1 ?k ?_ | refine' m_tuple S0 ?k1 ?k ?_); (case k1 => with_reducible repeat first | exact Oks.nil | apply Oks.cons okI | apply Oks.cons okS | apply Oks.cons okV); (case k => first | decide | simp [sizeLine]); clear S0; intro a9 s9 n9 S9) | (rename St .. => S0; with_reducible first | (refine SlMk.intro S0 ?_; clear S0; intro a9 s9 S9) | (refine u_neg S0 ?_; clear S0; intro t9 s9 S9) | (refine in_and ‹Lb ..› S0 ?_) | (refine g_join ?_)) | ((with_reducible show wpAny _ _ (call (.builtin _) _) ..); rename St .. => S0; (with_reducible first | (refine' f_lenL S0 ?k1 ?k2 ?_; (case k1 => walk_at "kn")) | (refine' f_lenT S0 ?k1 ?k2 ?_; (case k1 => walk_at "kn")) | refine' f_lenX S0 ?k2 ?_ | refine' f_lenS S0 ?k2 ?_); (case k2 => walk_at "sz"); clear S0; intro t9 s9 S9) | ((with_reducible show wpAny _ _ (call (.builtin _) _) ..); rename St .. => S0; (with_reducible first | refine' l_append S0 ?k1 okI ?k2 ?_ | refine' l_append S0 ?k1 okS ?k2 ?_ | refine' l_append S0 ?k1 okV ?k2 ?_); (case k1 => with_reducible repeat constructor); (case k2 => walk_at "sz"); clear S0; intro s9 S9) | ((with_reducible show wpAny _ _ (getAttr (.ref _) _ _) ..); rename St .. => S0; (with_reducible refine' a_getC ‹Lb ..› S0 ?k1 ?k2 ?k3 ?k4 ?k5 ?_); (case k1 => walk_at "kn"); (case k2 => walk_at "kn"); (case k3 => repeat first | with_reducible exact AtK.head | ((with_reducible apply AtK.tail); kernel_rfl)); (case k4 => kernel_rfl); (case k5 => first | exact handI | exact handS | exact handR | exact handB); clear S0; intro s9 S9; (first | (refine Cont.int ?_; intro t9) | (refine Cont.str ?_; intro t9) | refine Cont.val ?_)) | ((with_reducible show wpAny _ _ (getMethod _ _ _) ..); rename St .. => S0; (first | ((with_reducible first | refine' g_append S0 ?k1 ?_ | refine' g_count S0 ?k1 ?_); (case k1 => walk_at "kn")) | ((with_reducible first | refine' g_level ‹Lb ..› S0 ?k1 ?k2 ?k3 ?_ | refine' g_long ‹Lb ..› S0 ?k1 ?k2 ?k3 ?_); (case k1 => walk_at "kn"); (case k2 => walk_at "kn"); (case k3 => kernel_rfl)))) | ((with_reducible show wpAny _ _ (subscriptTail _ _ (.ref _) (.int ..)) ..); rename St .. => S0; (first | ((with_reducible refine' l_lastC S0 ?k1 ?k3 ?_); (case k1 => walk_at "kn"); (case k3 => with_unfolding_all rfl); (first | (refine Cont.int ?_; intro t9) | (refine Cont.str ?_; intro t9) | refine Cont.val ?_)) | ((with_reducible refine' l_nd S0 ?k1 ?k2 ?k4 ?_ ?k3); (case k1 => walk_at "kn"); (case k2 => omega); (case k4 => omega); (case k3 => with_unfolding_all rfl); intro t9))) | ((with_reducible show wpAny _ _ (setItem (.ref _) (.int ..) _) ..); rename St .. => S0; (with_reducible first | refine' l_setLast S0 ?k1 okI ?_ | refine' l_setLast S0 ?k1 okS ?_ | refine' l_setLast S0 ?k1 okV ?_); (case k1 => with_reducible repeat constructor); clear S0; intro s9 S9) | (first | with_reducible refine cw_k0 ‹Lb ..› (by kernel_rfl) ?_ rfl rfl | with_reducible refine cw_k1 ‹Lb ..› (by kernel_rfl) ?_ rfl rfl | (rename St .. => S0; with_reducible refine cw_k2 ‹Lb ..› S0 (by kernel_rfl) ?_)))


noncomputable def signOf (n : Int) : Nat := if 33 + n.fmod 1112031 < 55296 then (33 + n.fmod 1112031).toNat else (33 + n.fmod 1112031 + 2048).toNat
theorem c_sign {w : World} {hL : Heap} {mg mb : Str → Option Value} (B : Lb w hL mg mb) {prog : Program} {A : Around} {E : Value → Shared → Prop} {Q : Value → Shared → Prop} {s : Shared} {n : Int} {t : Tok} (R : Rm 1 A)
    (P : Pr hL s) (h : ∀ t s', Ext s s' → Q (.str ⟨#[signOf n]⟩ t) s') : wpAny (model prog w) A (call (.ref 120) [.int n t]) Q E s := by
  refine enterF B (ds := [.int n]) [Str.ofString "n"] [Str.ofString "point"] [Str.ofString "n", Str.ofString "point"] [some (.int n), none] P rfl rfl (by kernel_rfl) (by kernel_rfl) (by have := R.d; omega) rfl (by kernel_rfl) (by kernel_rfl) rfl (.cons ⟨_, rfl⟩ .nil) (by kernel_rfl) (by kernel_rfl) (by kernel_rfl) (by kernel_rfl) ?_
  intro L s₁ hLn S
  have R1 := R.deeper (env := callEnvC (fdAt w 120) L 120)
  generalize A.deeper (callEnvC (fdAt w 120) L 120) = A1 at R1 ⊢
  conv in bodOf _ => whnf
  have b1 := Int.fmod_nonneg_of_pos n (b := 1112031) (by decide)
  have b2 := Int.fmod_lt_of_pos n (b := 1112031) (by decide)
  (repeat walk_at "go1")
  refine iteD (fun hc => ?_) (fun hc => ?_)
  · (repeat walk_at "go1")
    rename St _ _ _ _ _ _ _ _ _ => S0
    refine f_chr S0 (by omega) (by omega) ?_
    intro t s' S'
    have := h t s' S'.out
    unfold signOf at this
    rw [if_pos hc] at this
    exact this
  · (repeat walk_at "go1")
    rename St _ _ _ _ _ _ _ _ _ => S0
    refine f_chr S0 (by omega) (by omega) ?_
    intro t s' S'
    have := h t s' S'.out
    unfold signOf at this
    rw [if_neg hc] at this
    exact this


structure WS where
  count : List Nat
  b : Nat
  n : Nat
  nt : Nat
noncomputable def bump (c : List Nat) (b : Nat) : List Nat := (c ++ List.replicate (b + 1 - c.length) 0).modify b (· + 1)
noncomputable def wsGo : List Nat → WS → WS
  | [], v => v
  | c :: r, v => if c = 32 then wsGo r ⟨v.count, v.b + 1, v.n + 1, v.nt⟩ else if c = 9 then wsGo r ⟨bump v.count v.b, 0, v.n + 1, v.nt + 1⟩ else v
noncomputable def ws (l : List Nat) : WS := wsGo l ⟨[], 0, 0, 0⟩



theorem wsGo_append (l : List Nat) (r : List Nat) (hl : ∀ k ∈ l, k = 32 ∨ k = 9) : ∀ v, wsGo (l ++ r) v = wsGo r (wsGo l v) := by
  induction l with
  | nil => intro v; rfl
  | cons c l ih =>
    intro v
    have h := hl c (.head _)
    have ih := ih fun k hk => hl k (.tail _ hk)
    simp only [List.cons_append, wsGo]
    rcases h with rfl | rfl
    · simp only [if_true]; exact ih _
    · simp only [show (9 = 32) = False from by decide, if_false, if_true]; exact ih _
theorem bump_length (c : List Nat) (b : Nat) : (bump c b).length = max c.length (b + 1) := by
  unfold bump; simp; omega
theorem wsGo_bounds (l : List Nat) : ∀ v, (wsGo l v).b ≤ v.b + l.length ∧ (wsGo l v).n ≤ v.n + l.length ∧ (wsGo l v).nt ≤ v.nt + l.length ∧ (wsGo l v).count.length ≤ max v.count.length (v.b + l.length) := by
  induction l with
  | nil => intro v; simp [wsGo]; omega
  | cons c l ih =>
    intro v
    unfold wsGo
    split
    · have := ih ⟨v.count, v.b + 1, v.n + 1, v.nt⟩
      simp only [List.length_cons] at *; omega
    · split
      · have := ih ⟨bump v.count v.b, 0, v.n + 1, v.nt + 1⟩
        simp only [List.length_cons, bump_length] at *; omega
      · simp only [List.length_cons]; omega
theorem ws_bounds (l : List Nat) : (ws l).b ≤ l.length ∧ (ws l).n ≤ l.length ∧ (ws l).nt ≤ l.length ∧ (ws l).count.length ≤ l.length := by
  have := wsGo_bounds l ⟨[], 0, 0, 0⟩
  simp only [List.length_nil] at this
  unfold ws; omega
theorem ws_take (l : List Nat) (i : Nat) (h : i < l.length) (hl : ∀ k ∈ l.take i, k = 32 ∨ k = 9) : ws l = wsGo (l.drop i) (ws (l.take i)) := by
  conv => lhs; rw [← List.take_append_drop i l]
  exact wsGo_append _ _ hl _
theorem teq (a b : Nat) : (T [a] == T [b]) = decide (a = b) := by
  rw [Bool.eq_iff_iff]; simp
theorem ws_step (l : List Nat) (i : Nat) {c : Nat} (hc : l[i]? = some c) (hl : ∀ k ∈ l.take i, k = 32 ∨ k = 9) : ws (l.take (i + 1)) = wsGo [c] (ws (l.take i)) := by
  rw [List.take_add_one, hc]
  exact wsGo_append _ _ hl _
theorem ws_stop (l : List Nat) (i : Nat) {c : Nat} (hc : l[i]? = some c) (hl : ∀ k ∈ l.take i, k = 32 ∨ k = 9) (h1 : c ≠ 32) (h2 : c ≠ 9) : ws l = ws (l.take i) := by
  obtain ⟨hi, hx⟩ := List.getElem?_eq_some_iff.mp hc
  rw [ws_take l i hi hl, List.drop_eq_getElem_cons hi, hx]
  simp [wsGo, h1, h2]
theorem take_tabs (l : List Nat) (i : Nat) {c : Nat} (hc : l[i]? = some c) (hl : ∀ k ∈ l.take i, k = 32 ∨ k = 9) (h : c = 32 ∨ c = 9) : ∀ k ∈ l.take (i + 1), k = 32 ∨ k = 9 := by
  rw [List.take_add_one, hc]
  intro k hk
  rcases List.mem_append.mp hk with hk | hk
  · exact hl k hk
  · obtain rfl : k = c := by simpa using hk
    exact h
theorem nD_rep (k : Nat) : (List.replicate k [D.int 0]).flatten = nD (List.replicate k 0) := by
  induction k with
  | zero => rfl
  | succ k ih => simp only [List.replicate_succ, List.flatten_cons, ih]; rfl
theorem bump_set (c : List Nat) (b : Nat) : bump c b = (c ++ List.replicate (b + 1 - c.length) 0).set b ((c ++ List.replicate (b + 1 - c.length) 0).getD b 0 + 1) := by
  unfold bump
  have h : b < (c ++ List.replicate (b + 1 - c.length) 0).length := by simp; omega
  generalize c ++ List.replicate (b + 1 - c.length) 0 = l at h
  apply List.ext_getElem?
  intro i
  rw [List.getElem?_modify, List.getElem?_set]
  by_cases hi : b = i
  · subst hi; simp [h]
  · rw [if_neg hi]; simp [hi]
theorem nD_set (l : List Nat) (i k : Nat) : (nD l).set i (D.int ((k : Int) + 1)) = nD (l.set i (k + 1)) := by
  unfold nD; rw [List.map_set]; rfl
theorem ws_S {w : World} : findCls (KH w) (.ref 104) (.type "type") (Str.ofString "S") = some (.val (.str (T [32]) 237)) := by kernel_rfl
theorem ws_T {w : World} : findCls (KH w) (.ref 104) (.type "type") (Str.ofString "T") = some (.val (.str (T [9]) 238)) := by kernel_rfl
theorem ws_reads {w : World} : readsIn (KH w) 104 (.type "type") = true := by kernel_rfl

noncomputable def wsKV (l : List Nat) (tx : Addr) : List (Str × D) := [(Str.ofString "raw", .str (T l)), (Str.ofString "n", .int (ws l).n), (Str.ofString "nt", .int (ws l).nt), (Str.ofString "norm", .val (.ref tx)), (Str.ofString "is_simple", .val (.bool (decide ((ws l).count.length ≤ 1))))]
/-- an object of Whitespace of the text l -/
structure WsA (g : Addr → Option Obj) (x dx tx ax : Addr) (l : List Nat) : Prop where
  i : Bs g x (IN 104 dx)
  d : Bs g dx (DI (wsKV l tx))
  t : Bs g tx (TO [.val (.ref ax), .int (ws l).b])
  a : Bs g ax (TO (nD (ws l).count))
theorem c_init {w : World} {hL : Heap} {mg mb : Str → Option Value} (B : Lb w hL mg mb) {prog : Program} {A : Around} {R : Result → Shared → Prop} {s s0 : Shared} {F : Addr → Option Obj} {x dx : Addr} {l : List Nat} {t : Tok} (Rm1 : Rm 1 A)
    (hlib : ∀ b o, hL.get? b = some o → F b = some o) (hbase : ∀ b o, s0.heap.get? b = some o → F b = some o) (hkeep : ∀ b o, F b = some o → s.heap.get? b = some o)
    (hled : ∀ p ∈ [(x, IN 104 dx), (dx, DI [])], (∃ o, s.heap.get? p.1 = some o ∧ p.2 o) ∧ F p.1 = none) (hne : x ≠ dx) (hgens : ∀ (i : Nat) x, s0.gens[i]? = some x → s.gens[i]? = some x) (hos : s.os = s0.os) (hbare : AllBare s.gens) (hl : l.length ≤ 1000)
    (h : ∀ tx ax s', Ext s0 s' → WsA s'.heap.get? x dx tx ax l → F tx = none → F ax = none → R (.ok (.ret .none)) s') : codeAny (model prog w) A (.call (.ref 59) ⟨[.ref x, .str (T l) t], []⟩) R s := by
  obtain ⟨o, ho, hd⟩ := fd_get (a := 59) B.K (by kernel_rfl)
  refine enterG (nw0 := [(x, IN 104 dx), (dx, DI [])]) (ds := [.val (.ref x), .str (T l)]) [Str.ofString "self", Str.ofString "ws"] [Str.ofString "S", Str.ofString "T", Str.ofString "count", Str.ofString "b", Str.ofString "n", Str.ofString "nt", Str.ofString "ch"]
    hlib hbase hkeep hled (by simp [hne]) hgens hos hbare B.lim ho hd (codeRec_of B.K (by kernel_rfl)) (by have := Rm1.d; omega) rfl (by kernel_rfl) (by kernel_rfl) rfl (.cons rfl (.cons ⟨_, rfl⟩ .nil)) (by kernel_rfl) (by kernel_rfl) (by kernel_rfl) (by kernel_rfl) ?_
  intro L s₁ hLn S
  have R1 := Rm1.deeper (env := callEnvC (fdAt w 59) L 59)
  generalize A.deeper (callEnvC (fdAt w 59) L 59) = A1 at R1 ⊢
  conv in bodOf _ => whnf
  have S : St hL s0 F (callEnvC (fdAt w 59) L 59) [Str.ofString "self", Str.ofString "ws", Str.ofString "S", Str.ofString "T", Str.ofString "count", Str.ofString "b", Str.ofString "n", Str.ofString "nt", Str.ofString "ch"]
    [some (.val (.ref x)), some (.str (T l)), none, none, none, none, none, none, none] [(x, IN 104 dx), (dx, DI [])] [] s₁ := S
  (repeat walk_at "go1")
  ((with_reducible show wpAny _ _ (setAttr (.ref _) ..) ..); rename St .. => S0; refine' a_set ‹Lb ..› S0 ?k1 ?k2 ?k3 ?k4 ?k6 ?k5 ?_; (case k6 => first | exact okI | exact okS | exact okV); (case k1 => walk_at "kn"); (case k2 => with_reducible repeat constructor); (case k3 => kernel_rfl); (case k4 => kernel_rfl); (case k5 => kernel_rfl); clear S0; intro s9 S9; (try simp only [List.nil_append, List.cons_append] at S9))
  (repeat walk_at "go1")
  refine r_swap2 (by kernel_rfl) (by kernel_rfl) ?_
  (repeat walk_at "go1")
  rename St _ _ _ _ _ _ _ _ _ => S0
  refine a_cls B S0 ws_reads ws_S rfl ?_
  clear S0; intro s9 S9
  (repeat walk_at "go1")
  rename St _ _ _ _ _ _ _ _ _ => S0
  refine a_cls B S0 ws_reads ws_T rfl ?_
  clear S0; intro s9 S9
  (repeat walk_at "go1")
  rename St _ _ _ _ _ _ _ _ _ => S0
  refine u_tuple S0 (ds := [.str (T [32]), .str (T [9])]) R1.h (by walk_at "kn") rfl ?_
  clear S0; intro us s9 ok S9
  obtain ⟨_, _⟩ | ⟨⟨t1, rfl⟩, _ | ⟨⟨t2, rfl⟩, _ | _⟩⟩ := ok
  refine ⟨_, _, rfl, ?_⟩
  replace S9 := S9.tail
  (repeat walk_at "go1")
  rename St _ _ _ _ _ _ _ _ _ => S0
  refine cut_next (fun s' => ∃ c, St hL s0 F (callEnvC (fdAt w 59) L 59) [Str.ofString "self", Str.ofString "ws", Str.ofString "S", Str.ofString "T", Str.ofString "count", Str.ofString "b", Str.ofString "n", Str.ofString "nt", Str.ofString "ch"]
    [some (.val (.ref x)), some (.str (T l)), none, none, some (.val (.ref c)), some (.int (ws l).b), some (.int (ws l).n), some (.int (ws l).nt), none] [(c, LO (nD (ws l).count)), (x, IN 104 dx), (dx, DI [(Str.ofString "raw", D.str (T l))])] [] s') ?_ ?_
  · refine wpAny_For ?_ (by intro _; rfl)
    (repeat walk_at "go1")
    rename St _ _ _ _ _ _ _ _ _ => S0
    refine i_str S0 ?_
    clear S0
    intro I ty s9 it S9
    refine for_core it R1.h S9 (fun i F' vs' nw' => F = F' ∧ (∀ k ∈ l.take i, k = 32 ∨ k = 9) ∧ ∃ c, vs' = [some (.val (.ref x)), some (.str (T l)), some (.str (T [32])), some (.str (T [9])), some (.val (.ref c)), some (.int (ws (l.take i)).b), some (.int (ws (l.take i)).n), some (.int (ws (l.take i)).nt), none] ∧
      nw' = [(c, LO (nD (ws (l.take i)).count)), (x, IN 104 dx), (dx, DI [(Str.ofString "raw", D.str (T l))])]) ⟨rfl, by simp, _, rfl, rfl⟩ (fun _ _ _ _ _ _ _ => trivial) (fun v s Q E _ h => wpAny_pure h) ?turn ?done (fun _ _ h => h)
    case done =>
      rintro _ _ _ s' ⟨rfl, hk, c, rfl, rfl⟩ S'
      rw [List.take_length] at S'
      exact ⟨rfl, c, S'.wk (by repeat constructor)⟩
    case turn =>
      rintro i d v _ _ _ s' hi ⟨cp, hc, rfl⟩ ⟨t9, rfl⟩ ⟨rfl, hk, c, rfl, rfl⟩ S'
      clear S9
      have bd := ws_bounds (l.take i)
      have hll : (l.take i).length ≤ 1000 := by rw [List.length_take]; omega
      have e1 := ws_step l i hc hk
      (repeat walk_at "go1")
      refine wpAny_If ?_
      (repeat walk_at "go1")
      refine iteB (fun h1 => ?_) (fun h1 => ?_)
      · rw [teq] at h1
        obtain rfl := of_decide_eq_true h1
        (repeat walk_at "go1")
        rename St _ _ _ _ _ _ _ _ _ => S0
        refine ⟨_, _, _, S0.wk (vs' := [some (.val (.ref x)), some (.str (T l)), some (.str (T [32])), some (.str (T [9])), some (.val (.ref c)), some (.int ((ws (l.take i)).b + 1)), some (.int ((ws (l.take i)).n + 1)), some (.int (ws (l.take i)).nt), none]) (by repeat constructor), rfl, take_tabs l i hc hk (.inl rfl), c, ?_, ?_⟩
        · rw [e1]; rfl
        · rw [e1]; rfl
      · rw [teq] at h1
        have h1 := of_decide_eq_false h1
        (repeat walk_at "go1")
        refine wpAny_If ?_
        (repeat walk_at "go1")
        refine iteB (fun h2 => ?_) (fun h2 => ?_)
        · rw [teq] at h2
          obtain rfl := of_decide_eq_true h2
          (repeat walk_at "go1")
          refine cut_next (fun s' => ∃ c', St hL s0 F (callEnvC (fdAt w 59) L 59) [Str.ofString "self", Str.ofString "ws", Str.ofString "S", Str.ofString "T", Str.ofString "count", Str.ofString "b", Str.ofString "n", Str.ofString "nt", Str.ofString "ch"]
            [some (.val (.ref x)), some (.str (T l)), some (.str (T [32])), some (.str (T [9])), some (.val (.ref c')), some (.int (ws (l.take i)).b), some (.int ((ws (l.take i)).n + 1)), some (.int ((ws (l.take i)).nt + 1)), none]
            [(c', LO (nD ((ws (l.take i)).count ++ List.replicate ((ws (l.take i)).b + 1 - (ws (l.take i)).count.length) 0))), (I, SI ty (T l) (i + 1)), (x, IN 104 dx), (dx, DI [(Str.ofString "raw", D.str (T l))])] [] s') ?_ ?_
          · refine wpAny_If ?_
            (repeat walk_at "go1")
            refine iteD (fun hb => ?_) (fun hb => ?_)
            · rw [nD_length] at hb
              (repeat walk_at "go1")
              rename St _ _ _ _ _ _ _ _ _ => S0
              refine b_rep S0 (by walk_at "kn") (by rw [nD_length]; omega) (by rw [nD_length]; omega) (by rw [nD_length]; simp; omega) ?_
              clear S0; intro c1 s9 n9 S9
              rename St _ _ _ _ _ _ _ _ _ => S0
              refine b_cat S0 (ds := nD (ws (l.take i)).count) (by walk_at "kn") (by walk_at "kn") (by rw [nD_rep, nD_length, nD_length]; simp [sizeLine]; omega) ?_
              clear S0; intro c2 s9 n9 S9
              (repeat walk_at "go1")
              rename St _ _ _ _ _ _ _ _ _ => S0
              refine ⟨rfl, c2, ?_⟩
              have e : nD (ws (l.take i)).count ++ (List.replicate ((ws (l.take i)).b - (nD (ws (l.take i)).count).length + 1 : Int).toNat [D.int 0]).flatten = nD ((ws (l.take i)).count ++ List.replicate ((ws (l.take i)).b + 1 - (ws (l.take i)).count.length) 0) := by
                rw [nD_append, nD_rep, nD_length]; congr 3; omega
              rw [e] at S0
              exact (S0.wk (by repeat constructor)).sel (by with_reducible repeat constructor)
            · rw [nD_length] at hb
              (repeat walk_at "go1")
              rename St _ _ _ _ _ _ _ _ _ => S0
              refine ⟨rfl, c, ?_⟩
              have e : (ws (l.take i)).b + 1 - (ws (l.take i)).count.length = 0 := by omega
              rw [e, List.replicate_zero, List.append_nil]
              exact (S0.wk (by repeat constructor)).sel (by with_reducible repeat constructor)
          · rintro s9 ⟨c', S9⟩
            have hbl : (ws (l.take i)).b < ((ws (l.take i)).count ++ List.replicate ((ws (l.take i)).b + 1 - (ws (l.take i)).count.length) 0).length := by simp; omega
            have hln : ((ws (l.take i)).count ++ List.replicate ((ws (l.take i)).b + 1 - (ws (l.take i)).count.length) 0).length ≤ 1001 := by simp; omega
            have hbs := bump_set (ws (l.take i)).count (ws (l.take i)).b
            generalize (ws (l.take i)).count ++ List.replicate ((ws (l.take i)).b + 1 - (ws (l.take i)).count.length) 0 = cn at S9 hbl hbs hln
            (repeat walk_at "go1")
            rename St _ _ _ _ _ _ _ _ _ => S0
            refine l_set S0 (by with_reducible repeat constructor) okI (by omega) (by omega) (by rw [nD_length]; omega) ?_
            clear S0; intro s9 S9
            (repeat walk_at "go1")
            rename St _ _ _ _ _ _ _ _ _ => S0
            rw [Int.toNat_natCast, nD_set, ← hbs] at S0
            refine ⟨_, _, _, (S0.wk (vs' := [some (.val (.ref x)), some (.str (T l)), some (.str (T [32])), some (.str (T [9])), some (.val (.ref c')), some (.int 0), some (.int ((ws (l.take i)).n + 1)), some (.int ((ws (l.take i)).nt + 1)), none]) (by repeat constructor)).sel (nw' := [(I, SI ty (T l) (i + 1)), (c', LO (nD (bump (ws (l.take i)).count (ws (l.take i)).b))), (x, IN 104 dx), (dx, DI [(Str.ofString "raw", D.str (T l))])]) (by with_reducible repeat constructor), rfl, take_tabs l i hc hk (.inr rfl), c', ?_, ?_⟩
            · rw [e1]; rfl
            · rw [e1]; rfl
        · rw [teq] at h2
          have h2 := of_decide_eq_false h2
          (repeat walk_at "go1")
          rename St _ _ _ _ _ _ _ _ _ => S0
          refine ⟨rfl, c, ?_⟩
          rw [ws_stop l i hc hk h1 h2]
          exact (S0.tail).wk (by repeat constructor)
  · rintro s' ⟨c, S'⟩
    clear S0
    have bd := ws_bounds l
    (repeat walk_at "go1")
    ((with_reducible show wpAny _ _ (setAttr (.ref _) ..) ..); rename St .. => S0; refine' a_set ‹Lb ..› S0 ?k1 ?k2 ?k3 ?k4 ?k6 ?k5 ?_; (case k6 => first | exact okI | exact okS | exact okV); (case k1 => walk_at "kn"); (case k2 => with_reducible repeat constructor); (case k3 => kernel_rfl); (case k4 => kernel_rfl); (case k5 => kernel_rfl); clear S0; intro s9 S9; (try simp only [List.nil_append, List.cons_append] at S9))
    (repeat walk_at "go1")
    ((with_reducible show wpAny _ _ (setAttr (.ref _) ..) ..); rename St .. => S0; refine' a_set ‹Lb ..› S0 ?k1 ?k2 ?k3 ?k4 ?k6 ?k5 ?_; (case k6 => first | exact okI | exact okS | exact okV); (case k1 => walk_at "kn"); (case k2 => with_reducible repeat constructor); (case k3 => kernel_rfl); (case k4 => kernel_rfl); (case k5 => kernel_rfl); clear S0; intro s9 S9; (try simp only [List.nil_append, List.cons_append] at S9))
    (repeat walk_at "go1")
    rename St _ _ _ _ _ _ _ _ _ => S0
    refine f_tuple S0 (by walk_at "kn") (by walk_at "sz") ?_
    clear S0; intro ax s9 n9 S9
    (repeat walk_at "go1")
    ((with_reducible show wpAny _ _ (setAttr (.ref _) ..) ..); rename St .. => S0; refine' a_set ‹Lb ..› S0 ?k1 ?k2 ?k3 ?k4 ?k6 ?k5 ?_; (case k6 => first | exact okI | exact okS | exact okV); (case k1 => walk_at "kn"); (case k2 => with_reducible repeat constructor); (case k3 => kernel_rfl); (case k4 => kernel_rfl); (case k5 => kernel_rfl); clear S0; intro s9 S9; (try simp only [List.nil_append, List.cons_append] at S9))
    (repeat walk_at "go1")
    ((with_reducible show wpAny _ _ (setAttr (.ref _) ..) ..); rename St .. => S0; refine' a_set ‹Lb ..› S0 ?k1 ?k2 ?k3 ?k4 ?k6 ?k5 ?_; (case k6 => first | exact okI | exact okS | exact okV); (case k1 => walk_at "kn"); (case k2 => with_reducible repeat constructor); (case k3 => kernel_rfl); (case k4 => kernel_rfl); (case k5 => kernel_rfl); clear S0; intro s9 S9; (try simp only [List.nil_append, List.cons_append] at S9))
    (repeat walk_at "go1")
    rename St _ _ _ _ _ _ _ _ _ => S0
    have e : decide (((nD (ws l).count).length : Int) ≤ 1) = decide ((ws l).count.length ≤ 1) := by rw [nD_length]; exact decide_eq_decide.mpr (by omega)
    rw [e] at S0
    exact h _ _ _ S0.out ⟨S0.get (.inr (.tail _ (.tail _ (.tail _ (.head _))))), S0.get (.inr (.tail _ (.tail _ (.tail _ (.tail _ (.head _)))))), S0.get (.inr (.head _)), S0.get (.inr (.tail _ (.head _)))⟩ (S0.led _ (.head _)).2.1 (S0.led _ (.tail _ (.head _))).2.1

theorem c_ws {w : World} {hL : Heap} {mg mb : Str → Option Value} (B : Lb w hL mg mb) {prog : Program} {A : Around} {E : Value → Shared → Prop} {Q : Value → Shared → Prop} {s : Shared} {l : List Nat} {t : Tok} (R : Rm 3 A) (P : Pr hL s) (hl : l.length ≤ 1000)
    (h : ∀ x dx tx ax s', Ext s s' → WsA s'.heap.get? x dx tx ax l → s.heap.get? x = none → s.heap.get? dx = none → s.heap.get? tx = none → s.heap.get? ax = none → Q (.ref x) s') : wpAny (model prog w) A (call (.ref 104) [.str (T l) t]) Q E s := by
  have X : (KH w).In s.heap := fun a o e => P.1 a o (B.K a o e)
  have none_ge : ∀ b, s.heap.objs.size ≤ b → s.heap.get? b = none := fun b hb => by
    cases q : s.heap.get? b with
    | none => rfl
    | some o' => exact absurd (Heap.lt_size q) (Nat.not_lt.mpr hb)
  obtain ⟨hp, g, d, tk, os⟩ := s
  refine wpAny_call (make_core (init := .ref 59) (makes_of X (by kernel_rfl)) (looks_findIn X (by kernel_rfl)) (fun self => bind_fn X self (by kernel_rfl)) (.inl rfl) ?_)
  have hx : ((hp.push emptyDict).push (instObj 104 hp.objs.size)).get? (hp.objs.size + 1) = some (instObj 104 hp.objs.size) := by
    have := Heap.get?_push_size (o := instObj 104 hp.objs.size) (hp.push emptyDict) rfl
    rwa [Heap.size_push] at this
  have hd : ((hp.push emptyDict).push (instObj 104 hp.objs.size)).get? hp.objs.size = some emptyDict := Heap.get?_push_of_some _ (Heap.get?_push_size _ rfl)
  have r1 : Rm 1 (A.under (.builtin "type.__call__" ⟨[.ref 104, .str (T l) t], []⟩)) := by
    refine ⟨R.h, ?_, ?_⟩
    · have := R.d
      show A.depth + _ + 1 < _
      have e : (Code.builtin "type.__call__" ⟨[.ref 104, .str (T l) t], []⟩).weight = 1 := rfl
      rw [e]; omega
    · have := R.u
      show A.units + _ + 8 * 1 < _
      have e : (Code.builtin "type.__call__" ⟨[.ref 104, .str (T l) t], []⟩).cUnits ≤ 8 := Nat.le_of_lt_succ (of_decide_eq_true (by rfl))
      omega
  refine c_init B (s0 := ⟨hp, g, d, tk, os⟩) (F := hp.get?) r1 P.1 (fun _ _ e => e) (fun b o e => Heap.get?_push_of_some _ (Heap.get?_push_of_some _ e)) (fun p hp' => ?_) (Nat.succ_ne_self _) (fun _ _ e => e) rfl P.2 hl (fun tx ax s' E W h1 h2 => ?_)
  · rcases List.mem_cons.mp hp' with rfl | hp'
    · exact ⟨⟨_, hx, rfl⟩, none_ge _ (Nat.le_succ _)⟩
    · obtain rfl := List.mem_singleton.mp hp'
      exact ⟨⟨_, hd, [], 0, rfl, .nil⟩, none_ge _ (Nat.le_refl _)⟩
  · exact ⟨rfl, h _ _ tx ax s' E W (none_ge _ (Nat.le_succ _)) (none_ge _ (Nat.le_refl _)) h1 h2⟩


theorem c_longest {w : World} {hL : Heap} {mg mb : Str → Option Value} (B : Lb w hL mg mb) {prog : Program} {A : Around} {E : Value → Shared → Prop} {Q : Value → Shared → Prop} {s : Shared} {x dx tx ax : Addr} {l : List Nat} (R : Rm 1 A) (P : Pr hL s) (W : WsA s.heap.get? x dx tx ax l) (hl : l.length ≤ 1000)
    (h : ∀ t s', Ext s s' → Q (.int (max ((ws l).count.length - 1 : Int) (ws l).b) t) s') : wpAny (model prog w) A (call (.ref 66) [.ref x]) Q E s := by
  refine enterF B (ds := [.val (.ref x)]) [Str.ofString "self"] [Str.ofString "count", Str.ofString "trailing"] [Str.ofString "self", Str.ofString "count", Str.ofString "trailing"] [some (.val (.ref x)), none, none] P rfl rfl (by kernel_rfl) (by kernel_rfl) (by have := R.d; omega) rfl (by kernel_rfl) (by kernel_rfl) rfl (.cons rfl .nil) (by kernel_rfl) (by kernel_rfl) (by kernel_rfl) (by kernel_rfl) ?_
  intro L s₁ hLn S
  have R1 := R.deeper (env := callEnvC (fdAt w 66) L 66)
  generalize A.deeper (callEnvC (fdAt w 66) L 66) = A1 at R1 ⊢
  conv in bodOf _ => whnf
  have W1 := W.i
  have W2 : Bs s.heap.get? dx (DI [(Str.ofString "raw", .str (T l)), (Str.ofString "n", .int (ws l).n), (Str.ofString "nt", .int (ws l).nt), (Str.ofString "norm", .val (.ref tx)), (Str.ofString "is_simple", .val (.bool (decide ((ws l).count.length ≤ 1))))]) := W.d
  have W3 := W.t
  have W4 := W.a
  have bd := ws_bounds l
  (repeat walk_at "go1")
  refine Assign_Tuple ?_ rfl rfl
  (repeat walk_at "go1")
  rename St _ _ _ _ _ _ _ _ _ => S0
  refine as_tuple2 S0 R1.h (.inl W3) (by with_reducible repeat constructor) (by with_reducible repeat constructor) ?_
  clear S0; intro s9 S9
  (repeat walk_at "go1")
  rename St _ _ _ _ _ _ _ _ _ => S0
  refine f_max2 S0 R1.h ?_
  intro t s' S'
  have := h t s' S'.out
  rw [nD_length]; exact this

noncomputable def ilGo (c : List Nat) (k : Nat) : Nat → Nat
  | 0 => 0
  | j + 1 => ilGo c k j + (k + j) / k * c.getD (k + j) 0
noncomputable def ilev (l : List Nat) (k : Nat) : Nat := (ws l).b + k * (ilGo (ws l).count k ((ws l).count.length - k) + (ws l).nt)

theorem c_level {w : World} {hL : Heap} {mg mb : Str → Option Value} (B : Lb w hL mg mb) {prog : Program} {A : Around} {E : Value → Shared → Prop} {Q : Value → Shared → Prop} {s : Shared} {x dx tx ax : Addr} {l : List Nat} {k : Nat} {t : Tok} (R : Rm 1 A) (P : Pr hL s) (W : WsA s.heap.get? x dx tx ax l) (hl : l.length ≤ 1000) (hk : 1 ≤ k) (hk' : k ≤ 1000)
    (h : ∀ t s', Ext s s' → Q (.int (ilev l k : Nat) t) s') : wpAny (model prog w) A (call (.ref 73) [.ref x, .int k t]) Q E s := by
  refine enterF B (ds := [.val (.ref x), .int k]) [Str.ofString "self", Str.ofString "tabsize"] [Str.ofString "count", Str.ofString "trailing", Str.ofString "il", Str.ofString "i"] [Str.ofString "self", Str.ofString "tabsize", Str.ofString "count", Str.ofString "trailing", Str.ofString "il", Str.ofString "i"] [some (.val (.ref x)), some (.int k), none, none, none, none] P rfl rfl (by kernel_rfl) (by kernel_rfl) (by have := R.d; omega) rfl (by kernel_rfl) (by kernel_rfl) rfl (.cons rfl (.cons ⟨_, rfl⟩ .nil)) (by kernel_rfl) (by kernel_rfl) (by kernel_rfl) (by kernel_rfl) ?_
  intro L s₁ hLn S
  have R1 := R.deeper (env := callEnvC (fdAt w 73) L 73)
  generalize A.deeper (callEnvC (fdAt w 73) L 73) = A1 at R1 ⊢
  conv in bodOf _ => whnf
  have W1 := W.i
  have W2 : Bs s.heap.get? dx (DI [(Str.ofString "raw", .str (T l)), (Str.ofString "n", .int (ws l).n), (Str.ofString "nt", .int (ws l).nt), (Str.ofString "norm", .val (.ref tx)), (Str.ofString "is_simple", .val (.bool (decide ((ws l).count.length ≤ 1))))]) := W.d
  have W3 := W.t
  have W4 := W.a
  have bd := ws_bounds l
  (repeat walk_at "go1")
  refine Assign_Tuple ?_ rfl rfl
  (repeat walk_at "go1")
  rename St _ _ _ _ _ _ _ _ _ => S0
  refine as_tuple2 S0 R1.h (.inl W3) (by with_reducible repeat constructor) (by with_reducible repeat constructor) ?_
  clear S0; intro s9 S9
  (repeat walk_at "go1")
  refine cut_next (fun s' => St hL s s.heap.get? (callEnvC (fdAt w 73) L 73) [Str.ofString "self", Str.ofString "tabsize", Str.ofString "count", Str.ofString "trailing", Str.ofString "il", Str.ofString "i"]
    [some (.val (.ref x)), some (.int k), some (.val (.ref ax)), some (.int (ws l).b), some (.int (ilGo (ws l).count k ((ws l).count.length - k) : Nat)), none] [] [] s') ?_ ?_
  · refine wpAny_For ?_ (by intro _; rfl)
    (repeat walk_at "go1")
    rename St _ _ _ _ _ _ _ _ _ => S0
    refine f_range2 S0 ?_
    clear S0; intro r s9 S9
    rw [nD_length] at S9
    refine i_range S9 (by omega) (by omega) ?_
    clear S9; intro I s9 it S9
    have en : ((((ws l).count.length : Nat) : Int) - (k : Int)).toNat = (ws l).count.length - k := by omega
    rw [en] at it S9
    refine for_core it R1.h S9 (fun i F' vs' nw' => s.heap.get? = F' ∧ vs' = [some (.val (.ref x)), some (.int k), some (.val (.ref ax)), some (.int (ws l).b), some (.int (ilGo (ws l).count k i : Nat)), none] ∧ nw' = []) ⟨rfl, rfl, rfl⟩ (fun _ _ _ _ _ _ _ => trivial) (fun v s Q E _ h => wpAny_pure h) ?turn ?done (fun _ _ h => h)
    case done =>
      rintro _ _ _ s' ⟨rfl, rfl, rfl⟩ S'
      exact ⟨rfl, S'⟩
    case turn =>
      rintro i d v _ _ _ s' hi rfl ⟨t9, rfl⟩ ⟨rfl, rfl, rfl⟩ S'
      clear S9
      (repeat walk_at "go1")
      rename St _ _ _ _ _ _ _ _ _ => S0
      have hlt : k + i < (ws l).count.length := by omega
      refine t_get S0 (d := .int ((ws l).count.getD (k + i) 0 : Nat)) (.inl W4) (by omega) (by omega) ?_ ?_ (by with_unfolding_all rfl)
      · have e2 : ((k : Int) + i).toNat = k + i := by omega
        rw [e2, nD_get, List.getElem?_eq_getElem hlt, List.getD_eq_getElem?_getD, List.getElem?_eq_getElem hlt]; rfl
      (first | (refine opI ?_; intro _) | (refine opS ?_; intro _) | refine opV ?_)
      have e1 : ((k : Int) + i).fdiv k = (((k + i) / k : Nat) : Int) := by
        rw [Int.fdiv_eq_ediv_of_nonneg _ (by omega), Int.natCast_ediv, Int.natCast_add]
      have e3 := Nat.div_le_self (k + i) k
      rw [e1]
      obtain ⟨q, hq⟩ : ∃ q, q = (k + i) / k := ⟨_, rfl⟩
      rw [← hq] at e3 ⊢
      (repeat walk_at "go1")
      rename St _ _ _ _ _ _ _ _ _ => S0
      refine ⟨_, _, _, S0.wk (vs' := [some (.val (.ref x)), some (.int k), some (.val (.ref ax)), some (.int (ws l).b), some (.int ((ilGo (ws l).count k i : Nat) + (q : Int) * ((ws l).count.getD (k + i) 0 : Nat))), none]) (by repeat constructor), rfl, ?_, rfl⟩
      have e4 : ((ilGo (ws l).count k (i + 1) : Nat) : Int) = (ilGo (ws l).count k i : Nat) + (q : Int) * ((ws l).count.getD (k + i) 0 : Nat) := by
        simp [ilGo, hq]
      rw [e4]
  · intro s' S'
    (repeat walk_at "go1")
    rename St _ _ _ _ _ _ _ _ _ => S0
    have e4 : ((ilev l k : Nat) : Int) = (ws l).b + k * ((ilGo (ws l).count k ((ws l).count.length - k) : Nat) + (ws l).nt) := by
      simp [ilev]
    have := fun t => h t _ S0.out
    rw [e4] at this
    exact this _


noncomputable def collOf (a b : List Nat) : Int := b2i (decide (b < a)) - b2i (decide (a < b))
theorem c_coll {w : World} {hL : Heap} {mg mb : Str → Option Value} (B : Lb w hL mg mb) {prog : Program} {A : Around} {E : Value → Shared → Prop} {Q : Value → Shared → Prop} {s : Shared} {a b : List Nat} {t u : Tok} (R : Rm 1 A) (P : Pr hL s) (h : ∀ t s', Ext s s' → Q (.int (collOf a b) t) s') : wpAny (model prog w) A (call (.ref 28) [.str (T a) t, .str (T b) u]) Q E s := by
  refine enterF B (ds := [.str (T a), .str (T b)]) [Str.ofString "a", Str.ofString "b"] [] [Str.ofString "a", Str.ofString "b"] [some (.str (T a)), some (.str (T b))] P rfl rfl (by kernel_rfl) (by kernel_rfl) (by have := R.d; omega) rfl (by kernel_rfl) (by kernel_rfl) rfl (.cons ⟨_, rfl⟩ (.cons ⟨_, rfl⟩ .nil)) (by kernel_rfl) (by kernel_rfl) (by kernel_rfl) (by kernel_rfl) ?_
  intro L s₁ hLn S
  have R1 := R.deeper (env := callEnvC (fdAt w 28) L 28)
  generalize A.deeper (callEnvC (fdAt w 28) L 28) = A1 at R1 ⊢
  conv in bodOf _ => whnf
  (repeat walk_at "go1")
  rename St _ _ _ _ _ _ _ _ _ => S0
  exact h _ _ S0.out
theorem c_xfrm {w : World} {hL : Heap} {mg mb : Str → Option Value} (B : Lb w hL mg mb) {prog : Program} {A : Around} {E : Value → Shared → Prop} {Q : Value → Shared → Prop} {s : Shared} {a : List Nat} {t : Tok} (R : Rm 1 A) (P : Pr hL s) (h : ∀ t s', Ext s s' → Q (.str (T a) t) s') : wpAny (model prog w) A (call (.ref 35) [.str (T a) t]) Q E s := by
  refine enterF B (ds := [.str (T a)]) [Str.ofString "s"] [] [Str.ofString "s"] [some (.str (T a))] P rfl rfl (by kernel_rfl) (by kernel_rfl) (by have := R.d; omega) rfl (by kernel_rfl) (by kernel_rfl) rfl (.cons ⟨_, rfl⟩ .nil) (by kernel_rfl) (by kernel_rfl) (by kernel_rfl) (by kernel_rfl) ?_
  intro L s₁ hLn S
  have R1 := R.deeper (env := callEnvC (fdAt w 35) L 35)
  generalize A.deeper (callEnvC (fdAt w 35) L 35) = A1 at R1 ⊢
  conv in bodOf _ => whnf
  (repeat walk_at "go1")
  rename St _ _ _ _ _ _ _ _ _ => S0
  exact h _ _ S0.out

noncomputable def figR : Nat → List Nat → List Nat
  | _, [] => []
  | n, g :: gs => n % (g + 1) :: figR (n / (g + 1)) gs
noncomputable def quoR : Nat → List Nat → Nat
  | n, [] => n
  | n, g :: gs => quoR (n / (g + 1)) gs
noncomputable def figs (n : Nat) (gaps : List Nat) : List Nat := (figR n gaps.reverse).reverse
theorem figR_snoc (n : Nat) (l : List Nat) (g : Nat) : figR n (l ++ [g]) = figR n l ++ [quoR n l % (g + 1)] := by
  induction l generalizing n with
  | nil => rfl
  | cons a l ih => simp only [List.cons_append, figR, quoR]; rw [ih]
theorem quoR_snoc (n : Nat) (l : List Nat) (g : Nat) : quoR n (l ++ [g]) = quoR n l / (g + 1) := by
  induction l generalizing n with
  | nil => rfl
  | cons a l ih => simp only [List.cons_append, quoR]; rw [ih]
theorem figR_length (n : Nat) (l : List Nat) : (figR n l).length = l.length := by
  induction l generalizing n with
  | nil => rfl
  | cons a l ih => simp only [figR, List.length_cons, ih]

theorem c_figs {w : World} {hL : Heap} {mg mb : Str → Option Value} (B : Lb w hL mg mb) {prog : Program} {A : Around} {E : Value → Shared → Prop} {Q : Value → Shared → Prop} {s : Shared} {n : Nat} {t : Tok} {ga : Addr} {gaps : List Nat} (R : Rm 1 A) (P : Pr hL s) (hg : Bs s.heap.get? ga (LO (nD gaps))) (hlen : gaps.length ≤ 1000) (hgs : ∀ g ∈ gaps, g ≤ 1000)
    (h : ∀ a s', Ext s s' → s.heap.get? a = none → Bs s'.heap.get? a (LO (nD (figs n gaps))) → Q (.ref a) s') : wpAny (model prog w) A (call (.ref 127) [.int n t, .ref ga]) Q E s := by
  refine enterF B (ds := [.int n, .val (.ref ga)]) [Str.ofString "number", Str.ofString "gaps"] [Str.ofString "figures", Str.ofString "gap"] [Str.ofString "number", Str.ofString "gaps", Str.ofString "figures", Str.ofString "gap"] [some (.int n), some (.val (.ref ga)), none, none] P rfl rfl (by kernel_rfl) (by kernel_rfl) (by have := R.d; omega) rfl (by kernel_rfl) (by kernel_rfl) rfl (.cons ⟨_, rfl⟩ (.cons rfl .nil)) (by kernel_rfl) (by kernel_rfl) (by kernel_rfl) (by kernel_rfl) ?_
  intro L s₁ hLn S
  have R1 := R.deeper (env := callEnvC (fdAt w 127) L 127)
  generalize A.deeper (callEnvC (fdAt w 127) L 127) = A1 at R1 ⊢
  conv in bodOf _ => whnf
  (repeat walk_at "go1")
  rename St _ _ _ _ _ _ _ _ _ => S0
  rename Addr => fa
  refine cut_next (fun s' => St hL s s.heap.get? (callEnvC (fdAt w 127) L 127) [Str.ofString "number", Str.ofString "gaps", Str.ofString "figures", Str.ofString "gap"] [none, none, some (.val (.ref fa)), none] [(fa, LO (nD (figR n gaps.reverse)))] [] s') ?_ ?_
  · refine wpAny_For ?_ (by intro _; rfl)
    (repeat walk_at "go1")
    rename St _ _ _ _ _ _ _ _ _ => S0
    refine ls_rev S0 (.inl hg) (by rw [nD_length]; simp [sizeLine]; omega) ?_
    clear S0; intro rl s9 S9
    rw [nD_reverse] at S9
    refine i_list S9 (ds := nD gaps.reverse) (by walk_at "kn") ?_
    clear S9; intro I s9 it S9
    rw [nD_length] at it
    refine for_core it R1.h S9 (fun i F' vs' nw' => s.heap.get? = F' ∧ vs' = [some (.int (quoR n (gaps.reverse.take i) : Nat)), some (.val (.ref ga)), some (.val (.ref fa)), none] ∧ nw' = [(rl, LO (nD gaps.reverse)), (fa, LO (nD (figR n (gaps.reverse.take i))))]) ⟨rfl, rfl, rfl⟩ ?side (fun v s Q E _ h => wpAny_pure h) ?turn ?done (fun _ _ h => h)
    case side =>
      rintro i _ _ _ s' ⟨rfl, rfl, rfl⟩ S'
      exact S'.get (by walk_at "kn")
    case done =>
      rintro _ _ _ s' ⟨rfl, rfl, rfl⟩ S'
      rw [List.take_length] at S'
      exact ⟨rfl, (S'.wk (by repeat constructor)).sel (by with_reducible repeat constructor)⟩
    case turn =>
      rintro i d v _ _ _ s' hi hV ok ⟨rfl, rfl, rfl⟩ S'
      clear S9
      rw [nD_get] at hV
      obtain ⟨g, hg1, rfl⟩ := Option.map_eq_some_iff.mp hV
      obtain ⟨t9, rfl⟩ := ok
      have hmem : g ∈ gaps := List.mem_reverse.mp (List.mem_of_getElem? hg1)
      have hgb := hgs g hmem
      have hfl := figR_length n (gaps.reverse.take i)
      rw [List.length_take] at hfl
      have hsz : (nD (figR n (gaps.reverse.take i))).length ≤ 1000 := by rw [nD_length, hfl, List.length_reverse]; omega
      (repeat walk_at "go1")
      rename St _ _ _ _ _ _ _ _ _ => S0
      have hk : ((quoR n (gaps.reverse.take i) : Nat) : Int).fmod ((g : Int) + 1) = ((quoR n (gaps.reverse.take i) % (g + 1) : Nat) : Int) := by rw [Int.fmod_eq_emod_of_nonneg _ (by omega), Int.natCast_emod, Int.natCast_add]; rfl
      have hq : ((quoR n (gaps.reverse.take i) : Nat) : Int).fdiv ((g : Int) + 1) = ((quoR n (gaps.reverse.take i) / (g + 1) : Nat) : Int) := by rw [Int.fdiv_eq_ediv_of_nonneg _ (by omega), Int.natCast_ediv, Int.natCast_add]; rfl
      rw [hk, hq, ← quoR_snoc, ← take_snoc _ _ hg1] at S0
      have e : nD (figR n (gaps.reverse.take i)) ++ [D.int ((quoR n (gaps.reverse.take i) % (g + 1) : Nat) : Int)] = nD (figR n (gaps.reverse.take (i + 1))) := by rw [take_snoc _ _ hg1, figR_snoc, nD_append]; rfl
      rw [e] at S0
      exact ⟨_, _, _, S0.wk (by repeat constructor), rfl, rfl, rfl⟩
  · intro s' S'
    clear S0
    (repeat walk_at "go1")
    rename St _ _ _ _ _ _ _ _ _ => S0
    refine ls_rev S0 (by walk_at "kn") (by rw [nD_length, figR_length, List.length_reverse]; have := szl; omega) ?_
    clear S0; intro rl s9 S9
    rw [nD_reverse, show (figR n gaps.reverse).reverse = figs n gaps from rfl] at S9
    exact h _ _ S9.out (S9.new (by with_reducible repeat first | exact List.mem_cons_self | apply List.mem_cons_of_mem)) (S9.bs (by with_reducible repeat first | exact List.mem_cons_self | apply List.mem_cons_of_mem))



noncomputable def rnS (fs gs : List Nat) : Nat → List Nat × Nat
  | 0 => ([], 0)
  | i + 1 => if fs.getD i 0 < gs.getD i 0 then ((rnS fs gs i).1 ++ [(rnS fs gs i).2 + fs.getD i 0], 0) else ((rnS fs gs i).1, (rnS fs gs i).2 + fs.getD i 0)
theorem rnS_len (fs gs : List Nat) (i : Nat) : (rnS fs gs i).1.length ≤ i := by
  induction i with
  | zero => exact Nat.le_refl 0
  | succ i ih =>
    rw [rnS]; split
    · simp; omega
    · exact Nat.le_succ_of_le ih
noncomputable def shutOf (fs gs : List Nat) : List Nat := (rnS fs gs gs.length).1
noncomputable def openOf (fs gs : List Nat) (k : Nat) : Nat := (rnS fs gs gs.length).2 + k

theorem c_runs {w : World} {hL : Heap} {mg mb : Str → Option Value} (B : Lb w hL mg mb) {prog : Program} {A : Around} {E : Value → Shared → Prop} {Q : Value → Shared → Prop} {s : Shared} {fa ga : Addr} {t : Tok} {fs gs l : List Nat} (R : Rm 1 A) (P : Pr hL s) (hf : Bs s.heap.get? fa (LO (nD fs))) (hg : Bs s.heap.get? ga (LO (nD gs))) (hfg : fs.length = gs.length) (hlen : gs.length ≤ 1000) (hl : l.length ≤ 1000)
    (h : ∀ a s', Ext s s' → s.heap.get? a = none → Bs s'.heap.get? a (LO (nD (shutOf fs gs ++ [openOf fs gs l.length]))) → Q (.ref a) s') : wpAny (model prog w) A (call (.ref 144) [.ref fa, .ref ga, .str (T l) t]) Q E s := by
  refine enterF B (ds := [.val (.ref fa), .val (.ref ga), .str (T l)]) [Str.ofString "figures", Str.ofString "gaps", Str.ofString "left"] [Str.ofString "runs", Str.ofString "k"] [Str.ofString "figures", Str.ofString "gaps", Str.ofString "left", Str.ofString "runs", Str.ofString "k"] [some (.val (.ref fa)), some (.val (.ref ga)), some (.str (T l)), none, none] P rfl rfl (by kernel_rfl) (by kernel_rfl) (by have := R.d; omega) rfl (by kernel_rfl) (by kernel_rfl) rfl (.cons rfl (.cons rfl (.cons ⟨_, rfl⟩ .nil))) (by kernel_rfl) (by kernel_rfl) (by kernel_rfl) (by kernel_rfl) ?_
  intro L s₁ hLn S
  have R1 := R.deeper (env := callEnvC (fdAt w 144) L 144)
  generalize A.deeper (callEnvC (fdAt w 144) L 144) = A1 at R1 ⊢
  conv in bodOf _ => whnf
  (repeat walk_at "go1")
  rename St _ _ _ _ _ _ _ _ _ => S0
  rename Addr => ra
  refine cut_next (fun s' => St hL s s.heap.get? (callEnvC (fdAt w 144) L 144) [Str.ofString "figures", Str.ofString "gaps", Str.ofString "left", Str.ofString "runs", Str.ofString "k"] [none, none, some (.str (T l)), some (.val (.ref ra)), none] [(ra, LO (nD (rnS fs gs gs.length).1 ++ [.int ((rnS fs gs gs.length).2 : Nat)]))] [] s') ?_ ?_
  · refine wpAny_For ?_ (by intro _; rfl)
    (repeat walk_at "go1")
    rename St _ _ _ _ _ _ _ _ _ => S0
    refine f_range1 S0 ?_
    clear S0; intro r s9 S9
    rw [nD_length] at S9
    refine i_range S9 (by omega) (by omega) ?_
    clear S9; intro I s9 it S9
    have en : ((gs.length : Int) - 0).toNat = gs.length := by omega
    rw [en] at it S9
    refine for_core it R1.h S9 (fun i F' vs' nw' => s.heap.get? = F' ∧ vs' = [some (.val (.ref fa)), some (.val (.ref ga)), some (.str (T l)), some (.val (.ref ra)), none] ∧ nw' = [(ra, LO (nD (rnS fs gs i).1 ++ [.int ((rnS fs gs i).2 : Nat)]))]) ⟨rfl, rfl, rfl⟩ (fun _ _ _ _ _ _ _ => trivial) (fun v s Q E _ h => wpAny_pure h) ?turn ?done (fun _ _ h => h)
    case done =>
      rintro _ _ _ s' ⟨rfl, rfl, rfl⟩ S'
      exact ⟨rfl, (S'.wk (by repeat constructor))⟩
    case turn =>
      rintro i d v _ _ _ s' hi rfl ⟨t9, rfl⟩ ⟨rfl, rfl, rfl⟩ S'
      clear S9
      rw [Int.zero_add]
      have hrl := rnS_len fs gs i
      have hsz : (nD (rnS fs gs i).1).length ≤ 1000 := by rw [nD_length]; omega
      (repeat walk_at "go1")
      refine wpAny_If ?_
      (repeat walk_at "go1")
      refine iteD (fun h1 => ?_) (fun h1 => ?_)
      · (repeat walk_at "go1")
        rename St _ _ _ _ _ _ _ _ _ => S0
        refine ⟨_, _, _, S0.wk (by repeat constructor), rfl, rfl, ?_⟩
        rw [rnS, if_pos (by omega)]; simp
      · (repeat walk_at "go1")
        rename St _ _ _ _ _ _ _ _ _ => S0
        refine ⟨_, _, _, S0.wk (by repeat constructor), rfl, rfl, ?_⟩
        rw [rnS, if_neg (by omega)]; simp
  · intro s' S'
    clear S0
    (repeat walk_at "go1")
    rename St _ _ _ _ _ _ _ _ _ => S0
    have e : nD (rnS fs gs gs.length).1 ++ [D.int (((rnS fs gs gs.length).2 : Nat) + (l.length : Nat))] = nD (shutOf fs gs ++ [openOf fs gs l.length]) := by rw [nD_one]; simp [openOf, shutOf]
    rw [e] at S0
    exact h _ _ S0.out (S0.new (by with_reducible repeat first | exact List.mem_cons_self | apply List.mem_cons_of_mem)) (S0.bs (by with_reducible repeat first | exact List.mem_cons_self | apply List.mem_cons_of_mem))


noncomputable def ldP (fs gs : List Nat) (i : Nat) : List Nat := List.replicate (fs.getD i 0) 32 ++ [9].take (gs.getD i 0 - fs.getD i 0)
noncomputable def leadOf (fs gs : List Nat) : List Nat := ((List.range gs.length).map (ldP fs gs)).flatten
theorem ld_len (fs gs : List Nat) (hle : ∀ i, fs.getD i 0 ≤ gs.getD i 0) (hgs : ∀ i, gs.getD i 0 ≤ 10) (n : Nat) : ((List.range n).map (ldP fs gs)).flatten.length ≤ 11 * n := by
  induction n with
  | zero => exact Nat.le_refl 0
  | succ n ih =>
    rw [List.range_succ, List.map_append, List.flatten_append, List.length_append]
    have h1 := hle n
    have h2 := hgs n
    have : ([ldP fs gs n].flatten).length ≤ 11 := by simp only [ldP, List.flatten_cons, List.flatten_nil, List.append_nil, List.length_append, List.length_replicate, List.length_take, List.length_cons, List.length_nil]; omega
    have e : List.map (ldP fs gs) [n] = [ldP fs gs n] := rfl
    rw [e]; omega
theorem flat_one (n k : Nat) : (List.replicate n [k]).flatten = List.replicate n k := by
  induction n with
  | zero => rfl
  | succ n ih => simp only [List.replicate_succ, List.flatten_cons, ih]; rfl

theorem c_lead {w : World} {hL : Heap} {mg mb : Str → Option Value} (B : Lb w hL mg mb) {prog : Program} {A : Around} {E : Value → Shared → Prop} {Q : Value → Shared → Prop} {s : Shared} {fa ga : Addr} {fs gs : List Nat} (R : Rm 1 A) (P : Pr hL s) (hf : Bs s.heap.get? fa (LO (nD fs))) (hg : Bs s.heap.get? ga (LO (nD gs))) (hfg : fs.length = gs.length) (hlen : gs.length ≤ 1000) (hle : ∀ i, fs.getD i 0 ≤ gs.getD i 0) (hgs : ∀ i, gs.getD i 0 ≤ 10)
    (h : ∀ t s', Ext s s' → Q (.str (T (leadOf fs gs)) t) s') : wpAny (model prog w) A (call (.ref 132) [.ref fa, .ref ga]) Q E s := by
  refine enterF B (ds := [.val (.ref fa), .val (.ref ga)]) [Str.ofString "figures", Str.ofString "gaps"] [] [Str.ofString "figures", Str.ofString "gaps"] [some (.val (.ref fa)), some (.val (.ref ga))] P rfl rfl (by kernel_rfl) (by kernel_rfl) (by have := R.d; omega) rfl (by kernel_rfl) (by kernel_rfl) rfl (.cons rfl (.cons rfl .nil)) (by kernel_rfl) (by kernel_rfl) (by kernel_rfl) (by kernel_rfl) ?_
  intro L s₁ hLn S
  have R1 := R.deeper (env := callEnvC (fdAt w 132) L 132)
  generalize A.deeper (callEnvC (fdAt w 132) L 132) = A1 at R1 ⊢
  conv in bodOf _ => whnf
  (repeat walk_at "go1")
  refine r_listcomp (cl := [(Str.ofString "gaps", L + 2), (Str.ofString "figures", L + 1)]) (by kernel_rfl) rfl (by decide) ?_
  (repeat walk_at "go1")
  rename St _ _ _ _ _ _ _ _ _ => S0
  refine f_range1 S0 ?_
  clear S0; intro r s9 S9
  rw [nD_length] at S9
  refine i_range S9 (by omega) (by omega) ?_
  clear S9; intro I s9 it S9
  have en : ((gs.length : Int) - 0).toNat = gs.length := by omega
  rw [en] at it S9
  have k1 := comp_known S9 (Kn.bas hf)
  have k2 := comp_known S9 (Kn.bas hg)
  refine comp_end it R1.h S9 (by have := szl; omega) (fun _ _ => trivial) (by decide) rfl (by kernel_rfl) (by decide) (fun i nwc acc => nwc = [] ∧ acc = ((List.range i).map (ldP fs gs)).map fun l => D.str (T l)) ⟨rfl, rfl⟩ ?turn ?done
  case turn =>
    rintro i d nwc acc C D₀ s' hi rfl ⟨rfl, rfl⟩ hal S'
    have c1 := comp_cap S9 S' (Str.ofString "figures") (L + 1) (by with_reducible repeat constructor) (by kernel_rfl) (by kernel_rfl) (by kernel_rfl) (by kernel_rfl)
    have c2 := comp_cap S9 S' (Str.ofString "gaps") (L + 2) (by with_reducible repeat constructor) (by kernel_rfl) (by kernel_rfl) (by kernel_rfl) (by kernel_rfl)
    clear S9
    rw [Int.zero_add] at S' ⊢
    refine wpAny_tests_nil ?_
    rw [if_pos rfl]
    have b1 := hle i
    have b2 := hgs i
    (repeat walk_at "go1")
    rw [show Str.ofString " " = T [32] from rfl]
    (repeat walk_at "go1")
    rw [show Str.ofString "\t" = T [9] from rfl]
    rename St _ _ _ _ _ _ _ _ _ => S0
    refine ss_upto S0 (by omega) (by have := szl; simp; omega) ?_
    clear S0; intro t9 s9 S9
    rename_i t8 _
    have e1 : ((gs.getD i 0 : Nat) - (fs.getD i 0 : Nat) : Int).toNat = gs.getD i 0 - fs.getD i 0 := by omega
    rw [e1, flat_one]
    have b3 : ([9].take (gs.getD i 0 - fs.getD i 0)).length ≤ 1 := by simp; omega
    (repeat walk_at "go1")
    rename St _ _ _ _ _ _ _ _ _ => S0
    exact ⟨_, _, okS, S0, rfl, by rw [List.range_succ, List.map_append, List.map_append]; rfl⟩
  case done =>
    rintro nwc acc D₀ s' ⟨rfl, rfl⟩ hD S'
    clear S9
    rw [List.cons_append, List.nil_append] at S'
    (repeat walk_at "go1")
    rw [show Str.ofString "" = T [] from rfl]
    rename St _ _ _ _ _ _ _ _ _ => S0
    refine f_join S0 (by walk_at "kn") ?_ ?_
    · have := ld_len fs gs hle hgs gs.length
      omega
    clear S0; intro t9 s9 S9
    exact h _ _ S9.out


noncomputable def isEnd (sz : List Nat) (k : Nat) : Bool := decide (sz.getD k 0 ∈ [0, 127])
noncomputable def ends (sz : List Nat) : List Nat := (List.range sz.length).filter (isEnd sz)
noncomputable def e0 (sz : List Nat) : Nat := (ends sz ++ [sz.length]).getD 0 0
noncomputable def moreOf (sz : List Nat) : List Nat := if (sz.take (e0 sz + 1)).drop (e0 sz) = [0] then (sz.take (e0 sz)).drop ((sz.take (e0 sz)).length - 1) else [1]
noncomputable def gapsOf (sz : List Nat) (n : Nat) : List Nat := (sz.take (e0 sz) ++ (List.replicate n (moreOf sz)).flatten).take n
theorem ends_len (sz : List Nat) : (ends sz).length ≤ sz.length := Nat.le_trans (List.length_filter_le _ _) (Nat.le_of_eq List.length_range)
theorem e0_le (sz : List Nat) (h : sz.length ≤ 1000) : e0 sz ≤ 1000 := by
  unfold e0
  cases q : ends sz with
  | nil => exact h
  | cons k l =>
    have : k ∈ ends sz := by rw [q]; exact .head _
    have := List.mem_range.mp (List.mem_filter.mp this).1
    show k ≤ 1000
    omega
theorem nD_rep2 (k : Nat) (l : List Nat) : (List.replicate k (nD l)).flatten = nD (List.replicate k l).flatten := by
  induction k with
  | zero => rfl
  | succ k ih => simp only [List.replicate_succ, List.flatten_cons, ih, nD_append]
theorem nD_take (l : List Nat) (k : Nat) : (nD l).take k = nD (l.take k) := by simp
theorem nD_drop (l : List Nat) (k : Nat) : (nD l).drop k = nD (l.drop k) := by simp
theorem moreOf_len (sz : List Nat) : (moreOf sz).length ≤ 1 := by
  unfold moreOf; split
  · rw [List.length_drop]; omega
  · exact Nat.le_refl 1
theorem flat_len (k : Nat) (l : List Nat) : (List.replicate k l).flatten.length = k * l.length := by
  induction k with
  | zero => simp
  | succ k ih => simp only [List.replicate_succ, List.flatten_cons, List.length_append, ih, Nat.succ_mul]; omega

theorem c_gaps {w : World} {hL : Heap} {mg mb : Str → Option Value} (B : Lb w hL mg mb) {prog : Program} {A : Around} {E : Value → Shared → Prop} {Q : Value → Shared → Prop} {s : Shared} {za : Addr} {n : Nat} {t : Tok} {sz : List Nat} (R : Rm 10 A) (P : Pr hL s) (hz : Bs s.heap.get? za (LO (nD sz))) (hlen : sz.length ≤ 1000) (hn : n ≤ 1000)
    (h : ∀ a s', Ext s s' → s.heap.get? a = none → Bs s'.heap.get? a (LO (nD (gapsOf sz n))) → Q (.ref a) s') : wpAny (model prog w) A (call (.ref 113) [.ref za, .int n t]) Q E s := by
  refine enterF B (ds := [.val (.ref za), .int n]) [Str.ofString "sizes", Str.ofString "count"] [Str.ofString "ends", Str.ofString "gaps", Str.ofString "more"] [Str.ofString "sizes", Str.ofString "count", Str.ofString "ends", Str.ofString "gaps", Str.ofString "more"] [some (.val (.ref za)), some (.int n), none, none, none] P rfl rfl (by kernel_rfl) (by kernel_rfl) (by have := R.d; omega) rfl (by kernel_rfl) (by kernel_rfl) rfl (.cons rfl (.cons ⟨_, rfl⟩ .nil)) (by kernel_rfl) (by kernel_rfl) (by kernel_rfl) (by kernel_rfl) ?_
  intro L s₁ hLn S
  have R1 := R.deeper (env := callEnvC (fdAt w 113) L 113)
  generalize A.deeper (callEnvC (fdAt w 113) L 113) = A1 at R1 ⊢
  conv in bodOf _ => whnf
  have hu : A1.units + 64 < cLine := by have := R1.u; omega
  (repeat walk_at "go1")
  refine r_listcomp (cl := [(Str.ofString "sizes", L + 1)]) (by kernel_rfl) rfl (by decide) ?_
  (repeat walk_at "go1")
  rename St _ _ _ _ _ _ _ _ _ => S0
  refine f_range1 S0 ?_
  clear S0; intro r s9 S9
  rw [nD_length] at S9
  refine i_range S9 (by omega) (by omega) ?_
  clear S9; intro I s9 it S9
  have en : ((sz.length : Int) - 0).toNat = sz.length := by omega
  rw [en] at it S9
  have k1 := comp_known S9 (Kn.bas hz)
  refine comp_end it R1.h S9 (by have := szl; omega) (fun _ _ => trivial) (by decide) rfl (by kernel_rfl) (by decide) (fun i nwc acc => nwc = [] ∧ acc = nD ((List.range i).filter (isEnd sz))) ⟨rfl, rfl⟩ ?turn ?done
  case turn =>
    rintro i d nwc acc C D₀ s' hi rfl ⟨rfl, rfl⟩ hal S'
    have c1 := comp_cap S9 S' (Str.ofString "sizes") (L + 1) (by with_reducible repeat constructor) (by kernel_rfl) (by kernel_rfl) (by kernel_rfl) (by kernel_rfl)
    clear S9
    rw [Int.zero_add] at S' ⊢
    refine wpAny_tests_one ?_
    (repeat walk_at "go1")
    rename St _ _ _ _ _ _ _ _ _ => S0
    rw [show [D.int 0, D.int 127] = nD [0, 127] from rfl] at S0
    refine q_inN S0 (by walk_at "kn") hu ?_
    (repeat walk_at "go1")
    refine iteD (fun h1 => ?_) (fun h1 => ?_)
    · (repeat walk_at "go1")
      rename St _ _ _ _ _ _ _ _ _ => S0
      exact ⟨_, _, okI, S0.sel (by with_reducible repeat constructor), rfl, by rw [List.range_succ, List.filter_append, nD_append, List.filter_cons_of_pos (by exact decide_eq_true h1)]; rfl⟩
    · rename St _ _ _ _ _ _ _ _ _ => S0
      exact ⟨S0.sel (by with_reducible repeat constructor), rfl, by rw [List.range_succ, List.filter_append, List.filter_cons_of_neg (by unfold isEnd; rw [decide_eq_true_iff]; exact h1)]; simp⟩
  case done =>
    rintro nwc acc D₀ s' ⟨rfl, rfl⟩ hD S'
    clear S9
    rw [List.cons_append, List.nil_append] at S'
    have hel := ends_len sz
    rw [show (List.range sz.length).filter (isEnd sz) = ends sz from rfl] at S'
    (repeat walk_at "go1")
    rename St _ _ _ _ _ _ _ _ _ => S0
    rw [← nD_one, nD_length] at S0
    have he0 : (nD (ends sz ++ [sz.length]))[(0 : Int).toNat]? = some (.int (e0 sz : Nat)) := by
      unfold e0; cases ends sz <;> rfl
    have he1 : e0 sz ≤ 1000 := e0_le sz hlen
    refine l_get S0 (by walk_at "kn") (by omega) (by omega) he0 ?_ (by with_unfolding_all rfl)
    (first | (refine opI ?_; intro _) | (refine opS ?_; intro _) | refine opV ?_)
    (repeat walk_at "go1")
    rename St _ _ _ _ _ _ _ _ _ => S0
    refine ls_upto S0 (Kn.bas hz) (by omega) (by have := szl; rw [nD_length]; omega) ?_
    clear S0; intro ga s9 S9
    rw [Int.toNat_natCast, nD_take] at S9
    (repeat walk_at "go1")
    rename St _ _ _ _ _ _ _ _ _ => S0
    refine l_get S0 (by walk_at "kn") (by omega) (by omega) he0 ?_ (by with_unfolding_all rfl)
    (first | (refine opI ?_; intro _) | (refine opS ?_; intro _) | refine opV ?_)
    (repeat walk_at "go1")
    rename St _ _ _ _ _ _ _ _ _ => S0
    refine l_get S0 (by walk_at "kn") (by omega) (by omega) he0 ?_ (by with_unfolding_all rfl)
    (first | (refine opI ?_; intro _) | (refine opS ?_; intro _) | refine opV ?_)
    (repeat walk_at "go1")
    rename St _ _ _ _ _ _ _ _ _ => S0
    refine ls_run S0 (Kn.bas hz) (by omega) (by omega) (by have := szl; rw [nD_length]; omega) ?_
    clear S0; intro ra s9 S9
    have e1 : ((e0 sz : Int) + 1).toNat = e0 sz + 1 := by omega
    rw [Int.toNat_natCast, e1, nD_take, nD_drop] at S9
    (repeat walk_at "go1")
    rename St _ _ _ _ _ _ _ _ _ => S0
    rw [show [D.int 0] = nD [0] from rfl] at S0
    refine q_eqN S0 (by walk_at "kn") (by walk_at "kn") hu ?_
    (repeat walk_at "go1")
    have hm := moreOf_len sz
    refine iteD (fun h1 => ?_) (fun h1 => ?_)
    · have em : (sz.take (e0 sz)).drop ((sz.take (e0 sz)).length - 1) = moreOf sz := (if_pos h1).symm
      (repeat walk_at "go1")
      rename St _ _ _ _ _ _ _ _ _ => S0
      refine ls_last S0 (by walk_at "kn") (by rw [nD_length, List.length_take]; have := szl; omega) ?_
      clear S0; intro ma s9 S9
      rw [nD_drop, nD_length, em] at S9
      (repeat walk_at "go1")
      rename St _ _ _ _ _ _ _ _ _ => S0
      refine b_rep S0 (by walk_at "kn") (by omega) (by omega) (by rw [nD_length, Int.toNat_natCast]; have := Nat.mul_le_mul hm hn; omega) ?_
      clear S0; intro pa s9 _ S9
      rw [Int.toNat_natCast, nD_rep2] at S9
      have hfl := flat_len n (moreOf sz)
      have hfm : n * (moreOf sz).length ≤ 1000 := by have := Nat.mul_le_mul hn hm; omega
      have htk : (sz.take (e0 sz)).length ≤ 1000 := by rw [List.length_take]; omega
      rename St _ _ _ _ _ _ _ _ _ => S0
      refine b_cat S0 (by walk_at "kn") (by walk_at "kn") (by rw [nD_length, nD_length]; have := szl; omega) ?_
      clear S0; intro qa s9 _ S9
      rw [← nD_append] at S9
      (repeat walk_at "go1")
      rename St _ _ _ _ _ _ _ _ _ => S0
      refine ls_upto S0 (by walk_at "kn") (by omega) (by rw [nD_length, List.length_append]; have := szl; omega) ?_
      clear S0; intro za' s9 S9
      rw [Int.toNat_natCast, nD_take, show (sz.take (e0 sz) ++ (List.replicate n (moreOf sz)).flatten).take n = gapsOf sz n from rfl] at S9
      exact h _ _ S9.out (S9.new (by with_reducible repeat first | exact List.mem_cons_self | apply List.mem_cons_of_mem)) (S9.bs (by with_reducible repeat first | exact List.mem_cons_self | apply List.mem_cons_of_mem))
    · have em : [1] = moreOf sz := (if_neg h1).symm
      (repeat walk_at "go1")
      rename St _ _ _ _ _ _ _ _ _ => S0
      rw [show [D.int 1] = nD (moreOf sz) from by rw [← em]; rfl] at S0
      refine b_rep S0 (by walk_at "kn") (by omega) (by omega) (by rw [nD_length, Int.toNat_natCast]; have := Nat.mul_le_mul hm hn; omega) ?_
      clear S0; intro pa s9 _ S9
      rw [Int.toNat_natCast, nD_rep2] at S9
      have hfl := flat_len n (moreOf sz)
      have hfm : n * (moreOf sz).length ≤ 1000 := by have := Nat.mul_le_mul hn hm; omega
      have htk : (sz.take (e0 sz)).length ≤ 1000 := by rw [List.length_take]; omega
      rename St _ _ _ _ _ _ _ _ _ => S0
      refine b_cat S0 (by walk_at "kn") (by walk_at "kn") (by rw [nD_length, nD_length]; have := szl; omega) ?_
      clear S0; intro qa s9 _ S9
      rw [← nD_append] at S9
      (repeat walk_at "go1")
      rename St _ _ _ _ _ _ _ _ _ => S0
      refine ls_upto S0 (by walk_at "kn") (by omega) (by rw [nD_length, List.length_append]; have := szl; omega) ?_
      clear S0; intro za' s9 S9
      rw [Int.toNat_natCast, nD_take, show (sz.take (e0 sz) ++ (List.replicate n (moreOf sz)).flatten).take n = gapsOf sz n from rfl] at S9
      exact h _ _ S9.out (S9.new (by with_reducible repeat first | exact List.mem_cons_self | apply List.mem_cons_of_mem)) (S9.bs (by with_reducible repeat first | exact List.mem_cons_self | apply List.mem_cons_of_mem))


theorem WsA.grow {F F' : Addr → Option Obj} {s s' : Shared} (g : Gr F F' s s') {x dx tx ax : Addr} {l : List Nat} (W : WsA s'.heap.get? x dx tx ax l) (h1 : s.heap.get? x = none) (h2 : s.heap.get? dx = none) (h3 : s.heap.get? tx = none) (h4 : s.heap.get? ax = none) : WsA F' x dx tx ax l :=
  ⟨g.add h1 W.i, g.add h2 W.d, g.add h3 W.t, g.add h4 W.a⟩
theorem WsA.up {F F' : Addr → Option Obj} {s s' : Shared} (g : Gr F F' s s') {x dx tx ax : Addr} {l : List Nat} (W : WsA F x dx tx ax l) : WsA F' x dx tx ax l :=
  ⟨g.bs W.i, g.bs W.d, g.bs W.t, g.bs W.a⟩
theorem WsA.here {hL : Heap} {s0 : Shared} {F : Addr → Option Obj} {env : Env} {nm : List Str} {vs : List (Option D)} {nw : List (Addr × OP)} {gl : List (Nat × GenState)} {s : Shared} (S : St hL s0 F env nm vs nw gl s) {x dx tx ax : Addr} {l : List Nat} (W : WsA F x dx tx ax l) : WsA s.heap.get? x dx tx ax l :=
  ⟨S.get (.inl W.i), S.get (.inl W.d), S.get (.inl W.t), S.get (.inl W.a)⟩
theorem WsA.dd {F : Addr → Option Obj} {x dx tx ax : Addr} {l : List Nat} (W : WsA F x dx tx ax l) : Bs F dx (DI [(Str.ofString "raw", .str (T l)), (Str.ofString "n", .int (ws l).n), (Str.ofString "nt", .int (ws l).nt), (Str.ofString "norm", .val (.ref tx)), (Str.ofString "is_simple", .val (.bool (decide ((ws l).count.length ≤ 1))))]) := W.d
structure LineOk (ln fs gs : List Nat) (k : Nat) : Prop where
  n : (ws ln).n = (shutOf fs gs ++ [openOf fs gs k]).sum + (shutOf fs gs).length
  nt : (ws ln).nt = (shutOf fs gs).length
  cnt : (ws ln).count = (List.range (top (shutOf fs gs))).map fun i => (shutOf fs gs).count i
  b : (ws ln).b = openOf fs gs k
  simple : decide ((ws ln).count.length ≤ 1) = decide ((shutOf fs gs).sum = 0)
  long : max ((ws ln).count.length - 1 : Int) (ws ln).b = (top (shutOf fs gs ++ [openOf fs gs k]) - 1 : Nat)
  lev : gs ≠ [] → gs = (List.replicate gs.length (gs.take 1)).flatten → ilev ln (gs.getD 0 0) = gs.sum + k
  s1 : (shutOf fs gs ++ [openOf fs gs k]).sum ≤ 50000
  s2 : gs.sum ≤ 50000
  g0 : ∀ i, i < gs.length → 1 ≤ gs.getD i 0 ∧ gs.getD i 0 ≤ 1000

theorem c_line {w : World} {hL : Heap} {mg mb : Str → Option Value} (B : Lb w hL mg mb) {prog : Program} {A : Around} {E : Value → Shared → Prop} {Q : Value → Shared → Prop} {s : Shared} {fa ga : Addr} {t u : Tok} {ln fs gs l : List Nat} (R : Rm 12 A) (P : Pr hL s) (hf : Bs s.heap.get? fa (LO (nD fs))) (hg : Bs s.heap.get? ga (LO (nD gs))) (hfg : fs.length = gs.length) (hlen : gs.length ≤ 1000) (hl : l.length ≤ 1000) (hln : ln.length ≤ 1000) (ok : LineOk ln fs gs l.length)
    (h : ∀ s', Ext s s' → Q (.bool true) s') : wpAny (model prog w) A (call (.ref 149) [.str (T ln) t, .ref fa, .ref ga, .str (T l) u]) Q E s := by
  refine enterF B (ds := [.str (T ln), .val (.ref fa), .val (.ref ga), .str (T l)]) [Str.ofString "line", Str.ofString "figures", Str.ofString "gaps", Str.ofString "left"] [Str.ofString "indent", Str.ofString "runs", Str.ofString "shut", Str.ofString "norm"] [Str.ofString "line", Str.ofString "figures", Str.ofString "gaps", Str.ofString "left", Str.ofString "indent", Str.ofString "runs", Str.ofString "shut", Str.ofString "norm"] [some (.str (T ln)), some (.val (.ref fa)), some (.val (.ref ga)), some (.str (T l)), none, none, none, none] P rfl rfl (by kernel_rfl) (by kernel_rfl) (by have := R.d; omega) rfl (by kernel_rfl) (by kernel_rfl) rfl (.cons ⟨_, rfl⟩ (.cons rfl (.cons rfl (.cons ⟨_, rfl⟩ .nil)))) (by kernel_rfl) (by kernel_rfl) (by kernel_rfl) (by kernel_rfl) ?_
  intro L s₁ hLn S
  have R1 := R.deeper (env := callEnvC (fdAt w 149) L 149)
  generalize A.deeper (callEnvC (fdAt w 149) L 149) = A1 at R1 ⊢
  conv in bodOf _ => whnf
  have hu : A1.units + 64 < cLine := by have := R1.u; omega
  (repeat walk_at "go1")
  rename St _ _ _ _ _ _ _ _ _ => S0
  refine c_ws B (R1.le (by omega)) S0.pr hln ?_
  intro x dx tx ax s9 X W n1 n2 n3 n4
  obtain ⟨F1, S1, g1⟩ := S0.grow X
  replace W := W.grow g1 n1 n2 n3 n4
  replace hf := g1.bs hf
  replace hg := g1.bs hg
  clear S0 g1 n1 n2 n3 n4 X
  (repeat walk_at "go1")
  rename St _ _ _ _ _ _ _ _ _ => S0
  refine c_runs B (R1.le (by omega)) S0.pr (S0.get (.inl hf)) (S0.get (.inl hg)) hfg hlen hl ?_
  intro ra s9 X n1 hr
  obtain ⟨F2, S2, g2⟩ := S0.grow X
  replace W := W.up g2
  replace hf := g2.bs hf
  replace hg := g2.bs hg
  replace hr := g2.add n1 hr
  clear S0 g2 n1 X
  obtain ⟨o1, o2, o3, o4, o5, o6, o7, o8, o9, o10⟩ := ok
  have hsl : (shutOf fs gs).length ≤ 1000 := Nat.le_trans (rnS_len _ _ _) hlen
  generalize shutOf fs gs = sh at *
  generalize openOf fs gs l.length = op at *
  (repeat walk_at "go1")
  rename St _ _ _ _ _ _ _ _ _ => S0
  refine ls_but S0 (by walk_at "kn") (by rw [nD_length, List.length_append]; have := szl; simp only [List.length_cons, List.length_nil]; omega) ?_
  clear S0; intro sa s9 S9
  rw [show (nD (sh ++ [op])).take ((nD (sh ++ [op])).length - 1) = nD sh from by simp] at S9
  (repeat walk_at "go1")
  refine r_listcomp (cl := [(Str.ofString "shut", L + 1)]) (by kernel_rfl) rfl (by decide) ?_
  (repeat walk_at "go1")
  rename St _ _ _ _ _ _ _ _ _ => S0
  refine f_maxM S0 R1.h (by walk_at "kn") ?_
  clear S0; intro t9 s9 S9
  (repeat walk_at "go1")
  have htop : top sh ≤ 50001 := by
    by_cases q : sh = []
    · rw [q]; decide
    · obtain ⟨n, hn, e⟩ := top_at q
      have := mem_sum_le (sh ++ [op]) n (List.mem_append_left _ hn)
      omega
  rename St _ _ _ _ _ _ _ _ _ => S0
  refine f_range1 S0 ?_
  clear S0; intro r s9 S9
  rw [show ((top sh : Nat) : Int) - 1 + 1 = (top sh : Nat) from by omega] at S9
  refine i_range S9 (by omega) (by omega) ?_
  clear S9; intro I s9 it S9
  have en : ((top sh : Int) - 0).toNat = top sh := by omega
  rw [en] at it S9
  have k1 := comp_known S9 (a := sa) (P' := LO (nD sh)) (by walk_at "kn")
  refine comp_end it R1.h S9 (by have := szl; omega) (fun _ _ => trivial) (by decide) rfl (by kernel_rfl) (by decide) (fun i nwc acc => nwc = [] ∧ acc = nD ((List.range i).map fun k => sh.count k)) ⟨rfl, rfl⟩ ?turn ?done
  case turn =>
    rintro i d nwc acc C D₀ s' hi rfl ⟨rfl, rfl⟩ hal S'
    have c1 := comp_cap S9 S' (Str.ofString "shut") (L + 1) (by with_reducible repeat constructor) (by kernel_rfl) (by kernel_rfl) (by kernel_rfl) (by kernel_rfl)
    clear S9
    rw [Int.zero_add] at S' ⊢
    refine wpAny_tests_nil ?_
    rw [if_pos rfl]
    (repeat walk_at "go1")
    rename St _ _ _ _ _ _ _ _ _ => S0
    refine f_countN S0 (by walk_at "kn") ?_
    clear S0; intro t9 s9 S9
    exact ⟨_, _, okI, S9, rfl, by rw [List.range_succ, List.map_append, nD_append]; rfl⟩
  case done =>
    rintro nwc acc D₀ s' ⟨rfl, rfl⟩ hD S'
    clear S9
    rw [List.cons_append, List.nil_append] at S'
    rw [← o3] at S'
    (repeat walk_at "go1")
    rename St _ _ _ _ _ _ _ _ _ => S0
    have hcl : (ws ln).count.length ≤ 50001 := by rw [o3, List.length_map, List.length_range]; exact htop
    refine f_tuple S0 (by walk_at "kn") (by rw [nD_length]; have := szl; omega) ?_
    clear S0; intro ca s9 _ S9
    have hr' : Bs F2 ra (LO (nD sh ++ [.int (op : Nat)])) := by rw [← nD_one]; exact hr
    (repeat walk_at "go1")
    refine wpAny_If ?_
    have W1 := W.i
    have W2 := W.dd
    (repeat walk_at "go1")
    rename St _ _ _ _ _ _ _ _ _ => S0
    refine f_sumN S0 R1.h (Kn.bas hr) (by omega) ?_
    clear S0; intro t9 s9 S9
    (repeat walk_at "go1")
    rename St _ _ _ _ _ _ _ _ _ => S0
    refine q_ne (rd_list S0 (by walk_at "kn") (.int (.int (.val (rd_tuple S0 (.inl W.t) (.val (rd_tuple S0 (.inl W.a) (.nats _)) (.int .nil))) .nil)))) (rd_list S0 (by walk_at "kn") (.int (.int (.val (rd_tuple S0 (by walk_at "kn") (.val (rd_tuple S0 (by walk_at "kn") (.nats _)) (.int .nil))) .nil)))) (by simp [SeqAt.shaped, PyData.canLay0, PyData.canLayAll0, PyData.depth, PyData.depthAll, canLay_iP, depth_iP]) (by simp [SeqAt.shaped, PyData.canLay0, PyData.canLayAll0, PyData.depth, PyData.depthAll, canLay_iP, depth_iP]) hu ?_
    have e : (PyData.list [PyData.int (ws ln).n, PyData.int (ws ln).nt, PyData.tuple [PyData.tuple (iP (ws ln).count), PyData.int (ws ln).b]]).eqv (PyData.list [PyData.int ((sh ++ [op]).sum + (nD sh).length), PyData.int (nD sh).length, PyData.tuple [PyData.tuple (iP (ws ln).count), PyData.int op]]) = true := by
      rw [nD_length, o1, o2, o4]
      simp [PyData.eqv, PyData.eqvAll, eqvAll_iP]
    rw [e]
    (repeat walk_at "go1")
    refine iteB (fun q => by cases q) (fun _ => ?_)
    clear e
    (repeat walk_at "go1")
    refine wpAny_If ?_
    refine isTrue_or ?_
    (repeat walk_at "go1")
    rename St _ _ _ _ _ _ _ _ _ => S0
    have hss : sh.sum ≤ (sh ++ [op]).sum := by rw [List.sum_append]; omega
    refine f_sumN S0 R1.h (by walk_at "kn") (by omega) ?_
    clear S0; intro t9 s9 S9
    (repeat walk_at "go1")
    refine wpAny_isNot_plain rfl ?_
    have e : (Value.bool (decide ((ws ln).count.length ≤ 1)) == Value.bool ((sh.sum : Int) == 0)) = true := by
      have q : ((sh.sum : Int) == 0) = decide (sh.sum = 0) := by rw [Bool.eq_iff_iff, beq_iff_eq, decide_eq_true_iff]; omega
      rw [q, o5]; simp
    rw [e]
    (repeat walk_at "go1")
    refine iteB (fun q => by cases q) (fun _ => ?_)
    clear e
    refine isTrue_or ?_
    (repeat walk_at "go1")
    rename St _ _ _ _ _ _ _ _ _ => S0
    refine c_longest B (R1.le (by omega)) S0.pr (W.here S0) hln ?_
    intro t9 s9 X
    have S9 := S0.ext X
    clear S0 X
    (repeat walk_at "go1")
    rename St _ _ _ _ _ _ _ _ _ => S0
    refine f_maxN S0 R1.h (Kn.bas hr) (by simp) ?_
    clear S0; intro t9 s9 S9
    rw [o6]
    (repeat walk_at "go1")
    refine iteB (fun q => by simp at q) (fun _ => ?_)
    refine isTrue_or_nil ?_
    refine iteB (fun q => by cases q) (fun _ => ?_)
    (repeat walk_at "go1")
    refine BoolOp_or ?_
    (repeat walk_at "go1")
    rename St _ _ _ _ _ _ _ _ _ => S0
    rw [show LO [] = LO (nD []) from rfl] at S0
    refine q_eqN S0 (ms := []) (Kn.bas hg) (by walk_at "kn") hu ?_
    (repeat walk_at "go1")
    refine iteD (fun h1 => ?_) (fun h1 => ?_)
    · rename St _ _ _ _ _ _ _ _ _ => S0
      rw [decide_eq_true h1]
      exact h _ S0.out
    have hg0 : 0 < gs.length := List.length_pos_iff.mpr h1
    obtain ⟨g1, g2⟩ := o10 0 hg0
    refine BoolOp_or ?_
    (repeat walk_at "go1")
    rename St _ _ _ _ _ _ _ _ _ => S0
    refine ls_upto S0 (Kn.bas hg) (by omega) (by rw [nD_length]; have := szl; omega) ?_
    clear S0; intro ua s9 S9
    rw [show (nD gs).take (1 : Int).toNat = nD (gs.take 1) from nD_take _ _] at S9
    (repeat walk_at "go1")
    rename St _ _ _ _ _ _ _ _ _ => S0
    rw [nD_length]
    refine b_rep S0 (by walk_at "kn") (by omega) (by omega) (by rw [nD_length, Int.toNat_natCast, List.length_take]; have : min 1 gs.length ≤ 1 := Nat.min_le_left _ _; have := Nat.mul_le_mul this hlen; omega) ?_
    clear S0; intro pa s9 _ S9
    rw [Int.toNat_natCast, nD_rep2] at S9
    (repeat walk_at "go1")
    rename St _ _ _ _ _ _ _ _ _ => S0
    refine q_neN S0 (Kn.bas hg) (by walk_at "kn") hu ?_
    (repeat walk_at "go1")
    refine iteB (fun h2 => ?_) (fun h2 => ?_)
    · rename St _ _ _ _ _ _ _ _ _ => S0
      rw [h2]
      exact h _ S0.out
    have h3 : gs = (List.replicate gs.length (gs.take 1)).flatten := by
      have q : decide (gs = (List.replicate gs.length (gs.take 1)).flatten) = true := by cases q : decide (gs = (List.replicate gs.length (gs.take 1)).flatten); rw [q] at h2; cases h2; rfl
      exact of_decide_eq_true q
    refine BoolOp_one ?_
    (repeat walk_at "go1")
    rename St _ _ _ _ _ _ _ _ _ => S0
    refine l_get S0 (d := .int (gs.getD 0 0 : Nat)) (Kn.bas hg) (by omega) (by omega) (by rw [nD_get]; cases gs with | nil => exact absurd rfl h1 | cons a b => rfl) ?_ (by with_unfolding_all rfl)
    (first | (refine opI ?_; intro _) | (refine opS ?_; intro _) | refine opV ?_)
    (repeat walk_at "go1")
    rename St _ _ _ _ _ _ _ _ _ => S0
    refine c_level B (R1.le (by omega)) S0.pr (W.here S0) hln g1 g2 ?_
    intro t9 s9 X
    have S9 := S0.ext X
    clear S0 X
    (repeat walk_at "go1")
    rename St _ _ _ _ _ _ _ _ _ => S0
    refine f_sumN S0 R1.h (Kn.bas hg) (by omega) ?_
    clear S0; intro t9 s9 S9
    (repeat walk_at "go1")
    rename St _ _ _ _ _ _ _ _ _ => S0
    have e : (((ilev ln (gs.getD 0 0) : Nat) : Int) == (gs.sum : Nat) + (l.length : Nat)) = true := by
      rw [o7 h1 h3, beq_iff_eq]; omega
    rw [e]
    exact h _ S0.out

theorem GF.wk {hL : Heap} {za : Addr} {sz : List Nat} {C I : Addr} {vs vs' : List (Option D)} {i : Nat} {s : Shared} (G : GF hL za sz C I vs i s) (h : Wk vs' vs) : GF hL za sz C I vs' i s :=
  { G with loc := let ⟨mm, h1, h2⟩ := G.loc; ⟨mm, h1, fun x d a => h2 x d (h.at a)⟩ }
theorem g_while {w : World} {hL : Heap} {mg mb : Str → Option Value} (B : Lb w hL mg mb) {prog : Program} {za : Addr} {sz : List Nat} {e : Nat} {C I : Addr} {N : Nat} (Dg : GD hL za C I) (hinf : e < sz.length ∧ sz.getD e 0 = 0) {A : Around} (hh : A.handled = none) {fs : List Frame} (hsp : splitAtGen fs = none) (hgu : fs.any Frame.guarded = false) {p1 p2 p3 p4 : Pos} {k : Nat} : ∀ (n : Nat), n ≤ N → e ≤ N - n → 0 < n → ∀ (s₀ s : Shared) (x : Option D) (i : Nat), GF hL za sz C I [some (.val (.ref za)), some (.int (sz.getD (e - 1) 0 : Nat)), x] i s → GOut C I s₀ s →
    Seg (model prog w) A (GR sz e C I N) (GY hL za sz e C I N) n s₀ (.whileLoop (.Constant (.bool true) k p1) [.Expr (.Yield (some (.Name (Str.ofString "last_interval") p2)) p3) p4] [] (genv w C)) ((model prog w).den (.whileLoop (.Constant (.bool true) k p1) [.Expr (.Yield (some (.Name (Str.ofString "last_interval") p2)) p3) p4] [] (genv w C))) fs s := by
  intro n
  induction n with
  | zero => intro _ _ h; exact absurd h (Nat.lt_irrefl _)
  | succ m ih =>
    intro hN he _ s₀ s x i G o
    refine sg_whileT ?_
    refine isTrue_plain (wpAny_Constant_bool (wpAny_truthy_bool ⟨rfl, fun H => ?_⟩)) rfl
    refine seg_execs_cons (seg_Expr_Yield hsp rfl hgu ?_)
    have S := G.st (w := w) Dg
    refine r_name S (by with_reducible repeat constructor) fun v ok kap hk => ?_
    obtain ⟨t, rfl⟩ := ok
    have hj : ¬ N - m ≤ e := by omega
    have hj' : ¬ N - 1 - m < e := by omega
    refine ⟨by omega, ⟨sz.getD (e - 1) 0, t, by unfold iv; rw [if_neg hj', if_pos hinf], rfl⟩, o, by unfold GJ; rw [if_neg hj]; exact ⟨i, G.wk (.same (.same (by cases x <;> first | exact .same .nil | exact .none .nil)))⟩, fun hm s'' G'' => hk .none s'' ?_⟩
    refine seg_again rfl ?_
    unfold GJ at G''
    rw [if_neg hj] at G''
    obtain ⟨i', G''⟩ := G''
    exact ih (by omega) (by omega) hm s'' s'' none i' G'' .refl
noncomputable def gB : List Stmt := match (bodOf (stA 5)).getD 1 (Stmt.Pass ⟨0, 0, 0, 0⟩) with | .For (body := b) .. => b | _ => []
noncomputable def lastD (sz : List Nat) (j : Nat) : D := if j = 0 then .val .none else .int (sz.getD (j - 1) 0 : Nat)
theorem r_retN {M : Model} {A : Around} {E : Value → Shared → Prop} {s : Shared} {env : Env} {pos : Pos} {Q : Flow → Shared → Prop} (h : Q (.ret .none) s) : wpAny M A (exec (.Return none pos) env) Q E s := by
  rw [exec_Return_none]; exact wpAny_bind (wpAny_standAt (wpAny_pure h))
theorem g_loop {w : World} {hL : Heap} {mg mb : Str → Option Value} (B : Lb w hL mg mb) {prog : Program} {za : Addr} {sz : List Nat} {e : Nat} {C I : Addr} {N : Nat} (Dg : GD hL za C I) (Eg : GE sz e) (hsz : sz.length ≤ 1000) {A : Around} (hh : A.handled = none) {fs : List Frame} (hsp : splitAtGen fs = none) (hgu : fs.any Frame.guarded = false) (hmk : ∀ c, (A.over c fs).handled = none)
    (hret : ∀ n s₀ s c, GP sz e C I N n s₀ s → Seg (model prog w) A (GR sz e C I N) (GY hL za sz e C I N) n s₀ c (.pure (.done (.ret .none))) fs s)
    (hnext : ∀ n s₀ s c, GP sz e C I N n s₀ s → Seg (model prog w) A (GR sz e C I N) (GY hL za sz e C I N) n s₀ c (.pure (.done .next)) fs s) {px : Pos} :
    ∀ (d j : Nat), e - j = d → j ≤ e → j < N → ∀ (s₀ s : Shared) (y : Option D), GF hL za sz C I [some (.val (.ref za)), some (lastD sz j), y] j s → GOut C I s₀ s →
    Seg (model prog w) A (GR sz e C I N) (GY hL za sz e C I N) (N - j) s₀ (.forLoop (.Name (Str.ofString "interval") px) (.ref I) gB [] (genv w C)) ((model prog w).den (.forLoop (.Name (Str.ofString "interval") px) (.ref I) gB [] (genv w C))) fs s := by
  intro d
  induction d using Nat.strongRecOn with
  | _ d ih =>
  intro j hd hje hjN s₀ s y G o
  obtain ⟨m, hm⟩ : ∃ m, N - j = m + 1 := ⟨N - j - 1, by omega⟩
  rw [hm]
  refine sg_loop ?_
  have hh' := hmk (.forLoop (.Name (Str.ofString "interval") px) (.ref I) gB [] (genv w C))
  generalize A.over (.forLoop (.Name (Str.ofString "interval") px) (.ref I) gB [] (genv w C)) fs = A' at hh' ⊢
  have it : It prog w I (LI za) (nD sz).length (fun i d => (nD sz)[i]? = some d) (fun h => ∃ o, h.get? za = some o ∧ LO (nD sz) o) := It.list Dg.zI
  have S := G.st (w := w) Dg
  by_cases hjl : j < sz.length
  · refine it.next A' j s _ _ hh' (by rw [nD_length]; exact hjl) G.it G.z fun d v h' tk hV ok hI' hk => ?_
    obtain ⟨o', e', p'⟩ := hI'
    have S1 : GS hL w C I s [some (.val (.ref za)), some (lastD sz j), y] [(I, LI za (j + 1))] { s with heap := h', toks := tk } := S.upd .head hk e' p'
    rw [nD_get, List.getElem?_eq_getElem hjl] at hV
    obtain rfl := Option.some.inj hV
    obtain ⟨t, rfl⟩ := ok
    have eg : sz[j] = sz.getD j 0 := by rw [List.getD_eq_getElem?_getD, List.getElem?_eq_getElem hjl]; rfl
    rw [eg]
    clear S
    refine wpAny_pure (wpAny_assign_Name (r_store S1 (d := .int (sz.getD j 0 : Nat)) (by with_reducible repeat constructor) okI fun s2 S2 => ?_))
    clear S1
    intro H
    conv in execs gB _ => (arg 1; whnf)
    refine seg_execs_cons (sg_stmt ?_)
    clear hh'
    generalize A.over (.forLoop (.Name (Str.ofString "interval") px) (.ref I) gB [] (genv w C)) fs = A'
    refine wpAny_If ?_
    (repeat walk_at "go1")
    refine iteB (fun h1 => ?_) (fun h1 => ?_)
    · (repeat walk_at "go1")
      refine r_retN ?_
      have h1' : sz.getD j 0 = 127 := by have := beq_iff_eq.mp h1; omega
      have hj : j = e := by
        rcases Nat.lt_or_ge j e with q | q
        · exact absurd h1' (Eg.no j q).2
        · omega
      rename St _ _ _ _ _ _ _ _ _ => S0
      refine hret _ _ _ _ ⟨?_, o.trans (.of S0), S0.bare⟩
      rw [← hm, show N - (N - j) = j from by omega]
      unfold iv
      rw [if_neg (by omega), if_neg (by rw [← hj, h1']; rintro ⟨_, q⟩; cases q)]
    · have h1' : sz.getD j 0 ≠ 127 := fun q => by rw [q] at h1; cases h1
      (repeat walk_at "go1")
      refine seg_execs_cons (sg_If ?_)
      generalize A.over (.forLoop (.Name (Str.ofString "interval") px) (.ref I) gB [] (genv w C)) fs = A'
      (repeat walk_at "go1")
      refine iteB (fun h2 => ?_) (fun h2 => ?_)
      · have h2' : sz.getD j 0 = 0 := by have := beq_iff_eq.mp h2; omega
        have hj : j = e := by
          rcases Nat.lt_or_ge j e with q | q
          · exact absurd h2' (Eg.no j q).1
          · omega
        have hl : lastD sz j = .int (sz.getD (e - 1) 0 : Nat) := by
          unfold lastD
          have := Eg.pos
          rw [if_neg (by omega), hj]
        rename St _ _ _ _ _ _ _ _ _ => S0
        rw [hl] at S0
        refine seg_execs_cons (sg_stmt ?_)
        generalize A.over (.forLoop (.Name (Str.ofString "interval") px) (.ref I) gB [] (genv w C)) fs = A'
        refine wpAny_If ?_
        (repeat walk_at "go1")
        refine wpAny_is_other rfl (by intro q; cases q) ?_
        (repeat walk_at "go1")
        refine iteB (fun q => by cases q) (fun _ => ?_)
        (repeat walk_at "go1")
        refine seg_execs_cons (sg_While fun p => ?_)
        rename St _ _ _ _ _ _ _ _ _ => S0
        have hel : e < sz.length ∧ sz.getD e 0 = 0 := by rw [← hj]; exact ⟨hjl, h2'⟩
        refine g_while B Dg hel hh (fs := _ :: fs) (by simp only [splitAtGen, hsp]; rfl) (by rw [List.any_cons, hgu]; rfl) (m + 1) (by omega) (by omega) (by omega) s₀ _ _ _ (.of Dg G.z S0) (o.trans (.of S0))
      · have h2' : sz.getD j 0 ≠ 0 := fun q => by rw [q] at h2; cases h2
        have hj : j < e := by
          rcases Nat.lt_or_ge j e with q | q
          · exact q
          · have : j = e := by omega
            subst this
            rcases Eg.at_ hjl with q | q
            · exact absurd q h2'
            · exact absurd q h1'
        refine seg_execs_nil ?_
        refine seg_execs_cons (seg_Expr_Yield hsp rfl hgu ?_)
        rename St _ _ _ _ _ _ _ _ _ => S0
        refine r_name S0 (by with_reducible repeat constructor) fun v ok kap hk => ?_
        obtain ⟨t, rfl⟩ := ok
        have e1 : N - m = j + 1 := by omega
        refine ⟨by omega, ⟨sz.getD j 0, t, by unfold iv; rw [show N - 1 - m = j from by omega, if_pos hj], rfl⟩, o.trans (.of S0), ?_, fun hm0 s'' G'' => hk .none s'' ?_⟩
        · unfold GJ
          rw [e1, if_pos (by omega)]
          exact (GF.of (w := w) Dg G.z S0).wk (.same (.none (.same .nil)))
        · unfold GJ at G''
          rw [e1, if_pos (by omega)] at G''
          clear S0
          have S := G''.st (w := w) Dg
          refine seg_execs_cons (sg_stmt ?_)
          generalize A.over (.forLoop (.Name (Str.ofString "interval") px) (.ref I) gB [] (genv w C)) fs = A'
          (repeat walk_at "go1")
          rename St _ _ _ _ _ _ _ _ _ => S0
          refine seg_execs_nil ?_
          refine seg_again rfl ?_
          have := ih (e - (j + 1)) (by omega) (j + 1) rfl (by omega) (by omega) s'' _ (some (.int (sz.getD j 0 : Nat))) ?_ (.of S0)
          · rw [show N - (j + 1) = m from by omega] at this
            exact this
          · have hl : lastD sz (j + 1) = .int (sz.getD j 0 : Nat) := by unfold lastD; rw [if_neg (by omega)]; rfl
            rw [hl]
            exact .of Dg G''.z S0
  · have hj : j = sz.length := by have := Eg.le; omega
    have hlen : (nD sz).length = j := by rw [nD_length, hj]
    rw [hlen] at it
    refine it.stop A' s _ _ hh' G.it G.z fun h' tk hk => ?_
    refine seg_again rfl ?_
    refine hnext _ _ _ _ ⟨?_, o.trans ⟨fun b x _ h2 e' => hk b x h2 e', fun _ _ e' => e', rfl⟩, G.bare⟩
    rw [← hm, show N - (N - j) = j from by omega]
    unfold iv
    have := Eg.le
    rw [if_neg (by omega), if_neg (by rintro ⟨q, _⟩; omega)]
theorem over1 {A : Around} {c c' : Code} {k : Result → Sem PySem.Fin} {g : Bool} {l : List Value} {p : Pos} (hh : A.handled = none) : (A.over c [.ret k none g l c' p []]).handled = none := by
  show (marksOver [.ret k none g l c' p []] (A.handled, A.handled)).1 = none
  rw [hh]; rfl
theorem g_fresh {w : World} {hL : Heap} {mg mb : Str → Option Value} (B : Lb w hL mg mb) {prog : Program} {za : Addr} {sz : List Nat} {e : Nat} {C I : Addr} {N : Nat} (Dg : GD hL za C I) (Eg : GE sz e) (hsz : sz.length ≤ 1000) {A : Around} (hh : A.handled = none) (hN : 0 < N) {s : Shared} (G : GB hL za sz C [some (.val (.ref za)), none, none] s) (hI : s.heap.objs.size = I) :
    (GenState.fresh (.func (bodOf (stA 5)) (genv w C))).Goes (model prog w) A (GR sz e C I N) (GY hL za sz e C I N) N (.send .none) s := by
  refine ⟨rfl, seg_func ?_⟩
  conv in execs (bodOf _) _ => (arg 1; whnf)
  refine seg_execs_cons (sg_stmt ?_)
  obtain ⟨mm, hn, hm⟩ := G.loc
  have kx := gkind w C (Str.ofString "last_interval") (by simp)
  have kg := gkind w C (Str.ofString "grouping") (by simp)
  refine wpAny_Assign_Name (wpAny_Constant_none (wpAny_storeName_local kx hn (fun h' hn' hs => ?_) (by kernel_rfl))) rfl
  have G1 : GB hL za sz C [some (.val (.ref za)), some (.val .none), none] { s with heap := h', toks := s.toks + 1 } := by
    refine ⟨fun b o e => hs.extBut b o (fun q => ?_) (G.lib b o e), G.bare, ?_, ⟨_, hn', fun x d a => ?_⟩⟩
    · have q : b = C := q
      rw [q, Dg.hC] at e; cases e
    · obtain ⟨o, eo, p⟩ := G.z; exact ⟨o, hs.extBut _ _ Dg.zC eo, p⟩
    · cases a with
      | head =>
        obtain ⟨v, e1, e2⟩ := hm (Str.ofString "grouping") (.val (.ref za)) .head
        exact ⟨v, by rw [if_neg (by decide)]; exact e1, e2⟩
      | tail a => cases a with
        | head => exact ⟨.none, by simp, rfl⟩
        | tail a => cases a with
          | tail a => cases a
  have o1 : GOut C I s { s with heap := h', toks := s.toks + 1 } := ⟨fun b o h1 _ e => hs.extBut b o h1 e, fun _ _ e => e, rfl⟩
  have hI' : h'.objs.size = I := by rw [hs.1]; exact hI
  revert G1 o1 hI'
  show GB hL za sz C _ ({ heap := h', gens := s.gens, drawn := s.drawn, toks := s.toks + 1, os := s.os } : Shared) → GOut C I s ({ heap := h', gens := s.gens, drawn := s.drawn, toks := s.toks + 1, os := s.os } : Shared) → ({ heap := h', gens := s.gens, drawn := s.drawn, toks := s.toks + 1, os := s.os } : Shared).heap.objs.size = I → _
  generalize ({ heap := h', gens := s.gens, drawn := s.drawn, toks := s.toks + 1, os := s.os } : Shared) = s1
  intro G1 o1 hI'
  refine seg_execs_cons (sg_For (fun _ => rfl) ?_)
  have hh' : (A.over (.func (bodOf (stA 5)) (genv w C)) []).handled = none := hh
  generalize A.over (.func (bodOf (stA 5)) (genv w C)) [] = A' at hh' ⊢
  have S := G1.st (w := w) Dg
  walk_at "go1"
  obtain ⟨oz, ez, pz⟩ := G1.z
  obtain ⟨us, hl, oks⟩ := pz.isList ez
  refine wpAny_pyIter_list hl ?_
  subst hI'
  intro p
  have hk : ∀ b o, s1.heap.get? b = some o → (s1.heap.push { cls := .type "list_iterator", data := .fields #[.ref za, .int 0 0] }).get? b = some o := fun b o e => Heap.get?_push_of_some _ e
  refine g_loop B Dg Eg hsz hh (fs := [_]) ?_ ?_ (fun _ => over1 hh) (fun n s₀ s' c h => ?_) (fun n s₀ s' c h => ?_) e 0 rfl (Nat.zero_le _) hN s _ none ?_ ?_
  · rfl
  · rfl
  · exact seg_leaf (.ok (.ret .none)) (seg_end (.ok (.ret .none)) ⟨rfl, h⟩)
  · exact seg_leaf (.ok .next) (seg_end (.ok (.ret .none)) ⟨rfl, h⟩)
  · exact { G1 with
      lib := fun b o e => hk _ _ (G1.lib b o e)
      z := ⟨oz, hk _ _ ez, pz⟩
      loc := let ⟨mm, h1, h2⟩ := G1.loc; ⟨mm, h1.keeps hk, fun x d a => h2 x d a⟩
      it := ⟨_, Heap.get?_push_size _ rfl, rfl, rfl⟩ }
  · exact o1.trans (GOut.mk (fun b o _ _ e => hk b o e) (fun _ _ e => e) rfl)

noncomputable def GO (g : Nat) : OP := fun o => ∃ nm qn, o.cls = .type "generator" ∧ o.data = .fields #[.int g 0, nm, qn] ∧ o.slots = #[]
noncomputable def CO (C : Addr) (vs : List (Option D)) : OP := fun o => ∀ h : Heap, h.get? C = some o → ∃ mm, h.Ns C mm ∧ ∀ x d, At x d gnm vs → ∃ v, mm x = some v ∧ d.ok v
theorem CO.of {h : Heap} {C : Addr} {vs : List (Option D)} (hl : ∃ mm, h.Ns C mm ∧ ∀ x d, At x d gnm vs → ∃ v, mm x = some v ∧ d.ok v) : ∃ o, h.get? C = some o ∧ CO C vs o := by
  obtain ⟨mm, ⟨o, es, ep, e, q⟩, hm⟩ := hl
  exact ⟨o, e, fun h' e' => ⟨mm, ⟨o, es, ep, e', q⟩, hm⟩⟩
noncomputable def vsJ (za : Addr) (sz : List Nat) (e j : Nat) : List (Option D) := if j ≤ e then [some (.val (.ref za)), none, some (.int (sz.getD (j - 1) 0 : Nat))] else [some (.val (.ref za)), some (.int (sz.getD (e - 1) 0 : Nat)), none]
noncomputable def PI (za : Addr) (e j : Nat) : OP := fun o => if j ≤ e then LI za j o else ∃ i, LI za i o
theorem GJ.of {hL : Heap} {za : Addr} {sz : List Nat} {e : Nat} {C I : Addr} {j : Nat} {s : Shared} (lib : ∀ b o, hL.get? b = some o → s.heap.get? b = some o) (bare : AllBare s.gens) (z : Bs s.heap.get? za (LO (nD sz))) (hc : ∃ o, s.heap.get? C = some o ∧ CO C (vsJ za sz e j) o) (hi : ∃ o, s.heap.get? I = some o ∧ PI za e j o) : GJ hL za sz e C I j s := by
  obtain ⟨oc, ec, pc⟩ := hc
  obtain ⟨oi, ei, pi⟩ := hi
  have hl := pc _ ec
  unfold GJ
  unfold vsJ at hl
  unfold PI at pi
  split
  · rename_i h
    rw [if_pos h] at hl pi
    exact ⟨⟨lib, bare, z, hl⟩, ⟨oi, ei, pi⟩⟩
  · rename_i h
    rw [if_neg h] at hl pi
    obtain ⟨i, pi⟩ := pi
    exact ⟨i, ⟨lib, bare, z, hl⟩, ⟨oi, ei, pi⟩⟩
theorem GJ.to {hL : Heap} {za : Addr} {sz : List Nat} {e : Nat} {C I : Addr} {j : Nat} {s : Shared} (h : GJ hL za sz e C I j s) : AllBare s.gens ∧ (∃ o, s.heap.get? C = some o ∧ CO C (vsJ za sz e j) o) ∧ (∃ o, s.heap.get? I = some o ∧ PI za e j o) := by
  unfold GJ at h
  unfold vsJ PI
  split at h
  · rename_i q
    simp only [if_pos q]
    exact ⟨h.bare, CO.of h.loc, h.it⟩
  · rename_i q
    simp only [if_neg q]
    obtain ⟨i, h⟩ := h
    exact ⟨h.bare, CO.of h.loc, let ⟨o, e, p⟩ := h.it; ⟨o, e, i, p⟩⟩
theorem bare_set {s : Shared} {g : Nat} {x : GenState} (h : AllBare s.gens) (hx : x.bare = true) : AllBare (s.setGen g x).gens := by
  intro y hy
  simp only [Shared.setGen] at hy
  obtain ⟨i, hi, rfl⟩ := Array.mem_iff_getElem.mp hy
  have hi' : i < s.gens.size := by simpa using hi
  by_cases e : g = i
  · subst e; simp [hx]
  · have e1 : (s.gens.setIfInBounds g x)[i] = s.gens[i] := Array.getElem_setIfInBounds_ne hi' e
    rw [e1]
    exact h _ (Array.getElem_mem _)

section
variable {prog : Program} {w : World} {A : Around} {E : Value → Shared → Prop} {hL : Heap} {s0 : Shared} {F : Addr → Option Obj} {env : Env} {nm : List Str} {vs vs' : List (Option D)} {nw nw' : List (Addr × OP)} {gl : List (Nat × GenState)} {s : Shared}
theorem St.gstep {G C I : Addr} {g : Nat} {gs gs' : GenState} {P2 P2' P3' : OP} {s₁ : Shared} (S : St hL s0 F env nm vs ((G, GO g) :: (C, P2) :: nw) [(g, gs)] s) (hI1 : F I = none) (hI2 : ¬ Own env nm I) (hI3 : I ∉ (((G, GO g) :: (C, P2) :: nw).map (·.1))) (hb : gs'.bare = true) (o : GOut C I (s.setGen g .running) s₁) (bare : AllBare s₁.gens)
    (hc : ∃ o, s₁.heap.get? C = some o ∧ P2' o) (hi : ∃ o, s₁.heap.get? I = some o ∧ P3' o) : St hL s0 F env nm vs ((G, GO g) :: (C, P2') :: (I, P3') :: nw) [(g, gs')] (s₁.setGen g gs') := by
  have hC := S.led (C, P2) (.tail _ (.head _))
  have hgl := S.gls (g, gs) (.head _)
  have nd := S.nd
  have up : ∀ b o', b ≠ C → b ≠ I → s.heap.get? b = some o' → (s₁.setGen g gs').heap.get? b = some o' := fun b o' h1 h2 e => o.heap b o' h1 h2 e
  simp only [List.map_cons, List.mem_cons, not_or] at hI3
  obtain ⟨i1, i2, i3⟩ := hI3
  simp only [List.map_cons, List.nodup_cons, List.mem_cons, not_or] at nd
  obtain ⟨⟨n1, n2⟩, n3, n4⟩ := nd
  have sg : ∀ (i : Nat) x, i ≠ g → s.gens[i]? = some x → (s₁.setGen g gs').gens[i]? = some x := fun i x hi e => by
    have := o.gens i x (by simp [Shared.setGen, Ne.symm hi, e])
    simp [Shared.setGen, Ne.symm hi, this]
  have gg : (s₁.setGen g gs').gens[g]? = some gs' := by
    have h1 : (s.setGen g .running).gens[g]? = some .running := setGen_self hgl.1
    exact setGen_self (o.gens g _ h1)
  refine ⟨S.fx, fun b o' e => up b o' (fun q => ?_) (fun q => ?_) (S.keep b o' e), ?_, fun y hy c h1 h2 => ?_, fun p hp => ?_, ?_, fun i x e => sg i x (fun q => ?_) (S.gens i x e), fun p hp => ?_, bare_set bare hb, o.os.trans S.os⟩
  · rw [q, hC.2.1] at e; cases e
  · rw [q, hI1] at e; cases e
  · obtain ⟨mm, ⟨ob, es, ep, e, q⟩, b⟩ := S.loc
    exact ⟨mm, ⟨ob, es, ep, up _ _ (fun q => hC.2.2 (.inl q.symm)) (fun q => hI2 (.inl q.symm)) e, q⟩, b⟩
  · obtain ⟨ov, ⟨ob, e, q⟩, b⟩ := S.cel y hy c h1 h2
    exact ⟨ov, ⟨ob, up _ _ (fun q => hC.2.2 (.inr ⟨y, hy, h1, q ▸ h2⟩)) (fun q => hI2 (.inr ⟨y, hy, h1, q ▸ h2⟩)) e, q⟩, b⟩
  · simp only [List.mem_cons] at hp
    rcases hp with rfl | rfl | rfl | hp
    · obtain ⟨⟨ob, e, q⟩, z⟩ := S.led _ (.head _)
      exact ⟨⟨ob, up _ _ n1 (Ne.symm i1) e, q⟩, z⟩
    · exact ⟨hc, hC.2⟩
    · exact ⟨hi, hI1, hI2⟩
    · obtain ⟨⟨ob, e, q⟩, z⟩ := S.led _ (.tail _ (.tail _ hp))
      exact ⟨⟨ob, up _ _ (fun q => n3 (List.mem_map.mpr ⟨p, hp, q⟩)) (fun q => i3 (List.mem_map.mpr ⟨p, hp, q⟩)) e, q⟩, z⟩
  · simp only [List.map_cons, List.nodup_cons, List.mem_cons, not_or]
    exact ⟨⟨n1, Ne.symm i1, n2⟩, ⟨Ne.symm i2, n3⟩, i3, n4⟩
  · subst q
    have := Array.getElem?_eq_some_iff.mp e
    obtain ⟨h, _⟩ := this
    have := hgl.2
    exact absurd h (by omega)
  · obtain rfl := List.mem_singleton.mp hp
    exact ⟨gg, hgl.2⟩
end
section
variable {hL : Heap} {s0 : Shared} {F : Addr → Option Obj} {env : Env} {nm : List Str} {vs : List (Option D)} {nw : List (Addr × OP)} {s : Shared}
theorem St.gdrop {G C I : Addr} {g : Nat} {gs x : GenState} {P2 : OP} {s₁ : Shared} {h' : Heap} (S : St hL s0 F env nm vs ((G, GO g) :: (C, P2) :: nw) [(g, gs)] s) (hI1 : F I = none) (hI2 : ¬ Own env nm I) (hI3 : I ∉ (((G, GO g) :: (C, P2) :: nw).map (·.1))) (hb : x.bare = true) (o : GOut C I (s.setGen g .running) s₁) (bare : AllBare s₁.gens)
    (hk : ∀ b o, s₁.heap.get? b = some o → h'.get? b = some o) : St hL s0 F env nm vs nw [] { s₁.setGen g x with heap := h' } := by
  have hC := S.led (C, P2) (.tail _ (.head _))
  have hgl := S.gls (g, gs) (.head _)
  have nd := S.nd
  have up : ∀ b o', b ≠ C → b ≠ I → s.heap.get? b = some o' → h'.get? b = some o' := fun b o' h1 h2 e => hk _ _ (o.heap b o' h1 h2 e)
  simp only [List.map_cons, List.mem_cons, not_or] at hI3
  obtain ⟨i1, i2, i3⟩ := hI3
  simp only [List.map_cons, List.nodup_cons, List.mem_cons, not_or] at nd
  obtain ⟨⟨n1, n2⟩, n3, n4⟩ := nd
  refine ⟨S.fx, fun b o' e => up b o' (fun q => ?_) (fun q => ?_) (S.keep b o' e), ?_, fun y hy c h1 h2 => ?_, fun p hp => ?_, n4, fun i z e => ?_, (fun _ h => nomatch h), bare_set bare hb, o.os.trans S.os⟩
  · rw [q, hC.2.1] at e; cases e
  · rw [q, hI1] at e; cases e
  · obtain ⟨mm, ⟨ob, es, ep, e, q⟩, b⟩ := S.loc
    exact ⟨mm, ⟨ob, es, ep, up _ _ (fun q => hC.2.2 (.inl q.symm)) (fun q => hI2 (.inl q.symm)) e, q⟩, b⟩
  · obtain ⟨ov, ⟨ob, e, q⟩, b⟩ := S.cel y hy c h1 h2
    exact ⟨ov, ⟨ob, up _ _ (fun q => hC.2.2 (.inr ⟨y, hy, h1, q ▸ h2⟩)) (fun q => hI2 (.inr ⟨y, hy, h1, q ▸ h2⟩)) e, q⟩, b⟩
  · obtain ⟨⟨ob, e, q⟩, z⟩ := S.led _ (.tail _ (.tail _ hp))
    exact ⟨⟨ob, up _ _ (fun q => n3 (List.mem_map.mpr ⟨p, hp, q⟩)) (fun q => i3 (List.mem_map.mpr ⟨p, hp, q⟩)) e, q⟩, z⟩
  · have hi : i ≠ g := fun q => by
      subst q
      have h := (Array.getElem?_eq_some_iff.mp e).1
      have := hgl.2
      exact absurd h (by omega)
    have := o.gens i z (by simp [Shared.setGen, Ne.symm hi, S.gens i z e])
    simp [Shared.setGen, Ne.symm hi, this]
end
noncomputable def TurnG (hL : Heap) (s0 : Shared) (env : Env) (nm : List Str) (gl : List (Nat × GenState)) (p1 p2 p3 : Addr × OP) (J : (Addr → Option Obj) → List (Option D) → List (Addr × OP) → Prop) (Q : Flow → Shared → Prop) (f : Flow) (s : Shared) : Prop :=
  match f with
  | .next | .cont => ∃ F vs nw, St hL s0 F env nm vs (p1 :: p2 :: p3 :: nw) gl s ∧ J F vs nw
  | .brk => Q .next s
  | .ret v => Q (.ret v) s
section
variable {prog : Program} {w : World} {A : Around} {E : Value → Shared → Prop} {hL : Heap} {mg mb : Str → Option Value} {s0 : Shared} {F : Addr → Option Obj} {env : Env} {nm : List Str} {vs vs' : List (Option D)} {nw nw' : List (Addr × OP)} {gl : List (Nat × GenState)} {s : Shared}
theorem for_gen (B : Lb w hL mg mb) {G C za : Addr} {g e N : Nat} {sz : List Nat} {target : Expr} {body : List Stmt} {R : Result → Shared → Prop} {Q : Flow → Shared → Prop} (Eg : GE sz e) (hsz : sz.length ≤ 1000) (Rm1 : Rm 2 A) (hN : 0 < N)
    (S : St hL s0 F env nm vs ((G, GO g) :: (C, CO C [some (.val (.ref za)), none, none]) :: nw) [(g, .fresh (.func (bodOf (stA 5)) (genv w C)))] s) (hz : Bs F za (LO (nD sz)))
    (J : Nat → (Addr → Option Obj) → List (Option D) → List (Addr × OP) → Prop) (j0 : J 0 F vs nw) (hJ : ∀ j F vs nw, J j F vs nw → j < N)
    (go : ∀ v s (Q : Unit → Shared → Prop) (E : Value → Shared → Prop), s.heap.IsGen G g → Q () s → wpAny (model prog w) A (letOwnedTupleGo target (.ref G) v) Q E s)
    (turn : ∀ j k t F vs nw s P2 I P3 gs, iv sz e j = some k → J j F vs nw → Bs F za (LO (nD sz)) → St hL s0 F env nm vs ((G, GO g) :: (C, P2) :: (I, P3) :: nw) [(g, gs)] s →
      wpAny (model prog w) A (assign target env (.int k t)) (fun _ s₂ => wpAny (model prog w) A (execs body env) (TurnG hL s0 env nm [(g, gs)] (G, GO g) (C, P2) (I, P3) (fun F vs nw => J (j + 1) F vs nw ∧ Bs F za (LO (nD sz))) Q) (fun _ _ => False) s₂) (fun _ _ => False) s)
    (done : ∀ j F vs nw s, iv sz e j = none → J j F vs nw → St hL s0 F env nm vs nw [] s → Q .next s)
    (hR : ∀ f s, Q f s → R (.ok f) s) :
    codeAny (model prog w) A (.forLoop target (.ref G) body [] env) R s := by
  have hI := S.none_size
  generalize hIs : s.heap.objs.size = I at hI
  have hzs := S.get (.inl hz)
  have hCs := S.led _ (.tail _ (.head _))
  have hCn := hCs.2.1
  obtain ⟨oc, ec, pc⟩ := hCs.1
  obtain ⟨oz, ez, _⟩ := hzs
  have hLC : hL.get? C = none := by
    cases q : hL.get? C with
    | none => rfl
    | some o => have := S.fx.lib _ _ q; rw [hCn] at this; cases this
  have hLI : hL.get? I = none := by
    cases q : hL.get? I with
    | none => rfl
    | some o => have := S.lib _ _ q; rw [hI] at this; cases this
  have hzC : za ≠ C := fun q => by obtain ⟨o, e', _⟩ := hz; rw [q, hCn] at e'; cases e'
  have hzI : za ≠ I := fun q => by rw [q, hI] at ez; cases ez
  have hCI : C ≠ I := fun q => by have ec' : s.heap.get? C = some oc := ec; rw [q, hI] at ec'; cases ec'
  have Dg : GD hL za C I := ⟨hLC, hLI, hzC, hzI, hCI⟩
  have hIF : F I = none := by
    cases q : F I with
    | none => rfl
    | some o => have := S.keep _ _ q; rw [hI] at this; cases this
  have hIO : ¬ Own env nm I := fun q => by have := S.own_some q; rw [hI] at this; cases this
  have hIL : I ∉ (((G, GO g) :: (C, CO C [some (.val (.ref za)), none, none]) :: nw).map (·.1)) := fun q => by
    obtain ⟨p, hp, q⟩ := List.mem_map.mp q
    obtain ⟨⟨o, e', _⟩, _⟩ := S.led p hp
    rw [q, hI] at e'; cases e'
  have hroom : A.depth < recursionLimit := by have := Rm1.d; omega
  have hh1 : A.in1.handled = none := Rm1.h
  refine codeAny_forLoop_any (fun k s' => (k = N ∧ s' = s) ∨ ∃ j F' vs' nw' gs, k = N - (j + 1) ∧ J (j + 1) F' vs' nw' ∧ Bs F' za (LO (nD sz)) ∧
      (∀ s'', GJ hL za sz e C I (j + 1) s'' → 0 < N - (j + 1) → gs.Goes (model prog w) A.in1 (GR sz e C I N) (GY hL za sz e C I N) (N - (j + 1)) (.send .none) s'') ∧
      St hL s0 F' env nm vs' ((G, GO g) :: (C, CO C (vsJ za sz e (j + 1))) :: (I, PI za e (j + 1)) :: nw') [(g, gs)] s') ?_ N (.inl ⟨rfl, rfl⟩)
  -- one turn, from j, whatever the state behind
  have step : ∀ j F' vs' nw' gs P2 s', J j F' vs' nw' → Bs F' za (LO (nD sz)) → St hL s0 F' env nm vs' ((G, GO g) :: (C, P2) :: nw') [(g, gs)] s' → F' I = none → ¬ Own env nm I → I ∉ (((G, GO g) :: (C, P2) :: nw').map (·.1)) →
      gs.Goes (model prog w) A.in1 (GR sz e C I N) (GY hL za sz e C I N) (N - j) (.send .none) (s'.setGen g .running) → ∀ k, k = N - j →
      wpAny (model prog w) A (pyNext (.ref G)) (fun r s₁ => match r with
        | none => wpAny (model prog w) A (execs [] env) (fun f s₃ => R (.ok f) s₃) (notedBy (model prog w) A env fun e s' => R (.error e) s') s₁
        | some v => wpAny (model prog w) A (letOwnedTupleGo target (.ref G) v) (fun _ s₁' =>
            wpAny (model prog w) A (assign target env v) (fun _ s₂ => wpAny (model prog w) A (execs body env) (fun f s₃ => match f with
              | .next | .cont => ∃ m, m < k ∧ ((m = N ∧ s₃ = s) ∨ ∃ j F' vs' nw' gs, m = N - (j + 1) ∧ J (j + 1) F' vs' nw' ∧ Bs F' za (LO (nD sz)) ∧
                  (∀ s'', GJ hL za sz e C I (j + 1) s'' → 0 < N - (j + 1) → gs.Goes (model prog w) A.in1 (GR sz e C I N) (GY hL za sz e C I N) (N - (j + 1)) (.send .none) s'') ∧
                  St hL s0 F' env nm vs' ((G, GO g) :: (C, CO C (vsJ za sz e (j + 1))) :: (I, PI za e (j + 1)) :: nw') [(g, gs)] s₃)
              | .brk => R (.ok .next) s₃
              | .ret v => R (.ok (.ret v)) s₃) (notedBy (model prog w) A env fun e s' => R (.error e) s') s₂) (notedBy (model prog w) A env fun e s' => R (.error e) s') s₁') (notedBy (model prog w) A env fun e s' => R (.error e) s') s₁)
        (notedBy (model prog w) A env fun e s' => R (.error e) s') s' := by
    intro j F' vs' nw' gs P2 s' hj hz' S' hI1 hI2 hI3 hgo k hk
    have hjN := hJ _ _ _ _ hj
    obtain ⟨oG, eG, nmG, qnG, g1, g2, g3⟩ := S'.get (.inr (.head _) : Kn F' _ G (GO g))
    have hgs := (S'.gls _ (.head _)).1
    obtain ⟨m, hm⟩ : ∃ m, N - j = m + 1 := ⟨N - j - 1, by omega⟩
    rw [hm] at hgo
    refine n_gen (P := GP sz e C I N) Rm1.h (B.lim.keeps S'.lib) hroom ⟨oG, nmG, qnG, eG, g1, g2, g3⟩ hgs hgo (fun v s₁ gs' hb hv => ?_) (fun s₁ hp h' hk' => ?_)
    · obtain ⟨_, ⟨k', t, hiv, rfl⟩, o, gj, hkap⟩ := hv
      rw [show N - 1 - (m + 1 - 1) = j from by omega] at hiv
      rw [show N - (m + 1 - 1) = j + 1 from by omega] at gj hkap
      obtain ⟨gb, gc, gi⟩ := gj.to
      have S2 := S'.gstep hI1 hI2 hI3 hb o gb gc gi
      obtain ⟨oG2, eG2, nmG2, qnG2, g12, g22, g32⟩ := S2.get (.inr (.head _) : Kn F' _ G (GO g))
      refine go _ _ _ _ ⟨oG2, nmG2, qnG2, eG2, g12, g22, g32⟩ ?_
      refine wpAny_mono (turn j k' t F' vs' nw' _ _ _ _ _ hiv hj hz' S2) (fun _ s₂ h₂ => wpAny_mono h₂ (fun f s₃ h₃ => ?_) fun _ _ x => x.elim) fun _ _ x => x.elim
      have nx : (∃ F vs nw, St hL s0 F env nm vs ((G, GO g) :: (C, CO C (vsJ za sz e (j + 1))) :: (I, PI za e (j + 1)) :: nw) [(g, gs')] s₃ ∧ J (j + 1) F vs nw ∧ Bs F za (LO (nD sz))) → ∃ m, m < k ∧ ((m = N ∧ s₃ = s) ∨ ∃ j F' vs' nw' gs, m = N - (j + 1) ∧ J (j + 1) F' vs' nw' ∧ Bs F' za (LO (nD sz)) ∧
                  (∀ s'', GJ hL za sz e C I (j + 1) s'' → 0 < N - (j + 1) → gs.Goes (model prog w) A.in1 (GR sz e C I N) (GY hL za sz e C I N) (N - (j + 1)) (.send .none) s'') ∧
                  St hL s0 F' env nm vs' ((G, GO g) :: (C, CO C (vsJ za sz e (j + 1))) :: (I, PI za e (j + 1)) :: nw') [(g, gs)] s₃) := by
        rintro ⟨F3, vs3, nw3, S3, hj3, hz3⟩
        refine ⟨N - (j + 1), by omega, .inr ⟨j, F3, vs3, nw3, gs', rfl, hj3, hz3, fun s'' gj'' hpos => ?_, S3⟩⟩
        have e1 : N - (j + 1) = m := by omega
        rw [e1] at hpos ⊢
        exact hkap (by omega) s'' gj''
      cases f with
      | next => exact nx h₃
      | cont => exact nx h₃
      | brk => exact hR _ _ h₃
      | ret v => exact hR _ _ h₃
    · obtain ⟨hiv, o, hbr⟩ := hp
      rw [show N - (m + 1) = j from by omega] at hiv
      exact wpAny_execs_nil (hR _ _ (done j F' vs' nw' _ hiv hj (S'.gdrop hI1 hI2 hI3 rfl o hbr hk')))
  rintro k s' (⟨rfl, rfl⟩ | ⟨j, F', vs', nw', gs, rfl, hj, hz', hgo, S'⟩)
  · refine step 0 F vs nw _ _ _ j0 hz S hIF hIO hIL ?_ _ rfl
    refine g_fresh B Dg Eg hsz hh1 hN ⟨S.lib, bare_set S.bare rfl, S.get (.inl hz), pc _ ec⟩ hIs
  · have hIl := S'.led _ (.tail _ (.tail _ (.head _)))
    have nd := S'.nd
    simp only [List.map_cons, List.nodup_cons, List.mem_cons, not_or] at nd
    obtain ⟨⟨n1, n2, n3⟩, ⟨n4, n5⟩, n6, n7⟩ := nd
    have hjN := hJ _ _ _ _ hj
    refine step (j + 1) F' vs' nw' gs _ s' hj hz' (S'.sub (.cons₂ _ (.cons₂ _ (List.sublist_cons_self _ _)))) hIl.2.1 hIl.2.2 ?_ (hgo _ (.of S'.lib (bare_set S'.bare rfl) (S'.get (.inl hz')) (S'.led _ (.tail _ (.head _))).1 hIl.1) (by omega)) _ rfl
    simp only [List.map_cons, List.mem_cons, not_or]
    exact ⟨Ne.symm n2, Ne.symm n4, n6⟩
end
section
variable {prog : Program} {w : World} {A : Around} {E : Value → Shared → Prop} {hL : Heap} {mg mb : Str → Option Value} {s0 : Shared} {F : Addr → Option Obj} {env : Env} {nm : List Str} {vs vs' : List (Option D)} {nw nw' : List (Addr × OP)} {gl : List (Nat × GenState)} {s : Shared} {Q : Value → Shared → Prop}
theorem f_gen (B : Lb w hL mg mb) (S : St hL s0 F env nm vs nw [] s) (R : Rm 1 A) {za : Addr} (h : ∀ G C g s', St hL s0 F env nm vs ((G, GO g) :: (C, CO C [some (.val (.ref za)), none, none]) :: nw) [(g, .fresh (.func (bodOf (stA 5)) (genv w C)))] s' → s'.heap.IsGen G g → Q (.ref G) s') :
    wpAny (model prog w) A (call (.ref 42) [.ref za]) Q E s := by
  obtain ⟨o, ho, hd⟩ := fd_get (a := 42) B.K (by kernel_rfl)
  refine wpAny_call (codeAny_call_generator (fd := fdAt w 42) (body := bodOf (stA 5)) (by have := R.d; omega) (S.lib _ _ ho) hd (by kernel_rfl) (by kernel_rfl) (by kernel_rfl) ((codeRec_of B.K (by kernel_rfl)).keeps S.lib) ?_)
  refine wpAny_of_eq (a := [(Str.ofString "grouping", .ref za)]) (by kernel_rfl) ?_
  have hall : ((fdAt w 42).scope.names.all fun x => !(x.2 == .cell)) = true := by kernel_rfl
  refine wpAny_newFunctionEnv (fun x hx q => by have := List.all_eq_true.mp hall x hx; rw [q] at this; cases this) (by intro x hx; obtain rfl := List.mem_singleton.mp hx; kernel_rfl) (fun h' hn hs => ?_) (by kernel_rfl)
  have henv : newEnv (fdAt w 42).scope s.heap.objs.size (fdAt w 42).globals (fdAt w 42).closure ((fdAt w 42).qualname ++ ".<locals>.") (some 42) (fdAt w 42).code none (fdAt w 42).builtins = genv w s.heap.objs.size := by kernel_rfl
  rw [henv]
  have hC := S.none_size
  have keep : ∀ b o, s.heap.get? b = some o → h'.get? b = some o := fun b o e => hs.extBut b o (fun q => by rw [q, hC] at e; cases e) (Heap.get?_push_of_some _ e)
  generalize hCs : s.heap.objs.size = C at hC hn hs ⊢
  have X1 : Ext s { s with heap := h', toks := s.toks + 1 } := .grow keep
  have hco : ∃ o, h'.get? C = some o ∧ CO C [some (.val (.ref za)), none, none] o := by
    refine CO.of ⟨_, hn, fun x d a => ?_⟩
    cases a with
    | head => exact ⟨.ref za, by kernel_rfl, rfl⟩
    | tail a => cases a with
      | tail a => cases a with
        | tail a => cases a
  obtain ⟨oc, ec, pc⟩ := hco
  have S1 := S.add X1 hC ec pc
  refine ⟨B.lim.keeps S1.lib, ?_⟩
  have hG := S1.none_size
  have hlt : s0.gens.size ≤ s.gens.size := by
    rcases Nat.lt_or_ge s.gens.size s0.gens.size with q | q
    · have := S.gens s.gens.size _ (Array.getElem?_eq_getElem q)
      rw [Array.getElem?_eq_none (Nat.le_refl _)] at this; cases this
    · exact q
  refine h _ C s.gens.size _ ?_ ?_
  · have X2 : Ext ({ s with heap := h', toks := s.toks + 1 } : Shared) { s with gens := s.gens.push (.fresh (.func (bodOf (stA 5)) (genv w C))), toks := s.toks + 1 + 1 + 1, heap := h'.push { cls := .type "generator", data := .fields #[.int s.gens.size 0, .str (fdAt w 42).name (s.toks + 1), .str (fdAt w 42).qualname (s.toks + 1 + 1)] } } :=
      ⟨fun b o e => Heap.get?_push_of_some _ e, fun i x e => by
        have hi : i < s.gens.size := (Array.getElem?_eq_some_iff.mp e).1
        show (s.gens.push _)[i]? = some x
        rw [Array.getElem?_push, if_neg (Nat.ne_of_lt hi)]; exact e, fun hb => hb.push rfl, rfl⟩
    have S2 := S1.add X2 hG (Heap.get?_push_size _ rfl) (P := GO s.gens.size) ⟨_, _, rfl, rfl, rfl⟩
    refine { S2 with gls := ?_ }
    intro p hp
    obtain rfl := List.mem_singleton.mp hp
    exact ⟨Array.getElem?_push_size .., hlt⟩
  · exact ⟨_, _, _, Heap.get?_push_size _ rfl, rfl, rfl, rfl⟩
end


noncomputable def cutGo (l : List Nat) (g : Nat) : Nat → Nat → Nat
  | 0, k => k
  | d + 1, k => if k ≤ l.length ∧ ilev (l.take k) g < g then cutGo l g d (k + 1) else k
noncomputable def cutK (l : List Nat) (g : Nat) : Nat := cutGo l g l.length 1
theorem cutGo_le (l : List Nat) (g : Nat) : ∀ d k, k ≤ cutGo l g d k ∧ cutGo l g d k ≤ k + d
  | 0, k => ⟨Nat.le_refl _, Nat.le_refl _⟩
  | d + 1, k => by
    have := cutGo_le l g d (k + 1)
    rw [cutGo]; split <;> omega
noncomputable def rdGo (f : Nat → Option Nat) : Nat → Nat → List Nat → List Nat → List Nat × List Nat
  | 0, _, l, fs => (fs, l)
  | d + 1, j, l, fs => match f j with
    | none => (fs ++ l.map fun c => 1 - (ws [c]).nt, [])
    | some g => if cutK l g > l.length then (fs, l) else rdGo f d (j + 1) (l.drop (cutK l g)) (fs ++ [(ws (l.take (cutK l g))).n - (ws (l.take (cutK l g))).nt])
noncomputable def blk (l : List Nat) : List Nat := l.take (ws l).n
noncomputable def rdOf (sz : List Nat) (e : Nat) (l : List Nat) : List Nat × List Nat := rdGo (iv sz e) ((blk l).length + 1) 0 (blk l) []
theorem wsGo_nt (l : List Nat) : ∀ v : WS, v.nt ≤ v.n → (wsGo l v).nt ≤ (wsGo l v).n := by
  induction l with
  | nil => intro v h; exact h
  | cons c r ih =>
    intro v h
    rw [wsGo]
    split
    · exact ih _ (by show v.nt ≤ v.n + 1; omega)
    · split
      · exact ih _ (by show v.nt + 1 ≤ v.n + 1; omega)
      · exact h
theorem ws_nt (l : List Nat) : (ws l).nt ≤ (ws l).n := wsGo_nt l _ (Nat.le_refl _)

theorem c_read {w : World} {hL : Heap} {mg mb : Str → Option Value} (B : Lb w hL mg mb) {prog : Program} {A : Around} {E : Value → Shared → Prop} {Q : Value → Shared → Prop} {s : Shared} {za : Addr} {t : Tok} {ln sz : List Nat} {e : Nat} (R : Rm 12 A) (P : Pr hL s) (hz : Bs s.heap.get? za (LO (nD sz))) (Eg : GE sz e) (hsz : sz.length ≤ 1000) (hgs : ∀ j k, iv sz e j = some k → 1 ≤ k ∧ k ≤ 1000) (hln : ln.length ≤ 500)
    (h : ∀ a fa s', Ext s s' → s.heap.get? a = none → s.heap.get? fa = none → Bs s'.heap.get? a (LO [.val (.ref fa), .str (T (rdOf sz e ln).2)]) → Bs s'.heap.get? fa (LO (nD (rdOf sz e ln).1)) → Q (.ref a) s') : wpAny (model prog w) A (call (.ref 137) [.str (T ln) t, .ref za]) Q E s := by
  refine enterF B (ds := [.str (T ln), .val (.ref za)]) [Str.ofString "line", Str.ofString "sizes"] [Str.ofString "figures", Str.ofString "left", Str.ofString "size", Str.ofString "k", Str.ofString "piece"] [Str.ofString "line", Str.ofString "sizes", Str.ofString "figures", Str.ofString "left", Str.ofString "size", Str.ofString "k", Str.ofString "piece"] [some (.str (T ln)), some (.val (.ref za)), none, none, none, none, none] P rfl rfl (by kernel_rfl) (by kernel_rfl) (by have := R.d; omega) rfl (by kernel_rfl) (by kernel_rfl) rfl (.cons ⟨_, rfl⟩ (.cons rfl .nil)) (by kernel_rfl) (by kernel_rfl) (by kernel_rfl) (by kernel_rfl) ?_
  intro L s₁ hLn S
  have R1 := R.deeper (env := callEnvC (fdAt w 137) L 137)
  generalize A.deeper (callEnvC (fdAt w 137) L 137) = A1 at R1 ⊢
  conv in bodOf _ => whnf
  have hu : A1.units + 64 < cLine := by have := R1.u; omega
  (repeat walk_at "go1")
  rename St _ _ _ _ _ _ _ _ _ => S0
  rename_i fa sA nA sB tA tB
  have fx := S0.fx
  refine c_ws B (R1.le (by omega)) S0.pr (by omega) ?_
  intro x dx tx ax s9 X W n1 n2 n3 n4
  obtain ⟨F1, S1, g1⟩ := S0.grow X
  replace W := W.grow g1 n1 n2 n3 n4
  have W1 := W.i
  have W2 := W.dd
  clear S0 n1 n2 n3 n4 X
  (repeat walk_at "go1")
  rename St _ _ _ _ _ _ _ _ _ => S0
  have bd := ws_bounds ln
  refine ss_upto S0 (by omega) (by have := szl; omega) ?_
  clear S0; intro t9 s9 S9
  rw [Int.toNat_natCast, show ln.take (ws ln).n = blk ln from rfl] at *
  have hbl : (blk ln).length ≤ 500 := by unfold blk; rw [List.length_take]; omega
  replace S9 := S9.shrink fx g1.sub
  clear g1 W W1 W2 fx
  (repeat walk_at "go1")
  refine wpAny_For ?_ (by intro _; rfl)
  (repeat walk_at "go1")
  rename St _ _ _ _ _ _ _ _ _ => S0
  refine f_gen B S0 (R1.le (by omega)) ?_
  clear S0; intro G C g s9 S9 ig
  refine wpAny_pyIter_gen ig ?_
  clear ig
  have hres : rdGo (iv sz e) ((blk ln).length + 1) 0 (blk ln) [] = rdOf sz e ln := rfl
  rw [show LO [] = LO (nD []) from rfl] at S9
  refine for_gen B (N := (blk ln).length + 2) Eg hsz (R1.le (by omega)) (by omega) S9 hz (fun j F' vs' nw' => s.heap.get? = F' ∧ ∃ l fs, j + l.length ≤ (blk ln).length ∧ fs.length ≤ j ∧ rdGo (iv sz e) ((blk ln).length + 1 - j) j l fs = rdOf sz e ln ∧ vs' = [some (.str (T ln)), some (.val (.ref za)), some (.val (.ref fa)), some (.str (T l)), none, none, none] ∧ nw' = [(fa, LO (nD fs))]) ⟨rfl, blk ln, [], by omega, Nat.le_refl _, rfl, rfl, rfl⟩ (by rintro j F' vs' nw' ⟨_, l, fs, h1, _⟩; omega) (fun v s Q E _ h => wpAny_pure h) ?turn ?done (fun _ _ h => h)
  case done =>
    rintro j F' vs' nw' s' hiv ⟨rfl, l, fs, hjl, hfl, hrd, rfl, rfl⟩ S'
    clear S9
    show wpAny _ _ (execs _ _) _ _ _
    have hfl2 : (nD fs).length ≤ 1000 := by rw [nD_length]; omega
    have hll : l.length ≤ 500 := by omega
    (repeat walk_at "go1")
    refine r_listcomp (cl := []) (by kernel_rfl) rfl (by decide) ?_
    (repeat walk_at "go1")
    rename St _ _ _ _ _ _ _ _ _ => S0
    refine i_str S0 ?_
    clear S0; intro I ty s9 it S9
    refine comp_end it R1.h S9 (by have := szl; omega) (fun _ _ => trivial) (by decide) rfl (by kernel_rfl) (by decide) (fun i nwc acc => nwc = [] ∧ acc = nD ((l.take i).map fun c => 1 - (ws [c]).nt)) ⟨rfl, rfl⟩ ?turn2 ?done2
    case turn2 =>
      rintro i d nwc acc C D₀ s' hi ⟨c, hc, rfl⟩ ⟨rfl, rfl⟩ hal S'
      clear S9
      refine wpAny_tests_nil ?_
      rw [if_pos rfl]
      (repeat walk_at "go1")
      rename St _ _ _ _ _ _ _ _ _ => S0
      have fx := S0.fx
      refine c_ws B (R1.le (by omega)) S0.pr (by show [c].length ≤ 1000; simp) ?_
      intro x dx tx ax s9 X W n1 n2 n3 n4
      obtain ⟨F1, S1, g1⟩ := S0.grow X
      replace W := W.grow g1 n1 n2 n3 n4
      have W1 := W.i
      have W2 := W.dd
      clear S0 n1 n2 n3 n4 X
      (repeat walk_at "go1")
      rename St _ _ _ _ _ _ _ _ _ => S0
      replace S0 := S0.shrink fx g1.sub
      have hnt : (ws [c]).nt ≤ 1 := (ws_bounds [c]).2.2.1
      have hci : l[i]? = some c := hc
      refine ⟨.int (1 - ((ws [c]).nt : Int)), _, okI, S0, rfl, ?_⟩
      rw [take_snoc l i hci, List.map_append, nD_append]
      have e1 : (1 : Int) - ((ws [c]).nt : Int) = ((1 - (ws [c]).nt : Nat) : Int) := by omega
      rw [e1]; rfl
    case done2 =>
      rintro nwc acc D₀ s' ⟨rfl, rfl⟩ hD S'
      clear S9
      rw [List.take_length, List.cons_append, List.nil_append] at S'
      have hml : (nD (l.map fun c => 1 - (ws [c]).nt)).length ≤ 500 := by rw [nD_length, List.length_map]; exact hll
      (repeat walk_at "go1")
      rename St _ _ _ _ _ _ _ _ _ => S0
      obtain ⟨d, hd⟩ : ∃ d, (blk ln).length + 1 - j = d + 1 := ⟨(blk ln).length - j, by omega⟩
      rw [hd, rdGo, hiv] at hrd
      have hrd' : (fs ++ l.map fun c => 1 - (ws [c]).nt, ([] : List Nat)) = rdOf sz e ln := hrd
      have e1 : (rdOf sz e ln).1 = fs ++ l.map fun c => 1 - (ws [c]).nt := by rw [← hrd']
      have e2 : (rdOf sz e ln).2 = [] := by rw [← hrd']
      rw [← nD_append, show Str.ofString "" = T [] from by kernel_rfl] at S0
      refine h _ _ _ S0.out (S0.new (by with_reducible repeat first | exact List.mem_cons_self | apply List.mem_cons_of_mem)) (S0.new (P := LO (nD (fs ++ l.map fun c => 1 - (ws [c]).nt))) (by with_reducible repeat first | exact List.mem_cons_self | apply List.mem_cons_of_mem)) ?_ ?_
      · rw [e2]; exact S0.bs (by with_reducible repeat first | exact List.mem_cons_self | apply List.mem_cons_of_mem)
      · rw [e1]; exact S0.bs (by with_reducible repeat first | exact List.mem_cons_self | apply List.mem_cons_of_mem)
  case turn =>
    rintro j k t9 F' vs' nw' s' P2 I P3 gs hiv ⟨rfl, l, fs, hjl, hfl, hrd, rfl, rfl⟩ hz' S'
    clear S9
    obtain ⟨hk1, hk2⟩ := hgs j k hiv
    (repeat walk_at "go1")
    refine cut_next (fun s' => St hL s s.heap.get? (callEnvC (fdAt w 137) L 137) [Str.ofString "line", Str.ofString "sizes", Str.ofString "figures", Str.ofString "left", Str.ofString "size", Str.ofString "k", Str.ofString "piece"] [some (.str (T ln)), some (.val (.ref za)), some (.val (.ref fa)), some (.str (T l)), some (.int k), some (.int (cutK l k : Nat)), none] [(G, GO g), (C, P2), (I, P3), (fa, LO (nD fs))] [(g, gs)] s') ?_ ?_
    · rename St _ _ _ _ _ _ _ _ _ => S0
      refine wpAny_While (codeAny_whileLoop (fun m s' => ∃ i, i + m = l.length + 1 ∧ 1 ≤ i ∧ cutGo l k m i = cutK l k ∧ St hL s s.heap.get? (callEnvC (fdAt w 137) L 137) [Str.ofString "line", Str.ofString "sizes", Str.ofString "figures", Str.ofString "left", Str.ofString "size", Str.ofString "k", Str.ofString "piece"] [some (.str (T ln)), some (.val (.ref za)), some (.val (.ref fa)), some (.str (T l)), some (.int k), some (.int (i : Nat)), none] [(G, GO g), (C, P2), (I, P3), (fa, LO (nD fs))] [(g, gs)] s') ?_ l.length ⟨1, by omega, Nat.le_refl _, rfl, S0.wk (by repeat constructor)⟩)
      clear S0
      rintro m s' ⟨i, him, hi1, hci, S'⟩
      refine isTrue_and ?_
      (repeat walk_at "go1")
      refine iteD (fun hle => ?_) (fun hle => ?_)
      · refine isTrue_and ?_
        (repeat walk_at "go1")
        rename St _ _ _ _ _ _ _ _ _ => S0
        refine ss_upto S0 (by omega) (by have := szl; omega) ?_
        clear S0; intro t9 s9 S9
        rw [Int.toNat_natCast] at *
        (repeat walk_at "go1")
        rename St _ _ _ _ _ _ _ _ _ => S0
        have fx := S0.fx
        have hil : (l.take i).length ≤ 1000 := by rw [List.length_take]; omega
        refine c_ws B (R1.le (by omega)) S0.pr hil ?_
        intro x dx tx ax s9 X W n1 n2 n3 n4
        obtain ⟨F1, S1, g1⟩ := S0.grow X
        replace W := W.grow g1 n1 n2 n3 n4
        have W1 := W.i
        have W2 := W.dd
        clear S0 n1 n2 n3 n4 X
        (repeat walk_at "go1")
        rename St _ _ _ _ _ _ _ _ _ => S0
        refine c_level B (R1.le (by omega)) S0.pr (W.here S0) hil hk1 hk2 ?_
        intro t9 s9 X
        have S9 := (S0.ext X).shrink fx g1.sub
        clear S0 X W W1 W2 g1 fx
        (repeat walk_at "go1")
        refine iteD (fun hlt => ?_) (fun hlt => ?_)
        · refine isTrue_and_nil ?_
          rw [if_pos rfl]
          (repeat walk_at "go1")
          rename St _ _ _ _ _ _ _ _ _ => S0
          obtain ⟨m', rfl⟩ : ∃ m', m = m' + 1 := ⟨m - 1, by omega⟩
          refine ⟨m', Nat.lt_succ_self _, i + 1, by omega, by omega, ?_, S0⟩
          rw [cutGo, if_pos ⟨by omega, by omega⟩] at hci
          exact hci
        · rw [if_neg (by decide)]
          refine wpAny_execs_nil ⟨rfl, ?_⟩
          rename St _ _ _ _ _ _ _ _ _ => S0
          have e1 : cutK l k = i := by
            rw [← hci]
            cases m with
            | zero => rfl
            | succ m => rw [cutGo, if_neg (by omega)]
          rw [e1]; exact S0
      · rw [if_neg (by decide)]
        refine wpAny_execs_nil ⟨rfl, ?_⟩
        rename St _ _ _ _ _ _ _ _ _ => S0
        have e1 : cutK l k = i := by
          rw [← hci]
          cases m with
          | zero => rfl
          | succ m => rw [cutGo, if_neg (by omega)]
        rw [e1]; exact S0
    · intro s' S'
      have hcl := cutGo_le l k l.length 1
      have hci : cutGo l k l.length 1 = cutK l k := rfl
      rw [hci] at hcl
      generalize hcc : cutK l k = c at S' hcl
      (repeat walk_at "go1")
      refine wpAny_If ?_
      (repeat walk_at "go1")
      refine iteD (fun hgt => ?_) (fun hgt => ?_)
      · (repeat walk_at "go1")
        rename St _ _ _ _ _ _ _ _ _ => S0
        obtain ⟨d, hd⟩ : ∃ d, (blk ln).length + 1 - j = d + 1 := ⟨(blk ln).length - j, by omega⟩
        rw [hd, rdGo, hiv] at hrd
        simp only [hcc] at hrd
        rw [if_pos (by omega)] at hrd
        have e1 : (rdOf sz e ln).1 = fs := by rw [← hrd]
        have e2 : (rdOf sz e ln).2 = l := by rw [← hrd]
        refine h _ fa _ S0.out (S0.new (by with_reducible repeat first | exact List.mem_cons_self | apply List.mem_cons_of_mem)) (S0.new (P := LO (nD fs)) (by with_reducible repeat first | exact List.mem_cons_self | apply List.mem_cons_of_mem)) ?_ ?_
        · rw [e2]; exact S0.bs (by with_reducible repeat first | exact List.mem_cons_self | apply List.mem_cons_of_mem)
        · rw [e1]; exact S0.bs (by with_reducible repeat first | exact List.mem_cons_self | apply List.mem_cons_of_mem)
      · (repeat walk_at "go1")
        rename St _ _ _ _ _ _ _ _ _ => S0
        refine ss_upto S0 (by omega) (by have := szl; omega) ?_
        clear S0; intro t9 s9 S9
        rw [Int.toNat_natCast] at *
        (repeat walk_at "go1")
        rename St _ _ _ _ _ _ _ _ _ => S0
        have fx := S0.fx
        have hil : (l.take c).length ≤ 1000 := by rw [List.length_take]; omega
        refine c_ws B (R1.le (by omega)) S0.pr hil ?_
        intro x dx tx ax s9 X W n1 n2 n3 n4
        obtain ⟨F1, S1, g1⟩ := S0.grow X
        replace W := W.grow g1 n1 n2 n3 n4
        have W1 := W.i
        have W2 := W.dd
        clear S0 n1 n2 n3 n4 X
        have hfl2 : (nD fs).length ≤ 1000 := by rw [nD_length]; omega
        (repeat walk_at "go1")
        rename St _ _ _ _ _ _ _ _ _ => S0
        have hnt := ws_nt (l.take c)
        rw [show D.int (((ws (l.take c)).n : Int) - (ws (l.take c)).nt) = D.int (((ws (l.take c)).n - (ws (l.take c)).nt : Nat) : Int) from by rw [Int.ofNat_sub hnt], ← nD_one] at S0
        refine ss_from S0 (by omega) (by have := szl; omega) ?_
        clear S0; intro t9 s9 S9
        rw [Int.toNat_natCast] at *
        (repeat walk_at "go1")
        rename St _ _ _ _ _ _ _ _ _ => S0
        replace S0 := (S0.wk (vs' := [some (.str (T ln)), some (.val (.ref za)), some (.val (.ref fa)), some (.str (T (l.drop c))), none, none, none]) (by repeat constructor)).shrink fx g1.sub
        obtain ⟨d, hd⟩ : ∃ d, (blk ln).length + 1 - j = d + 1 := ⟨(blk ln).length - j, by omega⟩
        rw [hd, rdGo, hiv] at hrd
        simp only [hcc] at hrd
        rw [if_neg (by omega)] at hrd
        refine ⟨_, _, _, S0, ⟨rfl, l.drop c, fs ++ [(ws (l.take c)).n - (ws (l.take c)).nt], ?_, ?_, ?_, rfl, rfl⟩, hz'⟩
        · rw [List.length_drop]; omega
        · rw [List.length_append]; show fs.length + 1 ≤ j + 1; omega
        · rw [show (blk ln).length + 1 - (j + 1) = d from by omega]; exact hrd


theorem snoc_lt (rs : List Nat) (c : Nat) {k : Nat} (h : k < rs.length) : (rs ++ [c]).getD k 0 = rs.getD k 0 := by
  simp [List.getElem?_append_left h]
theorem snoc_at (rs : List Nat) (c : Nat) : (rs ++ [c]).getD rs.length 0 = c := by simp
theorem coll_eq {a b : List Nat} (h : a = b) : collOf a b = 0 := by
  subst h
  rw [collOf, decide_eq_false (List.lt_irrefl _)]; rfl
theorem coll_lt {a b : List Nat} (h : a < b) : collOf a b = -1 := by
  rw [collOf, decide_eq_true h, decide_eq_false fun q => List.lt_irrefl _ (List.lt_trans h q)]; rfl
theorem coll_gt {a b : List Nat} (h : b < a) : collOf a b = 1 := by
  rw [collOf, decide_eq_true h, decide_eq_false fun q => List.lt_irrefl _ (List.lt_trans h q)]; rfl

theorem c_ordered {w : World} {hL : Heap} {mg mb : Str → Option Value} (B : Lb w hL mg mb) {prog : Program} {A : Around} {E : Value → Shared → Prop} {Q : Value → Shared → Prop} {s : Shared} {la ka : Addr} {ls ks : List (List Nat)} {krs : List Addr} (R : Rm 12 A) (P : Pr hL s) (hl : Bs s.heap.get? la (LO (ls.map fun l => .str (T l)))) (hk : Bs s.heap.get? ka (LO (krs.map fun a => .val (.ref a)))) (hkr : ∀ i, i < ks.length → Bs s.heap.get? (krs.getD i 0) (LO (nD (ks.getD i []))))
    (hn : ls.length = ks.length) (hn2 : krs.length = ks.length) (h2 : 2 ≤ ks.length) (h64 : ks.length < 64) (hks : ∀ i, i < ks.length → (ks.getD i []).length ≤ 1000) (hcp : ∀ l ∈ ls, Cp l)
    (ho : ∀ i j, i < ks.length → j < ks.length → (ks.getD i [] = ks.getD j [] → ls.getD i [] = ls.getD j []) ∧ (ks.getD i [] < ks.getD j [] → ls.getD i [] < ls.getD j []))
    (h : ∀ s', Ext s s' → Q (.bool true) s') : wpAny (model prog w) A (call (.ref 154) [.ref la, .ref ka]) Q E s := by
  refine enterF B (ds := [.val (.ref la), .val (.ref ka)]) [Str.ofString "lines", Str.ofString "keys"] [Str.ofString "i", Str.ofString "j", Str.ofString "due", Str.ofString "told", Str.ofString "order"] [Str.ofString "lines", Str.ofString "keys", Str.ofString "i", Str.ofString "j", Str.ofString "due", Str.ofString "told", Str.ofString "order"] [some (.val (.ref la)), some (.val (.ref ka)), none, none, none, none, none] P rfl rfl (by kernel_rfl) (by kernel_rfl) (by have := R.d; omega) rfl (by kernel_rfl) (by kernel_rfl) rfl (.cons rfl (.cons rfl .nil)) (by kernel_rfl) (by kernel_rfl) (by kernel_rfl) (by kernel_rfl) ?_
  intro L s₁ hLn S
  have R1 := R.deeper (env := callEnvC (fdAt w 154) L 154)
  generalize A.deeper (callEnvC (fdAt w 154) L 154) = A1 at R1 ⊢
  conv in bodOf _ => whnf
  have hu : A1.units + 80 < cLine := by have := R1.u; omega
  have hu2 : A1.units + 64 < cLine := by omega
  have gl : ∀ i, i < ks.length → (ls.map fun l => D.str (T l))[i]? = some (.str (T (ls.getD i []))) := fun i hi => by
    rw [List.getElem?_map, List.getD_eq_getElem?_getD, List.getElem?_eq_getElem (by omega)]; rfl
  have gk : ∀ i, i < ks.length → (krs.map fun a => D.val (.ref a))[i]? = some (.val (.ref (krs.getD i 0))) := fun i hi => by
    rw [List.getElem?_map, List.getD_eq_getElem?_getD, List.getElem?_eq_getElem (by omega)]; rfl
  have hll : (ls.map fun l => D.str (T l)).length = ks.length := by rw [List.length_map, hn]
  refine wpAny_execs_cons ?_
  with_reducible refine cut_next (fun s' => St hL s s.heap.get? (callEnvC (fdAt w 154) L 154) [Str.ofString "lines", Str.ofString "keys", Str.ofString "i", Str.ofString "j", Str.ofString "due", Str.ofString "told", Str.ofString "order"] [some (.val (.ref la)), some (.val (.ref ka)), none, none, none, none, none] [] [] s') ?_ ?_
  · refine wpAny_For ?_ (by intro _; rfl)
    (repeat walk_at "go1")
    rename St _ _ _ _ _ _ _ _ _ => S0
    refine f_range1 S0 ?_
    clear S0; intro r s9 S9
    rw [hll] at S9
    refine i_range S9 (by omega) (by omega) ?_
    clear S9; intro I s9 it S9
    have en : ((ks.length : Int) - 0).toNat = ks.length := by omega
    rw [en] at it S9
    refine for_core it R1.h S9 (fun i F' vs' nw' => s.heap.get? = F' ∧ vs' = [some (.val (.ref la)), some (.val (.ref ka)), none, none, none, none, none] ∧ nw' = []) ⟨rfl, rfl, rfl⟩ (fun _ _ _ _ _ _ _ => trivial) (fun v s Q E _ h => wpAny_pure h) ?turn ?done (fun _ _ h => h)
    case done =>
      rintro _ _ _ s' ⟨rfl, rfl, rfl⟩ S'
      exact ⟨rfl, (S'.wk (by repeat constructor))⟩
    case turn =>
      rintro i d v _ _ _ s' hi rfl ⟨t9, rfl⟩ ⟨rfl, rfl, rfl⟩ S'
      clear S9
      rw [Int.zero_add]
      (repeat walk_at "go1")
      rename St _ _ _ _ _ _ _ _ _ => S0
      with_reducible refine cut_next (fun s' => St hL s s.heap.get? (callEnvC (fdAt w 154) L 154) [Str.ofString "lines", Str.ofString "keys", Str.ofString "i", Str.ofString "j", Str.ofString "due", Str.ofString "told", Str.ofString "order"] [some (.val (.ref la)), some (.val (.ref ka)), some (.int i), none, none, none, none] [(I, RI 0 ks.length (i + 1))] [] s') ?_ ?_
      · refine wpAny_For ?_ (by intro _; rfl)
        (repeat walk_at "go1")
        rename St _ _ _ _ _ _ _ _ _ => S0
        refine f_range1 S0 ?_
        clear S0; intro r s9 S9
        rw [hll] at S9
        refine i_range S9 (by omega) (by omega) ?_
        clear S9; intro I2 s9 it2 S9
        rw [en] at it2 S9
        refine for_core it2 R1.h S9 (fun j F' vs' nw' => s.heap.get? = F' ∧ vs' = [some (.val (.ref la)), some (.val (.ref ka)), some (.int i), none, none, none, none] ∧ nw' = [(I, RI 0 ks.length (i + 1))]) ⟨rfl, rfl, rfl⟩ (fun _ _ _ _ _ _ _ => trivial) (fun v s Q E _ h => wpAny_pure h) ?turn2 ?done2 (fun _ _ h => h)
        case done2 =>
          rintro _ _ _ s' ⟨rfl, rfl, rfl⟩ S'
          exact ⟨rfl, (S'.wk (by repeat constructor))⟩
        case turn2 =>
          rintro j d v _ _ _ s' hj rfl ⟨t9, rfl⟩ ⟨rfl, rfl, rfl⟩ S'
          clear S9
          rw [Int.zero_add]
          walk_at "go1"
          walk_at "go1"
          walk_at "go1"
          rename St _ _ _ _ _ _ _ _ _ => S0
          with_reducible refine wpAny_Assign_Name ?_ rfl
          with_reducible refine cut_val (fun v s' => ∃ t, v = .int (collOf (ls.getD i []) (ls.getD j [])) t ∧ St hL s s.heap.get? (callEnvC (fdAt w 154) L 154) [Str.ofString "lines", Str.ofString "keys", Str.ofString "i", Str.ofString "j", Str.ofString "due", Str.ofString "told", Str.ofString "order"] [some (.val (.ref la)), some (.val (.ref ka)), some (.int i), some (.int j), none, none, none] [(I2, RI 0 ks.length (j + 1)), (I, RI 0 ks.length (i + 1))] [] s') ?_ (fun v s' hv => ?_)
          · (repeat walk_at "go1")
            rename St _ _ _ _ _ _ _ _ _ => S0
            refine l_get S0 (Kn.bas hk) (by omega) (by omega) (gk i hi) ?_ (by with_unfolding_all rfl)
            (first | (refine opI ?_; intro _) | (refine opS ?_; intro _) | refine opV ?_)
            (repeat walk_at "go1")
            rename St _ _ _ _ _ _ _ _ _ => S0
            refine l_get S0 (Kn.bas hk) (by omega) (by omega) (gk j hj) ?_ (by with_unfolding_all rfl)
            (first | (refine opI ?_; intro _) | (refine opS ?_; intro _) | refine opV ?_)
            (repeat walk_at "go1")
            rename St _ _ _ _ _ _ _ _ _ => S0
            refine q_eqN S0 (Kn.bas (hkr i hi)) (Kn.bas (hkr j hj)) hu2 ?_
            (repeat walk_at "go1")
            refine iteD (fun h1 => ?_) (fun h1 => ?_)
            · rw [coll_eq ((ho i j hi hj).1 h1)]
              (repeat walk_at "go1")
              exact ⟨_, rfl, by assumption⟩
            · (repeat walk_at "go1")
              rename St _ _ _ _ _ _ _ _ _ => S0
              refine l_get S0 (Kn.bas hk) (by omega) (by omega) (gk i hi) ?_ (by with_unfolding_all rfl)
              (first | (refine opI ?_; intro _) | (refine opS ?_; intro _) | refine opV ?_)
              (repeat walk_at "go1")
              rename St _ _ _ _ _ _ _ _ _ => S0
              refine l_get S0 (Kn.bas hk) (by omega) (by omega) (gk j hj) ?_ (by with_unfolding_all rfl)
              (first | (refine opI ?_; intro _) | (refine opS ?_; intro _) | refine opV ?_)
              (repeat walk_at "go1")
              rename St _ _ _ _ _ _ _ _ _ => S0
              refine q_ltN S0 (Kn.bas (hkr i hi)) (Kn.bas (hkr j hj)) hu2 ?_
              (repeat walk_at "go1")
              refine iteD (fun h2 => ?_) (fun h2 => ?_)
              · rw [coll_lt ((ho i j hi hj).2 h2)]
                (repeat walk_at "go1")
                exact ⟨_, rfl, by assumption⟩
              · rw [coll_gt ((ho j i hj hi).2 (List.not_le.mp fun q => h1 (List.le_antisymm q (List.not_lt.mp h2))))]
                (repeat walk_at "go1")
                exact ⟨_, rfl, by assumption⟩
          · obtain ⟨t9, rfl, S9⟩ := hv
            clear S0
            (repeat walk_at "go1")
            rename St _ _ _ _ _ _ _ _ _ => S0
            refine l_get S0 (Kn.bas hl) (by omega) (by omega) (gl i hi) ?_ (by with_unfolding_all rfl)
            (first | (refine opI ?_; intro _) | (refine opS ?_; intro _) | refine opV ?_)
            (repeat walk_at "go1")
            rename St _ _ _ _ _ _ _ _ _ => S0
            refine l_get S0 (Kn.bas hl) (by omega) (by omega) (gl j hj) ?_ (by with_unfolding_all rfl)
            (first | (refine opI ?_; intro _) | (refine opS ?_; intro _) | refine opV ?_)
            (repeat walk_at "go1")
            rename St _ _ _ _ _ _ _ _ _ => S0
            refine c_coll B (R1.le (by omega)) S0.pr ?_
            intro t9 s9 X
            have S9 := S0.ext X
            clear S0 X
            generalize collOf (ls.getD i []) (ls.getD j []) = co at S9 ⊢
            (repeat walk_at "go1")
            refine wpAny_If ?_
            refine isTrue_or ?_
            (repeat walk_at "go1")
            refine iteB (fun q => absurd q (by simp)) (fun _ => ?_)
            refine isTrue_or ?_
            refine isTrue_plain ?_
            (repeat walk_at "go1")
            rename St _ _ _ _ _ _ _ _ _ => S0
            refine f_isb S0 ?_
            clear S0; intro s9 S9
            (repeat walk_at "go1")
            refine iteB (fun q => by cases q) (fun _ => ?_)
            refine isTrue_or_nil ?_
            refine iteB (fun q => by cases q) (fun _ => ?_)
            (repeat walk_at "go1")
            rename St _ _ _ _ _ _ _ _ _ => S0
            exact ⟨_, _, _, S0.wk (by repeat constructor), rfl, rfl, rfl⟩
      · intro s' S'
        clear S0
        (repeat walk_at "go1")
        rename St _ _ _ _ _ _ _ _ _ => S0
        exact ⟨_, _, _, S0.wk (by repeat constructor), rfl, rfl, rfl⟩
  · intro s' S'
    clear S
    (repeat walk_at "go1")
    refine r_listcomp (cl := [(Str.ofString "keys", L + 2)]) (by kernel_rfl) rfl (by decide) ?_
    (repeat walk_at "go1")
    rename St _ _ _ _ _ _ _ _ _ => S0
    refine f_range1 S0 ?_
    clear S0; intro r s9 S9
    rw [hll] at S9
    refine i_range S9 (by omega) (by omega) ?_
    clear S9; intro I s9 it S9
    have en : ((ks.length : Int) - 0).toNat = ks.length := by omega
    rw [en] at it S9
    have k1 := comp_known S9 (Kn.bas hk)
    have k2 := fun i hi => comp_known S9 (Kn.bas (hkr i hi))
    refine comp_end it R1.h S9 (by have := szl; omega) (fun _ _ => trivial) (by decide) rfl (by kernel_rfl) (by decide) (fun i nwc acc => ∃ rs : List Addr, rs.length = i ∧ acc = rs.map (fun a => .val (.ref a)) ∧ ∀ k, k < i → (rs.getD k 0, LO ((rowN (ks.getD k []) k).map D.int)) ∈ nwc) ⟨[], rfl, rfl, fun k hk => absurd hk (Nat.not_lt_zero k)⟩ ?turn3 ?done3
    case turn3 =>
      rintro i d nwc acc C D₀ s' hi rfl ⟨rs, hrs, rfl, hro⟩ hal S'
      have c1 := comp_cap S9 S' (Str.ofString "keys") (L + 2) (by with_reducible repeat constructor) (by kernel_rfl) (by kernel_rfl) (by kernel_rfl) (by kernel_rfl)
      clear S9
      rw [Int.zero_add] at S' ⊢
      refine wpAny_tests_nil ?_
      rw [if_pos rfl]
      (repeat walk_at "go1")
      rename St _ _ _ _ _ _ _ _ _ => S0
      refine l_get S0 (Kn.bas k1) (by omega) (by omega) (gk i hi) ?_ (by with_unfolding_all rfl)
      (first | (refine opI ?_; intro _) | (refine opS ?_; intro _) | refine opV ?_)
      have k3 := k2 i hi
      have h9 := hks i hi
      (repeat walk_at "go1")
      rename St _ _ _ _ _ _ _ _ _ => S0
      rename_i c _ _
      rw [show nD (ks.getD i []) ++ [D.int (-1), D.int i] = (rowN (ks.getD i []) i).map D.int from by rw [nD_iN, rowN, List.map_append]; rfl] at S0
      refine ⟨.val (.ref c), (c, LO ((rowN (ks.getD i []) i).map D.int)) :: nwc, rfl, S0.sel (.cons (by with_reducible repeat constructor) (.cons (by with_reducible repeat constructor) (.cons (by with_reducible repeat constructor) (.drop (Sel.same _))))), rs ++ [c], by simp [hrs], by simp, fun k hk => ?_⟩
      by_cases q : k < i
      · rw [snoc_lt rs c (by omega)]
        exact .tail _ (hro k q)
      · obtain rfl : k = i := by omega
        subst hrs
        rw [snoc_at]
        exact .head _
    case done3 =>
      rintro nwc acc D₀ s' ⟨rs, hrs, rfl, hro⟩ hD S'
      clear S9
      rw [List.append_nil] at S'
      (repeat walk_at "go1")
      rename St _ _ _ _ _ _ _ _ _ => S0
      refine f_sortL S0 (rows := rs) (ks := (List.range ks.length).map fun i => rowN (ks.getD i []) i) (.own (.head _)) (by simp [hrs]) (by omega) (by omega) (fun i hi => ?_) hu ?_
      · have e : ((List.range ks.length).map fun i => rowN (ks.getD i []) i).getD i [] = rowN (ks.getD i []) i := by
          rw [List.getD_eq_getElem?_getD, List.getElem?_map, List.getElem?_range (by omega)]; rfl
        rw [e]
        exact .own (.tail _ (hro i (by omega)))
      clear S0
      intro D1 p s9 hps hpp hup n1 S9
      (repeat walk_at "go1")
      refine wpAny_Call_Name_kw ?_
      (repeat walk_at "go1")
      refine callWith_kw ?_
      (repeat walk_at "go1")
      refine kws_cons ?_
      (repeat walk_at "go1")
      refine kws_nil ?_
      rename St _ _ _ _ _ _ _ _ _ => S0
      refine f_sortS S0 (ls := ls) (Kn.bas hl) (by omega) (by omega) (fun s1 a t Q' P1 hq => c_xfrm B (R1.in1.in1.le (by omega)) P1 hq) ?_
      clear S0
      intro D2 q s9 hqs hqp hqu n2 S9
      rw [show (q.toList.map fun i => D.str (T (ls.getD i []))) = (q.toList.map fun i => ls.getD i []).map fun l => D.str (T l) from by rw [List.map_map]; rfl] at S9
      (repeat walk_at "go1")
      refine r_listcomp (cl := [(Str.ofString "lines", L + 1)]) (by kernel_rfl) rfl (by decide) ?_
      (repeat walk_at "go1")
      rename St _ _ _ _ _ _ _ _ _ => S0
      refine i_list S0 (.own (.tail _ (.head _))) ?_
      clear S0; intro I s9 it S9
      have hpl : ∀ {i k : Nat}, p.toList[i]? = some k → k < ks.length := fun {i k} e => by
        have := (hpp.mem_iff (a := k)).mp (by simpa using List.mem_of_getElem? e)
        simpa [hrs] using this
      have k1 := comp_known S9 (Kn.bas hl)
      have k2 : ∀ k, k < ks.length → Bs (fun b => if b = I then none else s9.heap.get? b) (rs.getD k 0) (LO ((nD (ks.getD k []) ++ [.int (-1)]) ++ [.int k])) := fun k hk => by
        have := comp_known S9 (Kn.own (.tail _ (.tail _ (.tail _ (hro k hk)))))
        rw [show (nD (ks.getD k []) ++ [.int (-1)]) ++ [.int k] = (rowN (ks.getD k []) k).map D.int from by rw [nD_iN, rowN, List.map_append, List.append_assoc]; rfl]
        exact this
      rw [List.length_map, Array.length_toList, hps, hrs] at it
      refine comp_end it R1.h S9 (by have := szl; omega) (fun h' hk' => ?_) (by decide) rfl (by kernel_rfl) (by decide) (fun i nwc acc => nwc = [] ∧ acc = (p.toList.take i).map fun i => .str (T (ls.getD i []))) ⟨rfl, rfl⟩ ?turn4 ?done4
      · obtain ⟨o, e, hp⟩ := comp_known S9 (Kn.own (.tail _ (.head _)))
        exact ⟨o, hk' _ _ e, hp⟩
      case turn4 =>
        rintro i d nwc acc C D₀ s' hi hd ⟨rfl, rfl⟩ hal S'
        have c1 := comp_cap S9 S' (Str.ofString "lines") (L + 1) (by with_reducible repeat constructor) (by kernel_rfl) (by kernel_rfl) (by kernel_rfl) (by kernel_rfl)
        clear S9
        rw [List.getElem?_map, Option.map_eq_some_iff] at hd
        obtain ⟨k, hk, rfl⟩ := hd
        have hkl := hpl hk
        refine wpAny_tests_nil ?_
        rw [if_pos rfl]
        have k3 := k2 k hkl
        (repeat walk_at "go1")
        rename St _ _ _ _ _ _ _ _ _ => S0
        refine l_get S0 (Kn.bas k1) (by omega) (by omega) (gl k hkl) ?_ (by with_unfolding_all rfl)
        (first | (refine opI ?_; intro _) | (refine opS ?_; intro _) | refine opV ?_)
        rename St _ _ _ _ _ _ _ _ _ => S0
        exact ⟨_, _, okS, S0, rfl, by rw [take_snoc _ i hk, List.map_append]; rfl⟩
      case done4 =>
        rintro nwc acc D₀ s' ⟨rfl, rfl⟩ hD S'
        clear S9
        rw [List.cons_append, List.nil_append] at S'
        rw [List.take_of_length_le (by rw [Array.length_toList]; omega), show (p.toList.map fun i => D.str (T (ls.getD i []))) = (p.toList.map fun i => ls.getD i []).map fun l => D.str (T l) from by rw [List.map_map]; rfl] at S'
        have hL : ∀ r : List Nat, ∀ l ∈ r.map fun i => ls.getD i [], Cp l := fun r l hl => by
          obtain ⟨i, _, rfl⟩ := List.mem_map.mp hl
          by_cases q : i < ls.length
          · rw [List.getD_eq_getElem?_getD, List.getElem?_eq_getElem q]; exact hcp _ (List.getElem_mem _)
          · rw [List.getD_eq_getElem?_getD, List.getElem?_eq_none (by omega)]; intro c hc; cases hc
        rename St _ _ _ _ _ _ _ _ _ => S0
        refine q_eqS S0 (.own (.tail _ (.head _))) (.own (.head _)) (hL _) (hL _) hu2 ?_
        rw [orders ho (rows := (List.range ks.length).map fun i => rowN (ks.getD i []) i) (fun i hi => by rw [List.getD_eq_getElem?_getD, List.getElem?_map, List.getElem?_range (by omega)]; rfl) (p := p) (q := q) (by omega) (by omega) (hrs ▸ hpp) (hn ▸ hqp) (hrs ▸ hup) (hn ▸ hqu), decide_eq_true rfl]
        exact h _ S0.out


noncomputable def lineOf (gs lf : List Nat) (wds : List (List Nat)) (t : Nat) (p : Int × Nat) : List Nat := leadOf (figs (pkOf t p.1) gs) gs ++ lf ++ wds.getD p.2 []
noncomputable def keyOf (wds : List (List Nat)) (t : Nat) (p : Int × Nat) : List Nat := pkOf t p.1 :: wds.getD p.2 []
theorem figs_length (n : Nat) (gs : List Nat) : (figs n gs).length = gs.length := by
  rw [figs, List.length_reverse, figR_length, List.length_reverse]
theorem picks_lt {n t : Nat} {p : Int × Nat} (h : p ∈ picksOf n t) : p.2 < 5 := by
  simp only [picksOf, List.mem_append, List.mem_cons, List.mem_map, List.mem_range, List.not_mem_nil, or_false] at h
  rcases h with ((rfl | rfl) | ⟨k, hk, rfl⟩) | (rfl | rfl)
  · decide
  · show 0 < 5; decide
  · exact hk
  · show 0 < 5; decide
  · show 2 < 5; decide
theorem shaped_fl (f : List Nat) {l : List Nat} (h : Cp l) : SeqAt.shaped (.list [.list (iP f), .str (T l)]) = true := by
  simp [SeqAt.shaped, PyData.canLay0, PyData.canLayAll0, PyData.depth, PyData.depthAll, canLay_iP, depth_iP, h.ok]
theorem eqv_fl (f l : List Nat) : PyData.eqv (.list [.list (iP f), .str (T l)]) (.list [.list (iP f), .str (T l)]) = true := by
  simp [PyData.eqv, PyData.eqvAll, eqvAll_iP]
theorem cp_line {fs gs lf wd : List Nat} (h1 : Cp lf) (h2 : Cp wd) : Cp (leadOf fs gs ++ lf ++ wd) := by
  intro c hc
  rcases List.mem_append.mp hc with hc | hc
  · rcases List.mem_append.mp hc with hc | hc
    · obtain ⟨l, hl, hc⟩ := List.mem_flatten.mp hc
      obtain ⟨i, _, rfl⟩ := List.mem_map.mp hl
      rcases List.mem_append.mp hc with hc | hc
      · rw [List.eq_of_mem_replicate hc]; decide
      · have := List.mem_of_mem_take hc
        rw [List.mem_singleton.mp this]; decide
    · exact h1 c hc
  · exact h2 c hc
structure NumOk (sz : List Nat) (e : Nat) (ld : List Nat) (wds : List (List Nat)) (fs lf gs : List Nat) : Prop where
  rd : rdOf sz e (ld ++ wds.getD 0 []) = (fs, lf)
  gp : gapsOf sz fs.length = gs
  len : gs.length = fs.length
  fl : fs.length ≤ 20
  ll : lf.length ≤ 20
  ldl : ld.length ≤ 100
  wl : wds.length = 5
  wll : ∀ k, (wds.getD k []).length ≤ 20
  g : ∀ i, gs.getD i 0 ≤ 10
  le : ∀ m i, (figs m gs).getD i 0 ≤ gs.getD i 0
  cl : Cp lf
  cw : ∀ k, Cp (wds.getD k [])
  line : ∀ p ∈ picksOf (numOf fs gs) (totOf gs), LineOk (lineOf gs lf wds (totOf gs) p) (figs (pkOf (totOf gs) p.1) gs) gs lf.length ∧ rdOf sz e (lineOf gs lf wds (totOf gs) p) = (figs (pkOf (totOf gs) p.1) gs, lf)
  first : lineOf gs lf wds (totOf gs) (numOf fs gs, 0) = ld ++ wds.getD 0 []
  ord : ∀ p q, p ∈ picksOf (numOf fs gs) (totOf gs) → q ∈ picksOf (numOf fs gs) (totOf gs) → (keyOf wds (totOf gs) p = keyOf wds (totOf gs) q → lineOf gs lf wds (totOf gs) p = lineOf gs lf wds (totOf gs) q) ∧ (keyOf wds (totOf gs) p < keyOf wds (totOf gs) q → lineOf gs lf wds (totOf gs) p < lineOf gs lf wds (totOf gs) q)

theorem c_numbered {w : World} {hL : Heap} {mg mb : Str → Option Value} (B : Lb w hL mg mb) {prog : Program} {A : Around} {E : Value → Shared → Prop} {Q : Value → Shared → Prop} {s : Shared} {za wa : Addr} {t : Tok} {sz ld fs lf gs : List Nat} {wds : List (List Nat)} {e : Nat} (R : Rm 15 A) (P : Pr hL s) (hz : Bs s.heap.get? za (LO (nD sz))) (hw : Bs s.heap.get? wa (LO (wds.map fun l => .str (T l)))) (Eg : GE sz e) (hsz : sz.length ≤ 1000) (hgs : ∀ j k, iv sz e j = some k → 1 ≤ k ∧ k ≤ 1000) (N : NumOk sz e ld wds fs lf gs)
    (h : ∀ s', Ext s s' → Q (.bool true) s') : wpAny (model prog w) A (call (.ref 159) [.str (T ld) t, .ref za, .ref wa]) Q E s := by
  refine enterF B (ds := [.str (T ld), .val (.ref za), .val (.ref wa)]) [Str.ofString "lead", Str.ofString "sizes", Str.ofString "words"] [Str.ofString "figures", Str.ofString "left", Str.ofString "gaps", Str.ofString "total", Str.ofString "number", Str.ofString "k", Str.ofString "picks", Str.ofString "keys", Str.ofString "lines", Str.ofString "pick", Str.ofString "which", Str.ofString "spelled", Str.ofString "line"] [Str.ofString "lead", Str.ofString "sizes", Str.ofString "words", Str.ofString "figures", Str.ofString "left", Str.ofString "gaps", Str.ofString "total", Str.ofString "number", Str.ofString "k", Str.ofString "picks", Str.ofString "keys", Str.ofString "lines", Str.ofString "pick", Str.ofString "which", Str.ofString "spelled", Str.ofString "line"] [some (.str (T ld)), some (.val (.ref za)), some (.val (.ref wa)), none, none, none, none, none, none, none, none, none, none, none, none, none] P rfl rfl (by kernel_rfl) (by kernel_rfl) (by have := R.d; omega) rfl (by kernel_rfl) (by kernel_rfl) rfl (.cons ⟨_, rfl⟩ (.cons rfl (.cons rfl .nil))) (by kernel_rfl) (by kernel_rfl) (by kernel_rfl) (by kernel_rfl) ?_
  intro L s₁ hLn S
  have R1 := R.deeper (env := callEnvC (fdAt w 159) L 159)
  generalize A.deeper (callEnvC (fdAt w 159) L 159) = A1 at R1 ⊢
  conv in bodOf _ => whnf
  have hu : A1.units + 80 < cLine := by have := R1.u; omega
  have hu2 : A1.units + 64 < cLine := by omega
  obtain ⟨nrd, ngp, nlen, nfl, nll, nldl, nwl, nwll, ng, nle, ncl, ncw, nline, nfirst, nord⟩ := N
  have gw : ∀ i, i < 5 → (wds.map fun l => D.str (T l))[i]? = some (.str (T (wds.getD i []))) := fun i hi => by
    rw [List.getElem?_map, List.getD_eq_getElem?_getD, List.getElem?_eq_getElem (by omega)]; rfl
  have hw0 := nwll 0
  (repeat walk_at "go1")
  refine Assign_Tuple ?_ rfl rfl
  (repeat walk_at "go1")
  rename St _ _ _ _ _ _ _ _ _ => S0
  refine l_get S0 (Kn.bas hw) (by omega) (by omega) (gw 0 (by omega)) ?_ (by with_unfolding_all rfl)
  (first | (refine opI ?_; intro _) | (refine opS ?_; intro _) | refine opV ?_)
  (repeat walk_at "go1")
  rename St _ _ _ _ _ _ _ _ _ => S0
  refine c_read B (R1.le (by omega)) S0.pr (S0.get (.inl hz)) Eg hsz hgs (by rw [List.length_append]; omega) ?_
  rw [nrd]
  intro ra fa s9 X n1 n2 hra hfa
  replace hra : Bs s9.heap.get? ra (LO [.val (.ref fa), .str (T lf)]) := hra
  replace hfa : Bs s9.heap.get? fa (LO (nD fs)) := hfa
  obtain ⟨F1, S1, g1⟩ := S0.grow X
  replace hz := g1.bs hz
  replace hw := g1.bs hw
  replace hra := g1.add n1 hra
  replace hfa := g1.add n2 hfa
  clear S0 g1 n1 n2 X
  (repeat walk_at "go1")
  rename St _ _ _ _ _ _ _ _ _ => S0
  refine as_list2 S0 R1.h (.inl hra) (by with_reducible repeat constructor) (by with_reducible repeat constructor) ?_
  clear S0; intro s9 S9
  clear hra
  (repeat walk_at "go1")
  rename St _ _ _ _ _ _ _ _ _ => S0
  rw [nD_length]
  refine c_gaps B (R1.le (by omega)) S0.pr (S0.get (.inl hz)) hsz (by omega) ?_
  rw [ngp]
  intro ga s9 X n1 hga
  obtain ⟨F2, S2, g1⟩ := S0.grow X
  replace hz := g1.bs hz
  replace hw := g1.bs hw
  replace hfa := g1.bs hfa
  replace hga := g1.add n1 hga
  clear S0 g1 n1 X
  (repeat walk_at "go1")
  rename St _ _ _ _ _ _ _ _ _ => S0
  with_reducible refine cut_next (fun s' => St hL s F2 (callEnvC (fdAt w 159) L 159) [Str.ofString "lead", Str.ofString "sizes", Str.ofString "words", Str.ofString "figures", Str.ofString "left", Str.ofString "gaps", Str.ofString "total", Str.ofString "number", Str.ofString "k", Str.ofString "picks", Str.ofString "keys", Str.ofString "lines", Str.ofString "pick", Str.ofString "which", Str.ofString "spelled", Str.ofString "line"] [some (.str (T ld)), some (.val (.ref za)), some (.val (.ref wa)), some (.val (.ref fa)), some (.str (T lf)), some (.val (.ref ga)), some (.int (tk gs gs.length : Nat)), some (.int (nk fs gs gs.length : Nat)), none, none, none, none, none, none, none, none] [] [] s') ?_ ?_
  · refine wpAny_For ?_ (by intro _; rfl)
    (repeat walk_at "go1")
    rename St _ _ _ _ _ _ _ _ _ => S0
    refine f_range1 S0 ?_
    clear S0; intro r s9 S9
    rw [nD_length] at S9
    refine i_range S9 (by omega) (by omega) ?_
    clear S9; intro I s9 it S9
    have en : ((gs.length : Int) - 0).toNat = gs.length := by omega
    rw [en] at it S9
    refine for_core it R1.h S9 (fun i F' vs' nw' => F2 = F' ∧ vs' = [some (.str (T ld)), some (.val (.ref za)), some (.val (.ref wa)), some (.val (.ref fa)), some (.str (T lf)), some (.val (.ref ga)), some (.int (tk gs i : Nat)), some (.int (nk fs gs i : Nat)), none, none, none, none, none, none, none, none] ∧ nw' = []) ⟨rfl, rfl, rfl⟩ (fun _ _ _ _ _ _ _ => trivial) (fun v s Q E _ h => wpAny_pure h) ?turn ?done (fun _ _ h => h)
    case done =>
      rintro _ _ _ s' ⟨rfl, rfl, rfl⟩ S'
      exact ⟨rfl, S'⟩
    case turn =>
      rintro i d v _ _ _ s' hi rfl ⟨t9, rfl⟩ ⟨rfl, rfl, rfl⟩ S'
      clear S9
      rw [Int.zero_add]
      have hif : i < fs.length := by omega
      have hg := ng i
      (repeat walk_at "go1")
      rename St _ _ _ _ _ _ _ _ _ => S0
      have e1 : ((tk gs (i + 1) : Nat) : Int) = (tk gs i : Nat) * ((gs.getD i 0 : Nat) + 1) := by rw [tk, Int.natCast_mul, Int.natCast_add]; rfl
      have e2 : ((nk fs gs (i + 1) : Nat) : Int) = (nk fs gs i : Nat) * ((gs.getD i 0 : Nat) + 1) + (fs.getD i 0 : Nat) := by rw [nk, Int.natCast_add, Int.natCast_mul, Int.natCast_add]; rfl
      rw [← e1, ← e2] at S0
      exact ⟨_, _, _, S0.wk (by repeat constructor), rfl, rfl, rfl⟩
  · intro s' S'
    clear S0
    have ht0 : 0 < tk gs gs.length := tk_pos _ _
    unfold totOf numOf at nline nfirst nord
    generalize tk gs gs.length = tt at nline nfirst nord ht0 S'
    generalize nk fs gs gs.length = nn at nline nfirst nord S'
    walk_at "go1"
    rename St _ _ _ _ _ _ _ _ _ => S0
    with_reducible refine wpAny_Assign_Name ?_ rfl
    with_reducible refine cut_val (fun v s' => ∃ (pa : Addr) (prs : List Addr) (nwp : List (Addr × OP)), v = .ref pa ∧ prs.length = 9 ∧ St hL s F2 (callEnvC (fdAt w 159) L 159) [Str.ofString "lead", Str.ofString "sizes", Str.ofString "words", Str.ofString "figures", Str.ofString "left", Str.ofString "gaps", Str.ofString "total", Str.ofString "number", Str.ofString "k", Str.ofString "picks", Str.ofString "keys", Str.ofString "lines", Str.ofString "pick", Str.ofString "which", Str.ofString "spelled", Str.ofString "line"] [some (.str (T ld)), some (.val (.ref za)), some (.val (.ref wa)), some (.val (.ref fa)), some (.str (T lf)), some (.val (.ref ga)), some (.int (tt : Nat)), some (.int (nn : Nat)), none, none, none, none, none, none, none, none] ((pa, LO (prs.map fun a => .val (.ref a))) :: nwp) [] s' ∧ ∀ k, k < 9 → (prs.getD k 0, TO [.int ((picksOf nn tt).getD k (0, 0)).1, .int ((picksOf nn tt).getD k (0, 0)).2]) ∈ nwp) ?_ (fun v s' hv => ?_)
    · (repeat walk_at "go1")
      rename_i t1 _ _ _ _ _ _ _ _ _ t2 _ _ l1 _ _ _
      refine r_listcomp (cl := [(Str.ofString "number", L + 1)]) (by kernel_rfl) rfl (by decide) ?_
      (repeat walk_at "go1")
      rename St _ _ _ _ _ _ _ _ _ => S0
      refine f_range1 S0 ?_
      clear S0; intro r s9 S9
      refine i_range S9 (by omega) (by omega) ?_
      clear S9; intro I s9 it S9
      have en : ((5 : Int) - 0).toNat = 5 := rfl
      rw [en] at it S9
      refine comp_end it R1.h S9 (by have := szl; omega) (fun _ _ => trivial) (by decide) rfl (by kernel_rfl) (by decide) (fun i nwc acc => ∃ rs : List Addr, rs.length = i ∧ acc = rs.map (fun a => .val (.ref a)) ∧ ∀ k, k < i → (rs.getD k 0, TO [.int (nn : Nat), .int (k : Nat)]) ∈ nwc) ⟨[], rfl, rfl, fun k hk => absurd hk (Nat.not_lt_zero k)⟩ ?turn3 ?done3
      case turn3 =>
        rintro i d nwc acc C D₀ s' hi rfl ⟨rs, hrs, rfl, hro⟩ hal S'
        have c1 := comp_cap S9 S' (Str.ofString "number") (L + 1) (by with_reducible repeat constructor) (by kernel_rfl) (by kernel_rfl) (by kernel_rfl) (by kernel_rfl)
        clear S9
        rw [Int.zero_add] at S' ⊢
        refine wpAny_tests_nil ?_
        rw [if_pos rfl]
        (repeat walk_at "go1")
        rename St _ _ _ _ _ _ _ _ _ => S0
        rename_i c _ _
        refine ⟨.val (.ref c), (c, TO [.int (nn : Nat), .int (i : Nat)]) :: nwc, rfl, S0.sel (.cons (by with_reducible repeat constructor) (.cons (by with_reducible repeat constructor) (.cons (by with_reducible repeat constructor) (Sel.same _)))), rs ++ [c], by simp [hrs], by simp, fun k hk => ?_⟩
        by_cases q : k < i
        · rw [snoc_lt rs c (by omega)]
          exact .tail _ (hro k q)
        · obtain rfl : k = i := by omega
          subst hrs
          rw [snoc_at]
          exact .head _
      case done3 =>
        rintro nwc acc D₀ s' ⟨rs, hrs, rfl, hro⟩ hD S'
        clear S9
        rw [List.cons_append] at S'
        (repeat walk_at "go1")
        rename St _ _ _ _ _ _ _ _ _ => S0
        have k1 : Kn F2 ((D₀, LO (rs.map fun a => D.val (.ref a))) :: (nwc ++ [(l1, LO [D.val (.ref t1), D.val (.ref t2)]), (t2, TO [D.int ((nn : Nat) - 1), D.int 0]), (t1, TO [D.int 0, D.int 1])])) l1 (LO [D.val (.ref t1), D.val (.ref t2)]) := .own (.tail _ (List.mem_append_right _ (.head _)))
        refine b_cat S0 k1 (.own (.head _)) (by rw [List.length_map, hrs]; have := szl; simp only [List.length_cons, List.length_nil]; omega) ?_
        clear S0 k1; intro c1 s9 _ S9
        (repeat walk_at "go1")
        rename_i t3 _ _ _ _ _ _ _ _ _ t4 _ _ l2 _ _ c2 _ _ _
        rename St _ _ _ _ _ _ _ _ _ => S0
        rw [show ([D.val (.ref t1), D.val (.ref t2)] ++ rs.map fun a => D.val (.ref a)) ++ [D.val (.ref t3), D.val (.ref t4)] = ([t1, t2] ++ rs ++ [t3, t4]).map fun a => D.val (.ref a) from by simp] at S0
        refine ⟨c2, [t1, t2] ++ rs ++ [t3, t4], _, rfl, by simp [hrs], S0, ?_⟩
        match rs, hrs with
        | [r0, r1, r2, r3, r4], _ =>
          intro k hk
          match k, hk with
          | 0, _ => exact .tail _ (.tail _ (.tail _ (.tail _ (.tail _ (List.mem_append_right _ (.tail _ (.tail _ (.head _))))))))
          | 1, _ => exact .tail _ (.tail _ (.tail _ (.tail _ (.tail _ (List.mem_append_right _ (.tail _ (.head _)))))))
          | 2, _ => exact .tail _ (.tail _ (.tail _ (.tail _ (.tail _ (List.mem_append_left _ (hro 0 (by omega)))))))
          | 3, _ => exact .tail _ (.tail _ (.tail _ (.tail _ (.tail _ (List.mem_append_left _ (hro 1 (by omega)))))))
          | 4, _ => exact .tail _ (.tail _ (.tail _ (.tail _ (.tail _ (List.mem_append_left _ (hro 2 (by omega)))))))
          | 5, _ => exact .tail _ (.tail _ (.tail _ (.tail _ (.tail _ (List.mem_append_left _ (hro 3 (by omega)))))))
          | 6, _ => exact .tail _ (.tail _ (.tail _ (.tail _ (.tail _ (List.mem_append_left _ (hro 4 (by omega)))))))
          | 7, _ => exact .tail _ (.tail _ (.head _))
          | 8, _ => exact .tail _ (.head _)
    · obtain ⟨pa, prs, nwp, rfl, hpl, S9, hpr⟩ := hv
      clear S0
      (repeat walk_at "go1")
      rename_i ka _ _ _ la _ _ _ _
      with_reducible refine cut_next (fun s' => ∃ (krs : List Addr) (nwk : List (Addr × OP)), krs.length = 9 ∧ St hL s F2 (callEnvC (fdAt w 159) L 159) [Str.ofString "lead", Str.ofString "sizes", Str.ofString "words", Str.ofString "figures", Str.ofString "left", Str.ofString "gaps", Str.ofString "total", Str.ofString "number", Str.ofString "k", Str.ofString "picks", Str.ofString "keys", Str.ofString "lines", Str.ofString "pick", Str.ofString "which", Str.ofString "spelled", Str.ofString "line"] [some (.str (T ld)), some (.val (.ref za)), some (.val (.ref wa)), some (.val (.ref fa)), some (.str (T lf)), some (.val (.ref ga)), some (.int (tt : Nat)), some (.int (nn : Nat)), none, some (.val (.ref pa)), some (.val (.ref ka)), some (.val (.ref la)), none, none, none, none] ((la, LO ((picksOf nn tt).map fun p => .str (T (lineOf gs lf wds tt p)))) :: (ka, LO (krs.map fun a => .val (.ref a))) :: nwk) [] s' ∧ ∀ k, k < 9 → (krs.getD k 0, LO (nD (keyOf wds tt ((picksOf nn tt).getD k (0, 0))))) ∈ nwk) ?_ ?_
      · refine wpAny_For ?_ (by intro _; rfl)
        (repeat walk_at "go1")
        rename St _ _ _ _ _ _ _ _ _ => S0
        refine i_list S0 (.own (.tail _ (.tail _ (.head _)))) ?_
        clear S0; intro I s9 it S9
        rw [List.length_map, hpl] at it
        have hpk : (picksOf nn tt).length = 9 := rfl
        refine for_core it R1.h S9 (fun i F' vs' nw' => F2 = F' ∧ vs' = [some (.str (T ld)), some (.val (.ref za)), some (.val (.ref wa)), some (.val (.ref fa)), some (.str (T lf)), some (.val (.ref ga)), some (.int (tt : Nat)), some (.int (nn : Nat)), none, some (.val (.ref pa)), some (.val (.ref ka)), some (.val (.ref la)), none, none, none, none] ∧ ∃ (krs : List Addr) (nwk : List (Addr × OP)), krs.length = i ∧ nw' = (la, LO (((picksOf nn tt).take i).map fun p => .str (T (lineOf gs lf wds tt p)))) :: (ka, LO (krs.map fun a => .val (.ref a))) :: (pa, LO (prs.map fun a => .val (.ref a))) :: nwk ∧ (∀ k, k < i → (krs.getD k 0, LO (nD (keyOf wds tt ((picksOf nn tt).getD k (0, 0))))) ∈ nwk) ∧ ∀ k, k < 9 → (prs.getD k 0, TO [.int ((picksOf nn tt).getD k (0, 0)).1, .int ((picksOf nn tt).getD k (0, 0)).2]) ∈ nwk) ⟨rfl, rfl, [], nwp, rfl, rfl, fun k hk => absurd hk (Nat.not_lt_zero k), hpr⟩ ?side (fun v s Q E hi h => go_list hi h) ?turn4 ?done4 (fun _ _ h => h)
        case side =>
          rintro i _ _ _ s' ⟨rfl, rfl, krs, nwk, hkl, rfl, hkr, hpr⟩ S'
          exact S'.get (.inr (.tail _ (.tail _ (.tail _ (.head _)))))
        case done4 =>
          rintro _ _ _ s' ⟨rfl, rfl, krs, nwk, hkl, rfl, hkr, hpr⟩ S'
          refine ⟨rfl, krs, nwk, hkl, S'.sel (.cons .head (.cons .head (.drop (Sel.same _)))), hkr⟩
        case turn4 =>
          rintro i d v _ _ _ s' hi hd okv ⟨rfl, rfl, krs, nwk, hkl, rfl, hkr, hpr⟩ S'
          clear S9
          obtain ⟨p, hpe, hpD⟩ : ∃ p, (picksOf nn tt)[i]? = some p ∧ (picksOf nn tt).getD i (0, 0) = p := ⟨(picksOf nn tt)[i], List.getElem?_eq_getElem (by omega), by rw [List.getD_eq_getElem?_getD, List.getElem?_eq_getElem (by omega)]; rfl⟩
          have hpi := hpr i hi
          rw [hpD] at hpi
          have hpm := List.mem_of_getElem? hpe
          obtain ⟨hline, hrdl⟩ := nline p hpm
          have hp2 := picks_lt hpm
          have hwp := nwll p.2
          have e : (prs.map fun a => D.val (.ref a))[i]? = some (.val (.ref (prs.getD i 0))) := by
            rw [List.getElem?_map, List.getD_eq_getElem?_getD, List.getElem?_eq_getElem (by omega)]; rfl
          rw [e] at hd
          cases hd
          cases okv
          have hlo : lineOf gs lf wds tt p = leadOf (figs (pkOf tt p.1) gs) gs ++ lf ++ wds.getD p.2 [] := rfl
          have hle := nle (pkOf tt p.1)
          have hsl : (figs (pkOf tt p.1) gs).length = gs.length := figs_length _ _
          have hld := ld_len (figs (pkOf tt p.1) gs) gs hle ng gs.length
          have fx := S'.fx
          refine as_tuple2 S' R1.h (.own (.tail _ (.tail _ (.tail _ (.tail _ hpi))))) (by with_reducible repeat constructor) (by with_reducible repeat constructor) ?_
          intro s9 S9
          clear S'
          (repeat walk_at "go1")
          rename St _ _ _ _ _ _ _ _ _ => S0
          rw [fmod_pk ht0]
          refine c_figs B (R1.le (by omega)) S0.pr (S0.get (.inl hga)) (by omega) (fun g hg => ?_) ?_
          · obtain ⟨j, hj, rfl⟩ := List.mem_iff_getElem.mp hg
            have := ng j
            rw [List.getD_eq_getElem?_getD, List.getElem?_eq_getElem hj] at this
            exact Nat.le_trans this (by omega)
          intro sa s9 X n1 hsa
          obtain ⟨F3, S3, g1⟩ := S0.grow X
          have hz3 := g1.bs hz
          have hw3 := g1.bs hw
          have hga3 := g1.bs hga
          replace hsa := g1.add n1 hsa
          have sub1 := g1.sub
          clear S0 g1 n1 X
          generalize figs (pkOf tt p.1) gs = sp at hlo hle hsl hld hline hrdl hsa
          (repeat walk_at "go1")
          rename St _ _ _ _ _ _ _ _ _ => S0
          refine c_lead B (R1.le (by omega)) S0.pr (S0.get (.inl hsa)) (S0.get (.inl hga3)) hsl (by omega) hle ng ?_
          intro t9 s9 X
          have S9 := S0.ext X
          clear S0 X
          rw [show ((List.range gs.length).map (ldP sp gs)).flatten = leadOf sp gs from rfl] at hld
          have hll2 : (leadOf sp gs ++ lf).length ≤ 250 := by rw [List.length_append]; omega
          have hll3 : (leadOf sp gs ++ lf ++ wds.getD p.2 []).length ≤ 300 := by rw [List.length_append]; omega
          generalize leadOf sp gs = ldd at hlo hld hll2 hll3 S9 ⊢
          (repeat walk_at "go1")
          rename St _ _ _ _ _ _ _ _ _ => S0
          refine l_get S0 (Kn.bas hw3) (by omega) (by omega) (gw p.2 hp2) ?_ (by with_unfolding_all rfl)
          (first | (refine opI ?_; intro _) | (refine opS ?_; intro _) | refine opV ?_)
          (repeat walk_at "go1")
          refine wpAny_If ?_
          refine isTrue_or ?_
          refine wpAny_isTrue_Not ?_
          refine isTrue_plain ?_
          rw [hlo] at hline hrdl
          generalize hln : ldd ++ lf ++ wds.getD p.2 [] = ln at *
          (repeat walk_at "go1")
          rename St _ _ _ _ _ _ _ _ _ => S0
          refine c_line B (R1.le (by omega)) S0.pr (S0.get (.inl hsa)) (S0.get (.inl hga3)) hsl (by omega) (by omega) (by omega) hline ?_
          intro s9 X
          have S9 := S0.ext X
          clear S0 X
          (repeat walk_at "go1")
          refine iteB (fun q => by cases q) (fun _ => ?_)
          refine isTrue_or ?_
          (repeat walk_at "go1")
          rename St _ _ _ _ _ _ _ _ _ => S0
          refine c_read B (R1.le (by omega)) S0.pr (S0.get (.inl hz3)) Eg hsz hgs (by omega) ?_
          rw [hrdl]
          intro ra2 fa2 s9 X n1 n2 hra2 hfa2
          replace hra2 : Bs s9.heap.get? ra2 (LO [.val (.ref fa2), .str (T lf)]) := hra2
          replace hfa2 : Bs s9.heap.get? fa2 (LO (nD sp)) := hfa2
          obtain ⟨F4, S4, g1⟩ := S0.grow X
          have hw4 := g1.bs hw3
          have hsa4 := g1.bs hsa
          replace hra2 := g1.add n1 hra2
          replace hfa2 := g1.add n2 hfa2
          have sub2 := g1.sub
          clear S0 g1 n1 n2 X hsa hga3 hz3 hw3
          (repeat walk_at "go1")
          rename St _ _ _ _ _ _ _ _ _ => S0
          refine q_ne (rd_list S0 (.inl hra2) (.val (rd_list S0 (.inl hfa2) (.nats _)) (.str .nil))) (rd_list S0 (by walk_at "kn") (.val (rd_list S0 (.inl hsa4) (.nats _)) (.str .nil))) (shaped_fl _ ncl) (shaped_fl _ ncl) hu2 ?_
          rw [eqv_fl]
          (repeat walk_at "go1")
          refine iteB (fun q => by cases q) (fun _ => ?_)
          refine isTrue_or_nil ?_
          refine iteB (fun q => by cases q) (fun _ => ?_)
          (repeat walk_at "go1")
          rename St _ _ _ _ _ _ _ _ _ => S0
          rw [fmod_pk ht0] at S0
          refine r_listcomp (cl := []) (by kernel_rfl) rfl (by decide) ?_
          (repeat walk_at "go1")
          rename St _ _ _ _ _ _ _ _ _ => S0
          refine l_get S0 (Kn.bas hw4) (by omega) (by omega) (gw p.2 hp2) ?_ (by with_unfolding_all rfl)
          (first | (refine opI ?_; intro _) | (refine opS ?_; intro _) | refine opV ?_)
          rename St _ _ _ _ _ _ _ _ _ => S0
          refine i_str S0 ?_
          clear S0; intro I2 ty s9 it2 S9
          refine comp_end it2 R1.h S9 (by have := szl; omega) (fun _ _ => trivial) (by decide) rfl (by kernel_rfl) (by decide) (fun i nwc acc => nwc = [] ∧ acc = nD ((wds.getD p.2 []).take i)) ⟨rfl, rfl⟩ ?turn5 ?done5
          case turn5 =>
            rintro j d nwc acc C D₀ s' hj ⟨c, hc, rfl⟩ ⟨rfl, rfl⟩ hal S'
            clear S9
            refine wpAny_tests_nil ?_
            rw [if_pos rfl]
            (repeat walk_at "go1")
            rename St _ _ _ _ _ _ _ _ _ => S0
            refine f_ord S0 ?_
            clear S0; intro t9 s9 S9
            exact ⟨_, _, okI, S9, rfl, by rw [take_snoc _ j hc, nD_append]; rfl⟩
          case done5 =>
            rintro nwc acc D₀ s' ⟨rfl, rfl⟩ hD S'
            clear S9
            rw [List.take_length, List.cons_append, List.nil_append] at S'
            have hkl2 : (nD (wds.getD p.2 [])).length ≤ 20 := by rw [nD_length]; exact hwp
            have hkr9 : (krs.map fun a => D.val (.ref a)).length ≤ 9 := by rw [List.length_map]; omega
            have hli9 : (((picksOf nn tt).take i).map fun p => D.str (T (lineOf gs lf wds tt p))).length ≤ 9 := by rw [List.length_map, List.length_take]; omega
            (repeat walk_at "go1")
            rename_i kv _ _ _ _ _ _
            rename St _ _ _ _ _ _ _ _ _ => S0
            rw [show [D.int ((pkOf tt p.1 : Nat) : Int)] ++ nD (wds.getD p.2 []) = nD (keyOf wds tt p) from rfl, show (krs.map fun a => D.val (.ref a)) ++ [D.val (.ref kv)] = (krs ++ [kv]).map fun a => D.val (.ref a) from by simp,
              show (((picksOf nn tt).take i).map fun p => D.str (T (lineOf gs lf wds tt p))) ++ [D.str (T ln)] = ((picksOf nn tt).take (i + 1)).map fun p => D.str (T (lineOf gs lf wds tt p)) from by rw [take_snoc _ i hpe, List.map_append, ← hlo]; rfl] at S0
            refine ⟨F2, _, _, ((S0.wk (by repeat constructor)).shrink fx (fun b o e => sub2 b o (sub1 b o e))).sel (.cons (by with_reducible repeat constructor) (.cons (by with_reducible repeat constructor) (.cons (by with_reducible repeat constructor) (.cons (by with_reducible repeat constructor) (.cons (by with_reducible repeat constructor) (.drop (.drop (.drop (Sel.same _))))))))), rfl, rfl, krs ++ [kv], (kv, LO (nD (keyOf wds tt p))) :: nwk, by simp [hkl], rfl, fun k hk => ?_, fun k hk => .tail _ (hpr k hk)⟩
            by_cases q : k < i
            · rw [snoc_lt krs kv (by omega)]
              exact .tail _ (hkr k q)
            · obtain rfl : k = i := by omega
              rw [hpD]
              subst hkl
              rw [snoc_at]
              exact .head _
      · rintro s' ⟨krs, nwk, hkl, S', hkr⟩
        (repeat walk_at "go1")
        refine BoolOp_and ?_
        (repeat walk_at "go1")
        rename St _ _ _ _ _ _ _ _ _ => S0
        refine l_get S0 (d := .str (T (lineOf gs lf wds tt ((nn : Int), 0)))) (.own (.head _)) (by omega) (by omega) rfl ?_ (by with_unfolding_all rfl)
        (first | (refine opI ?_; intro _) | (refine opS ?_; intro _) | refine opV ?_)
        (repeat walk_at "go1")
        rename St _ _ _ _ _ _ _ _ _ => S0
        refine l_get S0 (Kn.bas hw) (by omega) (by omega) (gw 0 (by omega)) ?_ (by with_unfolding_all rfl)
        (first | (refine opI ?_; intro _) | (refine opS ?_; intro _) | refine opV ?_)
        (repeat walk_at "go1")
        rw [nfirst]
        refine iteB (fun _ => ?_) (fun q => ?_)
        · refine BoolOp_one ?_
          (repeat walk_at "go1")
          rename St _ _ _ _ _ _ _ _ _ => S0
          rw [show ((picksOf nn tt).map fun p => D.str (T (lineOf gs lf wds tt p))) = ((picksOf nn tt).map (lineOf gs lf wds tt)).map fun l => D.str (T l) from by rw [List.map_map]; rfl] at S0
          have gm : ∀ {f : Int × Nat → List Nat} {i : Nat}, i < 9 → ((picksOf nn tt).map f).getD i [] = f ((picksOf nn tt).getD i (0, 0)) := fun {f i} hi => by
            have hi' : i < (picksOf nn tt).length := hi
            rw [List.getD_eq_getElem?_getD, List.getElem?_map, List.getD_eq_getElem?_getD, List.getElem?_eq_getElem hi']; rfl
          have gp : ∀ {i : Nat}, i < 9 → (picksOf nn tt).getD i (0, 0) ∈ picksOf nn tt := fun {i} hi => by
            have hi' : i < (picksOf nn tt).length := hi
            rw [List.getD_eq_getElem?_getD, List.getElem?_eq_getElem hi']; exact List.getElem_mem _
          refine c_ordered B (R1.le (by omega)) S0.pr (S0.get (.own (.head _))) (S0.get (.own (.tail _ (.head _)))) (ks := (picksOf nn tt).map (keyOf wds tt)) (fun i hi => ?_) rfl hkl (show 2 ≤ 9 by decide) (show 9 < 64 by decide) (fun i hi => ?_) (fun l hl => ?_) (fun i j hi hj => ?_) ?_
          · rw [gm hi]
            exact S0.get (.own (.tail _ (.tail _ (hkr i hi))))
          · rw [gm hi]
            have := nwll ((picksOf nn tt).getD i (0, 0)).2
            show (wds.getD _ []).length + 1 ≤ 1000
            omega
          · obtain ⟨p, hp, rfl⟩ := List.mem_map.mp hl
            exact cp_line ncl (ncw p.2)
          · rw [gm hi, gm hj, gm hi, gm hj]
            exact nord _ _ (gp hi) (gp hj)
          intro s9 X
          exact h _ (S0.ext X).out
        · rw [beq_self_eq_true] at q; cases q


noncomputable def seedOf (ns : List Int) : Int := (ns ++ [54]).getD 0 0
noncomputable def chOf (sd : Int) (p : Nat) : Nat := [32, 9].getD (((sd.fdiv 5).fdiv (2 ^ p)).fmod 2).toNat 0
noncomputable def tlen (sd : Int) : Nat := (sd.fmod 5 + 1).toNat
noncomputable def textOf (sd : Int) : List Nat := ((List.range (tlen sd)).map fun p => [chOf sd p]).flatten
noncomputable def drawnOf (ns : List Int) : List Nat := ((ns.drop 1 ++ [1, 2]).take 3).map fun (x : Int) => (x.fmod 3 + 1).toNat
noncomputable def endOf (n : Nat) : List Nat := [[0, 5, 127], [127, 2, 0], []].getD (n % 3) []
noncomputable def sgOf (ns : List Int) : List (List Nat) := (ns.take 4).map fun x => [signOf x]
noncomputable def mineOf (ns : List Int) : List (List Nat) := [[97, 32, 9], [66], [], ((sgOf ns).take 2).flatten, ((sgOf ns).drop 1).flatten]
theorem flat_single (f : Nat → Nat) (l : List Nat) : (l.map fun p => [f p]).flatten = l.map f := by
  induction l with
  | nil => rfl
  | cons a l ih => rw [List.map_cons, List.flatten_cons, ih]; rfl
theorem flat_len1 (l : List (List Nat)) (h : ∀ x ∈ l, x.length = 1) : l.flatten.length = l.length := by
  induction l with
  | nil => rfl
  | cons a l ih => rw [List.flatten_cons, List.length_append, h a (.head _), ih fun x hx => h x (.tail _ hx), List.length_cons]; omega
theorem end_len (n : Nat) : (endOf n).length ≤ 3 := by
  unfold endOf
  have hk : n % 3 < 3 := Nat.mod_lt _ (by decide)
  generalize n % 3 = k at hk
  match k, hk with
  | 0, _ => exact Nat.le_refl 3
  | 1, _ => exact Nat.le_refl 3
  | 2, _ => exact Nat.zero_le 3
noncomputable def Num (sz ld : List Nat) (wds : List (List Nat)) : Prop := ∃ e fs lf gs, GE sz e ∧ (∀ j k, iv sz e j = some k → 1 ≤ k ∧ k ≤ 1000) ∧ NumOk sz e ld wds fs lf gs ∧ sz.length ≤ 1000
theorem fmod_lo (a : Int) {b : Int} (h : 0 < b) : 0 ≤ a.fmod b := by rw [Int.fmod_eq_emod_of_nonneg _ (by omega)]; exact Int.emod_nonneg _ (by omega)
theorem fmod_hi (a : Int) {b : Int} (h : 0 < b) : a.fmod b < b := by rw [Int.fmod_eq_emod_of_nonneg _ (by omega)]; exact Int.emod_lt_of_pos _ h

theorem c_law {w : World} {hL : Heap} {mg mb : Str → Option Value} (B : Lb w hL mg mb) {prog : Program} {A : Around} {E : Value → Shared → Prop} {Q : Value → Shared → Prop} {s : Shared} {a : Addr} {ns : List Int} (R : Rm 20 A) (P : Pr hL s) (hs : Bs s.heap.get? a (LW (ns.map D.int))) (hn : ns.length ≤ 63) (N1 : Num (drawnOf ns ++ endOf ns.length) (textOf (seedOf ns)) (mineOf ns)) (N2 : Num [(drawnOf ns).getD 0 0, 0] (textOf (seedOf ns)) (mineOf ns))
    (h : ∀ s', Ext s s' → Q (.bool true) s') : wpAny (model prog w) A (call (.ref 164) [.ref a]) Q E s := by
  refine enterF B (ds := [.val (.ref a)]) [Str.ofString "script"] [Str.ofString "seed", Str.ofString "text", Str.ofString "drawn", Str.ofString "ending", Str.ofString "signs", Str.ofString "mine"] [Str.ofString "script", Str.ofString "seed", Str.ofString "text", Str.ofString "drawn", Str.ofString "ending", Str.ofString "signs", Str.ofString "mine"] [some (.val (.ref a)), none, none, none, none, none, none] P rfl rfl (by kernel_rfl) (by kernel_rfl) (by have := R.d; omega) rfl (by kernel_rfl) (by kernel_rfl) rfl (.cons rfl .nil) (by kernel_rfl) (by kernel_rfl) (by kernel_rfl) (by kernel_rfl) ?_
  intro L s₁ hLn S
  have R1 := R.deeper (env := callEnvC (fdAt w 164) L 164)
  generalize A.deeper (callEnvC (fdAt w 164) L 164) = A1 at R1 ⊢
  conv in bodOf _ => whnf
  have hu : A1.units + 80 < cLine := by have := R1.u; omega
  have hu2 : A1.units + 64 < cLine := by omega
  have hnl : (ns.map D.int).length ≤ 63 := by rw [List.length_map]; exact hn
  (repeat walk_at "go1")
  rename St _ _ _ _ _ _ _ _ _ => S0
  refine b_catW S0 (Kn.bas hs) (.own (.head _)) (by have := szl; simp only [List.length_cons, List.length_nil]; omega) ?_
  clear S0; intro c s9 _ S9
  (repeat walk_at "go1")
  rename St _ _ _ _ _ _ _ _ _ => S0
  refine l_get S0 (d := .int (seedOf ns)) (.own (.head _)) (by omega) (by omega) (by unfold seedOf; cases ns <;> rfl) ?_ (by with_unfolding_all rfl)
  (first | (refine opI ?_; intro _) | (refine opS ?_; intro _) | refine opV ?_)
  have ht := fmod_lo (seedOf ns) (b := 5) (by decide)
  have ht2 := fmod_hi (seedOf ns) (b := 5) (by decide)
  (repeat walk_at "go1")
  refine r_listcomp (cl := [(Str.ofString "seed", L + 1)]) (by kernel_rfl) rfl (by decide) ?_
  (repeat walk_at "go1")
  rename St _ _ _ _ _ _ _ _ _ => S0
  refine f_range1 S0 ?_
  clear S0; intro r s9 S9
  refine i_range S9 (by omega) (by omega) ?_
  clear S9; intro I s9 it S9
  rw [show ((seedOf ns).fmod 5 + 1 - 0).toNat = tlen (seedOf ns) from by unfold tlen; rw [Int.sub_zero]] at it S9
  have htl : tlen (seedOf ns) ≤ 5 := by unfold tlen; omega
  refine comp_end it R1.h S9 (by have := szl; omega) (fun _ _ => trivial) (by decide) rfl (by kernel_rfl) (by decide) (fun i nwc acc => nwc = [] ∧ acc = ((List.range i).map fun p => [chOf (seedOf ns) p]).map fun l => .str (T l)) ⟨rfl, rfl⟩ ?turn ?done
  case turn =>
    rintro i d nwc acc C D₀ s' hi rfl ⟨rfl, rfl⟩ hal S'
    have c1 := comp_cap S9 S' (Str.ofString "seed") (L + 1) (by with_reducible repeat constructor) (by kernel_rfl) (by kernel_rfl) (by kernel_rfl) (by kernel_rfl)
    clear S9
    rw [Int.zero_add] at S' ⊢
    refine wpAny_tests_nil ?_
    rw [if_pos rfl]
    (repeat walk_at "go1")
    rename St _ _ _ _ _ _ _ _ _ => S0
    refine b_pow S0 (by omega) (by rw [show Builtin.Int.intBits 2 = 2 from by decide]; omega) ?_
    clear S0; intro t9 s9 S9
    rw [Int.toNat_natCast]
    have hpw : (2 : Int) ^ i = ((2 ^ i : Nat) : Int) := by rw [Int.natCast_pow]; rfl
    have hp1 : 0 < 2 ^ i := Nat.two_pow_pos i
    have hp2 : 2 ^ i ≤ 2 ^ 5 := Nat.pow_le_pow_right (by decide) (by omega)
    rename St _ _ _ _ _ _ _ _ _ => S0
    refine b_fdiv S0 (by rw [hpw]; omega) (by rw [hpw]; omega) ?_
    clear S0; intro t9 s9 S9
    (repeat walk_at "go1")
    rename St _ _ _ _ _ _ _ _ _ => S0
    have hm := fmod_lo (((seedOf ns).fdiv 5).fdiv (2 ^ i)) (b := 2) (by decide)
    have hm2 := fmod_hi (((seedOf ns).fdiv 5).fdiv (2 ^ i)) (b := 2) (by decide)
    have ech : [32, 9][((((seedOf ns).fdiv 5).fdiv (2 ^ i)).fmod 2).toNat]? = some (chOf (seedOf ns) i) := by
      unfold chOf
      generalize (((seedOf ns).fdiv 5).fdiv (2 ^ i)).fmod 2 = k at hm hm2
      have : k = 0 ∨ k = 1 := by omega
      rcases this with rfl | rfl <;> rfl
    have eS : Str.ofString " 	" = T [32, 9] := by kernel_rfl
    rw [eS]
    refine s_at S0 hm (by omega) ech ?_ (by with_unfolding_all rfl)
    clear S0; intro t9 s9 S9
    exact ⟨_, _, okS, S9, rfl, by rw [List.range_succ, List.map_append, List.map_append]; rfl⟩
  case done =>
    rintro nwc acc D₀ s' ⟨rfl, rfl⟩ hD S'
    clear S9
    rw [List.cons_append, List.nil_append] at S'
    (repeat walk_at "go1")
    rename St _ _ _ _ _ _ _ _ _ => S0
    have eE : Str.ofString "" = T [] := by kernel_rfl
    have htx : (textOf (seedOf ns)).length ≤ 5 := by unfold textOf; rw [flat_single, List.length_map, List.length_range]; exact htl
    rw [eE]
    refine f_join S0 (.own (.head _)) (by unfold textOf at htx; omega) ?_
    clear S0; intro t9 s9 S9
    rw [show ((List.range (tlen (seedOf ns))).map fun p => [chOf (seedOf ns) p]).flatten = textOf (seedOf ns) from rfl]
    generalize textOf (seedOf ns) = tx at *
    (repeat walk_at "go1")
    refine r_listcompA (cl := []) rfl (by kernel_rfl) rfl (by decide) ?_
    (repeat walk_at "go1")
    rename St _ _ _ _ _ _ _ _ _ => S0
    refine ls_fromW S0 (Kn.bas hs) (by omega) (by have := szl; omega) ?_
    clear S0; intro da s9 S9
    have hdl : ((ns.map D.int).drop (1 : Int).toNat).length ≤ 63 := by rw [List.length_drop]; omega
    (repeat walk_at "go1")
    rename St _ _ _ _ _ _ _ _ _ => S0
    have hdl2 : ((ns.map D.int).drop (1 : Int).toNat ++ [D.int 1, D.int 2]).length ≤ 65 := by rw [List.length_append]; simp only [List.length_cons, List.length_nil]; omega
    refine ls_upto S0 (by walk_at "kn") (by omega) (by have := szl; omega) ?_
    clear S0; intro xa s9 S9
    rw [show ((ns.map D.int).drop (1 : Int).toNat ++ [D.int 1, D.int 2]).take (3 : Int).toNat = ((ns.drop 1 ++ [1, 2]).take 3).map D.int from by rw [List.map_take, List.map_append, List.map_drop]; rfl] at S9
    have hxl : ((ns.drop 1 ++ [1, 2]).take 3).length ≤ 3 := by rw [List.length_take]; omega
    have hxl2 : 2 ≤ ((ns.drop 1 ++ [1, 2]).take 3).length := by rw [List.length_take, List.length_append]; show 2 ≤ min 3 ((ns.drop 1).length + 2); omega
    have hdr : drawnOf ns = ((ns.drop 1 ++ [1, 2]).take 3).map fun (x : Int) => (x.fmod 3 + 1).toNat := rfl
    generalize (ns.drop 1 ++ [1, 2]).take 3 = xs at S9 hxl hxl2 hdr
    rename St _ _ _ _ _ _ _ _ _ => S0
    refine i_list S0 (.own (.head _)) ?_
    clear S0; intro I2 s9 it2 S9
    rw [List.length_map] at it2
    refine comp_endA (vs' := fun D => [some (.val (.ref a)), some (.int (seedOf ns)), some (.str (T tx)), some (.val (.ref D)), none, none, none]) it2 R1.h S9 (by have := szl; omega) (fun h' hk' => ?side2) (by decide) rfl (by kernel_rfl) (by decide) (fun i nwc acc => nwc = [] ∧ acc = nD ((xs.take i).map fun (x : Int) => (x.fmod 3 + 1).toNat)) ⟨rfl, rfl⟩ ?turn2 (fun D => by with_reducible repeat constructor) ?done2
    case side2 =>
      obtain ⟨o, e, hp⟩ := comp_known S9 (Kn.own (.head _))
      exact ⟨o, hk' _ _ e, hp⟩
    case turn2 =>
      rintro i d nwc acc C D₀ s' hi hd ⟨rfl, rfl⟩ hal S'
      clear S9
      rw [List.getElem?_map, Option.map_eq_some_iff] at hd
      obtain ⟨x, hx, rfl⟩ := hd
      refine wpAny_tests_nil ?_
      rw [if_pos rfl]
      (repeat walk_at "go1")
      rename St _ _ _ _ _ _ _ _ _ => S0
      refine ⟨.int (x.fmod 3 + 1), _, okI, S0, rfl, ?_⟩
      rw [take_snoc _ i hx, List.map_append, nD_append]
      have := fmod_lo x (b := 3) (by decide)
      have e : x.fmod 3 + 1 = (((x.fmod 3 + 1).toNat : Nat) : Int) := by rw [Int.toNat_of_nonneg (by omega)]
      rw [e]; rfl
    case done2 =>
      rintro nwc acc D₁ s' ⟨rfl, rfl⟩ hD S'
      clear S9
      rw [List.cons_append, List.nil_append, List.take_length, ← hdr] at S'
      have hdrl : (drawnOf ns).length = xs.length := by rw [hdr, List.length_map]
      (repeat walk_at "go1")
      rename_i e0 _ _ _ _ _ _ _ _ e1 _ _ e2 _ _ eo _ _ _
      rename St _ _ _ _ _ _ _ _ _ => S0
      refine f_lenW S0 (Kn.bas hs) (by omega) ?_
      clear S0; intro t9 s9 S9
      rw [List.length_map]
      (repeat walk_at "go1")
      rename St _ _ _ _ _ _ _ _ _ => S0
      rename Shared => sX
      have hk : ns.length % 3 < 3 := Nat.mod_lt _ (by decide)
      rw [show ((ns.length : Nat) : Int).fmod 3 = ((ns.length % 3 : Nat) : Int) from by rw [Int.fmod_eq_emod_of_nonneg _ (by decide)]; rfl]
      obtain ⟨ea, hea, S1⟩ : ∃ ea : Addr, [D.val (.ref e0), D.val (.ref e1), D.val (.ref e2)][ns.length % 3]? = some (.val (.ref ea)) ∧ St hL s s.heap.get? (callEnvC (fdAt w 164) L 164) [Str.ofString "script", Str.ofString "seed", Str.ofString "text", Str.ofString "drawn", Str.ofString "ending", Str.ofString "signs", Str.ofString "mine"] [some (.val (.ref a)), some (.int (seedOf ns)), some (.str (T tx)), some (.val (.ref D₁)), none, none, none] [(eo, LO [D.val (.ref e0), D.val (.ref e1), D.val (.ref e2)]), (ea, LO (nD (endOf ns.length))), (D₁, LO (nD (drawnOf ns)))] [] sX := by
        unfold endOf
        generalize ns.length % 3 = k at hk
        match k, hk with
        | 0, _ => exact ⟨e0, rfl, S0.sel (.cons .head (.cons (.tail (.tail .head)) (.cons (.tail (.tail .head)) .nil)))⟩
        | 1, _ => exact ⟨e1, rfl, S0.sel (.cons .head (.cons (.tail .head) (.cons (.tail (.tail .head)) .nil)))⟩
        | 2, _ => exact ⟨e2, rfl, S0.sel (.cons .head (.cons .head (.cons (.tail (.tail .head)) .nil)))⟩
      clear S0
      refine l_get S1 (d := .val (.ref ea)) (.own (.head _)) (by omega) (by omega) hea ?_ (by with_unfolding_all rfl)
      (first | (refine opI ?_; intro _) | (refine opS ?_; intro _) | refine opV ?_)
      (repeat walk_at "go1")
      refine r_listcompA (cl := []) rfl (by kernel_rfl) rfl (by decide) ?_
      (repeat walk_at "go1")
      rename St _ _ _ _ _ _ _ _ _ => S0
      refine ls_uptoW S0 (Kn.bas hs) (by omega) (by have := szl; omega) ?_
      clear S0; intro fa s9 S9
      rw [show (ns.map D.int).take (4 : Int).toNat = (ns.take 4).map D.int from by rw [List.map_take]; rfl] at S9
      have hfl : (ns.take 4).length ≤ 4 := by rw [List.length_take]; omega
      have hsg : sgOf ns = (ns.take 4).map fun (x : Int) => [signOf x] := rfl
      have hmi : mineOf ns = [[97, 32, 9], [66], [], ((sgOf ns).take 2).flatten, ((sgOf ns).drop 1).flatten] := rfl
      generalize ns.take 4 = ys at S9 hfl hsg
      rename St _ _ _ _ _ _ _ _ _ => S0
      refine i_list S0 (.own (.head _)) ?_
      clear S0; intro I3 s9 it3 S9
      rw [List.length_map] at it3
      refine comp_endA (vs' := fun D => [some (.val (.ref a)), some (.int (seedOf ns)), some (.str (T tx)), some (.val (.ref D₁)), some (.val (.ref ea)), some (.val (.ref D)), none]) it3 R1.h S9 (by have := szl; omega) (fun h' hk' => ?side3) (by decide) rfl (by kernel_rfl) (by decide) (fun i nwc acc => nwc = [] ∧ acc = ((ys.take i).map fun (x : Int) => [signOf x]).map fun l => .str (T l)) ⟨rfl, rfl⟩ ?turn3 (fun D => by with_reducible repeat constructor) ?done3
      case side3 =>
        obtain ⟨o, e, hp⟩ := comp_known S9 (Kn.own (.head _))
        exact ⟨o, hk' _ _ e, hp⟩
      case turn3 =>
        rintro i d nwc acc C D₀ s' hi hd ⟨rfl, rfl⟩ hal S'
        clear S9
        rw [List.getElem?_map, Option.map_eq_some_iff] at hd
        obtain ⟨x, hx, rfl⟩ := hd
        refine wpAny_tests_nil ?_
        rw [if_pos rfl]
        (repeat walk_at "go1")
        rename St _ _ _ _ _ _ _ _ _ => S0
        refine c_sign B (R1.le (by omega)) S0.pr ?_
        intro t9 s9 X
        have S9 := S0.ext X
        refine ⟨.str (T [signOf x]), _, ⟨_, rfl⟩, S9, rfl, ?_⟩
        rw [take_snoc _ i hx, List.map_append, List.map_append]; rfl
      case done3 =>
        rintro nwc acc D₂ s' ⟨rfl, rfl⟩ hD S'
        clear S9
        rw [List.cons_append, List.nil_append, List.take_length, ← hsg] at S'
        have hsl : (sgOf ns).length ≤ 4 := by rw [hsg, List.length_map]; exact hfl
        have hsf : ∀ l ∈ sgOf ns, l.length = 1 := fun l hl => by rw [hsg] at hl; obtain ⟨x, _, rfl⟩ := List.mem_map.mp hl; rfl
        have hft : ((sgOf ns).take 2).flatten.length ≤ 4 := by rw [flat_len1 _ fun l hl => hsf l (List.mem_of_mem_take hl), List.length_take]; omega
        have hfd : ((sgOf ns).drop 1).flatten.length ≤ 4 := by rw [flat_len1 _ fun l hl => hsf l (List.mem_of_mem_drop hl), List.length_drop]; omega
        have hsl2 : ((sgOf ns).map fun l => D.str (T l)).length ≤ 4 := by rw [List.length_map]; exact hsl
        clear hsf
        generalize sgOf ns = sg at *
        (repeat walk_at "go1")
        rename St _ _ _ _ _ _ _ _ _ => S0
        refine ls_upto S0 (.own (.head _)) (by omega) (by have := szl; omega) ?_
        clear S0; intro ua s9 S9
        rw [show (sg.map fun l => D.str (T l)).take (2 : Int).toNat = (sg.take 2).map fun l => D.str (T l) from by rw [List.map_take]; rfl] at S9
        (repeat walk_at "go1")
        rename St _ _ _ _ _ _ _ _ _ => S0
        refine f_join S0 (.own (.head _)) (by omega) ?_
        clear S0; intro t9 s9 S9
        (repeat walk_at "go1")
        rename St _ _ _ _ _ _ _ _ _ => S0
        refine ls_from S0 (.own (.tail _ (.head _))) (by omega) (by have := szl; omega) ?_
        clear S0; intro va s9 S9
        rw [show (sg.map fun l => D.str (T l)).drop (1 : Int).toNat = (sg.drop 1).map fun l => D.str (T l) from by rw [List.map_drop]; rfl] at S9
        (repeat walk_at "go1")
        rename St _ _ _ _ _ _ _ _ _ => S0
        refine f_join S0 (.own (.head _)) (by omega) ?_
        clear S0; intro t9 s9 S9
        (repeat walk_at "go1")
        rename_i wa _ _ _
        rename St _ _ _ _ _ _ _ _ _ => S0
        rw [show Str.ofString "a 	" = T [97, 32, 9] from by kernel_rfl, show Str.ofString "B" = T [66] from by kernel_rfl,
          show [D.str (T [97, 32, 9]), D.str (T [66]), D.str (T []), D.str (T (sg.take 2).flatten), D.str (T (sg.drop 1).flatten)] = (mineOf ns).map fun l => D.str (T l) from by rw [hmi]; rfl] at S0
        have hel := end_len ns.length
        have hd3 : (drawnOf ns).length ≤ 3 := by omega
        have hd0 : (nD (drawnOf ns))[(0 : Int).toNat]? = some (.int ((drawnOf ns).getD 0 0 : Nat)) := by
          cases q : drawnOf ns with
          | nil => rw [q] at hdrl; simp only [List.length_nil] at hdrl; omega
          | cons a b => rfl
        clear hdr hmi hft hfd
        obtain ⟨i1, fs1, lf1, gs1, G1, V1, K1, L1⟩ := N1
        obtain ⟨i2, fs2, lf2, gs2, G2, V2, K2, L2⟩ := N2
        refine BoolOp_and ?_
        (repeat walk_at "go1")
        rename St _ _ _ _ _ _ _ _ _ => S0
        rw [← nD_append] at S0
        refine c_numbered B (R1.le (by omega)) S0.pr (S0.get (by walk_at "kn")) (S0.get (by walk_at "kn")) G1 L1 V1 K1 ?_
        intro s9 X
        have S9 := S0.ext X
        clear S0 X
        (repeat walk_at "go1")
        refine iteB (fun _ => ?_) (fun q => by cases q)
        refine BoolOp_one ?_
        (repeat walk_at "go1")
        rename St _ _ _ _ _ _ _ _ _ => S0
        refine l_get S0 (d := .int ((drawnOf ns).getD 0 0 : Nat)) (by walk_at "kn") (by omega) (by omega) hd0 ?_ (by with_unfolding_all rfl)
        (first | (refine opI ?_; intro _) | (refine opS ?_; intro _) | refine opV ?_)
        (repeat walk_at "go1")
        rename St _ _ _ _ _ _ _ _ _ => S0
        rw [show [D.int (((drawnOf ns).getD 0 0 : Nat) : Int), D.int 0] = nD [(drawnOf ns).getD 0 0, 0] from rfl] at S0
        refine c_numbered B (R1.le (by omega)) S0.pr (S0.get (by walk_at "kn")) (S0.get (by walk_at "kn")) G2 L2 V2 K2 ?_
        intro s9 X
        exact h _ (S0.ext X).out

end Mine
namespace Mine
noncomputable def hst (rs : List Nat) : List Nat := (List.range (top rs)).map fun i => rs.count i
theorem top_snoc : ∀ (rs : List Nat) (b : Nat), top (rs ++ [b]) = max (top rs) (b + 1)
  | [], b => by simp [top]
  | r :: rs, b => by rw [List.cons_append, top, top_snoc rs b, top]; omega
theorem count_top {rs : List Nat} {i : Nat} (h : top rs ≤ i) : rs.count i = 0 := by
  rw [List.count_eq_zero]
  intro hm
  have := top_ge hm
  omega
theorem hst_at (rs : List Nat) (i : Nat) : (hst rs)[i]? = if i < top rs then some (rs.count i) else none := by
  unfold hst
  rw [List.getElem?_map]
  split
  · next h => rw [List.getElem?_range h]; rfl
  · next h => rw [List.getElem?_eq_none (by rw [List.length_range]; omega)]; rfl
theorem bump_hst (rs : List Nat) (b : Nat) : bump (hst rs) b = hst (rs ++ [b]) := by
  have hl : (hst rs).length = top rs := by simp [hst]
  apply List.ext_getElem?
  intro i
  unfold bump
  rw [List.getElem?_modify, hst_at, top_snoc, hl, List.count_append, List.count_singleton]
  have e2 : (hst rs ++ List.replicate (b + 1 - top rs) 0)[i]? = if i < max (top rs) (b + 1) then some (rs.count i) else none := by
    by_cases q : i < top rs
    · rw [List.getElem?_append_left (by rw [hl]; exact q), hst_at, if_pos q, if_pos (by omega)]
    · rw [List.getElem?_append_right (by rw [hl]; omega), List.getElem?_replicate, hl, count_top (by omega)]
      by_cases q2 : i < max (top rs) (b + 1)
      · rw [if_pos q2, if_pos (by omega)]
      · rw [if_neg q2, if_neg (by omega)]
  rw [e2]
  by_cases q2 : i < max (top rs) (b + 1)
  · rw [if_pos q2, if_pos q2]
    by_cases q : b = i
    · subst q; simp
    · simp [q]
  · rw [if_neg q2, if_neg q2]; rfl
noncomputable def stW (rs : List Nat) (b : Nat) : WS := ⟨hst rs, b, rs.sum + rs.length + b, rs.length⟩
theorem stW_0 : (⟨[], 0, 0, 0⟩ : WS) = stW [] 0 := rfl
theorem go_sp (rs l : List Nat) : ∀ k b, wsGo (List.replicate k 32 ++ l) (stW rs b) = wsGo l (stW rs (b + k))
  | 0, b => rfl
  | k + 1, b => by
    rw [List.replicate_succ, List.cons_append, wsGo, if_pos rfl]
    have := go_sp rs l k (b + 1)
    rw [show b + (k + 1) = b + 1 + k from by omega, ← this]; rfl
theorem go_tab (rs l : List Nat) (b : Nat) : wsGo (9 :: l) (stW rs b) = wsGo l (stW (rs ++ [b]) 0) := by
  rw [wsGo, if_neg (by decide), if_pos rfl]
  have e : (⟨bump (stW rs b).count (stW rs b).b, 0, (stW rs b).n + 1, (stW rs b).nt + 1⟩ : WS) = stW (rs ++ [b]) 0 := by
    show (⟨bump (hst rs) b, 0, rs.sum + rs.length + b + 1, rs.length + 1⟩ : WS) = _
    rw [bump_hst]
    unfold stW
    rw [List.sum_append, List.length_append, List.sum_singleton, List.length_singleton]
    rw [show rs.sum + b + (rs.length + 1) + 0 = rs.sum + rs.length + b + 1 from by omega]
  rw [e]
/-- one piece -/
theorem go_pc (rs l fs gs : List Nat) (b i : Nat) (h : fs.getD i 0 ≤ gs.getD i 0) : wsGo (ldP fs gs i ++ l) (stW rs b) = if fs.getD i 0 < gs.getD i 0 then wsGo l (stW (rs ++ [b + fs.getD i 0]) 0) else wsGo l (stW rs (b + fs.getD i 0)) := by
  unfold ldP
  rw [List.append_assoc, go_sp]
  split
  · next q =>
    obtain ⟨d, e⟩ : ∃ d, gs.getD i 0 - fs.getD i 0 = d + 1 := ⟨gs.getD i 0 - fs.getD i 0 - 1, by omega⟩
    rw [e, List.take_succ_cons, List.take_nil, List.singleton_append, go_tab]
  · next q => rw [show gs.getD i 0 - fs.getD i 0 = 0 from by omega]; rfl
theorem go_lead (fs gs l : List Nat) (h : ∀ i, fs.getD i 0 ≤ gs.getD i 0) : ∀ n, wsGo (((List.range n).map (ldP fs gs)).flatten ++ l) (stW [] 0) = wsGo l (stW (rnS fs gs n).1 (rnS fs gs n).2)
  | 0 => rfl
  | n + 1 => by
    rw [List.range_succ, List.map_append, List.flatten_append, List.append_assoc, go_lead fs gs _ h n]
    simp only [List.map_cons, List.map_nil, List.flatten_cons, List.flatten_nil, List.append_nil]
    rw [go_pc _ _ _ _ _ _ (h n), rnS]
    split <;> rfl
noncomputable def Stop (w : List Nat) : Prop := w = [] ∨ ∃ c r, w = c :: r ∧ c ≠ 32 ∧ c ≠ 9
theorem go_stop {w : List Nat} (h : Stop w) (v : WS) : wsGo w v = v := by
  rcases h with rfl | ⟨c, r, rfl, h1, h2⟩
  · rfl
  · rw [wsGo, if_neg h1, if_neg h2]
/-- what a spelled line looks like to Whitespace -/
theorem ws_line (fs gs w : List Nat) (k : Nat) (h : ∀ i, fs.getD i 0 ≤ gs.getD i 0) (hw : Stop w) : ws (leadOf fs gs ++ List.replicate k 32 ++ w) = stW (shutOf fs gs) (openOf fs gs k) := by
  unfold ws leadOf shutOf openOf
  rw [stW_0, List.append_assoc, go_lead fs gs _ h, go_sp, go_stop hw]
end Mine

namespace Mine
theorem top_le1 : ∀ rs : List Nat, top rs ≤ 1 ↔ rs.sum = 0
  | [] => by simp [top]
  | r :: rs => by
    have := top_le1 rs
    rw [top, List.sum_cons]
    omega
noncomputable def wt (rs : List Nat) (g : Nat) : Nat := (rs.map (· / g)).sum
noncomputable def cs (rs : List Nat) (g : Nat) : Nat → Nat
  | 0 => 0
  | d + 1 => cs rs g d + (g + d) / g * rs.count (g + d)
theorem cs_cons (r : Nat) (rs : List Nat) (g : Nat) : ∀ d, cs (r :: rs) g d = cs rs g d + if g ≤ r ∧ r < g + d then r / g else 0
  | 0 => by rw [if_neg (by omega)]; rfl
  | d + 1 => by
    rw [cs, cs, cs_cons r rs g d, List.count_cons]
    by_cases q : r = g + d
    · have hb : (r == g + d) = true := by simpa using q
      rw [hb, if_pos rfl, if_neg (by omega : ¬ (g ≤ r ∧ r < g + d)), if_pos (by omega : g ≤ r ∧ r < g + (d + 1)), Nat.mul_add, Nat.mul_one, q]; omega
    · have hb : (r == g + d) = false := by simpa using q
      rw [hb]
      by_cases q2 : g ≤ r ∧ r < g + d
      · rw [if_pos q2, if_pos (by omega : g ≤ r ∧ r < g + (d + 1)), if_neg (by decide), Nat.add_zero (rs.count (g + d))]; omega
      · rw [if_neg q2, if_neg (by omega : ¬ (g ≤ r ∧ r < g + (d + 1))), if_neg (by decide), Nat.add_zero (rs.count (g + d))]; omega
theorem cs_wt {g : Nat} (hg : 0 < g) (d : Nat) : ∀ rs : List Nat, (∀ r ∈ rs, r < g + d) → cs rs g d = wt rs g
  | [], _ => by
    have : ∀ d, cs [] g d = 0 := fun d => by
      induction d with
      | zero => rfl
      | succ d ih => rw [cs, ih]; simp
    rw [this]; rfl
  | r :: rs, h => by
    rw [cs_cons, cs_wt hg d rs fun x hx => h x (.tail _ hx)]
    have h1 := h r (.head _)
    show wt rs g + _ = r / g + wt rs g
    by_cases q : g ≤ r
    · rw [if_pos ⟨q, h1⟩]; omega
    · rw [if_neg (by omega), Nat.div_eq_of_lt (by omega)]; omega
theorem hst_getD (rs : List Nat) (i : Nat) : (hst rs).getD i 0 = rs.count i := by
  rw [List.getD_eq_getElem?_getD, hst_at]
  split
  · rfl
  · next h => rw [count_top (by omega)]; rfl
theorem ilGo_cs (rs : List Nat) (g : Nat) : ∀ d, ilGo (hst rs) g d = cs rs g d
  | 0 => rfl
  | d + 1 => by rw [ilGo, cs, ilGo_cs rs g d, hst_getD]
theorem ilGo_wt {g : Nat} (hg : 0 < g) (rs : List Nat) : ilGo (hst rs) g ((hst rs).length - g) = wt rs g := by
  have hl : (hst rs).length = top rs := by simp [hst]
  rw [ilGo_cs, hl]
  refine cs_wt hg _ rs fun r hr => ?_
  have := top_ge hr
  omega
theorem rn_wt {fs gs : List Nat} {g : Nat} (hg : 0 < g) (h : ∀ i, fs.getD i 0 ≤ gs.getD i 0) (n : Nat) (hn : ∀ i, i < n → gs.getD i 0 = g) : g * (wt (rnS fs gs n).1 g + (rnS fs gs n).1.length) + (rnS fs gs n).2 = g * n ∧ (rnS fs gs n).2 % g = 0 := by
  induction n with
  | zero => exact ⟨by simp [rnS, wt], by simp [rnS]⟩
  | succ n ih =>
    obtain ⟨i1, i2⟩ := ih fun i hi => hn i (by omega)
    have hgn := hn n (by omega)
    have hf := h n
    rw [hgn] at hf
    rw [rnS, hgn]
    generalize (rnS fs gs n).1 = rs at *
    generalize (rnS fs gs n).2 = b at *
    generalize fs.getD n 0 = f at *
    have hb : g * (b / g) = b := Nat.mul_div_cancel' (Nat.dvd_of_mod_eq_zero i2)
    split
    · next q =>
      refine ⟨?_, by simp⟩
      have e : (b + f) / g = b / g := by
        conv => lhs; rw [← hb, Nat.add_comm, Nat.add_mul_div_left _ _ hg, Nat.div_eq_of_lt q, Nat.zero_add]
      show g * (wt (rs ++ [b + f]) g + (rs ++ [b + f]).length) + 0 = g * (n + 1)
      have e2 : wt (rs ++ [b + f]) g = wt rs g + b / g := by
        unfold wt
        rw [List.map_append, List.sum_append]
        show _ + ((b + f) / g + 0) = _
        rw [e]; rfl
      rw [e2, List.length_append, List.length_singleton]
      have : g * (wt rs g + b / g + (rs.length + 1)) = g * (wt rs g + rs.length) + g * (b / g) + g := by
        rw [show wt rs g + b / g + (rs.length + 1) = (wt rs g + rs.length) + b / g + 1 from by omega, Nat.mul_add, Nat.mul_add, Nat.mul_one]
      rw [this, hb, Nat.mul_add g n 1, Nat.mul_one]; omega
    · next q =>
      obtain rfl : f = g := by omega
      refine ⟨?_, by show (b + f) % f = 0; rw [Nat.add_mod_right]; exact i2⟩
      show f * (wt rs f + rs.length) + (b + f) = f * (n + 1)
      rw [Nat.mul_add f n 1, Nat.mul_one]; omega
theorem rn_sum {fs gs : List Nat} {c : Nat} (h : ∀ i, fs.getD i 0 ≤ c) : ∀ n, (rnS fs gs n).1.sum + (rnS fs gs n).2 ≤ c * n
  | 0 => Nat.zero_le _
  | n + 1 => by
    have := rn_sum (gs := gs) h n
    have := h n
    rw [rnS, Nat.mul_add, Nat.mul_one]
    split
    · show ((rnS fs gs n).1 ++ [(rnS fs gs n).2 + fs.getD n 0]).sum + 0 ≤ _
      rw [List.sum_append, List.sum_singleton]; omega
    · show (rnS fs gs n).1.sum + ((rnS fs gs n).2 + fs.getD n 0) ≤ _
      omega
theorem sum_le_mul {c : Nat} : ∀ gs : List Nat, (∀ i, gs.getD i 0 ≤ c) → gs.sum ≤ c * gs.length
  | [], _ => Nat.zero_le _
  | g :: gs, h => by
    have h0 : g ≤ c := h 0
    have := sum_le_mul gs fun i => h (i + 1)
    rw [List.sum_cons, List.length_cons, Nat.mul_add, Nat.mul_one]; omega
theorem line_ok {fs gs w : List Nat} {k : Nat} (hle : ∀ i, fs.getD i 0 ≤ gs.getD i 0) (hw : Stop w) (g3 : ∀ i, gs.getD i 0 ≤ 3) (g1 : ∀ i, i < gs.length → 1 ≤ gs.getD i 0) (gl : gs.length ≤ 20) (hk : k ≤ 20) : LineOk (leadOf fs gs ++ List.replicate k 32 ++ w) fs gs k := by
  have e := ws_line fs gs w k hle hw
  have hs := rn_sum (gs := gs) (fun i => Nat.le_trans (hle i) (g3 i)) gs.length
  have hl : (hst (shutOf fs gs)).length = top (shutOf fs gs) := by simp [hst]
  refine ⟨?_, ?_, ?_, ?_, ?_, ?_, ?_, ?_, ?_, fun i hi => ⟨g1 i hi, Nat.le_trans (g3 i) (by omega)⟩⟩
  · rw [e, List.sum_append, List.sum_singleton]; show _ + _ + _ = _; omega
  · rw [e]; rfl
  · rw [e]; rfl
  · rw [e]; rfl
  · rw [e]
    show decide ((hst (shutOf fs gs)).length ≤ 1) = _
    rw [hl, Bool.eq_iff_iff, decide_eq_true_iff, decide_eq_true_iff]
    exact top_le1 _
  · rw [e]
    show max (((hst (shutOf fs gs)).length : Int) - 1) (openOf fs gs k : Nat) = _
    rw [hl, top_snoc]; omega
  · intro hne hrep
    unfold ilev
    rw [e]
    obtain ⟨g, r, rfl⟩ : ∃ g r, gs = g :: r := by
      cases gs with
      | nil => exact absurd rfl hne
      | cons g r => exact ⟨g, r, rfl⟩
    have hg : 0 < g := g1 0 (Nat.succ_pos _)
    have hrep' : g :: r = List.replicate (g :: r).length g := by
      conv => lhs; rw [hrep]
      show (List.replicate (r.length + 1) [g]).flatten = _
      rw [List.length_cons]
      generalize r.length + 1 = m
      induction m with
      | zero => rfl
      | succ m ih => rw [List.replicate_succ, List.flatten_cons, ih, List.replicate_succ]; rfl
    have hall : ∀ i, i < (g :: r).length → (g :: r).getD i 0 = g := fun i hi => by
      rw [hrep', List.getD_eq_getElem?_getD, List.getElem?_replicate, if_pos hi]; rfl
    have hsum : (g :: r).sum = g * (g :: r).length := by
      conv => lhs; rw [hrep']
      rw [List.sum_replicate_nat, Nat.mul_comm]
    have i1 := (rn_wt (fs := fs) (g := g) hg hle (g :: r).length hall).1
    show openOf fs (g :: r) k + g * (ilGo (hst (shutOf fs (g :: r))) g ((hst (shutOf fs (g :: r))).length - g) + (shutOf fs (g :: r)).length) = _
    rw [ilGo_wt hg, hsum, ← i1]
    unfold openOf shutOf
    omega
  · rw [List.sum_append, List.sum_singleton]; unfold shutOf openOf; omega
  · have := sum_le_mul gs g3; omega
end Mine

namespace Mine
/-- induction at the end of a list -/
theorem snocInd {P : List Nat → Prop} (h0 : P []) (h1 : ∀ gs g, P gs → P (gs ++ [g])) (gs : List Nat) : P gs := by
  have : ∀ rs : List Nat, P rs.reverse := fun rs => by
    induction rs with
    | nil => exact h0
    | cons r rs ih => rw [List.reverse_cons]; exact h1 _ _ ih
  have := this gs.reverse
  rwa [List.reverse_reverse] at this
theorem figs_snoc (n : Nat) (gs : List Nat) (g : Nat) : figs n (gs ++ [g]) = figs (n / (g + 1)) gs ++ [n % (g + 1)] := by
  unfold figs
  rw [List.reverse_append]
  show (figR n (g :: gs.reverse)).reverse = _
  rw [figR, List.reverse_cons]
theorem getD_snoc_lt (l : List Nat) (a : Nat) {i : Nat} (h : i < l.length) : (l ++ [a]).getD i 0 = l.getD i 0 := snoc_lt l a h
theorem getD_over (l : List Nat) {i : Nat} (h : l.length ≤ i) : l.getD i 0 = 0 := by
  rw [List.getD_eq_getElem?_getD, List.getElem?_eq_none h]; rfl
theorem figs_le (gs : List Nat) : ∀ n i, (figs n gs).getD i 0 ≤ gs.getD i 0 := by
  refine snocInd (P := fun gs => ∀ n i, (figs n gs).getD i 0 ≤ gs.getD i 0) (fun n i => ?_) (fun gs g ih n i => ?_) gs
  · simp [figs, figR]
  · rw [figs_snoc]
    have hl := figs_length (n / (g + 1)) gs
    by_cases q : i < gs.length
    · rw [getD_snoc_lt _ _ (by omega), getD_snoc_lt _ _ q]; exact ih _ _
    · by_cases q2 : i = gs.length
      · subst q2
        rw [snoc_at, ← hl, snoc_at]
        have : n % (g + 1) < g + 1 := Nat.mod_lt n (Nat.succ_pos g)
        omega
      · rw [getD_over _ (by rw [List.length_append, List.length_singleton]; omega)]; exact Nat.zero_le _
theorem tk_snoc (gs : List Nat) (g : Nat) : ∀ k, k ≤ gs.length → tk (gs ++ [g]) k = tk gs k
  | 0, _ => rfl
  | k + 1, h => by rw [tk, tk, tk_snoc gs g k (by omega), getD_snoc_lt _ _ (by omega)]
theorem totOf_snoc (gs : List Nat) (g : Nat) : totOf (gs ++ [g]) = totOf gs * (g + 1) := by
  unfold totOf
  rw [List.length_append, List.length_singleton, tk, tk_snoc gs g _ (Nat.le_refl _), snoc_at]
theorem nk_snoc (fs gs : List Nat) (f g : Nat) (hl : fs.length = gs.length) : ∀ k, k ≤ gs.length → nk (fs ++ [f]) (gs ++ [g]) k = nk fs gs k
  | 0, _ => rfl
  | k + 1, h => by rw [nk, nk, nk_snoc fs gs f g hl k (by omega), getD_snoc_lt _ _ (by omega), getD_snoc_lt _ _ (by omega)]
theorem numOf_snoc (fs gs : List Nat) (f g : Nat) (hl : fs.length = gs.length) : numOf (fs ++ [f]) (gs ++ [g]) = numOf fs gs * (g + 1) + f := by
  unfold numOf
  rw [List.length_append, List.length_singleton, nk, nk_snoc fs gs f g hl _ (Nat.le_refl _), snoc_at, ← hl, snoc_at]
/-- the number of figures gives the figures back -/
theorem figs_num (gs : List Nat) : ∀ fs : List Nat, fs.length = gs.length → (∀ i, fs.getD i 0 ≤ gs.getD i 0) → figs (numOf fs gs) gs = fs ∧ numOf fs gs < totOf gs := by
  refine snocInd (P := fun gs => ∀ fs : List Nat, fs.length = gs.length → (∀ i, fs.getD i 0 ≤ gs.getD i 0) → figs (numOf fs gs) gs = fs ∧ numOf fs gs < totOf gs) (fun fs hl h => ?_) (fun gs g ih fs hl h => ?_) gs
  · obtain rfl := List.length_eq_zero_iff.mp hl
    exact ⟨rfl, Nat.one_pos⟩
  · rw [List.length_append, List.length_singleton] at hl
    have hne : fs ≠ [] := by rintro rfl; simp at hl
    obtain ⟨fs, f, rfl⟩ : ∃ a b, fs = a ++ [b] := ⟨fs.dropLast, fs.getLast hne, (List.dropLast_concat_getLast hne).symm⟩
    rw [List.length_append, List.length_singleton] at hl
    have hl' : fs.length = gs.length := by omega
    have hf : f ≤ g := by have := h gs.length; rw [snoc_at, ← hl', snoc_at] at this; exact this
    obtain ⟨i1, i2⟩ := ih fs hl' fun i => by
      by_cases q : i < gs.length
      · have := h i; rwa [getD_snoc_lt _ _ (by omega), getD_snoc_lt _ _ q] at this
      · rw [getD_over fs (by omega)]; exact Nat.zero_le _
    rw [numOf_snoc _ _ _ _ hl', figs_snoc, totOf_snoc]
    have e1 : (numOf fs gs * (g + 1) + f) / (g + 1) = numOf fs gs := by
      rw [Nat.mul_comm, Nat.mul_add_div (Nat.succ_pos g), Nat.div_eq_of_lt (by omega), Nat.add_zero]
    have e2 : (numOf fs gs * (g + 1) + f) % (g + 1) = f := by
      rw [Nat.mul_comm, Nat.mul_add_mod, Nat.mod_eq_of_lt (by omega)]
    rw [e1, e2, i1]
    refine ⟨rfl, ?_⟩
    have : (numOf fs gs + 1) * (g + 1) ≤ totOf gs * (g + 1) := Nat.mul_le_mul_right _ i2
    rw [Nat.add_mul, Nat.one_mul] at this
    omega
noncomputable def pc (f g : Nat) : List Nat := List.replicate f 32 ++ [9].take (g - f)
theorem lead_snoc (fs gs : List Nat) (f g : Nat) (hl : fs.length = gs.length) : leadOf (fs ++ [f]) (gs ++ [g]) = leadOf fs gs ++ pc f g := by
  unfold leadOf
  rw [List.length_append, List.length_singleton, List.range_succ, List.map_append, List.flatten_append]
  congr 1
  · congr 1
    refine List.map_congr_left fun i hi => ?_
    have := List.mem_range.mp hi
    unfold ldP
    rw [getD_snoc_lt _ _ (by omega), getD_snoc_lt _ _ this]
  · show ldP _ _ _ ++ [] = _
    unfold ldP pc
    rw [List.append_nil, snoc_at, ← hl, snoc_at]
theorem rep_lt {f f' : Nat} (h : f < f') (X Y : List Nat) : List.replicate f 32 ++ 9 :: X < List.replicate f' 32 ++ Y := by
  induction f generalizing f' with
  | zero =>
    obtain ⟨d, rfl⟩ : ∃ d, f' = d + 1 := ⟨f' - 1, by omega⟩
    show 9 :: X < 32 :: _
    rw [List.cons_lt_cons_iff]; left; decide
  | succ f ih =>
    obtain ⟨d, rfl⟩ : ∃ d, f' = d + 1 := ⟨f' - 1, by omega⟩
    rw [List.replicate_succ, List.replicate_succ, List.cons_append, List.cons_append, List.cons_lt_cons_iff]
    right; exact ⟨rfl, ih (by omega)⟩
theorem app_lt (Z : List Nat) {X Y : List Nat} (h : X < Y) : Z ++ X < Z ++ Y := by
  induction Z with
  | nil => exact h
  | cons z Z ih => rw [List.cons_append, List.cons_append, List.cons_lt_cons_iff]; right; exact ⟨rfl, ih⟩
/-- a smaller number is spelled by a smaller text -/
theorem lead_lt (gs : List Nat) : ∀ a b X Y, a < b → b < totOf gs → leadOf (figs a gs) gs ++ X < leadOf (figs b gs) gs ++ Y := by
  refine snocInd (P := fun gs => ∀ a b X Y, a < b → b < totOf gs → leadOf (figs a gs) gs ++ X < leadOf (figs b gs) gs ++ Y) (fun a b X Y h1 h2 => ?_) (fun gs g ih a b X Y h1 h2 => ?_) gs
  · have : totOf [] = 1 := rfl
    omega
  · rw [figs_snoc, figs_snoc, lead_snoc _ _ _ _ (figs_length _ _), lead_snoc _ _ _ _ (figs_length _ _), List.append_assoc, List.append_assoc]
    rw [totOf_snoc] at h2
    have hq : a / (g + 1) ≤ b / (g + 1) := Nat.div_le_div_right (by omega)
    by_cases q : a / (g + 1) = b / (g + 1)
    · rw [q]
      refine app_lt _ ?_
      have e1 := Nat.div_add_mod a (g + 1)
      have e2 := Nat.div_add_mod b (g + 1)
      rw [q] at e1
      have hb := Nat.mod_lt b (Nat.succ_pos g)
      have hlt : a % (g + 1) < b % (g + 1) := by omega
      unfold pc
      obtain ⟨d, hd⟩ : ∃ d, g - a % (g + 1) = d + 1 := ⟨g - a % (g + 1) - 1, by have : b % (g + 1) < g + 1 := hb; omega⟩
      rw [hd, List.take_succ_cons, List.take_nil, List.append_assoc, List.append_assoc]
      exact rep_lt hlt _ _
    · refine ih _ _ _ _ (by omega) ?_
      exact (Nat.div_lt_iff_lt_mul (Nat.succ_pos g)).mpr h2
end Mine

namespace Mine
/-- the gaps that a reading sees, one after another -/
noncomputable def gx (sz : List Nat) (e i : Nat) : Nat := if i < e then sz.getD i 0 else if e < sz.length ∧ sz.getD e 0 = 0 then sz.getD (e - 1) 0 else 1
theorem iv_some {sz : List Nat} {e j g : Nat} (h : iv sz e j = some g) : gx sz e j = g := by
  unfold iv at h; unfold gx
  split at h
  · next h1 => cases h; rw [if_pos h1]
  · next h1 =>
    split at h
    · next h2 => cases h; rw [if_neg h1, if_pos h2]
    · cases h
theorem iv_none {sz : List Nat} {e j : Nat} (h : iv sz e j = none) : ∀ i, j ≤ i → gx sz e i = 1 := by
  unfold iv at h
  intro i hi
  unfold gx
  split at h
  · cases h
  · next h1 =>
    split at h
    · cases h
    · next h2 => rw [if_neg (by omega), if_neg h2]
theorem pc_len {f g : Nat} (h : f ≤ g) : (pc f g).length = if f < g then f + 1 else g := by
  unfold pc
  rw [List.length_append, List.length_replicate, List.length_take, List.length_singleton]
  split <;> omega
theorem pc_tab {f g : Nat} (h : f < g) : pc f g = List.replicate f 32 ++ [9] := by
  unfold pc
  obtain ⟨d, hd⟩ : ∃ d, g - f = d + 1 := ⟨g - f - 1, by omega⟩
  rw [hd, List.take_succ_cons, List.take_nil]
theorem pc_full (g : Nat) : pc g g = List.replicate g 32 := by
  unfold pc; rw [Nat.sub_self, List.take_zero, List.append_nil]
theorem ws_sp (k : Nat) : ws (List.replicate k 32) = stW [] k := by
  have := go_sp [] [] k 0
  rw [List.append_nil, Nat.zero_add] at this
  unfold ws; rw [stW_0, this]; rfl
theorem ws_tab (f : Nat) : ws (List.replicate f 32 ++ [9]) = stW [f] 0 := by
  unfold ws
  rw [stW_0, go_sp, Nat.zero_add, go_tab]; rfl
theorem ilev_sp (k g : Nat) : ilev (List.replicate k 32) g = k := by
  unfold ilev
  rw [ws_sp]
  show k + g * (ilGo [] g (0 - g) + 0) = k
  rw [Nat.zero_sub]; simp [ilGo]
theorem ilev_tab (f g : Nat) : g ≤ ilev (List.replicate f 32 ++ [9]) g := by
  unfold ilev
  rw [ws_tab]
  show g ≤ 0 + g * (_ + 1)
  rw [Nat.mul_add, Nat.mul_one]; omega
theorem cutGo_at {l : List Nat} {g K : Nat} : ∀ d k, k ≤ K → K ≤ k + d → (∀ j, k ≤ j → j < K → j ≤ l.length ∧ ilev (l.take j) g < g) → ¬ (K ≤ l.length ∧ ilev (l.take K) g < g) → cutGo l g d k = K
  | 0, k, h1, h2, _, _ => by rw [cutGo]; omega
  | d + 1, k, h1, h2, h3, h4 => by
    rw [cutGo]
    by_cases q : k = K
    · subst q; rw [if_neg h4]
    · rw [if_pos (h3 k (Nat.le_refl _) (by omega))]
      exact cutGo_at d (k + 1) (by omega) (by omega) (fun j a b => h3 j (by omega) b) h4
theorem take_rep {k f : Nat} (h : k ≤ f) (X : List Nat) : (List.replicate f 32 ++ X).take k = List.replicate k 32 := by
  rw [List.take_append_of_le_length (by rw [List.length_replicate]; exact h), List.take_replicate, Nat.min_eq_left h]
theorem cut_pc {f g : Nat} (h : f ≤ g) (hg : 1 ≤ g) (r : List Nat) : cutK (pc f g ++ r) g = (pc f g).length := by
  unfold cutK
  by_cases q : f < g
  · have hl : (pc f g).length = f + 1 := by rw [pc_len h, if_pos q]
    rw [hl, pc_tab q]
    have hlen : (List.replicate f 32 ++ [9] ++ r).length = f + 1 + r.length := by rw [List.length_append, List.length_append, List.length_replicate, List.length_singleton]
    refine cutGo_at _ _ (by omega) (by omega) (fun j h1 h2 => ⟨by omega, ?_⟩) ?_
    · rw [List.append_assoc, take_rep (by omega), ilev_sp]; omega
    · rintro ⟨_, h2⟩
      rw [List.take_append_of_le_length (by simp), List.take_of_length_le (by simp)] at h2
      have := ilev_tab f g
      omega
  · obtain rfl : f = g := by omega
    have hl : (pc f f).length = f := by rw [pc_full, List.length_replicate]
    rw [hl, pc_full]
    have hlen : (List.replicate f 32 ++ r).length = f + r.length := by rw [List.length_append, List.length_replicate]
    refine cutGo_at _ _ hg (by omega) (fun j h1 h2 => ⟨by omega, ?_⟩) ?_
    · rw [take_rep (by omega), ilev_sp]; exact h2
    · rintro ⟨_, h2⟩
      rw [take_rep (Nat.le_refl _), ilev_sp] at h2; omega
theorem cut_end {k g : Nat} (h : k < g) : cutK (List.replicate k 32) g = k + 1 := by
  unfold cutK
  rw [List.length_replicate]
  refine cutGo_at _ _ (by omega) (by omega) (fun j h1 h2 => ⟨by rw [List.length_replicate]; omega, ?_⟩) ?_
  · rw [List.take_replicate, Nat.min_eq_left (by omega), ilev_sp]; omega
  · rintro ⟨h1, _⟩; rw [List.length_replicate] at h1; omega
theorem pc_fig {f g : Nat} (h : f ≤ g) : (ws (pc f g)).n - (ws (pc f g)).nt = f := by
  by_cases q : f < g
  · rw [pc_tab q, ws_tab]; show f + 0 + 1 + 0 - 1 = f; omega
  · obtain rfl : f = g := by omega
    rw [pc_full, ws_sp]; show 0 + 0 + f - 0 = f; omega
noncomputable def ldX (G : Nat → Nat) : Nat → List Nat → List Nat
  | _, [] => []
  | j, f :: fs => pc f (G j) ++ ldX G (j + 1) fs
theorem pc_pos {f g : Nat} (h : f ≤ g) (hg : 1 ≤ g) : 1 ≤ (pc f g).length := by
  rw [pc_len h]; split <;> omega
theorem nt_sp : (ws [32]).nt = 0 := rfl
theorem nt_tab : (ws [9]).nt = 1 := rfl
theorem ones {G : Nat → Nat} : ∀ (fs : List Nat) (j : Nat), (∀ i, fs.getD i 0 ≤ G (j + i)) → (∀ i, j ≤ i → G i = 1) → (ldX G j fs).map (fun c => 1 - (ws [c]).nt) = fs
  | [], _, _, _ => rfl
  | f :: fs, j, h, h1 => by
    have hf := h 0
    rw [Nat.add_zero, h1 j (Nat.le_refl _)] at hf
    have hf : f ≤ 1 := hf
    rw [ldX, List.map_append, ones fs (j + 1) (fun i => by have := h (i + 1); rw [show j + 1 + i = j + (i + 1) from by omega]; exact this) (fun i hi => h1 i (by omega)), h1 j (Nat.le_refl _)]
    have : f = 0 ∨ f = 1 := by omega
    rcases this with rfl | rfl
    · show [1 - (ws [9]).nt] ++ fs = _; rw [nt_tab]; rfl
    · show [1 - (ws [32]).nt] ++ fs = _; rw [nt_sp]; rfl
/-- a spelled line reads back -/
theorem rd_back {sz : List Nat} {e k : Nat} (hg : ∀ i, 1 ≤ gx sz e i) : ∀ (fs : List Nat) (j d : Nat) (acc : List Nat), (∀ i, fs.getD i 0 ≤ gx sz e (j + i)) → k < gx sz e (j + fs.length) → (ldX (gx sz e) j fs ++ List.replicate k 32).length < d → rdGo (iv sz e) d j (ldX (gx sz e) j fs ++ List.replicate k 32) acc = (acc ++ fs, List.replicate k 32)
  | _, _, 0, _, _, _, h => absurd h (Nat.not_lt_zero _)
  | [], j, d + 1, acc, _, hk, _ => by
    rw [rdGo]
    show (match iv sz e j with | none => _ | some g => _) = _
    rw [ldX, List.nil_append]
    cases q : iv sz e j with
    | none =>
      have := iv_none q j (Nat.le_refl _)
      rw [List.length_nil, Nat.add_zero, this] at hk
      obtain rfl : k = 0 := by omega
      rfl
    | some g =>
      have := iv_some q
      rw [List.length_nil, Nat.add_zero, this] at hk
      show (if _ then _ else _) = _
      rw [cut_end hk, if_pos (by rw [List.length_replicate]; omega), List.append_nil]
  | f :: fs, j, d + 1, acc, h, hk, hd => by
    rw [rdGo]
    cases q : iv sz e j with
    | none =>
      have h1 := iv_none q
      rw [h1 _ (Nat.le_add_right _ _)] at hk
      obtain rfl : k = 0 := by omega
      show (acc ++ (ldX (gx sz e) j (f :: fs) ++ []).map _, []) = _
      rw [List.append_nil, ones _ _ h h1]; rfl
    | some g =>
      have hgj := iv_some q
      have hf : f ≤ g := by have := h 0; rw [Nat.add_zero, hgj] at this; exact this
      have hg1 : 1 ≤ g := hgj ▸ hg j
      rw [ldX, hgj, List.append_assoc] at hd ⊢
      rw [List.length_append] at hd
      have hp := pc_pos hf hg1
      show (if _ then _ else _) = _
      rw [cut_pc hf hg1, if_neg (by rw [List.length_append]; omega), List.take_left, List.drop_left, pc_fig hf]
      rw [rd_back hg fs (j + 1) d (acc ++ [f]) (fun i => by have := h (i + 1); rw [show j + 1 + i = j + (i + 1) from by omega]; exact this) (by rw [List.length_cons] at hk; rw [show j + 1 + fs.length = j + (fs.length + 1) from by omega]; exact hk) (by omega)]
      rw [List.append_assoc]; rfl
/-- a run of blanks begins with a piece, or is too short for one -/
theorem split_pc : ∀ (g : Nat) (l : List Nat), (∀ c ∈ l, c = 32 ∨ c = 9) → (∃ k, k < g ∧ l = List.replicate k 32) ∨ (∃ f r, f ≤ g ∧ l = pc f g ++ r)
  | 0, l, _ => .inr ⟨0, l, Nat.le_refl 0, rfl⟩
  | g + 1, [], _ => .inl ⟨0, Nat.succ_pos _, rfl⟩
  | g + 1, c :: l, h => by
    rcases h c (.head _) with rfl | rfl
    · rcases split_pc g l fun c hc => h c (.tail _ hc) with ⟨k, hk, rfl⟩ | ⟨f, r, hf, rfl⟩
      · exact .inl ⟨k + 1, by omega, rfl⟩
      · refine .inr ⟨f + 1, r, by omega, ?_⟩
        unfold pc
        rw [List.replicate_succ, Nat.add_sub_add_right]; rfl
    · exact .inr ⟨0, l, Nat.zero_le _, by unfold pc; rw [Nat.sub_zero, List.take_succ_cons, List.take_nil]; rfl⟩
theorem parse (G : Nat → Nat) (hg : ∀ i, 1 ≤ G i) : ∀ (n j : Nat) (l : List Nat), l.length ≤ n → (∀ c ∈ l, c = 32 ∨ c = 9) → ∃ fs k, l = ldX G j fs ++ List.replicate k 32 ∧ (∀ i, fs.getD i 0 ≤ G (j + i)) ∧ k < G (j + fs.length) ∧ fs.length ≤ l.length
  | n, j, l, hn, h => by
    rcases split_pc (G j) l h with ⟨k, hk, rfl⟩ | ⟨f, r, hf, rfl⟩
    · exact ⟨[], k, rfl, fun i => by rw [getD_over [] (Nat.zero_le _)]; exact Nat.zero_le _, hk, Nat.zero_le _⟩
    · have hp := pc_pos hf (hg j)
      rw [List.length_append] at hn
      cases n with
      | zero => omega
      | succ n =>
        obtain ⟨fs, k, rfl, h1, h2, h3⟩ := parse G hg n (j + 1) r (by omega) fun c hc => h c (List.mem_append_right _ hc)
        refine ⟨f :: fs, k, by rw [ldX, List.append_assoc], fun i => ?_, by rw [List.length_cons, show j + (fs.length + 1) = j + 1 + fs.length from by omega]; exact h2, by rw [List.length_cons, List.length_append (as := pc f (G j))]; omega⟩
        cases i with
        | zero => exact hf
        | succ i => have := h1 i; rw [show j + 1 + i = j + (i + 1) from by omega] at this; exact this
end Mine

namespace Mine
theorem lead_cons (f g : Nat) (fs gs : List Nat) : leadOf (f :: fs) (g :: gs) = pc f g ++ leadOf fs gs := by
  unfold leadOf
  rw [List.length_cons, List.range_succ_eq_map, List.map_cons, List.flatten_cons, List.map_map]
  rfl
theorem ldX_lead {G : Nat → Nat} : ∀ (fs gs : List Nat) (j : Nat), gs.length = fs.length → (∀ i, i < fs.length → gs.getD i 0 = G (j + i)) → ldX G j fs = leadOf fs gs
  | [], gs, _, h, _ => by obtain rfl := List.length_eq_zero_iff.mp h; rfl
  | f :: fs, [], _, h, _ => by simp at h
  | f :: fs, g :: gs, j, h, hG => by
    have h0 : g = G j := hG 0 (Nat.succ_pos _)
    rw [lead_cons, ldX, ← h0, ldX_lead fs gs (j + 1) (by simpa using h) fun i hi => by
      have := hG (i + 1) (by rw [List.length_cons]; omega)
      rw [show j + 1 + i = j + (i + 1) from by omega]; exact this]
theorem wsGo_n {w : List Nat} (hw : Stop w) : ∀ (l : List Nat) (v : WS), (∀ c ∈ l, c = 32 ∨ c = 9) → (wsGo (l ++ w) v).n = v.n + l.length
  | [], v, _ => by rw [List.nil_append, go_stop hw]; rfl
  | c :: l, v, h => by
    rcases h c (.head _) with rfl | rfl
    · rw [List.cons_append, wsGo, if_pos rfl, wsGo_n hw l _ fun c hc => h c (.tail _ hc), List.length_cons]; show v.n + 1 + _ = _; omega
    · rw [List.cons_append, wsGo, if_neg (by decide), if_pos rfl, wsGo_n hw l _ fun c hc => h c (.tail _ hc), List.length_cons]; show v.n + 1 + _ = _; omega
theorem blk_eq {w : List Nat} (hw : Stop w) (l : List Nat) (h : ∀ c ∈ l, c = 32 ∨ c = 9) : blk (l ++ w) = l := by
  unfold blk ws
  rw [wsGo_n hw l _ h, Nat.zero_add, List.take_left]
theorem lead_blank (fs gs : List Nat) : ∀ c ∈ leadOf fs gs, c = 32 ∨ c = 9 := by
  intro c hc
  obtain ⟨l, hl, hc⟩ := List.mem_flatten.mp hc
  obtain ⟨i, _, rfl⟩ := List.mem_map.mp hl
  rcases List.mem_append.mp hc with hc | hc
  · exact .inl (List.eq_of_mem_replicate hc)
  · exact .inr (List.mem_singleton.mp (List.mem_of_mem_take hc))
/-- reading any spelled line -/
theorem rdOf_back {sz : List Nat} {e k : Nat} (hg : ∀ i, 1 ≤ gx sz e i) {fs gs w : List Nat} (hl : gs.length = fs.length) (hG : ∀ i, i < fs.length → gs.getD i 0 = gx sz e i) (h : ∀ i, fs.getD i 0 ≤ gs.getD i 0) (hk : k < gx sz e fs.length) (hw : Stop w) : rdOf sz e (leadOf fs gs ++ List.replicate k 32 ++ w) = (fs, List.replicate k 32) := by
  have hb : ∀ c ∈ leadOf fs gs ++ List.replicate k 32, c = 32 ∨ c = 9 := fun c hc => by
    rcases List.mem_append.mp hc with hc | hc
    · exact lead_blank _ _ c hc
    · exact .inl (List.eq_of_mem_replicate hc)
  have e1 := ldX_lead (G := gx sz e) fs gs 0 hl fun i hi => by rw [Nat.zero_add]; exact hG i hi
  unfold rdOf
  rw [blk_eq hw _ hb, ← e1]
  refine rd_back hg fs 0 _ [] (fun i => ?_) (by rw [Nat.zero_add]; exact hk) (Nat.lt_succ_self _)
  by_cases q : i < fs.length
  · rw [Nat.zero_add, ← hG i q]; exact h i
  · rw [getD_over fs (by omega)]; exact Nat.zero_le _
end Mine

namespace Mine
theorem num_ok {sz ld : List Nat} {e : Nat} {wds : List (List Nat)} (hgap : ∀ m, gapsOf sz m = (List.range m).map (gx sz e)) (hg : ∀ i, 1 ≤ gx sz e i ∧ gx sz e i ≤ 3) (hb : ∀ c ∈ ld, c = 32 ∨ c = 9) (hl5 : ld.length ≤ 5)
    (hw5 : wds.length = 5) (hst : ∀ k, Stop (wds.getD k [])) (hwl : ∀ k, (wds.getD k []).length ≤ 20) (hcp : ∀ k, Cp (wds.getD k [])) : ∃ fs lf gs, NumOk sz e ld wds fs lf gs := by
  obtain ⟨fs, k, hld, h1, h2, h3⟩ := parse (gx sz e) (fun i => (hg i).1) ld.length 0 ld (Nat.le_refl _) hb
  have hgs : ∃ gs, gs = (List.range fs.length).map (gx sz e) := ⟨_, rfl⟩
  obtain ⟨gs, hgs⟩ := hgs
  have glen : gs.length = fs.length := by rw [hgs, List.length_map, List.length_range]
  have gget : ∀ i, i < fs.length → gs.getD i 0 = gx sz e i := fun i hi => by
    rw [hgs, List.getD_eq_getElem?_getD, List.getElem?_map, List.getElem?_range hi]; rfl
  have g3 : ∀ i, gs.getD i 0 ≤ 3 := fun i => by
    by_cases q : i < fs.length
    · rw [gget i q]; exact (hg i).2
    · rw [getD_over gs (by omega)]; exact Nat.zero_le _
  have hle : ∀ i, fs.getD i 0 ≤ gs.getD i 0 := fun i => by
    by_cases q : i < fs.length
    · rw [gget i q]; have := h1 i; rw [Nat.zero_add] at this; exact this
    · rw [getD_over fs (by omega)]; exact Nat.zero_le _
  rw [Nat.zero_add] at h2
  have hk3 := (hg fs.length).2
  have hld' : ld = leadOf fs gs ++ List.replicate k 32 := by
    rw [← ldX_lead (G := gx sz e) fs gs 0 glen fun i hi => by rw [Nat.zero_add]; exact gget i hi]; exact hld
  have back : ∀ (m : Nat) (w : List Nat), Stop w → rdOf sz e (leadOf (figs m gs) gs ++ List.replicate k 32 ++ w) = (figs m gs, List.replicate k 32) := fun m w hw => by
    have hfl := figs_length m gs
    exact rdOf_back (fun i => (hg i).1) (by omega) (fun i hi => gget i (by omega)) (figs_le gs m) (by rw [hfl, glen]; exact h2) hw
  obtain ⟨n1, n2⟩ := figs_num gs fs glen.symm hle
  refine ⟨fs, List.replicate k 32, gs, ?_, by rw [hgap, hgs], glen, by omega, by rw [List.length_replicate]; omega, by omega, hw5, hwl, fun i => Nat.le_trans (g3 i) (by omega), figs_le gs, fun c hc => by rw [List.eq_of_mem_replicate hc]; decide, hcp, fun p _ => ⟨?_, back _ _ (hst _)⟩, ?_, fun p q hp hq => ?_⟩
  · rw [hld']; have := back (numOf fs gs) _ (hst 0); rw [n1] at this; exact this
  · unfold lineOf
    have := line_ok (w := wds.getD p.2 []) (k := k) (figs_le gs (pkOf (totOf gs) p.1)) (hst p.2) g3 (fun i hi => by rw [gget i (by omega)]; exact (hg i).1) (by omega) (by omega)
    rw [List.length_replicate]; exact this
  · unfold lineOf pkOf
    show leadOf (figs ((numOf fs gs : Int) % (totOf gs : Int)).toNat gs) gs ++ List.replicate k 32 ++ wds.getD 0 [] = _
    rw [← Int.natCast_emod, Int.toNat_natCast, Nat.mod_eq_of_lt n2, n1, ← hld']
  · constructor
    · intro h
      obtain ⟨a, b⟩ := List.cons.inj h
      unfold lineOf; rw [a, b]
    · intro h
      unfold keyOf at h
      rw [List.cons_lt_cons_iff] at h
      unfold lineOf
      rcases h with h | ⟨a, b⟩
      · rw [List.append_assoc, List.append_assoc]
        refine lead_lt gs _ _ _ _ h ?_
        have ht : 0 < totOf gs := tk_pos _ _
        have := Int.emod_lt_of_pos q.1 (show (0 : Int) < (totOf gs : Int) by omega)
        have h0 := Int.emod_nonneg q.1 (show (totOf gs : Int) ≠ 0 by omega)
        unfold pkOf; omega
      · rw [a]; exact app_lt _ b
end Mine

namespace Mine
/-- sizes: some intervals, then nothing, or 0 or 127 first -/
structure Szs (a z : List Nat) : Prop where
  ne : a ≠ []
  a1 : ∀ x ∈ a, 1 ≤ x ∧ x ≤ 3
  z0 : z = [] ∨ z.getD 0 0 = 0 ∨ z.getD 0 0 = 127
theorem at_a {a z : List Nat} {i : Nat} (h : i < a.length) : (a ++ z).getD i 0 = a.getD i 0 := by
  rw [List.getD_eq_getElem?_getD, List.getElem?_append_left h, ← List.getD_eq_getElem?_getD]
theorem at_z {a z : List Nat} : (a ++ z).getD a.length 0 = z.getD 0 0 := by
  rw [List.getD_eq_getElem?_getD, List.getElem?_append_right (Nat.le_refl _), Nat.sub_self, ← List.getD_eq_getElem?_getD]
theorem Szs.at {a z : List Nat} (S : Szs a z) {i : Nat} (h : i < a.length) : 1 ≤ a.getD i 0 ∧ a.getD i 0 ≤ 3 := by
  rw [List.getD_eq_getElem?_getD, List.getElem?_eq_getElem h]; exact S.a1 _ (List.getElem_mem h)
theorem Szs.ge {a z : List Nat} (S : Szs a z) : GE (a ++ z) a.length := by
  refine ⟨by rw [List.length_append]; omega, List.length_pos_iff.mpr S.ne, fun i hi => ?_, fun hi => ?_⟩
  · rw [at_a hi]; have := S.at hi; omega
  · rw [at_z]
    rcases S.z0 with rfl | h | h
    · rw [List.append_nil] at hi; omega
    · exact .inl h
    · exact .inr h
theorem Szs.gx {a z : List Nat} (S : Szs a z) (i : Nat) : 1 ≤ gx (a ++ z) a.length i ∧ Mine.gx (a ++ z) a.length i ≤ 3 := by
  unfold Mine.gx
  have hp := List.length_pos_iff.mpr S.ne
  split
  · next h => rw [at_a h]; exact S.at h
  · split
    · rw [at_a (by omega)]; exact S.at (by omega)
    · omega
theorem Szs.iv {a z : List Nat} (S : Szs a z) (j k : Nat) (h : iv (a ++ z) a.length j = some k) : 1 ≤ k ∧ k ≤ 1000 := by
  have := S.gx j
  rw [iv_some h] at this
  omega
theorem isEnd_at {a z : List Nat} (S : Szs a z) {i : Nat} (h : i < a.length) : isEnd (a ++ z) i = false := by
  unfold isEnd
  rw [at_a h]
  have := S.at h
  refine decide_eq_false fun q => ?_
  rcases List.mem_cons.mp q with q | q
  · omega
  · have := List.mem_singleton.mp q; omega
theorem Szs.e0 {a z : List Nat} (S : Szs a z) : e0 (a ++ z) = a.length := by
  unfold Mine.e0 ends
  rw [List.length_append, List.range_add, List.filter_append, List.filter_eq_nil_iff.mpr fun i hi => by rw [isEnd_at S (List.mem_range.mp hi)]; decide, List.nil_append]
  rcases z with _ | ⟨x, r⟩
  · simp
  · have hx : isEnd (a ++ x :: r) a.length = true := by
      unfold isEnd
      rw [at_z]
      rcases S.z0 with h | h | h
      · cases h
      · rw [h]; rfl
      · rw [h]; rfl
    rw [List.length_cons, List.range_succ_eq_map, List.map_cons, Nat.add_zero, List.filter_cons_of_pos hx]
    rfl
theorem flat_rep (n c : Nat) : (List.replicate n [c]).flatten = List.replicate n c := by
  induction n with
  | zero => rfl
  | succ n ih => rw [List.replicate_succ, List.flatten_cons, ih, List.replicate_succ]; rfl
theorem Szs.gaps {a z : List Nat} (S : Szs a z) (m : Nat) : gapsOf (a ++ z) m = (List.range m).map (Mine.gx (a ++ z) a.length) := by
  have hp := List.length_pos_iff.mpr S.ne
  have key : ∀ c, moreOf (a ++ z) = [c] → (∀ i, a.length ≤ i → Mine.gx (a ++ z) a.length i = c) → gapsOf (a ++ z) m = (List.range m).map (Mine.gx (a ++ z) a.length) := fun c h1 h2 => by
    unfold gapsOf
    rw [S.e0, h1, flat_rep, List.take_left]
    apply List.ext_getElem?
    intro i
    rw [List.getElem?_take, List.getElem?_map]
    by_cases q : i < m
    · rw [if_pos q, List.getElem?_range q]
      by_cases q2 : i < a.length
      · rw [List.getElem?_append_left q2, List.getElem?_eq_getElem q2]
        show _ = some (Mine.gx (a ++ z) a.length i)
        unfold Mine.gx
        rw [if_pos q2, at_a q2, List.getD_eq_getElem?_getD, List.getElem?_eq_getElem q2]; rfl
      · rw [List.getElem?_append_right (by omega), List.getElem?_replicate, if_pos (by omega)]
        show _ = some (Mine.gx (a ++ z) a.length i)
        rw [h2 i (by omega)]
    · rw [if_neg q, List.getElem?_eq_none (by rw [List.length_range]; omega)]; rfl
  have e1 : ((a ++ z).take (a.length + 1)).drop a.length = z.take 1 := by
    rw [List.drop_take, List.drop_left, Nat.add_sub_cancel_left]
  by_cases q : z.take 1 = [0]
  · refine key (a.getD (a.length - 1) 0) ?_ fun i hi => ?_
    · unfold moreOf
      rw [S.e0, e1, if_pos q, List.take_left, List.drop_eq_getElem_cons (by omega), List.drop_eq_nil_of_le (by omega), List.getD_eq_getElem?_getD, List.getElem?_eq_getElem (by omega)]; rfl
    · unfold Mine.gx
      obtain ⟨x, r, rfl⟩ : ∃ x r, z = x :: r := by cases z with | nil => cases q | cons x r => exact ⟨x, r, rfl⟩
      have hx : x = 0 := by cases q; rfl
      rw [if_neg (by omega), if_pos ⟨by rw [List.length_append, List.length_cons]; omega, by rw [at_z]; exact hx⟩, at_a (by omega)]
  · refine key 1 ?_ fun i hi => ?_
    · unfold moreOf; rw [S.e0, e1, if_neg q]
    · unfold Mine.gx
      rw [if_neg (by omega), if_neg]
      rintro ⟨h1, h2⟩
      rw [List.length_append] at h1
      rw [at_z] at h2
      cases z with
      | nil => simp at h1
      | cons x r => exact q (by rw [show x = 0 from h2]; rfl)
end Mine

namespace Mine
theorem sign_b (n : Int) : 33 ≤ signOf n ∧ signOf n < 0x110000 := by
  have h1 := fmod_lo n (b := 1112031) (by decide)
  have h2 := fmod_hi n (b := 1112031) (by decide)
  unfold signOf
  split <;> omega
theorem drawn_mem (ns : List Int) : ∀ x ∈ drawnOf ns, 1 ≤ x ∧ x ≤ 3 := fun x hx => by
  obtain ⟨y, _, rfl⟩ := List.mem_map.mp hx
  have h1 := fmod_lo y (b := 3) (by decide)
  have h2 := fmod_hi y (b := 3) (by decide)
  omega
theorem drawn_ne (ns : List Int) : drawnOf ns ≠ [] := fun q => by
  have : (drawnOf ns).length = 0 := by rw [q]; rfl
  unfold drawnOf at this
  rw [List.length_map, List.length_take, List.length_append] at this
  simp only [List.length_cons, List.length_nil] at this
  omega
theorem szs1 (ns : List Int) : Szs (drawnOf ns) (endOf ns.length) := by
  refine ⟨drawn_ne ns, drawn_mem ns, ?_⟩
  unfold endOf
  have hk : ns.length % 3 < 3 := Nat.mod_lt _ (by decide)
  generalize ns.length % 3 = k at hk
  match k, hk with
  | 0, _ => exact .inr (.inl rfl)
  | 1, _ => exact .inr (.inr rfl)
  | 2, _ => exact .inl rfl
theorem szs2 (ns : List Int) : Szs [(drawnOf ns).getD 0 0] [0] := by
  refine ⟨by simp, fun x hx => ?_, .inr (.inl rfl)⟩
  rw [List.mem_singleton.mp hx]
  have hp := List.length_pos_iff.mpr (drawn_ne ns)
  rw [List.getD_eq_getElem?_getD, List.getElem?_eq_getElem hp]
  exact drawn_mem ns _ (List.getElem_mem hp)
theorem sg_ok {ns : List Int} {l : List (List Nat)} (h : ∀ x ∈ l, x ∈ sgOf ns) (hl : l.length ≤ 4) : Stop l.flatten ∧ l.flatten.length ≤ 20 ∧ Cp l.flatten := by
  have hs : ∀ x ∈ sgOf ns, ∃ n, x = [signOf n] := fun x hx => by obtain ⟨n, _, rfl⟩ := List.mem_map.mp hx; exact ⟨n, rfl⟩
  refine ⟨?_, ?_, fun c hc => ?_⟩
  · cases l with
    | nil => exact .inl rfl
    | cons x r =>
      obtain ⟨n, rfl⟩ := hs x (h x (.head _))
      have := sign_b n
      exact .inr ⟨signOf n, r.flatten, rfl, by omega, by omega⟩
  · rw [flat_len1 l fun x hx => by obtain ⟨n, rfl⟩ := hs x (h x hx); rfl]; omega
  · obtain ⟨x, hx, hc⟩ := List.mem_flatten.mp hc
    obtain ⟨n, rfl⟩ := hs x (h x hx)
    rw [List.mem_singleton.mp hc]; exact (sign_b n).2
theorem mine_ok (ns : List Int) (k : Nat) : Stop ((mineOf ns).getD k []) ∧ ((mineOf ns).getD k []).length ≤ 20 ∧ Cp ((mineOf ns).getD k []) := by
  have hl : (sgOf ns).length ≤ 4 := by unfold sgOf; rw [List.length_map, List.length_take]; omega
  match k with
  | 0 => exact ⟨.inr ⟨97, _, rfl, by decide, by decide⟩, by show 3 ≤ 20; decide, by show ∀ c ∈ [97, 32, 9], c < 0x110000; decide⟩
  | 1 => exact ⟨.inr ⟨66, _, rfl, by decide, by decide⟩, by show 1 ≤ 20; decide, by show ∀ c ∈ [66], c < 0x110000; decide⟩
  | 2 => exact ⟨.inl rfl, Nat.zero_le _, fun c hc => by cases hc⟩
  | 3 => exact sg_ok (ns := ns) (l := (sgOf ns).take 2) (fun x hx => List.mem_of_mem_take hx) (by rw [List.length_take]; omega)
  | 4 => exact sg_ok (ns := ns) (l := (sgOf ns).drop 1) (fun x hx => List.mem_of_mem_drop hx) (by rw [List.length_drop]; omega)
  | k + 5 => exact ⟨.inl rfl, Nat.zero_le _, fun c hc => by cases hc⟩
theorem text_ok (sd : Int) : (∀ c ∈ textOf sd, c = 32 ∨ c = 9) ∧ (textOf sd).length ≤ 5 := by
  unfold textOf
  rw [flat_single]
  refine ⟨fun c hc => ?_, ?_⟩
  · obtain ⟨p, _, rfl⟩ := List.mem_map.mp hc
    unfold chOf
    have h1 := fmod_lo ((sd.fdiv 5).fdiv (2 ^ p)) (b := 2) (by decide)
    have h2 := fmod_hi ((sd.fdiv 5).fdiv (2 ^ p)) (b := 2) (by decide)
    generalize ((sd.fdiv 5).fdiv (2 ^ p)).fmod 2 = k at h1 h2
    have : k = 0 ∨ k = 1 := by omega
    rcases this with rfl | rfl
    · exact .inl rfl
    · exact .inr rfl
  · rw [List.length_map, List.length_range]
    have h2 := fmod_hi sd (b := 5) (by decide)
    unfold tlen; omega
theorem num_of {a z : List Nat} (S : Szs a z) (hl : (a ++ z).length ≤ 1000) (ns : List Int) : Num (a ++ z) (textOf (seedOf ns)) (mineOf ns) := by
  obtain ⟨h1, h2⟩ := text_ok (seedOf ns)
  obtain ⟨fs, lf, gs, N⟩ := num_ok S.gaps S.gx h1 h2 (wds := mineOf ns) rfl (fun k => (mine_ok ns k).1) (fun k => (mine_ok ns k).2.1) (fun k => (mine_ok ns k).2.2)
  exact ⟨a.length, fs, lf, gs, S.ge, S.iv, N, hl⟩
theorem num1 (ns : List Int) : Num (drawnOf ns ++ endOf ns.length) (textOf (seedOf ns)) (mineOf ns) := by
  refine num_of (szs1 ns) ?_ ns
  have := end_len ns.length
  rw [List.length_append]; unfold drawnOf; rw [List.length_map, List.length_take]; omega
theorem num2 (ns : List Int) : Num [(drawnOf ns).getD 0 0, 0] (textOf (seedOf ns)) (mineOf ns) := num_of (szs2 ns) (by show 2 ≤ 1000; decide) ns
end Mine

namespace Mine
open PySem PySem.W PySem.Calls PyProof.Rows
noncomputable def LawC : Prop := ∀ {w : World} {hL : Heap} {mg mb : Str → Option Value} (_ : Lb w hL mg mb) {prog : Program} {A : Around} {E : Value → Shared → Prop} {Q : Value → Shared → Prop} {s : Shared} {a : Addr} {ns : List Int} (_ : Rm 60 A) (_ : Pr hL s) (_ : ∃ vs, s.heap.IsList a vs.toArray ∧ IntsAre vs ns) (_ : ns.length ≤ 63)
    (_ : ∀ s', Ext s s' → Q (.bool true) s'), wpAny (model prog w) A (call (.ref 164) [.ref a]) Q E s
noncomputable def posOf : Stmt → Pos | .FunctionDef (pos := p) .. => p | _ => ⟨0, 0, 0, 0⟩
noncomputable def dLaw : DefRec := { name := Str.ofString "law", params := parOf (stA 18), body := bodOf (stA 18), scope := scoOf (stA 18), pos := posOf (stA 18) }
theorem joinT (c_law : LawC) : PySem.Challenge.rw_pu0032_01.Holds := by
  w_on
  refine holds_law said0 fun said => ?_
  refine PySem.W.holds_open (q := q) (α := List (Option Obj)) (loose := loose) (Xt := fun _ => true) (XP := fun _ _ => True) (Yf := fun s => KA.map s.heap.get?) (Ya := fun w => (KF w.params).map fun (p : Addr × Obj) => some p.2) (YP := InK KF) (N := 2000) (d := dLaw) (kwd := []) left0 (InK.of KA_eq) InK.keeps (fun _ _ => trivial) (fun _ _ _ _ _ => trivial) (by rfl) (by rfl) (by rfl) ?k1 (by rfl) ?k2 (by decide +kernel) ⟨rfl, rfl, rfl, rfl, rfl, by decide +kernel⟩ ?hw ?hc
  case k1 => intro s _; exact recFacts_of (s := s) rfl
  case k2 => exact said
  case hw => w_witness2
  case hc =>
    intro w s₀ s₁ mg mb G Y a o pm cd doc dV kV ho hd hcd hD hmg hg args vals as hpre hlay hrd hwl hlo
    have B : Lb w s₁.heap mg mb := ⟨Y, G.T.g, G.T.b, G.T.builtins, G.T.nolimit⟩
    clear hd hcd hD
    have ea : a = 164 := by
      have := (glb B (x := Str.ofString "law") (v := .ref 164) (by kernel_rfl)).symm.trans hmg
      cases this; rfl
    subst ea
    wrow_args hpre hlay hrd hwl hlo
    rename_i ns hs2 hl0 hl1 hl2 hl3 as1 as2 l vs as3 hL ra1 wl1 rd1 hI rd2 hc1 hc2
    refine c_law B (ns := ns) ⟨rfl, by decide +kernel, by decide +kernel⟩ ⟨fun _ _ e => e, by rw [hg]; exact AllBare.empty⟩ ⟨vs, hL, hI⟩ (by omega) fun s' X => ?_
    refine ⟨.inl ⟨_, .bool true, [], rfl, fun _ => rfl, .bool _, ?_, fun _ => ⟨List.nodup_nil, fun _ h => nomatch h⟩⟩, .of_keep X.heap, X.os, ?_⟩
    · first | rfl | wrow_post | decide +kernel
    · exact X.bare (by rw [hg]; exact AllBare.empty)
end Mine

namespace Mine
open PySem PySem.W PySem.Calls PyProof.Rows
theorem lawC : LawC := by
  intro w hL mg mb B prog A E Q s a ns R P hs hn h
  obtain ⟨vs, hl, hi⟩ := hs
  exact c_law B (R.le (by omega)) P (LW.of hl hi) hn (num1 ns) (num2 ns) h
theorem holdsT : PySem.Challenge.rw_pu0032_01.Holds := joinT lawC
end Mine

theorem PySem.Challenge.cw_pu0032_01_holds : PySem.Challenge.rw_pu0032_01.Holds :=
  Mine.holdsT
