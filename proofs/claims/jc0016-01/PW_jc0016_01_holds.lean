import PyProof.Rows.All
import Wide.All
import OpenK.AllK
import Wide.FinOn
import PySem.Challenge.RW_jc0016_01
set_option Elab.async false
set_option maxRecDepth 100000
set_option maxHeartbeats 8000000
set_option compiler.extract_closed false
set_option linter.all false
namespace Mine
open PySem PySem.W PyProof.Rows PySem.Calls PySem.Spec

noncomputable def stAt (k : Nat) : Stmt := match PySem.Challenge.pw_jc0016_01.main.body.drop k with
  | s :: _ => s
  | [] => default
noncomputable def cdAt (k i : Nat) : Stmt := match stAt k with
  | .ClassDef _ _ _ b _ _ _ _ _ _ _ => (match b.drop i with
    | s :: _ => s
    | [] => default)
  | _ => default
noncomputable def vS (x : String) (t : Nat) : Value := .str (PySem.Str.ofString x) t
noncomputable def vI (x : Int) (t : Nat) : Value := .int x t
noncomputable def cO (l : List Value) : Obj := { cls := .type "code", data := .fields l.toArray }
noncomputable def fO (st : Stmt) (q : String) (pm : Value) (c : Addr) : Obj := match st with
  | .FunctionDef n a b _ _ _ s _ _ _ => { cls := .type "function", data := .func { name := n, qualname := PySem.Str.ofString q, params := a, body := .stmts b, scope := s, globals := 3, closure := [], defaults := .none, kwdefaults := .none, pyModule := pm, code := .ref c } }
  | _ => default
noncomputable def de (P : Params) (k : String) (t : Nat) (v : Value) : DictEntry := { hash := PyData.keyHash P (PySem.Str.ofString k), key := .str (PySem.Str.ofString k) t, val := v }
noncomputable def hdtop.heap_39 (P : Params) : Frag :=
  (nat_lit 2, { cls := .none, data := .dict #[] 0 }) ::
   (nat_lit 3, { cls := .type "dict", data := .dict #[de P "__name__" 165 (vS "law_jc0016_01" 345), de P "__doc__" 166 (.none), de P "__package__" 167 (.none), de P "__loader__" 168 (.builtin "__main__.__loader__#opaque"), de P "__spec__" 169 (.none), de P "__annotations__" 170 (.ref 6), de P "__builtins__" 171 (.ref 4), de P "__file__" 173 (vS "/claim/cut.py" 172), de P "__cached__" 174 (.none), de P "ge" 196 (.ref 21), de P "and_" 204 (.ref 28), de P "lshift" 212 (.ref 35), de P "mul" 220 (.ref 42), de P "rshift" 228 (.ref 49), de P "sub" 236 (.ref 56), de P "xor" 244 (.ref 63), de P "TupleComp" 288 (.ref 87), de P "add_callers" 299 (.ref 98), de P "count_calls" 308 (.ref 105), de P "_MAX_STRING_SIZE" 312 (vI 40 311), de P "_MOVE_COST" 314 (vI 2 313), de P "_CASE_COST" 316 (vI 1 315), de P "_substitution_cost" 324 (.ref 112), de P "_levenshtein_distance" 344 (.ref 119), de P "_law_cells" 355 (.ref 126), de P "_law_word" 363 (.ref 133), de P "_law_price" 369 (.ref 138), de P "_law_rows" 375 (.ref 143), de P "_law_tables" 381 (.ref 148), de P "_law_next" 391 (.ref 155), de P "_law_round" 403 (.ref 162), de P "_law_line" 414 (.ref 169), de P "_law_sorted" 425 (.ref 176), de P "_law_far" 431 (.ref 181), de P "_law_pulls" 437 (.ref 186), de P "_law_answer" 443 (.ref 191), de P "law" 449 (.ref 196)] 37 }) ::
   (nat_lit 20, cO [vS "ge" 189, vS "ge" 190, vS "/claim/cut.py" 191, vI 2 0, vI 2 0, vI 0 0, vI 0 0, vI 3 0, .ref 15, .bool true, vI 181 0, .ref 16, .none, .ref 17, .ref 18, .ref 19, vI 194 0, vI 2 0, vS "/claim/cut.py" 195]) ::
   (nat_lit 21, fO (stAt 1) "ge" (vS "cpy313.operator" 187) 20) ::
   (nat_lit 27, cO [vS "and_" 197, vS "and_" 198, vS "/claim/cut.py" 199, vI 4 0, vI 2 0, vI 0 0, vI 0 0, vI 3 0, .ref 22, .bool true, vI 181 0, .ref 23, .none, .ref 24, .ref 25, .ref 26, vI 202 0, vI 4 0, vS "/claim/cut.py" 203]) ::
   (nat_lit 28, fO (stAt 2) "and_" (vS "cpy313.operator" 187) 27) ::
   (nat_lit 34, cO [vS "lshift" 205, vS "lshift" 206, vS "/claim/cut.py" 207, vI 6 0, vI 2 0, vI 0 0, vI 0 0, vI 3 0, .ref 29, .bool true, vI 181 0, .ref 30, .none, .ref 31, .ref 32, .ref 33, vI 210 0, vI 6 0, vS "/claim/cut.py" 211]) ::
   (nat_lit 35, fO (stAt 3) "lshift" (vS "cpy313.operator" 187) 34) ::
   (nat_lit 41, cO [vS "mul" 213, vS "mul" 214, vS "/claim/cut.py" 215, vI 8 0, vI 2 0, vI 0 0, vI 0 0, vI 3 0, .ref 36, .bool true, vI 181 0, .ref 37, .none, .ref 38, .ref 39, .ref 40, vI 218 0, vI 8 0, vS "/claim/cut.py" 219]) ::
   (nat_lit 42, fO (stAt 4) "mul" (vS "cpy313.operator" 187) 41) ::
   (nat_lit 48, cO [vS "rshift" 221, vS "rshift" 222, vS "/claim/cut.py" 223, vI 10 0, vI 2 0, vI 0 0, vI 0 0, vI 3 0, .ref 43, .bool true, vI 181 0, .ref 44, .none, .ref 45, .ref 46, .ref 47, vI 226 0, vI 10 0, vS "/claim/cut.py" 227]) ::
   (nat_lit 49, fO (stAt 5) "rshift" (vS "cpy313.operator" 187) 48) ::
   (nat_lit 55, cO [vS "sub" 229, vS "sub" 230, vS "/claim/cut.py" 231, vI 12 0, vI 2 0, vI 0 0, vI 0 0, vI 3 0, .ref 50, .bool true, vI 181 0, .ref 51, .none, .ref 52, .ref 53, .ref 54, vI 234 0, vI 12 0, vS "/claim/cut.py" 235]) ::
   (nat_lit 56, fO (stAt 6) "sub" (vS "cpy313.operator" 187) 55) ::
   (nat_lit 62, cO [vS "xor" 237, vS "xor" 238, vS "/claim/cut.py" 239, vI 14 0, vI 2 0, vI 0 0, vI 0 0, vI 3 0, .ref 57, .bool true, vI 181 0, .ref 58, .none, .ref 59, .ref 60, .ref 61, vI 242 0, vI 14 0, vS "/claim/cut.py" 243]) ::
   (nat_lit 63, fO (stAt 7) "xor" (vS "cpy313.operator" 187) 62) ::
   (nat_lit 76, cO [vS "__init__" 259, vS "TupleComp.__init__" 260, vS "/claim/cut.py" 261, vI 19 0, vI 2 0, vI 0 0, vI 0 0, vI 3 0, .ref 71, .bool true, vI 181 0, .ref 72, .none, .ref 73, .ref 74, .ref 75, vI 264 0, vI 19 0, vS "/claim/cut.py" 265]) ::
   (nat_lit 77, fO (cdAt 9 0) "TupleComp.__init__" (vS "cpy313.pstats" 245) 76) ::
   (nat_lit 83, cO [vS "compare" 267, vS "TupleComp.compare" 268, vS "/claim/cut.py" 269, vI 22 0, vI 3 0, vI 0 0, vI 0 0, vI 3 0, .ref 78, .bool true, vI 181 0, .ref 79, .none, .ref 80, .ref 81, .ref 82, vI 277 0, vI 22 0, vS "/claim/cut.py" 278]) ::
   (nat_lit 84, fO (cdAt 9 1) "TupleComp.compare" (vS "cpy313.pstats" 245) 83) ::
   (nat_lit 86, { cls := .type "dict", data := .dict #[de P "__module__" 254 (vS "cpy313.pstats" 245), de P "__firstlineno__" 258 (vI 17 257), de P "__init__" 266 (.ref 77), de P "compare" 279 (.ref 84), de P "__static_attributes__" 281 (.ref 85), de P "__dict__" 283 (.ref 88), de P "__weakref__" 285 (.ref 89), de P "__doc__" 286 (.none)] 4 }) ::
   (nat_lit 87, { cls := .type "type", data := .cls { name := PySem.Str.ofString "TupleComp", bases := [.type "object"], mro := [.ref 87, .type "object"], ns := 86, qualname := PySem.Str.ofString "TupleComp" }, slots := #[none, none, some (vS "TupleComp" 247), some (vS "TupleComp" 255), some (.builtin "object.__new__"), some (.bool true)] }) ::
   (nat_lit 88, { cls := .type "getset_descriptor", data := .fields #[vS "__dict__" 282, .ref 87, .builtin "function.__dict__", .builtin "function.__dict__#set"] }) ::
   (nat_lit 89, { cls := .type "getset_descriptor", data := .fields #[vS "__weakref__" 284, .ref 87, .builtin "ExceptionGroup.__weakref__", .none] }) ::
   (nat_lit 97, cO [vS "add_callers" 289, vS "add_callers" 290, vS "/claim/cut.py" 291, vI 31 0, vI 2 0, vI 0 0, vI 0 0, vI 3 0, .ref 92, .bool true, vI 181 0, .ref 93, .none, .ref 94, .ref 95, .ref 96, vI 297 0, vI 31 0, vS "/claim/cut.py" 298]) ::
   (nat_lit 98, fO (stAt 10) "add_callers" (vS "cpy313.pstats" 245) 97) ::
   (nat_lit 104, cO [vS "count_calls" 300, vS "count_calls" 301, vS "/claim/cut.py" 302, vI 44 0, vI 1 0, vI 0 0, vI 0 0, vI 3 0, .ref 99, .bool true, vI 181 0, .ref 100, .none, .ref 101, .ref 102, .ref 103, vI 306 0, vI 44 0, vS "/claim/cut.py" 307]) ::
   (nat_lit 105, fO (stAt 11) "count_calls" (vS "cpy313.pstats" 245) 104) ::
   (nat_lit 111, cO [vS "_substitution_cost" 317, vS "_substitution_cost" 318, vS "/claim/cut.py" 319, vI 53 0, vI 2 0, vI 0 0, vI 0 0, vI 3 0, .ref 106, .bool true, vI 181 0, .ref 107, .none, .ref 108, .ref 109, .ref 110, vI 322 0, vI 53 0, vS "/claim/cut.py" 323]) ::
   (nat_lit 112, fO (stAt 16) "_substitution_cost" (vS "cpy313.traceback" 309) 111) ::
   (nat_lit 118, cO [vS "_levenshtein_distance" 325, vS "_levenshtein_distance" 326, vS "/claim/cut.py" 327, vI 59 0, vI 3 0, vI 0 0, vI 0 0, vI 3 0, .ref 113, .bool true, vI 181 0, .ref 114, .none, .ref 115, .ref 116, .ref 117, vI 342 0, vI 59 0, vS "/claim/cut.py" 343]) ::
   (nat_lit 119, fO (stAt 17) "_levenshtein_distance" (vS "cpy313.traceback" 309) 118) ::
   (nat_lit 125, cO [vS "_law_cells" 347, vS "_law_cells" 348, vS "/claim/cut.py" 349, vI 98 0, vI 1 0, vI 0 0, vI 0 0, vI 3 0, .ref 120, .bool true, vI 181 0, .ref 121, .none, .ref 122, .ref 123, .ref 124, vI 353 0, vI 98 0, vS "/claim/cut.py" 354]) ::
   (nat_lit 126, fO (stAt 19) "_law_cells" (vS "law_jc0016_01" 345) 125) ::
   (nat_lit 132, cO [vS "_law_word" 356, vS "_law_word" 357, vS "/claim/cut.py" 358, vI 103 0, vI 1 0, vI 0 0, vI 0 0, vI 3 0, .ref 127, .bool true, vI 181 0, .ref 128, .none, .ref 129, .ref 130, .ref 131, vI 361 0, vI 103 0, vS "/claim/cut.py" 362]) ::
   (nat_lit 133, fO (stAt 20) "_law_word" (vS "law_jc0016_01" 345) 132) ::
   (nat_lit 137, cO [vS "_law_price" 364, vS "_law_price" 365, vS "/claim/cut.py" 366, vI 106 0, vI 2 0, vI 0 0, vI 0 0, vI 3 0, .ref 134, .bool true, vI 181 0, .ref 135, .none, .none, .none, .ref 136, vI 367 0, vI 106 0, vS "/claim/cut.py" 368]) ::
   (nat_lit 138, fO (stAt 21) "_law_price" (vS "law_jc0016_01" 345) 137) ::
   (nat_lit 142, cO [vS "_law_rows" 370, vS "_law_rows" 371, vS "/claim/cut.py" 372, vI 108 0, vI 1 0, vI 0 0, vI 0 0, vI 3 0, .ref 139, .bool true, vI 181 0, .ref 140, .none, .none, .none, .ref 141, vI 373 0, vI 108 0, vS "/claim/cut.py" 374]) ::
   (nat_lit 143, fO (stAt 22) "_law_rows" (vS "law_jc0016_01" 345) 142) ::
   (nat_lit 147, cO [vS "_law_tables" 376, vS "_law_tables" 377, vS "/claim/cut.py" 378, vI 118 0, vI 1 0, vI 0 0, vI 0 0, vI 3 0, .ref 144, .bool true, vI 181 0, .ref 145, .none, .none, .none, .ref 146, vI 379 0, vI 118 0, vS "/claim/cut.py" 380]) ::
   (nat_lit 148, fO (stAt 23) "_law_tables" (vS "law_jc0016_01" 345) 147) ::
   (nat_lit 154, cO [vS "_law_next" 382, vS "_law_next" 383, vS "/claim/cut.py" 384, vI 124 0, vI 2 0, vI 0 0, vI 0 0, vI 3 0, .ref 149, .bool true, vI 181 0, .ref 150, .none, .ref 151, .ref 152, .ref 153, vI 389 0, vI 124 0, vS "/claim/cut.py" 390]) ::
   (nat_lit 155, fO (stAt 24) "_law_next" (vS "law_jc0016_01" 345) 154) ::
   (nat_lit 161, cO [vS "_law_round" 392, vS "_law_round" 393, vS "/claim/cut.py" 394, vI 131 0, vI 3 0, vI 0 0, vI 0 0, vI 3 0, .ref 156, .bool true, vI 181 0, .ref 157, .none, .ref 158, .ref 159, .ref 160, vI 401 0, vI 131 0, vS "/claim/cut.py" 402]) ::
   (nat_lit 162, fO (stAt 25) "_law_round" (vS "law_jc0016_01" 345) 161) ::
   (nat_lit 168, cO [vS "_law_line" 404, vS "_law_line" 405, vS "/claim/cut.py" 406, vI 136 0, vI 2 0, vI 0 0, vI 0 0, vI 3 0, .ref 163, .bool true, vI 181 0, .ref 164, .none, .ref 165, .ref 166, .ref 167, vI 412 0, vI 136 0, vS "/claim/cut.py" 413]) ::
   (nat_lit 169, fO (stAt 26) "_law_line" (vS "law_jc0016_01" 345) 168) ::
   (nat_lit 175, cO [vS "_law_sorted" 415, vS "_law_sorted" 416, vS "/claim/cut.py" 417, vI 144 0, vI 2 0, vI 0 0, vI 0 0, vI 3 0, .ref 170, .bool true, vI 181 0, .ref 171, .none, .ref 172, .ref 173, .ref 174, vI 423 0, vI 144 0, vS "/claim/cut.py" 424]) ::
   (nat_lit 176, fO (stAt 27) "_law_sorted" (vS "law_jc0016_01" 345) 175) ::
   (nat_lit 180, cO [vS "_law_far" 426, vS "_law_far" 427, vS "/claim/cut.py" 428, vI 149 0, vI 1 0, vI 0 0, vI 0 0, vI 3 0, .ref 177, .bool true, vI 181 0, .ref 178, .none, .none, .none, .ref 179, vI 429 0, vI 149 0, vS "/claim/cut.py" 430]) ::
   (nat_lit 181, fO (stAt 28) "_law_far" (vS "law_jc0016_01" 345) 180) ::
   (nat_lit 185, cO [vS "_law_pulls" 432, vS "_law_pulls" 433, vS "/claim/cut.py" 434, vI 153 0, vI 1 0, vI 0 0, vI 0 0, vI 3 0, .ref 182, .bool true, vI 181 0, .ref 183, .none, .none, .none, .ref 184, vI 435 0, vI 153 0, vS "/claim/cut.py" 436]) ::
   (nat_lit 186, fO (stAt 29) "_law_pulls" (vS "law_jc0016_01" 345) 185) ::
   (nat_lit 190, cO [vS "_law_answer" 438, vS "_law_answer" 439, vS "/claim/cut.py" 440, vI 155 0, vI 3 0, vI 0 0, vI 0 0, vI 3 0, .ref 187, .bool true, vI 181 0, .ref 188, .none, .none, .none, .ref 189, vI 441 0, vI 155 0, vS "/claim/cut.py" 442]) ::
   (nat_lit 191, fO (stAt 30) "_law_answer" (vS "law_jc0016_01" 345) 190) ::
   (nat_lit 195, cO [vS "law" 444, vS "law" 445, vS "/claim/cut.py" 446, vI 161 0, vI 1 0, vI 0 0, vI 0 0, vI 3 0, .ref 192, .bool true, vI 181 0, .ref 193, .none, .none, .none, .ref 194, vI 447 0, vI 161 0, vS "/claim/cut.py" 448]) ::
   (nat_lit 196, fO (stAt 31) "law" (vS "law_jc0016_01" 345) 195) :: []
noncomputable def asK : List Nat := [2, 3, 20, 21, 27, 28, 34, 35, 41, 42, 48, 49, 55, 56, 62, 63, 76, 77, 83, 84, 86, 87, 88, 89, 97, 98, 104, 105, 111, 112, 118, 119, 125, 126, 132, 133, 137, 138, 142, 143, 147, 148, 154, 155, 161, 162, 168, 169, 175, 176, 180, 181, 185, 186, 190, 191, 195, 196]
noncomputable def hdtop.view_39 : Program := { PySem.Challenge.pw_jc0016_01 with main := { PySem.Challenge.pw_jc0016_01.main with body := [1, 2, 3, 4, 5, 6, 7, 9, 10, 11, 13, 14, 15, 16, 17, 19, 20, 21, 22, 23, 24, 25, 26, 27, 28, 29, 30, 31].map stAt } }

noncomputable def gO (st : Stmt) (q : String) : Obj := match st with
  | .FunctionDef n a b _ _ _ s _ _ _ => { cls := .none, data := .func { name := n, qualname := PySem.Str.ofString q, params := a, body := .stmts b, scope := s, globals := 0, closure := [], defaults := .none, kwdefaults := .none } }
  | _ => default
noncomputable def hp0 (P : Params) : Heap := { objs := ⟨
   boot_o_0 P ::
   boot_o_1 P ::
   boot_o_2 P ::
   boot_o_3 P ::
   boot_o_4 P ::
   boot_o_5 P ::
   boot_o_6 P ::
   boot_o_7 P ::
   boot_o_8 P ::
   boot_o_9 P ::
   boot_o_10 P ::
   ({ cls := .type "tuple", data := .seq #[] } : Obj) ::
   ({ cls := .none, data := .fields #[] } : Obj) ::
   ({ cls := .type "code", data := .fields #[vS "<module>" 182, vS "<module>" 183, vS "/claim/cut.py" 184, vI 1 0, vI 0 0, vI 0 0, vI 0 0, vI 0 0, .ref 11, .bool false, vI 181 0, .ref 12, .none, .none, .none, .none, vI 185 0, vI 1 0, vS "/claim/cut.py" 186] } : Obj) ::
   ({ cls := .type "frame", slots := #[some (.ref 13), some (.ref 3), some (.ref 3), none, some (vS "__main__" 164), none, some (.ref 0)] } : Obj) ::
   []⟩ }
noncomputable def hp1 (P : Params) : Heap := { objs := ⟨
   boot_o_0 P ::
   boot_o_1 P ::
   boot_o_2 P ::
   ({ cls := .type "dict", data := .dict #[de P "__name__" 165 (vS "cpy313.pstats" 245), de P "__doc__" 166 (.none), de P "__package__" 167 (.none), de P "__loader__" 168 (.builtin "__main__.__loader__#opaque"), de P "__spec__" 169 (.none), de P "__annotations__" 170 (.ref 6), de P "__builtins__" 171 (.ref 4), de P "__file__" 173 (vS "/claim/cut.py" 172), de P "__cached__" 174 (.none), de P "ge" 196 (.ref 21), de P "and_" 204 (.ref 28), de P "lshift" 212 (.ref 35), de P "mul" 220 (.ref 42), de P "rshift" 228 (.ref 49), de P "sub" 236 (.ref 56), de P "xor" 244 (.ref 63)] 16 } : Obj) ::
   boot_o_4 P ::
   boot_o_5 P ::
   boot_o_6 P ::
   boot_o_7 P ::
   boot_o_8 P ::
   boot_o_9 P ::
   boot_o_10 P ::
   ({ cls := .type "tuple", data := .seq #[] } : Obj) ::
   ({ cls := .none, data := .fields #[vI 2 0, vI 0 0, .ref 20, vI 4 0, vI 0 0, .ref 27, vI 6 0, vI 0 0, .ref 34, vI 8 0, vI 0 0, .ref 41, vI 10 0, vI 0 0, .ref 48, vI 12 0, vI 0 0, .ref 55, vI 14 0, vI 0 0, .ref 62] } : Obj) ::
   ({ cls := .type "code", data := .fields #[vS "<module>" 182, vS "<module>" 183, vS "/claim/cut.py" 184, vI 1 0, vI 0 0, vI 0 0, vI 0 0, vI 0 0, .ref 11, .bool false, vI 181 0, .ref 12, .none, .none, .none, .none, vI 185 0, vI 1 0, vS "/claim/cut.py" 186] } : Obj) ::
   ({ cls := .type "frame", slots := #[some (.ref 13), some (.ref 3), some (.ref 3), none, some (vS "__main__" 164), none, some (.ref 0)] } : Obj) ::
   ({ cls := .type "tuple", data := .seq #[] } : Obj) ::
   ({ cls := .none, data := .fields #[] } : Obj) ::
   ({ cls := .type "tuple", data := .seq #[vS "a" 192, vS "b" 193] } : Obj) ::
   ({ cls := .type "tuple", data := .seq #[] } : Obj) ::
   gO (stAt 1) "ge" ::
   cO [vS "ge" 189, vS "ge" 190, vS "/claim/cut.py" 191, vI 2 0, vI 2 0, vI 0 0, vI 0 0, vI 3 0, .ref 15, .bool true, vI 181 0, .ref 16, .none, .ref 17, .ref 18, .ref 19, vI 194 0, vI 2 0, vS "/claim/cut.py" 195] ::
   fO (stAt 1) "ge" (vS "cpy313.operator" 187) 20 ::
   ({ cls := .type "tuple", data := .seq #[] } : Obj) ::
   ({ cls := .none, data := .fields #[] } : Obj) ::
   ({ cls := .type "tuple", data := .seq #[vS "a" 200, vS "b" 201] } : Obj) ::
   ({ cls := .type "tuple", data := .seq #[] } : Obj) ::
   gO (stAt 2) "and_" ::
   cO [vS "and_" 197, vS "and_" 198, vS "/claim/cut.py" 199, vI 4 0, vI 2 0, vI 0 0, vI 0 0, vI 3 0, .ref 22, .bool true, vI 181 0, .ref 23, .none, .ref 24, .ref 25, .ref 26, vI 202 0, vI 4 0, vS "/claim/cut.py" 203] ::
   fO (stAt 2) "and_" (vS "cpy313.operator" 187) 27 ::
   ({ cls := .type "tuple", data := .seq #[] } : Obj) ::
   ({ cls := .none, data := .fields #[] } : Obj) ::
   ({ cls := .type "tuple", data := .seq #[vS "a" 208, vS "b" 209] } : Obj) ::
   ({ cls := .type "tuple", data := .seq #[] } : Obj) ::
   gO (stAt 3) "lshift" ::
   cO [vS "lshift" 205, vS "lshift" 206, vS "/claim/cut.py" 207, vI 6 0, vI 2 0, vI 0 0, vI 0 0, vI 3 0, .ref 29, .bool true, vI 181 0, .ref 30, .none, .ref 31, .ref 32, .ref 33, vI 210 0, vI 6 0, vS "/claim/cut.py" 211] ::
   fO (stAt 3) "lshift" (vS "cpy313.operator" 187) 34 ::
   ({ cls := .type "tuple", data := .seq #[] } : Obj) ::
   ({ cls := .none, data := .fields #[] } : Obj) ::
   ({ cls := .type "tuple", data := .seq #[vS "a" 216, vS "b" 217] } : Obj) ::
   ({ cls := .type "tuple", data := .seq #[] } : Obj) ::
   gO (stAt 4) "mul" ::
   cO [vS "mul" 213, vS "mul" 214, vS "/claim/cut.py" 215, vI 8 0, vI 2 0, vI 0 0, vI 0 0, vI 3 0, .ref 36, .bool true, vI 181 0, .ref 37, .none, .ref 38, .ref 39, .ref 40, vI 218 0, vI 8 0, vS "/claim/cut.py" 219] ::
   fO (stAt 4) "mul" (vS "cpy313.operator" 187) 41 ::
   ({ cls := .type "tuple", data := .seq #[] } : Obj) ::
   ({ cls := .none, data := .fields #[] } : Obj) ::
   ({ cls := .type "tuple", data := .seq #[vS "a" 224, vS "b" 225] } : Obj) ::
   ({ cls := .type "tuple", data := .seq #[] } : Obj) ::
   gO (stAt 5) "rshift" ::
   cO [vS "rshift" 221, vS "rshift" 222, vS "/claim/cut.py" 223, vI 10 0, vI 2 0, vI 0 0, vI 0 0, vI 3 0, .ref 43, .bool true, vI 181 0, .ref 44, .none, .ref 45, .ref 46, .ref 47, vI 226 0, vI 10 0, vS "/claim/cut.py" 227] ::
   fO (stAt 5) "rshift" (vS "cpy313.operator" 187) 48 ::
   ({ cls := .type "tuple", data := .seq #[] } : Obj) ::
   ({ cls := .none, data := .fields #[] } : Obj) ::
   ({ cls := .type "tuple", data := .seq #[vS "a" 232, vS "b" 233] } : Obj) ::
   ({ cls := .type "tuple", data := .seq #[] } : Obj) ::
   gO (stAt 6) "sub" ::
   cO [vS "sub" 229, vS "sub" 230, vS "/claim/cut.py" 231, vI 12 0, vI 2 0, vI 0 0, vI 0 0, vI 3 0, .ref 50, .bool true, vI 181 0, .ref 51, .none, .ref 52, .ref 53, .ref 54, vI 234 0, vI 12 0, vS "/claim/cut.py" 235] ::
   fO (stAt 6) "sub" (vS "cpy313.operator" 187) 55 ::
   ({ cls := .type "tuple", data := .seq #[] } : Obj) ::
   ({ cls := .none, data := .fields #[] } : Obj) ::
   ({ cls := .type "tuple", data := .seq #[vS "a" 240, vS "b" 241] } : Obj) ::
   ({ cls := .type "tuple", data := .seq #[] } : Obj) ::
   gO (stAt 7) "xor" ::
   cO [vS "xor" 237, vS "xor" 238, vS "/claim/cut.py" 239, vI 14 0, vI 2 0, vI 0 0, vI 0 0, vI 3 0, .ref 57, .bool true, vI 181 0, .ref 58, .none, .ref 59, .ref 60, .ref 61, vI 242 0, vI 14 0, vS "/claim/cut.py" 243] ::
   fO (stAt 7) "xor" (vS "cpy313.operator" 187) 62 ::
   []⟩ }
noncomputable def hpc (P : Params) : Heap := { objs := ⟨
   boot_o_0 P ::
   boot_o_1 P ::
   boot_o_2 P ::
   ({ cls := .type "dict", data := .dict #[de P "__name__" 165 (vS "cpy313.pstats" 245), de P "__doc__" 166 (.none), de P "__package__" 167 (.none), de P "__loader__" 168 (.builtin "__main__.__loader__#opaque"), de P "__spec__" 169 (.none), de P "__annotations__" 170 (.ref 6), de P "__builtins__" 171 (.ref 4), de P "__file__" 173 (vS "/claim/cut.py" 172), de P "__cached__" 174 (.none), de P "ge" 196 (.ref 21), de P "and_" 204 (.ref 28), de P "lshift" 212 (.ref 35), de P "mul" 220 (.ref 42), de P "rshift" 228 (.ref 49), de P "sub" 236 (.ref 56), de P "xor" 244 (.ref 63), de P "TupleComp" 288 (.ref 87)] 17 } : Obj) ::
   boot_o_4 P ::
   boot_o_5 P ::
   boot_o_6 P ::
   boot_o_7 P ::
   boot_o_8 P ::
   boot_o_9 P ::
   boot_o_10 P ::
   ({ cls := .type "tuple", data := .seq #[] } : Obj) ::
   ({ cls := .none, data := .fields #[vI 2 0, vI 0 0, .ref 20, vI 4 0, vI 0 0, .ref 27, vI 6 0, vI 0 0, .ref 34, vI 8 0, vI 0 0, .ref 41, vI 10 0, vI 0 0, .ref 48, vI 12 0, vI 0 0, .ref 55, vI 14 0, vI 0 0, .ref 62, vI 17 0, vI 0 0, .ref 69] } : Obj) ::
   ({ cls := .type "code", data := .fields #[vS "<module>" 182, vS "<module>" 183, vS "/claim/cut.py" 184, vI 1 0, vI 0 0, vI 0 0, vI 0 0, vI 0 0, .ref 11, .bool false, vI 181 0, .ref 12, .none, .none, .none, .none, vI 185 0, vI 1 0, vS "/claim/cut.py" 186] } : Obj) ::
   ({ cls := .type "frame", slots := #[some (.ref 13), some (.ref 3), some (.ref 3), none, some (vS "__main__" 164), none, some (.ref 0)] } : Obj) ::
   ({ cls := .type "tuple", data := .seq #[] } : Obj) ::
   ({ cls := .none, data := .fields #[] } : Obj) ::
   ({ cls := .type "tuple", data := .seq #[vS "a" 192, vS "b" 193] } : Obj) ::
   ({ cls := .type "tuple", data := .seq #[] } : Obj) ::
   gO (stAt 1) "ge" ::
   cO [vS "ge" 189, vS "ge" 190, vS "/claim/cut.py" 191, vI 2 0, vI 2 0, vI 0 0, vI 0 0, vI 3 0, .ref 15, .bool true, vI 181 0, .ref 16, .none, .ref 17, .ref 18, .ref 19, vI 194 0, vI 2 0, vS "/claim/cut.py" 195] ::
   fO (stAt 1) "ge" (vS "cpy313.operator" 187) 20 ::
   ({ cls := .type "tuple", data := .seq #[] } : Obj) ::
   ({ cls := .none, data := .fields #[] } : Obj) ::
   ({ cls := .type "tuple", data := .seq #[vS "a" 200, vS "b" 201] } : Obj) ::
   ({ cls := .type "tuple", data := .seq #[] } : Obj) ::
   gO (stAt 2) "and_" ::
   cO [vS "and_" 197, vS "and_" 198, vS "/claim/cut.py" 199, vI 4 0, vI 2 0, vI 0 0, vI 0 0, vI 3 0, .ref 22, .bool true, vI 181 0, .ref 23, .none, .ref 24, .ref 25, .ref 26, vI 202 0, vI 4 0, vS "/claim/cut.py" 203] ::
   fO (stAt 2) "and_" (vS "cpy313.operator" 187) 27 ::
   ({ cls := .type "tuple", data := .seq #[] } : Obj) ::
   ({ cls := .none, data := .fields #[] } : Obj) ::
   ({ cls := .type "tuple", data := .seq #[vS "a" 208, vS "b" 209] } : Obj) ::
   ({ cls := .type "tuple", data := .seq #[] } : Obj) ::
   gO (stAt 3) "lshift" ::
   cO [vS "lshift" 205, vS "lshift" 206, vS "/claim/cut.py" 207, vI 6 0, vI 2 0, vI 0 0, vI 0 0, vI 3 0, .ref 29, .bool true, vI 181 0, .ref 30, .none, .ref 31, .ref 32, .ref 33, vI 210 0, vI 6 0, vS "/claim/cut.py" 211] ::
   fO (stAt 3) "lshift" (vS "cpy313.operator" 187) 34 ::
   ({ cls := .type "tuple", data := .seq #[] } : Obj) ::
   ({ cls := .none, data := .fields #[] } : Obj) ::
   ({ cls := .type "tuple", data := .seq #[vS "a" 216, vS "b" 217] } : Obj) ::
   ({ cls := .type "tuple", data := .seq #[] } : Obj) ::
   gO (stAt 4) "mul" ::
   cO [vS "mul" 213, vS "mul" 214, vS "/claim/cut.py" 215, vI 8 0, vI 2 0, vI 0 0, vI 0 0, vI 3 0, .ref 36, .bool true, vI 181 0, .ref 37, .none, .ref 38, .ref 39, .ref 40, vI 218 0, vI 8 0, vS "/claim/cut.py" 219] ::
   fO (stAt 4) "mul" (vS "cpy313.operator" 187) 41 ::
   ({ cls := .type "tuple", data := .seq #[] } : Obj) ::
   ({ cls := .none, data := .fields #[] } : Obj) ::
   ({ cls := .type "tuple", data := .seq #[vS "a" 224, vS "b" 225] } : Obj) ::
   ({ cls := .type "tuple", data := .seq #[] } : Obj) ::
   gO (stAt 5) "rshift" ::
   cO [vS "rshift" 221, vS "rshift" 222, vS "/claim/cut.py" 223, vI 10 0, vI 2 0, vI 0 0, vI 0 0, vI 3 0, .ref 43, .bool true, vI 181 0, .ref 44, .none, .ref 45, .ref 46, .ref 47, vI 226 0, vI 10 0, vS "/claim/cut.py" 227] ::
   fO (stAt 5) "rshift" (vS "cpy313.operator" 187) 48 ::
   ({ cls := .type "tuple", data := .seq #[] } : Obj) ::
   ({ cls := .none, data := .fields #[] } : Obj) ::
   ({ cls := .type "tuple", data := .seq #[vS "a" 232, vS "b" 233] } : Obj) ::
   ({ cls := .type "tuple", data := .seq #[] } : Obj) ::
   gO (stAt 6) "sub" ::
   cO [vS "sub" 229, vS "sub" 230, vS "/claim/cut.py" 231, vI 12 0, vI 2 0, vI 0 0, vI 0 0, vI 3 0, .ref 50, .bool true, vI 181 0, .ref 51, .none, .ref 52, .ref 53, .ref 54, vI 234 0, vI 12 0, vS "/claim/cut.py" 235] ::
   fO (stAt 6) "sub" (vS "cpy313.operator" 187) 55 ::
   ({ cls := .type "tuple", data := .seq #[] } : Obj) ::
   ({ cls := .none, data := .fields #[] } : Obj) ::
   ({ cls := .type "tuple", data := .seq #[vS "a" 240, vS "b" 241] } : Obj) ::
   ({ cls := .type "tuple", data := .seq #[] } : Obj) ::
   gO (stAt 7) "xor" ::
   cO [vS "xor" 237, vS "xor" 238, vS "/claim/cut.py" 239, vI 14 0, vI 2 0, vI 0 0, vI 0 0, vI 3 0, .ref 57, .bool true, vI 181 0, .ref 58, .none, .ref 59, .ref 60, .ref 61, vI 242 0, vI 14 0, vS "/claim/cut.py" 243] ::
   fO (stAt 7) "xor" (vS "cpy313.operator" 187) 62 ::
   ({ cls := .type "tuple", data := .seq #[] } : Obj) ::
   ({ cls := .type "builtin_function_or_method", data := .fields #[.builtin "type.__prepare__", .type "type"] } : Obj) ::
   ({ cls := .type "dict", data := .dict #[de P "__module__" 254 (vS "cpy313.pstats" 245), de P "__qualname__" 256 (vS "TupleComp" 255), de P "__firstlineno__" 258 (vI 17 257), de P "__init__" 266 (.ref 77), de P "compare" 279 (.ref 84), de P "__static_attributes__" 281 (.ref 85)] 6 } : Obj) ::
   ({ cls := .type "tuple", data := .seq #[] } : Obj) ::
   ({ cls := .none, data := .fields #[vI 19 0, vI 4 0, .ref 76, vI 22 0, vI 4 0, .ref 83] } : Obj) ::
   ({ cls := .type "code", data := .fields #[vS "TupleComp" 249, vS "TupleComp" 250, vS "/claim/cut.py" 251, vI 17 0, vI 0 0, vI 0 0, vI 0 0, vI 0 0, .ref 67, .bool false, vI 181 0, .ref 68, .none, .none, .none, .none, vI 252 0, vI 17 0, vS "/claim/cut.py" 253] } : Obj) ::
   ({ cls := .type "frame", slots := #[some (.ref 69), some (.ref 3), some (.ref 66), none, some (vS "cpy313.pstats" 245), none, some (.ref 0)] } : Obj) ::
   ({ cls := .type "tuple", data := .seq #[] } : Obj) ::
   ({ cls := .none, data := .fields #[] } : Obj) ::
   ({ cls := .type "tuple", data := .seq #[vS "self" 262, vS "comp_select_list" 263] } : Obj) ::
   ({ cls := .type "tuple", data := .seq #[] } : Obj) ::
   gO (cdAt 9 0) "TupleComp.__init__" ::
   cO [vS "__init__" 259, vS "TupleComp.__init__" 260, vS "/claim/cut.py" 261, vI 19 0, vI 2 0, vI 0 0, vI 0 0, vI 3 0, .ref 71, .bool true, vI 181 0, .ref 72, .none, .ref 73, .ref 74, .ref 75, vI 264 0, vI 19 0, vS "/claim/cut.py" 265] ::
   fO (cdAt 9 0) "TupleComp.__init__" (vS "cpy313.pstats" 245) 76 ::
   ({ cls := .type "tuple", data := .seq #[] } : Obj) ::
   ({ cls := .none, data := .fields #[] } : Obj) ::
   ({ cls := .type "tuple", data := .seq #[vS "self" 270, vS "left" 271, vS "right" 272, vS "index" 273, vS "direction" 274, vS "l" 275, vS "r" 276] } : Obj) ::
   ({ cls := .type "tuple", data := .seq #[] } : Obj) ::
   gO (cdAt 9 1) "TupleComp.compare" ::
   cO [vS "compare" 267, vS "TupleComp.compare" 268, vS "/claim/cut.py" 269, vI 22 0, vI 3 0, vI 0 0, vI 0 0, vI 3 0, .ref 78, .bool true, vI 181 0, .ref 79, .none, .ref 80, .ref 81, .ref 82, vI 277 0, vI 22 0, vS "/claim/cut.py" 278] ::
   fO (cdAt 9 1) "TupleComp.compare" (vS "cpy313.pstats" 245) 83 ::
   ({ cls := .type "tuple", data := .seq #[vS "comp_select_list" 280] } : Obj) ::
   ({ cls := .type "dict", data := .dict #[de P "__module__" 254 (vS "cpy313.pstats" 245), de P "__firstlineno__" 258 (vI 17 257), de P "__init__" 266 (.ref 77), de P "compare" 279 (.ref 84), de P "__static_attributes__" 281 (.ref 85), de P "__dict__" 283 (.ref 88), de P "__weakref__" 285 (.ref 89), de P "__doc__" 286 (.none)] 4 } : Obj) ::
   ({ cls := .type "type", data := .cls { name := PySem.Str.ofString "TupleComp", bases := [.type "object"], mro := [.ref 87, .type "object"], ns := 86, qualname := PySem.Str.ofString "TupleComp" }, slots := #[none, none, some (vS "TupleComp" 247), some (vS "TupleComp" 255), some (.builtin "object.__new__"), some (.bool true)] } : Obj) ::
   ({ cls := .type "getset_descriptor", data := .fields #[vS "__dict__" 282, .ref 87, .builtin "function.__dict__", .builtin "function.__dict__#set"] } : Obj) ::
   ({ cls := .type "getset_descriptor", data := .fields #[vS "__weakref__" 284, .ref 87, .builtin "ExceptionGroup.__weakref__", .none] } : Obj) ::
   ({ cls := .type "super", data := .fields #[.ref 87, .ref 87, .ref 87] } : Obj) ::
   ({ cls := .type "builtin_function_or_method", data := .fields #[.builtin "object.__init_subclass__", .ref 87] } : Obj) ::
   []⟩ }
noncomputable def hp2 (P : Params) : Heap := { objs := ⟨
   boot_o_0 P ::
   boot_o_1 P ::
   boot_o_2 P ::
   ({ cls := .type "dict", data := .dict #[de P "__name__" 165 (vS "cpy313.traceback" 309), de P "__doc__" 166 (.none), de P "__package__" 167 (.none), de P "__loader__" 168 (.builtin "__main__.__loader__#opaque"), de P "__spec__" 169 (.none), de P "__annotations__" 170 (.ref 6), de P "__builtins__" 171 (.ref 4), de P "__file__" 173 (vS "/claim/cut.py" 172), de P "__cached__" 174 (.none), de P "ge" 196 (.ref 21), de P "and_" 204 (.ref 28), de P "lshift" 212 (.ref 35), de P "mul" 220 (.ref 42), de P "rshift" 228 (.ref 49), de P "sub" 236 (.ref 56), de P "xor" 244 (.ref 63), de P "TupleComp" 288 (.ref 87), de P "add_callers" 299 (.ref 98), de P "count_calls" 308 (.ref 105), de P "_MAX_STRING_SIZE" 312 (vI 40 311), de P "_MOVE_COST" 314 (vI 2 313), de P "_CASE_COST" 316 (vI 1 315), de P "_substitution_cost" 324 (.ref 112)] 23 } : Obj) ::
   boot_o_4 P ::
   boot_o_5 P ::
   boot_o_6 P ::
   boot_o_7 P ::
   boot_o_8 P ::
   boot_o_9 P ::
   boot_o_10 P ::
   ({ cls := .type "tuple", data := .seq #[] } : Obj) ::
   ({ cls := .none, data := .fields #[vI 2 0, vI 0 0, .ref 20, vI 4 0, vI 0 0, .ref 27, vI 6 0, vI 0 0, .ref 34, vI 8 0, vI 0 0, .ref 41, vI 10 0, vI 0 0, .ref 48, vI 12 0, vI 0 0, .ref 55, vI 14 0, vI 0 0, .ref 62, vI 17 0, vI 0 0, .ref 69, vI 31 0, vI 0 0, .ref 97, vI 44 0, vI 0 0, .ref 104, vI 53 0, vI 0 0, .ref 111] } : Obj) ::
   ({ cls := .type "code", data := .fields #[vS "<module>" 182, vS "<module>" 183, vS "/claim/cut.py" 184, vI 1 0, vI 0 0, vI 0 0, vI 0 0, vI 0 0, .ref 11, .bool false, vI 181 0, .ref 12, .none, .none, .none, .none, vI 185 0, vI 1 0, vS "/claim/cut.py" 186] } : Obj) ::
   ({ cls := .type "frame", slots := #[some (.ref 13), some (.ref 3), some (.ref 3), none, some (vS "__main__" 164), none, some (.ref 0)] } : Obj) ::
   ({ cls := .type "tuple", data := .seq #[] } : Obj) ::
   ({ cls := .none, data := .fields #[] } : Obj) ::
   ({ cls := .type "tuple", data := .seq #[vS "a" 192, vS "b" 193] } : Obj) ::
   ({ cls := .type "tuple", data := .seq #[] } : Obj) ::
   gO (stAt 1) "ge" ::
   cO [vS "ge" 189, vS "ge" 190, vS "/claim/cut.py" 191, vI 2 0, vI 2 0, vI 0 0, vI 0 0, vI 3 0, .ref 15, .bool true, vI 181 0, .ref 16, .none, .ref 17, .ref 18, .ref 19, vI 194 0, vI 2 0, vS "/claim/cut.py" 195] ::
   fO (stAt 1) "ge" (vS "cpy313.operator" 187) 20 ::
   ({ cls := .type "tuple", data := .seq #[] } : Obj) ::
   ({ cls := .none, data := .fields #[] } : Obj) ::
   ({ cls := .type "tuple", data := .seq #[vS "a" 200, vS "b" 201] } : Obj) ::
   ({ cls := .type "tuple", data := .seq #[] } : Obj) ::
   gO (stAt 2) "and_" ::
   cO [vS "and_" 197, vS "and_" 198, vS "/claim/cut.py" 199, vI 4 0, vI 2 0, vI 0 0, vI 0 0, vI 3 0, .ref 22, .bool true, vI 181 0, .ref 23, .none, .ref 24, .ref 25, .ref 26, vI 202 0, vI 4 0, vS "/claim/cut.py" 203] ::
   fO (stAt 2) "and_" (vS "cpy313.operator" 187) 27 ::
   ({ cls := .type "tuple", data := .seq #[] } : Obj) ::
   ({ cls := .none, data := .fields #[] } : Obj) ::
   ({ cls := .type "tuple", data := .seq #[vS "a" 208, vS "b" 209] } : Obj) ::
   ({ cls := .type "tuple", data := .seq #[] } : Obj) ::
   gO (stAt 3) "lshift" ::
   cO [vS "lshift" 205, vS "lshift" 206, vS "/claim/cut.py" 207, vI 6 0, vI 2 0, vI 0 0, vI 0 0, vI 3 0, .ref 29, .bool true, vI 181 0, .ref 30, .none, .ref 31, .ref 32, .ref 33, vI 210 0, vI 6 0, vS "/claim/cut.py" 211] ::
   fO (stAt 3) "lshift" (vS "cpy313.operator" 187) 34 ::
   ({ cls := .type "tuple", data := .seq #[] } : Obj) ::
   ({ cls := .none, data := .fields #[] } : Obj) ::
   ({ cls := .type "tuple", data := .seq #[vS "a" 216, vS "b" 217] } : Obj) ::
   ({ cls := .type "tuple", data := .seq #[] } : Obj) ::
   gO (stAt 4) "mul" ::
   cO [vS "mul" 213, vS "mul" 214, vS "/claim/cut.py" 215, vI 8 0, vI 2 0, vI 0 0, vI 0 0, vI 3 0, .ref 36, .bool true, vI 181 0, .ref 37, .none, .ref 38, .ref 39, .ref 40, vI 218 0, vI 8 0, vS "/claim/cut.py" 219] ::
   fO (stAt 4) "mul" (vS "cpy313.operator" 187) 41 ::
   ({ cls := .type "tuple", data := .seq #[] } : Obj) ::
   ({ cls := .none, data := .fields #[] } : Obj) ::
   ({ cls := .type "tuple", data := .seq #[vS "a" 224, vS "b" 225] } : Obj) ::
   ({ cls := .type "tuple", data := .seq #[] } : Obj) ::
   gO (stAt 5) "rshift" ::
   cO [vS "rshift" 221, vS "rshift" 222, vS "/claim/cut.py" 223, vI 10 0, vI 2 0, vI 0 0, vI 0 0, vI 3 0, .ref 43, .bool true, vI 181 0, .ref 44, .none, .ref 45, .ref 46, .ref 47, vI 226 0, vI 10 0, vS "/claim/cut.py" 227] ::
   fO (stAt 5) "rshift" (vS "cpy313.operator" 187) 48 ::
   ({ cls := .type "tuple", data := .seq #[] } : Obj) ::
   ({ cls := .none, data := .fields #[] } : Obj) ::
   ({ cls := .type "tuple", data := .seq #[vS "a" 232, vS "b" 233] } : Obj) ::
   ({ cls := .type "tuple", data := .seq #[] } : Obj) ::
   gO (stAt 6) "sub" ::
   cO [vS "sub" 229, vS "sub" 230, vS "/claim/cut.py" 231, vI 12 0, vI 2 0, vI 0 0, vI 0 0, vI 3 0, .ref 50, .bool true, vI 181 0, .ref 51, .none, .ref 52, .ref 53, .ref 54, vI 234 0, vI 12 0, vS "/claim/cut.py" 235] ::
   fO (stAt 6) "sub" (vS "cpy313.operator" 187) 55 ::
   ({ cls := .type "tuple", data := .seq #[] } : Obj) ::
   ({ cls := .none, data := .fields #[] } : Obj) ::
   ({ cls := .type "tuple", data := .seq #[vS "a" 240, vS "b" 241] } : Obj) ::
   ({ cls := .type "tuple", data := .seq #[] } : Obj) ::
   gO (stAt 7) "xor" ::
   cO [vS "xor" 237, vS "xor" 238, vS "/claim/cut.py" 239, vI 14 0, vI 2 0, vI 0 0, vI 0 0, vI 3 0, .ref 57, .bool true, vI 181 0, .ref 58, .none, .ref 59, .ref 60, .ref 61, vI 242 0, vI 14 0, vS "/claim/cut.py" 243] ::
   fO (stAt 7) "xor" (vS "cpy313.operator" 187) 62 ::
   ({ cls := .type "tuple", data := .seq #[] } : Obj) ::
   ({ cls := .type "builtin_function_or_method", data := .fields #[.builtin "type.__prepare__", .type "type"] } : Obj) ::
   ({ cls := .type "dict", data := .dict #[de P "__module__" 254 (vS "cpy313.pstats" 245), de P "__qualname__" 256 (vS "TupleComp" 255), de P "__firstlineno__" 258 (vI 17 257), de P "__init__" 266 (.ref 77), de P "compare" 279 (.ref 84), de P "__static_attributes__" 281 (.ref 85)] 6 } : Obj) ::
   ({ cls := .type "tuple", data := .seq #[] } : Obj) ::
   ({ cls := .none, data := .fields #[vI 19 0, vI 4 0, .ref 76, vI 22 0, vI 4 0, .ref 83] } : Obj) ::
   ({ cls := .type "code", data := .fields #[vS "TupleComp" 249, vS "TupleComp" 250, vS "/claim/cut.py" 251, vI 17 0, vI 0 0, vI 0 0, vI 0 0, vI 0 0, .ref 67, .bool false, vI 181 0, .ref 68, .none, .none, .none, .none, vI 252 0, vI 17 0, vS "/claim/cut.py" 253] } : Obj) ::
   ({ cls := .type "frame", slots := #[some (.ref 69), some (.ref 3), some (.ref 66), none, some (vS "cpy313.pstats" 245), none, some (.ref 0)] } : Obj) ::
   ({ cls := .type "tuple", data := .seq #[] } : Obj) ::
   ({ cls := .none, data := .fields #[] } : Obj) ::
   ({ cls := .type "tuple", data := .seq #[vS "self" 262, vS "comp_select_list" 263] } : Obj) ::
   ({ cls := .type "tuple", data := .seq #[] } : Obj) ::
   gO (cdAt 9 0) "TupleComp.__init__" ::
   cO [vS "__init__" 259, vS "TupleComp.__init__" 260, vS "/claim/cut.py" 261, vI 19 0, vI 2 0, vI 0 0, vI 0 0, vI 3 0, .ref 71, .bool true, vI 181 0, .ref 72, .none, .ref 73, .ref 74, .ref 75, vI 264 0, vI 19 0, vS "/claim/cut.py" 265] ::
   fO (cdAt 9 0) "TupleComp.__init__" (vS "cpy313.pstats" 245) 76 ::
   ({ cls := .type "tuple", data := .seq #[] } : Obj) ::
   ({ cls := .none, data := .fields #[] } : Obj) ::
   ({ cls := .type "tuple", data := .seq #[vS "self" 270, vS "left" 271, vS "right" 272, vS "index" 273, vS "direction" 274, vS "l" 275, vS "r" 276] } : Obj) ::
   ({ cls := .type "tuple", data := .seq #[] } : Obj) ::
   gO (cdAt 9 1) "TupleComp.compare" ::
   cO [vS "compare" 267, vS "TupleComp.compare" 268, vS "/claim/cut.py" 269, vI 22 0, vI 3 0, vI 0 0, vI 0 0, vI 3 0, .ref 78, .bool true, vI 181 0, .ref 79, .none, .ref 80, .ref 81, .ref 82, vI 277 0, vI 22 0, vS "/claim/cut.py" 278] ::
   fO (cdAt 9 1) "TupleComp.compare" (vS "cpy313.pstats" 245) 83 ::
   ({ cls := .type "tuple", data := .seq #[vS "comp_select_list" 280] } : Obj) ::
   ({ cls := .type "dict", data := .dict #[de P "__module__" 254 (vS "cpy313.pstats" 245), de P "__firstlineno__" 258 (vI 17 257), de P "__init__" 266 (.ref 77), de P "compare" 279 (.ref 84), de P "__static_attributes__" 281 (.ref 85), de P "__dict__" 283 (.ref 88), de P "__weakref__" 285 (.ref 89), de P "__doc__" 286 (.none)] 4 } : Obj) ::
   ({ cls := .type "type", data := .cls { name := PySem.Str.ofString "TupleComp", bases := [.type "object"], mro := [.ref 87, .type "object"], ns := 86, qualname := PySem.Str.ofString "TupleComp" }, slots := #[none, none, some (vS "TupleComp" 247), some (vS "TupleComp" 255), some (.builtin "object.__new__"), some (.bool true)] } : Obj) ::
   ({ cls := .type "getset_descriptor", data := .fields #[vS "__dict__" 282, .ref 87, .builtin "function.__dict__", .builtin "function.__dict__#set"] } : Obj) ::
   ({ cls := .type "getset_descriptor", data := .fields #[vS "__weakref__" 284, .ref 87, .builtin "ExceptionGroup.__weakref__", .none] } : Obj) ::
   ({ cls := .type "super", data := .fields #[.ref 87, .ref 87, .ref 87] } : Obj) ::
   ({ cls := .type "builtin_function_or_method", data := .fields #[.builtin "object.__init_subclass__", .ref 87] } : Obj) ::
   ({ cls := .type "tuple", data := .seq #[] } : Obj) ::
   ({ cls := .none, data := .fields #[] } : Obj) ::
   ({ cls := .type "tuple", data := .seq #[vS "target" 292, vS "source" 293, vS "new_callers" 294, vS "func" 295, vS "caller" 296] } : Obj) ::
   ({ cls := .type "tuple", data := .seq #[] } : Obj) ::
   gO (stAt 10) "add_callers" ::
   cO [vS "add_callers" 289, vS "add_callers" 290, vS "/claim/cut.py" 291, vI 31 0, vI 2 0, vI 0 0, vI 0 0, vI 3 0, .ref 92, .bool true, vI 181 0, .ref 93, .none, .ref 94, .ref 95, .ref 96, vI 297 0, vI 31 0, vS "/claim/cut.py" 298] ::
   fO (stAt 10) "add_callers" (vS "cpy313.pstats" 245) 97 ::
   ({ cls := .type "tuple", data := .seq #[] } : Obj) ::
   ({ cls := .none, data := .fields #[] } : Obj) ::
   ({ cls := .type "tuple", data := .seq #[vS "callers" 303, vS "nc" 304, vS "calls" 305] } : Obj) ::
   ({ cls := .type "tuple", data := .seq #[] } : Obj) ::
   gO (stAt 11) "count_calls" ::
   cO [vS "count_calls" 300, vS "count_calls" 301, vS "/claim/cut.py" 302, vI 44 0, vI 1 0, vI 0 0, vI 0 0, vI 3 0, .ref 99, .bool true, vI 181 0, .ref 100, .none, .ref 101, .ref 102, .ref 103, vI 306 0, vI 44 0, vS "/claim/cut.py" 307] ::
   fO (stAt 11) "count_calls" (vS "cpy313.pstats" 245) 104 ::
   ({ cls := .type "tuple", data := .seq #[] } : Obj) ::
   ({ cls := .none, data := .fields #[] } : Obj) ::
   ({ cls := .type "tuple", data := .seq #[vS "ch_a" 320, vS "ch_b" 321] } : Obj) ::
   ({ cls := .type "tuple", data := .seq #[] } : Obj) ::
   gO (stAt 16) "_substitution_cost" ::
   cO [vS "_substitution_cost" 317, vS "_substitution_cost" 318, vS "/claim/cut.py" 319, vI 53 0, vI 2 0, vI 0 0, vI 0 0, vI 3 0, .ref 106, .bool true, vI 181 0, .ref 107, .none, .ref 108, .ref 109, .ref 110, vI 322 0, vI 53 0, vS "/claim/cut.py" 323] ::
   fO (stAt 16) "_substitution_cost" (vS "cpy313.traceback" 309) 111 ::
   []⟩ }
noncomputable def hp3 (P : Params) : Heap := { objs := ⟨
   boot_o_0 P ::
   boot_o_1 P ::
   boot_o_2 P ::
   ({ cls := .type "dict", data := .dict #[de P "__name__" 165 (vS "law_jc0016_01" 345), de P "__doc__" 166 (.none), de P "__package__" 167 (.none), de P "__loader__" 168 (.builtin "__main__.__loader__#opaque"), de P "__spec__" 169 (.none), de P "__annotations__" 170 (.ref 6), de P "__builtins__" 171 (.ref 4), de P "__file__" 173 (vS "/claim/cut.py" 172), de P "__cached__" 174 (.none), de P "ge" 196 (.ref 21), de P "and_" 204 (.ref 28), de P "lshift" 212 (.ref 35), de P "mul" 220 (.ref 42), de P "rshift" 228 (.ref 49), de P "sub" 236 (.ref 56), de P "xor" 244 (.ref 63), de P "TupleComp" 288 (.ref 87), de P "add_callers" 299 (.ref 98), de P "count_calls" 308 (.ref 105), de P "_MAX_STRING_SIZE" 312 (vI 40 311), de P "_MOVE_COST" 314 (vI 2 313), de P "_CASE_COST" 316 (vI 1 315), de P "_substitution_cost" 324 (.ref 112), de P "_levenshtein_distance" 344 (.ref 119), de P "_law_cells" 355 (.ref 126), de P "_law_word" 363 (.ref 133), de P "_law_price" 369 (.ref 138), de P "_law_rows" 375 (.ref 143), de P "_law_tables" 381 (.ref 148), de P "_law_next" 391 (.ref 155), de P "_law_round" 403 (.ref 162), de P "_law_line" 414 (.ref 169), de P "_law_sorted" 425 (.ref 176), de P "_law_far" 431 (.ref 181), de P "_law_pulls" 437 (.ref 186), de P "_law_answer" 443 (.ref 191)] 36 } : Obj) ::
   boot_o_4 P ::
   boot_o_5 P ::
   boot_o_6 P ::
   boot_o_7 P ::
   boot_o_8 P ::
   boot_o_9 P ::
   boot_o_10 P ::
   ({ cls := .type "tuple", data := .seq #[] } : Obj) ::
   ({ cls := .none, data := .fields #[vI 2 0, vI 0 0, .ref 20, vI 4 0, vI 0 0, .ref 27, vI 6 0, vI 0 0, .ref 34, vI 8 0, vI 0 0, .ref 41, vI 10 0, vI 0 0, .ref 48, vI 12 0, vI 0 0, .ref 55, vI 14 0, vI 0 0, .ref 62, vI 17 0, vI 0 0, .ref 69, vI 31 0, vI 0 0, .ref 97, vI 44 0, vI 0 0, .ref 104, vI 53 0, vI 0 0, .ref 111, vI 59 0, vI 0 0, .ref 118, vI 98 0, vI 0 0, .ref 125, vI 103 0, vI 0 0, .ref 132, vI 106 0, vI 0 0, .ref 137, vI 108 0, vI 0 0, .ref 142, vI 118 0, vI 0 0, .ref 147, vI 124 0, vI 0 0, .ref 154, vI 131 0, vI 0 0, .ref 161, vI 136 0, vI 0 0, .ref 168, vI 144 0, vI 0 0, .ref 175, vI 149 0, vI 0 0, .ref 180, vI 153 0, vI 0 0, .ref 185, vI 155 0, vI 0 0, .ref 190] } : Obj) ::
   ({ cls := .type "code", data := .fields #[vS "<module>" 182, vS "<module>" 183, vS "/claim/cut.py" 184, vI 1 0, vI 0 0, vI 0 0, vI 0 0, vI 0 0, .ref 11, .bool false, vI 181 0, .ref 12, .none, .none, .none, .none, vI 185 0, vI 1 0, vS "/claim/cut.py" 186] } : Obj) ::
   ({ cls := .type "frame", slots := #[some (.ref 13), some (.ref 3), some (.ref 3), none, some (vS "__main__" 164), none, some (.ref 0)] } : Obj) ::
   ({ cls := .type "tuple", data := .seq #[] } : Obj) ::
   ({ cls := .none, data := .fields #[] } : Obj) ::
   ({ cls := .type "tuple", data := .seq #[vS "a" 192, vS "b" 193] } : Obj) ::
   ({ cls := .type "tuple", data := .seq #[] } : Obj) ::
   gO (stAt 1) "ge" ::
   cO [vS "ge" 189, vS "ge" 190, vS "/claim/cut.py" 191, vI 2 0, vI 2 0, vI 0 0, vI 0 0, vI 3 0, .ref 15, .bool true, vI 181 0, .ref 16, .none, .ref 17, .ref 18, .ref 19, vI 194 0, vI 2 0, vS "/claim/cut.py" 195] ::
   fO (stAt 1) "ge" (vS "cpy313.operator" 187) 20 ::
   ({ cls := .type "tuple", data := .seq #[] } : Obj) ::
   ({ cls := .none, data := .fields #[] } : Obj) ::
   ({ cls := .type "tuple", data := .seq #[vS "a" 200, vS "b" 201] } : Obj) ::
   ({ cls := .type "tuple", data := .seq #[] } : Obj) ::
   gO (stAt 2) "and_" ::
   cO [vS "and_" 197, vS "and_" 198, vS "/claim/cut.py" 199, vI 4 0, vI 2 0, vI 0 0, vI 0 0, vI 3 0, .ref 22, .bool true, vI 181 0, .ref 23, .none, .ref 24, .ref 25, .ref 26, vI 202 0, vI 4 0, vS "/claim/cut.py" 203] ::
   fO (stAt 2) "and_" (vS "cpy313.operator" 187) 27 ::
   ({ cls := .type "tuple", data := .seq #[] } : Obj) ::
   ({ cls := .none, data := .fields #[] } : Obj) ::
   ({ cls := .type "tuple", data := .seq #[vS "a" 208, vS "b" 209] } : Obj) ::
   ({ cls := .type "tuple", data := .seq #[] } : Obj) ::
   gO (stAt 3) "lshift" ::
   cO [vS "lshift" 205, vS "lshift" 206, vS "/claim/cut.py" 207, vI 6 0, vI 2 0, vI 0 0, vI 0 0, vI 3 0, .ref 29, .bool true, vI 181 0, .ref 30, .none, .ref 31, .ref 32, .ref 33, vI 210 0, vI 6 0, vS "/claim/cut.py" 211] ::
   fO (stAt 3) "lshift" (vS "cpy313.operator" 187) 34 ::
   ({ cls := .type "tuple", data := .seq #[] } : Obj) ::
   ({ cls := .none, data := .fields #[] } : Obj) ::
   ({ cls := .type "tuple", data := .seq #[vS "a" 216, vS "b" 217] } : Obj) ::
   ({ cls := .type "tuple", data := .seq #[] } : Obj) ::
   gO (stAt 4) "mul" ::
   cO [vS "mul" 213, vS "mul" 214, vS "/claim/cut.py" 215, vI 8 0, vI 2 0, vI 0 0, vI 0 0, vI 3 0, .ref 36, .bool true, vI 181 0, .ref 37, .none, .ref 38, .ref 39, .ref 40, vI 218 0, vI 8 0, vS "/claim/cut.py" 219] ::
   fO (stAt 4) "mul" (vS "cpy313.operator" 187) 41 ::
   ({ cls := .type "tuple", data := .seq #[] } : Obj) ::
   ({ cls := .none, data := .fields #[] } : Obj) ::
   ({ cls := .type "tuple", data := .seq #[vS "a" 224, vS "b" 225] } : Obj) ::
   ({ cls := .type "tuple", data := .seq #[] } : Obj) ::
   gO (stAt 5) "rshift" ::
   cO [vS "rshift" 221, vS "rshift" 222, vS "/claim/cut.py" 223, vI 10 0, vI 2 0, vI 0 0, vI 0 0, vI 3 0, .ref 43, .bool true, vI 181 0, .ref 44, .none, .ref 45, .ref 46, .ref 47, vI 226 0, vI 10 0, vS "/claim/cut.py" 227] ::
   fO (stAt 5) "rshift" (vS "cpy313.operator" 187) 48 ::
   ({ cls := .type "tuple", data := .seq #[] } : Obj) ::
   ({ cls := .none, data := .fields #[] } : Obj) ::
   ({ cls := .type "tuple", data := .seq #[vS "a" 232, vS "b" 233] } : Obj) ::
   ({ cls := .type "tuple", data := .seq #[] } : Obj) ::
   gO (stAt 6) "sub" ::
   cO [vS "sub" 229, vS "sub" 230, vS "/claim/cut.py" 231, vI 12 0, vI 2 0, vI 0 0, vI 0 0, vI 3 0, .ref 50, .bool true, vI 181 0, .ref 51, .none, .ref 52, .ref 53, .ref 54, vI 234 0, vI 12 0, vS "/claim/cut.py" 235] ::
   fO (stAt 6) "sub" (vS "cpy313.operator" 187) 55 ::
   ({ cls := .type "tuple", data := .seq #[] } : Obj) ::
   ({ cls := .none, data := .fields #[] } : Obj) ::
   ({ cls := .type "tuple", data := .seq #[vS "a" 240, vS "b" 241] } : Obj) ::
   ({ cls := .type "tuple", data := .seq #[] } : Obj) ::
   gO (stAt 7) "xor" ::
   cO [vS "xor" 237, vS "xor" 238, vS "/claim/cut.py" 239, vI 14 0, vI 2 0, vI 0 0, vI 0 0, vI 3 0, .ref 57, .bool true, vI 181 0, .ref 58, .none, .ref 59, .ref 60, .ref 61, vI 242 0, vI 14 0, vS "/claim/cut.py" 243] ::
   fO (stAt 7) "xor" (vS "cpy313.operator" 187) 62 ::
   ({ cls := .type "tuple", data := .seq #[] } : Obj) ::
   ({ cls := .type "builtin_function_or_method", data := .fields #[.builtin "type.__prepare__", .type "type"] } : Obj) ::
   ({ cls := .type "dict", data := .dict #[de P "__module__" 254 (vS "cpy313.pstats" 245), de P "__qualname__" 256 (vS "TupleComp" 255), de P "__firstlineno__" 258 (vI 17 257), de P "__init__" 266 (.ref 77), de P "compare" 279 (.ref 84), de P "__static_attributes__" 281 (.ref 85)] 6 } : Obj) ::
   ({ cls := .type "tuple", data := .seq #[] } : Obj) ::
   ({ cls := .none, data := .fields #[vI 19 0, vI 4 0, .ref 76, vI 22 0, vI 4 0, .ref 83] } : Obj) ::
   ({ cls := .type "code", data := .fields #[vS "TupleComp" 249, vS "TupleComp" 250, vS "/claim/cut.py" 251, vI 17 0, vI 0 0, vI 0 0, vI 0 0, vI 0 0, .ref 67, .bool false, vI 181 0, .ref 68, .none, .none, .none, .none, vI 252 0, vI 17 0, vS "/claim/cut.py" 253] } : Obj) ::
   ({ cls := .type "frame", slots := #[some (.ref 69), some (.ref 3), some (.ref 66), none, some (vS "cpy313.pstats" 245), none, some (.ref 0)] } : Obj) ::
   ({ cls := .type "tuple", data := .seq #[] } : Obj) ::
   ({ cls := .none, data := .fields #[] } : Obj) ::
   ({ cls := .type "tuple", data := .seq #[vS "self" 262, vS "comp_select_list" 263] } : Obj) ::
   ({ cls := .type "tuple", data := .seq #[] } : Obj) ::
   gO (cdAt 9 0) "TupleComp.__init__" ::
   cO [vS "__init__" 259, vS "TupleComp.__init__" 260, vS "/claim/cut.py" 261, vI 19 0, vI 2 0, vI 0 0, vI 0 0, vI 3 0, .ref 71, .bool true, vI 181 0, .ref 72, .none, .ref 73, .ref 74, .ref 75, vI 264 0, vI 19 0, vS "/claim/cut.py" 265] ::
   fO (cdAt 9 0) "TupleComp.__init__" (vS "cpy313.pstats" 245) 76 ::
   ({ cls := .type "tuple", data := .seq #[] } : Obj) ::
   ({ cls := .none, data := .fields #[] } : Obj) ::
   ({ cls := .type "tuple", data := .seq #[vS "self" 270, vS "left" 271, vS "right" 272, vS "index" 273, vS "direction" 274, vS "l" 275, vS "r" 276] } : Obj) ::
   ({ cls := .type "tuple", data := .seq #[] } : Obj) ::
   gO (cdAt 9 1) "TupleComp.compare" ::
   cO [vS "compare" 267, vS "TupleComp.compare" 268, vS "/claim/cut.py" 269, vI 22 0, vI 3 0, vI 0 0, vI 0 0, vI 3 0, .ref 78, .bool true, vI 181 0, .ref 79, .none, .ref 80, .ref 81, .ref 82, vI 277 0, vI 22 0, vS "/claim/cut.py" 278] ::
   fO (cdAt 9 1) "TupleComp.compare" (vS "cpy313.pstats" 245) 83 ::
   ({ cls := .type "tuple", data := .seq #[vS "comp_select_list" 280] } : Obj) ::
   ({ cls := .type "dict", data := .dict #[de P "__module__" 254 (vS "cpy313.pstats" 245), de P "__firstlineno__" 258 (vI 17 257), de P "__init__" 266 (.ref 77), de P "compare" 279 (.ref 84), de P "__static_attributes__" 281 (.ref 85), de P "__dict__" 283 (.ref 88), de P "__weakref__" 285 (.ref 89), de P "__doc__" 286 (.none)] 4 } : Obj) ::
   ({ cls := .type "type", data := .cls { name := PySem.Str.ofString "TupleComp", bases := [.type "object"], mro := [.ref 87, .type "object"], ns := 86, qualname := PySem.Str.ofString "TupleComp" }, slots := #[none, none, some (vS "TupleComp" 247), some (vS "TupleComp" 255), some (.builtin "object.__new__"), some (.bool true)] } : Obj) ::
   ({ cls := .type "getset_descriptor", data := .fields #[vS "__dict__" 282, .ref 87, .builtin "function.__dict__", .builtin "function.__dict__#set"] } : Obj) ::
   ({ cls := .type "getset_descriptor", data := .fields #[vS "__weakref__" 284, .ref 87, .builtin "ExceptionGroup.__weakref__", .none] } : Obj) ::
   ({ cls := .type "super", data := .fields #[.ref 87, .ref 87, .ref 87] } : Obj) ::
   ({ cls := .type "builtin_function_or_method", data := .fields #[.builtin "object.__init_subclass__", .ref 87] } : Obj) ::
   ({ cls := .type "tuple", data := .seq #[] } : Obj) ::
   ({ cls := .none, data := .fields #[] } : Obj) ::
   ({ cls := .type "tuple", data := .seq #[vS "target" 292, vS "source" 293, vS "new_callers" 294, vS "func" 295, vS "caller" 296] } : Obj) ::
   ({ cls := .type "tuple", data := .seq #[] } : Obj) ::
   gO (stAt 10) "add_callers" ::
   cO [vS "add_callers" 289, vS "add_callers" 290, vS "/claim/cut.py" 291, vI 31 0, vI 2 0, vI 0 0, vI 0 0, vI 3 0, .ref 92, .bool true, vI 181 0, .ref 93, .none, .ref 94, .ref 95, .ref 96, vI 297 0, vI 31 0, vS "/claim/cut.py" 298] ::
   fO (stAt 10) "add_callers" (vS "cpy313.pstats" 245) 97 ::
   ({ cls := .type "tuple", data := .seq #[] } : Obj) ::
   ({ cls := .none, data := .fields #[] } : Obj) ::
   ({ cls := .type "tuple", data := .seq #[vS "callers" 303, vS "nc" 304, vS "calls" 305] } : Obj) ::
   ({ cls := .type "tuple", data := .seq #[] } : Obj) ::
   gO (stAt 11) "count_calls" ::
   cO [vS "count_calls" 300, vS "count_calls" 301, vS "/claim/cut.py" 302, vI 44 0, vI 1 0, vI 0 0, vI 0 0, vI 3 0, .ref 99, .bool true, vI 181 0, .ref 100, .none, .ref 101, .ref 102, .ref 103, vI 306 0, vI 44 0, vS "/claim/cut.py" 307] ::
   fO (stAt 11) "count_calls" (vS "cpy313.pstats" 245) 104 ::
   ({ cls := .type "tuple", data := .seq #[] } : Obj) ::
   ({ cls := .none, data := .fields #[] } : Obj) ::
   ({ cls := .type "tuple", data := .seq #[vS "ch_a" 320, vS "ch_b" 321] } : Obj) ::
   ({ cls := .type "tuple", data := .seq #[] } : Obj) ::
   gO (stAt 16) "_substitution_cost" ::
   cO [vS "_substitution_cost" 317, vS "_substitution_cost" 318, vS "/claim/cut.py" 319, vI 53 0, vI 2 0, vI 0 0, vI 0 0, vI 3 0, .ref 106, .bool true, vI 181 0, .ref 107, .none, .ref 108, .ref 109, .ref 110, vI 322 0, vI 53 0, vS "/claim/cut.py" 323] ::
   fO (stAt 16) "_substitution_cost" (vS "cpy313.traceback" 309) 111 ::
   ({ cls := .type "tuple", data := .seq #[] } : Obj) ::
   ({ cls := .none, data := .fields #[] } : Obj) ::
   ({ cls := .type "tuple", data := .seq #[vS "a" 328, vS "b" 329, vS "max_cost" 330, vS "pre" 331, vS "post" 332, vS "row" 333, vS "result" 334, vS "bindex" 335, vS "bchar" 336, vS "distance" 337, vS "minimum" 338, vS "index" 339, vS "substitute" 340, vS "insert_delete" 341] } : Obj) ::
   ({ cls := .type "tuple", data := .seq #[] } : Obj) ::
   gO (stAt 17) "_levenshtein_distance" ::
   cO [vS "_levenshtein_distance" 325, vS "_levenshtein_distance" 326, vS "/claim/cut.py" 327, vI 59 0, vI 3 0, vI 0 0, vI 0 0, vI 3 0, .ref 113, .bool true, vI 181 0, .ref 114, .none, .ref 115, .ref 116, .ref 117, vI 342 0, vI 59 0, vS "/claim/cut.py" 343] ::
   fO (stAt 17) "_levenshtein_distance" (vS "cpy313.traceback" 309) 118 ::
   ({ cls := .type "tuple", data := .seq #[] } : Obj) ::
   ({ cls := .none, data := .fields #[] } : Obj) ::
   ({ cls := .type "tuple", data := .seq #[vS "script" 350, vS "cells" 351, vS "k" 352] } : Obj) ::
   ({ cls := .type "tuple", data := .seq #[] } : Obj) ::
   gO (stAt 19) "_law_cells" ::
   cO [vS "_law_cells" 347, vS "_law_cells" 348, vS "/claim/cut.py" 349, vI 98 0, vI 1 0, vI 0 0, vI 0 0, vI 3 0, .ref 120, .bool true, vI 181 0, .ref 121, .none, .ref 122, .ref 123, .ref 124, vI 353 0, vI 98 0, vS "/claim/cut.py" 354] ::
   fO (stAt 19) "_law_cells" (vS "law_jc0016_01" 345) 125 ::
   ({ cls := .type "tuple", data := .seq #[] } : Obj) ::
   ({ cls := .none, data := .fields #[] } : Obj) ::
   ({ cls := .type "tuple", data := .seq #[vS "cell" 359, vS "letters" 360] } : Obj) ::
   ({ cls := .type "tuple", data := .seq #[] } : Obj) ::
   gO (stAt 20) "_law_word" ::
   cO [vS "_law_word" 356, vS "_law_word" 357, vS "/claim/cut.py" 358, vI 103 0, vI 1 0, vI 0 0, vI 0 0, vI 3 0, .ref 127, .bool true, vI 181 0, .ref 128, .none, .ref 129, .ref 130, .ref 131, vI 361 0, vI 103 0, vS "/claim/cut.py" 362] ::
   fO (stAt 20) "_law_word" (vS "law_jc0016_01" 345) 132 ::
   ({ cls := .type "tuple", data := .seq #[] } : Obj) ::
   ({ cls := .none, data := .fields #[] } : Obj) ::
   gO (stAt 21) "_law_price" ::
   cO [vS "_law_price" 364, vS "_law_price" 365, vS "/claim/cut.py" 366, vI 106 0, vI 2 0, vI 0 0, vI 0 0, vI 3 0, .ref 134, .bool true, vI 181 0, .ref 135, .none, .none, .none, .ref 136, vI 367 0, vI 106 0, vS "/claim/cut.py" 368] ::
   fO (stAt 21) "_law_price" (vS "law_jc0016_01" 345) 137 ::
   ({ cls := .type "tuple", data := .seq #[] } : Obj) ::
   ({ cls := .none, data := .fields #[] } : Obj) ::
   gO (stAt 22) "_law_rows" ::
   cO [vS "_law_rows" 370, vS "_law_rows" 371, vS "/claim/cut.py" 372, vI 108 0, vI 1 0, vI 0 0, vI 0 0, vI 3 0, .ref 139, .bool true, vI 181 0, .ref 140, .none, .none, .none, .ref 141, vI 373 0, vI 108 0, vS "/claim/cut.py" 374] ::
   fO (stAt 22) "_law_rows" (vS "law_jc0016_01" 345) 142 ::
   ({ cls := .type "tuple", data := .seq #[] } : Obj) ::
   ({ cls := .none, data := .fields #[] } : Obj) ::
   gO (stAt 23) "_law_tables" ::
   cO [vS "_law_tables" 376, vS "_law_tables" 377, vS "/claim/cut.py" 378, vI 118 0, vI 1 0, vI 0 0, vI 0 0, vI 3 0, .ref 144, .bool true, vI 181 0, .ref 145, .none, .none, .none, .ref 146, vI 379 0, vI 118 0, vS "/claim/cut.py" 380] ::
   fO (stAt 23) "_law_tables" (vS "law_jc0016_01" 345) 147 ::
   ({ cls := .type "tuple", data := .seq #[] } : Obj) ::
   ({ cls := .none, data := .fields #[] } : Obj) ::
   ({ cls := .type "tuple", data := .seq #[vS "table" 385, vS "bounds" 386, vS "told" 387, vS "k" 388] } : Obj) ::
   ({ cls := .type "tuple", data := .seq #[] } : Obj) ::
   gO (stAt 24) "_law_next" ::
   cO [vS "_law_next" 382, vS "_law_next" 383, vS "/claim/cut.py" 384, vI 124 0, vI 2 0, vI 0 0, vI 0 0, vI 3 0, .ref 149, .bool true, vI 181 0, .ref 150, .none, .ref 151, .ref 152, .ref 153, vI 389 0, vI 124 0, vS "/claim/cut.py" 390] ::
   fO (stAt 24) "_law_next" (vS "law_jc0016_01" 345) 154 ::
   ({ cls := .type "tuple", data := .seq #[] } : Obj) ::
   ({ cls := .none, data := .fields #[] } : Obj) ::
   ({ cls := .type "tuple", data := .seq #[vS "tables" 395, vS "line" 396, vS "state" 397, vS "bound" 398, vS "number" 399, vS "k" 400] } : Obj) ::
   ({ cls := .type "tuple", data := .seq #[] } : Obj) ::
   gO (stAt 25) "_law_round" ::
   cO [vS "_law_round" 392, vS "_law_round" 393, vS "/claim/cut.py" 394, vI 131 0, vI 3 0, vI 0 0, vI 0 0, vI 3 0, .ref 156, .bool true, vI 181 0, .ref 157, .none, .ref 158, .ref 159, .ref 160, vI 401 0, vI 131 0, vS "/claim/cut.py" 402] ::
   fO (stAt 25) "_law_round" (vS "law_jc0016_01" 345) 161 ::
   ({ cls := .type "tuple", data := .seq #[] } : Obj) ::
   ({ cls := .none, data := .fields #[] } : Obj) ::
   ({ cls := .type "tuple", data := .seq #[vS "comp" 407, vS "names" 408, vS "line" 409, vS "name" 410, vS "place" 411] } : Obj) ::
   ({ cls := .type "tuple", data := .seq #[] } : Obj) ::
   gO (stAt 26) "_law_line" ::
   cO [vS "_law_line" 404, vS "_law_line" 405, vS "/claim/cut.py" 406, vI 136 0, vI 2 0, vI 0 0, vI 0 0, vI 3 0, .ref 163, .bool true, vI 181 0, .ref 164, .none, .ref 165, .ref 166, .ref 167, vI 412 0, vI 136 0, vS "/claim/cut.py" 413] ::
   fO (stAt 26) "_law_line" (vS "law_jc0016_01" 345) 168 ::
   ({ cls := .type "tuple", data := .seq #[] } : Obj) ::
   ({ cls := .none, data := .fields #[] } : Obj) ::
   ({ cls := .type "tuple", data := .seq #[vS "cells" 418, vS "names" 419] } : Obj) ::
   ({ cls := .type "tuple", data := .seq #[vS "first" 420, vS "second" 421, vS "way" 422] } : Obj) ::
   gO (stAt 27) "_law_sorted" ::
   cO [vS "_law_sorted" 415, vS "_law_sorted" 416, vS "/claim/cut.py" 417, vI 144 0, vI 2 0, vI 0 0, vI 0 0, vI 3 0, .ref 170, .bool true, vI 181 0, .ref 171, .none, .ref 172, .ref 173, .ref 174, vI 423 0, vI 144 0, vS "/claim/cut.py" 424] ::
   fO (stAt 27) "_law_sorted" (vS "law_jc0016_01" 345) 175 ::
   ({ cls := .type "tuple", data := .seq #[] } : Obj) ::
   ({ cls := .none, data := .fields #[] } : Obj) ::
   gO (stAt 28) "_law_far" ::
   cO [vS "_law_far" 426, vS "_law_far" 427, vS "/claim/cut.py" 428, vI 149 0, vI 1 0, vI 0 0, vI 0 0, vI 3 0, .ref 177, .bool true, vI 181 0, .ref 178, .none, .none, .none, .ref 179, vI 429 0, vI 149 0, vS "/claim/cut.py" 430] ::
   fO (stAt 28) "_law_far" (vS "law_jc0016_01" 345) 180 ::
   ({ cls := .type "tuple", data := .seq #[] } : Obj) ::
   ({ cls := .none, data := .fields #[] } : Obj) ::
   gO (stAt 29) "_law_pulls" ::
   cO [vS "_law_pulls" 432, vS "_law_pulls" 433, vS "/claim/cut.py" 434, vI 153 0, vI 1 0, vI 0 0, vI 0 0, vI 3 0, .ref 182, .bool true, vI 181 0, .ref 183, .none, .none, .none, .ref 184, vI 435 0, vI 153 0, vS "/claim/cut.py" 436] ::
   fO (stAt 29) "_law_pulls" (vS "law_jc0016_01" 345) 185 ::
   ({ cls := .type "tuple", data := .seq #[] } : Obj) ::
   ({ cls := .none, data := .fields #[] } : Obj) ::
   gO (stAt 30) "_law_answer" ::
   cO [vS "_law_answer" 438, vS "_law_answer" 439, vS "/claim/cut.py" 440, vI 155 0, vI 3 0, vI 0 0, vI 0 0, vI 3 0, .ref 187, .bool true, vI 181 0, .ref 188, .none, .none, .none, .ref 189, vI 441 0, vI 155 0, vS "/claim/cut.py" 442] ::
   fO (stAt 30) "_law_answer" (vS "law_jc0016_01" 345) 190 ::
   []⟩ }
noncomputable def hp4 (P : Params) : Heap := { objs := ⟨
   boot_o_0 P ::
   boot_o_1 P ::
   boot_o_2 P ::
   ({ cls := .type "dict", data := .dict #[de P "__name__" 165 (vS "law_jc0016_01" 345), de P "__doc__" 166 (.none), de P "__package__" 167 (.none), de P "__loader__" 168 (.builtin "__main__.__loader__#opaque"), de P "__spec__" 169 (.none), de P "__annotations__" 170 (.ref 6), de P "__builtins__" 171 (.ref 4), de P "__file__" 173 (vS "/claim/cut.py" 172), de P "__cached__" 174 (.none), de P "ge" 196 (.ref 21), de P "and_" 204 (.ref 28), de P "lshift" 212 (.ref 35), de P "mul" 220 (.ref 42), de P "rshift" 228 (.ref 49), de P "sub" 236 (.ref 56), de P "xor" 244 (.ref 63), de P "TupleComp" 288 (.ref 87), de P "add_callers" 299 (.ref 98), de P "count_calls" 308 (.ref 105), de P "_MAX_STRING_SIZE" 312 (vI 40 311), de P "_MOVE_COST" 314 (vI 2 313), de P "_CASE_COST" 316 (vI 1 315), de P "_substitution_cost" 324 (.ref 112), de P "_levenshtein_distance" 344 (.ref 119), de P "_law_cells" 355 (.ref 126), de P "_law_word" 363 (.ref 133), de P "_law_price" 369 (.ref 138), de P "_law_rows" 375 (.ref 143), de P "_law_tables" 381 (.ref 148), de P "_law_next" 391 (.ref 155), de P "_law_round" 403 (.ref 162), de P "_law_line" 414 (.ref 169), de P "_law_sorted" 425 (.ref 176), de P "_law_far" 431 (.ref 181), de P "_law_pulls" 437 (.ref 186), de P "_law_answer" 443 (.ref 191), de P "law" 449 (.ref 196)] 37 } : Obj) ::
   boot_o_4 P ::
   boot_o_5 P ::
   boot_o_6 P ::
   boot_o_7 P ::
   boot_o_8 P ::
   boot_o_9 P ::
   boot_o_10 P ::
   ({ cls := .type "tuple", data := .seq #[] } : Obj) ::
   ({ cls := .none, data := .fields #[vI 2 0, vI 0 0, .ref 20, vI 4 0, vI 0 0, .ref 27, vI 6 0, vI 0 0, .ref 34, vI 8 0, vI 0 0, .ref 41, vI 10 0, vI 0 0, .ref 48, vI 12 0, vI 0 0, .ref 55, vI 14 0, vI 0 0, .ref 62, vI 17 0, vI 0 0, .ref 69, vI 31 0, vI 0 0, .ref 97, vI 44 0, vI 0 0, .ref 104, vI 53 0, vI 0 0, .ref 111, vI 59 0, vI 0 0, .ref 118, vI 98 0, vI 0 0, .ref 125, vI 103 0, vI 0 0, .ref 132, vI 106 0, vI 0 0, .ref 137, vI 108 0, vI 0 0, .ref 142, vI 118 0, vI 0 0, .ref 147, vI 124 0, vI 0 0, .ref 154, vI 131 0, vI 0 0, .ref 161, vI 136 0, vI 0 0, .ref 168, vI 144 0, vI 0 0, .ref 175, vI 149 0, vI 0 0, .ref 180, vI 153 0, vI 0 0, .ref 185, vI 155 0, vI 0 0, .ref 190, vI 161 0, vI 0 0, .ref 195] } : Obj) ::
   ({ cls := .type "code", data := .fields #[vS "<module>" 182, vS "<module>" 183, vS "/claim/cut.py" 184, vI 1 0, vI 0 0, vI 0 0, vI 0 0, vI 0 0, .ref 11, .bool false, vI 181 0, .ref 12, .none, .none, .none, .none, vI 185 0, vI 1 0, vS "/claim/cut.py" 186] } : Obj) ::
   ({ cls := .type "frame", slots := #[some (.ref 13), some (.ref 3), some (.ref 3), none, some (vS "__main__" 164), none, some (.ref 0)] } : Obj) ::
   ({ cls := .type "tuple", data := .seq #[] } : Obj) ::
   ({ cls := .none, data := .fields #[] } : Obj) ::
   ({ cls := .type "tuple", data := .seq #[vS "a" 192, vS "b" 193] } : Obj) ::
   ({ cls := .type "tuple", data := .seq #[] } : Obj) ::
   gO (stAt 1) "ge" ::
   cO [vS "ge" 189, vS "ge" 190, vS "/claim/cut.py" 191, vI 2 0, vI 2 0, vI 0 0, vI 0 0, vI 3 0, .ref 15, .bool true, vI 181 0, .ref 16, .none, .ref 17, .ref 18, .ref 19, vI 194 0, vI 2 0, vS "/claim/cut.py" 195] ::
   fO (stAt 1) "ge" (vS "cpy313.operator" 187) 20 ::
   ({ cls := .type "tuple", data := .seq #[] } : Obj) ::
   ({ cls := .none, data := .fields #[] } : Obj) ::
   ({ cls := .type "tuple", data := .seq #[vS "a" 200, vS "b" 201] } : Obj) ::
   ({ cls := .type "tuple", data := .seq #[] } : Obj) ::
   gO (stAt 2) "and_" ::
   cO [vS "and_" 197, vS "and_" 198, vS "/claim/cut.py" 199, vI 4 0, vI 2 0, vI 0 0, vI 0 0, vI 3 0, .ref 22, .bool true, vI 181 0, .ref 23, .none, .ref 24, .ref 25, .ref 26, vI 202 0, vI 4 0, vS "/claim/cut.py" 203] ::
   fO (stAt 2) "and_" (vS "cpy313.operator" 187) 27 ::
   ({ cls := .type "tuple", data := .seq #[] } : Obj) ::
   ({ cls := .none, data := .fields #[] } : Obj) ::
   ({ cls := .type "tuple", data := .seq #[vS "a" 208, vS "b" 209] } : Obj) ::
   ({ cls := .type "tuple", data := .seq #[] } : Obj) ::
   gO (stAt 3) "lshift" ::
   cO [vS "lshift" 205, vS "lshift" 206, vS "/claim/cut.py" 207, vI 6 0, vI 2 0, vI 0 0, vI 0 0, vI 3 0, .ref 29, .bool true, vI 181 0, .ref 30, .none, .ref 31, .ref 32, .ref 33, vI 210 0, vI 6 0, vS "/claim/cut.py" 211] ::
   fO (stAt 3) "lshift" (vS "cpy313.operator" 187) 34 ::
   ({ cls := .type "tuple", data := .seq #[] } : Obj) ::
   ({ cls := .none, data := .fields #[] } : Obj) ::
   ({ cls := .type "tuple", data := .seq #[vS "a" 216, vS "b" 217] } : Obj) ::
   ({ cls := .type "tuple", data := .seq #[] } : Obj) ::
   gO (stAt 4) "mul" ::
   cO [vS "mul" 213, vS "mul" 214, vS "/claim/cut.py" 215, vI 8 0, vI 2 0, vI 0 0, vI 0 0, vI 3 0, .ref 36, .bool true, vI 181 0, .ref 37, .none, .ref 38, .ref 39, .ref 40, vI 218 0, vI 8 0, vS "/claim/cut.py" 219] ::
   fO (stAt 4) "mul" (vS "cpy313.operator" 187) 41 ::
   ({ cls := .type "tuple", data := .seq #[] } : Obj) ::
   ({ cls := .none, data := .fields #[] } : Obj) ::
   ({ cls := .type "tuple", data := .seq #[vS "a" 224, vS "b" 225] } : Obj) ::
   ({ cls := .type "tuple", data := .seq #[] } : Obj) ::
   gO (stAt 5) "rshift" ::
   cO [vS "rshift" 221, vS "rshift" 222, vS "/claim/cut.py" 223, vI 10 0, vI 2 0, vI 0 0, vI 0 0, vI 3 0, .ref 43, .bool true, vI 181 0, .ref 44, .none, .ref 45, .ref 46, .ref 47, vI 226 0, vI 10 0, vS "/claim/cut.py" 227] ::
   fO (stAt 5) "rshift" (vS "cpy313.operator" 187) 48 ::
   ({ cls := .type "tuple", data := .seq #[] } : Obj) ::
   ({ cls := .none, data := .fields #[] } : Obj) ::
   ({ cls := .type "tuple", data := .seq #[vS "a" 232, vS "b" 233] } : Obj) ::
   ({ cls := .type "tuple", data := .seq #[] } : Obj) ::
   gO (stAt 6) "sub" ::
   cO [vS "sub" 229, vS "sub" 230, vS "/claim/cut.py" 231, vI 12 0, vI 2 0, vI 0 0, vI 0 0, vI 3 0, .ref 50, .bool true, vI 181 0, .ref 51, .none, .ref 52, .ref 53, .ref 54, vI 234 0, vI 12 0, vS "/claim/cut.py" 235] ::
   fO (stAt 6) "sub" (vS "cpy313.operator" 187) 55 ::
   ({ cls := .type "tuple", data := .seq #[] } : Obj) ::
   ({ cls := .none, data := .fields #[] } : Obj) ::
   ({ cls := .type "tuple", data := .seq #[vS "a" 240, vS "b" 241] } : Obj) ::
   ({ cls := .type "tuple", data := .seq #[] } : Obj) ::
   gO (stAt 7) "xor" ::
   cO [vS "xor" 237, vS "xor" 238, vS "/claim/cut.py" 239, vI 14 0, vI 2 0, vI 0 0, vI 0 0, vI 3 0, .ref 57, .bool true, vI 181 0, .ref 58, .none, .ref 59, .ref 60, .ref 61, vI 242 0, vI 14 0, vS "/claim/cut.py" 243] ::
   fO (stAt 7) "xor" (vS "cpy313.operator" 187) 62 ::
   ({ cls := .type "tuple", data := .seq #[] } : Obj) ::
   ({ cls := .type "builtin_function_or_method", data := .fields #[.builtin "type.__prepare__", .type "type"] } : Obj) ::
   ({ cls := .type "dict", data := .dict #[de P "__module__" 254 (vS "cpy313.pstats" 245), de P "__qualname__" 256 (vS "TupleComp" 255), de P "__firstlineno__" 258 (vI 17 257), de P "__init__" 266 (.ref 77), de P "compare" 279 (.ref 84), de P "__static_attributes__" 281 (.ref 85)] 6 } : Obj) ::
   ({ cls := .type "tuple", data := .seq #[] } : Obj) ::
   ({ cls := .none, data := .fields #[vI 19 0, vI 4 0, .ref 76, vI 22 0, vI 4 0, .ref 83] } : Obj) ::
   ({ cls := .type "code", data := .fields #[vS "TupleComp" 249, vS "TupleComp" 250, vS "/claim/cut.py" 251, vI 17 0, vI 0 0, vI 0 0, vI 0 0, vI 0 0, .ref 67, .bool false, vI 181 0, .ref 68, .none, .none, .none, .none, vI 252 0, vI 17 0, vS "/claim/cut.py" 253] } : Obj) ::
   ({ cls := .type "frame", slots := #[some (.ref 69), some (.ref 3), some (.ref 66), none, some (vS "cpy313.pstats" 245), none, some (.ref 0)] } : Obj) ::
   ({ cls := .type "tuple", data := .seq #[] } : Obj) ::
   ({ cls := .none, data := .fields #[] } : Obj) ::
   ({ cls := .type "tuple", data := .seq #[vS "self" 262, vS "comp_select_list" 263] } : Obj) ::
   ({ cls := .type "tuple", data := .seq #[] } : Obj) ::
   gO (cdAt 9 0) "TupleComp.__init__" ::
   cO [vS "__init__" 259, vS "TupleComp.__init__" 260, vS "/claim/cut.py" 261, vI 19 0, vI 2 0, vI 0 0, vI 0 0, vI 3 0, .ref 71, .bool true, vI 181 0, .ref 72, .none, .ref 73, .ref 74, .ref 75, vI 264 0, vI 19 0, vS "/claim/cut.py" 265] ::
   fO (cdAt 9 0) "TupleComp.__init__" (vS "cpy313.pstats" 245) 76 ::
   ({ cls := .type "tuple", data := .seq #[] } : Obj) ::
   ({ cls := .none, data := .fields #[] } : Obj) ::
   ({ cls := .type "tuple", data := .seq #[vS "self" 270, vS "left" 271, vS "right" 272, vS "index" 273, vS "direction" 274, vS "l" 275, vS "r" 276] } : Obj) ::
   ({ cls := .type "tuple", data := .seq #[] } : Obj) ::
   gO (cdAt 9 1) "TupleComp.compare" ::
   cO [vS "compare" 267, vS "TupleComp.compare" 268, vS "/claim/cut.py" 269, vI 22 0, vI 3 0, vI 0 0, vI 0 0, vI 3 0, .ref 78, .bool true, vI 181 0, .ref 79, .none, .ref 80, .ref 81, .ref 82, vI 277 0, vI 22 0, vS "/claim/cut.py" 278] ::
   fO (cdAt 9 1) "TupleComp.compare" (vS "cpy313.pstats" 245) 83 ::
   ({ cls := .type "tuple", data := .seq #[vS "comp_select_list" 280] } : Obj) ::
   ({ cls := .type "dict", data := .dict #[de P "__module__" 254 (vS "cpy313.pstats" 245), de P "__firstlineno__" 258 (vI 17 257), de P "__init__" 266 (.ref 77), de P "compare" 279 (.ref 84), de P "__static_attributes__" 281 (.ref 85), de P "__dict__" 283 (.ref 88), de P "__weakref__" 285 (.ref 89), de P "__doc__" 286 (.none)] 4 } : Obj) ::
   ({ cls := .type "type", data := .cls { name := PySem.Str.ofString "TupleComp", bases := [.type "object"], mro := [.ref 87, .type "object"], ns := 86, qualname := PySem.Str.ofString "TupleComp" }, slots := #[none, none, some (vS "TupleComp" 247), some (vS "TupleComp" 255), some (.builtin "object.__new__"), some (.bool true)] } : Obj) ::
   ({ cls := .type "getset_descriptor", data := .fields #[vS "__dict__" 282, .ref 87, .builtin "function.__dict__", .builtin "function.__dict__#set"] } : Obj) ::
   ({ cls := .type "getset_descriptor", data := .fields #[vS "__weakref__" 284, .ref 87, .builtin "ExceptionGroup.__weakref__", .none] } : Obj) ::
   ({ cls := .type "super", data := .fields #[.ref 87, .ref 87, .ref 87] } : Obj) ::
   ({ cls := .type "builtin_function_or_method", data := .fields #[.builtin "object.__init_subclass__", .ref 87] } : Obj) ::
   ({ cls := .type "tuple", data := .seq #[] } : Obj) ::
   ({ cls := .none, data := .fields #[] } : Obj) ::
   ({ cls := .type "tuple", data := .seq #[vS "target" 292, vS "source" 293, vS "new_callers" 294, vS "func" 295, vS "caller" 296] } : Obj) ::
   ({ cls := .type "tuple", data := .seq #[] } : Obj) ::
   gO (stAt 10) "add_callers" ::
   cO [vS "add_callers" 289, vS "add_callers" 290, vS "/claim/cut.py" 291, vI 31 0, vI 2 0, vI 0 0, vI 0 0, vI 3 0, .ref 92, .bool true, vI 181 0, .ref 93, .none, .ref 94, .ref 95, .ref 96, vI 297 0, vI 31 0, vS "/claim/cut.py" 298] ::
   fO (stAt 10) "add_callers" (vS "cpy313.pstats" 245) 97 ::
   ({ cls := .type "tuple", data := .seq #[] } : Obj) ::
   ({ cls := .none, data := .fields #[] } : Obj) ::
   ({ cls := .type "tuple", data := .seq #[vS "callers" 303, vS "nc" 304, vS "calls" 305] } : Obj) ::
   ({ cls := .type "tuple", data := .seq #[] } : Obj) ::
   gO (stAt 11) "count_calls" ::
   cO [vS "count_calls" 300, vS "count_calls" 301, vS "/claim/cut.py" 302, vI 44 0, vI 1 0, vI 0 0, vI 0 0, vI 3 0, .ref 99, .bool true, vI 181 0, .ref 100, .none, .ref 101, .ref 102, .ref 103, vI 306 0, vI 44 0, vS "/claim/cut.py" 307] ::
   fO (stAt 11) "count_calls" (vS "cpy313.pstats" 245) 104 ::
   ({ cls := .type "tuple", data := .seq #[] } : Obj) ::
   ({ cls := .none, data := .fields #[] } : Obj) ::
   ({ cls := .type "tuple", data := .seq #[vS "ch_a" 320, vS "ch_b" 321] } : Obj) ::
   ({ cls := .type "tuple", data := .seq #[] } : Obj) ::
   gO (stAt 16) "_substitution_cost" ::
   cO [vS "_substitution_cost" 317, vS "_substitution_cost" 318, vS "/claim/cut.py" 319, vI 53 0, vI 2 0, vI 0 0, vI 0 0, vI 3 0, .ref 106, .bool true, vI 181 0, .ref 107, .none, .ref 108, .ref 109, .ref 110, vI 322 0, vI 53 0, vS "/claim/cut.py" 323] ::
   fO (stAt 16) "_substitution_cost" (vS "cpy313.traceback" 309) 111 ::
   ({ cls := .type "tuple", data := .seq #[] } : Obj) ::
   ({ cls := .none, data := .fields #[] } : Obj) ::
   ({ cls := .type "tuple", data := .seq #[vS "a" 328, vS "b" 329, vS "max_cost" 330, vS "pre" 331, vS "post" 332, vS "row" 333, vS "result" 334, vS "bindex" 335, vS "bchar" 336, vS "distance" 337, vS "minimum" 338, vS "index" 339, vS "substitute" 340, vS "insert_delete" 341] } : Obj) ::
   ({ cls := .type "tuple", data := .seq #[] } : Obj) ::
   gO (stAt 17) "_levenshtein_distance" ::
   cO [vS "_levenshtein_distance" 325, vS "_levenshtein_distance" 326, vS "/claim/cut.py" 327, vI 59 0, vI 3 0, vI 0 0, vI 0 0, vI 3 0, .ref 113, .bool true, vI 181 0, .ref 114, .none, .ref 115, .ref 116, .ref 117, vI 342 0, vI 59 0, vS "/claim/cut.py" 343] ::
   fO (stAt 17) "_levenshtein_distance" (vS "cpy313.traceback" 309) 118 ::
   ({ cls := .type "tuple", data := .seq #[] } : Obj) ::
   ({ cls := .none, data := .fields #[] } : Obj) ::
   ({ cls := .type "tuple", data := .seq #[vS "script" 350, vS "cells" 351, vS "k" 352] } : Obj) ::
   ({ cls := .type "tuple", data := .seq #[] } : Obj) ::
   gO (stAt 19) "_law_cells" ::
   cO [vS "_law_cells" 347, vS "_law_cells" 348, vS "/claim/cut.py" 349, vI 98 0, vI 1 0, vI 0 0, vI 0 0, vI 3 0, .ref 120, .bool true, vI 181 0, .ref 121, .none, .ref 122, .ref 123, .ref 124, vI 353 0, vI 98 0, vS "/claim/cut.py" 354] ::
   fO (stAt 19) "_law_cells" (vS "law_jc0016_01" 345) 125 ::
   ({ cls := .type "tuple", data := .seq #[] } : Obj) ::
   ({ cls := .none, data := .fields #[] } : Obj) ::
   ({ cls := .type "tuple", data := .seq #[vS "cell" 359, vS "letters" 360] } : Obj) ::
   ({ cls := .type "tuple", data := .seq #[] } : Obj) ::
   gO (stAt 20) "_law_word" ::
   cO [vS "_law_word" 356, vS "_law_word" 357, vS "/claim/cut.py" 358, vI 103 0, vI 1 0, vI 0 0, vI 0 0, vI 3 0, .ref 127, .bool true, vI 181 0, .ref 128, .none, .ref 129, .ref 130, .ref 131, vI 361 0, vI 103 0, vS "/claim/cut.py" 362] ::
   fO (stAt 20) "_law_word" (vS "law_jc0016_01" 345) 132 ::
   ({ cls := .type "tuple", data := .seq #[] } : Obj) ::
   ({ cls := .none, data := .fields #[] } : Obj) ::
   gO (stAt 21) "_law_price" ::
   cO [vS "_law_price" 364, vS "_law_price" 365, vS "/claim/cut.py" 366, vI 106 0, vI 2 0, vI 0 0, vI 0 0, vI 3 0, .ref 134, .bool true, vI 181 0, .ref 135, .none, .none, .none, .ref 136, vI 367 0, vI 106 0, vS "/claim/cut.py" 368] ::
   fO (stAt 21) "_law_price" (vS "law_jc0016_01" 345) 137 ::
   ({ cls := .type "tuple", data := .seq #[] } : Obj) ::
   ({ cls := .none, data := .fields #[] } : Obj) ::
   gO (stAt 22) "_law_rows" ::
   cO [vS "_law_rows" 370, vS "_law_rows" 371, vS "/claim/cut.py" 372, vI 108 0, vI 1 0, vI 0 0, vI 0 0, vI 3 0, .ref 139, .bool true, vI 181 0, .ref 140, .none, .none, .none, .ref 141, vI 373 0, vI 108 0, vS "/claim/cut.py" 374] ::
   fO (stAt 22) "_law_rows" (vS "law_jc0016_01" 345) 142 ::
   ({ cls := .type "tuple", data := .seq #[] } : Obj) ::
   ({ cls := .none, data := .fields #[] } : Obj) ::
   gO (stAt 23) "_law_tables" ::
   cO [vS "_law_tables" 376, vS "_law_tables" 377, vS "/claim/cut.py" 378, vI 118 0, vI 1 0, vI 0 0, vI 0 0, vI 3 0, .ref 144, .bool true, vI 181 0, .ref 145, .none, .none, .none, .ref 146, vI 379 0, vI 118 0, vS "/claim/cut.py" 380] ::
   fO (stAt 23) "_law_tables" (vS "law_jc0016_01" 345) 147 ::
   ({ cls := .type "tuple", data := .seq #[] } : Obj) ::
   ({ cls := .none, data := .fields #[] } : Obj) ::
   ({ cls := .type "tuple", data := .seq #[vS "table" 385, vS "bounds" 386, vS "told" 387, vS "k" 388] } : Obj) ::
   ({ cls := .type "tuple", data := .seq #[] } : Obj) ::
   gO (stAt 24) "_law_next" ::
   cO [vS "_law_next" 382, vS "_law_next" 383, vS "/claim/cut.py" 384, vI 124 0, vI 2 0, vI 0 0, vI 0 0, vI 3 0, .ref 149, .bool true, vI 181 0, .ref 150, .none, .ref 151, .ref 152, .ref 153, vI 389 0, vI 124 0, vS "/claim/cut.py" 390] ::
   fO (stAt 24) "_law_next" (vS "law_jc0016_01" 345) 154 ::
   ({ cls := .type "tuple", data := .seq #[] } : Obj) ::
   ({ cls := .none, data := .fields #[] } : Obj) ::
   ({ cls := .type "tuple", data := .seq #[vS "tables" 395, vS "line" 396, vS "state" 397, vS "bound" 398, vS "number" 399, vS "k" 400] } : Obj) ::
   ({ cls := .type "tuple", data := .seq #[] } : Obj) ::
   gO (stAt 25) "_law_round" ::
   cO [vS "_law_round" 392, vS "_law_round" 393, vS "/claim/cut.py" 394, vI 131 0, vI 3 0, vI 0 0, vI 0 0, vI 3 0, .ref 156, .bool true, vI 181 0, .ref 157, .none, .ref 158, .ref 159, .ref 160, vI 401 0, vI 131 0, vS "/claim/cut.py" 402] ::
   fO (stAt 25) "_law_round" (vS "law_jc0016_01" 345) 161 ::
   ({ cls := .type "tuple", data := .seq #[] } : Obj) ::
   ({ cls := .none, data := .fields #[] } : Obj) ::
   ({ cls := .type "tuple", data := .seq #[vS "comp" 407, vS "names" 408, vS "line" 409, vS "name" 410, vS "place" 411] } : Obj) ::
   ({ cls := .type "tuple", data := .seq #[] } : Obj) ::
   gO (stAt 26) "_law_line" ::
   cO [vS "_law_line" 404, vS "_law_line" 405, vS "/claim/cut.py" 406, vI 136 0, vI 2 0, vI 0 0, vI 0 0, vI 3 0, .ref 163, .bool true, vI 181 0, .ref 164, .none, .ref 165, .ref 166, .ref 167, vI 412 0, vI 136 0, vS "/claim/cut.py" 413] ::
   fO (stAt 26) "_law_line" (vS "law_jc0016_01" 345) 168 ::
   ({ cls := .type "tuple", data := .seq #[] } : Obj) ::
   ({ cls := .none, data := .fields #[] } : Obj) ::
   ({ cls := .type "tuple", data := .seq #[vS "cells" 418, vS "names" 419] } : Obj) ::
   ({ cls := .type "tuple", data := .seq #[vS "first" 420, vS "second" 421, vS "way" 422] } : Obj) ::
   gO (stAt 27) "_law_sorted" ::
   cO [vS "_law_sorted" 415, vS "_law_sorted" 416, vS "/claim/cut.py" 417, vI 144 0, vI 2 0, vI 0 0, vI 0 0, vI 3 0, .ref 170, .bool true, vI 181 0, .ref 171, .none, .ref 172, .ref 173, .ref 174, vI 423 0, vI 144 0, vS "/claim/cut.py" 424] ::
   fO (stAt 27) "_law_sorted" (vS "law_jc0016_01" 345) 175 ::
   ({ cls := .type "tuple", data := .seq #[] } : Obj) ::
   ({ cls := .none, data := .fields #[] } : Obj) ::
   gO (stAt 28) "_law_far" ::
   cO [vS "_law_far" 426, vS "_law_far" 427, vS "/claim/cut.py" 428, vI 149 0, vI 1 0, vI 0 0, vI 0 0, vI 3 0, .ref 177, .bool true, vI 181 0, .ref 178, .none, .none, .none, .ref 179, vI 429 0, vI 149 0, vS "/claim/cut.py" 430] ::
   fO (stAt 28) "_law_far" (vS "law_jc0016_01" 345) 180 ::
   ({ cls := .type "tuple", data := .seq #[] } : Obj) ::
   ({ cls := .none, data := .fields #[] } : Obj) ::
   gO (stAt 29) "_law_pulls" ::
   cO [vS "_law_pulls" 432, vS "_law_pulls" 433, vS "/claim/cut.py" 434, vI 153 0, vI 1 0, vI 0 0, vI 0 0, vI 3 0, .ref 182, .bool true, vI 181 0, .ref 183, .none, .none, .none, .ref 184, vI 435 0, vI 153 0, vS "/claim/cut.py" 436] ::
   fO (stAt 29) "_law_pulls" (vS "law_jc0016_01" 345) 185 ::
   ({ cls := .type "tuple", data := .seq #[] } : Obj) ::
   ({ cls := .none, data := .fields #[] } : Obj) ::
   gO (stAt 30) "_law_answer" ::
   cO [vS "_law_answer" 438, vS "_law_answer" 439, vS "/claim/cut.py" 440, vI 155 0, vI 3 0, vI 0 0, vI 0 0, vI 3 0, .ref 187, .bool true, vI 181 0, .ref 188, .none, .none, .none, .ref 189, vI 441 0, vI 155 0, vS "/claim/cut.py" 442] ::
   fO (stAt 30) "_law_answer" (vS "law_jc0016_01" 345) 190 ::
   ({ cls := .type "tuple", data := .seq #[] } : Obj) ::
   ({ cls := .none, data := .fields #[] } : Obj) ::
   gO (stAt 31) "law" ::
   cO [vS "law" 444, vS "law" 445, vS "/claim/cut.py" 446, vI 161 0, vI 1 0, vI 0 0, vI 0 0, vI 3 0, .ref 192, .bool true, vI 181 0, .ref 193, .none, .none, .none, .ref 194, vI 447 0, vI 161 0, vS "/claim/cut.py" 448] ::
   fO (stAt 31) "law" (vS "law_jc0016_01" 345) 195 ::
   []⟩ }

noncomputable abbrev prg : Program := PySem.Challenge.rw_jc0016_01.row.prog
noncomputable def bE : List Stmt := behindTheImports prg
noncomputable def hEnv : Env := { scope := prg.main.scope, locals := mainNs, globals := mainNs, cells := [], code := .ref 13, frame := some 14 }
noncomputable def cE : Code := .body bE hEnv
noncomputable def z0 : Pos := ⟨0, 0, 0, 0⟩
noncomputable def sh (h : Heap) (k : Nat) (os : OsState) : Shared := ⟨h, ⟨[]⟩, {}, k, os⟩
noncomputable def gr (a n : Nat) : List Stmt := (bE.drop a).take n
theorem bE_cut : bE = gr 0 9 ++ (gr 9 1 ++ (gr 10 7 ++ (gr 17 14 ++ (gr 31 1 ++ [])))) := by kernel_rfl
theorem pc0 (w : World) (os : OsState) : topGo treeTable prg w 11 (some (.ref 6)) 12 ⟨boot_heap w.params, ⟨[]⟩, boot_drawn, boot_toks, os⟩ (topStub prg) = some (sh (hp0 w.params) 187 os, ⟨denote treeTable cE, cE, z0, [topFrame z0]⟩) := by kernel_rfl
theorem pc1 (w : World) (os : OsState) : segRun treeTable prg w 11 (some (.ref 6)) 1 1 (sh (hp0 w.params) 187 os) (blockOf bE hEnv cE z0 [topFrame z0]) = some (.next, sh (hp0 w.params) 187 os, cE, z0) := by kernel_rfl
theorem pc2 (w : World) (os : OsState) : segRun treeTable prg w 11 (some (.ref 6)) 1 229 (sh (hp0 w.params) 187 os) (piecesOf (gr 0 9) hEnv cE z0 [topFrame z0]) = some (.next, sh (hp1 w.params) 247 os, cE, ⟨16, 0, 16, 8⟩) := by kernel_rfl
theorem pc3 (w : World) (os : OsState) : segRun treeTable prg w 11 (some (.ref 6)) 1 400 (sh (hp1 w.params) 247 os) (piecesOf (gr 9 1) hEnv cE ⟨16, 0, 16, 8⟩ [topFrame z0]) = some (.next, sh (hpc w.params) 289 os, cE, ⟨17, 0, 30, 16⟩) := by kernel_rfl
theorem pc3b (w : World) (os : OsState) : segRun treeTable prg w 11 (some (.ref 6)) 1 200 (sh (hpc w.params) 289 os) (piecesOf (gr 10 7) hEnv cE ⟨17, 0, 30, 16⟩ [topFrame z0]) = some (.next, sh (hp2 w.params) 325 os, cE, ⟨53, 0, 58, 21⟩) := by kernel_rfl
theorem pc4 (w : World) (os : OsState) : segRun treeTable prg w 11 (some (.ref 6)) 1 401 (sh (hp2 w.params) 325 os) (piecesOf (gr 17 14) hEnv cE ⟨53, 0, 58, 21⟩ [topFrame z0]) = some (.next, sh (hp3 w.params) 444 os, cE, ⟨155, 0, 160, 14⟩) := by kernel_rfl
theorem pc5 (w : World) (os : OsState) : segRun treeTable prg w 11 (some (.ref 6)) 1 27 (sh (hp3 w.params) 444 os) (piecesOf (gr 31 1) hEnv cE ⟨155, 0, 160, 14⟩ [topFrame z0]) = some (.next, sh (hp4 w.params) 450 os, cE, ⟨161, 0, 186, 43⟩) := by kernel_rfl
theorem pc6 (w : World) (os : OsState) : topRun treeTable prg w 11 (some (.ref 6)) 2 (sh (hp4 w.params) 450 os) ⟨doneF .next, cE, ⟨161, 0, 186, 43⟩, [topFrame z0]⟩ = some (sh (hp4 w.params) 450 os) := by kernel_rfl
theorem pc_run (w : World) (os : OsState) : topRun treeTable prg w 11 (some (.ref 6)) 1272 ⟨boot_heap w.params, ⟨[]⟩, boot_drawn, boot_toks, os⟩ (topStub prg) = some ⟨hp4 w.params, ⟨[]⟩, {}, 450, os⟩ := by
  have h : topRun treeTable prg w 11 (some (.ref 6)) (229 + (400 + (200 + (401 + (27 + 2))))) (sh (hp0 w.params) 187 os) (restOf (gr 0 9 ++ (gr 9 1 ++ (gr 10 7 ++ (gr 17 14 ++ (gr 31 1 ++ []))))) hEnv cE z0 [topFrame z0]) = some (sh (hp4 w.params) 450 os) :=
    piece_app (pc2 w os) (piece_app (pc3 w os) (piece_app (pc3b w os) (piece_app (pc4 w os) (piece_app (pc5 w os) (piece_nil (pc6 w os))))))
  rw [← bE_cut] at h
  exact go_top (pc0 w os) (piece_block (pc1 w os) h)

section
/-- a call of f with these arguments, over these objects, ends with such an answer and such new objects, and changes nothing -/
noncomputable def Con (w : World) (d : Nat) (f : Addr) (vs : List Value) (small : List (Addr × Obj)) (post : Value → List (Addr × Obj) → Prop) : Prop :=
  ∀ (p : Program) (loose : List PySem.Str) (mean : ExcName → Option Value) (mg mb : PySem.Str → Option Value) (dp un : Nat) (gd : Option (List Code)) (cn : PySem.Str) (cs : Scope) (a : Addr) (ccd : Value) (cl : List (PySem.Str × Addr)) (outer : List Env)
    (A₀ : Around) (base h₀ : Heap) (L : Addr) (m : PySem.Str → Option Value) (s : Shared) (Q E : Value → Shared → Prop),
    Below A₀ base outer h₀ → Fr h₀ L s.heap m → (hdtop.heap_39 w.params).In h₀ → News h₀ L s.heap small → Top p loose mean mg mb h₀ → cs.kind = .function → dp + (2 * d + 2) < recursionLimit → un + (40 * d + 40) < cLine →
    (∀ r tl h' tk', Fr h₀ L h' m → s.heap.StaysIn h' → (∀ q ∈ tl, h'.get? q.1 = some q.2 ∧ s.heap.get? q.1 = none) → post r tl → Q r { s with heap := h', toks := tk' }) →
    wpAny (model PySem.Challenge.rw_jc0016_01.row.prog w) (ktrTop dp un gd cn cs L a ccd cl outer) (call (.ref f) vs) Q E s

/-- the end of a body's walk -/
noncomputable def Done (small : List (Addr × Obj)) (g : Heap) (s : Shared) (post : Value → List (Addr × Obj) → Prop) (v : Value) (s' : Shared) : Prop :=
  ∃ L' m' tl, Fr g L' s'.heap m' ∧ News g L' s'.heap (tl ++ small) ∧ (∀ q ∈ tl, ∀ r ∈ small, r.1 ≠ q.1) ∧ post v tl ∧ ∃ h tk, s' = { s with heap := h, toks := tk }

theorem done_stays {small : List (Addr × Obj)} {s s' : Shared} {post : Value → List (Addr × Obj) → Prop} {v : Value} {h₀ : Heap} {L : Addr} (N : News h₀ L s.heap small)
    (D : Done small (hideAll s.heap (small.map (·.1))) s post v s') :
    ∃ tl, s.heap.StaysIn s'.heap ∧ (∀ q ∈ tl, s'.heap.get? q.1 = some q.2 ∧ s.heap.get? q.1 = none) ∧ post v tl ∧ ∃ h tk, s' = { s with heap := h, toks := tk } := by
  obtain ⟨L', m', tl, F, N', ap, hp, he⟩ := D
  have hs : ∀ b o, s.heap.get? b = some o → s'.heap.get? b = some o := by
    intro b o hb
    by_cases hm : b ∈ small.map (·.1)
    · obtain ⟨q, hq, rfl⟩ := List.mem_map.mp hm
      have h1 := (N q hq).1
      have h2 := (N' q (List.mem_append_right _ hq)).1
      rw [h2, ← hb, h1]
    · exact F.keep b o (hideAll_get _ hb hm)
  refine ⟨tl, hs, fun q hq => ⟨(N' q (List.mem_append_left _ hq)).1, ?_⟩, hp, he⟩
  cases hg : s.heap.get? q.1 with
  | none => rfl
  | some o =>
    have hm : q.1 ∉ small.map (·.1) := fun hm => by
      obtain ⟨r, hr, e⟩ := List.mem_map.mp hm
      exact ap q hq r hr e
    have h3 := hideAll_get (small.map (·.1)) hg hm
    rw [(N' q (List.mem_append_left _ hq)).2.2] at h3
    cases h3

theorem con_plain {w : World} {d : Nat} {f : Addr} {vs : List Value} {small : List (Addr × Obj)} {post : Value → List (Addr × Obj) → Prop}
    {name qual : PySem.Str} {params : Arguments} {body : List Stmt} {scope : Scope} {dV kV doc pm cdv ct oc : Value} {an od : Option Addr} {osl : Array (Option Value)} {binds : List (PySem.Str × Value)}
    (ho : (hdtop.heap_39 w.params).lookup f = some ⟨oc, od, .func (fnOf name qual params body scope dV kV doc pm an cdv ct), osl⟩) (hcd : codeIn (hdtop.heap_39 w.params) cdv qual = true)
    (hbind : ∀ s, BindsTo s (fnOf name qual params body scope dV kV doc pm an cdv ct) ⟨vs, []⟩ binds) (hloc : ∀ y ∈ binds, scope.names.lookup y.1 = some .local)
    (hcell : ∀ x ∈ scope.names, x.2 ≠ .cell) (hco : scope.isCoroutine = false) (hgen : scope.isGenerator = false) (hk : scope.kind = .function)
    (h : ∀ (p : Program) (loose : List PySem.Str) (mean : ExcName → Option Value) (mg mb : PySem.Str → Option Value) (dp un : Nat) (gd : Option (List Code)) (outer : List Env)
      (A₀ : Around) (base g : Heap) (L' : Addr) (h₁ : Heap) (tk : Nat) (s : Shared),
      Below A₀ base outer g → Fr g L' h₁ (fun y => binds.reverse.lookup y) → (hdtop.heap_39 w.params).In g → News g L' h₁ small → Top p loose mean mg mb g → dp + (2 * d + 1) < recursionLimit → un + (40 * d + 37) < cLine → (∀ q ∈ small, q.1 < L') →
      wpAny (model PySem.Challenge.rw_jc0016_01.row.prog w) (ktrTop dp un gd qual scope L' f cdv [] outer) (execs body (envOf qual scope L' f cdv))
        (fun fl s' => Done small g s post (match fl with | .ret v => v | _ => .none) s') (fun _ _ => False) { s with heap := h₁, toks := tk }) :
    Con w d f vs small post := by
  intro p loose mean mg mb dp un gd cn cs a ccd cl outer A₀ base h₀ L m s Q E B F X N T hck hdp hun ret
  refine wpAny_call ?_
  obtain ⟨FG, BG, st, -⟩ := groundX (A := ktrTop dp un gd cn cs L a ccd cl outer) (R := fun _ _ => True) B F N rfl rfl hck
  have hroom : (ktrTop dp un gd cn cs L a ccd cl outer).depth < recursionLimit := by show dp < _; lia
  refine codeAny_call_def (fd := fnOf name qual params body scope dV kV doc pm an cdv ct) (body := body) (binds := binds) hroom ((X.keeps F.keep) _ _ ho) rfl (T.nolimit.keeps F.keep) (codeRec_of (X.keeps F.keep) hcd) rfl (hbind s) hcell hloc (fun h₁ hns hk₁ => ?_) hco hgen hk
  have FG' : Fr (hideAll s.heap (small.map (·.1))) s.heap.objs.size h₁ (fun y => binds.reverse.lookup y) := ⟨hns, fun b o e => hk₁ b o (of_hideAll _ e), Nat.le_of_eq (hideAll_size _ _)⟩
  have NG : News (hideAll s.heap (small.map (·.1))) s.heap.objs.size h₁ small := fun q hq => ⟨hk₁ _ _ (N q hq).1, Nat.ne_of_lt (Heap.lt_size (N q hq).1), hideAll_none _ (List.mem_map_of_mem hq)⟩
  refine wpAny_mono (h p loose mean mg mb (dp + 1) (un + 3) gd (envX cn cs L a ccd cl :: outer) _ base _ s.heap.objs.size h₁ (s.toks + binds.length) s BG FG' (X.keeps st) NG (T.keeps st) (by lia) (by lia) (fun q hq => Heap.lt_size (N q hq).1)) (fun fl s' hD => ?_) (fun _ _ x => x.elim)
  obtain ⟨tl, hs, hn, hp, h', tk', rfl⟩ := done_stays N hD
  exact ret _ tl h' tk' ⟨by obtain ⟨oL, es, ep, hL, hr⟩ := F.ns; exact ⟨oL, es, ep, hs _ _ hL, hr⟩, fun b o e => hs b o (F.keep b o e), F.above⟩ hs hn hp

theorem con_cells {w : World} {d : Nat} {f : Addr} {vs : List Value} {small : List (Addr × Obj)} {post : Value → List (Addr × Obj) → Prop}
    {name qual : PySem.Str} {params : Arguments} {body : List Stmt} {scope : Scope} {dV kV doc pm cdv ct oc : Value} {an od : Option Addr} {osl : Array (Option Value)} {binds : List (PySem.Str × Value)}
    (ho : (hdtop.heap_39 w.params).lookup f = some ⟨oc, od, .func (fnOf name qual params body scope dV kV doc pm an cdv ct), osl⟩) (hcd : codeIn (hdtop.heap_39 w.params) cdv qual = true)
    (hbind : ∀ s, BindsTo s (fnOf name qual params body scope dV kV doc pm an cdv ct) ⟨vs, []⟩ binds) (hkind : (binds.all fun y => scope.names.lookup y.1 == some .local || scope.names.lookup y.1 == some .cell) = true)
    (hnd : ((cellsFrom 0 scope.names []).map (·.1)).Nodup) (hco : scope.isCoroutine = false) (hgen : scope.isGenerator = false) (hk : scope.kind = .function)
    (h : ∀ (p : Program) (loose : List PySem.Str) (mean : ExcName → Option Value) (mg mb : PySem.Str → Option Value) (dp un : Nat) (gd : Option (List Code)) (outer : List Env)
      (A₀ : Around) (base g : Heap) (L' : Addr) (h₁ : Heap) (tk : Nat) (s : Shared) (cells : List (Addr × Obj)),
      Below A₀ base outer g → Fr g L' h₁ (bindL (envOfC qual scope L' f cdv).kindOf binds fun _ => none) → (hdtop.heap_39 w.params).In g → News g L' h₁ (cells ++ small) →
      CellsAre (bindC (envOfC qual scope L' f cdv).kindOf binds fun _ => none) (cellsFrom (L' + 1) scope.names []) cells → Top p loose mean mg mb g → dp + (2 * d + 1) < recursionLimit → un + (40 * d + 37) < cLine → (∀ q ∈ small, q.1 < L') →
      wpAny (model PySem.Challenge.rw_jc0016_01.row.prog w) (ktrTop dp un gd qual scope L' f cdv (cellsFrom (L' + 1) scope.names []) outer) (execs body (envOfC qual scope L' f cdv))
        (fun fl s' => Done small g s post (match fl with | .ret v => v | _ => .none) s') (fun _ _ => False) { s with heap := h₁, toks := tk }) :
    Con w d f vs small post := by
  intro p loose mean mg mb dp un gd cn cs a ccd cl outer A₀ base h₀ L m s Q E B F X N T hck hdp hun ret
  refine wpAny_call ?_
  obtain ⟨FG, BG, st, -⟩ := groundX (A := ktrTop dp un gd cn cs L a ccd cl outer) (R := fun _ _ => True) B F N rfl rfl hck
  have hroom : (ktrTop dp un gd cn cs L a ccd cl outer).depth < recursionLimit := by show dp < _; lia
  refine codeAny_call_function hroom ((X.keeps F.keep) _ _ ho) rfl hco hgen rfl (codeRec_of (X.keeps F.keep) hcd) (hbind s _ _ _ _ ?_)
  refine wpAny_newFunctionEnv_cells hk (kindsX hkind _) fun env' he s' x => ?_
  subst he
  refine ⟨(T.nolimit.keeps F.keep).keeps x.toInCall.keep, codeAny_func ?_⟩
  obtain ⟨h₁, tk, rfl, _⟩ := x.done
  have hk₁ := x.toInCall.keep
  obtain ⟨cells, NC, Y⟩ := Cl.news (h₀ := s.heap) (Nat.le_refl _) fun n c hm => ⟨x.cell n c (lookup_of_mem_nodup (cellsFrom_names scope.names 0 (s.heap.objs.size + 1) [] [] rfl ▸ hnd) hm), x.above n c hm⟩
  have FG' : Fr (hideAll s.heap (small.map (·.1))) s.heap.objs.size h₁ (bindL (envOfC qual scope s.heap.objs.size f cdv).kindOf binds fun _ => none) := ⟨x.toInCall.ns, fun b o e => hk₁ b o (of_hideAll _ e), Nat.le_of_eq (hideAll_size _ _)⟩
  have NG : News (hideAll s.heap (small.map (·.1))) s.heap.objs.size h₁ (cells ++ small) := fun q hq => by
    rcases List.mem_append.mp hq with hq | hq
    · refine ⟨(NC q hq).1, (NC q hq).2.1, ?_⟩
      cases hg : (hideAll s.heap (small.map (·.1))).get? q.1 with
      | none => rfl
      | some o => have := of_hideAll _ hg; rw [(NC q hq).2.2] at this; cases this
    · exact ⟨hk₁ _ _ (N q hq).1, Nat.ne_of_lt (Heap.lt_size (N q hq).1), hideAll_none _ (List.mem_map_of_mem hq)⟩
  refine wpAny_mono (h p loose mean mg mb (dp + 1) (un + 3) gd (envX cn cs L a ccd cl :: outer) _ base _ s.heap.objs.size h₁ tk s cells BG FG' (X.keeps st) NG Y (T.keeps st) (by lia) (by lia) (fun q hq => Heap.lt_size (N q hq).1)) (fun fl s' hD => ?_) (fun _ _ x => x.elim)
  obtain ⟨tl, hs, hn, hp, h', tk', rfl⟩ := done_stays N hD
  exact ret _ tl h' tk' ⟨by obtain ⟨oL, es, ep, hL, hr⟩ := F.ns; exact ⟨oL, es, ep, hs _ _ hL, hr⟩, fun b o e => hs b o (F.keep b o e), F.above⟩ hs hn hp
/-- a call by its contract: what it made comes ahead of the ledger -/
theorem Con.use {w : World} {d : Nat} {f : Addr} {vs : List Value} {small : List (Addr × Obj)} {post : Value → List (Addr × Obj) → Prop} (C : Con w d f vs small post)
    {p : Program} {loose : List PySem.Str} {mean : ExcName → Option Value} {mg mb : PySem.Str → Option Value} {dp un : Nat} {gd : Option (List Code)} {cn : PySem.Str} {cs : Scope} {a : Addr} {ccd : Value} {cl : List (PySem.Str × Addr)} {outer : List Env}
    {A₀ : Around} {base h₀ : Heap} {L : Addr} {m : PySem.Str → Option Value} {s : Shared} {Q E : Value → Shared → Prop} {big : List (Addr × Obj)}
    (B : Below A₀ base outer h₀) (F : Fr h₀ L s.heap m) (X : (hdtop.heap_39 w.params).In h₀) (N : News h₀ L s.heap big) (T : Top p loose mean mg mb h₀) (hk : cs.kind = .function) (hd : dp + (2 * d + 2) < recursionLimit) (hu : un + (40 * d + 40) < cLine)
    (sub : ∀ q ∈ small, q ∈ big)
    (ret : ∀ r tl h' tk', Fr h₀ L h' m → News h₀ L h' (tl ++ big) → (∀ q ∈ big, ∀ r ∈ tl, q.1 ≠ r.1) → s.heap.StaysIn h' → post r tl → Q r { s with heap := h', toks := tk' }) :
    wpAny (model PySem.Challenge.rw_jc0016_01.row.prog w) (ktrTop dp un gd cn cs L a ccd cl outer) (call (.ref f) vs) Q E s := by
  refine C _ _ _ _ _ _ _ _ _ _ _ _ _ _ _ _ _ _ _ _ _ _ B F X (fun q hq => N q (sub q hq)) T hk hd hu fun r tl h' tk' F' st hn hp => ?_
  have hL : ∃ o, s.heap.get? L = some o := by obtain ⟨o, _, _, e, _⟩ := F.ns; exact ⟨o, e⟩
  refine ret r tl h' tk' F' (fun q hq => ?_) (fun q hq r hr e => ?_) st hp
  · rcases List.mem_append.mp hq with hq | hq
    · refine ⟨(hn q hq).1, fun e => ?_, ?_⟩
      · obtain ⟨o, ho⟩ := hL
        have := (hn q hq).2
        rw [e, ho] at this
        cases this
      · cases e : h₀.get? q.1 with
        | none => rfl
        | some o => have := F.keep _ _ e; rw [(hn q hq).2] at this; cases this
    · exact ⟨st _ _ (N q hq).1, (N q hq).2⟩
  · have h1 := (hn r hr).2
    rw [← e, (N q hq).1] at h1
    cases h1
/-- room: the depth's and the units' bound by terms -/
theorem room_le {a b c r : Nat} (h : a + b < r) (hc : c ≤ b) : a + c < r := Nat.lt_of_le_of_lt (Nat.add_le_add_left hc a) h
/-- a call by its contract, its usual premises found -/
theorem Con.useA {w : World} {d : Nat} {f : Addr} {vs : List Value} {small : List (Addr × Obj)} {post : Value → List (Addr × Obj) → Prop} (C : Con w d f vs small post)
    {p : Program} {loose : List PySem.Str} {mean : ExcName → Option Value} {mg mb : PySem.Str → Option Value} {dp un : Nat} {gd : Option (List Code)} {cn : PySem.Str} {cs : Scope} {a : Addr} {ccd : Value} {cl : List (PySem.Str × Addr)} {outer : List Env}
    {A₀ : Around} {base h₀ : Heap} {L : Addr} {m : PySem.Str → Option Value} {s : Shared} {Q E : Value → Shared → Prop} {big : List (Addr × Obj)}
    (sub : ∀ q ∈ small, q ∈ big)
    (ret : ∀ r tl h' tk', Fr h₀ L h' m → News h₀ L h' (tl ++ big) → (∀ q ∈ big, ∀ r ∈ tl, q.1 ≠ r.1) → post r tl → Q r { s with heap := h', toks := tk' })
    (B : Below A₀ base outer h₀ := by k_asm) (F' : Fr h₀ L s.heap m := by k_asm) (X : (hdtop.heap_39 w.params).In h₀ := by k_asm) (N : News h₀ L s.heap big := by k_asm) (T : Top p loose mean mg mb h₀ := by k_asm) (hk : cs.kind = .function := by first | exact rfl | assumption) (hd : dp + (2 * d + 2) < recursionLimit := by first | exact room_le (by assumption) (by decide) | omega) (hu : un + (40 * d + 40) < cLine := by first | exact room_le (by assumption) (by decide) | omega) :
    wpAny (model PySem.Challenge.rw_jc0016_01.row.prog w) (ktrTop dp un gd cn cs L a ccd cl outer) (call (.ref f) vs) Q E s := C.use B F' X N T hk hd hu sub fun r tl h' tk' F N ap _ hp => ret r tl h' tk' F N ap hp
/-- a call that makes nothing and answers a value of a known form -/
theorem Con.useV {w : World} {d : Nat} {f : Addr} {vs : List Value} {small : List (Addr × Obj)} {F : Tok → Value} (C : Con w d f vs small fun v tl => tl = [] ∧ ∃ t, v = F t)
    {p : Program} {loose : List PySem.Str} {mean : ExcName → Option Value} {mg mb : PySem.Str → Option Value} {dp un : Nat} {gd : Option (List Code)} {cn : PySem.Str} {cs : Scope} {a : Addr} {ccd : Value} {cl : List (PySem.Str × Addr)} {outer : List Env}
    {A₀ : Around} {base h₀ : Heap} {L : Addr} {m : PySem.Str → Option Value} {s : Shared} {Q E : Value → Shared → Prop} {big : List (Addr × Obj)}
    (sub : ∀ q ∈ small, q ∈ big) (ret : ∀ t h' tk', Fr h₀ L h' m → News h₀ L h' big → Q (F t) { s with heap := h', toks := tk' })
    (B : Below A₀ base outer h₀ := by k_asm) (F' : Fr h₀ L s.heap m := by k_asm) (X : (hdtop.heap_39 w.params).In h₀ := by k_asm) (N : News h₀ L s.heap big := by k_asm) (T : Top p loose mean mg mb h₀ := by k_asm) (hk : cs.kind = .function := by first | exact rfl | assumption) (hd : dp + (2 * d + 2) < recursionLimit := by first | exact room_le (by assumption) (by decide) | omega) (hu : un + (40 * d + 40) < cLine := by first | exact room_le (by assumption) (by decide) | omega) :
    wpAny (model PySem.Challenge.rw_jc0016_01.row.prog w) (ktrTop dp un gd cn cs L a ccd cl outer) (call (.ref f) vs) Q E s := C.use B F' X N T hk hd hu sub fun r tl h' tk' F N ap _ hp => by
  obtain ⟨rfl, t, rfl⟩ := hp
  exact ret t h' tk' F N
/-- the same, with more told of the value -/
theorem Con.useG {w : World} {d : Nat} {f : Addr} {vs : List Value} {small : List (Addr × Obj)} {F : Tok → Value} {G : Prop} (C : Con w d f vs small fun v tl => tl = [] ∧ ∃ t, v = F t ∧ G)
    {p : Program} {loose : List PySem.Str} {mean : ExcName → Option Value} {mg mb : PySem.Str → Option Value} {dp un : Nat} {gd : Option (List Code)} {cn : PySem.Str} {cs : Scope} {a : Addr} {ccd : Value} {cl : List (PySem.Str × Addr)} {outer : List Env}
    {A₀ : Around} {base h₀ : Heap} {L : Addr} {m : PySem.Str → Option Value} {s : Shared} {Q E : Value → Shared → Prop} {big : List (Addr × Obj)}
    (sub : ∀ q ∈ small, q ∈ big) (ret : G → ∀ t h' tk', Fr h₀ L h' m → News h₀ L h' big → Q (F t) { s with heap := h', toks := tk' })
    (B : Below A₀ base outer h₀ := by k_asm) (F' : Fr h₀ L s.heap m := by k_asm) (X : (hdtop.heap_39 w.params).In h₀ := by k_asm) (N : News h₀ L s.heap big := by k_asm) (T : Top p loose mean mg mb h₀ := by k_asm) (hk : cs.kind = .function := by first | exact rfl | assumption) (hd : dp + (2 * d + 2) < recursionLimit := by first | exact room_le (by assumption) (by decide) | omega) (hu : un + (40 * d + 40) < cLine := by first | exact room_le (by assumption) (by decide) | omega) :
    wpAny (model PySem.Challenge.rw_jc0016_01.row.prog w) (ktrTop dp un gd cn cs L a ccd cl outer) (call (.ref f) vs) Q E s := C.use B F' X N T hk hd hu sub fun r tl h' tk' F N ap _ hp => by
  obtain ⟨rfl, t, rfl, hG⟩ := hp
  exact ret hG t h' tk' F N
theorem con_plain' {w : World} {d : Nat} {f : Addr} {vs : List Value} {small : List (Addr × Obj)} {post : Value → List (Addr × Obj) → Prop}
    {name qual : PySem.Str} {params : Arguments} {body : List Stmt} {scope : Scope} {dV kV doc pm cdv ct oc : Value} {an od : Option Addr} {osl : Array (Option Value)} {binds : List (PySem.Str × Value)}
    (h : ∀ (p : Program) (loose : List PySem.Str) (mean : ExcName → Option Value) (mg mb : PySem.Str → Option Value) (dp un : Nat) (gd : Option (List Code)) (outer : List Env)
      (A₀ : Around) (base g : Heap) (L' : Addr) (h₁ : Heap) (tk : Nat) (s : Shared),
      Below A₀ base outer g → Fr g L' h₁ (fun y => binds.reverse.lookup y) → (hdtop.heap_39 w.params).In g → News g L' h₁ small → Top p loose mean mg mb g → dp + (2 * d + 1) < recursionLimit → un + (40 * d + 37) < cLine → (∀ q ∈ small, q.1 < L') →
      wpAny (model PySem.Challenge.rw_jc0016_01.row.prog w) (ktrTop dp un gd qual scope L' f cdv [] outer) (execs body (envOf qual scope L' f cdv))
        (fun fl s' => Done small g s post (match fl with | .ret v => v | _ => .none) s') (fun _ _ => False) { s with heap := h₁, toks := tk })
    (ho : (hdtop.heap_39 w.params).lookup f = some ⟨oc, od, .func (fnOf name qual params body scope dV kV doc pm an cdv ct), osl⟩ := by k_dflt k_is) (hcd : codeIn (hdtop.heap_39 w.params) cdv qual = true := by k_dflt k_is) (hbind : ∀ s, BindsTo s (fnOf name qual params body scope dV kV doc pm an cdv ct) ⟨vs, []⟩ binds := by exact fun _ => BindsTo.of_eq rfl) (hloc : ∀ y ∈ binds, scope.names.lookup y.1 = some .local := by exact locs rfl) (hcell : ∀ x ∈ scope.names, x.2 ≠ .cell := by decide) (hco : scope.isCoroutine = false := by exact rfl) (hgen : scope.isGenerator = false := by exact rfl) (hk : scope.kind = .function := by exact rfl) :
    Con w d f vs small post := con_plain ho hcd hbind hloc hcell hco hgen hk h
theorem con_cells' {w : World} {d : Nat} {f : Addr} {vs : List Value} {small : List (Addr × Obj)} {post : Value → List (Addr × Obj) → Prop}
    {name qual : PySem.Str} {params : Arguments} {body : List Stmt} {scope : Scope} {dV kV doc pm cdv ct oc : Value} {an od : Option Addr} {osl : Array (Option Value)} {binds : List (PySem.Str × Value)}
    (h : ∀ (p : Program) (loose : List PySem.Str) (mean : ExcName → Option Value) (mg mb : PySem.Str → Option Value) (dp un : Nat) (gd : Option (List Code)) (outer : List Env)
      (A₀ : Around) (base g : Heap) (L' : Addr) (h₁ : Heap) (tk : Nat) (s : Shared) (cells : List (Addr × Obj)),
      Below A₀ base outer g → Fr g L' h₁ (bindL (envOfC qual scope L' f cdv).kindOf binds fun _ => none) → (hdtop.heap_39 w.params).In g → News g L' h₁ (cells ++ small) →
      CellsAre (bindC (envOfC qual scope L' f cdv).kindOf binds fun _ => none) (cellsFrom (L' + 1) scope.names []) cells → Top p loose mean mg mb g → dp + (2 * d + 1) < recursionLimit → un + (40 * d + 37) < cLine → (∀ q ∈ small, q.1 < L') →
      wpAny (model PySem.Challenge.rw_jc0016_01.row.prog w) (ktrTop dp un gd qual scope L' f cdv (cellsFrom (L' + 1) scope.names []) outer) (execs body (envOfC qual scope L' f cdv))
        (fun fl s' => Done small g s post (match fl with | .ret v => v | _ => .none) s') (fun _ _ => False) { s with heap := h₁, toks := tk })
    (ho : (hdtop.heap_39 w.params).lookup f = some ⟨oc, od, .func (fnOf name qual params body scope dV kV doc pm an cdv ct), osl⟩ := by k_dflt k_is) (hcd : codeIn (hdtop.heap_39 w.params) cdv qual = true := by k_dflt k_is) (hbind : ∀ s, BindsTo s (fnOf name qual params body scope dV kV doc pm an cdv ct) ⟨vs, []⟩ binds := by exact fun _ => BindsTo.of_eq rfl) (hkind : (binds.all fun y => scope.names.lookup y.1 == some .local || scope.names.lookup y.1 == some .cell) = true := by exact rfl) (hnd : ((cellsFrom 0 scope.names []).map (·.1)).Nodup := by decide +kernel) (hco : scope.isCoroutine = false := by exact rfl) (hgen : scope.isGenerator = false := by exact rfl) (hk : scope.kind = .function := by exact rfl) :
    Con w d f vs small post := con_cells ho hcd hbind hkind hnd hco hgen hk h
/-- the end of a body that made nothing -/
theorem done_nil {small : List (Addr × Obj)} {g h : Heap} {s : Shared} {post : Value → List (Addr × Obj) → Prop} {v : Value} {L' : Addr} {m' : PySem.Str → Option Value} {tk : Nat} (hp : post v [])
    (F : Fr g L' h m' := by k_asm) (N : News g L' h small := by (refine' cb_drop ?cbN ?cbS; (case cbN => assumption); (case cbS => first | exact List.forall_mem_nil _ | kcj_all))) : Done small g s post v { s with heap := h, toks := tk } :=
  ⟨L', m', [], F, N, (fun _ h => nomatch h), hp, h, tk, rfl⟩
end

section
noncomputable abbrev LMap := PySem.Str → Option Value
noncomputable abbrev Led := List (Addr × Obj)

theorem fr_canon {h₀ h : Heap} {L : Addr} {m : LMap} {x : PySem.Str} {v : Value} (F : Fr h₀ L h m) (hx : m x = some v) : Fr h₀ L h (fun y => if y = x then some v else m y) := by
  have e : (fun y => if y = x then some v else m y) = m := by
    funext y
    split
    · rename_i q; rw [q, hx]
    · rfl
  rw [e]; exact F

/-- a goal that the walk leaves alone -/
noncomputable def Hold (P : Prop) : Prop := P
theorem Hold.out {P : Prop} (h : Hold P) : P := h
theorem Hold.of {P : Prop} (h : P) : Hold P := h
theorem off0 {z : Addr} : ∀ q ∈ ([] : Led), q.1 ≠ z := fun _ h => nomatch h
theorem off1 {x z : Addr} {o : Obj} {l : Led} (h : @LT.lt Nat _ x z) (r : ∀ q ∈ l, q.1 ≠ z) : ∀ q ∈ (x, o) :: l, q.1 ≠ z := fun q hq => by
  rcases List.mem_cons.mp hq with rfl | hq
  · exact Nat.ne_of_lt h
  · exact r q hq
/-- the frame's names that are told -/
noncomputable def HasL (m : LMap) : List (PySem.Str × Value) → Prop
  | [] => True
  | p :: r => m p.1 = some p.2 ∧ HasL m r
noncomputable def canonM (m : LMap) : List (PySem.Str × Value) → LMap
  | [] => m
  | p :: r => fun y => if y = p.1 then some p.2 else canonM m r y
theorem canonM_eq {m : LMap} : ∀ {ps : List (PySem.Str × Value)}, HasL m ps → canonM m ps = m
  | [], _ => rfl
  | p :: r, h => by
    funext y
    show (if y = p.1 then some p.2 else canonM m r y) = m y
    rw [canonM_eq h.2]
    split
    · rename_i q; rw [q, h.1]
    · rfl
theorem fr_canons {h₀ h : Heap} {L : Addr} {m : LMap} {ps : List (PySem.Str × Value)} (F : Fr h₀ L h m) (hx : HasL m ps) : Fr h₀ L h (canonM m ps) := by rw [canonM_eq hx]; exact F

section
variable {prog : Program} {w : World} {A : Around} {E : Value → Shared → Prop} {s : Shared} {env : Env} {h₀ : Heap} {x : PySem.Str} {body : List Stmt} {Q : Flow → Shared → Prop}

theorem unrEnd_mono {L I : Addr} {it : Obj} {s₁ s₂ : Shared} {r r' : LMap → Led → Prop} (h : ∀ m n, r m n → r' m n) (u : UnrEnd h₀ L s₁ I it r s₂) : UnrEnd h₀ L s₁ I it r' s₂ := by
  obtain ⟨h', tk, m', news', e, F, N, o, q⟩ := u
  exact ⟨h', tk, m', news', e, F, N, o, h _ _ q⟩
theorem unrPost_mono {L I : Addr} {it : Obj} {s₁ s₂ : Shared} {r r' : LMap → Led → Prop} {f : Flow} (h : ∀ m n, r m n → r' m n) (u : UnrPost h₀ L s₁ I it r Q f s₂) : UnrPost h₀ L s₁ I it r' Q f s₂ := by
  cases f with
  | ret v => exact u
  | brk => exact u
  | next => exact unrEnd_mono h u
  | cont => exact unrEnd_mono h u

theorem range_inv {I : Addr} {a : Int} {n : Nat} (J : Nat → LMap → Led → Prop)
    (step : ∀ i m news t h tk, i < n → J i m news → Fr h₀ env.locals h (fun y => if y = x then some (.int (a + (i : Int)) t) else m y) →
      News h₀ env.locals h ((I, itR (a + ((i + 1 : Nat) : Int)) ((n : Int) - ((i + 1 : Nat) : Int))) :: news) →
      wpAny (model prog w) A (execs body env) (UnrPost h₀ env.locals { s with heap := h, toks := tk } I (itR (a + ((i + 1 : Nat) : Int)) ((n : Int) - ((i + 1 : Nat) : Int))) (J (i + 1)) Q) E { s with heap := h, toks := tk })
    (fin : ∀ m news h tk, J n m news → Fr h₀ env.locals h m → News h₀ env.locals h news → Q .next { s with heap := h, toks := tk }) :
    ∀ k i m news, i + k = n → J i m news → RangeRest prog w A E h₀ env x body Q s I a n k i m news := by
  intro k
  induction k with
  | zero =>
    intro i m news e hJ
    have e' : i = n := by lia
    subst e'
    exact RangeRest.zero fun h tk F N => fin _ _ _ _ hJ F N
  | succ k ih =>
    intro i m news e hJ
    refine RangeRest.succ fun t h tk F N => ?_
    exact wpAny_mono (step i m news t h tk (by lia) hJ F N) (fun f s₂ u => unrPost_mono (fun m' n' hJ' => ih (i + 1) m' n' (by lia) hJ') u) fun _ _ e => e

theorem unrPostW_mono {L : Addr} {its : Led} {s₁ s₂ : Shared} {r r' : LMap → Led → Prop} {f : Flow} (h : ∀ m n, r m n → r' m n) (u : UnrPostW h₀ L s₁ its r Q f s₂) : UnrPostW h₀ L s₁ its r' Q f s₂ := by
  have key : UnrEndW h₀ L s₁ its r s₂ → UnrEndW h₀ L s₁ its r' s₂ := by
    rintro ⟨h', tk, m', news', e, F, N, o, q⟩
    exact ⟨h', tk, m', news', e, F, N, o, h _ _ q⟩
  cases f with
  | ret v => exact u
  | brk => exact u
  | next => exact key u
  | cont => exact key u

theorem allObj_mono {k k' : Led → Prop} : ∀ {ws : List (Addr × String)}, (∀ l, k l → k' l) → AllObj ws k → AllObj ws k'
  | [], h, a => h _ a
  | _ :: r, h, a => fun o ho => allObj_mono (ws := r) (fun l q => h _ q) (a o ho)

theorem items_inv {target : Expr} {ws : List (Addr × String)} {keep : Led} (J : List Itm → LMap → Led → Prop)
    (step : ∀ a r m news v h tk, J (a :: r) m news → a.Is v h → Fr h₀ env.locals h m → AllObj ws (fun its => News h₀ env.locals h (its ++ news) →
      wpAny (model prog w) A (assign target env v) (fun _ s₂ => wpAny (model prog w) A (execs body env) (UnrPostW h₀ env.locals { s with heap := h, toks := tk } its (fun m' n' => SubL keep n' ∧ J r m' n') Q) E s₂) E { s with heap := h, toks := tk }))
    (fin : ∀ m news h tk, J [] m news → Fr h₀ env.locals h m → News h₀ env.locals h news → Q .next { s with heap := h, toks := tk }) :
    ∀ xs m news, J xs m news → ItemsRest prog w A E h₀ env target body Q s ws keep xs m news := by
  intro xs
  induction xs with
  | nil => exact fun m news hJ h tk F N => fin _ _ _ _ hJ F N
  | cons a r ih =>
    intro m news hJ v h tk hv F
    refine allObj_mono (fun l hl N => ?_) (step a r m news v h tk hJ hv F)
    exact wpAny_mono (hl N) (fun _ s₂ h₂ => wpAny_mono h₂ (fun f s₃ u => unrPostW_mono (fun m' n' hq => ⟨hq.1, ih m' n' hq.2⟩) u) fun _ _ e => e) fun _ _ e => e

theorem list_inv {I : Addr} {lp : Addr × Obj} (J : List Value → LMap → Led → Prop)
    (step : ∀ v r m news (it : Obj) h tk, J (v :: r) m news → it.cls = .type "list_iterator" → Fr h₀ env.locals h (fun y => if y = x then some v else m y) → News h₀ env.locals h ((I, it) :: news) →
      wpAny (model prog w) A (execs body env) (UnrPost h₀ env.locals { s with heap := h, toks := tk } I it (fun m' n' => lp ∈ n' ∧ J r m' n') Q) E { s with heap := h, toks := tk })
    (fin : ∀ m news h tk, J [] m news → Fr h₀ env.locals h m → News h₀ env.locals h news → Q .next { s with heap := h, toks := tk }) :
    ∀ xs m news, J xs m news → ListRest prog w A E h₀ env x body Q s I lp xs m news := by
  intro xs
  induction xs with
  | nil => exact fun m news hJ => ListRest.zero fun h tk F N => fin _ _ _ _ hJ F N
  | cons v r ih =>
    intro m news hJ
    refine ListRest.succ fun it h tk hc F N => ?_
    exact wpAny_mono (step v r m news it h tk hJ hc F N) (fun f s₂ u => unrPost_mono (fun m' n' hq => ⟨hq.1, ih m' n' hq.2⟩) u) fun _ _ e => e

theorem while_inv {test : Expr} (hE : PassesOwn (model prog w) A env E) (J : Nat → Shared → Prop)
    (step : ∀ k s₁, J k s₁ → wpAny (model prog w) A (isTrue test env (eval test env)) (fun b s₂ => WhlIf b
      (wpAny (model prog w) A (execs body env) (fun f s₃ => match f with | .ret v => Q (.ret v) s₃ | .brk => Q .next s₃ | _ => Hold (∃ k', k' < k ∧ J k' s₃)) E s₂) (Q .next s₂)) E s₁) :
    ∀ k s₁, J k s₁ → WhlRest prog w A E env test body [] Q 0 s₁ := by
  intro k
  induction k using Nat.strongRecOn with
  | ind k ih =>
    intro s₁ hJ
    refine whl_turn (k := 0) hE ?_
    refine wpAny_mono (step k s₁ hJ) (fun b s₂ h₂ => ?_) fun _ _ e => e
    cases b with
    | false => exact WhlIf.no rfl (wpAny_execs_nil h₂)
    | true =>
      refine WhlIf.yes rfl ?_
      have h₃ : wpAny (model prog w) A (execs body env) (fun f s₃ => match f with | .ret v => Q (.ret v) s₃ | .brk => Q .next s₃ | _ => Hold (∃ k', k' < k ∧ J k' s₃)) E s₂ := h₂
      refine wpAny_mono h₃ (fun f s₃ h₄ => ?_) fun _ _ e => e
      cases f with
      | ret v => exact h₄
      | brk => exact h₄
      | next => obtain ⟨k', hk, hj⟩ := h₄; exact ih k' hk s₃ hj
      | cont => obtain ⟨k', hk, hj⟩ := h₄; exact ih k' hk s₃ hj

theorem execs_cut1 {st : Stmt} {rest : List Stmt} (P : Shared → Prop) (h1 : wpAny (model prog w) A (exec st env) (fun f s' => Hold (f = .next ∧ P s')) E s) (h2 : ∀ s', P s' → wpAny (model prog w) A (execs rest env) Q E s') :
    wpAny (model prog w) A (execs (st :: rest) env) Q E s := by
  refine wpAny_execs_cons (wpAny_mono h1 (fun f s' h => ?_) fun _ _ e => e)
  obtain ⟨rfl, hp⟩ := h.out
  exact h2 s' hp
theorem while_start {test : Expr} {pos : Pos} (hE : PassesOwn (model prog w) A env E) (J : Nat → Shared → Prop) (k : Nat) (hJ : J k s)
    (step : ∀ k s₁, J k s₁ → wpAny (model prog w) A (isTrue test env (eval test env)) (fun b s₂ => WhlIf b
      (wpAny (model prog w) A (execs body env) (fun f s₃ => match f with | .ret v => Q (.ret v) s₃ | .brk => Q .next s₃ | _ => Hold (∃ k', k' < k ∧ J k' s₃)) E s₂) (Q .next s₂)) E s₁) :
    wpAny (model prog w) A (exec (.While test body [] pos) env) Q E s := whl_start 0 (while_inv hE J step k s hJ)
end

section
variable {prog : Program} {w : World} {A : Around} {h₀ : Heap} {L : Addr} {m : LMap} {env : Env} {elt : Expr} {x : PySem.Str} {scope : Scope} {cl : List (PySem.Str × Addr)} {s : Shared} {S : Led → Prop} {P : Nat → Value → Prop} {Fin : List Value → Led → Prop}

/-- a comprehension of any length: what has been made so far, and the ledger, by the turn's number -/
theorem comp_inv {n : Nat} (J : Nat → List Value → Led → Prop)
    (turn : ∀ i v I oI C oC D m₂ ys news h tk (E' : Value → Shared → Prop), i < n → J i ys news → P i v → LCg.NsObj oC m₂ → m₂ x = some v → Fr h₀ L h m → News h₀ L h ((I, oI) :: (C, oC) :: (D, LCg.lst ys) :: news) → LCg.Off3 I C D news → ((@Ne Nat I C) ∧ (@Ne Nat I D) ∧ (@Ne Nat C D)) →
      wpAny (model prog w) A (eval elt (compEnvC scope cl C env)) (LCg.CompEnd h₀ L m { s with heap := h, toks := tk } I oI C oC D (LCg.lst ys) S (fun y news' => J (i + 1) (ys ++ [y]) news')) E' { s with heap := h, toks := tk })
    (fin : ∀ ys news, J n ys news → Fin ys news) : ∀ k i ys news, i + k = n → J i ys news → LCg.CompRest prog w A h₀ L m env elt x scope cl s S P Fin k i ys news := by
  intro k
  induction k with
  | zero =>
    intro i ys news e hJ
    have e' : i = n := by lia
    subst e'
    exact LCg.CompRest.zero (fin _ _ hJ)
  | succ k ih =>
    intro i ys news e hJ
    refine LCg.CompRest.succ ?_
    intro v I oI C oC D m₂ h tk E' hv hC hx F N off ne
    refine wpAny_mono (turn i v I oI C oC D m₂ ys news h tk E' (by lia) hJ hv hC hx F N off ne) (fun y s₂ hq => ?_) fun _ _ e => e
    obtain ⟨h', tk', nw, e', F', N', off', hS, hj⟩ := hq
    exact ⟨h', tk', nw, e', F', N', off', hS, ih (i + 1) _ _ (by lia) hj⟩
end
end

section
section
variable {α : Type} {M : Model} {A : Around} {E : Value → Shared → Prop} {s : Shared} {env : Env}
theorem let_Q {t : Sem α} {Q : α → Shared → Prop} (h : let Q' := Q; wpAny M A t Q' E s) : wpAny M A t Q E s := h
end
/-- one law for all of a ledger -/
theorem al_nil {P : Addr × Obj → Prop} : ∀ q ∈ ([] : Led), P q := fun _ h => nomatch h
theorem al_cons {P : Addr × Obj → Prop} {x : Addr × Obj} {l : Led} (h : P x) (r : ∀ q ∈ l, P q) : ∀ q ∈ x :: l, P q := fun q hq => by
  rcases List.mem_cons.mp hq with rfl | hq
  · exact h
  · exact r q hq
theorem al_app {P : Addr × Obj → Prop} {a l : Led} (h : ∀ q ∈ a, P q) (r : ∀ q ∈ l, P q) : ∀ q ∈ a ++ l, P q := fun q hq => by
  rcases List.mem_append.mp hq with hq | hq
  · exact h q hq
  · exact r q hq
theorem at_head {x : Addr × Obj} {l : Led} : x ∈ x :: l := List.mem_cons_self
theorem at_tail {x y : Addr × Obj} {l : Led} (h : x ∈ l) : x ∈ y :: l := List.mem_cons_of_mem _ h
theorem at_left {b big : Led} {x : Addr × Obj} (h : x ∈ b) : x ∈ b ++ big := List.mem_append_left _ h
theorem at_right {b big : Led} {x : Addr × Obj} (h : x ∈ big) : x ∈ b ++ big := List.mem_append_right _ h
theorem in_self {a : Led} : ∀ q ∈ a, q ∈ a := fun _ h => h
theorem in_tail {a big : Led} {x : Addr × Obj} (h : ∀ q ∈ a, q ∈ big) : ∀ q ∈ a, q ∈ x :: big := fun q hq => List.mem_cons_of_mem _ (h q hq)
theorem in_left {a b big : Led} (h : ∀ q ∈ a, q ∈ b) : ∀ q ∈ a, q ∈ b ++ big := fun q hq => List.mem_append_left _ (h q hq)
theorem in_right {a b big : Led} (h : ∀ q ∈ a, q ∈ big) : ∀ q ∈ a, q ∈ b ++ big := fun q hq => List.mem_append_right _ (h q hq)
theorem in_all {a b big : Led} (h : ∀ q ∈ a, q ∈ b) (r : ∀ q ∈ b, q ∈ big) : ∀ q ∈ a, q ∈ big := fun q hq => r q (h q hq)
theorem led_use {l big : Led} {q : Addr × Obj} (h : ∀ q ∈ l, q ∈ big) (hq : q ∈ l) : q ∈ big := h q hq
theorem some_int {x y : Int} {t : Tok} (h : x = y) : some (Value.int x t) = some (Value.int y t) := by rw [h]
theorem ints_at : ∀ {vs : List Value} {ns : List Int}, IntsAre vs ns → ∀ {i : Nat}, i < ns.length → ∃ t, vs[i]? = some (.int (ns.getD i 0) t)
  | _, _, .nil, _, h => absurd h (Nat.not_lt_zero _)
  | _, _, .cons n t _, 0, _ => ⟨t, rfl⟩
  | _, _, .cons _ _ r, i + 1, h => ints_at r (i := i) (Nat.lt_of_succ_lt_succ h)
theorem ints_snoc {vs : List Value} {ns : List Int} (h : IntsAre vs ns) (x : Int) (t : Tok) : IntsAre (vs ++ [.int x t]) (ns ++ [x]) := h.append (.cons x t .nil)
theorem map_range_succ {α : Type} (f : Nat → α) (n : Nat) : (List.range (n + 1)).map f = (List.range n).map f ++ [f n] := by
  rw [List.range_succ, List.map_append]; rfl
theorem getD_map_range {f : Nat → Int} {n i : Nat} (h : i < n) : ((List.range n).map f).getD i 0 = f i := by
  simp [List.getD_eq_getElem?_getD, h]
section
variable {prog : Program} {w : World} {A : Around} {h₀ : Heap} {L : Addr} {m : LMap} {env : Env} {ct elt : Expr} {x : PySem.Str} {scope : Scope} {cl : List (PySem.Str × Addr)} {s : Shared} {S : Led → Prop} {P : Nat → Value → Prop} {Fin : List Value → Led → Prop}
theorem compEnd_mono {I C D : Addr} {oI oC oD : Obj} {s₁ s₂ : Shared} {r r' : Value → Led → Prop} {y : Value} (h : ∀ n, r y n → r' y n) (u : LCg.CompEnd h₀ L m s₁ I oI C oC D oD S r y s₂) : LCg.CompEnd h₀ L m s₁ I oI C oC D oD S r' y s₂ := by
  obtain ⟨h', tk, n', e, F, N, o, hS, q⟩ := u
  exact ⟨h', tk, n', e, F, N, o, hS, h _ q⟩
/-- a comprehension with a test -/
theorem comp_invT {n : Nat} (J : Nat → List Value → Led → Prop)
    (turn : ∀ i v I oI C oC D m₂ ys news h tk (E' : Value → Shared → Prop), i < n → J i ys news → P i v → LCg.NsObj oC m₂ → m₂ x = some v → Fr h₀ L h m → News h₀ L h ((I, oI) :: (C, oC) :: (D, LCg.lst ys) :: news) → LCg.Off3 I C D news → ((@Ne Nat I C) ∧ (@Ne Nat I D) ∧ (@Ne Nat C D)) →
      wpAny (model prog w) A (isTrue ct (compEnvC scope cl C env) (eval ct (compEnvC scope cl C env))) (fun ok s' => if ok = true then
        wpAny (model prog w) A (eval elt (compEnvC scope cl C env)) (LCg.CompEnd h₀ L m { s with heap := h, toks := tk } I oI C oC D (LCg.lst ys) S (fun y news' => J (i + 1) (ys ++ [y]) news')) E' s'
        else LCg.CompEnd h₀ L m { s with heap := h, toks := tk } I oI C oC D (LCg.lst ys) S (fun _ news' => J (i + 1) ys news') Value.none s') E' { s with heap := h, toks := tk })
    (fin : ∀ ys news, J n ys news → Fin ys news) : ∀ k i ys news, i + k = n → J i ys news → LCt.CompRestT prog w A h₀ L m env ct elt x scope cl s S P Fin k i ys news := by
  intro k
  induction k with
  | zero =>
    intro i ys news e hJ
    have e' : i = n := by lia
    subst e'
    exact LCt.CompRestT.zero (fin _ _ hJ)
  | succ k ih =>
    intro i ys news e hJ
    refine LCt.CompRestT.succ ?_
    intro v I oI C oC D m₂ h tk E' hv hC hx F N off ne
    refine wpAny_mono (turn i v I oI C oC D m₂ ys news h tk E' (by lia) hJ hv hC hx F N off ne) (fun ok s₂ hq => ?_) fun _ _ e => e
    cases ok with
    | true =>
      simp only [if_true] at hq ⊢
      exact wpAny_mono hq (fun y s₃ h₃ => compEnd_mono (fun n' hj => ih (i + 1) _ _ (by lia) hj) h₃) fun _ _ e => e
    | false =>
      simp only [Bool.false_eq_true, if_false] at hq ⊢
      exact compEnd_mono (fun n' hj => ih (i + 1) _ _ (by lia) hj) hq
end
theorem item_ints {prog : Program} {w : World} {A : Around} {E : Value → Shared → Prop} {s : Shared} {h₀ : Heap} {L l : Addr} {news : Led} {o : Obj} {vs : List Value} {ns : List Int} {n : Nat} {value slice : PySem.Expr} {k : Int} {u : Tok} {Q : Value → Shared → Prop}
    (N : News h₀ L s.heap news) (hm : (l, o) ∈ news) (hc : o.cls = .type "list") (hd : o.data = .seq vs.toArray n) (hi : IntsAre vs ns) (h0 : 0 ≤ k) (h1 : k < ns.length) (h2 : ns.length < 2 ^ 60) (h : ∀ t, Q (.int (ns.getD k.toNat 0) t) s)
    (hs : subscripted slice false (.ref l) (.int k u) = operate [.ref l, .int k u] (getItem (.ref l) (.int k u)))
    (hg : ∀ r, letTemporaryGo value (.ref l) r = pure ()) :
    wpAny (model prog w) A (subscriptTail value slice (.ref l) (.int k u)) Q E s := by
  have hk : k.toNat < ns.length := by lia
  obtain ⟨t, e⟩ := ints_at hi hk
  have hl : s.heap.IsList l vs.toArray := ⟨o, N.get hm, hc, n, hd⟩
  exact tail_any hl.typeIs slot_list_getitem.lookup (wpAny_getItem_list hl h0 (by lia) (by simpa using e) (h t)) hs
section
variable {prog : Program} {w : World} {A : Around} {E : Value → Shared → Prop} {s : Shared} {env : Env} {h₀ : Heap} {target : Expr} {body : List Stmt} {Q : Flow → Shared → Prop}
theorem iter_rangeTurns {r : Addr} {a₀ b₀ : Int} {t₀ u₀ v₀ : Tok} {n : Nat} {m₀ : LMap} {news : Led}
    (hh : A.handled = none) (hr : IsRange s.heap r a₀ b₀ 1 t₀ u₀ v₀) (hsmall : Builtin.Range.small a₀ b₀ 1 = true) (hn : Builtin.Range.rangeSize a₀ b₀ 1 = (n : Int)) (F : Fr h₀ env.locals s.heap m₀) (N : News h₀ env.locals s.heap news)
    (hgo : ∀ I v, letOwnedTupleGo target (.ref I) v = pure ())
    (rest₀ : ∀ I : Addr, (∀ p ∈ news, p.1 < I) → ItemsRest prog w A E h₀ env target body Q s [(I, "range_iterator")] [] ((List.range n).map fun i : Nat => Itm.tok fun t => .int (a₀ + (i : Int)) t) m₀ news) :
    wpAny (model prog w) A (pyIter (.ref r)) (fun it s₂ => TurnsAt prog w A h₀ env target body Q E it s₂) E s := by
  refine wpAny_pyIter_range hr hsmall ?_
  have W : Walks prog w A s.heap.objs.size [s.heap.objs.size] [s.heap.objs.size] n (fun i v => i < n ∧ ∃ t, v = .int (a₀ + i * 1) t)
      (fun i h => IsRangeIter h s.heap.objs.size (a₀ + (i : Nat) * 1) ((n : Int) - (i : Nat)) 1) := (Walks.range hh _ a₀ 1 n).bound
  refine ktu_core (tk0 := s.toks) (keep := []) (KTurns.ofWalks W fun i v s Q E st q => by rw [hgo]; exact wpAny_pure q) (by simp) (fun i v h hp => ?_) (fun i h st => ?_) (fun b hb => ?_) (fun b hb => by simpa using hb) (fun b hb => .inl (by simpa using hb)) ?_ (fun p hp hI => ?_) (by show IsRangeIter _ _ _ _ _; rw [hn]; simpa using Heap.get?_push_size _ rfl) (F.push _) (fun p hp => ⟨Heap.get?_push_of_some _ (N p hp).1, (N p hp).2⟩) trivial (rest₀ _ fun p hp => Heap.lt_size (N p hp).1)
  · obtain ⟨hi, t, rfl⟩ := hp
    exact ⟨Itm.tok fun t => .int (a₀ + (i : Int)) t, by simp [hi], t, by rw [Int.mul_one]⟩
  · exact ⟨[(s.heap.objs.size, _)], ⟨⟨rfl, rfl⟩, trivial⟩, fun p hp => by rw [List.mem_singleton.mp hp]; exact st⟩
  · have hb' : b = s.heap.objs.size := by simpa using hb
    rw [hb']
    exact ⟨List.mem_cons_self .., next_is_new F⟩
  · intro hI
    exact absurd F.ns.lt ((List.mem_singleton.mp hI) ▸ Nat.lt_irrefl _)
  · exact absurd (Heap.lt_size (N p hp).1) ((List.mem_singleton.mp hI) ▸ Nat.lt_irrefl _)
theorem drop_range {n i a : Nat} {r : List Nat} (h : (List.range n).drop i = a :: r) : i < n ∧ a = i ∧ r = (List.range n).drop (i + 1) := by
  have hi : i < n := by
    have := congrArg List.length h
    simp at this
    lia
  rw [List.drop_eq_getElem_cons (by simpa using hi)] at h
  injection h with h1 h2
  exact ⟨hi, by simpa using h1.symm, h2.symm⟩
theorem rangeT_inv {I : Addr} {a : Int} {n : Nat} (J : Nat → LMap → Led → Prop)
    (step : ∀ i m news t (it : Obj) h tk, i < n → J i m news → it.cls = .type "range_iterator" → Fr h₀ env.locals h m → News h₀ env.locals h ((I, it) :: news) →
      wpAny (model prog w) A (assign target env (.int (a + (i : Int)) t)) (fun _ s₂ => wpAny (model prog w) A (execs body env) (UnrPostW h₀ env.locals { s with heap := h, toks := tk } [(I, it)] (fun m' n' => SubL [] n' ∧ J (i + 1) m' n') Q) E s₂) E { s with heap := h, toks := tk })
    (fin : ∀ m news h tk, J n m news → Fr h₀ env.locals h m → News h₀ env.locals h news → Q .next { s with heap := h, toks := tk }) (m : LMap) (news : Led) (h0 : J 0 m news) :
    ItemsRest prog w A E h₀ env target body Q s [(I, "range_iterator")] [] ((List.range n).map fun i : Nat => Itm.tok fun t => .int (a + (i : Int)) t) m news := by
  refine items_inv (fun xs m' n' => ∃ i, i ≤ n ∧ xs = (((List.range n).drop i).map fun i : Nat => Itm.tok fun t => .int (a + (i : Int)) t) ∧ J i m' n') ?_ ?_ _ _ _ ⟨0, Nat.zero_le _, by rw [List.drop_zero], h0⟩
  · rintro it r m' n' v h tk ⟨i, hi, e, hJ⟩ hv F
    cases e2 : (List.range n).drop i with
    | nil => rw [e2] at e; cases e
    | cons x rs =>
      rw [e2] at e
      obtain ⟨h1, h2, h3⟩ := drop_range e2
      subst h2 h3
      obtain ⟨e3, e4⟩ := List.cons.inj e
      subst e3 e4
      obtain ⟨t, rfl⟩ := hv
      refine AllObj.cons (fun oI hcI => AllObj.nil (fun N1 => ?_))
      refine wpAny_mono (step x m' n' t oI h tk h1 hJ hcI F N1) (fun _ s₂ h₂ => wpAny_mono h₂ (fun f s₃ u => unrPostW_mono (fun m'' n'' hq => ⟨hq.1, x + 1, h1, rfl, hq.2⟩) u) fun _ _ e => e) fun _ _ e => e
  · rintro m' n' h tk ⟨i, hi, e, hJ⟩ F N
    have : i = n := by
      have := congrArg List.length e
      simp at this
      lia
    subst this
    exact fin _ _ _ _ hJ F N
end
theorem off1_mem {D : Addr} : ∀ {l : Led}, LCg.Off1 D l → ∀ p ∈ l, p.1 ≠ D
  | [], _, _, h => nomatch h
  | _ :: _, x, p, h => by
    rcases List.mem_cons.mp h with rfl | h
    · exact x.1
    · exact off1_mem x.2 p h
noncomputable abbrev tup (vs : Array Value) (k : Nat) : Obj := { cls := .type "tuple", data := .seq vs k }
theorem tup_led {prog : Program} {w : World} {A : Around} {E : Value → Shared → Prop} {s : Shared} {h₀ : Heap} {L l : Addr} {news : Led} {o : Obj} {vs : Array Value} {n : Nat} {value slice : PySem.Expr} {k : Int} {u : Tok} {v : Value} {Q : Value → Shared → Prop}
    (N : News h₀ L s.heap news) (hm : (l, o) ∈ news) (hc : o.cls = .type "tuple") (hd : o.data = .seq vs n) (h0 : 0 ≤ k) (hhi : k < 2 ^ 63) (hx : vs[k.toNat]? = some v) (h : Q v s)
    (hs : subscripted slice false (.ref l) (.int k u) = operate [.ref l, .int k u] (getItem (.ref l) (.int k u)))
    (hg : ∀ r, letTemporaryGo value (.ref l) r = pure ()) :
    wpAny (model prog w) A (subscriptTail value slice (.ref l) (.int k u)) Q E s := by
  have hl : IsTup s.heap l vs := ⟨o, N.get hm, hc, n, hd⟩
  have hlt : k.toNat < vs.size := by
    rcases Nat.lt_or_ge k.toNat vs.size with h1 | h1
    · exact h1
    · rw [Array.getElem?_eq_none h1] at hx; cases hx
  exact item_tuple hl (by lia) hhi (seqIndex_of h0 (by lia)) hx h hs hg
theorem off1_of {D : Addr} : ∀ {l : Led}, (∀ p ∈ l, p.1 ≠ D) → LCg.Off1 D l
  | [], _ => trivial
  | _ :: _, h => ⟨h _ List.mem_cons_self, off1_of fun p hp => h p (List.mem_cons_of_mem _ hp)⟩
theorem all_snoc {P : Addr × Obj → Prop} {rs ts : Led} {x : Addr × Obj} (h : ∀ q ∈ rs ++ ts, P q) (hx : P x) : ∀ q ∈ rs ++ (ts ++ [x]), P q := fun q hq => by
  simp only [List.mem_append, List.mem_singleton] at hq
  rcases hq with hq | hq | hq
  · exact h q (List.mem_append_left _ hq)
  · exact h q (List.mem_append_right _ hq)
  · rw [hq]; exact hx
theorem all_snoc1 {P : Addr × Obj → Prop} {ts : Led} {x : Addr × Obj} (h : ∀ q ∈ ts, P q) (hx : P x) : ∀ q ∈ ts ++ [x], P q := fun q hq => by
  simp only [List.mem_append, List.mem_singleton] at hq
  rcases hq with hq | hq
  · exact h q hq
  · rw [hq]; exact hx
theorem get_snoc {ts : Led} {x q : Addr × Obj} {j : Nat} (h : (ts ++ [x])[j]? = some q) : (j < ts.length ∧ ts[j]? = some q) ∨ (j = ts.length ∧ q = x) := by
  rcases Nat.lt_or_ge j ts.length with h1 | h1
  · rw [List.getElem?_append_left h1] at h
    exact .inl ⟨h1, h⟩
  · rw [List.getElem?_append_right h1] at h
    cases e : j - ts.length with
    | zero => rw [e] at h; cases h; exact .inr ⟨by lia, rfl⟩
    | succ n => rw [e] at h; simp at h
theorem swap2 {h₀ h : Heap} {L : Addr} {a b : Addr × Obj} {r : Led} (N : News h₀ L h (a :: b :: r)) : News h₀ L h (b :: a :: r) := fun q hq => by
  refine N q ?_
  exact led_use (al_cons (at_tail at_head) (al_cons at_head (in_tail (in_tail in_self)))) hq
theorem item_led {prog : Program} {w : World} {A : Around} {E : Value → Shared → Prop} {s : Shared} {h₀ : Heap} {L l : Addr} {news : Led} {o : Obj} {vs : List Value} {n : Nat} {value slice : PySem.Expr} {k : Int} {u : Tok} {v : Value} {Q : Value → Shared → Prop}
    (N : News h₀ L s.heap news) (hm : (l, o) ∈ news) (hc : o.cls = .type "list") (hd : o.data = .seq vs.toArray n) (h0 : 0 ≤ k) (hhi : k < 2 ^ 63) (hx : vs[k.toNat]? = some v) (h : Q v s)
    (hs : subscripted slice false (.ref l) (.int k u) = operate [.ref l, .int k u] (getItem (.ref l) (.int k u)))
    (hg : ∀ r, letTemporaryGo value (.ref l) r = pure ()) :
    wpAny (model prog w) A (subscriptTail value slice (.ref l) (.int k u)) Q E s :=
  have hl : s.heap.IsList l vs.toArray := ⟨o, N.get hm, hc, n, hd⟩
  tail_any hl.typeIs slot_list_getitem.lookup (wpAny_getItem_list hl h0 hhi (by simpa using hx) h) hs
theorem led_at {P : Addr × Obj → Prop} {l : Led} {q : Addr × Obj} (hq : q ∈ l) (h : ∀ q ∈ l, P q) : P q := h q hq
theorem ex_1 {α1 : Type} {R : α1 → Prop} {G : Prop} (h : ∃ x1, R x1) (g : ∀ x1, R x1 → G) : G :=
  h.elim fun x1 h => g x1 h
theorem mk_1 {α1 : Type} {R : α1 → Prop} (x1 : α1) (h : R x1) : ∃ x1, R x1 :=
  ⟨x1, h⟩
theorem ex_2 {α1 α2 : Type} {R : α1 → α2 → Prop} {G : Prop} (h : ∃ x1 x2, R x1 x2) (g : ∀ x1 x2, R x1 x2 → G) : G :=
  h.elim fun x1 h => h.elim fun x2 h => g x1 x2 h
theorem mk_2 {α1 α2 : Type} {R : α1 → α2 → Prop} (x1 : α1) (x2 : α2) (h : R x1 x2) : ∃ x1 x2, R x1 x2 :=
  ⟨x1, x2, h⟩
theorem ex_3 {α1 α2 α3 : Type} {R : α1 → α2 → α3 → Prop} {G : Prop} (h : ∃ x1 x2 x3, R x1 x2 x3) (g : ∀ x1 x2 x3, R x1 x2 x3 → G) : G :=
  h.elim fun x1 h => h.elim fun x2 h => h.elim fun x3 h => g x1 x2 x3 h
theorem mk_3 {α1 α2 α3 : Type} {R : α1 → α2 → α3 → Prop} (x1 : α1) (x2 : α2) (x3 : α3) (h : R x1 x2 x3) : ∃ x1 x2 x3, R x1 x2 x3 :=
  ⟨x1, x2, x3, h⟩
theorem ex_4 {α1 α2 α3 α4 : Type} {R : α1 → α2 → α3 → α4 → Prop} {G : Prop} (h : ∃ x1 x2 x3 x4, R x1 x2 x3 x4) (g : ∀ x1 x2 x3 x4, R x1 x2 x3 x4 → G) : G :=
  h.elim fun x1 h => h.elim fun x2 h => h.elim fun x3 h => h.elim fun x4 h => g x1 x2 x3 x4 h
theorem mk_4 {α1 α2 α3 α4 : Type} {R : α1 → α2 → α3 → α4 → Prop} (x1 : α1) (x2 : α2) (x3 : α3) (x4 : α4) (h : R x1 x2 x3 x4) : ∃ x1 x2 x3 x4, R x1 x2 x3 x4 :=
  ⟨x1, x2, x3, x4, h⟩
theorem ex_5 {α1 α2 α3 α4 α5 : Type} {R : α1 → α2 → α3 → α4 → α5 → Prop} {G : Prop} (h : ∃ x1 x2 x3 x4 x5, R x1 x2 x3 x4 x5) (g : ∀ x1 x2 x3 x4 x5, R x1 x2 x3 x4 x5 → G) : G :=
  h.elim fun x1 h => h.elim fun x2 h => h.elim fun x3 h => h.elim fun x4 h => h.elim fun x5 h => g x1 x2 x3 x4 x5 h
theorem mk_5 {α1 α2 α3 α4 α5 : Type} {R : α1 → α2 → α3 → α4 → α5 → Prop} (x1 : α1) (x2 : α2) (x3 : α3) (x4 : α4) (x5 : α5) (h : R x1 x2 x3 x4 x5) : ∃ x1 x2 x3 x4 x5, R x1 x2 x3 x4 x5 :=
  ⟨x1, x2, x3, x4, x5, h⟩
theorem ex_6 {α1 α2 α3 α4 α5 α6 : Type} {R : α1 → α2 → α3 → α4 → α5 → α6 → Prop} {G : Prop} (h : ∃ x1 x2 x3 x4 x5 x6, R x1 x2 x3 x4 x5 x6) (g : ∀ x1 x2 x3 x4 x5 x6, R x1 x2 x3 x4 x5 x6 → G) : G :=
  h.elim fun x1 h => h.elim fun x2 h => h.elim fun x3 h => h.elim fun x4 h => h.elim fun x5 h => h.elim fun x6 h => g x1 x2 x3 x4 x5 x6 h
theorem mk_6 {α1 α2 α3 α4 α5 α6 : Type} {R : α1 → α2 → α3 → α4 → α5 → α6 → Prop} (x1 : α1) (x2 : α2) (x3 : α3) (x4 : α4) (x5 : α5) (x6 : α6) (h : R x1 x2 x3 x4 x5 x6) : ∃ x1 x2 x3 x4 x5 x6, R x1 x2 x3 x4 x5 x6 :=
  ⟨x1, x2, x3, x4, x5, x6, h⟩
theorem ex_7 {α1 α2 α3 α4 α5 α6 α7 : Type} {R : α1 → α2 → α3 → α4 → α5 → α6 → α7 → Prop} {G : Prop} (h : ∃ x1 x2 x3 x4 x5 x6 x7, R x1 x2 x3 x4 x5 x6 x7) (g : ∀ x1 x2 x3 x4 x5 x6 x7, R x1 x2 x3 x4 x5 x6 x7 → G) : G :=
  h.elim fun x1 h => h.elim fun x2 h => h.elim fun x3 h => h.elim fun x4 h => h.elim fun x5 h => h.elim fun x6 h => h.elim fun x7 h => g x1 x2 x3 x4 x5 x6 x7 h
theorem mk_7 {α1 α2 α3 α4 α5 α6 α7 : Type} {R : α1 → α2 → α3 → α4 → α5 → α6 → α7 → Prop} (x1 : α1) (x2 : α2) (x3 : α3) (x4 : α4) (x5 : α5) (x6 : α6) (x7 : α7) (h : R x1 x2 x3 x4 x5 x6 x7) : ∃ x1 x2 x3 x4 x5 x6 x7, R x1 x2 x3 x4 x5 x6 x7 :=
  ⟨x1, x2, x3, x4, x5, x6, x7, h⟩
theorem ex_8 {α1 α2 α3 α4 α5 α6 α7 α8 : Type} {R : α1 → α2 → α3 → α4 → α5 → α6 → α7 → α8 → Prop} {G : Prop} (h : ∃ x1 x2 x3 x4 x5 x6 x7 x8, R x1 x2 x3 x4 x5 x6 x7 x8) (g : ∀ x1 x2 x3 x4 x5 x6 x7 x8, R x1 x2 x3 x4 x5 x6 x7 x8 → G) : G :=
  h.elim fun x1 h => h.elim fun x2 h => h.elim fun x3 h => h.elim fun x4 h => h.elim fun x5 h => h.elim fun x6 h => h.elim fun x7 h => h.elim fun x8 h => g x1 x2 x3 x4 x5 x6 x7 x8 h
theorem mk_8 {α1 α2 α3 α4 α5 α6 α7 α8 : Type} {R : α1 → α2 → α3 → α4 → α5 → α6 → α7 → α8 → Prop} (x1 : α1) (x2 : α2) (x3 : α3) (x4 : α4) (x5 : α5) (x6 : α6) (x7 : α7) (x8 : α8) (h : R x1 x2 x3 x4 x5 x6 x7 x8) : ∃ x1 x2 x3 x4 x5 x6 x7 x8, R x1 x2 x3 x4 x5 x6 x7 x8 :=
  ⟨x1, x2, x3, x4, x5, x6, x7, x8, h⟩
theorem exs_0_1 {σ : Type} {F : σ} {P1 : Prop} {G : σ → Prop} {s : σ} (h : s = F  ∧ P1 ) (g : P1  → G F) : G s :=
  h.1.symm ▸ g h.2
theorem exs_1_2 {α1 σ : Type} {F : α1 → σ} {P1 P2 : α1 → Prop} {G : σ → Prop} {s : σ} (h : ∃ x1, s = F x1 ∧ P1 x1 ∧ P2 x1) (g : ∀ x1, P1 x1 → P2 x1 → G (F x1)) : G s :=
  ex_1 h fun x1 h => h.1.symm ▸ g x1 h.2.1 h.2.2
theorem mks_1_2 {α1 σ : Type} {F : α1 → σ} {P1 P2 : α1 → Prop} {s : σ} (x1 : α1) (h0 : s = F x1) (h1 : P1 x1) (h2 : P2 x1) : ∃ x1, s = F x1 ∧ P1 x1 ∧ P2 x1 :=
  mk_1 x1 ⟨h0, h1, h2⟩
theorem exs_1_3 {α1 σ : Type} {F : α1 → σ} {P1 P2 P3 : α1 → Prop} {G : σ → Prop} {s : σ} (h : ∃ x1, s = F x1 ∧ P1 x1 ∧ P2 x1 ∧ P3 x1) (g : ∀ x1, P1 x1 → P2 x1 → P3 x1 → G (F x1)) : G s :=
  ex_1 h fun x1 h => h.1.symm ▸ g x1 h.2.1 h.2.2.1 h.2.2.2
theorem mks_1_3 {α1 σ : Type} {F : α1 → σ} {P1 P2 P3 : α1 → Prop} {s : σ} (x1 : α1) (h0 : s = F x1) (h1 : P1 x1) (h2 : P2 x1) (h3 : P3 x1) : ∃ x1, s = F x1 ∧ P1 x1 ∧ P2 x1 ∧ P3 x1 :=
  mk_1 x1 ⟨h0, h1, h2, h3⟩
theorem exs_1_4 {α1 σ : Type} {F : α1 → σ} {P1 P2 P3 P4 : α1 → Prop} {G : σ → Prop} {s : σ} (h : ∃ x1, s = F x1 ∧ P1 x1 ∧ P2 x1 ∧ P3 x1 ∧ P4 x1) (g : ∀ x1, P1 x1 → P2 x1 → P3 x1 → P4 x1 → G (F x1)) : G s :=
  ex_1 h fun x1 h => h.1.symm ▸ g x1 h.2.1 h.2.2.1 h.2.2.2.1 h.2.2.2.2
theorem mks_1_4 {α1 σ : Type} {F : α1 → σ} {P1 P2 P3 P4 : α1 → Prop} {s : σ} (x1 : α1) (h0 : s = F x1) (h1 : P1 x1) (h2 : P2 x1) (h3 : P3 x1) (h4 : P4 x1) : ∃ x1, s = F x1 ∧ P1 x1 ∧ P2 x1 ∧ P3 x1 ∧ P4 x1 :=
  mk_1 x1 ⟨h0, h1, h2, h3, h4⟩
theorem exs_1_5 {α1 σ : Type} {F : α1 → σ} {P1 P2 P3 P4 P5 : α1 → Prop} {G : σ → Prop} {s : σ} (h : ∃ x1, s = F x1 ∧ P1 x1 ∧ P2 x1 ∧ P3 x1 ∧ P4 x1 ∧ P5 x1) (g : ∀ x1, P1 x1 → P2 x1 → P3 x1 → P4 x1 → P5 x1 → G (F x1)) : G s :=
  ex_1 h fun x1 h => h.1.symm ▸ g x1 h.2.1 h.2.2.1 h.2.2.2.1 h.2.2.2.2.1 h.2.2.2.2.2
theorem mks_1_5 {α1 σ : Type} {F : α1 → σ} {P1 P2 P3 P4 P5 : α1 → Prop} {s : σ} (x1 : α1) (h0 : s = F x1) (h1 : P1 x1) (h2 : P2 x1) (h3 : P3 x1) (h4 : P4 x1) (h5 : P5 x1) : ∃ x1, s = F x1 ∧ P1 x1 ∧ P2 x1 ∧ P3 x1 ∧ P4 x1 ∧ P5 x1 :=
  mk_1 x1 ⟨h0, h1, h2, h3, h4, h5⟩
theorem exs_2_3 {α1 α2 σ : Type} {F : α1 → α2 → σ} {P1 P2 P3 : α1 → α2 → Prop} {G : σ → Prop} {s : σ} (h : ∃ x1 x2, s = F x1 x2 ∧ P1 x1 x2 ∧ P2 x1 x2 ∧ P3 x1 x2) (g : ∀ x1 x2, P1 x1 x2 → P2 x1 x2 → P3 x1 x2 → G (F x1 x2)) : G s :=
  ex_2 h fun x1 x2 h => h.1.symm ▸ g x1 x2 h.2.1 h.2.2.1 h.2.2.2
theorem mks_2_3 {α1 α2 σ : Type} {F : α1 → α2 → σ} {P1 P2 P3 : α1 → α2 → Prop} {s : σ} (x1 : α1) (x2 : α2) (h0 : s = F x1 x2) (h1 : P1 x1 x2) (h2 : P2 x1 x2) (h3 : P3 x1 x2) : ∃ x1 x2, s = F x1 x2 ∧ P1 x1 x2 ∧ P2 x1 x2 ∧ P3 x1 x2 :=
  mk_2 x1 x2 ⟨h0, h1, h2, h3⟩
theorem exs_2_6 {α1 α2 σ : Type} {F : α1 → α2 → σ} {P1 P2 P3 P4 P5 P6 : α1 → α2 → Prop} {G : σ → Prop} {s : σ} (h : ∃ x1 x2, s = F x1 x2 ∧ P1 x1 x2 ∧ P2 x1 x2 ∧ P3 x1 x2 ∧ P4 x1 x2 ∧ P5 x1 x2 ∧ P6 x1 x2) (g : ∀ x1 x2, P1 x1 x2 → P2 x1 x2 → P3 x1 x2 → P4 x1 x2 → P5 x1 x2 → P6 x1 x2 → G (F x1 x2)) : G s :=
  ex_2 h fun x1 x2 h => h.1.symm ▸ g x1 x2 h.2.1 h.2.2.1 h.2.2.2.1 h.2.2.2.2.1 h.2.2.2.2.2.1 h.2.2.2.2.2.2
theorem mks_2_6 {α1 α2 σ : Type} {F : α1 → α2 → σ} {P1 P2 P3 P4 P5 P6 : α1 → α2 → Prop} {s : σ} (x1 : α1) (x2 : α2) (h0 : s = F x1 x2) (h1 : P1 x1 x2) (h2 : P2 x1 x2) (h3 : P3 x1 x2) (h4 : P4 x1 x2) (h5 : P5 x1 x2) (h6 : P6 x1 x2) : ∃ x1 x2, s = F x1 x2 ∧ P1 x1 x2 ∧ P2 x1 x2 ∧ P3 x1 x2 ∧ P4 x1 x2 ∧ P5 x1 x2 ∧ P6 x1 x2 :=
  mk_2 x1 x2 ⟨h0, h1, h2, h3, h4, h5, h6⟩
theorem exs_3_2 {α1 α2 α3 σ : Type} {F : α1 → α2 → α3 → σ} {P1 P2 : α1 → α2 → α3 → Prop} {G : σ → Prop} {s : σ} (h : ∃ x1 x2 x3, s = F x1 x2 x3 ∧ P1 x1 x2 x3 ∧ P2 x1 x2 x3) (g : ∀ x1 x2 x3, P1 x1 x2 x3 → P2 x1 x2 x3 → G (F x1 x2 x3)) : G s :=
  ex_3 h fun x1 x2 x3 h => h.1.symm ▸ g x1 x2 x3 h.2.1 h.2.2
theorem mks_3_2 {α1 α2 α3 σ : Type} {F : α1 → α2 → α3 → σ} {P1 P2 : α1 → α2 → α3 → Prop} {s : σ} (x1 : α1) (x2 : α2) (x3 : α3) (h0 : s = F x1 x2 x3) (h1 : P1 x1 x2 x3) (h2 : P2 x1 x2 x3) : ∃ x1 x2 x3, s = F x1 x2 x3 ∧ P1 x1 x2 x3 ∧ P2 x1 x2 x3 :=
  mk_3 x1 x2 x3 ⟨h0, h1, h2⟩
theorem exs_3_3 {α1 α2 α3 σ : Type} {F : α1 → α2 → α3 → σ} {P1 P2 P3 : α1 → α2 → α3 → Prop} {G : σ → Prop} {s : σ} (h : ∃ x1 x2 x3, s = F x1 x2 x3 ∧ P1 x1 x2 x3 ∧ P2 x1 x2 x3 ∧ P3 x1 x2 x3) (g : ∀ x1 x2 x3, P1 x1 x2 x3 → P2 x1 x2 x3 → P3 x1 x2 x3 → G (F x1 x2 x3)) : G s :=
  ex_3 h fun x1 x2 x3 h => h.1.symm ▸ g x1 x2 x3 h.2.1 h.2.2.1 h.2.2.2
theorem mks_3_3 {α1 α2 α3 σ : Type} {F : α1 → α2 → α3 → σ} {P1 P2 P3 : α1 → α2 → α3 → Prop} {s : σ} (x1 : α1) (x2 : α2) (x3 : α3) (h0 : s = F x1 x2 x3) (h1 : P1 x1 x2 x3) (h2 : P2 x1 x2 x3) (h3 : P3 x1 x2 x3) : ∃ x1 x2 x3, s = F x1 x2 x3 ∧ P1 x1 x2 x3 ∧ P2 x1 x2 x3 ∧ P3 x1 x2 x3 :=
  mk_3 x1 x2 x3 ⟨h0, h1, h2, h3⟩
theorem exs_3_4 {α1 α2 α3 σ : Type} {F : α1 → α2 → α3 → σ} {P1 P2 P3 P4 : α1 → α2 → α3 → Prop} {G : σ → Prop} {s : σ} (h : ∃ x1 x2 x3, s = F x1 x2 x3 ∧ P1 x1 x2 x3 ∧ P2 x1 x2 x3 ∧ P3 x1 x2 x3 ∧ P4 x1 x2 x3) (g : ∀ x1 x2 x3, P1 x1 x2 x3 → P2 x1 x2 x3 → P3 x1 x2 x3 → P4 x1 x2 x3 → G (F x1 x2 x3)) : G s :=
  ex_3 h fun x1 x2 x3 h => h.1.symm ▸ g x1 x2 x3 h.2.1 h.2.2.1 h.2.2.2.1 h.2.2.2.2
theorem mks_3_4 {α1 α2 α3 σ : Type} {F : α1 → α2 → α3 → σ} {P1 P2 P3 P4 : α1 → α2 → α3 → Prop} {s : σ} (x1 : α1) (x2 : α2) (x3 : α3) (h0 : s = F x1 x2 x3) (h1 : P1 x1 x2 x3) (h2 : P2 x1 x2 x3) (h3 : P3 x1 x2 x3) (h4 : P4 x1 x2 x3) : ∃ x1 x2 x3, s = F x1 x2 x3 ∧ P1 x1 x2 x3 ∧ P2 x1 x2 x3 ∧ P3 x1 x2 x3 ∧ P4 x1 x2 x3 :=
  mk_3 x1 x2 x3 ⟨h0, h1, h2, h3, h4⟩
theorem exs_3_5 {α1 α2 α3 σ : Type} {F : α1 → α2 → α3 → σ} {P1 P2 P3 P4 P5 : α1 → α2 → α3 → Prop} {G : σ → Prop} {s : σ} (h : ∃ x1 x2 x3, s = F x1 x2 x3 ∧ P1 x1 x2 x3 ∧ P2 x1 x2 x3 ∧ P3 x1 x2 x3 ∧ P4 x1 x2 x3 ∧ P5 x1 x2 x3) (g : ∀ x1 x2 x3, P1 x1 x2 x3 → P2 x1 x2 x3 → P3 x1 x2 x3 → P4 x1 x2 x3 → P5 x1 x2 x3 → G (F x1 x2 x3)) : G s :=
  ex_3 h fun x1 x2 x3 h => h.1.symm ▸ g x1 x2 x3 h.2.1 h.2.2.1 h.2.2.2.1 h.2.2.2.2.1 h.2.2.2.2.2
theorem mks_3_5 {α1 α2 α3 σ : Type} {F : α1 → α2 → α3 → σ} {P1 P2 P3 P4 P5 : α1 → α2 → α3 → Prop} {s : σ} (x1 : α1) (x2 : α2) (x3 : α3) (h0 : s = F x1 x2 x3) (h1 : P1 x1 x2 x3) (h2 : P2 x1 x2 x3) (h3 : P3 x1 x2 x3) (h4 : P4 x1 x2 x3) (h5 : P5 x1 x2 x3) : ∃ x1 x2 x3, s = F x1 x2 x3 ∧ P1 x1 x2 x3 ∧ P2 x1 x2 x3 ∧ P3 x1 x2 x3 ∧ P4 x1 x2 x3 ∧ P5 x1 x2 x3 :=
  mk_3 x1 x2 x3 ⟨h0, h1, h2, h3, h4, h5⟩
theorem exs_4_3 {α1 α2 α3 α4 σ : Type} {F : α1 → α2 → α3 → α4 → σ} {P1 P2 P3 : α1 → α2 → α3 → α4 → Prop} {G : σ → Prop} {s : σ} (h : ∃ x1 x2 x3 x4, s = F x1 x2 x3 x4 ∧ P1 x1 x2 x3 x4 ∧ P2 x1 x2 x3 x4 ∧ P3 x1 x2 x3 x4) (g : ∀ x1 x2 x3 x4, P1 x1 x2 x3 x4 → P2 x1 x2 x3 x4 → P3 x1 x2 x3 x4 → G (F x1 x2 x3 x4)) : G s :=
  ex_4 h fun x1 x2 x3 x4 h => h.1.symm ▸ g x1 x2 x3 x4 h.2.1 h.2.2.1 h.2.2.2
theorem mks_4_3 {α1 α2 α3 α4 σ : Type} {F : α1 → α2 → α3 → α4 → σ} {P1 P2 P3 : α1 → α2 → α3 → α4 → Prop} {s : σ} (x1 : α1) (x2 : α2) (x3 : α3) (x4 : α4) (h0 : s = F x1 x2 x3 x4) (h1 : P1 x1 x2 x3 x4) (h2 : P2 x1 x2 x3 x4) (h3 : P3 x1 x2 x3 x4) : ∃ x1 x2 x3 x4, s = F x1 x2 x3 x4 ∧ P1 x1 x2 x3 x4 ∧ P2 x1 x2 x3 x4 ∧ P3 x1 x2 x3 x4 :=
  mk_4 x1 x2 x3 x4 ⟨h0, h1, h2, h3⟩
theorem exs_4_5 {α1 α2 α3 α4 σ : Type} {F : α1 → α2 → α3 → α4 → σ} {P1 P2 P3 P4 P5 : α1 → α2 → α3 → α4 → Prop} {G : σ → Prop} {s : σ} (h : ∃ x1 x2 x3 x4, s = F x1 x2 x3 x4 ∧ P1 x1 x2 x3 x4 ∧ P2 x1 x2 x3 x4 ∧ P3 x1 x2 x3 x4 ∧ P4 x1 x2 x3 x4 ∧ P5 x1 x2 x3 x4) (g : ∀ x1 x2 x3 x4, P1 x1 x2 x3 x4 → P2 x1 x2 x3 x4 → P3 x1 x2 x3 x4 → P4 x1 x2 x3 x4 → P5 x1 x2 x3 x4 → G (F x1 x2 x3 x4)) : G s :=
  ex_4 h fun x1 x2 x3 x4 h => h.1.symm ▸ g x1 x2 x3 x4 h.2.1 h.2.2.1 h.2.2.2.1 h.2.2.2.2.1 h.2.2.2.2.2
theorem mks_4_5 {α1 α2 α3 α4 σ : Type} {F : α1 → α2 → α3 → α4 → σ} {P1 P2 P3 P4 P5 : α1 → α2 → α3 → α4 → Prop} {s : σ} (x1 : α1) (x2 : α2) (x3 : α3) (x4 : α4) (h0 : s = F x1 x2 x3 x4) (h1 : P1 x1 x2 x3 x4) (h2 : P2 x1 x2 x3 x4) (h3 : P3 x1 x2 x3 x4) (h4 : P4 x1 x2 x3 x4) (h5 : P5 x1 x2 x3 x4) : ∃ x1 x2 x3 x4, s = F x1 x2 x3 x4 ∧ P1 x1 x2 x3 x4 ∧ P2 x1 x2 x3 x4 ∧ P3 x1 x2 x3 x4 ∧ P4 x1 x2 x3 x4 ∧ P5 x1 x2 x3 x4 :=
  mk_4 x1 x2 x3 x4 ⟨h0, h1, h2, h3, h4, h5⟩
theorem exs_4_8 {α1 α2 α3 α4 σ : Type} {F : α1 → α2 → α3 → α4 → σ} {P1 P2 P3 P4 P5 P6 P7 P8 : α1 → α2 → α3 → α4 → Prop} {G : σ → Prop} {s : σ} (h : ∃ x1 x2 x3 x4, s = F x1 x2 x3 x4 ∧ P1 x1 x2 x3 x4 ∧ P2 x1 x2 x3 x4 ∧ P3 x1 x2 x3 x4 ∧ P4 x1 x2 x3 x4 ∧ P5 x1 x2 x3 x4 ∧ P6 x1 x2 x3 x4 ∧ P7 x1 x2 x3 x4 ∧ P8 x1 x2 x3 x4) (g : ∀ x1 x2 x3 x4, P1 x1 x2 x3 x4 → P2 x1 x2 x3 x4 → P3 x1 x2 x3 x4 → P4 x1 x2 x3 x4 → P5 x1 x2 x3 x4 → P6 x1 x2 x3 x4 → P7 x1 x2 x3 x4 → P8 x1 x2 x3 x4 → G (F x1 x2 x3 x4)) : G s :=
  ex_4 h fun x1 x2 x3 x4 h => h.1.symm ▸ g x1 x2 x3 x4 h.2.1 h.2.2.1 h.2.2.2.1 h.2.2.2.2.1 h.2.2.2.2.2.1 h.2.2.2.2.2.2.1 h.2.2.2.2.2.2.2.1 h.2.2.2.2.2.2.2.2
theorem mks_4_8 {α1 α2 α3 α4 σ : Type} {F : α1 → α2 → α3 → α4 → σ} {P1 P2 P3 P4 P5 P6 P7 P8 : α1 → α2 → α3 → α4 → Prop} {s : σ} (x1 : α1) (x2 : α2) (x3 : α3) (x4 : α4) (h0 : s = F x1 x2 x3 x4) (h1 : P1 x1 x2 x3 x4) (h2 : P2 x1 x2 x3 x4) (h3 : P3 x1 x2 x3 x4) (h4 : P4 x1 x2 x3 x4) (h5 : P5 x1 x2 x3 x4) (h6 : P6 x1 x2 x3 x4) (h7 : P7 x1 x2 x3 x4) (h8 : P8 x1 x2 x3 x4) : ∃ x1 x2 x3 x4, s = F x1 x2 x3 x4 ∧ P1 x1 x2 x3 x4 ∧ P2 x1 x2 x3 x4 ∧ P3 x1 x2 x3 x4 ∧ P4 x1 x2 x3 x4 ∧ P5 x1 x2 x3 x4 ∧ P6 x1 x2 x3 x4 ∧ P7 x1 x2 x3 x4 ∧ P8 x1 x2 x3 x4 :=
  mk_4 x1 x2 x3 x4 ⟨h0, h1, h2, h3, h4, h5, h6, h7, h8⟩
theorem exs_4_9 {α1 α2 α3 α4 σ : Type} {F : α1 → α2 → α3 → α4 → σ} {P1 P2 P3 P4 P5 P6 P7 P8 P9 : α1 → α2 → α3 → α4 → Prop} {G : σ → Prop} {s : σ} (h : ∃ x1 x2 x3 x4, s = F x1 x2 x3 x4 ∧ P1 x1 x2 x3 x4 ∧ P2 x1 x2 x3 x4 ∧ P3 x1 x2 x3 x4 ∧ P4 x1 x2 x3 x4 ∧ P5 x1 x2 x3 x4 ∧ P6 x1 x2 x3 x4 ∧ P7 x1 x2 x3 x4 ∧ P8 x1 x2 x3 x4 ∧ P9 x1 x2 x3 x4) (g : ∀ x1 x2 x3 x4, P1 x1 x2 x3 x4 → P2 x1 x2 x3 x4 → P3 x1 x2 x3 x4 → P4 x1 x2 x3 x4 → P5 x1 x2 x3 x4 → P6 x1 x2 x3 x4 → P7 x1 x2 x3 x4 → P8 x1 x2 x3 x4 → P9 x1 x2 x3 x4 → G (F x1 x2 x3 x4)) : G s :=
  ex_4 h fun x1 x2 x3 x4 h => h.1.symm ▸ g x1 x2 x3 x4 h.2.1 h.2.2.1 h.2.2.2.1 h.2.2.2.2.1 h.2.2.2.2.2.1 h.2.2.2.2.2.2.1 h.2.2.2.2.2.2.2.1 h.2.2.2.2.2.2.2.2.1 h.2.2.2.2.2.2.2.2.2
theorem mks_4_9 {α1 α2 α3 α4 σ : Type} {F : α1 → α2 → α3 → α4 → σ} {P1 P2 P3 P4 P5 P6 P7 P8 P9 : α1 → α2 → α3 → α4 → Prop} {s : σ} (x1 : α1) (x2 : α2) (x3 : α3) (x4 : α4) (h0 : s = F x1 x2 x3 x4) (h1 : P1 x1 x2 x3 x4) (h2 : P2 x1 x2 x3 x4) (h3 : P3 x1 x2 x3 x4) (h4 : P4 x1 x2 x3 x4) (h5 : P5 x1 x2 x3 x4) (h6 : P6 x1 x2 x3 x4) (h7 : P7 x1 x2 x3 x4) (h8 : P8 x1 x2 x3 x4) (h9 : P9 x1 x2 x3 x4) : ∃ x1 x2 x3 x4, s = F x1 x2 x3 x4 ∧ P1 x1 x2 x3 x4 ∧ P2 x1 x2 x3 x4 ∧ P3 x1 x2 x3 x4 ∧ P4 x1 x2 x3 x4 ∧ P5 x1 x2 x3 x4 ∧ P6 x1 x2 x3 x4 ∧ P7 x1 x2 x3 x4 ∧ P8 x1 x2 x3 x4 ∧ P9 x1 x2 x3 x4 :=
  mk_4 x1 x2 x3 x4 ⟨h0, h1, h2, h3, h4, h5, h6, h7, h8, h9⟩
theorem exs_5_4 {α1 α2 α3 α4 α5 σ : Type} {F : α1 → α2 → α3 → α4 → α5 → σ} {P1 P2 P3 P4 : α1 → α2 → α3 → α4 → α5 → Prop} {G : σ → Prop} {s : σ} (h : ∃ x1 x2 x3 x4 x5, s = F x1 x2 x3 x4 x5 ∧ P1 x1 x2 x3 x4 x5 ∧ P2 x1 x2 x3 x4 x5 ∧ P3 x1 x2 x3 x4 x5 ∧ P4 x1 x2 x3 x4 x5) (g : ∀ x1 x2 x3 x4 x5, P1 x1 x2 x3 x4 x5 → P2 x1 x2 x3 x4 x5 → P3 x1 x2 x3 x4 x5 → P4 x1 x2 x3 x4 x5 → G (F x1 x2 x3 x4 x5)) : G s :=
  ex_5 h fun x1 x2 x3 x4 x5 h => h.1.symm ▸ g x1 x2 x3 x4 x5 h.2.1 h.2.2.1 h.2.2.2.1 h.2.2.2.2
theorem mks_5_4 {α1 α2 α3 α4 α5 σ : Type} {F : α1 → α2 → α3 → α4 → α5 → σ} {P1 P2 P3 P4 : α1 → α2 → α3 → α4 → α5 → Prop} {s : σ} (x1 : α1) (x2 : α2) (x3 : α3) (x4 : α4) (x5 : α5) (h0 : s = F x1 x2 x3 x4 x5) (h1 : P1 x1 x2 x3 x4 x5) (h2 : P2 x1 x2 x3 x4 x5) (h3 : P3 x1 x2 x3 x4 x5) (h4 : P4 x1 x2 x3 x4 x5) : ∃ x1 x2 x3 x4 x5, s = F x1 x2 x3 x4 x5 ∧ P1 x1 x2 x3 x4 x5 ∧ P2 x1 x2 x3 x4 x5 ∧ P3 x1 x2 x3 x4 x5 ∧ P4 x1 x2 x3 x4 x5 :=
  mk_5 x1 x2 x3 x4 x5 ⟨h0, h1, h2, h3, h4⟩
theorem exs_5_5 {α1 α2 α3 α4 α5 σ : Type} {F : α1 → α2 → α3 → α4 → α5 → σ} {P1 P2 P3 P4 P5 : α1 → α2 → α3 → α4 → α5 → Prop} {G : σ → Prop} {s : σ} (h : ∃ x1 x2 x3 x4 x5, s = F x1 x2 x3 x4 x5 ∧ P1 x1 x2 x3 x4 x5 ∧ P2 x1 x2 x3 x4 x5 ∧ P3 x1 x2 x3 x4 x5 ∧ P4 x1 x2 x3 x4 x5 ∧ P5 x1 x2 x3 x4 x5) (g : ∀ x1 x2 x3 x4 x5, P1 x1 x2 x3 x4 x5 → P2 x1 x2 x3 x4 x5 → P3 x1 x2 x3 x4 x5 → P4 x1 x2 x3 x4 x5 → P5 x1 x2 x3 x4 x5 → G (F x1 x2 x3 x4 x5)) : G s :=
  ex_5 h fun x1 x2 x3 x4 x5 h => h.1.symm ▸ g x1 x2 x3 x4 x5 h.2.1 h.2.2.1 h.2.2.2.1 h.2.2.2.2.1 h.2.2.2.2.2
theorem mks_5_5 {α1 α2 α3 α4 α5 σ : Type} {F : α1 → α2 → α3 → α4 → α5 → σ} {P1 P2 P3 P4 P5 : α1 → α2 → α3 → α4 → α5 → Prop} {s : σ} (x1 : α1) (x2 : α2) (x3 : α3) (x4 : α4) (x5 : α5) (h0 : s = F x1 x2 x3 x4 x5) (h1 : P1 x1 x2 x3 x4 x5) (h2 : P2 x1 x2 x3 x4 x5) (h3 : P3 x1 x2 x3 x4 x5) (h4 : P4 x1 x2 x3 x4 x5) (h5 : P5 x1 x2 x3 x4 x5) : ∃ x1 x2 x3 x4 x5, s = F x1 x2 x3 x4 x5 ∧ P1 x1 x2 x3 x4 x5 ∧ P2 x1 x2 x3 x4 x5 ∧ P3 x1 x2 x3 x4 x5 ∧ P4 x1 x2 x3 x4 x5 ∧ P5 x1 x2 x3 x4 x5 :=
  mk_5 x1 x2 x3 x4 x5 ⟨h0, h1, h2, h3, h4, h5⟩
theorem exs_6_3 {α1 α2 α3 α4 α5 α6 σ : Type} {F : α1 → α2 → α3 → α4 → α5 → α6 → σ} {P1 P2 P3 : α1 → α2 → α3 → α4 → α5 → α6 → Prop} {G : σ → Prop} {s : σ} (h : ∃ x1 x2 x3 x4 x5 x6, s = F x1 x2 x3 x4 x5 x6 ∧ P1 x1 x2 x3 x4 x5 x6 ∧ P2 x1 x2 x3 x4 x5 x6 ∧ P3 x1 x2 x3 x4 x5 x6) (g : ∀ x1 x2 x3 x4 x5 x6, P1 x1 x2 x3 x4 x5 x6 → P2 x1 x2 x3 x4 x5 x6 → P3 x1 x2 x3 x4 x5 x6 → G (F x1 x2 x3 x4 x5 x6)) : G s :=
  ex_6 h fun x1 x2 x3 x4 x5 x6 h => h.1.symm ▸ g x1 x2 x3 x4 x5 x6 h.2.1 h.2.2.1 h.2.2.2
theorem mks_6_3 {α1 α2 α3 α4 α5 α6 σ : Type} {F : α1 → α2 → α3 → α4 → α5 → α6 → σ} {P1 P2 P3 : α1 → α2 → α3 → α4 → α5 → α6 → Prop} {s : σ} (x1 : α1) (x2 : α2) (x3 : α3) (x4 : α4) (x5 : α5) (x6 : α6) (h0 : s = F x1 x2 x3 x4 x5 x6) (h1 : P1 x1 x2 x3 x4 x5 x6) (h2 : P2 x1 x2 x3 x4 x5 x6) (h3 : P3 x1 x2 x3 x4 x5 x6) : ∃ x1 x2 x3 x4 x5 x6, s = F x1 x2 x3 x4 x5 x6 ∧ P1 x1 x2 x3 x4 x5 x6 ∧ P2 x1 x2 x3 x4 x5 x6 ∧ P3 x1 x2 x3 x4 x5 x6 :=
  mk_6 x1 x2 x3 x4 x5 x6 ⟨h0, h1, h2, h3⟩
theorem exs_6_5 {α1 α2 α3 α4 α5 α6 σ : Type} {F : α1 → α2 → α3 → α4 → α5 → α6 → σ} {P1 P2 P3 P4 P5 : α1 → α2 → α3 → α4 → α5 → α6 → Prop} {G : σ → Prop} {s : σ} (h : ∃ x1 x2 x3 x4 x5 x6, s = F x1 x2 x3 x4 x5 x6 ∧ P1 x1 x2 x3 x4 x5 x6 ∧ P2 x1 x2 x3 x4 x5 x6 ∧ P3 x1 x2 x3 x4 x5 x6 ∧ P4 x1 x2 x3 x4 x5 x6 ∧ P5 x1 x2 x3 x4 x5 x6) (g : ∀ x1 x2 x3 x4 x5 x6, P1 x1 x2 x3 x4 x5 x6 → P2 x1 x2 x3 x4 x5 x6 → P3 x1 x2 x3 x4 x5 x6 → P4 x1 x2 x3 x4 x5 x6 → P5 x1 x2 x3 x4 x5 x6 → G (F x1 x2 x3 x4 x5 x6)) : G s :=
  ex_6 h fun x1 x2 x3 x4 x5 x6 h => h.1.symm ▸ g x1 x2 x3 x4 x5 x6 h.2.1 h.2.2.1 h.2.2.2.1 h.2.2.2.2.1 h.2.2.2.2.2
theorem mks_6_5 {α1 α2 α3 α4 α5 α6 σ : Type} {F : α1 → α2 → α3 → α4 → α5 → α6 → σ} {P1 P2 P3 P4 P5 : α1 → α2 → α3 → α4 → α5 → α6 → Prop} {s : σ} (x1 : α1) (x2 : α2) (x3 : α3) (x4 : α4) (x5 : α5) (x6 : α6) (h0 : s = F x1 x2 x3 x4 x5 x6) (h1 : P1 x1 x2 x3 x4 x5 x6) (h2 : P2 x1 x2 x3 x4 x5 x6) (h3 : P3 x1 x2 x3 x4 x5 x6) (h4 : P4 x1 x2 x3 x4 x5 x6) (h5 : P5 x1 x2 x3 x4 x5 x6) : ∃ x1 x2 x3 x4 x5 x6, s = F x1 x2 x3 x4 x5 x6 ∧ P1 x1 x2 x3 x4 x5 x6 ∧ P2 x1 x2 x3 x4 x5 x6 ∧ P3 x1 x2 x3 x4 x5 x6 ∧ P4 x1 x2 x3 x4 x5 x6 ∧ P5 x1 x2 x3 x4 x5 x6 :=
  mk_6 x1 x2 x3 x4 x5 x6 ⟨h0, h1, h2, h3, h4, h5⟩
theorem exs_6_6 {α1 α2 α3 α4 α5 α6 σ : Type} {F : α1 → α2 → α3 → α4 → α5 → α6 → σ} {P1 P2 P3 P4 P5 P6 : α1 → α2 → α3 → α4 → α5 → α6 → Prop} {G : σ → Prop} {s : σ} (h : ∃ x1 x2 x3 x4 x5 x6, s = F x1 x2 x3 x4 x5 x6 ∧ P1 x1 x2 x3 x4 x5 x6 ∧ P2 x1 x2 x3 x4 x5 x6 ∧ P3 x1 x2 x3 x4 x5 x6 ∧ P4 x1 x2 x3 x4 x5 x6 ∧ P5 x1 x2 x3 x4 x5 x6 ∧ P6 x1 x2 x3 x4 x5 x6) (g : ∀ x1 x2 x3 x4 x5 x6, P1 x1 x2 x3 x4 x5 x6 → P2 x1 x2 x3 x4 x5 x6 → P3 x1 x2 x3 x4 x5 x6 → P4 x1 x2 x3 x4 x5 x6 → P5 x1 x2 x3 x4 x5 x6 → P6 x1 x2 x3 x4 x5 x6 → G (F x1 x2 x3 x4 x5 x6)) : G s :=
  ex_6 h fun x1 x2 x3 x4 x5 x6 h => h.1.symm ▸ g x1 x2 x3 x4 x5 x6 h.2.1 h.2.2.1 h.2.2.2.1 h.2.2.2.2.1 h.2.2.2.2.2.1 h.2.2.2.2.2.2
theorem mks_6_6 {α1 α2 α3 α4 α5 α6 σ : Type} {F : α1 → α2 → α3 → α4 → α5 → α6 → σ} {P1 P2 P3 P4 P5 P6 : α1 → α2 → α3 → α4 → α5 → α6 → Prop} {s : σ} (x1 : α1) (x2 : α2) (x3 : α3) (x4 : α4) (x5 : α5) (x6 : α6) (h0 : s = F x1 x2 x3 x4 x5 x6) (h1 : P1 x1 x2 x3 x4 x5 x6) (h2 : P2 x1 x2 x3 x4 x5 x6) (h3 : P3 x1 x2 x3 x4 x5 x6) (h4 : P4 x1 x2 x3 x4 x5 x6) (h5 : P5 x1 x2 x3 x4 x5 x6) (h6 : P6 x1 x2 x3 x4 x5 x6) : ∃ x1 x2 x3 x4 x5 x6, s = F x1 x2 x3 x4 x5 x6 ∧ P1 x1 x2 x3 x4 x5 x6 ∧ P2 x1 x2 x3 x4 x5 x6 ∧ P3 x1 x2 x3 x4 x5 x6 ∧ P4 x1 x2 x3 x4 x5 x6 ∧ P5 x1 x2 x3 x4 x5 x6 ∧ P6 x1 x2 x3 x4 x5 x6 :=
  mk_6 x1 x2 x3 x4 x5 x6 ⟨h0, h1, h2, h3, h4, h5, h6⟩
theorem exs_7_4 {α1 α2 α3 α4 α5 α6 α7 σ : Type} {F : α1 → α2 → α3 → α4 → α5 → α6 → α7 → σ} {P1 P2 P3 P4 : α1 → α2 → α3 → α4 → α5 → α6 → α7 → Prop} {G : σ → Prop} {s : σ} (h : ∃ x1 x2 x3 x4 x5 x6 x7, s = F x1 x2 x3 x4 x5 x6 x7 ∧ P1 x1 x2 x3 x4 x5 x6 x7 ∧ P2 x1 x2 x3 x4 x5 x6 x7 ∧ P3 x1 x2 x3 x4 x5 x6 x7 ∧ P4 x1 x2 x3 x4 x5 x6 x7) (g : ∀ x1 x2 x3 x4 x5 x6 x7, P1 x1 x2 x3 x4 x5 x6 x7 → P2 x1 x2 x3 x4 x5 x6 x7 → P3 x1 x2 x3 x4 x5 x6 x7 → P4 x1 x2 x3 x4 x5 x6 x7 → G (F x1 x2 x3 x4 x5 x6 x7)) : G s :=
  ex_7 h fun x1 x2 x3 x4 x5 x6 x7 h => h.1.symm ▸ g x1 x2 x3 x4 x5 x6 x7 h.2.1 h.2.2.1 h.2.2.2.1 h.2.2.2.2
theorem mks_7_4 {α1 α2 α3 α4 α5 α6 α7 σ : Type} {F : α1 → α2 → α3 → α4 → α5 → α6 → α7 → σ} {P1 P2 P3 P4 : α1 → α2 → α3 → α4 → α5 → α6 → α7 → Prop} {s : σ} (x1 : α1) (x2 : α2) (x3 : α3) (x4 : α4) (x5 : α5) (x6 : α6) (x7 : α7) (h0 : s = F x1 x2 x3 x4 x5 x6 x7) (h1 : P1 x1 x2 x3 x4 x5 x6 x7) (h2 : P2 x1 x2 x3 x4 x5 x6 x7) (h3 : P3 x1 x2 x3 x4 x5 x6 x7) (h4 : P4 x1 x2 x3 x4 x5 x6 x7) : ∃ x1 x2 x3 x4 x5 x6 x7, s = F x1 x2 x3 x4 x5 x6 x7 ∧ P1 x1 x2 x3 x4 x5 x6 x7 ∧ P2 x1 x2 x3 x4 x5 x6 x7 ∧ P3 x1 x2 x3 x4 x5 x6 x7 ∧ P4 x1 x2 x3 x4 x5 x6 x7 :=
  mk_7 x1 x2 x3 x4 x5 x6 x7 ⟨h0, h1, h2, h3, h4⟩
theorem exs_7_5 {α1 α2 α3 α4 α5 α6 α7 σ : Type} {F : α1 → α2 → α3 → α4 → α5 → α6 → α7 → σ} {P1 P2 P3 P4 P5 : α1 → α2 → α3 → α4 → α5 → α6 → α7 → Prop} {G : σ → Prop} {s : σ} (h : ∃ x1 x2 x3 x4 x5 x6 x7, s = F x1 x2 x3 x4 x5 x6 x7 ∧ P1 x1 x2 x3 x4 x5 x6 x7 ∧ P2 x1 x2 x3 x4 x5 x6 x7 ∧ P3 x1 x2 x3 x4 x5 x6 x7 ∧ P4 x1 x2 x3 x4 x5 x6 x7 ∧ P5 x1 x2 x3 x4 x5 x6 x7) (g : ∀ x1 x2 x3 x4 x5 x6 x7, P1 x1 x2 x3 x4 x5 x6 x7 → P2 x1 x2 x3 x4 x5 x6 x7 → P3 x1 x2 x3 x4 x5 x6 x7 → P4 x1 x2 x3 x4 x5 x6 x7 → P5 x1 x2 x3 x4 x5 x6 x7 → G (F x1 x2 x3 x4 x5 x6 x7)) : G s :=
  ex_7 h fun x1 x2 x3 x4 x5 x6 x7 h => h.1.symm ▸ g x1 x2 x3 x4 x5 x6 x7 h.2.1 h.2.2.1 h.2.2.2.1 h.2.2.2.2.1 h.2.2.2.2.2
theorem mks_7_5 {α1 α2 α3 α4 α5 α6 α7 σ : Type} {F : α1 → α2 → α3 → α4 → α5 → α6 → α7 → σ} {P1 P2 P3 P4 P5 : α1 → α2 → α3 → α4 → α5 → α6 → α7 → Prop} {s : σ} (x1 : α1) (x2 : α2) (x3 : α3) (x4 : α4) (x5 : α5) (x6 : α6) (x7 : α7) (h0 : s = F x1 x2 x3 x4 x5 x6 x7) (h1 : P1 x1 x2 x3 x4 x5 x6 x7) (h2 : P2 x1 x2 x3 x4 x5 x6 x7) (h3 : P3 x1 x2 x3 x4 x5 x6 x7) (h4 : P4 x1 x2 x3 x4 x5 x6 x7) (h5 : P5 x1 x2 x3 x4 x5 x6 x7) : ∃ x1 x2 x3 x4 x5 x6 x7, s = F x1 x2 x3 x4 x5 x6 x7 ∧ P1 x1 x2 x3 x4 x5 x6 x7 ∧ P2 x1 x2 x3 x4 x5 x6 x7 ∧ P3 x1 x2 x3 x4 x5 x6 x7 ∧ P4 x1 x2 x3 x4 x5 x6 x7 ∧ P5 x1 x2 x3 x4 x5 x6 x7 :=
  mk_7 x1 x2 x3 x4 x5 x6 x7 ⟨h0, h1, h2, h3, h4, h5⟩
theorem exs_7_7 {α1 α2 α3 α4 α5 α6 α7 σ : Type} {F : α1 → α2 → α3 → α4 → α5 → α6 → α7 → σ} {P1 P2 P3 P4 P5 P6 P7 : α1 → α2 → α3 → α4 → α5 → α6 → α7 → Prop} {G : σ → Prop} {s : σ} (h : ∃ x1 x2 x3 x4 x5 x6 x7, s = F x1 x2 x3 x4 x5 x6 x7 ∧ P1 x1 x2 x3 x4 x5 x6 x7 ∧ P2 x1 x2 x3 x4 x5 x6 x7 ∧ P3 x1 x2 x3 x4 x5 x6 x7 ∧ P4 x1 x2 x3 x4 x5 x6 x7 ∧ P5 x1 x2 x3 x4 x5 x6 x7 ∧ P6 x1 x2 x3 x4 x5 x6 x7 ∧ P7 x1 x2 x3 x4 x5 x6 x7) (g : ∀ x1 x2 x3 x4 x5 x6 x7, P1 x1 x2 x3 x4 x5 x6 x7 → P2 x1 x2 x3 x4 x5 x6 x7 → P3 x1 x2 x3 x4 x5 x6 x7 → P4 x1 x2 x3 x4 x5 x6 x7 → P5 x1 x2 x3 x4 x5 x6 x7 → P6 x1 x2 x3 x4 x5 x6 x7 → P7 x1 x2 x3 x4 x5 x6 x7 → G (F x1 x2 x3 x4 x5 x6 x7)) : G s :=
  ex_7 h fun x1 x2 x3 x4 x5 x6 x7 h => h.1.symm ▸ g x1 x2 x3 x4 x5 x6 x7 h.2.1 h.2.2.1 h.2.2.2.1 h.2.2.2.2.1 h.2.2.2.2.2.1 h.2.2.2.2.2.2.1 h.2.2.2.2.2.2.2
theorem mks_7_7 {α1 α2 α3 α4 α5 α6 α7 σ : Type} {F : α1 → α2 → α3 → α4 → α5 → α6 → α7 → σ} {P1 P2 P3 P4 P5 P6 P7 : α1 → α2 → α3 → α4 → α5 → α6 → α7 → Prop} {s : σ} (x1 : α1) (x2 : α2) (x3 : α3) (x4 : α4) (x5 : α5) (x6 : α6) (x7 : α7) (h0 : s = F x1 x2 x3 x4 x5 x6 x7) (h1 : P1 x1 x2 x3 x4 x5 x6 x7) (h2 : P2 x1 x2 x3 x4 x5 x6 x7) (h3 : P3 x1 x2 x3 x4 x5 x6 x7) (h4 : P4 x1 x2 x3 x4 x5 x6 x7) (h5 : P5 x1 x2 x3 x4 x5 x6 x7) (h6 : P6 x1 x2 x3 x4 x5 x6 x7) (h7 : P7 x1 x2 x3 x4 x5 x6 x7) : ∃ x1 x2 x3 x4 x5 x6 x7, s = F x1 x2 x3 x4 x5 x6 x7 ∧ P1 x1 x2 x3 x4 x5 x6 x7 ∧ P2 x1 x2 x3 x4 x5 x6 x7 ∧ P3 x1 x2 x3 x4 x5 x6 x7 ∧ P4 x1 x2 x3 x4 x5 x6 x7 ∧ P5 x1 x2 x3 x4 x5 x6 x7 ∧ P6 x1 x2 x3 x4 x5 x6 x7 ∧ P7 x1 x2 x3 x4 x5 x6 x7 :=
  mk_7 x1 x2 x3 x4 x5 x6 x7 ⟨h0, h1, h2, h3, h4, h5, h6, h7⟩
theorem exs_7_11 {α1 α2 α3 α4 α5 α6 α7 σ : Type} {F : α1 → α2 → α3 → α4 → α5 → α6 → α7 → σ} {P1 P2 P3 P4 P5 P6 P7 P8 P9 P10 P11 : α1 → α2 → α3 → α4 → α5 → α6 → α7 → Prop} {G : σ → Prop} {s : σ} (h : ∃ x1 x2 x3 x4 x5 x6 x7, s = F x1 x2 x3 x4 x5 x6 x7 ∧ P1 x1 x2 x3 x4 x5 x6 x7 ∧ P2 x1 x2 x3 x4 x5 x6 x7 ∧ P3 x1 x2 x3 x4 x5 x6 x7 ∧ P4 x1 x2 x3 x4 x5 x6 x7 ∧ P5 x1 x2 x3 x4 x5 x6 x7 ∧ P6 x1 x2 x3 x4 x5 x6 x7 ∧ P7 x1 x2 x3 x4 x5 x6 x7 ∧ P8 x1 x2 x3 x4 x5 x6 x7 ∧ P9 x1 x2 x3 x4 x5 x6 x7 ∧ P10 x1 x2 x3 x4 x5 x6 x7 ∧ P11 x1 x2 x3 x4 x5 x6 x7) (g : ∀ x1 x2 x3 x4 x5 x6 x7, P1 x1 x2 x3 x4 x5 x6 x7 → P2 x1 x2 x3 x4 x5 x6 x7 → P3 x1 x2 x3 x4 x5 x6 x7 → P4 x1 x2 x3 x4 x5 x6 x7 → P5 x1 x2 x3 x4 x5 x6 x7 → P6 x1 x2 x3 x4 x5 x6 x7 → P7 x1 x2 x3 x4 x5 x6 x7 → P8 x1 x2 x3 x4 x5 x6 x7 → P9 x1 x2 x3 x4 x5 x6 x7 → P10 x1 x2 x3 x4 x5 x6 x7 → P11 x1 x2 x3 x4 x5 x6 x7 → G (F x1 x2 x3 x4 x5 x6 x7)) : G s :=
  ex_7 h fun x1 x2 x3 x4 x5 x6 x7 h => h.1.symm ▸ g x1 x2 x3 x4 x5 x6 x7 h.2.1 h.2.2.1 h.2.2.2.1 h.2.2.2.2.1 h.2.2.2.2.2.1 h.2.2.2.2.2.2.1 h.2.2.2.2.2.2.2.1 h.2.2.2.2.2.2.2.2.1 h.2.2.2.2.2.2.2.2.2.1 h.2.2.2.2.2.2.2.2.2.2.1 h.2.2.2.2.2.2.2.2.2.2.2
theorem mks_7_11 {α1 α2 α3 α4 α5 α6 α7 σ : Type} {F : α1 → α2 → α3 → α4 → α5 → α6 → α7 → σ} {P1 P2 P3 P4 P5 P6 P7 P8 P9 P10 P11 : α1 → α2 → α3 → α4 → α5 → α6 → α7 → Prop} {s : σ} (x1 : α1) (x2 : α2) (x3 : α3) (x4 : α4) (x5 : α5) (x6 : α6) (x7 : α7) (h0 : s = F x1 x2 x3 x4 x5 x6 x7) (h1 : P1 x1 x2 x3 x4 x5 x6 x7) (h2 : P2 x1 x2 x3 x4 x5 x6 x7) (h3 : P3 x1 x2 x3 x4 x5 x6 x7) (h4 : P4 x1 x2 x3 x4 x5 x6 x7) (h5 : P5 x1 x2 x3 x4 x5 x6 x7) (h6 : P6 x1 x2 x3 x4 x5 x6 x7) (h7 : P7 x1 x2 x3 x4 x5 x6 x7) (h8 : P8 x1 x2 x3 x4 x5 x6 x7) (h9 : P9 x1 x2 x3 x4 x5 x6 x7) (h10 : P10 x1 x2 x3 x4 x5 x6 x7) (h11 : P11 x1 x2 x3 x4 x5 x6 x7) : ∃ x1 x2 x3 x4 x5 x6 x7, s = F x1 x2 x3 x4 x5 x6 x7 ∧ P1 x1 x2 x3 x4 x5 x6 x7 ∧ P2 x1 x2 x3 x4 x5 x6 x7 ∧ P3 x1 x2 x3 x4 x5 x6 x7 ∧ P4 x1 x2 x3 x4 x5 x6 x7 ∧ P5 x1 x2 x3 x4 x5 x6 x7 ∧ P6 x1 x2 x3 x4 x5 x6 x7 ∧ P7 x1 x2 x3 x4 x5 x6 x7 ∧ P8 x1 x2 x3 x4 x5 x6 x7 ∧ P9 x1 x2 x3 x4 x5 x6 x7 ∧ P10 x1 x2 x3 x4 x5 x6 x7 ∧ P11 x1 x2 x3 x4 x5 x6 x7 :=
  mk_7 x1 x2 x3 x4 x5 x6 x7 ⟨h0, h1, h2, h3, h4, h5, h6, h7, h8, h9, h10, h11⟩
theorem exs_8_7 {α1 α2 α3 α4 α5 α6 α7 α8 σ : Type} {F : α1 → α2 → α3 → α4 → α5 → α6 → α7 → α8 → σ} {P1 P2 P3 P4 P5 P6 P7 : α1 → α2 → α3 → α4 → α5 → α6 → α7 → α8 → Prop} {G : σ → Prop} {s : σ} (h : ∃ x1 x2 x3 x4 x5 x6 x7 x8, s = F x1 x2 x3 x4 x5 x6 x7 x8 ∧ P1 x1 x2 x3 x4 x5 x6 x7 x8 ∧ P2 x1 x2 x3 x4 x5 x6 x7 x8 ∧ P3 x1 x2 x3 x4 x5 x6 x7 x8 ∧ P4 x1 x2 x3 x4 x5 x6 x7 x8 ∧ P5 x1 x2 x3 x4 x5 x6 x7 x8 ∧ P6 x1 x2 x3 x4 x5 x6 x7 x8 ∧ P7 x1 x2 x3 x4 x5 x6 x7 x8) (g : ∀ x1 x2 x3 x4 x5 x6 x7 x8, P1 x1 x2 x3 x4 x5 x6 x7 x8 → P2 x1 x2 x3 x4 x5 x6 x7 x8 → P3 x1 x2 x3 x4 x5 x6 x7 x8 → P4 x1 x2 x3 x4 x5 x6 x7 x8 → P5 x1 x2 x3 x4 x5 x6 x7 x8 → P6 x1 x2 x3 x4 x5 x6 x7 x8 → P7 x1 x2 x3 x4 x5 x6 x7 x8 → G (F x1 x2 x3 x4 x5 x6 x7 x8)) : G s :=
  ex_8 h fun x1 x2 x3 x4 x5 x6 x7 x8 h => h.1.symm ▸ g x1 x2 x3 x4 x5 x6 x7 x8 h.2.1 h.2.2.1 h.2.2.2.1 h.2.2.2.2.1 h.2.2.2.2.2.1 h.2.2.2.2.2.2.1 h.2.2.2.2.2.2.2
theorem mks_8_7 {α1 α2 α3 α4 α5 α6 α7 α8 σ : Type} {F : α1 → α2 → α3 → α4 → α5 → α6 → α7 → α8 → σ} {P1 P2 P3 P4 P5 P6 P7 : α1 → α2 → α3 → α4 → α5 → α6 → α7 → α8 → Prop} {s : σ} (x1 : α1) (x2 : α2) (x3 : α3) (x4 : α4) (x5 : α5) (x6 : α6) (x7 : α7) (x8 : α8) (h0 : s = F x1 x2 x3 x4 x5 x6 x7 x8) (h1 : P1 x1 x2 x3 x4 x5 x6 x7 x8) (h2 : P2 x1 x2 x3 x4 x5 x6 x7 x8) (h3 : P3 x1 x2 x3 x4 x5 x6 x7 x8) (h4 : P4 x1 x2 x3 x4 x5 x6 x7 x8) (h5 : P5 x1 x2 x3 x4 x5 x6 x7 x8) (h6 : P6 x1 x2 x3 x4 x5 x6 x7 x8) (h7 : P7 x1 x2 x3 x4 x5 x6 x7 x8) : ∃ x1 x2 x3 x4 x5 x6 x7 x8, s = F x1 x2 x3 x4 x5 x6 x7 x8 ∧ P1 x1 x2 x3 x4 x5 x6 x7 x8 ∧ P2 x1 x2 x3 x4 x5 x6 x7 x8 ∧ P3 x1 x2 x3 x4 x5 x6 x7 x8 ∧ P4 x1 x2 x3 x4 x5 x6 x7 x8 ∧ P5 x1 x2 x3 x4 x5 x6 x7 x8 ∧ P6 x1 x2 x3 x4 x5 x6 x7 x8 ∧ P7 x1 x2 x3 x4 x5 x6 x7 x8 :=
  mk_8 x1 x2 x3 x4 x5 x6 x7 x8 ⟨h0, h1, h2, h3, h4, h5, h6, h7⟩
section
variable {h₀ : Heap} {L : Addr} {s₁ s₂ : Shared}
theorem mkU {I : Addr} {it : Obj} {rest : LMap → Led → Prop} (h' : Heap) (tk : Nat) (m' : LMap) (n' : Led) (e : s₂ = { s₁ with heap := h', toks := tk }) (F : Fr h₀ L h' m') (N : News h₀ L h' ((I, it) :: n')) (o : ∀ p ∈ n', p.1 ≠ I) (r : rest m' n') : UnrEnd h₀ L s₁ I it rest s₂ := ⟨h', tk, m', n', e, F, N, o, r⟩
theorem mkW {its : Led} {rest : LMap → Led → Prop} (h' : Heap) (tk : Nat) (m' : LMap) (n' : Led) (e : s₂ = { s₁ with heap := h', toks := tk }) (F : Fr h₀ L h' m') (N : News h₀ L h' (its ++ n')) (o : ∀ p ∈ n', ∀ q ∈ its, p.1 ≠ q.1) (r : rest m' n') : UnrEndW h₀ L s₁ its rest s₂ := ⟨h', tk, m', n', e, F, N, o, r⟩
theorem mkC {m : LMap} {I C D : Addr} {oI oC oD : Obj} {S : Led → Prop} {rest : Value → Led → Prop} {y : Value} (h' : Heap) (tk : Nat) (n' : Led) (e : s₂ = { s₁ with heap := h', toks := tk }) (F : Fr h₀ L h' m) (N : News h₀ L h' ((I, oI) :: (C, oC) :: (D, oD) :: n')) (o : LCg.Off3 I C D n') (S' : S n') (r : rest y n') : LCg.CompEnd h₀ L m s₁ I oI C oC D oD S rest y s₂ := ⟨h', tk, n', e, F, N, o, S', r⟩
theorem mkD {small : Led} {post : Value → Led → Prop} {v : Value} (L' : Addr) (m' : LMap) (tl : Led) (F : Fr h₀ L' s₂.heap m') (N : News h₀ L' s₂.heap (tl ++ small)) (a : ∀ q ∈ tl, ∀ r ∈ small, r.1 ≠ q.1) (p : post v tl) (h : Heap) (tk : Nat) (e : s₂ = { s₁ with heap := h, toks := tk }) : Done small h₀ s₁ post v s₂ := ⟨L', m', tl, F, N, a, p, h, tk, e⟩
end
theorem led4 {ns : Led} (h : ns.length = 4) : ∃ q0 q1 q2 q3, ns = [q0, q1, q2, q3] := by
  cases ns with
  | nil => simp at h
  | cons q0 r => cases r with
    | nil => simp at h
    | cons q1 r => cases r with
      | nil => simp at h
      | cons q2 r => cases r with
        | nil => simp at h
        | cons q3 r => cases r with
          | nil => exact ⟨_, _, _, _, rfl⟩
          | cons q4 r => simp at h
end

section
noncomputable def Off4 (I C D c : Addr) (l : Led) : Prop := ∀ p ∈ l, p.1 ≠ I ∧ p.1 ≠ C ∧ p.1 ≠ D ∧ p.1 ≠ c
section
variable {prog : Program} {w : World} {A : Around} {E : Value → Shared → Prop} {s : Shared} {h₀ : Heap} {L : Addr} {m : LMap} {env : Env} {elt iter : Expr} {x : PySem.Str} {px pos : Pos} {scope : Scope} {cl : List (PySem.Str × Addr)}
theorem newEnv_cell1 {M : Model} {globals : Addr} {qual : PySem.Str} {Q : Env → Shared → Prop} (hc : ∀ n, cellsFrom n scope.names cl = (x, n) :: cl) (hp : ∀ h, pushCells h scope.names = h.push { cls := .type "cell", data := .cell none })
    (h : Q { scope := scope, locals := s.heap.objs.size, globals := globals, cells := (x, s.heap.objs.size + 1) :: cl, qual := qual, func := none, code := env.code, frame := env.frame, builtins := env.builtins }
      { s with heap := (s.heap.push { cls := .type "dict", data := .dict #[] }).push { cls := .type "cell", data := .cell none } }) :
    wpAny M A (newFunctionEnv scope globals cl [] qual none .none (some env)) Q E s := by
  simp only [newFunctionEnv, Option.isSome_some, if_true]
  refine wpAny_bind (wpAny_alloc ?_)
  refine wpAny_bind (wpAny_layCells _ (fun name kind cells => by cases hkc : kind == NameKind.cell <;> simp [hkc]) _ _ _ _ ?_)
  rw [hc, hp]
  rw [show ({ s with heap := s.heap.push { cls := .type "dict", data := .dict #[] } } : Shared).heap.objs.size = s.heap.objs.size + 1 from Heap.size_push ..]
  rw [List.forIn_nil]
  exact wpAny_bind (wpAny_pure (wpAny_pure h))
/-- the end of a turn of a comprehension whose variable is a cell -/
noncomputable def EndV (h₀ : Heap) (L : Addr) (m : LMap) (s₁ : Shared) (keep : Led) (c : Addr) (I C D : Addr) (S : Led → Prop) (rest : Value → Led → Prop) (y : Value) (s₂ : Shared) : Prop :=
  ∃ h' tk news', s₂ = { s₁ with heap := h', toks := tk } ∧ Fr h₀ L h' m ∧ News h₀ L h' (keep ++ news') ∧ Off4 I C D c news' ∧ S news' ∧ rest y news'
theorem mkV {s₁ s₂ : Shared} {keep : Led} {c I C D : Addr} {S : Led → Prop} {rest : Value → Led → Prop} {y : Value} (h' : Heap) (tk : Nat) (n' : Led) (e : s₂ = { s₁ with heap := h', toks := tk }) (F : Fr h₀ L h' m) (N : News h₀ L h' (keep ++ n')) (o : Off4 I C D c n') (S' : S n') (r : rest y n') : EndV h₀ L m s₁ keep c I C D S rest y s₂ := ⟨h', tk, n', e, F, N, o, S', r⟩
theorem block_V {s₂ : Shared} {I : Addr} {fp : List Addr} {n : Nat} {P : Nat → Value → Prop} {St : Nat → Heap → Prop} {S : Led → Prop} {news : Led} {RR : Value → Addr → Result → Shared → Prop}
    (W : Walks prog w A I fp [I] n P St) (hsz : n ≤ sizeLine) (hIo : ∀ i h, St i h → ∃ o, h.get? I = some o)
    (hSt : ∀ i h h' o nw, St i h → h.get? I = some o → h'.get? I = some o → (∀ b o, h₀.get? b = some o → h'.get? b = some o) → News h₀ L h' nw → S nw → St i h')
    (hkind : scope.kind = .function) (hc : ∀ n, cellsFrom n scope.names cl = (x, n) :: cl) (hp : ∀ h, pushCells h scope.names = h.push { cls := .type "cell", data := .cell none })
    (hx : ∀ cl' C, (compEnvC scope cl' C env).kindOf x = some .cell) (hst : St 0 s₂.heap) (hfp : ∀ b ∈ fp, b < s₂.heap.objs.size)
    (F : Fr h₀ L s₂.heap m) (N : News h₀ L s₂.heap news) (hIL : L ≠ I) (hI₀ : h₀.get? I = none) (off : ∀ p ∈ news, p.1 ≠ I) (hS : S news)
    (J : Nat → List Value → Led → Prop) (hJ : J 0 [] news)
    (turn : ∀ i v oI C oC D c (oc : Obj) ys news h tk (E' : Value → Shared → Prop), i < n → J i ys news → P i v → oc.data = .cell (some v) → Fr h₀ L h m → News h₀ L h ([(I, oI), (C, oC), (D, LCg.lst ys), (c, oc)] ++ news) → Off4 I C D c news →
      ((@Ne Nat I C) ∧ (@Ne Nat I D) ∧ (@Ne Nat C D) ∧ (@Ne Nat I c) ∧ (@Ne Nat C c) ∧ (@Ne Nat D c)) → (∀ p ∈ news, p.1 ≠ L) →
      wpAny (model prog w) A (eval elt (compEnvC scope ((x, c) :: cl) C env)) (EndV h₀ L m { s₂ with heap := h, toks := tk } [(I, oI), (C, oC), (D, LCg.lst ys), (c, oc)] c I C D S (fun y news' => J (i + 1) (ys ++ [y]) news')) E' { s₂ with heap := h, toks := tk })
    (hRR : ∀ D C h tk m' ys news', Fr h₀ L h m → News h₀ L h ((D, LCg.lst ys) :: news') → (∀ p ∈ news', p.1 ≠ D) → h.Ns C m' → h₀.get? C = none → h₀.get? D = none → C ≠ L → D ≠ L → C ≠ D → (∀ p ∈ news', p.1 ≠ C) → J n ys news' → RR (.ref D) C (.ok .next) { s₂ with heap := h, toks := tk }) :
    wpAny (model prog w) A (newList []) (fun acc s₃ => wpAny (model prog w) A (newFunctionEnv scope env.globals cl [] env.qual none .none (some env)) (fun cenv s₄ =>
      codeAny (model prog w) A (.compStart (.ListComp elt [⟨.Name x px, iter, [], 0⟩] scope pos) 0 (.ref I) acc { cenv with scope := relabel scope env }) (RR acc cenv.locals) s₄) E s₃) E s₂ := by
  refine wpAny_newObj_type (newEnv_cell1 hc hp ?_)
  dsimp only
  have fresh : ∀ a, s₂.heap.objs.size ≤ a → h₀.get? a = none := fun a ha => by
    cases e : h₀.get? a with
    | none => rfl
    | some o' => exact absurd (Heap.lt_size (F.keep a o' e)) (Nat.not_lt.mpr ha)
  have hIf : I ∈ fp := W.sub I (List.mem_singleton.mpr rfl)
  have hIlt : I < s₂.heap.objs.size := hfp I hIf
  have hLlt : L < s₂.heap.objs.size := F.ns.lt
  rw [Heap.size_push]
  generalize hD : s₂.heap.objs.size = D at *
  generalize hH : ((s₂.heap.push { cls := .type "list", dict := none, data := .seq ([] : List Value).toArray }).push { cls := .type "dict", data := .dict #[] }).push { cls := .type "cell", data := .cell none } = H
  have old : ∀ b o, s₂.heap.get? b = some o → H.get? b = some o := fun b o e => hH ▸ Heap.get?_push_of_some _ (Heap.get?_push_of_some _ (Heap.get?_push_of_some _ e))
  have hDg : H.get? D = some (LCg.lst []) := hH ▸ hD ▸ Heap.get?_push_of_some _ (Heap.get?_push_of_some _ (Heap.get?_push_size _ rfl))
  have hCg : H.Ns (D + 1) (fun _ => none) := by
    have e1 : (s₂.heap.push { cls := .type "list", dict := none, data := .seq ([] : List Value).toArray }).objs.size = D + 1 := by rw [Heap.size_push, hD]
    have := Heap.Ns.new (s₂.heap.push { cls := .type "list", dict := none, data := .seq ([] : List Value).toArray }) (.type "dict")
    rw [e1] at this
    exact this.keeps fun b o e => hH ▸ Heap.get?_push_of_some _ e
  have hcg : H.get? (D + 1 + 1) = some { cls := .type "cell", data := .cell none } := by
    have e1 : ((s₂.heap.push { cls := .type "list", dict := none, data := .seq ([] : List Value).toArray }).push { cls := .type "dict", data := .dict #[] }).objs.size = D + 1 + 1 := by rw [Heap.size_push, Heap.size_push, hD]
    rw [← hH, ← e1]
    exact Heap.get?_push_size _ rfl
  have hDf : D ∉ fp := fun hm => Nat.lt_irrefl _ (hfp _ hm)
  have hCf : D + 1 ∉ fp := fun hm => by have := hfp _ hm; exact absurd this (by show ¬ (@LT.lt Nat _ (D + 1) D); lia)
  have hcf : D + 1 + 1 ∉ fp := fun hm => by have := hfp _ hm; exact absurd this (by show ¬ (@LT.lt Nat _ (D + 1 + 1) D); lia)
  have hCI : I ≠ D + 1 := Nat.ne_of_lt (Nat.lt_succ_of_lt hIlt)
  have hcI : I ≠ D + 1 + 1 := Nat.ne_of_lt (Nat.lt_succ_of_lt (Nat.lt_succ_of_lt hIlt))
  have hDI : I ≠ D := Nat.ne_of_lt hIlt
  have hCD : D + 1 ≠ D := Nat.ne_of_gt (Nat.lt_succ_self _)
  have hcD : D + 1 + 1 ≠ D := Nat.ne_of_gt (Nat.lt_succ_of_lt (Nat.lt_succ_self _))
  have hcC : D + 1 + 1 ≠ D + 1 := Nat.ne_of_gt (Nat.lt_succ_self _)
  have hDL : D ≠ L := Nat.ne_of_gt hLlt
  have hCL : D + 1 ≠ L := Nat.ne_of_gt (Nat.lt_succ_of_lt hLlt)
  have hcL : D + 1 + 1 ≠ L := Nat.ne_of_gt (Nat.lt_succ_of_lt (Nat.lt_succ_of_lt hLlt))
  have hD₀ : h₀.get? D = none := fresh _ (Nat.le_refl _)
  have hC₀ : h₀.get? (D + 1) = none := fresh _ (Nat.le_succ _)
  have hc₀ : h₀.get? (D + 1 + 1) = none := fresh _ (Nat.le_trans (Nat.le_succ _) (Nat.le_succ _))
  have off₀ : Off4 I (D + 1) D (D + 1 + 1) news := fun p hp => by
    have hl : p.1 < D := hD ▸ Heap.lt_size (N p hp).1
    exact ⟨off p hp, Nat.ne_of_lt (Nat.lt_succ_of_lt hl), Nat.ne_of_lt hl, Nat.ne_of_lt (Nat.lt_succ_of_lt (Nat.lt_succ_of_lt hl))⟩
  have hst₁ : St 0 H := W.frame _ _ _ hst fun b _ o e => old b o e
  have loop : ∀ s₃ : Shared, s₃ = { s₂ with heap := H } →
      codeAny (model prog w) A (.compLoop (.ListComp elt [⟨.Name x px, iter, [], 0⟩] scope pos) 0 (.ref I) (.ref D) (compEnvC scope ((x, D + 1 + 1) :: cl) (D + 1) env)) (RR (.ref D) (D + 1)) s₃ := by
    rintro s₃ rfl
    refine codeAny_compLoop_tests
      (fun k s' => ∃ h' tk i ys m' vo news', s' = { s₂ with heap := h', toks := tk } ∧ i ≤ n ∧ k = n + 1 - i ∧ ys.length = i ∧ St i h' ∧ Fr h₀ L h' m ∧ h'.Ns (D + 1) m' ∧ h'.IsCell (D + 1 + 1) vo ∧ News h₀ L h' ((D, LCg.lst ys) :: news') ∧ Off4 I (D + 1) D (D + 1 + 1) news' ∧ S news' ∧ J i ys news') ?_ (n + 1)
      (mks_7_11 H _ 0 [] _ _ news rfl (Nat.zero_le _) rfl rfl hst₁ (F.keeps old) hCg ⟨_, hcg, rfl⟩ (fun p hp => ?_) off₀ hS hJ)
    · intro k s' ex9
      apply exs_7_11 ex9
      clear ex9
      rintro h' tk i ys m' vo news' hi rfl hyl hst' F' hn' hcell' N' off' hS' hJ'
      by_cases hlt : i < n
      · refine W.item i _ _ _ hlt hst' fun v h₂ tk₂ hPv hst₂ hk₂ => ?_
        have hk₂' : ∀ b o, b ≠ I → h'.get? b = some o → h₂.get? b = some o := fun b o hb e => hk₂ b o (by simpa using hb) e
        have hcell₂ : h₂.IsCell (D + 1 + 1) vo := by obtain ⟨o, e, hd⟩ := hcell'; exact ⟨o, hk₂' _ _ (Ne.symm hcI) e, hd⟩
        refine wpAny_assign_Name (wpAny_storeName_cell (c := D + 1 + 1) (v₀ := vo) (by simp [compEnvC, relabel, hkind]) (hx _ _) (by simp [compEnvC]) hcell₂ (fun h₃ hc₃ hs₃ => ?_))
        refine wpAny_tests_nil ?_
        simp only [if_true]
        have hst₃ : St (i + 1) h₃ := W.frame _ _ _ hst₂ fun b hb o e => hs₃.extBut b o (fun q => hcf (q ▸ hb)) e
        obtain ⟨oI, heI⟩ := hIo _ _ hst₃
        have hn₃ : h₃.Ns (D + 1) m' := (hn'.at' fun o e => hk₂' _ o (Ne.symm hCI) e).sameBut hs₃ (Ne.symm hcC)
        obtain ⟨oC, heC, hoC⟩ := LCg.ns_obj hn₃
        obtain ⟨oc, hec, hoc⟩ := hc₃
        have F₃ : Fr h₀ L h₃ m := (LCg.fr_but F' hk₂ hIL hI₀).change hs₃ hcL hc₀
        have N₃ : News h₀ L h₃ ([(I, oI), (D + 1, oC), (D, LCg.lst ys), (D + 1 + 1, oc)] ++ news') := fun p hp => by
          rcases List.mem_append.mp hp with hp | hp
          · rcases List.mem_cons.mp hp with rfl | hp
            · exact ⟨heI, Ne.symm hIL, hI₀⟩
            rcases List.mem_cons.mp hp with rfl | hp
            · exact ⟨heC, hCL, hC₀⟩
            rcases List.mem_cons.mp hp with rfl | hp
            · have z := N' (D, LCg.lst ys) List.mem_cons_self
              exact ⟨hs₃.extBut _ _ (Ne.symm hcD) (hk₂' _ _ (Ne.symm hDI) z.1), z.2⟩
            · rw [List.mem_singleton.mp hp]
              exact ⟨hec, hcL, hc₀⟩
          · have z := N' p (List.mem_cons_of_mem _ hp)
            have o4 := off' p hp
            exact ⟨hs₃.extBut _ _ o4.2.2.2 (hk₂' _ _ o4.1 z.1), z.2⟩
        refine wpAny_mono (turn i v oI (D + 1) oC D (D + 1 + 1) oc ys news' h₃ _ _ hlt hJ' hPv hoc F₃ N₃ off' ⟨hCI, hDI, hCD, hcI, Ne.symm hcC, Ne.symm hcD⟩ (fun p hp => (N' p (List.mem_cons_of_mem _ hp)).2.1)) (fun y s₄ h₄ => ?_) fun _ _ e => e
        refine exs_3_5 h₄ ?_
        clear h₄
        intro h₄ tk₄ news₄ F₄ N₄ off₄ hS₄ R₄
        have zI := (N₄ (I, oI) (List.mem_append_left _ (.head _))).1
        have zC := (N₄ (D + 1, oC) (List.mem_append_left _ (.tail _ (.head _)))).1
        have zD := (N₄ (D, LCg.lst ys) (List.mem_append_left _ (.tail _ (.tail _ (.head _))))).1
        have zc := (N₄ (D + 1 + 1, oc) (List.mem_append_left _ (.tail _ (.tail _ (.tail _ (.head _)))))).1
        have N₄' : News h₀ L h₄ news₄ := fun p hp => N₄ p (List.mem_append_right _ hp)
        have hst₄ : St (i + 1) h₄ := hSt _ _ _ _ _ hst₃ heI zI F₄.keep N₄' hS₄
        refine append_at (hsz := by show ys.toArray.size ≤ sizeLine; rw [List.size_toArray, hyl]; exact Nat.le_trans hi hsz) zD fun h₅ hs₅ hD₅ => ?_
        refine ⟨n + 1 - (i + 1), by lia, mks_7_11 h₅ tk₄ (i + 1) (ys ++ [y]) _ (some v) news₄ rfl hlt rfl (by rw [List.length_append, List.length_singleton, hyl]) (W.frame _ _ _ hst₄ fun b hb o e => hs₅.extBut b o (fun q => hDf (q ▸ hb)) e) (F₄.change hs₅ hDL hD₀)
          ((hoC.ns zC).sameBut hs₅ hCD) ⟨oc, hs₅.extBut _ _ hcD zc, hoc⟩ (fun p hp => ?_) off₄ hS₄ R₄⟩
        rcases List.mem_cons.mp hp with rfl | hp
        · exact ⟨hD₅.trans (congrArg some (LCg.lst_snoc ys y)), hDL, hD₀⟩
        · exact ⟨hs₅.extBut _ _ (off₄ p hp).2.2.1 (N₄' p hp).1, (N₄' p hp).2⟩
      · obtain rfl : i = n := Nat.le_antisymm hi (Nat.not_lt.mp hlt)
        refine W.done _ _ _ hst' fun h₂ tk₂ hk₂ => ?_
        exact hRR _ _ h₂ tk₂ _ ys news' (LCg.fr_but F' hk₂ hIL hI₀) (LCg.news_but N' hk₂ fun p hp => by
          rcases List.mem_cons.mp hp with rfl | hp
          · exact Ne.symm hDI
          · exact (off' p hp).1) (fun p hp => (off' p hp).2.2.1) (hn'.at' fun o e => hk₂ _ o (by simpa using Ne.symm hCI) e) hC₀ hD₀ hCL hDL hCD (fun p hp => (off' p hp).2.1) hJ'
    · rcases List.mem_cons.mp hp with rfl | hp
      · exact ⟨hDg, hDL, hD₀⟩
      · exact ⟨old _ _ (N p hp).1, (N p hp).2⟩
  exact codeAny_compStart_list (loop _ rfl) (W.self 0 _ _ _ hst₁ (loop _ rfl))
/-- a turn, the variable being a cell -/
noncomputable def TurnV (prog : Program) (w : World) (A : Around) (h₀ : Heap) (L : Addr) (m : LMap) (env : Env) (elt : Expr) (x : PySem.Str) (scope : Scope) (cl : List (PySem.Str × Addr)) (S : Led → Prop) (n : Nat) (P : Nat → Value → Prop) (J : Nat → List Value → Led → Prop) (s₁ : Shared) : Prop :=
  (∀ i v I oI C oC D c (oc : Obj) ys news h tk (E' : Value → Shared → Prop), i < n → J i ys news → P i v → oc.data = .cell (some v) → Fr h₀ L h m → News h₀ L h ([(I, oI), (C, oC), (D, LCg.lst ys), (c, oc)] ++ news) → Off4 I C D c news →
      ((@Ne Nat I C) ∧ (@Ne Nat I D) ∧ (@Ne Nat C D) ∧ (@Ne Nat I c) ∧ (@Ne Nat C c) ∧ (@Ne Nat D c)) → (∀ p ∈ news, p.1 ≠ L) →
      wpAny (model prog w) A (eval elt (compEnvC scope ((x, c) :: cl) C env)) (EndV h₀ L m { s₁ with heap := h, toks := tk } [(I, oI), (C, oC), (D, LCg.lst ys), (c, oc)] c I C D S (fun y news' => J (i + 1) (ys ++ [y]) news')) E' { s₁ with heap := h, toks := tk })
/-- what the iterable must be: a range, or a list of the ledger -/
noncomputable def SrcV (prog : Program) (w : World) (A : Around) (h₀ : Heap) (L : Addr) (m : LMap) (env : Env) (elt : Expr) (x : PySem.Str) (scope : Scope) (cl : List (PySem.Str × Addr)) (Q : Value → Shared → Prop) (xv : Value) (s₁ : Shared) : Prop :=
  ∃ (n : Nat) (news : Led) (S : Led → Prop) (P : Nat → Value → Prop) (J : Nat → List Value → Led → Prop),
    ((∃ r a b t u v, xv = .ref r ∧ IsRange s₁.heap r a b 1 t u v ∧ Builtin.Range.small a b 1 = true ∧ Builtin.Range.rangeSize a b 1 = (n : Int) ∧ S = (fun _ => True) ∧ P = fun i v => ∃ t, v = .int (a + (i : Int)) t) ∨
     (∃ ax its, xv = .ref ax ∧ LCg.SrcAt h₀ ax its news ∧ n = its.size ∧ S = LCg.SrcAt h₀ ax its ∧ P = fun i v => its[i]? = some v)) ∧
    A.handled = none ∧ Fr h₀ L s₁.heap m ∧ News h₀ L s₁.heap news ∧ n ≤ sizeLine ∧ J 0 [] news ∧ TurnV prog w A h₀ L m env elt x scope cl S n P J s₁ ∧
    (∀ D h tk ys news', J n ys news' → Fr h₀ L h m → News h₀ L h ((D, LCg.lst ys) :: news') → (∀ p ∈ news', p.1 ≠ D) → Q (.ref D) { s₁ with heap := h, toks := tk })
theorem ListComp_V {Q : Value → Shared → Prop} (F₀ : Fr h₀ L s.heap m)
    (hclos : closureFor scope env = pure cl) (hkind : scope.kind = .function) (hc : ∀ n, cellsFrom n scope.names cl = (x, n) :: cl) (hp : ∀ h, pushCells h scope.names = h.push { cls := .type "cell", data := .cell none })
    (hnames : ∀ y ∈ scope.names, y.2 = .local → scope.names.lookup y.1 = some .local) (hx : ∀ cl' C, (compEnvC scope cl' C env).kindOf x = some .cell)
    (h : wpAny (model prog w) A (eval iter env) (SrcV prog w A h₀ L m env elt x scope cl Q) E s)
    (hs : ∀ x, foldedSetIterable iter env x = pure x := by intro _; rfl) :
    wpAny (model prog w) A (eval (.ListComp elt [⟨.Name x px, iter, [], 0⟩] scope pos) env) Q E s := by
  rw [eval_ListComp]
  refine wpAny_comprehension_free (use := none) rfl hs hclos hkind hnames (wpAny_mono h (fun xv s₁ h₁ => ?_) fun _ _ e => e)
  refine ex_5 h₁ ?_
  clear h₁
  intro n news S P J h₁
  have src := h₁.1
  have hh := h₁.2.1
  have F := h₁.2.2.1
  have N := h₁.2.2.2.1
  have hsz := h₁.2.2.2.2.1
  have hJ := h₁.2.2.2.2.2.1
  have turn := h₁.2.2.2.2.2.2.1
  have fin := h₁.2.2.2.2.2.2.2
  clear h₁
  rcases src with hr9 | hr9
  · apply exs_6_5 hr9
    clear hr9
    rintro r a b t u v hr hsm hn rfl rfl
    refine wpAny_pyIter_range hr hsm ?_
    refine block_V (LCg.range_walks hh a n) hsz (fun i h st => ⟨_, st⟩) LCg.range_st hkind hc hp hx (by show IsRangeIter _ _ _ _ _; rw [hn]; simpa using Heap.get?_push_size _ rfl) (fun b hb => ?_)
      (F.keeps fun _ _ e => Heap.get?_push_of_some _ e) (N.grown fun _ _ e => Heap.get?_push_of_some _ e) (Nat.ne_of_lt F.ns.lt) (next_is_new F) (fun p hp => Nat.ne_of_lt (Heap.lt_size (N p hp).1)) trivial J hJ
      (fun i v oI C oC D c oc ys news h tk E' => turn i v _ oI C oC D c oc ys news h tk E') ?_
    · rw [List.mem_singleton.mp hb]
      show s₁.heap.objs.size < (s₁.heap.push _).objs.size
      rw [Heap.size_push]; exact Nat.lt_succ_self _
    · intro D C h tk m' ys news' F' N' o1 hn hC₀ hD₀ hCL hDL hCD offC hJ'
      refine ⟨m', hn, fun h'' hs'' => fin D h'' tk ys news' hJ' (F'.change hs'' hCL hC₀) (fun p hp => ?_) o1⟩
      refine ⟨hs''.extBut _ _ ?_ (N' p hp).1, (N' p hp).2⟩
      rcases List.mem_cons.mp hp with rfl | hp
      · exact Ne.symm hCD
      · exact offC p hp
  · refine ex_2 hr9 ?_
    clear hr9
    rintro ax its ⟨rfl, hS, rfl, rfl, rfl⟩
    have hl := hS.list F.keep N
    have hlt : ax < s₁.heap.objs.size := by obtain ⟨_, e, _⟩ := hl; exact Heap.lt_size e
    refine wpAny_pyIter_list hl ?_
    have up : ∀ b o, s₁.heap.get? b = some o → (s₁.heap.push { cls := .type "list_iterator", data := .fields #[.ref ax, .int 0 0] }).get? b = some o := fun b o e => Heap.get?_push_of_some _ e
    refine block_V (Walks.list hh s₁.heap.objs.size ax (Nat.ne_of_lt hlt) its) hsz (fun i h st => by obtain ⟨o, e, _⟩ := st.1; exact ⟨o, e⟩) LCg.list_st hkind hc hp hx ⟨⟨_, Heap.get?_push_size _ rfl, rfl, rfl⟩, hl.push _⟩ (fun b hb => ?_)
      (F.keeps up) (N.grown up) (Nat.ne_of_lt F.ns.lt) (next_is_new F) (fun p hp => Nat.ne_of_lt (Heap.lt_size (N p hp).1)) hS J hJ
      (fun i v oI C oC D c oc ys news h tk E' => turn i v _ oI C oC D c oc ys news h tk E') ?_
    · show b < (s₁.heap.push _).objs.size
      rw [Heap.size_push]
      rcases List.mem_cons.mp hb with rfl | hb
      · exact Nat.lt_succ_self _
      · rw [List.mem_singleton.mp hb]; exact Nat.lt_succ_of_lt hlt
    · intro D C h tk m' ys news' F' N' o1 hn hC₀ hD₀ hCL hDL hCD offC hJ'
      refine ⟨m', hn, fun h'' hs'' => fin D h'' tk ys news' hJ' (F'.change hs'' hCL hC₀) (fun p hp => ?_) o1⟩
      refine ⟨hs''.extBut _ _ ?_ (N' p hp).1, (N' p hp).2⟩
      rcases List.mem_cons.mp hp with rfl | hp
      · exact Ne.symm hCD
      · exact offC p hp
theorem SrcV.range {Q : Value → Shared → Prop} {r : Addr} {a b : Int} {t u v : Tok} {news : Led} (n : Nat) (J : Nat → List Value → Led → Prop) (hh : A.handled = none) (hr : IsRange s.heap r a b 1 t u v) (hsm : Builtin.Range.small a b 1 = true) (hn : Builtin.Range.rangeSize a b 1 = (n : Int)) (F : Fr h₀ L s.heap m) (N : News h₀ L s.heap news) (hsz : n ≤ sizeLine)
    (turn : TurnV prog w A h₀ L m env elt x scope cl (fun _ => True) n (fun i v => ∃ t, v = .int (a + (i : Int)) t) J s)
    (fin : ∀ D h tk ys news', J n ys news' → Fr h₀ L h m → News h₀ L h ((D, LCg.lst ys) :: news') → (∀ p ∈ news', p.1 ≠ D) → Q (.ref D) { s with heap := h, toks := tk }) (hJ : J 0 [] news) :
    SrcV prog w A h₀ L m env elt x scope cl Q (.ref r) s := ⟨n, news, _, _, J, .inl ⟨r, a, b, t, u, v, rfl, hr, hsm, hn, rfl, rfl⟩, hh, F, N, hsz, hJ, turn, fin⟩
theorem SrcV.list {Q : Value → Shared → Prop} {ax : Addr} {its : Array Value} {k : Nat} {news : Led} (J : Nat → List Value → Led → Prop) (hh : A.handled = none) (F : Fr h₀ L s.heap m) (N : News h₀ L s.heap news) (hm : (ax, ({ cls := .type "list", data := .seq its k } : Obj)) ∈ news) (hsz : its.size ≤ sizeLine)
    (turn : TurnV prog w A h₀ L m env elt x scope cl (LCg.SrcAt h₀ ax its) its.size (fun i v => its[i]? = some v) J s)
    (fin : ∀ D h tk ys news', J its.size ys news' → Fr h₀ L h m → News h₀ L h ((D, LCg.lst ys) :: news') → (∀ p ∈ news', p.1 ≠ D) → Q (.ref D) { s with heap := h, toks := tk }) (hJ : J 0 [] news) :
    SrcV prog w A h₀ L m env elt x scope cl Q (.ref ax) s := ⟨its.size, news, _, _, J, .inr ⟨ax, its, rfl, .inr ⟨_, hm, rfl, _, rfl⟩, rfl, rfl, rfl⟩, hh, F, N, hsz, hJ, turn, fin⟩
end
end

theorem fill (w : World) (h : Heap) : ((hdtop.heap_39 w.params).In h ∧ PySem.Challenge.rw_jc0016_01 = PySem.Challenge.rw_jc0016_01) → True := by
  k_fill
  intro _
  trivial
local macro_rules | `(tactic| walk_at "con plain") => `(tactic| (
  refine' con_plain' ?_
  intro p loose mean mg mb dp un gd outer A₀ base g' L' h' tk' s B' F' X' N' T' hdp hun l1
  (try dsimp only)
  (try k_lt l1)))
local macro_rules | `(tactic| walk_at "con cells") => `(tactic| (
  refine' con_cells' ?_
  intro p loose mean mg mb dp un gd outer A₀ base g' L' h' tk' s cells' B' F' X' N' Y' T' hdp hun l1
  (try k_lt l1)
  k_cells Y'
  (try simp only [List.cons_append, List.nil_append] at N')
  (try dsimp only)))
local macro_rules | `(tactic| walk_at "con end0") => `(tactic| ((try dsimp only); refine' done_nil ?_))
local macro_rules | `(tactic| walk_at "execs cons") => `(tactic| (k_here; dsimp only; k_gentoks))
local macro_rules | `(tactic| walk_at "go") => `(tactic| ((try (refine let_Q ?_; intro q9)); repeat' ((fail_if_success (with_reducible (first | show Hold _ | show Done _ _ _ _ _ _ | show UnrEnd _ _ _ _ _ _ _ | show UnrEndW _ _ _ _ _ _ | show wpAny _ _ (exec (Stmt.While _ _ _ _) _) _ _ _ | show wpAny _ _ (exec (Stmt.For _ _ _ _ _) _) _ _ _ | show wpAny _ _ (eval (Expr.ListComp _ _ _ _) _) _ _ _ | show wpAny _ _ (pyIter _) _ _ _))); (fail_if_success (walk_at "halt")); first | (k_unfold; (try dsimp only)) | walk1 | (dsimp only; walk1) | (leave1; walk_say "STEP leave1"; try dsimp only))))
local macro_rules | `(tactic| walk_at "goc") => `(tactic| ((try (refine let_Q ?_; intro q9)); repeat' ((fail_if_success (with_reducible (first | show Hold _ | show Done _ _ _ _ _ _ | show UnrEnd _ _ _ _ _ _ _ | show UnrEndW _ _ _ _ _ _ | show wpAny _ _ (exec (Stmt.While _ _ _ _) _) _ _ _ | show wpAny _ _ (exec (Stmt.For _ _ _ _ _) _) _ _ _ | show wpAny _ _ (eval (Expr.ListComp _ _ _ _) _) _ _ _ | show wpAny _ _ (pyIter _) _ _ _ | show LCg.CompSrc _ _ _ _ _ _ _ _ _ _ _ _ _ _ | show LCt.CompSrcT _ _ _ _ _ _ _ _ _ _ _ _ _ _ _ | show LCg.CompEnd _ _ _ _ _ _ _ _ _ _ _ _ _ _ | show SrcV _ _ _ _ _ _ _ _ _ _ _ _ _ _ | show EndV _ _ _ _ _ _ _ _ _ _ _ _ _))); (fail_if_success (walk_at "halt")); first | (k_unfold; (try dsimp only)) | walk1 | (dsimp only; walk1) | (leave1; walk_say "STEP leave1"; try dsimp only))))
local macro_rules | `(tactic| walk_at "go free") => `(tactic| ((try (refine let_Q ?_; intro q9)); repeat' ((fail_if_success (with_reducible (first | show Hold _ | show Done _ _ _ _ _ _ | show UnrEnd _ _ _ _ _ _ _ | show UnrEndW _ _ _ _ _ _))); (fail_if_success (walk_at "halt")); first | (k_unfold; (try dsimp only)) | walk1 | (dsimp only; walk1) | (leave1; walk_say "STEP leave1"; try dsimp only))))
local macro_rules | `(tactic| walk_at "go unroll") => `(tactic| (repeat' ((fail_if_success (with_reducible (first | show Hold _ | show Done _ _ _ _ _ _ | show UnrEnd _ _ _ _ _ _ _ | show UnrEndW _ _ _ _ _ _))); (fail_if_success (walk_at "halt")); first | (k_unfold; (try dsimp only)) | walk1 | (dsimp only; walk1) | (leave1; walk_say "STEP leave1"; try dsimp only))))
local macro_rules | `(tactic| k_all) => `(tactic| with_reducible assumption)
local macro_rules | `(tactic| walk_at "item led") => `(tactic| (
  refine' item_led ?k1 ?k2 ?k3 ?k4 ?k5 ?k6 ?k7 ?_ ?k8 ?k9
  (case k1 => k_asm)
  (case k2 => k_mem)
  (case k3 => exact rfl)
  (case k4 => exact rfl)
  (case k7 => first | assumption | exact rfl)
  (case k5 => first | decide | lia)
  (case k6 => first | decide | exact Int.lt_trans (by with_reducible assumption) (by decide) | lia)
  (case k8 => with_unfolding_all rfl)
  (case k9 => intro _; with_unfolding_all rfl)))
local macro_rules | `(tactic| walk_at "item ints") => `(tactic| (
  refine' item_ints ?k1 ?k2 ?k3 ?k4 ?k5 ?k7 ?k8 ?k0 ?_ ?ka ?kb
  (case k1 => k_asm)
  (case k2 => first | k_mem | (repeat' (first | assumption | exact List.Mem.head _ | apply List.Mem.tail)))
  (case k3 => exact rfl)
  (case k4 => exact rfl)
  (case k5 => assumption)
  (case k7 => first | decide | assumption | lia)
  (case k8 => lia)
  (case k0 => lia)
  (case ka => with_unfolding_all rfl)
  (case kb => intro _; with_unfolding_all rfl)
  intro t'))
local macro_rules | `(tactic| walk_at "item") => `(tactic| (k_here; k_dflt (first | walk_at "item led" | walk_at "item ints")))
local macro_rules | `(tactic| walk_at "subscriptTail Name Name ref int") => `(tactic| walk_at "item")
local macro_rules | `(tactic| walk_at "subscriptTail Name Constant ref int") => `(tactic| walk_at "item")
local macro_rules | `(tactic| walk_at "subscriptTail Name BinOp ref int") => `(tactic| walk_at "item")
local macro_rules | `(tactic| walk_at "subscriptTail Name Call ref int") => `(tactic| walk_at "item")
local macro_rules | `(tactic| walk_at "led sub") => `(tactic| with_reducible (repeat' (first | exact al_nil | exact at_head | exact in_self | assumption | refine al_cons ?_ ?_ | refine al_app ?_ ?_ | refine at_tail ?_ | refine in_tail ?_ | exact at_left at_head | exact in_left (in_tail in_self) | exact at_left (at_left (by repeat (first | exact at_head | refine at_tail ?_))) | exact at_left (at_right (by repeat (first | exact at_head | refine at_tail ?_))) | exact in_left in_self | exact in_left (in_left in_self) | exact in_left (in_right in_self) | refine at_right ?_ | refine in_right ?_)))
local macro_rules | `(tactic| l_bnd) => `(tactic| first | assumption | lia)
local macro_rules | `(tactic| side_arith) => `(tactic| first | decide | lia)
local macro_rules | `(tactic| k_ne) => `(tactic| (refine neN ?_; (try dsimp only); lia))

section -- ops
theorem fresh_ops {M : Model} {A : Around} {Q : Flow → Shared → Prop} {E : Value → Shared → Prop} {s : Shared} {env : Env} {pos : Pos} (h : wpAny M A (exec (.Pass pos) env) Q E s) : wpAny M A (exec (.Pass pos) env) Q E s := by
  w_top off
  first | (walk1; fail "fresh") | exact h
theorem con_ge (w : World) (x y : Int) (t u : Tok) : Con w 0 21 [.int x t, .int y u] [] (fun v tl => tl = [] ∧ ∃ _t : Tok, v = .bool (decide (x ≥ y))) := by
  walk_at "con plain"
  walk_at "go"
  walk_at "con end0"
  exact ⟨rfl, 0, rfl⟩
theorem con_minus (w : World) (x y : Int) (t u : Tok) : Con w 0 56 [.int x t, .int y u] [] (fun v tl => tl = [] ∧ ∃ t', v = .int (x - y) t') := by
  walk_at "con plain"
  walk_at "go"
  walk_at "con end0"
  exact ⟨rfl, _, rfl⟩
theorem con_mul (w : World) (x y : Int) (t u : Tok) (h0 : 0 ≤ y) (h1 : y ≤ 8) : Con w 0 42 [.int x t, .int y u] [] (fun v tl => tl = [] ∧ ∃ t', v = .int (x * y) t') := by
  walk_at "con plain"
  walk_at "go"
  walk_at "con end0"
  exact ⟨rfl, _, rfl⟩
theorem and16 {x y : Int} (hx : 0 ≤ x) (hx1 : x ≤ 15) (hy : 0 ≤ y) (hy1 : y ≤ 15) : Builtin.bitAnd x y = ((x.toNat &&& y.toNat : Nat) : Int) := by
  have h : ((List.range 16).all fun a => (List.range 16).all fun b => Builtin.bitAnd (a : Int) (b : Int) == ((a &&& b : Nat) : Int)) = true := by decide +kernel
  have e1 : x = ((x.toNat : Nat) : Int) := by lia
  have e2 : y = ((y.toNat : Nat) : Int) := by lia
  have := eq_of_beq (List.all_eq_true.mp (List.all_eq_true.mp h x.toNat (List.mem_range.mpr (by lia))) y.toNat (List.mem_range.mpr (by lia)))
  rwa [← e1, ← e2] at this
theorem xor16 {x y : Int} (hx : 0 ≤ x) (hx1 : x ≤ 15) (hy : 0 ≤ y) (hy1 : y ≤ 15) : Builtin.bitXor x y = ((x.toNat ^^^ y.toNat : Nat) : Int) := by
  have h : ((List.range 16).all fun a => (List.range 16).all fun b => Builtin.bitXor (a : Int) (b : Int) == ((a ^^^ b : Nat) : Int)) = true := by decide +kernel
  have e1 : x = ((x.toNat : Nat) : Int) := by omega
  have e2 : y = ((y.toNat : Nat) : Int) := by omega
  have := eq_of_beq (List.all_eq_true.mp (List.all_eq_true.mp h x.toNat (List.mem_range.mpr (by omega))) y.toNat (List.mem_range.mpr (by omega)))
  rwa [← e1, ← e2] at this
theorem con_and (w : World) (x y : Int) (t u : Tok) (hx : 0 ≤ x) (hx1 : x ≤ 15) (hy : 0 ≤ y) (hy1 : y ≤ 15) : Con w 0 28 [.int x t, .int y u] [] (fun v tl => tl = [] ∧ ∃ t', v = .int ((x.toNat &&& y.toNat : Nat) : Int) t') := by
  walk_at "con plain"
  walk_at "go"
  walk_at "con end0"
  exact ⟨rfl, _, by rw [and16 hx hx1 hy hy1]⟩
theorem con_shr (w : World) (x y : Int) (t u : Tok) (hx : 0 ≤ x) (hx1 : x ≤ 15) (hy : 0 ≤ y) (hy1 : y ≤ 3) : Con w 0 49 [.int x t, .int y u] [] (fun v tl => tl = [] ∧ ∃ t', v = .int ((x.toNat / 2 ^ y.toNat : Nat) : Int) t') := by
  walk_at "con plain"
  walk_at "go"
  walk_at "con end0"
  have e : x.fdiv (2 ^ y.toNat) = ((x.toNat / 2 ^ y.toNat : Nat) : Int) := by
    have hp : (0 : Int) ≤ 2 ^ y.toNat := Int.pow_nonneg (by decide)
    rw [Int.fdiv_eq_ediv_of_nonneg _ hp]
    have e1 : x = ((x.toNat : Nat) : Int) := by lia
    rw [e1]
    simp
  exact ⟨rfl, _, by rw [e]⟩
theorem con_shl (w : World) (x y : Int) (t u : Tok) (hx : 0 ≤ x) (hx1 : x ≤ 15) (hy : 0 ≤ y) (hy1 : y ≤ 3) : Con w 0 35 [.int x t, .int y u] [] (fun v tl => tl = [] ∧ ∃ t', v = .int (x * 2 ^ y.toNat) t') := by
  walk_at "con plain"
  walk_at "go"
  walk_at "con end0"
  exact ⟨rfl, _, rfl⟩
theorem con_xor (w : World) (x y : Int) (t u : Tok) (hx : 0 ≤ x) (hx1 : x ≤ 15) (hy : 0 ≤ y) (hy1 : y ≤ 15) : Con w 0 63 [.int x t, .int y u] [] (fun v tl => tl = [] ∧ ∃ t', v = .int ((x.toNat ^^^ y.toNat : Nat) : Int) t') := by
  walk_at "con plain"
  walk_at "go"
  walk_at "con end0"
  exact ⟨rfl, _, by rw [xor16 hx hx1 hy hy1]⟩
end

local macro_rules | `(tactic| walk_at "bd") => `(tactic| first | assumption | lia)
local macro_rules | `(tactic| walk_at "call ref") => `(tactic| (k_here; k_dflt ((first
  | refine' Con.useV (con_ge _ _ _ _ _) al_nil ?_
  | refine' Con.useV (con_minus _ _ _ _ _) al_nil ?_
  | refine' Con.useV (con_mul _ _ _ _ _ (by walk_at "bd") (by walk_at "bd")) al_nil ?_
  | refine' Con.useV (con_and _ _ _ _ _ (by walk_at "bd") (by walk_at "bd") (by walk_at "bd") (by walk_at "bd")) al_nil ?_
  | refine' Con.useV (con_shr _ _ _ _ _ (by walk_at "bd") (by walk_at "bd") (by walk_at "bd") (by walk_at "bd")) al_nil ?_
  | refine' Con.useV (con_shl _ _ _ _ _ (by walk_at "bd") (by walk_at "bd") (by walk_at "bd") (by walk_at "bd")) al_nil ?_
  | refine' Con.useV (con_xor _ _ _ _ _ (by walk_at "bd") (by walk_at "bd") (by walk_at "bd") (by walk_at "bd")) al_nil ?_); intro t9 h9 tk9 F9 N9)))

section -- dict
theorem fresh_dict {M : Model} {A : Around} {Q : Flow → Shared → Prop} {E : Value → Shared → Prop} {s : Shared} {env : Env} {pos : Pos} (h : wpAny M A (exec (.Pass pos) env) Q E s) : wpAny M A (exec (.Pass pos) env) Q E s := by
  w_top off
  first | (walk1; fail "fresh") | exact h
noncomputable abbrev KV := List (PySem.Str × Int)
noncomputable abbrev progN : Program := PySem.Challenge.rw_jc0016_01.row.prog
noncomputable def kvD (l : KV) : List (PyData × PyData) := l.map fun p => (.str p.1, .int p.2)
noncomputable def hasK (l : KV) (k : PySem.Str) : Bool := l.any (fun p => p.1 = k)
noncomputable def getK : KV → PySem.Str → Int
  | [], _ => 0
  | p :: r, k => if p.1 = k then p.2 else getK r k
noncomputable def putK (k : PySem.Str) (v : Int) (l : KV) : KV := if hasK l k then l.map (fun p => if p.1 = k then (p.1, v) else p) else l ++ [(k, v)]
/-- a dict of ints by texts -/
noncomputable def DictI (w : World) (o : Obj) (l : KV) : Prop := ∃ kvs, o.IsDictOf (PySem.strKind progN w) kvs ∧ PyProof.V.FlatPairs PyData.str kvs (kvD l)
theorem kvD_len (l : KV) : (kvD l).length = l.length := by simp [kvD]
theorem kvD_put (k : PySem.Str) (v : Int) (l : KV) : PyProof.V.putD (.str k) (.int v) (kvD l) = kvD (putK k v l) := by
  unfold PyProof.V.putD putK hasK kvD
  have e : (List.map (fun p : PySem.Str × Int => (PyData.str p.1, PyData.int p.2)) l).any (fun p => Spec.same p.1 (.str k)) = l.any (fun p => decide (p.1 = k)) := by
    rw [List.any_map]
    have e2 : ((fun p : PyData × PyData => Spec.same p.1 (.str k)) ∘ fun p : PySem.Str × Int => (PyData.str p.1, PyData.int p.2)) = fun p => decide (p.1 = k) := by
      funext p
      exact PyProof.V.same_str p.1 k
    rw [e2]
  rw [e]
  split
  · rw [List.map_map, List.map_map]
    congr 1
    funext p
    show (if Spec.same (.str p.1) (.str k) = true then _ else _) = _
    rw [PyProof.V.same_str]
    by_cases h : p.1 = k
    · simp [h]
    · simp [h]
  · simp
theorem kvD_lookup (k : PySem.Str) : ∀ l : KV, lookup (.str k) (kvD l) = if hasK l k then some (.int (getK l k)) else none
  | [] => rfl
  | p :: r => by
    have ih := kvD_lookup k r
    show (if Spec.same (.str p.1) (.str k) then some (PyData.int p.2) else lookup (.str k) (kvD r)) = _
    rw [PyProof.V.same_str, ih]
    have e1 : hasK (p :: r) k = (decide (p.1 = k) || hasK r k) := rfl
    have e2 : getK (p :: r) k = if p.1 = k then p.2 else getK r k := rfl
    rw [e1, e2]
    by_cases h : p.1 = k
    · simp [h]
    · simp [h]
theorem getK_none : ∀ {l : KV} {k : PySem.Str}, hasK l k = false → getK l k = 0
  | [], _, _ => rfl
  | p :: r, k, h => by
    unfold hasK at h
    rw [List.any_cons, Bool.or_eq_false_iff] at h
    have h1 : ¬ p.1 = k := of_decide_eq_false h.1
    rw [getK, if_neg h1]
    exact getK_none h.2
section
variable {w : World} {A : Around} {E : Value → Shared → Prop} {s : Shared} {h₀ : Heap} {L d : Addr} {m : LMap} {news : Led} {g : Obj → Led} {o : Obj} {l : KV} {k : PySem.Str} {t u : Tok} {v : Int}
theorem DictI.tab {h : Heap} (D : DictI w o l) (N : News h₀ L h news) (hm : (d, o) ∈ news) (lo : (d == sysModules) = false) : TabAt (PySem.strKind progN w) PyData.str h d (kvD l) :=
  let ⟨_, hd, hf⟩ := D; TabAt.ofNews N hm lo hd hf
theorem dict_nil (hd : o.IsDictOf (PySem.strKind progN w) []) : DictI w o [] := ⟨[], hd, .nil⟩
theorem dict_set {Q : Unit → Shared → Prop} (F : Fr h₀ L s.heap m) (N : News h₀ L s.heap news) (U : UpdF d o news g) (D : DictI w o l) (hsz : l.length ≤ 100)
    (h : ∀ h' o', Fr h₀ L h' m → News h₀ L h' (g o') → DictI w o' (putK k v l) → Q () { s with heap := h', toks := s.toks + 1 }) : wpAny (model progN w) A (setItem (.ref d) (.str k t) (.int v u)) Q E s := by
  obtain ⟨kvs, hd, hf⟩ := D
  refine setItem_K PyProof.V.same_str (strKind_is progN w k t) (PyProof.V.Flat.int v u) F N U hd hf (fun h' o' F' N' hd' hf' => h h' o' F' N' ⟨_, hd', by rw [← kvD_put]; exact hf'⟩) ?_
  rw [kvD_len, sizeLine_eq]
  lia
theorem dict_in {Q : Value → Shared → Prop} (N : News h₀ L s.heap news) (hm : (d, o) ∈ news) (lo : (d == sysModules) = false) (D : DictI w o l) (h : Q (.bool (hasK l k)) { s with toks := s.toks + 1 }) :
    wpAny (model progN w) A (compareOp .In (.str k t) (.ref d)) Q E s := by
  refine in_strTab (D.tab N hm lo) ?_
  rw [kvD_lookup]
  cases hq : hasK l k with
  | true => rw [hq] at h; exact h
  | false => rw [hq] at h; exact h
theorem dict_at {Q : Value → Shared → Prop} (N : News h₀ L s.heap news) (hm : (d, o) ∈ news) (lo : (d == sysModules) = false) (D : DictI w o l) (hk : hasK l k = true) (h : ∀ t', Q (.int (getK l k) t') { s with toks := s.toks + 1 }) :
    wpAny (model progN w) A (getItem (.ref d) (.str k t)) Q E s := by
  refine getItem_tab PyProof.V.same_str (strKind_is progN w k t) (D.tab N hm lo) (dv := .int (getK l k)) (by rw [kvD_lookup, hk]; rfl) fun v hv => ?_
  obtain ⟨t', e⟩ := PyProof.V.Flat.int_inv hv
  subst e
  exact h t'
theorem dict_mget {pl : Sem Bool} {Q : Value × List Value → Shared → Prop} (N : News h₀ L s.heap news) (hm : (d, o) ∈ news) (lo : (d == sysModules) = false) (D : DictI w o l) (h : Q (.builtin "dict.get", [.ref d]) s) :
    wpAny (model progN w) A (getMethod (.ref d) (PySem.Str.ofString "get") pl) Q E s :=
  getMethod_tab (knd := PySem.strKind progN w) (enc := PyData.str) PySem.F.slot_dict_get PySem.F.type_dict_get (D.tab N hm lo) h
theorem dict_get {Q : Value → Shared → Prop} (N : News h₀ L s.heap news) (hm : (d, o) ∈ news) (lo : (d == sysModules) = false) (D : DictI w o l) (h : ∀ t', Q (.int (getK l k) t') { s with toks := s.toks + 1 }) :
    wpAny (model progN w) A (call (.builtin "dict.get") [.ref d, .str k t, .int 0 u]) Q E s := by
  refine call_get2_strTab (D.tab N hm lo) (PyProof.V.Flat.int 0 u) fun v hv => ?_
  rw [kvD_lookup] at hv
  cases hq : hasK l k with
  | true =>
    rw [hq] at hv
    obtain ⟨t', e⟩ := PyProof.V.Flat.int_inv hv
    subst e
    exact h t'
  | false =>
    rw [hq] at hv
    obtain ⟨t', e⟩ := PyProof.V.Flat.int_inv hv
    subst e
    have := h t'
    rwa [getK_none hq] at this
end
noncomputable def IsDict (w : World) (q : Addr × Obj) (l : KV) : Prop := (q.1 == sysModules) = false ∧ DictI w q.2 l
end

section -- compare
theorem fresh_compare {M : Model} {A : Around} {Q : Flow → Shared → Prop} {E : Value → Shared → Prop} {s : Shared} {env : Env} {pos : Pos} (h : wpAny M A (exec (.Pass pos) env) Q E s) : wpAny M A (exec (.Pass pos) env) Q E s := by
  w_top off
  first | (walk1; fail "fresh") | exact h
noncomputable def ordI (a b d e : Int) : Int := if a < b then -d else if a > b then d else e
noncomputable def selI (i0 a b : Int) : Int := if i0 = 0 then a else b
noncomputable def cmpI (i0 d1 d2 b1 n1 k1 b2 n2 k2 : Int) : Int := ordI (selI i0 b1 n1) (selI i0 b2 n2) d1 (ordI k1 k2 d2 0)
theorem cmp0 (d1 d2 b1 n1 k1 b2 n2 k2 : Int) : cmpI 0 d1 d2 b1 n1 k1 b2 n2 k2 = ordI b1 b2 d1 (ordI k1 k2 d2 0) := rfl
theorem cmp1 (d1 d2 b1 n1 k1 b2 n2 k2 : Int) : cmpI 1 d1 d2 b1 n1 k1 b2 n2 k2 = ordI n1 n2 d1 (ordI k1 k2 d2 0) := rfl
theorem ordI_lt {a b d e : Int} (h : a < b) : ordI a b d e = -d := if_pos h
theorem ordI_gt {a b d e : Int} (h : ¬ a < b) (h2 : b < a) : ordI a b d e = d := by unfold ordI; rw [if_neg h, if_pos h2]
theorem ordI_eq {a b d e : Int} (h : ¬ a < b) (h2 : ¬ b < a) : ordI a b d e = e := by unfold ordI; rw [if_neg h, if_neg h2]
section
variable {prog : Program} {w : World} {A : Around} {E : Value → Shared → Prop} {s : Shared} {h₀ : Heap} {L l : Addr} {news : Led} {a b c : Value} {n : Nat} {value slice : PySem.Expr} {u : Tok} {Q : Value → Shared → Prop}
theorem tup3_0 (N : News h₀ L s.heap news) (hm : (l, tup #[a, b, c] n) ∈ news) (h : Q a s) (hs : subscripted slice false (.ref l) (.int 0 u) = operate [.ref l, .int 0 u] (getItem (.ref l) (.int 0 u)))
    (hg : ∀ r, letTemporaryGo value (.ref l) r = pure ()) : wpAny (model prog w) A (subscriptTail value slice (.ref l) (.int 0 u)) Q E s :=
  tup_led N hm rfl rfl (by decide) (by decide) rfl h hs hg
theorem tup3_1 (N : News h₀ L s.heap news) (hm : (l, tup #[a, b, c] n) ∈ news) (h : Q b s) (hs : subscripted slice false (.ref l) (.int 1 u) = operate [.ref l, .int 1 u] (getItem (.ref l) (.int 1 u)))
    (hg : ∀ r, letTemporaryGo value (.ref l) r = pure ()) : wpAny (model prog w) A (subscriptTail value slice (.ref l) (.int 1 u)) Q E s :=
  tup_led N hm rfl rfl (by decide) (by decide) rfl h hs hg
theorem tup3_2 (N : News h₀ L s.heap news) (hm : (l, tup #[a, b, c] n) ∈ news) (h : Q c s) (hs : subscripted slice false (.ref l) (.int 2 u) = operate [.ref l, .int 2 u] (getItem (.ref l) (.int 2 u)))
    (hg : ∀ r, letTemporaryGo value (.ref l) r = pure ()) : wpAny (model prog w) A (subscriptTail value slice (.ref l) (.int 2 u)) Q E s :=
  tup_led N hm rfl rfl (by decide) (by decide) rfl h hs hg
end
local macro_rules | `(tactic| walk_at "subscriptTail Name Name ref int") => `(tactic| (k_here; (with_reducible show wpAny _ _ (subscriptTail _ _ _ (Value.int 0 _)) _ _ _); k_dflt (refine' tup3_0 ?k1 ?k2 ?_ ?k8 ?k9; (case k1 => k_asm); (case k2 => k_mem); (case k8 => with_unfolding_all rfl); (case k9 => intro _; with_unfolding_all rfl))))
local macro_rules | `(tactic| walk_at "subscriptTail Name Name ref int") => `(tactic| (k_here; (with_reducible show wpAny _ _ (subscriptTail _ _ _ (Value.int 1 _)) _ _ _); k_dflt (refine' tup3_1 ?k1 ?k2 ?_ ?k8 ?k9; (case k1 => k_asm); (case k2 => k_mem); (case k8 => with_unfolding_all rfl); (case k9 => intro _; with_unfolding_all rfl))))
local macro_rules | `(tactic| walk_at "subscriptTail Name Name ref int") => `(tactic| (k_here; (with_reducible show wpAny _ _ (subscriptTail _ _ _ (Value.int 2 _)) _ _ _); k_dflt (refine' tup3_2 ?k1 ?k2 ?_ ?k8 ?k9; (case k1 => k_asm); (case k2 => k_mem); (case k8 => with_unfolding_all rfl); (case k9 => intro _; with_unfolding_all rfl))))
theorem con_compare (w : World) (c dx cl ta tb x y : Addr) (hk : Int) (kl ka kb kx ky kd : Nat) (i0 d1 d2 : Int) (tk u1 u2 u3 u4 : Tok) (b1 n1 k1 b2 n2 k2 : Int) (t1 t2 t3 t4 t5 t6 : Tok) (hi : i0 = 0 ∨ i0 = 1) :
    Con w 0 84 [.ref c, .ref x, .ref y] [(c, instObj 87 dx), (dx, dictOf [⟨hk, .str (PySem.Str.ofString "comp_select_list") tk, .ref cl⟩] kd), (cl, W.listOf #[.ref ta, .ref tb] kl), (ta, tup #[.int i0 u1, .int d1 u2] ka), (tb, tup #[.int 2 u3, .int d2 u4] kb),
      (x, tup #[.int b1 t1, .int n1 t2, .int k1 t3] kx), (y, tup #[.int b2 t4, .int n2 t5, .int k2 t6] ky)] (fun v tl => tl = [] ∧ ∃ t, v = .int (cmpI i0 d1 d2 b1 n1 k1 b2 n2 k2) t) := by
  walk_at "con plain"
  rename_i p loose mean mg mb dp un gd outer A₀ base g L h0 tk0 s B F X N TT hdp hun l1
  walk_at "go"
  rename Fr _ _ _ _ => F1
  k_here
  (with_unfolding_all refine' For_turns F1 ?_)
  walk_at "go"
  rename Fr _ _ _ _ => F1
  rename News _ _ _ _ => N1
  refine iter_listTurns (n := kl) (vs := [.ref ta, .ref tb]) rfl F1 N1 (by k_mem) rfl rfl ?_
  intro I hI
  k_lt hI
  rcases hi with rfl | rfl
  · refine ItemsRest.val ?_
    intro h2 tk2 F2
    refine AllObj.cons (fun oI hcI => AllObj.nil (fun N2 => ?_))
    simp only [List.cons_append, List.nil_append] at N2
    clear F1 N1
    walk_at "go"
    · rename b1 < b2 => q1
      walk_at "con end0"
      exact ⟨rfl, _, by rw [cmp0, ordI_lt q1]⟩
    · rename ¬ b1 < b2 => q1
      rename b2 < b1 => q2
      walk_at "con end0"
      exact ⟨rfl, _, by rw [cmp0, ordI_gt q1 q2]⟩
    · rename ¬ b1 < b2 => q1
      rename ¬ b2 < b1 => q2
      rename Fr _ _ _ _ => F3
      rename News _ _ _ _ => N3
      refine ⟨_, _, _, [_, _, _, _, _, _, _], rfl, F3, N3, (fun q hq r hr => by
        rw [List.mem_singleton.mp hr]
        exact off1 hI.1 (off1 hI.2.1 (off1 hI.2.2.1 (off1 hI.2.2.2.1 (off1 hI.2.2.2.2.1 (off1 hI.2.2.2.2.2.1 (off1 hI.2.2.2.2.2.2 off0)))))) q hq), by k_subL, ?_⟩
      refine ItemsRest.val ?_
      intro h4 tk4 F4
      refine AllObj.cons (fun oI hcI => AllObj.nil (fun N4 => ?_))
      simp only [List.cons_append, List.nil_append] at N4
      clear F3 N3
      walk_at "go"
      · rename k1 < k2 => q3
        walk_at "con end0"
        exact ⟨rfl, _, by rw [cmp0, ordI_eq q1 q2, ordI_lt q3]⟩
      · rename ¬ k1 < k2 => q3
        rename k2 < k1 => q4
        walk_at "con end0"
        exact ⟨rfl, _, by rw [cmp0, ordI_eq q1 q2, ordI_gt q3 q4]⟩
      · rename ¬ k1 < k2 => q3
        rename ¬ k2 < k1 => q4
        rename Fr _ _ _ _ => F3
        rename News _ _ _ _ => N3
        refine ⟨_, _, _, [_, _, _, _, _, _, _], rfl, F3, N3, (fun q hq r hr => by
          rw [List.mem_singleton.mp hr]
          exact off1 hI.1 (off1 hI.2.1 (off1 hI.2.2.1 (off1 hI.2.2.2.1 (off1 hI.2.2.2.2.1 (off1 hI.2.2.2.2.2.1 (off1 hI.2.2.2.2.2.2 off0)))))) q hq), by k_subL, ?_⟩
        refine ItemsRest.zero ?_
        intro h5 tk5 F5 N5
        clear F3 N3
        walk_at "go"
        dsimp only
        refine mkD _ _ ([]) F5 N5 (fun _ h => nomatch h) ⟨rfl, _, by rw [cmp0, ordI_eq q1 q2, ordI_eq q3 q4]⟩ _ _ rfl
  · refine ItemsRest.val ?_
    intro h2 tk2 F2
    refine AllObj.cons (fun oI hcI => AllObj.nil (fun N2 => ?_))
    simp only [List.cons_append, List.nil_append] at N2
    clear F1 N1
    walk_at "go"
    · rename n1 < n2 => q1
      walk_at "con end0"
      exact ⟨rfl, _, by rw [cmp1, ordI_lt q1]⟩
    · rename ¬ n1 < n2 => q1
      rename n2 < n1 => q2
      walk_at "con end0"
      exact ⟨rfl, _, by rw [cmp1, ordI_gt q1 q2]⟩
    · rename ¬ n1 < n2 => q1
      rename ¬ n2 < n1 => q2
      rename Fr _ _ _ _ => F3
      rename News _ _ _ _ => N3
      refine ⟨_, _, _, [_, _, _, _, _, _, _], rfl, F3, N3, (fun q hq r hr => by
        rw [List.mem_singleton.mp hr]
        exact off1 hI.1 (off1 hI.2.1 (off1 hI.2.2.1 (off1 hI.2.2.2.1 (off1 hI.2.2.2.2.1 (off1 hI.2.2.2.2.2.1 (off1 hI.2.2.2.2.2.2 off0)))))) q hq), by k_subL, ?_⟩
      refine ItemsRest.val ?_
      intro h4 tk4 F4
      refine AllObj.cons (fun oI hcI => AllObj.nil (fun N4 => ?_))
      simp only [List.cons_append, List.nil_append] at N4
      clear F3 N3
      walk_at "go"
      · rename k1 < k2 => q3
        walk_at "con end0"
        exact ⟨rfl, _, by rw [cmp1, ordI_eq q1 q2, ordI_lt q3]⟩
      · rename ¬ k1 < k2 => q3
        rename k2 < k1 => q4
        walk_at "con end0"
        exact ⟨rfl, _, by rw [cmp1, ordI_eq q1 q2, ordI_gt q3 q4]⟩
      · rename ¬ k1 < k2 => q3
        rename ¬ k2 < k1 => q4
        rename Fr _ _ _ _ => F3
        rename News _ _ _ _ => N3
        refine ⟨_, _, _, [_, _, _, _, _, _, _], rfl, F3, N3, (fun q hq r hr => by
          rw [List.mem_singleton.mp hr]
          exact off1 hI.1 (off1 hI.2.1 (off1 hI.2.2.1 (off1 hI.2.2.2.1 (off1 hI.2.2.2.2.1 (off1 hI.2.2.2.2.2.1 (off1 hI.2.2.2.2.2.2 off0)))))) q hq), by k_subL, ?_⟩
        refine ItemsRest.zero ?_
        intro h5 tk5 F5 N5
        clear F3 N3
        walk_at "go"
        dsimp only
        refine mkD _ _ ([]) F5 N5 (fun _ h => nomatch h) ⟨rfl, _, by rw [cmp1, ordI_eq q1 q2, ordI_eq q3 q4]⟩ _ _ rfl
end

section -- line
theorem fresh_line {M : Model} {A : Around} {Q : Flow → Shared → Prop} {E : Value → Shared → Prop} {s : Shared} {env : Env} {pos : Pos} (h : wpAny M A (exec (.Pass pos) env) Q E s) : wpAny M A (exec (.Pass pos) env) Q E s := by
  w_top off
  first | (walk1; fail "fresh") | exact h
noncomputable def tupD (o : Obj) : Int × Int × Int := match o.data with
  | .seq a _ => (match a.toList with
    | [.int b _, .int n _, .int k _] => (b, n, k)
    | _ => (0, 0, 0))
  | _ => (0, 0, 0)
/-- whether q stands ahead of x -/
noncomputable def cmpQ (i0 d1 d2 : Int) (q x : Addr × Obj) : Int := cmpI i0 d1 d2 (tupD q.2).1 (tupD q.2).2.1 (tupD q.2).2.2 (tupD x.2).1 (tupD x.2).2.1 (tupD x.2).2.2
noncomputable def insQ (p : Addr × Obj → Addr × Obj → Bool) (x : Addr × Obj) (l : Led) : Led := l.takeWhile (fun q => p q x) ++ x :: l.dropWhile (fun q => p q x)
noncomputable def lineQ (p : Addr × Obj → Addr × Obj → Bool) (ns : Led) : Led := ns.foldl (fun l x => insQ p x l) []
theorem tw_step {α : Type} {p : α → Bool} : ∀ {l : List α} {j : Nat} {q : α}, l[j]? = some q → j ≤ (l.takeWhile p).length → (p q = true → j + 1 ≤ (l.takeWhile p).length) ∧ (p q = false → j = (l.takeWhile p).length)
  | [], _, _, h, _ => by simp at h
  | a :: l, 0, q, h, _ => by
    cases h
    rw [List.takeWhile_cons]
    constructor
    · intro hp; rw [if_pos hp]; simp
    · intro hp; rw [if_neg (by rw [hp]; decide)]; rfl
  | a :: l, j + 1, q, h, hj => by
    rw [List.takeWhile_cons] at hj ⊢
    split at hj
    · rename_i ha
      rw [if_pos ha]
      have h2 : l[j]? = some q := by simpa using h
      have ih := tw_step (p := p) h2 (by simpa using hj)
      simp only [List.length_cons]
      exact ⟨fun hp => Nat.succ_le_succ (ih.1 hp), fun hp => congrArg Nat.succ (ih.2 hp)⟩
    · simp at hj
theorem tw_len {α : Type} {p : α → Bool} (l : List α) : (l.takeWhile p).length ≤ l.length := by
  have := congrArg List.length (List.takeWhile_append_dropWhile (p := p) (l := l))
  rw [List.length_append] at this
  lia
theorem ins_take {p : Addr × Obj → Addr × Obj → Bool} {x : Addr × Obj} {l : Led} : l.take (l.takeWhile (fun q => p q x)).length ++ x :: l.drop (l.takeWhile (fun q => p q x)).length = insQ p x l := by
  have e := List.takeWhile_append_dropWhile (p := fun q => p q x) (l := l)
  generalize h1 : l.takeWhile (fun q => p q x) = a at *
  generalize h2 : l.dropWhile (fun q => p q x) = b at *
  unfold insQ
  rw [h1, h2, ← e]
  simp
theorem insQ_mem {p : Addr × Obj → Addr × Obj → Bool} {x q : Addr × Obj} {l : Led} (h : q ∈ insQ p x l) : q = x ∨ q ∈ l := by
  unfold insQ at h
  rcases List.mem_append.mp h with h | h
  · exact .inr (List.mem_of_mem_take (List.takeWhile_prefix (fun q => p q x) |>.subset h |> fun z => by rw [List.take_length]; exact z))
  · rcases List.mem_cons.mp h with h | h
    · exact .inl h
    · exact .inr ((List.dropWhile_suffix (fun q => p q x)).subset h)
theorem insQ_len {p : Addr × Obj → Addr × Obj → Bool} {x : Addr × Obj} {l : Led} : (insQ p x l).length = l.length + 1 := by
  have := congrArg List.length (List.takeWhile_append_dropWhile (p := fun q => p q x) (l := l))
  rw [List.length_append] at this
  unfold insQ
  rw [List.length_append, List.length_cons]
  lia
theorem lineQ_succ {p : Addr × Obj → Addr × Obj → Bool} {ns : Led} {j : Nat} {x : Addr × Obj} (h : ns[j]? = some x) : lineQ p (ns.take (j + 1)) = insQ p x (lineQ p (ns.take j)) := by
  unfold lineQ
  rw [List.take_add_one, h, List.foldl_append]
  rfl
section
variable {prog : Program} {w : World} {A : Around} {E : Value → Shared → Prop} {s : Shared} {h₀ : Heap} {L l : Addr} {m : LMap} {news : Led} {o : Obj} {vs : List Value} {n : Nat} {value slice : PySem.Expr} {j : Nat} {t : Tok} {Q : Value → Shared → Prop}
theorem len_led {f : Addr × Obj → Value} {ln : Led} {k : Nat} (N : News h₀ L s.heap news) (hm : (l, o) ∈ news) (hc : o.cls = .type "list") (hd : o.data = .seq (ln.map f).toArray n) (hz : ln.length < 100) (h : Q (.int (ln.length : Nat) (s.toks + 1)) { s with toks := s.toks + 1 + 1 }) :
    wpAny (model prog w) A (call (.builtin "len") [.ref l]) Q E s := by
  have hl : s.heap.IsList l (ln.map f).toArray := ⟨o, N.get hm, hc, n, hd⟩
  refine len_list hl (by rw [List.size_toArray, List.length_map]; lia) ?_
  rw [List.size_toArray, List.length_map]
  exact h
theorem slice_up (F : Fr h₀ L s.heap m) (N : News h₀ L s.heap news) (hm : (l, o) ∈ news) (hc : o.cls = .type "list") (hd : o.data = .seq vs.toArray n) (hj : j ≤ vs.length) (hz : vs.length ≤ 100)
    (h : ∀ D h', Fr h₀ L h' m → News h₀ L h' ((D, W.listOf (vs.take j).toArray 0) :: news) → (∀ p ∈ news, p.1 < D) → Q (.ref D) { s with heap := h' })
    (hs : subscripted slice false (.ref l) (.ref s.heap.objs.size) = operate [.ref s.heap.objs.size, .ref l] (getItem (.ref l) (.ref s.heap.objs.size))) (ht : ∀ r, letTemporaryGo value (.ref l) r = pure ()) :
    wpAny (model prog w) A (subscriptTail value slice (.ref l) (.ref s.heap.objs.size)) Q E { s with heap := s.heap.push { cls := .type "slice", data := .fields #[.none, .int (j : Int) t, .none] } } :=
  kmk_slice_lit F N ⟨o, N.get hm, hc, n, hd⟩ IsPart.none (IsPart.int _ _) (by rw [slicePick_upto _ _ (by simpa using hj)]) h hs ht (by rw [List.size_toArray, sizeLine_eq]; lia)
theorem slice_dn (F : Fr h₀ L s.heap m) (N : News h₀ L s.heap news) (hm : (l, o) ∈ news) (hc : o.cls = .type "list") (hd : o.data = .seq vs.toArray n) (hj : j ≤ vs.length) (hz : vs.length ≤ 100)
    (h : ∀ D h', Fr h₀ L h' m → News h₀ L h' ((D, W.listOf (vs.drop j).toArray 0) :: news) → (∀ p ∈ news, p.1 < D) → Q (.ref D) { s with heap := h' })
    (hs : subscripted slice false (.ref l) (.ref s.heap.objs.size) = operate [.ref s.heap.objs.size, .ref l] (getItem (.ref l) (.ref s.heap.objs.size))) (ht : ∀ r, letTemporaryGo value (.ref l) r = pure ()) :
    wpAny (model prog w) A (subscriptTail value slice (.ref l) (.ref s.heap.objs.size)) Q E { s with heap := s.heap.push { cls := .type "slice", data := .fields #[.int (j : Int) t, .none, .none] } } :=
  kmk_slice_lit F N ⟨o, N.get hm, hc, n, hd⟩ (IsPart.int _ _) IsPart.none (by rw [slicePick_from _ _ (by simpa using hj)]) h hs ht (by rw [List.size_toArray, sizeLine_eq]; omega)
theorem add_led {a b : Addr} {o1 o2 : Obj} {va vb : List Value} {n1 n2 : Nat} (F : Fr h₀ L s.heap m) (N : News h₀ L s.heap news) (hm1 : (a, o1) ∈ news) (hm2 : (b, o2) ∈ news) (hc1 : o1.cls = .type "list") (hd1 : o1.data = .seq va.toArray n1) (hc2 : o2.cls = .type "list") (hd2 : o2.data = .seq vb.toArray n2) (hz1 : va.length ≤ 100) (hz2 : vb.length ≤ 100)
    (h : ∀ D h', Fr h₀ L h' m → News h₀ L h' ((D, W.listOf (va ++ vb).toArray 0) :: news) → (∀ p ∈ news, p.1 < D) → Q (.ref D) { s with heap := h' }) :
    wpAny (model prog w) A (binaryOp .Add (.ref a) (.ref b)) Q E s :=
  add_arrays F N ⟨o1, N.get hm1, hc1, n1, hd1⟩ ⟨o2, N.get hm2, hc2, n2, hd2⟩ (fun h' F' N' => h _ h' F' N' fun p hp => Heap.lt_size (N p hp).1) (by rw [List.size_toArray, List.size_toArray, sizeLine_eq]; lia)
end
theorem sub7 {x1 x2 x3 x4 x5 x6 x7 : Addr × Obj} {big : Led} (h1 : x1 ∈ big) (h2 : x2 ∈ big) (h3 : x3 ∈ big) (h4 : x4 ∈ big) (h5 : x5 ∈ big) (h6 : x6 ∈ big) (h7 : x7 ∈ big) : ∀ q ∈ [x1, x2, x3, x4, x5, x6, x7], q ∈ big := fun q hq => by
  simp only [List.mem_cons, List.not_mem_nil, or_false] at hq
  rcases hq with hq | hq | hq | hq | hq | hq | hq <;> rw [hq] <;> assumption
local macro_rules | `(tactic| walk_at "subscriptTail Name Slice ref ref") => `(tactic| (k_here; (with_reducible show wpAny _ _ (subscriptTail _ (PySem.Expr.Slice none _ none _) (Value.ref _) (Value.ref _)) _ _ _); k_dflt (refine' slice_up (s := ⟨_, _, _, _, _⟩) ?F ?N ?l ?p ?q ?e ?z ?_ ?s ?t; (case F => k_asm); (case N => k_asm); (case l => k_mem); (case p => exact rfl); (case q => exact rfl); (case e => (simp only [List.length_map]; omega)); (case z => (simp only [List.length_map]; lia)); (case s => with_unfolding_all rfl); (case t => intro _; with_unfolding_all rfl)); intro D' h' F' N' l1; (try k_lt l1); (try k_sweep)))
local macro_rules | `(tactic| walk_at "subscriptTail Name Slice ref ref") => `(tactic| (k_here; (with_reducible show wpAny _ _ (subscriptTail _ (PySem.Expr.Slice _ none none _) (Value.ref _) (Value.ref _)) _ _ _); k_dflt (refine' slice_dn (s := ⟨_, _, _, _, _⟩) ?F ?N ?l ?p ?q ?e ?z ?_ ?s ?t; (case F => k_asm); (case N => k_asm); (case l => k_mem); (case p => exact rfl); (case q => exact rfl); (case e => (simp only [List.length_map]; omega)); (case z => (simp only [List.length_map]; lia)); (case s => with_unfolding_all rfl); (case t => intro _; with_unfolding_all rfl)); intro D' h' F' N' l1; (try k_lt l1); (try k_sweep)))
local macro_rules | `(tactic| walk_at "call builtin:len") => `(tactic| (k_here; k_dflt (refine' len_led (k := 0) ?N ?m ?c ?d ?z ?_; (case N => k_asm); (case m => k_mem); (case c => exact rfl); (case d => exact rfl); (case z => assumption))))
local macro_rules | `(tactic| walk_at "call ref") => `(tactic| (k_here; k_dflt (refine' Con.useV (con_compare _ _ _ _ _ _ _ _ _ _ _ _ _ _ _ _ _ _ _ _ _ _ _ _ _ _ _ _ _ _ _ _ _ _ _ ?p1) ?k9 ?_; (case k9 => (refine' sub7 ?a1 ?a2 ?a3 ?a4 ?a5 ?a6 ?a7; (all_goals (repeat' (first | exact List.Mem.head _ | assumption | apply List.Mem.tail))))); (case p1 => assumption); intro t9 h9 tk9 F9 N9)))
local macro_rules | `(tactic| walk_at "binaryOp Add ref ref") => `(tactic| (k_here; k_dflt (refine' add_led ?F ?N ?l1 ?l2 ?p1 ?q1 ?p2 ?q2 ?z1 ?z2 ?_; (case F => k_asm); (case N => k_asm); (case l1 => k_mem); (case l2 => k_mem); (case p1 => exact rfl); (case q1 => exact rfl); (case p2 => exact rfl); (case q2 => exact rfl); (case z1 => (simp only [List.length_append, List.length_take, List.length_drop, List.length_map, List.length_cons, List.length_nil]; lia)); (case z2 => (simp only [List.length_append, List.length_take, List.length_drop, List.length_map, List.length_cons, List.length_nil]; lia))); intro D' h' F' N' l1; (try k_lt l1); (try k_sweep)))
theorem lt_all6 {D a1 a2 a3 a4 a5 a6 : Addr} {o1 o2 o3 o4 o5 o6 : Obj} {l : Led} (h1 : @LT.lt Nat _ a1 D) (h2 : @LT.lt Nat _ a2 D) (h3 : @LT.lt Nat _ a3 D) (h4 : @LT.lt Nat _ a4 D) (h5 : @LT.lt Nat _ a5 D) (h6 : @LT.lt Nat _ a6 D) (h7 : AllLt D l) :
    ∀ q ∈ (a1, o1) :: (a2, o2) :: (a3, o3) :: (a4, o4) :: (a5, o5) :: (a6, o6) :: l, @LT.lt Nat _ q.1 D := fun q hq => by
  simp only [List.mem_cons] at hq
  rcases hq with hq | hq | hq | hq | hq | hq | hq
  · rw [hq]; exact h1
  · rw [hq]; exact h2
  · rw [hq]; exact h3
  · rw [hq]; exact h4
  · rw [hq]; exact h5
  · rw [hq]; exact h6
  · exact ktn_ltOf h7 q hq
theorem con_line (w : World) (c dx cl ta tb Nm : Addr) (hk : Int) (kl ka kb kd kn : Nat) (i0 d1 d2 : Int) (tkc u1 u2 u3 u4 : Tok) (ns : Led) (hi : i0 = 0 ∨ i0 = 1) (hlen : ns.length ≤ 10)
    (hns : ∀ q ∈ ns, ∃ b n k t1 t2 t3 kq, q.2 = tup #[.int b t1, .int n t2, .int k t3] kq) :
    Con w 1 169 [.ref c, .ref Nm] ((Nm, W.listOf (ns.map fun q => Value.ref q.1).toArray kn) :: (c, instObj 87 dx) :: (dx, dictOf [⟨hk, .str (PySem.Str.ofString "comp_select_list") tkc, .ref cl⟩] kd) :: (cl, W.listOf #[.ref ta, .ref tb] kl) :: (ta, tup #[.int i0 u1, .int d1 u2] ka) :: (tb, tup #[.int 2 u3, .int d2 u4] kb) :: ns)
      (fun v tl => ∃ D kk, v = .ref D ∧ tl = [(D, W.listOf ((lineQ (fun q x => cmpQ i0 d1 d2 q x == -1) ns).map fun q => Value.ref q.1).toArray kk)]) := by
  walk_at "con plain"
  rename_i p loose mean mg mb dp un gd outer A₀ base g L h0 tk0 s B F X N TT hdp hun l1
  walk_at "go"
  rename_i D0 _ hD0 _ F1 N1
  k_here
  (with_unfolding_all refine' For_invVF F1 ?k1 ?k2 ?_; (case k1 => exact rfl); (case k2 => exact rfl))
  walk_at "go"
  rename Fr _ _ _ _ => F1
  rename News _ _ _ _ => N1
  refine' iter_listUnr (n := kn) (vs := ns.map fun q => Value.ref q.1) ?q1 ?q2 ?q3 ?q4 ?q5 ?q6 ?_
  (case q1 => rfl)
  (case q2 => exact F1)
  (case q3 => exact N1)
  (case q4 => k_mem)
  (case q5 => rfl)
  (case q6 => rfl)
  intro I hI
  k_lt hI
  have hIb : ∀ q ∈ (Nm, W.listOf (ns.map fun q => Value.ref q.1).toArray kn) :: (c, instObj 87 dx) :: (dx, dictOf [⟨hk, .str (PySem.Str.ofString "comp_select_list") tkc, .ref cl⟩] kd) :: (cl, W.listOf #[.ref ta, .ref tb] kl) :: (ta, tup #[.int i0 u1, .int d1 u2] ka) :: (tb, tup #[.int 2 u3, .int d2 u4] kb) :: ns, @LT.lt Nat _ q.1 I := by
    obtain ⟨_, h1, h2, h3, h4, h5, h6, h7⟩ := hI
    exact lt_all6 h1 h2 h3 h4 h5 h6 h7
  refine list_inv (fun r m' n' => Hold (∃ (j D kk : Nat) (ln : Led), n' = (D, W.listOf (ln.map fun q => Value.ref q.1).toArray kk) :: (Nm, W.listOf (ns.map fun q => Value.ref q.1).toArray kn) :: (c, instObj 87 dx) :: (dx, dictOf [⟨hk, .str (PySem.Str.ofString "comp_select_list") tkc, .ref cl⟩] kd) :: (cl, W.listOf #[.ref ta, .ref tb] kl) :: (ta, tup #[.int i0 u1, .int d1 u2] ka) :: (tb, tup #[.int 2 u3, .int d2 u4] kb) :: ns ∧ j ≤ ns.length ∧ r = (ns.drop j).map (fun q => Value.ref q.1) ∧ ln = lineQ (fun q x => cmpQ i0 d1 d2 q x == -1) (ns.take j) ∧ (∀ q ∈ ln, q ∈ ns) ∧ ln.length = j ∧ HasL m' [("comp", .ref c), ("names", .ref Nm), ("line", .ref D)] ∧ (@Ne Nat D I) ∧ (∀ q ∈ (Nm, W.listOf (ns.map fun q => Value.ref q.1).toArray kn) :: (c, instObj 87 dx) :: (dx, dictOf [⟨hk, .str (PySem.Str.ofString "comp_select_list") tkc, .ref cl⟩] kd) :: (cl, W.listOf #[.ref ta, .ref tb] kl) :: (ta, tup #[.int i0 u1, .int d1 u2] ka) :: (tb, tup #[.int 2 u3, .int d2 u4] kb) :: ns, @LT.lt Nat _ q.1 D))) ?_ ?_ _ _ _ ?_
  · clear F1 N1
    rintro v r m' n' it h tk2 ex9
    apply exs_4_8 ex9
    clear ex9
    rintro j D kk ln hj er eln hsub hll m1 hDI hLD hit F1 N1
    cases hd : ns.drop j with
    | nil => rw [hd] at er; cases er
    | cons q rest =>
      rw [hd] at er
      have e1 := (List.cons.inj er).1
      have e2 := (List.cons.inj er).2
      subst e1
      have hjl : j < ns.length := by
        have := congrArg List.length hd
        simp at this
        lia
      have hd2 := List.drop_eq_getElem_cons hjl
      rw [hd] at hd2
      have e4 := (List.cons.inj hd2).1
      have e5 := (List.cons.inj hd2).2
      have hqj : ns[j]? = some q := by rw [List.getElem?_eq_getElem hjl, e4]
      have hqn : q ∈ ns := List.mem_of_getElem? hqj
      replace F1 := fr_canons (ps := [("name", .ref q.1), ("comp", .ref c), ("names", .ref Nm), ("line", .ref D)]) F1 ⟨rfl, m1⟩
      dsimp only [canonM] at F1
      walk_at "go"
      have hln : ln.length < 100 := by lia
      rename Fr _ _ _ _ => F2
      rename News _ _ _ _ => N2
      clear F1
      refine ex_7 (hns q hqn) ?_
      intro b2 n2 k2 t4 t5 t6 kq2 eq2
      rcases q with ⟨qa, qo⟩
      have eq2' : qo = tup #[.int b2 t4, .int n2 t5, .int k2 t6] kq2 := eq2
      subst eq2'
      clear eq2
      generalize hp : (fun y : Addr × Obj => cmpQ i0 d1 d2 y (qa, tup #[.int b2 t4, .int n2 t5, .int k2 t6] kq2) == -1) = p
      refine wpAny_mono (Q := fun f s' => Hold (f = Flow.next ∧ ∃ h' tk' tp m', s' = { s with heap := h', toks := tk' } ∧ Fr g L h' m' ∧ News g L h' ((I, it) :: (D, W.listOf (ln.map fun q => Value.ref q.1).toArray kk) :: (Nm, W.listOf (ns.map fun q => Value.ref q.1).toArray kn) :: (c, instObj 87 dx) :: (dx, dictOf [⟨hk, .str (PySem.Str.ofString "comp_select_list") tkc, .ref cl⟩] kd) :: (cl, W.listOf #[.ref ta, .ref tb] kl) :: (ta, tup #[.int i0 u1, .int d1 u2] ka) :: (tb, tup #[.int 2 u3, .int d2 u4] kb) :: ns) ∧ HasL m' [("comp", .ref c), ("names", .ref Nm), ("line", .ref D), ("name", .ref qa), ("place", .int (((ln.takeWhile p).length : Nat) : Int) tp)])) ?_ ?_ (fun _ _ e => e)
      · k_here
        refine while_start (by passes_own) (fun k s₁ => ∃ h' tk' tp m' n, s₁ = { s with heap := h', toks := tk' } ∧ Fr g L h' m' ∧ News g L h' ((I, it) :: (D, W.listOf (ln.map fun q => Value.ref q.1).toArray kk) :: (Nm, W.listOf (ns.map fun q => Value.ref q.1).toArray kn) :: (c, instObj 87 dx) :: (dx, dictOf [⟨hk, .str (PySem.Str.ofString "comp_select_list") tkc, .ref cl⟩] kd) :: (cl, W.listOf #[.ref ta, .ref tb] kl) :: (ta, tup #[.int i0 u1, .int d1 u2] ka) :: (tb, tup #[.int 2 u3, .int d2 u4] kb) :: ns) ∧ HasL m' [("comp", .ref c), ("names", .ref Nm), ("line", .ref D), ("name", .ref qa), ("place", .int ((n : Nat) : Int) tp)] ∧ n ≤ (ln.takeWhile p).length ∧ k + n = 100) 100 ?_ ?_
        · exact mks_5_5 _ _ _ _ 0 rfl F2 N2 ⟨rfl, rfl, rfl, rfl, rfl, trivial⟩ (Nat.zero_le _) rfl
        · clear F2 N2
          rintro k s₁ ex9
          apply exs_5_5 ex9
          clear ex9
          intro h' tk' tp m' n F1 N1 m1 hn hkn
          replace F1 := fr_canons F1 m1
          dsimp only [canonM] at F1
          have htl := tw_len (p := p) ln
          rcases Nat.lt_or_ge n ln.length with hnl | hnl
          · refine ex_1 (show ∃ qq, ln[n]? = some qq from ⟨_, List.getElem?_eq_getElem hnl⟩) ?_
            intro qq hqq
            have hqm := hsub _ (List.mem_of_getElem? hqq)
            refine ex_7 (hns qq hqm) ?_
            intro b1 n1 k1 t1 t2 t3 kq1 eq1
            rcases qq with ⟨pa, po⟩
            have eq1' : po = tup #[.int b1 t1, .int n1 t2, .int k1 t3] kq1 := eq1
            subst eq1'
            clear eq1
            have hstep := tw_step (p := p) hqq hn
            have epp : p (pa, tup #[.int b1 t1, .int n1 t2, .int k1 t3] kq1) = (cmpI i0 d1 d2 b1 n1 k1 b2 n2 k2 == -1) := by rw [← hp]; rfl
            have hget : (ln.map fun q => Value.ref q.1)[((n : Nat) : Int).toNat]? = some (.ref pa) := by
              show (ln.map fun q => Value.ref q.1)[n]? = _
              rw [List.getElem?_map, hqq]
              rfl
            walk_at "go"
            · rename _ = (-1 : Int) => hc
              have hn2 := hstep.1 (by rw [epp, hc]; rfl)
              exact Hold.of ⟨99 - n, by lia, mks_5_5 _ _ _ _ (n + 1) rfl (by assumption) (by assumption) ⟨rfl, rfl, rfl, rfl, rfl, trivial⟩ hn2 (by lia)⟩
            · rename _ ≠ (-1 : Int) => hc
              have hn2 := hstep.2 (by rw [epp]; simpa using hc)
              exact Hold.of ⟨by trivial, mks_4_3 _ _ _ _ rfl (by assumption) (by assumption) ⟨rfl, rfl, rfl, rfl, (by rw [← hn2]; rfl), trivial⟩⟩
          · have hn2 : n = (ln.takeWhile p).length := by lia
            walk_at "go"
            exact Hold.of ⟨by trivial, mks_4_3 _ _ _ _ rfl (by assumption) (by assumption) ⟨rfl, rfl, rfl, rfl, (by rw [← hn2]; rfl), trivial⟩⟩
      · clear F2 N2
        rintro f s' ⟨rfl, ex9⟩
        apply exs_4_3 ex9
        clear ex9
        intro h' tk' tp m' F1 N1 m1
        have htl := tw_len (p := p) ln
        replace F1 := fr_canons F1 m1
        dsimp only [canonM] at F1
        dsimp only
        walk_at "go"
        rename Fr _ _ _ _ => F3
        rename News _ _ _ _ => N3
        rename (_ ∧ _ ∧ _ ∧ _ ∧ _ ∧ _ ∧ _ ∧ _ ∧ _ ∧ _ ∧ _ ∧ _ ∧ AllLt _ _) => hA
        have eL : (List.take (ln.takeWhile p).length (ln.map fun q => Value.ref q.1) ++ [Value.ref qa] ++ List.drop (ln.takeWhile p).length (ln.map fun q => Value.ref q.1)) = (insQ (fun q x => cmpQ i0 d1 d2 q x == -1) (qa, tup #[.int b2 t4, .int n2 t5, .int k2 t6] kq2) ln).map fun q => Value.ref q.1 := by
          subst hp
          rw [← ins_take, List.map_append, List.map_cons, List.map_take, List.map_drop, List.append_assoc]
          rfl
        rw [eL] at N3
        have eQ := lineQ_succ (p := fun q x => cmpQ i0 d1 d2 q x == -1) hqj
        rw [← eln] at eQ
        refine mkU _ _ _ ((_, W.listOf ((insQ (fun q x => cmpQ i0 d1 d2 q x == -1) (qa, tup #[.int b2 t4, .int n2 t5, .int k2 t6] kq2) ln).map fun q => Value.ref q.1).toArray 0) :: (Nm, W.listOf (ns.map fun q => Value.ref q.1).toArray kn) :: (c, instObj 87 dx) :: (dx, dictOf [⟨hk, .str (PySem.Str.ofString "comp_select_list") tkc, .ref cl⟩] kd) :: (cl, W.listOf #[.ref ta, .ref tb] kl) :: (ta, tup #[.int i0 u1, .int d1 u2] ka) :: (tb, tup #[.int 2 u3, .int d2 u4] kb) :: ns) rfl F3 (cb_drop N3 (fun q hq => ?_)) (fun q hq => ?_) ⟨List.Mem.tail _ (List.Mem.head _), Hold.of (mks_4_8 (j + 1) _ 0 _ rfl hjl (by rw [e2, e5]) eQ.symm (fun q hq => ?_) (by rw [insQ_len, hll]) ⟨rfl, rfl, rfl, trivial⟩ (Nat.ne_of_gt hA.2.2.2.2.1) (fun q hq => ?_))⟩
        · exact led_use (by walk_at "led sub") hq
        · rcases List.mem_cons.mp hq with rfl | hq
          · exact Nat.ne_of_gt hA.2.2.2.2.1
          · exact Nat.ne_of_lt (hIb q hq)
        · rcases insQ_mem hq with hq | hq
          · rw [hq]; exact hqn
          · exact hsub q hq
        · obtain ⟨_, _, _, _, _, _, h1, h2, h3, h4, h5, h6, h7⟩ := hA
          exact lt_all6 h1 h2 h3 h4 h5 h6 h7 q hq
  · clear F1 N1
    rintro m' n' h tk2 ex9
    apply exs_4_8 ex9
    clear ex9
    rintro j D kk ln hj er eln hsub hll m1 hDI hLD F1 N1
    replace F1 := fr_canons F1 m1
    dsimp only [canonM] at F1
    have ej : ns.take j = ns := by
      have h1 := congrArg List.length er
      simp at h1
      exact List.take_of_length_le (by lia)
    rw [ej] at eln
    subst eln
    walk_at "go"
    dsimp only
    refine mkD _ _ ([(D, W.listOf ((lineQ (fun q x => cmpQ i0 d1 d2 q x == -1) ns).map fun q : Addr × Obj => Value.ref q.1).toArray kk)]) F1 N1 (fun q hq r hr => ?_) ⟨D, kk, rfl, rfl⟩ _ _ rfl
    rw [List.mem_singleton.mp hq]
    exact Nat.ne_of_lt (hLD r hr)
  · refine Hold.of (mks_4_8 0 D0 0 ([]) rfl (Nat.zero_le _) (by rw [List.drop_zero]) rfl (fun _ h => nomatch h) rfl ⟨rfl, rfl, rfl, trivial⟩ (Nat.ne_of_lt hI.1) (fun q hq => ?_))
    obtain ⟨h1, h2, h3, h4, h5, h6, h7⟩ := hD0
    exact lt_all6 h1 h2 h3 h4 h5 h6 h7 q hq
end

section -- cont
theorem fresh_cont {M : Model} {A : Around} {Q : Flow → Shared → Prop} {E : Value → Shared → Prop} {s : Shared} {env : Env} {pos : Pos} (h : wpAny M A (exec (.Pass pos) env) Q E s) : wpAny M A (exec (.Pass pos) env) Q E s := by
  w_top off
  first | (walk1; fail "fresh") | exact h
/-- a call that also changes the table at P, which stood empty -/
noncomputable def ConT (w : World) (d : Nat) (f : Addr) (vs : List Value) (P : Addr) (small : Led) (post : Value → Led → Prop) : Prop :=
  ∀ (p : Program) (loose : List PySem.Str) (mean : ExcName → Option Value) (mg mb : PySem.Str → Option Value) (dp un : Nat) (gd : Option (List Code)) (cn : PySem.Str) (cs : Scope) (a : Addr) (ccd : Value) (cl : List (PySem.Str × Addr)) (outer : List Env)
    (A₀ : Around) (base h₀ : Heap) (L : Addr) (m : PySem.Str → Option Value) (s : Shared) (Q E : Value → Shared → Prop),
    Below A₀ base outer h₀ → Fr h₀ L s.heap m → (hdtop.heap_39 w.params).In h₀ → News h₀ L s.heap ((P, tabObj #[]) :: small) → (∀ q ∈ small, q.1 ≠ P) → Top p loose mean mg mb h₀ → cs.kind = .function → dp + (2 * d + 2) < recursionLimit → un + (40 * d + 40) < cLine →
    (∀ r tl h' tk' ps, Fr h₀ L h' m → News h₀ L h' (tl ++ (P, tabObj ps) :: small) → (∀ q ∈ tl, s.heap.get? q.1 = none) → (∀ b o, b ≠ P → s.heap.get? b = some o → h'.get? b = some o) → post r tl → Q r { s with heap := h', toks := tk' }) →
    wpAny (model PySem.Challenge.rw_jc0016_01.row.prog w) (ktrTop dp un gd cn cs L a ccd cl outer) (call (.ref f) vs) Q E s
/-- the end of such a body's walk -/
noncomputable def DoneT (P : Addr) (small : Led) (g : Heap) (s : Shared) (post : Value → Led → Prop) (v : Value) (s' : Shared) : Prop :=
  ∃ L' m' tl ps, Fr g L' s'.heap m' ∧ News g L' s'.heap (tl ++ (P, tabObj ps) :: small) ∧ (∀ q ∈ tl, ∀ r ∈ (P, tabObj #[]) :: small, r.1 ≠ q.1) ∧ post v tl ∧ ∃ h tk, s' = { s with heap := h, toks := tk }
theorem doneT_stays {P : Addr} {small : Led} {s s' : Shared} {post : Value → Led → Prop} {v : Value} {h₀ : Heap} {L : Addr} (N : News h₀ L s.heap ((P, tabObj #[]) :: small))
    (D : DoneT P small (hideAll s.heap (((P, tabObj #[]) :: small).map (·.1))) s post v s') :
    ∃ tl ps, (∀ b o, b ≠ P → s.heap.get? b = some o → s'.heap.get? b = some o) ∧ (∀ q ∈ tl, s'.heap.get? q.1 = some q.2 ∧ s.heap.get? q.1 = none) ∧ (∀ q ∈ (P, tabObj ps) :: small, s'.heap.get? q.1 = some q.2) ∧ post v tl ∧ ∃ h tk, s' = { s with heap := h, toks := tk } := by
  obtain ⟨L', m', tl, ps, F, N', ap, hp, he⟩ := D
  refine ⟨tl, ps, fun b o hP hb => ?_, fun q hq => ⟨(N' q (List.mem_append_left _ hq)).1, ?_⟩, fun q hq => (N' q (List.mem_append_right _ hq)).1, hp, he⟩
  · by_cases hm : b ∈ ((P, tabObj #[]) :: small).map (·.1)
    · obtain ⟨q, hq, rfl⟩ := List.mem_map.mp hm
      rcases List.mem_cons.mp hq with rfl | hq
      · exact absurd rfl hP
      · have h1 := (N q (List.mem_cons_of_mem _ hq)).1
        have h2 := (N' q (List.mem_append_right _ (List.mem_cons_of_mem _ hq))).1
        rw [h2, ← hb, h1]
    · exact F.keep b o (hideAll_get _ hb hm)
  · cases hg : s.heap.get? q.1 with
    | none => rfl
    | some o =>
      have hm : q.1 ∉ ((P, tabObj #[]) :: small).map (·.1) := fun hm => by
        obtain ⟨r, hr, e⟩ := List.mem_map.mp hm
        exact ap q hq r hr e
      have h3 := hideAll_get (((P, tabObj #[]) :: small).map (·.1)) hg hm
      rw [(N' q (List.mem_append_left _ hq)).2.2] at h3
      cases h3
theorem con_cellsT {w : World} {d : Nat} {f P : Addr} {vs : List Value} {small : Led} {post : Value → Led → Prop}
    {name qual : PySem.Str} {params : Arguments} {body : List Stmt} {scope : Scope} {dV kV doc pm cdv ct oc : Value} {an od : Option Addr} {osl : Array (Option Value)} {binds : List (PySem.Str × Value)}
    (ho : (hdtop.heap_39 w.params).lookup f = some ⟨oc, od, .func (fnOf name qual params body scope dV kV doc pm an cdv ct), osl⟩) (hcd : codeIn (hdtop.heap_39 w.params) cdv qual = true)
    (hbind : ∀ s, BindsTo s (fnOf name qual params body scope dV kV doc pm an cdv ct) ⟨vs, []⟩ binds) (hkind : (binds.all fun y => scope.names.lookup y.1 == some .local || scope.names.lookup y.1 == some .cell) = true)
    (hnd : ((cellsFrom 0 scope.names []).map (·.1)).Nodup) (hco : scope.isCoroutine = false) (hgen : scope.isGenerator = false) (hk : scope.kind = .function)
    (h : ∀ (p : Program) (loose : List PySem.Str) (mean : ExcName → Option Value) (mg mb : PySem.Str → Option Value) (dp un : Nat) (gd : Option (List Code)) (outer : List Env)
      (A₀ : Around) (base g : Heap) (L' : Addr) (h₁ : Heap) (tk : Nat) (s : Shared) (cells : List (Addr × Obj)),
      Below A₀ base outer g → Fr g L' h₁ (bindL (envOfC qual scope L' f cdv).kindOf binds fun _ => none) → (hdtop.heap_39 w.params).In g → News g L' h₁ (cells ++ (P, tabObj #[]) :: small) →
      CellsAre (bindC (envOfC qual scope L' f cdv).kindOf binds fun _ => none) (cellsFrom (L' + 1) scope.names []) cells → Top p loose mean mg mb g → dp + (2 * d + 1) < recursionLimit → un + (40 * d + 37) < cLine → (∀ q ∈ (P, tabObj #[]) :: small, q.1 < L') → (∀ q ∈ small, q.1 ≠ P) →
      wpAny (model PySem.Challenge.rw_jc0016_01.row.prog w) (ktrTop dp un gd qual scope L' f cdv (cellsFrom (L' + 1) scope.names []) outer) (execs body (envOfC qual scope L' f cdv))
        (fun fl s' => DoneT P small g s post (match fl with | .ret v => v | _ => .none) s') (fun _ _ => False) { s with heap := h₁, toks := tk }) :
    ConT w d f vs P small post := by
  intro p loose mean mg mb dp un gd cn cs a ccd cl outer A₀ base h₀ L m s Q E B F X N neP T hck hdp hun ret
  refine wpAny_call ?_
  obtain ⟨FG, BG, st, -⟩ := groundX (A := ktrTop dp un gd cn cs L a ccd cl outer) (R := fun _ _ => True) B F N rfl rfl hck
  have hroom : (ktrTop dp un gd cn cs L a ccd cl outer).depth < recursionLimit := by show dp < _; lia
  refine codeAny_call_function hroom ((X.keeps F.keep) _ _ ho) rfl hco hgen rfl (codeRec_of (X.keeps F.keep) hcd) (hbind s _ _ _ _ ?_)
  refine wpAny_newFunctionEnv_cells hk (kindsX hkind _) fun env' he s' x => ?_
  subst he
  refine ⟨(T.nolimit.keeps F.keep).keeps x.toInCall.keep, codeAny_func ?_⟩
  obtain ⟨h₁, tk, rfl, _⟩ := x.done
  have hk₁ := x.toInCall.keep
  obtain ⟨cells, NC, Y⟩ := Cl.news (h₀ := s.heap) (Nat.le_refl _) fun n c hm => ⟨x.cell n c (lookup_of_mem_nodup (cellsFrom_names scope.names 0 (s.heap.objs.size + 1) [] [] rfl ▸ hnd) hm), x.above n c hm⟩
  have FG' : Fr (hideAll s.heap (((P, tabObj #[]) :: small).map (·.1))) s.heap.objs.size h₁ (bindL (envOfC qual scope s.heap.objs.size f cdv).kindOf binds fun _ => none) := ⟨x.toInCall.ns, fun b o e => hk₁ b o (of_hideAll _ e), Nat.le_of_eq (hideAll_size _ _)⟩
  have NG : News (hideAll s.heap (((P, tabObj #[]) :: small).map (·.1))) s.heap.objs.size h₁ (cells ++ (P, tabObj #[]) :: small) := fun q hq => by
    rcases List.mem_append.mp hq with hq | hq
    · refine ⟨(NC q hq).1, (NC q hq).2.1, ?_⟩
      cases hg : (hideAll s.heap (((P, tabObj #[]) :: small).map (·.1))).get? q.1 with
      | none => rfl
      | some o => have := of_hideAll _ hg; rw [(NC q hq).2.2] at this; cases this
    · exact ⟨hk₁ _ _ (N q hq).1, Nat.ne_of_lt (Heap.lt_size (N q hq).1), hideAll_none _ (List.mem_map_of_mem hq)⟩
  refine wpAny_mono (h p loose mean mg mb (dp + 1) (un + 3) gd (envX cn cs L a ccd cl :: outer) _ base _ s.heap.objs.size h₁ tk s cells BG FG' (X.keeps st) NG Y (T.keeps st) (by lia) (by lia) (fun q hq => Heap.lt_size (N q hq).1) neP) (fun fl s' hD => ?_) (fun _ _ x => x.elim)
  obtain ⟨tl, ps, hs, hn, hsm, hp, h', tk', rfl⟩ := doneT_stays N hD
  have hPL : L ≠ P := fun e => (N (P, tabObj #[]) (.head _)).2.1 e.symm
  have hL : ∃ o, s.heap.get? L = some o := by obtain ⟨o, _, _, e, _⟩ := F.ns; exact ⟨o, e⟩
  refine ret _ tl h' tk' ps ⟨by obtain ⟨oL, es, ep, hL, hr⟩ := F.ns; exact ⟨oL, es, ep, hs _ _ hPL hL, hr⟩, fun b o e => hs b o (fun q => by have := (N (P, tabObj #[]) (.head _)).2.2; rw [← q, e] at this; cases this) (F.keep b o e), F.above⟩ (fun q hq => ?_) (fun q hq => (hn q hq).2) hs hp
  rcases List.mem_append.mp hq with hq | hq
  · refine ⟨(hn q hq).1, fun e => ?_, ?_⟩
    · obtain ⟨o, ho⟩ := hL
      have := (hn q hq).2
      rw [e, ho] at this
      cases this
    · cases e : h₀.get? q.1 with
      | none => rfl
      | some o => have := F.keep _ _ e; rw [(hn q hq).2] at this; cases this
  · refine ⟨hsm q hq, ?_⟩
    rcases List.mem_cons.mp hq with rfl | hq
    · exact (N (P, tabObj #[]) (.head _)).2
    · exact (N q (List.mem_cons_of_mem _ hq)).2
end

section -- sort4
theorem fresh_sort4 {M : Model} {A : Around} {Q : Flow → Shared → Prop} {E : Value → Shared → Prop} {s : Shared} {env : Env} {pos : Pos} (h : wpAny M A (exec (.Pass pos) env) Q E s) : wpAny M A (exec (.Pass pos) env) Q E s := by
  w_top off
  first | (walk1; fail "fresh") | exact h
noncomputable def evalT {α : Type} (lt : Nat → Nat → Bool) : KasT α → α
  | .ret a => a
  | .ask i j k => evalT lt (k (lt i j))
noncomputable def okT {α : Type} (n : Nat) : KasT α → Bool
  | .ret _ => true
  | .ask i j k => decide (i < n) && decide (j < n) && okT n (k true) && okT n (k false)
theorem kasWp_pure {α : Type} {cmp : Nat → Nat → (Bool → Shared → Prop) → Shared → Prop} {lt : Nat → Nat → Bool} {n : Nat} {Q : α → Shared → Prop} {s : Shared}
    (hc : ∀ i j C, i < n → j < n → C (lt i j) s → cmp i j C s) : ∀ t : KasT α, okT n t = true → Q (evalT lt t) s → t.kasWp cmp Q s
  | .ret _, _, h => h
  | .ask i j k, ok, h => by
    simp only [okT, Bool.and_eq_true, decide_eq_true_eq] at ok
    refine hc i j _ ok.1.1.1 ok.1.1.2 ?_
    refine kasWp_pure hc (k (lt i j)) ?_ h
    cases lt i j with
    | true => exact ok.1.2
    | false => exact ok.2
theorem ok4 : okT 4 (kas_sort 4) = true := by decide +kernel
/-- a strict order of four, by its six answers -/
noncomputable def ltB (b01 b02 b03 b12 b13 b23 : Bool) (i j : Nat) : Bool := match i, j with
  | 0, 1 => b01
  | 0, 2 => b02
  | 0, 3 => b03
  | 1, 2 => b12
  | 1, 3 => b13
  | 2, 3 => b23
  | 1, 0 => !b01
  | 2, 0 => !b02
  | 3, 0 => !b03
  | 2, 1 => !b12
  | 3, 1 => !b13
  | 3, 2 => !b23
  | _, _ => false
noncomputable def transB (lt : Nat → Nat → Bool) : Bool := (List.range 4).all fun i => (List.range 4).all fun j => (List.range 4).all fun k => !(lt i j) || !(lt j k) || lt i k
noncomputable def insI (lt : Nat → Nat → Bool) (x : Nat) (l : List Nat) : List Nat := l.takeWhile (fun q => lt q x) ++ x :: l.dropWhile (fun q => lt q x)
noncomputable def lineI (lt : Nat → Nat → Bool) : List Nat := [0, 1, 2, 3].foldl (fun l x => insI lt x l) []
noncomputable def pairsOK (lt : Nat → Nat → Bool) : List Nat → Bool
  | [] => true
  | a :: r => r.all (fun b => lt a b && !lt b a) && pairsOK lt r
noncomputable def sortChk (b01 b02 b03 b12 b13 b23 : Bool) : Bool :=
  let lt := ltB b01 b02 b03 b12 b13 b23
  !(transB lt) || ((evalT lt (kas_sort 4)).toList == lineI lt && pairsOK lt (lineI lt) && (lineI lt).length == 4 && (List.range 4).all fun i => (lineI lt).contains i)
theorem sort_all : ([true, false].all fun a => [true, false].all fun b => [true, false].all fun c => [true, false].all fun d => [true, false].all fun e => [true, false].all fun f => sortChk a b c d e f) = true := by decide +kernel
theorem sort_ok (a b c d e f : Bool) (h : transB (ltB a b c d e f) = true) : (evalT (ltB a b c d e f) (kas_sort 4)).toList = lineI (ltB a b c d e f) ∧ pairsOK (ltB a b c d e f) (lineI (ltB a b c d e f)) = true ∧ (lineI (ltB a b c d e f)).length = 4 ∧ ∀ i, i < 4 → i ∈ lineI (ltB a b c d e f) := by
  have h1 : sortChk a b c d e f = true := by
    have mb : ∀ x : Bool, x ∈ [true, false] := fun x => by cases x <;> simp
    exact List.all_eq_true.mp (List.all_eq_true.mp (List.all_eq_true.mp (List.all_eq_true.mp (List.all_eq_true.mp (List.all_eq_true.mp sort_all a (mb a)) b (mb b)) c (mb c)) d (mb d)) e (mb e)) f (mb f)
  unfold sortChk at h1
  simp only [h, Bool.not_true, Bool.false_or, Bool.and_eq_true, beq_iff_eq] at h1
  obtain ⟨⟨⟨h2, h3⟩, h4⟩, h5⟩ := h1
  refine ⟨h2, h3, h4, fun i hi => ?_⟩
  have := List.all_eq_true.mp h5 i (List.mem_range.mpr hi)
  simpa using this
noncomputable def lt2 (p q r u : Int) : Bool := if p = r then decide (q < u) else decide (p < r)
theorem lt2_same (p q : Int) : lt2 p q p q = false := by unfold lt2; rw [if_pos rfl]; simp
theorem lt2_not {p q r u : Int} (h : q ≠ u) : lt2 r u p q = !lt2 p q r u := by
  unfold lt2
  by_cases e : p = r
  · rw [if_pos e, if_pos e.symm]
    by_cases h2 : q < u
    · rw [decide_eq_true h2, decide_eq_false (by lia)]; rfl
    · rw [decide_eq_false h2, decide_eq_true (by lia)]; rfl
  · rw [if_neg e, if_neg (fun q => e q.symm)]
    by_cases h2 : p < r
    · rw [decide_eq_true h2, decide_eq_false (by lia)]; rfl
    · rw [decide_eq_false h2, decide_eq_true (by lia)]; rfl
theorem lt2_trans {p1 q1 p2 q2 p3 q3 : Int} (h1 : lt2 p1 q1 p2 q2 = true) (h2 : lt2 p2 q2 p3 q3 = true) : lt2 p1 q1 p3 q3 = true := by
  unfold lt2 at *
  split at h1 <;> split at h2 <;> split <;> simp only [decide_eq_true_eq] at * <;> lia
theorem key_lt2 {prog : Program} {w : World} {A : Around} {E : Value → Shared → Prop} {s : Shared} {h₀ : Heap} {L x y : Addr} {news : Led} {p q r u : Int} {t1 t2 t3 t4 : Tok} {n k : Nat} {Q : Bool → Shared → Prop}
    (N : News h₀ L s.heap news) (hx : (x, tup #[.int p t1, .int q t2] n) ∈ news) (hy : (y, tup #[.int r t3, .int u t4] k) ∈ news) (h : Q (lt2 p q r u) s) : wpAny (model prog w) A (keyLt' (tuples' true) (.ref x) (.ref y)) Q E s := by
  refine kat_lt (News.get N hx) rfl (News.get N hy) rfl ?_
  refine kat_cons (wpAny_eqBool_int ?_)
  refine kat_go (fun e1 => kat_yes ?_) (fun e1 => kat_no (oneLt_int ?_))
  · have e2 : p = r := by simpa using e1
    refine kat_cons (wpAny_eqBool_int ?_)
    refine kat_go (fun e3 => kat_yes (kat_nil ?_)) (fun e3 => kat_no (kat_one _ _ (lt_int ?_)))
    · have e4 : q = u := by simpa using e3
      have : lt2 p q r u = false := by unfold lt2; rw [if_pos e2, e4]; simp
      rw [this] at h
      exact h
    · have : lt2 p q r u = decide (q < u) := by unfold lt2; rw [if_pos e2]
      rw [this] at h
      exact h
  · have e2 : p ≠ r := by simpa using e1
    have : lt2 p q r u = decide (p < r) := by unfold lt2; rw [if_neg e2]
    rw [this] at h
    exact h
/-- the order of four keys -/
noncomputable abbrev lt4 (x0 y0 x1 y1 x2 y2 x3 y3 : Int) : Nat → Nat → Bool := ltB (lt2 x0 y0 x1 y1) (lt2 x0 y0 x2 y2) (lt2 x0 y0 x3 y3) (lt2 x1 y1 x2 y2) (lt2 x1 y1 x3 y3) (lt2 x2 y2 x3 y3)
theorem ask4 {prog : Program} {w : World} {A : Around} {s : Shared} {h₀ : Heap} {L : Addr} {news : Led} {k0 k1 k2 k3 : Addr} {x0 y0 x1 y1 x2 y2 x3 y3 : Int} {s0 t0 s1 t1 s2 t2 s3 t3 : Tok} {n0 n1 n2 n3 : Nat}
    (N : News h₀ L s.heap news) (m0 : (k0, tup #[.int x0 s0, .int y0 t0] n0) ∈ news) (m1 : (k1, tup #[.int x1 s1, .int y1 t1] n1) ∈ news) (m2 : (k2, tup #[.int x2 s2, .int y2 t2] n2) ∈ news) (m3 : (k3, tup #[.int x3 s3, .int y3 t3] n3) ∈ news)
    (e01 : y0 ≠ y1) (e02 : y0 ≠ y2) (e03 : y0 ≠ y3) (e12 : y1 ≠ y2) (e13 : y1 ≠ y3) (e23 : y2 ≠ y3) :
    ∀ i j C, i < 4 → j < 4 → C (lt4 x0 y0 x1 y1 x2 y2 x3 y3 i j) s → kas_ask prog w A (tuples' true) [.ref k0, .ref k1, .ref k2, .ref k3] i j C s := by
  intro i j C hi hj h
  match i, j, hi, hj with
  | 0, 0, _, _ => exact key_lt2 N m0 m0 (by rw [lt2_same]; exact h)
  | 0, 1, _, _ => exact key_lt2 N m0 m1 h
  | 0, 2, _, _ => exact key_lt2 N m0 m2 h
  | 0, 3, _, _ => exact key_lt2 N m0 m3 h
  | 1, 0, _, _ => exact key_lt2 N m1 m0 (by rw [lt2_not e01]; exact h)
  | 1, 1, _, _ => exact key_lt2 N m1 m1 (by rw [lt2_same]; exact h)
  | 1, 2, _, _ => exact key_lt2 N m1 m2 h
  | 1, 3, _, _ => exact key_lt2 N m1 m3 h
  | 2, 0, _, _ => exact key_lt2 N m2 m0 (by rw [lt2_not e02]; exact h)
  | 2, 1, _, _ => exact key_lt2 N m2 m1 (by rw [lt2_not e12]; exact h)
  | 2, 2, _, _ => exact key_lt2 N m2 m2 (by rw [lt2_same]; exact h)
  | 2, 3, _, _ => exact key_lt2 N m2 m3 h
  | 3, 0, _, _ => exact key_lt2 N m3 m0 (by rw [lt2_not e03]; exact h)
  | 3, 1, _, _ => exact key_lt2 N m3 m1 (by rw [lt2_not e13]; exact h)
  | 3, 2, _, _ => exact key_lt2 N m3 m2 (by rw [lt2_not e23]; exact h)
  | 3, 3, _, _ => exact key_lt2 N m3 m3 (by rw [lt2_same]; exact h)
  | i + 4, _, h1, _ => exact absurd h1 (by lia)
  | 0, j + 4, _, h1 => exact absurd h1 (by omega)
  | 1, j + 4, _, h1 => exact absurd h1 (by omega)
  | 2, j + 4, _, h1 => exact absurd h1 (by omega)
  | 3, j + 4, _, h1 => exact absurd h1 (by omega)
end

section -- sorted
theorem fresh_sorted {M : Model} {A : Around} {Q : Flow → Shared → Prop} {E : Value → Shared → Prop} {s : Shared} {env : Env} {pos : Pos} (h : wpAny M A (exec (.Pass pos) env) Q E s) : wpAny M A (exec (.Pass pos) env) Q E s := by
  w_top off
  first | (walk1; fail "fresh") | exact h
local macro_rules | `(tactic| walk_at "con cells") => `(tactic| (
  refine' con_cellsT ?k6 ?k7 ?k9 ?kB ?c5 ?c2 ?c3 ?c4 ?_
  (case k6 => k_dflt k_is)
  (case k7 => k_dflt k_is)
  (case k9 => exact fun _ => BindsTo.of_eq rfl)
  (case c5 => decide +kernel)
  (case kB => exact rfl)
  (case c2 => exact rfl)
  (case c3 => exact rfl)
  (case c4 => exact rfl)
  intro p loose mean mg mb dp un gd outer A₀ base g' L' h' tk' s cells' B' F' X' N' Y' T' hdp hun l1 l2
  (replace l2 := off1_of l2)
  (try simp only [LCg.Off1, and_true] at l2)
  (try k_lt l1)
  k_cells Y'
  (try simp only [List.cons_append, List.nil_append] at N')
  (try dsimp only)
  (try k_fold)))
theorem tup_sel {prog : Program} {w : World} {A : Around} {E : Value → Shared → Prop} {s : Shared} {h₀ : Heap} {L l : Addr} {news : Led} {b n : Int} {v : Value} {t1 t2 : Tok} {x : Nat} {value slice : PySem.Expr} {k : Int} {u : Tok} {Q : Value → Shared → Prop}
    (N : News h₀ L s.heap news) (hm : (l, tup #[.int b t1, .int n t2, v] x) ∈ news) (hk : k = 0 ∨ k = 1) (h : ∀ t, Q (.int (selI k b n) t) s)
    (hs : subscripted slice false (.ref l) (.int k u) = operate [.ref l, .int k u] (getItem (.ref l) (.int k u)))
    (hg : ∀ r, letTemporaryGo value (.ref l) r = pure ()) :
    wpAny (model prog w) A (subscriptTail value slice (.ref l) (.int k u)) Q E s := by
  rcases hk with rfl | rfl
  · exact tup_led N hm rfl rfl (by decide) (by decide) rfl (h t1) hs hg
  · exact tup_led N hm rfl rfl (by decide) (by decide) rfl (h t2) hs hg
local macro_rules | `(tactic| walk_at "subscriptTail Name BinOp ref int") => `(tactic| (k_here; k_dflt (refine' tup_sel ?k1 ?k2 ?k3 ?_ ?k8 ?k9; (case k1 => k_asm); (case k2 => k_mem); (case k3 => assumption); (case k8 => with_unfolding_all rfl); (case k9 => intro _; with_unfolding_all rfl)); intro t'))
local macro_rules | `(tactic| walk_at "subscriptTail Name Constant ref int") => `(tactic| (k_here; (with_reducible show wpAny _ _ (subscriptTail _ _ _ (Value.int 2 _)) _ _ _); k_dflt (refine' tup3_2 ?k1 ?k2 ?_ ?k8 ?k9; (case k1 => k_asm); (case k2 => k_mem); (case k8 => with_unfolding_all rfl); (case k9 => intro _; with_unfolding_all rfl))))
local macro_rules | `(tactic| walk_at "call ref") => `(tactic| (k_here; k_dflt (refine wpAny_call ?_; refine' kla_code ?k1 ?k2 ?k3 ?k4 ?k5 ?kA ?kF ?kK ?k6 ?k7 ?k8 ?k9 ?kB ?_ ?c2 ?c3 ?c4 ?c5; (case kA => exact rfl); (case kF => exact rfl); (case kK => exact rfl); (case k1 => k_asm); (case k2 => k_asm); (case k3 => k_asm); (case k4 => k_asm); (case k5 => k_asm); (case k6 => k_mem); (case k7 => exact codeRec_news (by k_asm) (by k_mem) (by assumption) (by assumption)); (case k8 => with_unfolding_all exact Nat.lt_of_le_of_lt (Nat.le_add_right _ _) (by assumption)); (case k9 => exact rfl); (case c5 => decide); (case kB => exact locs rfl); (case c2 => exact rfl); (case c3 => exact rfl); (case c4 => exact rfl); k_whole; intro g' L' h' FG' F' N' B' X' T'; (try dsimp only); (try k_lift B'); (try k_fold))))
local macro_rules | `(tactic| walk_at "halt") => `(tactic| with_reducible first | show KasT.kasWp _ _ _ _ | show KatKeys _ _ _ _ _ _ _ _ _ _ _ _ _)
theorem neS {S a b : Int} (hS : S = 1 ∨ S = -1) (h : a ≠ b) : S * a ≠ S * b := by
  rcases hS with rfl | rfl <;> lia
theorem nelt {x d z : Addr} (h2 : @LT.lt Nat _ d z) (h1 : @LT.lt Nat _ x d) : x ≠ z := Nat.ne_of_lt (Nat.lt_trans h1 h2)
local macro_rules | `(tactic| k_ne) => `(tactic| first | exact nelt (by assumption) (by assumption) | (refine neN ?_; (try dsimp only); lia))
theorem con_sorted (w : World) (l Nm a0 a1 a2 a3 : Addr) (k kn x0 x1 x2 x3 : Nat) (vs : List Value) (c : List Int) (hv : IntsAre vs c) (hl : c.length = 11) (b0 n0 k0 b1 n1 k1 b2 n2 k2 b3 n3 k3 : Int) (t0 t1 t2 t3 t4 t5 t6 t7 t8 t9 t10 t11 : Tok)
    (e01 : k0 ≠ k1) (e02 : k0 ≠ k2) (e03 : k0 ≠ k3) (e12 : k1 ≠ k2) (e13 : k1 ≠ k3) (e23 : k2 ≠ k3) (F S W : Int) (eF : F = 1 - ((c.getD 10 0).fdiv 2).fmod 2 * 2) (eS : S = 1 - ((c.getD 10 0).fdiv 4).fmod 2 * 2) (eW : W = (c.getD 10 0).fmod 2) :
    ConT w 1 176 [.ref l, .ref Nm] 171 [(l, PySem.W.listOf vs.toArray k), (Nm, PySem.W.listOf #[.ref a0, .ref a1, .ref a2, .ref a3] kn), (a0, tup #[.int b0 t0, .int n0 t1, .int k0 t2] x0), (a1, tup #[.int b1 t3, .int n1 t4, .int k1 t5] x1), (a2, tup #[.int b2 t6, .int n2 t7, .int k2 t8] x2), (a3, tup #[.int b3 t9, .int n3 t10, .int k3 t11] x3)] (fun v tl => ∃ D kk, v = .ref D ∧ tl = [(D, PySem.W.listOf ((evalT (lt4 (F * selI W b0 n0) (S * k0) (F * selI W b1 n1) (S * k1) (F * selI W b2 n2) (S * k2) (F * selI W b3 n3) (S * k3)) (kas_sort 4)).toList.map fun i => [Value.ref a0, .ref a1, .ref a2, .ref a3].getD i .none).toArray kk)]) := by
  walk_at "con cells"
  rename_i p loose mean mg mb dp un gd outer A₀ base g L h0 tk0 s B F X T hdp hun neP l1 _ _ _ _ _ _ _
  have CH : CodeHd g 175 171 := codeHd_of_K X (by kernel_rfl)
  have hk01 : (c.getD (Int.toNat 10) 0).fmod 2 = 0 ∨ (c.getD (Int.toNat 10) 0).fmod 2 = 1 := by
    rw [Int.fmod_eq_emod_of_nonneg _ (by decide)]; lia
  have hk02 : 0 ≤ ((c.getD (Int.toNat 10) 0).fdiv 2).fmod 2 ∧ ((c.getD (Int.toNat 10) 0).fdiv 2).fmod 2 ≤ 1 := by
    rw [Int.fmod_eq_emod_of_nonneg _ (by decide)]; lia
  have hk03 : 0 ≤ ((c.getD (Int.toNat 10) 0).fdiv 4).fmod 2 ∧ ((c.getD (Int.toNat 10) 0).fdiv 4).fmod 2 ≤ 1 := by
    rw [Int.fmod_eq_emod_of_nonneg _ (by decide)]; lia
  walk_at "go unroll"
  rename (_ ∧ _ ∧ _ ∧ _ ∧ _ ∧ _ ∧ _ ∧ _ ∧ _ ∧ _ ∧ _ ∧ @LT.lt Nat _ a3 _) => hD
  have q1 := hD.1
  have q2 := hD.2.1
  have q3 := hD.2.2.1
  have q4 := hD.2.2.2.1
  have q5 := hD.2.2.2.2.1
  have q6 := hD.2.2.2.2.2.1
  have q7 := hD.2.2.2.2.2.2.1
  have q8 := hD.2.2.2.2.2.2.2.1
  have q9 := hD.2.2.2.2.2.2.2.2.1
  have q10 := hD.2.2.2.2.2.2.2.2.2.1
  have q11 := hD.2.2.2.2.2.2.2.2.2.2.1
  have q12 := hD.2.2.2.2.2.2.2.2.2.2.2
  (try simp only [List.nil_append, List.cons_append])
  refine KatKeys.cons ?_
  walk_at "go unroll"
  (try simp only [List.nil_append, List.cons_append])
  refine KatKeys.cons ?_
  walk_at "go unroll"
  (try simp only [List.nil_append, List.cons_append])
  refine KatKeys.cons ?_
  walk_at "go unroll"
  (try simp only [List.nil_append, List.cons_append])
  refine KatKeys.cons ?_
  walk_at "go unroll"
  (try simp only [List.nil_append, List.cons_append])
  refine KatKeys.nil ?_
  walk_at "go unroll"
  have hS : S = 1 ∨ S = -1 := by
    have h : ((c.getD 10 0).fdiv 4).fmod 2 = 0 ∨ ((c.getD 10 0).fdiv 4).fmod 2 = 1 := by
      rw [Int.fmod_eq_emod_of_nonneg _ (by decide)]; lia
    rw [eS]
    rcases h with h | h <;> rw [h] <;> simp
  rename Fr _ _ _ _ => F1
  rename News _ _ _ _ => N1
  rw [show (Value.type "int" != Value.type "tuple") = true from by decide]
  show KasT.kasWp (kas_ask _ _ _ _ [_, _, _, _]) (kas_sort 4) _ _
  have eF' : (1 - ((c.getD (Int.toNat 10) 0).fdiv 2).fmod 2 * 2) = F := eF.symm
  have eS' : (1 - ((c.getD (Int.toNat 10) 0).fdiv 4).fmod 2 * 2) = S := eS.symm
  have eW' : (c.getD (Int.toNat 10) 0).fmod 2 = W := eW.symm
  rw [eF', eS', eW'] at N1
  refine kasWp_pure (n := 4) (ask4 N1 (by k_mem) (by k_mem) (by k_mem) (by k_mem) (neS hS e01) (neS hS e02) (neS hS e03) (neS hS e12) (neS hS e13) (neS hS e23)) _ ok4 ?_
  generalize evalT _ _ = pp
  walk_at "go unroll"
  rename Fr _ _ _ _ => F2
  rename News _ _ _ _ => N2
  rename (_ ∧ _ ∧ _ ∧ _ ∧ _ ∧ _ ∧ _ ∧ _ ∧ _ ∧ _ ∧ _ ∧ @LT.lt Nat _ a3 _) => hD
  refine KasFin.intro F2 N2 (by k_updF) ?_
  intro h9 c9 F9 N9
  refine ⟨_, _, [(_, PySem.W.listOf _ c9)], _, F9, cb_drop N9 (by kcj_all), fun q hq r hr => ?_, ⟨_, c9, rfl, rfl⟩, _, _, rfl⟩
  rw [List.mem_singleton.mp hq]
  obtain ⟨_, _, _, _, _, g0, g1, g2, g3, g4, g5, g6⟩ := hD
  simp only [List.mem_cons, List.not_mem_nil, or_false] at hr
  rcases hr with hr | hr | hr | hr | hr | hr | hr <;> rw [hr] <;> apply Nat.ne_of_lt <;> assumption
end

section -- conb
theorem fresh_conb {M : Model} {A : Around} {Q : Flow → Shared → Prop} {E : Value → Shared → Prop} {s : Shared} {env : Env} {pos : Pos} (h : wpAny M A (exec (.Pass pos) env) Q E s) : wpAny M A (exec (.Pass pos) env) Q E s := by
  w_top off
  first | (walk1; fail "fresh") | exact h
/-- a call that reads a list of the base besides -/
noncomputable def ConB (w : World) (d : Nat) (f : Addr) (vs : List Value) (sc : Addr) (its : Array Value) (small : Led) (post : Value → Led → Prop) : Prop :=
  ∀ (p : Program) (loose : List PySem.Str) (mean : ExcName → Option Value) (mg mb : PySem.Str → Option Value) (dp un : Nat) (gd : Option (List Code)) (cn : PySem.Str) (cs : Scope) (a : Addr) (ccd : Value) (cl : List (PySem.Str × Addr)) (outer : List Env)
    (A₀ : Around) (base h₀ : Heap) (L : Addr) (m : PySem.Str → Option Value) (s : Shared) (Q E : Value → Shared → Prop) (big : Led),
    Below A₀ base outer h₀ → Fr h₀ L s.heap m → (hdtop.heap_39 w.params).In h₀ → News h₀ L s.heap big → (∀ q ∈ small, q ∈ big) → Top p loose mean mg mb h₀ → cs.kind = .function → dp + (2 * d + 2) < recursionLimit → un + (40 * d + 40) < cLine → h₀.IsList sc its →
    (∀ r tl h' tk', Fr h₀ L h' m → News h₀ L h' (tl ++ big) → (∀ q ∈ big, ∀ r ∈ tl, q.1 ≠ r.1) → post r tl → Q r { s with heap := h', toks := tk' }) →
    wpAny (model PySem.Challenge.rw_jc0016_01.row.prog w) (ktrTop dp un gd cn cs L a ccd cl outer) (call (.ref f) vs) Q E s
theorem con_plainB {w : World} {d : Nat} {f : Addr} {vs : List Value} {sc : Addr} {its : Array Value} {small : Led} {post : Value → Led → Prop}
    {name qual : PySem.Str} {params : Arguments} {body : List Stmt} {scope : Scope} {dV kV doc pm cdv ct oc : Value} {an od : Option Addr} {osl : Array (Option Value)} {binds : List (PySem.Str × Value)}
    (ho : (hdtop.heap_39 w.params).lookup f = some ⟨oc, od, .func (fnOf name qual params body scope dV kV doc pm an cdv ct), osl⟩) (hcd : codeIn (hdtop.heap_39 w.params) cdv qual = true)
    (hbind : ∀ s, BindsTo s (fnOf name qual params body scope dV kV doc pm an cdv ct) ⟨vs, []⟩ binds) (hloc : ∀ y ∈ binds, scope.names.lookup y.1 = some .local)
    (hcell : ∀ x ∈ scope.names, x.2 ≠ .cell) (hco : scope.isCoroutine = false) (hgen : scope.isGenerator = false) (hk : scope.kind = .function)
    (h : ∀ (p : Program) (loose : List PySem.Str) (mean : ExcName → Option Value) (mg mb : PySem.Str → Option Value) (dp un : Nat) (gd : Option (List Code)) (outer : List Env)
      (A₀ : Around) (base g : Heap) (L' : Addr) (h₁ : Heap) (tk : Nat) (s : Shared),
      Below A₀ base outer g → Fr g L' h₁ (fun y => binds.reverse.lookup y) → (hdtop.heap_39 w.params).In g → News g L' h₁ small → Top p loose mean mg mb g → dp + (2 * d + 1) < recursionLimit → un + (40 * d + 37) < cLine → (∀ q ∈ small, q.1 < L') → g.IsList sc its →
      wpAny (model PySem.Challenge.rw_jc0016_01.row.prog w) (ktrTop dp un gd qual scope L' f cdv [] outer) (execs body (envOf qual scope L' f cdv))
        (fun fl s' => Done small g s post (match fl with | .ret v => v | _ => .none) s') (fun _ _ => False) { s with heap := h₁, toks := tk }) :
    ConB w d f vs sc its small post := by
  intro p loose mean mg mb dp un gd cn cs a ccd cl outer A₀ base h₀ L m s Q E big B F X NB sub T hck hdp hun hsl ret
  have N : News h₀ L s.heap small := fun q hq => NB q (sub q hq)
  refine wpAny_call ?_
  obtain ⟨FG, BG, st, -⟩ := groundX (A := ktrTop dp un gd cn cs L a ccd cl outer) (R := fun _ _ => True) B F N rfl rfl hck
  have hroom : (ktrTop dp un gd cn cs L a ccd cl outer).depth < recursionLimit := by show dp < _; lia
  refine codeAny_call_def (fd := fnOf name qual params body scope dV kV doc pm an cdv ct) (body := body) (binds := binds) hroom ((X.keeps F.keep) _ _ ho) rfl (T.nolimit.keeps F.keep) (codeRec_of (X.keeps F.keep) hcd) rfl (hbind s) hcell hloc (fun h₁ hns hk₁ => ?_) hco hgen hk
  have FG' : Fr (hideAll s.heap (small.map (·.1))) s.heap.objs.size h₁ (fun y => binds.reverse.lookup y) := ⟨hns, fun b o e => hk₁ b o (of_hideAll _ e), Nat.le_of_eq (hideAll_size _ _)⟩
  have NG : News (hideAll s.heap (small.map (·.1))) s.heap.objs.size h₁ small := fun q hq => ⟨hk₁ _ _ (N q hq).1, Nat.ne_of_lt (Heap.lt_size (N q hq).1), hideAll_none _ (List.mem_map_of_mem hq)⟩
  have hslg : (hideAll s.heap (small.map (·.1))).IsList sc its := by obtain ⟨o, e, r⟩ := hsl; exact ⟨o, st _ _ e, r⟩
  refine wpAny_mono (h p loose mean mg mb (dp + 1) (un + 3) gd (envX cn cs L a ccd cl :: outer) _ base _ s.heap.objs.size h₁ (s.toks + binds.length) s BG FG' (X.keeps st) NG (T.keeps st) (by lia) (by lia) (fun q hq => Heap.lt_size (N q hq).1) hslg) (fun fl s' hD => ?_) (fun _ _ x => x.elim)
  obtain ⟨tl, hs, hn, hp, h', tk', rfl⟩ := done_stays N hD
  have hL : ∃ o, s.heap.get? L = some o := by obtain ⟨o, _, _, e, _⟩ := F.ns; exact ⟨o, e⟩
  refine ret _ tl h' tk' ⟨by obtain ⟨oL, es, ep, hL, hr⟩ := F.ns; exact ⟨oL, es, ep, hs _ _ hL, hr⟩, fun b o e => hs b o (F.keep b o e), F.above⟩ (fun q hq => ?_) (fun q hq r hr e => ?_) hp
  · rcases List.mem_append.mp hq with hq | hq
    · refine ⟨(hn q hq).1, fun e => ?_, ?_⟩
      · obtain ⟨o, ho⟩ := hL
        have := (hn q hq).2
        rw [e, ho] at this
        cases this
      · cases e : h₀.get? q.1 with
        | none => rfl
        | some o => have := F.keep _ _ e; rw [(hn q hq).2] at this; cases this
    · exact ⟨hs _ _ (NB q hq).1, (NB q hq).2⟩
  · have h1 := (hn r hr).2
    rw [← e, (NB q hq).1] at h1
    cases h1
end

section -- levfun
theorem fresh_levfun {M : Model} {A : Around} {Q : Flow → Shared → Prop} {E : Value → Shared → Prop} {s : Shared} {env : Env} {pos : Pos} (h : wpAny M A (exec (.Pass pos) env) Q E s) : wpAny M A (exec (.Pass pos) env) Q E s := by
  w_top off
  first | (walk1; fail "fresh") | exact h
/-- how many signs two texts have alike ahead -/
noncomputable def cpl : List Nat → List Nat → Nat
  | x :: xs, y :: ys => if x = y then cpl xs ys + 1 else 0
  | _, _ => 0
theorem cpl_step {xs ys : List Nat} : ∀ {n : Nat}, n ≤ cpl xs ys → (n < xs.length ∧ n < ys.length ∧ xs.getD n 0 = ys.getD n 0 → n + 1 ≤ cpl xs ys) ∧ ((n ≥ xs.length ∨ n ≥ ys.length ∨ xs.getD n 0 ≠ ys.getD n 0) → n = cpl xs ys) := by
  induction xs generalizing ys with
  | nil => intro n h; simp only [cpl] at h ⊢; simp; lia
  | cons x xs ih =>
    cases ys with
    | nil => intro n h; simp only [cpl] at h ⊢; simp; omega
    | cons y ys =>
      intro n h
      simp only [cpl] at h ⊢
      cases n with
      | zero =>
        by_cases e : x = y
        · simp [e]
        · simp [e]
      | succ n =>
        by_cases e : x = y
        · simp only [e, if_true] at h ⊢
          have := ih (ys := ys) (n := n) (by lia)
          simp only [List.length_cons, List.getD_cons_succ]
          constructor
          · intro h2
            have := this.1 ⟨by omega, by omega, h2.2.2⟩
            omega
          · intro h2
            have := this.2 (by
              rcases h2 with h2 | h2 | h2
              · exact .inl (by lia)
              · exact .inr (.inl (by lia))
              · exact .inr (.inr h2))
            lia
        · simp only [e, if_false] at h; lia
theorem cpl_le {xs ys : List Nat} : cpl xs ys ≤ xs.length ∧ cpl xs ys ≤ ys.length := by
  induction xs generalizing ys with
  | nil => simp [cpl]
  | cons x xs ih =>
    cases ys with
    | nil => simp [cpl]
    | cons y ys =>
      simp only [cpl]
      have := ih (ys := ys)
      split <;> simp <;> omega
theorem beq_codes (x y : Nat) : ((⟨#[x]⟩ : PySem.Str) == ⟨#[y]⟩) = decide (x = y) := by
  by_cases e : x = y
  · subst e; simp
  · simp [e]
theorem txt_drop {x : PySem.Str} {n : Nat} (h : n ≤ x.length) : (Txt.slice x (some (n : Int)) none).cps.toList = x.cps.toList.drop n := by
  rw [slice_from_eq (by lia) (by lia) rfl]
  show ((x.cps.toList.drop (n : Int).toNat).take _).toArray.toList = _
  have e : x.cps.toList.length = x.length := rfl
  rw [List.take_of_length_le (by rw [List.length_drop]; omega)]
  simp
theorem txt_take {x : PySem.Str} {m : Nat} (h0 : 0 < m) (h : m ≤ x.length) : (Txt.slice x none (some (-(m : Int)))).cps.toList = x.cps.toList.take (x.length - m) := by
  rw [eq_of_beq (slice_closes_to_neg (k := -(m : Int) + x.length) (by lia) (by lia) rfl)]
  have e : (-(m : Int) + x.length - 0).toNat = x.length - m := by lia
  rw [e]
  simp
theorem item_pos {x : PySem.Str} {n : Nat} (h : n < x.length) : Txt.item x (n : Int) = ⟨#[x.cps.toList.getD n 0]⟩ := by
  rw [eq_of_beq (item_closes (x := x) (i := (n : Int)) ⟨by omega, by lia⟩)]
  simp [Array.getD_eq_getD_getElem?, List.getD_eq_getElem?_getD]
theorem item_neg {x : PySem.Str} {n : Nat} {i : Int} (hi : i = -(n : Int) - 1) (h : n < x.length) : Txt.item x i = ⟨#[x.cps.toList.getD (x.length - 1 - n) 0]⟩ := by
  rw [eq_of_beq (item_closes_neg (x := x) (i := i) (j := i + x.length) (by lia) (by lia) rfl)]
  have e : (i + x.length).toNat = x.length - 1 - n := by lia
  rw [e]
  simp [Array.getD_eq_getD_getElem?, List.getD_eq_getElem?_getD]
theorem item_eq {a b : PySem.Str} {n : Nat} (ha : n < a.length) (hb : n < b.length) : (Txt.item a (n : Int) == Txt.item b (n : Int)) = decide (a.cps.toList.getD n 0 = b.cps.toList.getD n 0) := by
  rw [item_pos ha, item_pos hb, beq_codes]
theorem rev_getD {l : List Nat} {n : Nat} (h : n < l.length) : l.reverse.getD n 0 = l.getD (l.length - 1 - n) 0 := by
  have h2 : l.length - 1 - n < l.length := by omega
  simp [List.getD_eq_getElem?_getD, h, h2]
theorem item_eq_neg {a b : PySem.Str} {n : Nat} {i j : Int} (hi : i = -(n : Int) - 1) (hj : j = -(n : Int) - 1) (ha : n < a.length) (hb : n < b.length) : (Txt.item a i == Txt.item b j) = decide (a.cps.toList.reverse.getD n 0 = b.cps.toList.reverse.getD n 0) := by
  rw [item_neg hi ha, item_neg hj hb, beq_codes, rev_getD ha, rev_getD hb]
  rfl
theorem cpl_in {xs ys : List Nat} {n : Nat} (h : n ≤ cpl xs ys) (h1 : n < xs.length) (h2 : n < ys.length) (h3 : xs.getD n 0 = ys.getD n 0) : n + 1 ≤ cpl xs ys := (cpl_step h).1 ⟨h1, h2, h3⟩
theorem cpl_out {xs ys : List Nat} {n : Nat} (h : n ≤ cpl xs ys) (h1 : n ≥ xs.length ∨ n ≥ ys.length ∨ xs.getD n 0 ≠ ys.getD n 0) : cpl xs ys = n := ((cpl_step h).2 h1).symm
theorem txt_whole (x : PySem.Str) : Txt.slice x none none = x := by
  show StrLaws.sliceText x none none = x
  have e : StrLaws.sliceText x none none = StrLaws.sliceText x (some ((0 : Nat) : Int)) (some ((x.length : Nat) : Int)) := by
    unfold StrLaws.sliceText
    rw [StrLaws.sliceIdx_none_lo, StrLaws.sliceIdx_none_hi]
    rfl
  rw [e, StrLaws.sliceText_nat x (Nat.zero_le _) (Nat.le_refl _)]
  apply Str.ext'
  have h : x.cps.toList.length = x.length := rfl
  rw [List.drop_zero, Nat.sub_zero, ← h, List.take_length]
theorem txt_drop_len {x : PySem.Str} {n : Nat} (h : n ≤ x.length) : (Txt.slice x (some (n : Int)) none).length = x.length - n := by
  show (Txt.slice x (some (n : Int)) none).cps.toList.length = _
  rw [txt_drop h, List.length_drop]
  rfl
theorem txt_take_len {x : PySem.Str} {m : Nat} (h0 : 0 < m) (h : m ≤ x.length) : (Txt.slice x none (some (-(m : Int)))).length = x.length - m := by
  show (Txt.slice x none (some (-(m : Int)))).cps.toList.length = _
  rw [txt_take h0 h, List.length_take]
  have h : x.cps.toList.length = x.length := rfl
  lia
theorem slice_whole_at {prog : Program} {w : World} {A : Around} {E : Value → Shared → Prop} {s : Shared} {h₀ : Heap} {L : Addr} {m : LMap} {news : Led} {x : PySem.Str} {t : Tok} {value slice : Expr} {Q : Value → Shared → Prop}
    (hF : Fr h₀ L s.heap m) (hN : News h₀ L s.heap news) (h : ∀ h' t' k, Fr h₀ L h' m → News h₀ L h' news → Q (.str x t') { s with heap := h', toks := k })
    (hs : subscripted slice false (.str x t) (.ref s.heap.objs.size) = operate [.ref s.heap.objs.size, .str x t] (getItem (.str x t) (.ref s.heap.objs.size)))
    (ht : ∀ r, letTemporaryGo value (.str x t) r = pure ()) (hsz : x.length ≤ sizeLine) :
    wpAny (model prog w) A (subscriptTail value slice (.str x t) (.ref s.heap.objs.size)) Q E { s with heap := s.heap.push { cls := .type "slice", data := .fields #[.none, .none, .none] } } :=
  slice_strN_nn hF hN (fun h' t' k a b => by have := h h' t' k a b; rwa [txt_whole]) hs ht hsz
theorem list_range_at {prog : Program} {w : World} {A : Around} {E : Value → Shared → Prop} {s : Shared} {h₀ : Heap} {L r : Addr} {m : LMap} {news : Led} {a b c : Int} {t u v : Tok} {n : Nat} {Q : Value → Shared → Prop}
    (hh : A.handled = none) (F : Fr h₀ L s.heap m) (N : News h₀ L s.heap news) (hr : IsRange s.heap r a b c t u v) (hsmall : Builtin.Range.small a b c = true) (hn : Builtin.Range.rangeSize a b c = (n : Int)) (hlen : n ≤ 2 ^ 24)
    (h : ∀ D h' tk (ys : List Value) k, Fr h₀ L h' m → News h₀ L h' ((D, W.listOf ys.toArray k) :: news) → (∀ q ∈ news, q.1 ≠ D) → IntsAre ys (rangeInts a c n) → Q (.ref D) { s with heap := h', toks := tk }) :
    wpAny (model prog w) A (call (.type "list") [.ref r]) Q E s := by
  refine list_rangeD hh F N hr hsmall hn hlen fun h' tk ys F' N' _ h0 _ hp hc => ?_
  have hL := hp.ne_locals F'
  obtain ⟨⟨k, e⟩, hne⟩ := hp
  have hi : IntsAre ys (rangeInts a c n) := by simpa using ints_of_carried hc
  refine h _ h' tk ys k F' (fun q hq => ?_) hne hi
  rcases List.mem_cons.mp hq with rfl | hq
  · exact ⟨e, hL, h0⟩
  · exact N' q hq
/-- the seven signs -/
noncomputable def signs7 : List Nat := [97, 65, 98, 66, 99, 120, 122]
noncomputable def lc (c : Nat) : Nat := if c = 65 then 97 else if c = 66 then 98 else c
theorem lower7 {c : Nat} (h : c ∈ signs7) : Txt.lower ⟨#[c]⟩ = ⟨#[lc c]⟩ := by
  have all : signs7.all (fun c => Txt.lower ⟨#[c]⟩ == ⟨#[lc c]⟩) = true := by decide +kernel
  exact eq_of_beq (List.all_eq_true.mp all c h)
noncomputable def sc (x y : Nat) : Int := if x = y then 0 else if lc x = lc y then 1 else 2
noncomputable def levIn (bc : Nat) (as : List Nat) (σ : List Int × Int × Int × Int) (i : Nat) : List Int × Int × Int × Int :=
  let sub := σ.2.1 + sc bc (as.getD i 0)
  let d := σ.1.getD i 0
  let ins := (if d < σ.2.2.1 then d else σ.2.2.1) + 2
  let r := if sub < ins then sub else ins
  (σ.1.set i r, d, r, if r < σ.2.2.2 then r else σ.2.2.2)
noncomputable def levRun (bc : Nat) (as : List Nat) (row : List Int) (d : Int) (i : Nat) : List Int × Int × Int × Int :=
  (List.range i).foldl (levIn bc as) (row, d, d, 9223372036854775807)
theorem levRun_succ (bc : Nat) (as : List Nat) (row : List Int) (d : Int) (i : Nat) : levRun bc as row d (i + 1) = levIn bc as (levRun bc as row d i) i := by
  simp [levRun, List.range_succ, List.foldl_append]
theorem levRun_len (bc : Nat) (as : List Nat) (row : List Int) (d : Int) (i : Nat) : (levRun bc as row d i).1.length = row.length := by
  induction i with
  | zero => rfl
  | succ i ih => rw [levRun_succ]; simp [levIn, ih]
noncomputable def levDP (as bs : List Nat) : Nat → Nat → List Int → Int → Int
  | 0, _, _, res => res
  | k + 1, i, row, _ =>
    let σ := levRun (bs.getD i 0) as row ((i : Int) * 2) as.length
    if σ.2.2.2 > 8 then 9 else levDP as bs k (i + 1) σ.1 σ.2.2.1
noncomputable def levTail (a2 b2 : List Nat) : Int :=
  if a2.length = 0 ∨ b2.length = 0 then 2 * ((a2.length : Int) + b2.length) else
    let p := if b2.length < a2.length then (b2, a2) else (a2, b2)
    levDP p.1 p.2 p.2.length 0 (rangeInts 2 2 p.1.length) 0
noncomputable def levF (a b : List Nat) : Int :=
  if a = b then 0 else
    let n := cpl a b
    let a1 := a.drop n
    let b1 := b.drop n
    let m := cpl a1.reverse b1.reverse
    levTail (a1.take (a1.length - m)) (b1.take (b1.length - m))
theorem rs1 (n : Nat) : Builtin.Range.rangeSize 0 (n : Int) 1 = (n : Int) := by
  rw [rangeSize_one]
  split <;> lia
theorem sm1 {n : Nat} (h : n < 1000) : Builtin.Range.small 0 (n : Int) 1 = true := small_one (by lia) (by lia) (by lia) (by lia)
theorem mem7 {l : List Nat} {n : Nat} (h : ∀ x ∈ l, x ∈ signs7) (hn : n < l.length) : l.getD n 0 ∈ signs7 := by
  rw [List.getD_eq_getElem?_getD, List.getElem?_eq_getElem hn]
  exact h _ (List.getElem_mem hn)
theorem levIn_lt {bc : Nat} {as : List Nat} {σ : List Int × Int × Int × Int} {j : Nat} (h : (levIn bc as σ j).2.2.1 < σ.2.2.2) : (levIn bc as σ j).2.2.2 = (levIn bc as σ j).2.2.1 := if_pos h
theorem levIn_ge {bc : Nat} {as : List Nat} {σ : List Int × Int × Int × Int} {j : Nat} (h : ¬ (levIn bc as σ j).2.2.1 < σ.2.2.2) : (levIn bc as σ j).2.2.2 = σ.2.2.2 := if_neg h
theorem levIn_len {bc : Nat} {as : List Nat} {σ : List Int × Int × Int × Int} {j : Nat} : (levIn bc as σ j).1.length = σ.1.length := by simp [levIn]
theorem ints_set {x : Int} {t : Tok} : ∀ {vs : List Value} {ns : List Int} (i : Nat), IntsAre vs ns → IntsAre (vs.set i (.int x t)) (ns.set i x)
  | _, _, _, .nil => .nil
  | _, _, 0, .cons _ _ r => .cons x t r
  | _, _, i + 1, .cons n u r => .cons n u (ints_set i r)
theorem levDP_step {as bs : List Nat} {k i : Nat} {row : List Int} {r0 : Int} {σ : List Int × Int × Int × Int} (h : σ = levRun (bs.getD i 0) as row ((i : Int) * 2) as.length) : levDP as bs (k + 1) i row r0 = if σ.2.2.2 > 8 then 9 else levDP as bs k (i + 1) σ.1 σ.2.2.1 := by
  subst h
  rfl
theorem str_ne {a b : PySem.Str} (h : (a == b) = false) : a.cps.toList ≠ b.cps.toList := by
  intro e
  have : a = b := Str.ext' (by rw [← Array.toArray_toList (xs := a.cps), e, Array.toArray_toList])
  rw [this] at h
  simp at h
theorem levF_eq {a b : PySem.Str} (h : (a == b) = true) : levF a.cps.toList b.cps.toList = 0 := by
  rw [eq_of_beq h]
  simp [levF]
theorem levF_ne {a b a1 b1 a2 b2 : List Nat} {cs : Nat} (h : a ≠ b) (e1 : a1 = a.drop (cpl a b)) (e2 : b1 = b.drop (cpl a b)) (hc : cpl a1.reverse b1.reverse = cs) (e3 : a2 = a1.take (a1.length - cs)) (e4 : b2 = b1.take (b1.length - cs)) : levF a b = levTail a2 b2 := by
  subst e1 e2 hc e3 e4
  simp only [levF, if_neg h]
theorem levTail_nil {a b : List Nat} (h : a.length = 0 ∨ b.length = 0) : levTail a b = 2 * ((a.length : Int) + b.length) := by simp only [levTail, if_pos h]
theorem levTail_dp {a b a3 b3 : List Nat} (h : ¬ (a.length = 0 ∨ b.length = 0)) (e : if b.length < a.length then a3 = b ∧ b3 = a else a3 = a ∧ b3 = b) : levTail a b = levDP a3 b3 b3.length 0 (rangeInts 2 2 a3.length) 0 := by
  simp only [levTail, if_neg h]
  split at e
  · rename_i q; rw [e.1, e.2, if_pos q]
  · rename_i q; rw [e.1, e.2, if_neg q]
section
variable {prog : Program} {w : World} {A : Around} {E : Value → Shared → Prop} {s : Shared} {x : PySem.Str} {t u : Tok} {value slice : Expr} {n k : Nat} {Q : Value → Shared → Prop}
theorem lvn {l : Nat} (e : k = l - n) (h : (k : Int) ≠ 0) : n < l := by lia
theorem item_up (e : k = x.length - n) (hk : (k : Int) ≠ 0) (hl : x.length ≤ 5) (h : Q (.str (Txt.item x (n : Int)) s.toks) { s with toks := s.toks + 1 })
    (hs : subscripted slice false (.str x t) (.int (n : Int) u) = operate [.str x t, .int (n : Int) u] (getItem (.str x t) (.int (n : Int) u))) (ht : ∀ r, letTemporaryGo value (.str x t) r = pure ()) :
    wpAny (model prog w) A (subscriptTail value slice (.str x t) (.int (n : Int) u)) Q E s :=
  have q := lvn e hk
  item_str (fitsSsize_of (N := 9223372036854775808) (by lia) (by lia) (Int.le_refl _)) (by lia) (by lia) (fun _ => h) hs ht
theorem item_dn {i : Int} (e : k = x.length - n) (hi : i = -(n : Int) - 1) (hk : (k : Int) ≠ 0) (hl : x.length ≤ 5) (h : Q (.str (Txt.item x i) s.toks) { s with toks := s.toks + 1 })
    (hs : subscripted slice false (.str x t) (.int i u) = operate [.str x t, .int i u] (getItem (.str x t) (.int i u))) (ht : ∀ r, letTemporaryGo value (.str x t) r = pure ()) :
    wpAny (model prog w) A (subscriptTail value slice (.str x t) (.int i u)) Q E s :=
  have q := lvn e hk
  item_str (fitsSsize_of (N := 9223372036854775808) (by lia) (by lia) (Int.le_refl _)) (by lia) (by lia) (fun _ => h) hs ht
end
end

section -- cells
theorem fresh_cells {M : Model} {A : Around} {Q : Flow → Shared → Prop} {E : Value → Shared → Prop} {s : Shared} {env : Env} {pos : Pos} (h : wpAny M A (exec (.Pass pos) env) Q E s) : wpAny M A (exec (.Pass pos) env) Q E s := by
  w_top off
  first | (walk1; fail "fresh") | exact h
local macro_rules | `(tactic| walk_at "con plain") => `(tactic| (
  refine' con_plainB ?k6 ?k7 ?k9 ?kB ?c5 ?c2 ?c3 ?c4 ?_
  (case k6 => k_dflt k_is)
  (case k7 => k_dflt k_is)
  (case k9 => exact fun _ => BindsTo.of_eq rfl)
  (case c5 => decide)
  (case kB => exact locs rfl)
  (case c2 => exact rfl)
  (case c3 => exact rfl)
  (case c4 => exact rfl)
  intro p loose mean mg mb dp un gd outer A₀ base g' L' h' tk' s B' F' X' N' T' hdp hun l1 hsl
  (try dsimp only)
  (try k_lt l1)
  (try k_fold)))
theorem item_base {prog : Program} {w : World} {A : Around} {E : Value → Shared → Prop} {s : Shared} {h₀ : Heap} {L l : Addr} {m : LMap} {vs : List Value} {ns : List Int} {value slice : PySem.Expr} {k : Int} {u : Tok} {Q : Value → Shared → Prop}
    (F : Fr h₀ L s.heap m) (hb : h₀.IsList l vs.toArray) (hi : IntsAre vs ns) (h0 : 0 ≤ k) (h1 : k < ns.length) (h2 : ns.length ≤ 1000) (h : ∀ t, Q (.int (ns.getD k.toNat 0) t) s)
    (hs : subscripted slice false (.ref l) (.int k u) = operate [.ref l, .int k u] (getItem (.ref l) (.int k u)))
    (hg : ∀ r, letTemporaryGo value (.ref l) r = pure ()) :
    wpAny (model prog w) A (subscriptTail value slice (.ref l) (.int k u)) Q E s := by
  have hk : k.toNat < ns.length := by lia
  obtain ⟨t, e⟩ := ints_at hi hk
  have hl : s.heap.IsList l vs.toArray := by obtain ⟨o, e, r⟩ := hb; exact ⟨o, F.keep _ _ e, r⟩
  exact tail_any hl.typeIs slot_list_getitem.lookup (wpAny_getItem_list hl h0 (by lia) (by simpa using e) (h t)) hs
local macro_rules | `(tactic| walk_at "subscriptTail Name Name ref int") => `(tactic| (k_here; k_dflt (refine' item_base ?k1 ?k2 ?k5 ?k7 ?k8 ?k0 ?_ ?ka ?kb; (case k1 => k_asm); (case k2 => assumption); (case k5 => assumption); (case k7 => lia); (case k8 => lia); (case k0 => lia); (case ka => with_unfolding_all rfl); (case kb => intro _; with_unfolding_all rfl)); intro t'))
theorem con_lawcells (w : World) (sc : Addr) (vs : List Value) (ns : List Int) (hv : IntsAre vs ns) (hl : ns.length ≤ 63) :
    ConB w 0 126 [.ref sc] sc vs.toArray [] (fun v tl => ∃ D kk us c, v = .ref D ∧ tl = [(D, W.listOf us.toArray kk)] ∧ IntsAre us c ∧ c.length = 11) := by
  walk_at "con plain"
  rename_i p loose mean mg mb dp un gd outer A₀ base g L h0 tk0 s B F X N T hdp hun hsl l1
  walk_at "go"
  rename_i D _ _ _ F1 N1
  obtain ⟨us, c, N2, hus, hc11⟩ : ∃ us c, News g L _ [(D, W.listOf us.toArray 0)] ∧ IntsAre us c ∧ c.length = 11 := ⟨_, [8, 1, 7, 20, 1, 5, 1, -1, 0, 1, 0], N1, .cons _ _ (.cons _ _ (.cons _ _ (.cons _ _ (.cons _ _ (.cons _ _ (.cons _ _ (.cons _ _ (.cons _ _ (.cons _ _ (.cons _ _ .nil)))))))))), rfl⟩
  clear N1
  have hvl : vs.length = ns.length := hv.length
  (with_unfolding_all refine' For_invVF F1 ?k1 ?k2 ?_; (case k1 => exact rfl); (case k2 => exact rfl))
  walk_at "go"
  rename IsRange _ _ _ _ _ _ _ _ => R1
  rename Fr _ _ _ _ => F1
  rename News _ _ _ _ => N1
  refine iter_rangeUnr (n := ns.length) rfl R1 (sm1 (by lia)) (rs1 _) F1 N1 ?_
  intro I hI1
  k_lt hI1
  refine range_inv (fun i m' n' => Hold (∃ us c kk, n' = [(D, W.listOf us.toArray kk)] ∧ HasL m' [("script", .ref sc), ("cells", .ref D)] ∧ IntsAre us c ∧ c.length = 11)) ?_ ?_ ns.length 0 _ _ (by lia) ?_
  · clear F1 N1 R1
    rintro i m' n' ti h tk hi ex9
    apply exs_3_3 ex9
    clear ex9
    intro us c kk m1 hus hc11 F1 N1
    simp only [Int.zero_add] at F1
    replace F1 := fr_canons (ps := [("k", .int (i : Int) ti), ("script", .ref sc), ("cells", .ref D)]) F1 ⟨rfl, m1⟩
    dsimp only [canonM] at F1
    have hm : 0 ≤ (i : Int).fmod 11 ∧ (i : Int).fmod 11 < 11 := by rw [Int.fmod_eq_emod_of_nonneg _ (by decide)]; lia
    walk_at "go"
    rename Fr _ _ _ _ => F3
    rename News _ _ _ _ => N3
    rename IntsAre _ (List.set _ _ _) => hi3
    exact mkU _ _ _ ([_]) rfl F3 N3 (off1 hI1 off0) (Hold.of (mks_3_3 _ _ _ rfl ⟨rfl, rfl, trivial⟩ hi3 (by rw [List.length_set]; exact hc11)))
  · clear F1 N1 R1
    rintro m' n' h tk ex9
    apply exs_3_3 ex9
    clear ex9
    intro us c kk m1 hus hc11 F1 N1
    replace F1 := fr_canons F1 m1
    dsimp only [canonM] at F1
    walk_at "go"
    dsimp only
    exact mkD _ _ ([(D, W.listOf us.toArray kk)]) F1 N1 (fun _ _ _ h => nomatch h) ⟨D, kk, us, c, rfl, rfl, hus, hc11⟩ _ _ rfl
  · exact Hold.of (mks_3_3 us c 0 rfl ⟨rfl, rfl, trivial⟩ hus hc11)
end

section -- lawdef
theorem fresh_lawdef {M : Model} {A : Around} {Q : Flow → Shared → Prop} {E : Value → Shared → Prop} {s : Shared} {env : Env} {pos : Pos} (h : wpAny M A (exec (.Pass pos) env) Q E s) : wpAny M A (exec (.Pass pos) env) Q E s := by
  w_top off
  first | (walk1; fail "fresh") | exact h
noncomputable def lawDef : List Stmt × Scope := match PySem.Challenge.pw_jc0016_01.main.body.reverse with
  | .FunctionDef (body := b) (scope := s) .. :: _ => (b, s)
  | _ => ([], default)
noncomputable def lawS (k : Nat) : Stmt := match lawDef.1.drop k with
  | s :: _ => s
  | [] => default
noncomputable abbrev lawA (dp un : Nat) (gd : Option (List Code)) (L fa : Addr) (fcd : Value) (outer : List Env) : Around := ktrTop dp un gd (PySem.Str.ofString "law") lawDef.2 L fa fcd (cellsFrom (L + 1) lawDef.2.names []) outer
noncomputable abbrev lawE (L fa : Addr) (fcd : Value) : Env := envOfC (PySem.Str.ofString "law") lawDef.2 L fa fcd
theorem law_len : lawDef.1.length = 17 := by decide +kernel
theorem law_names : lawDef.2.names.length = 24 := by decide +kernel
end

section -- seg1
theorem fresh_seg1 {M : Model} {A : Around} {Q : Flow → Shared → Prop} {E : Value → Shared → Prop} {s : Shared} {env : Env} {pos : Pos} (h : wpAny M A (exec (.Pass pos) env) Q E s) : wpAny M A (exec (.Pass pos) env) Q E s := by
  w_top off
  first | (walk1; fail "fresh") | exact h
local macro_rules | `(tactic| walk_at "halt") => `(tactic| (with_reducible show wpAny _ _ (call (Value.ref 126) _) _ _ _))
theorem seg1 (w : World) (p : Program) (loose : List PySem.Str) (mean : ExcName → Option Value) (mg mb : PySem.Str → Option Value) (dp un : Nat) (gd : Option (List Code)) (outer : List Env) (fa : Addr) (fcd : Value) (A₀ : Around) (base g : Heap) (L : Addr) (s : Shared) (E : Value → Shared → Prop) (h : Heap) (tk : Nat) (m : LMap) (rest : Led)
    (B : Below A₀ base outer g) (X : (hdtop.heap_39 w.params).In g) (T : Top p loose mean mg mb g) (hdp : dp + 10 < recursionLimit) (hun : un + 200 < cLine) (F : Fr g L h m) (sc : Addr) (vs : List Value) (ns : List Int) (hv : IntsAre vs ns) (hl : ns.length ≤ 63) (hsl : g.IsList sc vs.toArray) (o0 : Obj) (v0 : Option Value) (hc0 : o0.data = .cell v0)
    (N : News g L h ((L + 1, o0) :: rest)) (off : ∀ q ∈ rest, q.1 ≠ L + 1) (hm : HasL m [("script", .ref sc)]) :
    wpAny (model PySem.Challenge.rw_jc0016_01.row.prog w) (lawA dp un gd L fa fcd outer) (exec (lawS 0) (lawE L fa fcd)) (fun f s' => Hold (f = .next ∧ ∃ h' tk' m' D kk us c o, s' = { s with heap := h', toks := tk' } ∧ Fr g L h' m' ∧ News g L h' ((L + 1, o) :: (D, W.listOf us.toArray kk) :: rest) ∧ (∀ q ∈ (L + 1, o) :: rest, q.1 ≠ D) ∧ o.data = .cell (some (.ref D)) ∧ IntsAre us c ∧ c.length = 11 ∧ HasL m' [("script", .ref sc)])) E { s with heap := h, toks := tk } := by
  show wpAny _ (ktrTop _ _ _ _ ⟨_, [_, _, _, _, _, _, _, _, _, _, _, _, _, _, _, _, _, _, _, _, _, _, _, _], _, _, _⟩ _ _ _ (cellsFrom _ [_, _, _, _, _, _, _, _, _, _, _, _, _, _, _, _, _, _, _, _, _, _, _, _] _) _) (exec (Stmt.Assign _ _ _) (envOfC _ ⟨_, [_, _, _, _, _, _, _, _, _, _, _, _, _, _, _, _, _, _, _, _, _, _, _, _], _, _, _⟩ _ _ _)) _ _ _
  replace F := fr_canons F hm
  dsimp only [canonM] at F
  walk_at "go"
  refine' con_lawcells _ _ _ _ ?a1 ?a2 _ _ _ _ _ _ _ _ _ _ _ _ _ _ _ _ _ _ _ _ _ _ _ ?k1 ?k2 ?k3 ?k4 ?k9 ?k5 ?k6 ?k7 ?k8 ?kb ?_
  (case a1 => assumption)
  (case a2 => assumption)
  (case k1 => k_asm)
  (case k2 => k_asm)
  (case k3 => k_asm)
  (case k4 => k_asm)
  (case k5 => k_asm)
  (case k6 => exact rfl)
  (case k7 => lia)
  (case k8 => lia)
  (case k9 => exact (fun _ h => nomatch h))
  (case kb => assumption)
  intro r9 tl9 h9 tk9 F9 N9 ap9 ho9
  obtain ⟨D9, kk9, us9, c9, e9, tn9, hi9, hc9⟩ := ho9
  subst e9
  subst tn9
  (simp only [List.cons_append, List.nil_append] at N9)
  (have n9 := off1_of (fun q hq => ap9 q hq _ (List.mem_singleton.mpr rfl)))
  (simp only [LCg.Off1] at n9)
  walk_at "go"
  rename Fr _ _ _ _ => F3
  rename News _ _ _ _ => N3
  rename (∀ q ∈ _, ∀ r ∈ _, _) => ap
  rename IntsAre _ _ => hi3
  rename List.length _ = 11 => hc3
  rename _ = Data.cell (some (Value.ref _)) => hd3
  refine Hold.of ⟨by trivial, mks_8_7 _ _ _ _ _ _ _ _ rfl F3 (swap2 N3) (fun q hq => ?_) hd3 hi3 hc3 ⟨rfl, trivial⟩⟩
  rcases List.mem_cons.mp hq with rfl | hq
  · exact ap (L + 1, o0) (List.Mem.head _) _ (List.Mem.head _)
  · exact ap q (List.Mem.tail _ hq) _ (List.Mem.head _)
end

section -- levdec
theorem fresh_levdec {M : Model} {A : Around} {Q : Flow → Shared → Prop} {E : Value → Shared → Prop} {s : Shared} {env : Env} {pos : Pos} (h : wpAny M A (exec (.Pass pos) env) Q E s) : wpAny M A (exec (.Pass pos) env) Q E s := by
  w_top off
  first | (walk1; fail "fresh") | exact h
noncomputable def wordL (c : Nat) : List Nat :=
  (if c / 8 % 2 = 1 then [122] else []) ++ [if c % 2 = 1 then 65 else 97, if c / 2 % 2 = 1 then 66 else 98, if c / 4 % 2 = 1 then 120 else 99] ++ (if c / 16 % 2 = 1 then [122] else [])
noncomputable def priceN (c d : Nat) : Int :=
  ((c + d) % 2 * 1 + (c / 2 + d / 2) % 2 * 1 + (c / 4 + d / 4) % 2 * 2 + (c / 8 + d / 8) % 2 * 2 + (c / 16 + d / 16) % 2 * 2 : Nat)
noncomputable def levRow (c : Nat) : Bool := (List.range 32).all fun d => levF (wordL c) (wordL d) == priceN c d
theorem lev_r0 : ((List.range 8).all fun c => levRow c) = true := by decide +kernel
theorem lev_r1 : ((List.range 8).all fun c => levRow (8 + c)) = true := by decide +kernel
theorem lev_r2 : ((List.range 8).all fun c => levRow (16 + c)) = true := by decide +kernel
theorem lev_r3 : ((List.range 8).all fun c => levRow (24 + c)) = true := by decide +kernel
theorem lev_row {c : Nat} (hc : c < 32) : levRow c = true := by
  have up : ∀ k, ((List.range 8).all fun c => levRow (k + c)) = true → k ≤ c → c < k + 8 → levRow c = true := fun k h h1 h2 => by
    have h3 := List.all_eq_true.mp h (c - k) (List.mem_range.mpr (by lia))
    rwa [Nat.add_sub_cancel' h1] at h3
  by_cases h1 : c < 16
  · by_cases h2 : c < 8
    · exact List.all_eq_true.mp lev_r0 c (List.mem_range.mpr h2)
    · exact up 8 lev_r1 (by lia) (by lia)
  · by_cases h2 : c < 24
    · exact up 16 lev_r2 (by lia) (by lia)
    · exact up 24 lev_r3 (by lia) (by lia)
theorem lev_price {c d : Nat} (hc : c < 32) (hd : d < 32) : levF (wordL c) (wordL d) = priceN c d :=
  eq_of_beq (List.all_eq_true.mp (lev_row hc) d (List.mem_range.mpr hd))
theorem word_sub7 : ((List.range 32).all fun c => (wordL c).all fun x => signs7.contains x) = true := by decide +kernel
end

section -- word
theorem fresh_word {M : Model} {A : Around} {Q : Flow → Shared → Prop} {E : Value → Shared → Prop} {s : Shared} {env : Env} {pos : Pos} (h : wpAny M A (exec (.Pass pos) env) Q E s) : wpAny M A (exec (.Pass pos) env) Q E s := by
  w_top off
  first | (walk1; fail "fresh") | exact h
noncomputable def cellN (c : Int) : Nat := (c % 32).toNat
noncomputable def wordS (c : Int) : PySem.Str := ⟨(wordL (cellN c)).toArray⟩
theorem bit_gen (c : Int) (m j : Nat) (hm : 0 < m) (h : 32 = m * (2 * j)) : (c / (m : Int)) % 2 = (((c % 32).toNat / m % 2 : Nat) : Int) := by
  have hr : ((c % 32).toNat : Int) = c % 32 := Int.toNat_of_nonneg (Int.emod_nonneg _ (by decide))
  have h32 : (32 : Int) = (m : Int) * (2 * (j : Int)) := by exact_mod_cast h
  have hc : c % 32 + (m : Int) * (2 * ((j : Int) * (c / 32))) = c := by
    rw [← Int.mul_assoc 2, ← Int.mul_assoc (m : Int), ← h32]
    exact Int.emod_add_mul_ediv c 32
  have hm' : (m : Int) ≠ 0 := Int.natCast_ne_zero.mpr (Nat.ne_of_gt hm)
  rw [Int.natCast_emod, Int.natCast_ediv, hr]
  conv => lhs; rw [← hc, Int.add_mul_ediv_left _ _ hm']
  exact Int.add_mul_emod_self_left _ _ _
theorem bs_gen {a b : Int} {x y : Nat} (ha : a % 2 = ((x % 2 : Nat) : Int)) (hb : b % 2 = ((y % 2 : Nat) : Int)) : (a + b) % 2 = (((x + y) % 2 : Nat) : Int) := by lia
theorem bit_f (c : Int) (m j : Nat) (hm : 0 < m) (h : 32 = m * (2 * j)) : (c.fdiv (m : Int)).fmod 2 = (((c % 32).toNat / m % 2 : Nat) : Int) := by
  rw [Int.fmod_eq_emod_of_nonneg _ (by decide), Int.fdiv_eq_ediv_of_nonneg _ (Int.natCast_nonneg m)]
  exact bit_gen c m j hm h
theorem bit_f1 (c : Int) : c.fmod 2 = (((c % 32).toNat % 2 : Nat) : Int) := by
  have h := bit_f c 1 16 (by decide) (by decide)
  rw [Nat.div_one] at h
  rwa [show ((1 : Nat) : Int) = 1 from rfl, Int.fdiv_one] at h
theorem cell_bits (c : Int) : c.fmod 2 = ((cellN c % 2 : Nat) : Int) ∧ (c.fdiv 2).fmod 2 = ((cellN c / 2 % 2 : Nat) : Int) ∧ (c.fdiv 4).fmod 2 = ((cellN c / 4 % 2 : Nat) : Int) ∧ (c.fdiv 8).fmod 2 = ((cellN c / 8 % 2 : Nat) : Int) ∧ (c.fdiv 16).fmod 2 = ((cellN c / 16 % 2 : Nat) : Int) :=
  ⟨bit_f1 c, bit_f c 2 8 (by decide) (by decide), bit_f c 4 4 (by decide) (by decide), bit_f c 8 2 (by decide) (by decide), bit_f c 16 1 (by decide) (by decide)⟩
theorem cellN_lt (c : Int) : cellN c < 32 := by unfold cellN; lia
theorem word_txt : ((List.range 32).all fun n => (Txt.mul (PySem.Str.ofString "z") ((n / 8 % 2 : Nat) : Int) ++ (Txt.item (PySem.Str.ofString "aA") ((n % 2 : Nat) : Int) ++ Txt.item (PySem.Str.ofString "bB") ((n / 2 % 2 : Nat) : Int) ++ Txt.item (PySem.Str.ofString "cx") ((n / 4 % 2 : Nat) : Int)) ++ Txt.mul (PySem.Str.ofString "z") ((n / 16 % 2 : Nat) : Int)) == (⟨(wordL n).toArray⟩ : PySem.Str)) = true := by decide +kernel
theorem word_at (c : Int) : Txt.mul (PySem.Str.ofString "z") ((c.fdiv 8).fmod 2) ++ (Txt.item (PySem.Str.ofString "aA") (c.fmod 2) ++ Txt.item (PySem.Str.ofString "bB") ((c.fdiv 2).fmod 2) ++ Txt.item (PySem.Str.ofString "cx") ((c.fdiv 4).fmod 2)) ++ Txt.mul (PySem.Str.ofString "z") ((c.fdiv 16).fmod 2) = wordS c := by
  obtain ⟨h0, h1, h2, h3, h4⟩ := cell_bits c
  rw [h0, h1, h2, h3, h4]
  exact eq_of_beq (List.all_eq_true.mp word_txt (cellN c) (List.mem_range.mpr (cellN_lt c)))
theorem word_len (c : Int) : (wordS c).length ≤ 5 := by
  have h : ((List.range 32).all fun n => decide ((wordL n).length ≤ 5)) = true := by decide +kernel
  exact of_decide_eq_true (List.all_eq_true.mp h (cellN c) (List.mem_range.mpr (cellN_lt c)))
theorem word_7 (c : Int) : ∀ x ∈ (wordS c).cps.toList, x ∈ signs7 := by
  intro x hx
  have h := List.all_eq_true.mp word_sub7 (cellN c) (List.mem_range.mpr (cellN_lt c))
  have h2 := List.all_eq_true.mp h x hx
  simpa using h2
theorem con_word (w : World) (c : Int) (t : Tok) : Con w 0 133 [.int c t] [] (fun v tl => tl = [] ∧ ∃ t', v = .str (wordS c) t') := by
  walk_at "con plain"
  have h2 : 0 ≤ (c.fdiv 8).fmod 2 ∧ (c.fdiv 8).fmod 2 ≤ 1 := by have := (cell_bits c).2.2.2.1; lia
  have h3 : 0 ≤ (c.fdiv 16).fmod 2 ∧ (c.fdiv 16).fmod 2 ≤ 1 := by have := (cell_bits c).2.2.2.2; lia
  walk_at "go"
  walk_at "con end0"
  exact ⟨rfl, _, by rw [word_at]⟩
noncomputable def priceI (c d : Int) : Int := priceN (cellN c) (cellN d)
theorem price_bd (c d : Int) : 0 ≤ priceI c d ∧ priceI c d ≤ 8 := by unfold priceI priceN; lia
end

section -- sub1
theorem fresh_sub1 {M : Model} {A : Around} {Q : Flow → Shared → Prop} {E : Value → Shared → Prop} {s : Shared} {env : Env} {pos : Pos} (h : wpAny M A (exec (.Pass pos) env) Q E s) : wpAny M A (exec (.Pass pos) env) Q E s := by
  w_top off
  first | (walk1; fail "fresh") | exact h
theorem con_sub0 (w : World) (X Y : PySem.Str) (x y : Nat) (t u : Tok) (eX : X = ⟨#[x]⟩) (eY : Y = ⟨#[y]⟩) (hx : x ∈ signs7) (hy : y ∈ signs7) : Con w 0 112 [.str X t, .str Y u] [] (fun v tl => tl = [] ∧ ∃ t', v = .int (sc x y) t') := by
  walk_at "con plain"
  have ex : Txt.lower X = ⟨#[lc x]⟩ := by rw [eX]; exact lower7 hx
  have ey : Txt.lower Y = ⟨#[lc y]⟩ := by rw [eY]; exact lower7 hy
  have lx : X.length = 1 := by rw [eX]; rfl
  have ly : Y.length = 1 := by rw [eY]; rfl
  have e0 : (X == Y) = decide (x = y) := by rw [eX, eY, beq_codes]
  have e1 : (Txt.lower X == Txt.lower Y) = decide (lc x = lc y) := by rw [ex, ey, beq_codes]
  walk_at "go"
  · rename (X == Y) = _ => hq
    rw [e0] at hq
    walk_at "con end0"
    exact ⟨rfl, _, by rw [sc, if_pos (of_decide_eq_true hq)]⟩
  · rename (X == Y) = _ => hq
    rename (Txt.lower X == Txt.lower Y) = _ => hr
    rw [e0] at hq
    rw [e1] at hr
    walk_at "con end0"
    exact ⟨rfl, _, by rw [sc, if_neg (of_decide_eq_false hq), if_pos (of_decide_eq_true hr)]⟩
  · rename (X == Y) = _ => hq
    rename (Txt.lower X == Txt.lower Y) = _ => hr
    rw [e0] at hq
    rw [e1] at hr
    walk_at "con end0"
    exact ⟨rfl, _, by rw [sc, if_neg (of_decide_eq_false hq), if_neg (of_decide_eq_false hr)]⟩
theorem con_sub (w : World) (x y : Nat) (t u : Tok) (hx : x ∈ signs7) (hy : y ∈ signs7) : Con w 0 112 [.str ⟨#[x]⟩ t, .str ⟨#[y]⟩ u] [] (fun v tl => tl = [] ∧ ∃ t', v = .int (sc x y) t') :=
  con_sub0 w _ _ x y t u rfl rfl hx hy
end

section -- levdp
theorem fresh_levdp {M : Model} {A : Around} {Q : Flow → Shared → Prop} {E : Value → Shared → Prop} {s : Shared} {env : Env} {pos : Pos} (h : wpAny M A (exec (.Pass pos) env) Q E s) : wpAny M A (exec (.Pass pos) env) Q E s := by
  w_top off
  first | (walk1; fail "fresh") | exact h
noncomputable def levDef : List Stmt × Scope := match PySem.Challenge.pw_jc0016_01.main.body.drop 17 with
  | .FunctionDef (body := b) (scope := s) .. :: _ => (b, s)
  | _ => ([], default)
local macro_rules | `(tactic| walk_at "call ref") => `(tactic| (k_here; k_dflt (refine' Con.useV (con_sub0 _ _ _ _ _ _ _ (item_pos ?e1) (item_pos ?e2) (mem7 ?c1 ?d1) (mem7 ?c2 ?d2)) al_nil ?_; (case e1 => omega); (case e2 => omega); (case c1 => assumption); (case c2 => assumption); (case d1 => lia); (case d2 => lia); intro t9 h9 tk9 F9 N9)))
local macro_rules | `(tactic| walk_at "call type:list") => `(tactic| (k_here; (rename IsRange _ _ _ _ _ _ _ _ => R'); (rename Builtin.Range.small _ _ _ = true => q3); (rename Builtin.Range.rangeSize _ _ _ = _ => q4); k_dflt (refine' list_range_at rfl ?k1 ?k2 R' q3 q4 ?k5 ?_; (case k1 => k_asm); (case k2 => k_asm); (case k5 => lia)); intro D' h' tk' ys' k' F' N' l1' hI'))
theorem lev_dp (w : World) (a b : PySem.Str) (t1 t2 t3 : Tok) (ha0 : 1 ≤ a.length) (hab : a.length ≤ b.length) (hb : b.length ≤ 5) (ca : ∀ x ∈ a.cps.toList, x ∈ signs7) (cb : ∀ x ∈ b.cps.toList, x ∈ signs7)
    (p : Program) (loose : List PySem.Str) (mean : ExcName → Option Value) (mg mb : LMap) (dp un : Nat) (gd : Option (List Code)) (outer : List Env) (A₀ : Around) (base g : Heap) (L : Addr) (s : Shared) (h : Heap) (tk : Nat) (m : LMap)
    (B : Below A₀ base outer g) (X : (hdtop.heap_39 w.params).In g) (T : Top p loose mean mg mb g) (hdp : dp + 3 < recursionLimit) (hun : un + 77 < cLine) (F : Fr g L h m) (N : News g L h [])
    (hm : HasL m [("a", .str a t1), ("b", .str b t2), ("max_cost", .int 8 t3)]) :
    wpAny (model PySem.Challenge.rw_jc0016_01.row.prog w) (ktrTop dp un gd (PySem.Str.ofString "_levenshtein_distance") levDef.2 L 119 (.ref 118) [] outer) (execs (levDef.1.drop 13) (envOf (PySem.Str.ofString "_levenshtein_distance") levDef.2 L 119 (.ref 118)))
      (fun fl s' => Hold (∃ t h' tk' m', fl = .ret (.int (levDP a.cps.toList b.cps.toList b.cps.toList.length 0 (rangeInts 2 2 a.cps.toList.length) 0) t) ∧ s' = { s with heap := h', toks := tk' } ∧ Fr g L h' m' ∧ News g L h' [])) (fun _ _ => False) { s with heap := h, toks := tk } := by
  show wpAny _ (ktrTop _ _ _ _ ⟨_, _, _, _, _⟩ _ _ _ _ _) (execs [_, _, _, _] (envOf _ ⟨_, _, _, _, _⟩ _ _ _)) _ _ _
  have hla : a.cps.toList.length = a.length := rfl
  have hlb : b.cps.toList.length = b.length := rfl
  replace F := fr_canons F hm
  dsimp only [canonM] at F
  have h5 : a.length = 1 ∨ a.length = 2 ∨ a.length = 3 ∨ a.length = 4 ∨ a.length = 5 := by lia
  have hsm : Builtin.Range.small 2 (2 * ((a.length : Int) + 1)) 2 = true := by rcases h5 with e | e | e | e | e <;> rw [e] <;> decide
  have hsz : Builtin.Range.rangeSize 2 (2 * ((a.length : Int) + 1)) 2 = (a.length : Int) := by rcases h5 with e | e | e | e | e <;> rw [e] <;> decide
  clear h5
  rw [hla, hlb]
  generalize htot : levDP a.cps.toList b.cps.toList b.length 0 (rangeInts 2 2 a.length) 0 = tot
  walk_at "go"
  rename_i D _ _ ys kk l1 hI _ _ _ F1 N1
  have hrl : (rangeInts 2 2 a.length).length = a.length := rangeInts_length _ _ _
  (with_unfolding_all refine' For_invVF F1 ?k1 ?k2 ?_; (case k1 => exact rfl); (case k2 => exact rfl))
  walk_at "go"
  rename IsRange _ _ _ _ _ _ _ _ => R1
  rename Fr _ _ _ _ => F1
  rename News _ _ _ _ => N1
  refine iter_rangeUnr (n := b.length) rfl R1 (sm1 (by lia)) (rs1 _) F1 N1 ?_
  intro I hI1
  k_lt hI1
  refine range_inv (fun i m' n' => Hold (∃ vs k row res tr, n' = [(D, W.listOf vs.toArray k)] ∧ HasL m' [("a", .str a t1), ("b", .str b t2), ("max_cost", .int 8 t3), ("row", .ref D), ("result", .int res tr)] ∧ IntsAre vs row ∧ row.length = a.length ∧ levDP a.cps.toList b.cps.toList (b.length - i) i row res = tot)) ?_ ?_ b.length 0 _ _ (by lia) ?_
  · clear F1 N1 R1
    rintro i m' n' ti h tk hi ex9
    apply exs_5_4 ex9
    clear ex9
    intro vs k row res tr m1 hv hrow hdpv F1 N1
    simp only [Int.zero_add] at F1
    replace F1 := fr_canons (ps := [("bindex", .int (i : Int) ti), ("a", .str a t1), ("b", .str b t2), ("max_cost", .int 8 t3), ("row", .ref D), ("result", .int res tr)]) F1 ⟨rfl, m1⟩
    dsimp only [canonM] at F1
    walk_at "go"
    clear F1 N1 m1
    rename Fr _ _ _ _ => F1
    rename News _ _ _ _ => N1
    (with_unfolding_all refine' For_invVF F1 ?k1 ?k2 ?_; (case k1 => exact rfl); (case k2 => exact rfl))
    walk_at "go"
    rename IsRange _ _ _ _ _ _ _ _ => R1
    rename Fr _ _ _ _ => F1
    rename News _ _ _ _ => N1
    refine iter_rangeUnr (n := a.length) rfl R1 (sm1 (by lia)) (rs1 _) F1 N1 ?_
    intro I2 hI2
    k_lt hI2
    refine range_inv (fun j m' n' => Hold (∃ vs k td tr tm tb σ, n' = [(I, itR (0 + ((i + 1 : Nat) : Int)) ((b.length : Int) - ((i + 1 : Nat) : Int))), (D, W.listOf vs.toArray k)] ∧ σ = levRun (b.cps.toList.getD i 0) a.cps.toList row ((i : Int) * 2) j ∧ HasL m' [("a", .str a t1), ("b", .str b t2), ("max_cost", .int 8 t3), ("row", .ref D), ("bchar", .str (Txt.item b (i : Int)) tb), ("distance", .int σ.2.1 td), ("result", .int σ.2.2.1 tr), ("minimum", .int σ.2.2.2 tm)] ∧ IntsAre vs σ.1 ∧ σ.1.length = a.length)) ?_ ?_ a.length 0 _ _ (by lia) ?_
    · clear F1 N1 R1
      rintro j m' n' tj h tk hj ex9
      apply exs_7_4 ex9
      clear ex9
      rintro vs k td tr tm tb σ hσ m1 hv hlen F1 N1
      simp only [Int.zero_add] at F1
      replace F1 := fr_canons (ps := [("index", .int (j : Int) tj), ("a", .str a t1), ("b", .str b t2), ("max_cost", .int 8 t3), ("row", .ref D), ("bchar", .str (Txt.item b (i : Int)) tb), ("distance", .int σ.2.1 td), ("result", .int σ.2.2.1 tr), ("minimum", .int σ.2.2.2 tm)]) F1 ⟨rfl, m1⟩
      dsimp only [canonM] at F1
      walk_at "go"
      · rename (_ : Int) < σ.2.2.2 => hq
        have hq2 : (levIn (b.cps.toList.getD i 0) a.cps.toList σ j).2.2.1 < σ.2.2.2 := hq
        rename Fr _ _ _ _ => F2
        rename News _ _ _ _ => N2
        exact mkU _ _ _ _ rfl F2 N2 (off1 hI2.1 (off1 hI2.2 off0)) (Hold.of (mks_7_4 _ _ _ _ _ _ (levIn (b.cps.toList.getD i 0) a.cps.toList σ j) rfl (by rw [levRun_succ, hσ]) ⟨rfl, rfl, rfl, rfl, rfl, rfl, rfl, (by rw [levIn_lt hq2]; rfl), trivial⟩ (ints_set j hv) (levIn_len.trans hlen)))
      · rename ¬ (_ : Int) < σ.2.2.2 => hq
        have hq2 : ¬ (levIn (b.cps.toList.getD i 0) a.cps.toList σ j).2.2.1 < σ.2.2.2 := hq
        rename Fr _ _ _ _ => F2
        rename News _ _ _ _ => N2
        exact mkU _ _ _ _ rfl F2 N2 (off1 hI2.1 (off1 hI2.2 off0)) (Hold.of (mks_7_4 _ _ _ _ _ _ (levIn (b.cps.toList.getD i 0) a.cps.toList σ j) rfl (by rw [levRun_succ, hσ]) ⟨rfl, rfl, rfl, rfl, rfl, rfl, rfl, (by rw [levIn_ge hq2]; rfl), trivial⟩ (ints_set j hv) (levIn_len.trans hlen)))
    · clear F1 N1 R1
      rintro m' n' h tk ex9
      apply exs_7_4 ex9
      clear ex9
      rintro vs k td tr tm tb σ hσ m1 hv hlen F1 N1
      replace F1 := fr_canons F1 m1
      dsimp only [canonM] at F1
      have hbi : b.length - i = (b.length - (i + 1)) + 1 := by lia
      rw [hbi, levDP_step hσ] at hdpv
      walk_at "go"
      · rw [if_pos (by omega)] at hdpv
        subst hdpv
        exact ⟨_, _, _, _, rfl, rfl, F1, fun _ h => nomatch h⟩
      · rw [if_neg (by omega)] at hdpv
        exact mkU _ _ _ _ rfl F1 N1 (off1 hI1 off0) (Hold.of (mks_5_4 _ _ _ _ _ rfl ⟨rfl, rfl, rfl, rfl, rfl, trivial⟩ hv hlen hdpv))
    · exact Hold.of (mks_7_4 vs k _ _ _ _ _ rfl rfl ⟨rfl, rfl, rfl, rfl, rfl, rfl, rfl, rfl, trivial⟩ hv hrow)
  · clear F1 N1 R1
    rintro m' n' h tk ex9
    apply exs_5_4 ex9
    clear ex9
    intro vs k row res tr m1 hv hrow hdpv F1 N1
    replace F1 := fr_canons F1 m1
    dsimp only [canonM] at F1
    walk_at "go"
    rw [Nat.sub_self] at hdpv
    dsimp only [levDP] at hdpv
    subst hdpv
    exact ⟨_, _, _, _, rfl, rfl, F1, fun _ h => nomatch h⟩
  · exact Hold.of (mks_5_4 ys kk (rangeInts 2 2 a.length) 0 _ rfl ⟨rfl, rfl, rfl, rfl, rfl, trivial⟩ hI hrl htot)
end

section -- lev
theorem fresh_lev {M : Model} {A : Around} {Q : Flow → Shared → Prop} {E : Value → Shared → Prop} {s : Shared} {env : Env} {pos : Pos} (h : wpAny M A (exec (.Pass pos) env) Q E s) : wpAny M A (exec (.Pass pos) env) Q E s := by
  w_top off
  first | (walk1; fail "fresh") | exact h
local macro_rules | `(tactic| walk_at "halt") => `(tactic| (with_reducible show wpAny _ _ (execs (Stmt.If (Expr.Compare (Expr.Call _ _ _ _) [CmpOp.Lt] _ _) _ _ _ :: _) _) _ _ _))
local macro_rules | `(tactic| walk_at "halt") => `(tactic| (with_reducible show wpAny _ _ (execs (Stmt.Assign [Expr.Name (Str.ofString "row") _] _ _ :: _) _) _ _ _))
local macro_rules | `(tactic| walk_at "subscriptTail Name Slice str ref") => `(tactic| (k_here; (with_reducible show wpAny _ _ (subscriptTail _ (Expr.Slice none (some _) none _) (Value.str _ _) (Value.ref _)) _ _ _); k_dflt (refine' slice_whole_at (s := ⟨_, _, _, _, _⟩) ?k1 ?k2 ?_ ?k3 ?k4 ?k5; (case k1 => k_asm); (case k2 => k_asm); (case k3 => with_unfolding_all rfl); (case k4 => intro _; with_unfolding_all rfl); (case k5 => size_fits)); intro h' t' k' F' N'; (try k_sweep)))
local macro_rules | `(tactic| walk_at "subscriptTail Name Name str int") => `(tactic| (refine item_up (by assumption) (by assumption) (by assumption) ?_ (by with_unfolding_all rfl) (by intro _; with_unfolding_all rfl)))
local macro_rules | `(tactic| walk_at "subscriptTail Name BinOp str int") => `(tactic| (refine item_dn (by first | assumption | exact (Nat.sub_zero _).symm) rfl (by assumption) (by assumption) ?_ (by with_unfolding_all rfl) (by intro _; with_unfolding_all rfl)))
theorem con_lev (w : World) (a b : PySem.Str) (t u v : Tok) (ha : a.length ≤ 5) (hb : b.length ≤ 5) (ca : ∀ x ∈ a.cps.toList, x ∈ signs7) (cb : ∀ x ∈ b.cps.toList, x ∈ signs7) : Con w 1 119 [.str a t, .str b u, .int 8 v] [] (fun r tl => tl = [] ∧ ∃ t', r = .int (levF a.cps.toList b.cps.toList) t') := by
  walk_at "con plain"
  rename_i p loose mean mg mb dp un gd outer A₀ base g L h0 tk0 s B F X N T hdp hun l1
  walk_at "go"
  · rename (a == b) = _ => hab0
    walk_at "con end0"
    exact ⟨rfl, _, by rw [levF_eq hab0]⟩
  · rename Fr _ _ _ _ => F1
    rename News _ _ _ _ => N1
    rename (a == b) = _ => hab0
    replace hab0 := str_ne hab0
    refine wpAny_mono (Q := fun f s' => Hold (f = Flow.next ∧ ∃ h' tk' tp m', s' = { s with heap := h', toks := tk' } ∧ Fr g L h' m' ∧ News g L h' [] ∧ HasL m' [("a", .str a t), ("b", .str b u), ("max_cost", .int 8 v), ("pre", .int (cpl a.cps.toList b.cps.toList : Nat) tp)])) ?_ ?_ (fun _ _ e => e)
    · skip
      k_here
      refine while_start (by passes_own) (fun k s₁ => ∃ h' tk' tp m' n, s₁ = { s with heap := h', toks := tk' } ∧ Fr g L h' m' ∧ News g L h' [] ∧ HasL m' [("a", .str a t), ("b", .str b u), ("max_cost", .int 8 v), ("pre", .int ((n : Nat) : Int) tp)] ∧ n ≤ cpl a.cps.toList b.cps.toList ∧ k + n = 100) 100 ?_ ?_
      · exact mks_5_5 _ _ _ _ 0 rfl F1 N1 ⟨rfl, rfl, rfl, rfl, trivial⟩ (Nat.zero_le _) rfl
      · clear F1 N1 
        rintro k s₁ ex9
        apply exs_5_5 ex9
        clear ex9
        intro h' tk' tp m' n F1 N1 m1 hn hk
        replace F1 := fr_canons F1 m1
        dsimp only [canonM] at F1
        have hcl := cpl_le (xs := a.cps.toList) (ys := b.cps.toList)
        have hla : a.cps.toList.length = a.length := rfl
        have hlb : b.cps.toList.length = b.length := rfl
        have hs1 := txt_drop_len (x := a) (n := n) (by lia)
        have hs2 := txt_drop_len (x := b) (n := n) (by lia)
        walk_at "go"
        all_goals (repeat (rename (_ → _ → _) ∧ (_ → _) => hx1; clear hx1))
        · rename (Txt.item a _ == Txt.item b _) = _ => hq
          rw [item_eq (lvn hs1 (by assumption)) (lvn hs2 (by assumption))] at hq
          have hn2 := cpl_in hn (lvn hs1 (by assumption)) (lvn hs2 (by assumption)) (of_decide_eq_true hq)
          exact Hold.of ⟨99 - n, by lia, mks_5_5 _ _ _ _ (n + 1) rfl (by assumption) (by assumption) ⟨rfl, rfl, rfl, rfl, trivial⟩ hn2 (by lia)⟩
        · rename (Txt.item a _ == Txt.item b _) = _ => hq
          rw [item_eq (lvn hs1 (by assumption)) (lvn hs2 (by assumption))] at hq
          rw [cpl_out hn (.inr (.inr (of_decide_eq_false hq)))]
          exact Hold.of ⟨by trivial, mks_4_3 _ _ _ _ rfl (by assumption) (by assumption) ⟨rfl, rfl, rfl, rfl, trivial⟩⟩
        · rw [cpl_out hn (.inr (.inl (by lia)))]
          exact Hold.of ⟨by trivial, mks_4_3 _ _ _ _ rfl (by assumption) (by assumption) ⟨rfl, rfl, rfl, rfl, trivial⟩⟩
        · rw [cpl_out hn (.inl (by lia))]
          exact Hold.of ⟨by trivial, mks_4_3 _ _ _ _ rfl (by assumption) (by assumption) ⟨rfl, rfl, rfl, rfl, trivial⟩⟩
    · clear F1 N1
      rintro f s' ⟨rfl, ex9⟩
      apply exs_4_3 ex9
      clear ex9
      intro h' tk' tp m' F1 N1 m1
      replace F1 := fr_canons F1 m1
      dsimp only [canonM] at F1
      have hcl := cpl_le (xs := a.cps.toList) (ys := b.cps.toList)
      have hla : a.cps.toList.length = a.length := rfl
      have hlb : b.cps.toList.length = b.length := rfl
      have ea := txt_drop (x := a) (n := cpl a.cps.toList b.cps.toList) (by lia)
      have eb := txt_drop (x := b) (n := cpl a.cps.toList b.cps.toList) (by lia)
      walk_at "go"
      generalize Txt.slice a (some ((cpl a.cps.toList b.cps.toList : Nat) : Int)) none = a1 at *
      generalize Txt.slice b (some ((cpl a.cps.toList b.cps.toList : Nat) : Int)) none = b1 at *
      rename Fr _ _ _ _ => F1
      rename News _ _ _ _ => N1
      have hla1 : a1.cps.toList.length = a1.length := rfl
      have hlb1 : b1.cps.toList.length = b1.length := rfl
      have hA1 : a1.length ≤ 5 := Nat.le_trans (by assumption) ha
      have hB1 : b1.length ≤ 5 := Nat.le_trans (by assumption) hb
      generalize hcs : cpl a1.cps.toList.reverse b1.cps.toList.reverse = cs
      refine wpAny_mono (Q := fun f s' => Hold (f = Flow.next ∧ ∃ h' tk' ta tb tp m', s' = { s with heap := h', toks := tk' } ∧ Fr g L h' m' ∧ News g L h' [] ∧ HasL m' [("a", .str a1 ta), ("b", .str b1 tb), ("max_cost", .int 8 v), ("post", .int (-(cs : Int)) tp)])) ?_ ?_ (fun _ _ e => e)
      · skip
        k_here
        refine while_start (by passes_own) (fun k s₁ => ∃ h' tk' ta tb tp m' n, s₁ = { s with heap := h', toks := tk' } ∧ Fr g L h' m' ∧ News g L h' [] ∧ HasL m' [("a", .str a1 ta), ("b", .str b1 tb), ("max_cost", .int 8 v), ("post", .int (-((n : Nat) : Int)) tp)] ∧ n ≤ cs ∧ k + n = 100) 100 ?_ ?_
        · exact mks_7_5 _ _ _ _ _ _ 0 rfl F1 N1 ⟨rfl, rfl, rfl, rfl, trivial⟩ (Nat.zero_le _) rfl
        · clear F1 N1
          rintro k s₁ ex9
          apply exs_7_5 ex9
          clear ex9
          intro h' tk' ta tb tp m' n F1 N1 m1 hn hk
          replace F1 := fr_canons F1 m1
          dsimp only [canonM] at F1
          have hcl := cpl_le (xs := a1.cps.toList.reverse) (ys := b1.cps.toList.reverse)
          simp only [List.length_reverse] at hcl
          rw [hcs] at hcl
          rcases Nat.eq_zero_or_pos n with hz | hz
          · subst hz
            have e0 : (-((0 : Nat) : Int)) = 0 := rfl
            rw [e0] at F1 m1
            walk_at "go"
            · rename (Txt.item a1 _ == Txt.item b1 _) = _ => hq
              rw [item_eq_neg (a := a1) (b := b1) (n := 0) (i := 0 - 1) (j := 0 - 1) rfl rfl (lvn (Nat.sub_zero _).symm (by assumption)) (lvn (Nat.sub_zero _).symm (by assumption))] at hq
              rw [← hcs] at hn
              have hn2 := cpl_in hn (by rw [List.length_reverse]; lia) (by rw [List.length_reverse]; lia) (of_decide_eq_true hq)
              rw [hcs] at hn2
              exact Hold.of ⟨99, by lia, mks_7_5 _ _ _ _ _ _ 1 rfl (by assumption) (by assumption) ⟨rfl, rfl, rfl, rfl, trivial⟩ hn2 (by lia)⟩
            · rename (Txt.item a1 _ == Txt.item b1 _) = _ => hq
              rw [item_eq_neg (a := a1) (b := b1) (n := 0) (i := 0 - 1) (j := 0 - 1) rfl rfl (lvn (Nat.sub_zero _).symm (by assumption)) (lvn (Nat.sub_zero _).symm (by assumption))] at hq
              rw [← hcs] at hn
              have hc := cpl_out hn (.inr (.inr (of_decide_eq_false hq)))
              rw [hcs] at hc
              subst hc
              exact Hold.of ⟨by trivial, mks_6_3 _ _ _ _ _ _ rfl (by assumption) (by assumption) ⟨rfl, rfl, rfl, rfl, trivial⟩⟩
            all_goals (
              have hc : cs = 0 := by lia
              subst hc
              exact Hold.of ⟨by trivial, mks_6_3 _ _ _ _ _ _ rfl (by assumption) (by assumption) ⟨rfl, rfl, rfl, rfl, trivial⟩⟩)
          · have hs1 := txt_take_len (x := a1) hz (by lia)
            have hs2 := txt_take_len (x := b1) hz (by lia)
            walk_at "go"
            all_goals (repeat (rename (_ → _ → _) ∧ (_ → _) => hx1; clear hx1))
            · rename (Txt.item a1 _ == Txt.item b1 _) = _ => hq
              rw [item_eq_neg (a := a1) (b := b1) (n := n) (i := -(n : Int) - 1) (j := -(n : Int) - 1) rfl rfl (lvn hs1 (by assumption)) (lvn hs2 (by assumption))] at hq
              rw [← hcs] at hn
              have hn2 := cpl_in hn (by rw [List.length_reverse]; lia) (by rw [List.length_reverse]; lia) (of_decide_eq_true hq)
              rw [hcs] at hn2
              exact Hold.of ⟨99 - n, by lia, mks_7_5 _ _ _ _ _ _ (n + 1) rfl (by assumption) (by assumption) ⟨rfl, rfl, rfl, some_int (x := -(n : Int) - 1) (y := -((n + 1 : Nat) : Int)) (by lia), trivial⟩ hn2 (by lia)⟩
            · rename (Txt.item a1 _ == Txt.item b1 _) = _ => hq
              rw [item_eq_neg (a := a1) (b := b1) (n := n) (i := -(n : Int) - 1) (j := -(n : Int) - 1) rfl rfl (lvn hs1 (by assumption)) (lvn hs2 (by assumption))] at hq
              rw [← hcs] at hn
              have hc := cpl_out hn (.inr (.inr (of_decide_eq_false hq)))
              rw [hcs] at hc
              subst hc
              exact Hold.of ⟨by trivial, mks_6_3 _ _ _ _ _ _ rfl (by assumption) (by assumption) ⟨rfl, rfl, rfl, rfl, trivial⟩⟩
            all_goals first
              | (exfalso; omega)
              | (have hc : cs = n := by lia
                 subst hc
                 exact Hold.of ⟨by trivial, mks_6_3 _ _ _ _ _ _ rfl (by assumption) (by assumption) ⟨rfl, rfl, rfl, rfl, trivial⟩⟩)
      · clear F1 N1
        rintro f s' ⟨rfl, ex9⟩
        apply exs_6_3 ex9
        clear ex9
        intro h' tk' ta tb tp m' F1 N1 m1
        have hcl2 := cpl_le (xs := a1.cps.toList.reverse) (ys := b1.cps.toList.reverse)
        simp only [List.length_reverse] at hcl2
        rw [hcs] at hcl2
        replace F1 := fr_canons F1 m1
        dsimp only [canonM] at F1
        dsimp only
        refine execs_cut1 (fun s' => ∃ h' tk' a2 ta tb tp m', s' = { s with heap := h', toks := tk' } ∧ Fr g L h' m' ∧ News g L h' [] ∧ HasL m' [("a", .str a2 ta), ("b", .str b1 tb), ("max_cost", .int 8 v), ("post", .int (-(cs : Int)) tp)] ∧ a2.cps.toList = a1.cps.toList.take (a1.length - cs)) ?_ ?_
        · rcases Nat.eq_zero_or_pos cs with hz | hz
          · rw [hz] at F1 m1 hcs hcl2 ⊢
            have e0 : (-((0 : Nat) : Int)) = 0 := rfl
            rw [e0] at F1 m1
            walk_at "go"
            exact Hold.of ⟨rfl, mks_7_4 _ _ a1 _ _ _ _ rfl (by assumption) (by assumption) ⟨rfl, rfl, rfl, rfl, trivial⟩ (by rw [Nat.sub_zero, ← hla1, List.take_length])⟩
          · have hs1 := txt_take (x := a1) hz (by lia)
            walk_at "go"
            · exact Hold.of ⟨rfl, mks_7_4 _ _ _ _ _ _ _ rfl (by assumption) (by assumption) ⟨rfl, rfl, rfl, rfl, trivial⟩ hs1⟩
            · exfalso; omega
        · clear F1 N1 m1
          rintro s' ex9
          apply exs_7_4 ex9
          clear ex9
          intro h' tk' a2 ta tb tp m' F1 N1 m1 ea2
          replace F1 := fr_canons F1 m1
          dsimp only [canonM] at F1
          refine execs_cut1 (fun s' => ∃ h' tk' b2 ta tb tp m', s' = { s with heap := h', toks := tk' } ∧ Fr g L h' m' ∧ News g L h' [] ∧ HasL m' [("a", .str a2 ta), ("b", .str b2 tb), ("max_cost", .int 8 v), ("post", .int (-(cs : Int)) tp)] ∧ b2.cps.toList = b1.cps.toList.take (b1.length - cs)) ?_ ?_
          · rcases Nat.eq_zero_or_pos cs with hz | hz
            · rw [hz] at F1 m1 hcs hcl2 ⊢
              have e0 : (-((0 : Nat) : Int)) = 0 := rfl
              rw [e0] at F1 m1
              walk_at "go"
              exact Hold.of ⟨rfl, mks_7_4 _ _ b1 _ _ _ _ rfl (by assumption) (by assumption) ⟨rfl, rfl, rfl, rfl, trivial⟩ (by rw [Nat.sub_zero, ← hlb1, List.take_length])⟩
            · have hs1 := txt_take (x := b1) hz (by lia)
              walk_at "go"
              · exact Hold.of ⟨rfl, mks_7_4 _ _ _ _ _ _ _ rfl (by assumption) (by assumption) ⟨rfl, rfl, rfl, rfl, trivial⟩ hs1⟩
              · exfalso; omega
          · clear F1 N1 m1
            rintro s' ex9
            apply exs_7_4 ex9
            clear ex9
            intro h' tk' b2 ta tb tp m' F1 N1 m1 eb2
            replace F1 := fr_canons F1 m1
            dsimp only [canonM] at F1
            have hla2 : a2.cps.toList.length = a2.length := rfl
            have hlb2 : b2.cps.toList.length = b2.length := rfl
            have hla3 : a2.length ≤ a1.length := by rw [← hla2, ea2, List.length_take]; lia
            have hlb3 : b2.length ≤ b1.length := by rw [← hlb2, eb2, List.length_take]; lia
            walk_at "go"
            · refine execs_cut1 (fun s' => ∃ h' tk' a3 b3 ta tb m', s' = { s with heap := h', toks := tk' } ∧ Fr g L h' m' ∧ News g L h' [] ∧ HasL m' [("a", .str a3 ta), ("b", .str b3 tb), ("max_cost", .int 8 v)] ∧ (if b2.length < a2.length then a3 = b2 ∧ b3 = a2 else a3 = a2 ∧ b3 = b2)) ?_ ?_
              · walk_at "go"
                · refine Hold.of ⟨rfl, mks_7_4 _ _ b2 a2 _ _ _ rfl (by assumption) ?_ ⟨rfl, rfl, rfl, trivial⟩ ?_⟩
                  · exact (fun _ h => nomatch h)
                  · rw [if_pos (by lia)]; exact ⟨rfl, rfl⟩
                · refine Hold.of ⟨rfl, mks_7_4 _ _ a2 b2 _ _ _ rfl (by assumption) ?_ ⟨rfl, rfl, rfl, trivial⟩ ?_⟩
                  · exact (fun _ h => nomatch h)
                  · rw [if_neg (by lia)]; exact ⟨rfl, rfl⟩
              · rename Fr _ _ _ _ => F1
                rename News _ _ _ _ => N1
                clear F1 N1 m1
                rintro s' ex9
                apply exs_7_4 ex9
                clear ex9
                intro h' tk' a3 b3 ta tb m' F1 N1 m1 eab
                replace F1 := fr_canons F1 m1
                dsimp only [canonM] at F1
                have hab : 1 ≤ a3.length ∧ a3.length ≤ b3.length ∧ b3.length ≤ 5 := by
                  split at eab
                  · rw [eab.1, eab.2]; lia
                  · rw [eab.1, eab.2]; lia
                have hab1 := hab.1
                have hab2 := hab.2.1
                have hab3 := hab.2.2
                clear hab
                have eF := levF_ne hab0 ea eb hcs ea2 eb2
                have ca2 : ∀ x ∈ a2.cps.toList, x ∈ signs7 := fun x hx => ca x (List.mem_of_mem_drop (by rw [← ea]; exact List.mem_of_mem_take (by rw [← ea2]; exact hx)))
                have cb2 : ∀ x ∈ b2.cps.toList, x ∈ signs7 := fun x hx => cb x (List.mem_of_mem_drop (by rw [← eb]; exact List.mem_of_mem_take (by rw [← eb2]; exact hx)))
                have ca3 : ∀ x ∈ a3.cps.toList, x ∈ signs7 := by
                  split at eab
                  · rw [eab.1]; exact cb2
                  · rw [eab.1]; exact ca2
                have cb3 : ∀ x ∈ b3.cps.toList, x ∈ signs7 := by
                  split at eab
                  · rw [eab.2]; exact ca2
                  · rw [eab.2]; exact cb2
                have eT : levTail a2.cps.toList b2.cps.toList = levDP a3.cps.toList b3.cps.toList b3.cps.toList.length 0 (rangeInts 2 2 a3.cps.toList.length) 0 := by
                  refine levTail_dp (by rw [hla2, hlb2]; lia) ?_
                  rw [hla2, hlb2]
                  split at eab
                  · rename_i q; rw [if_pos q, eab.1, eab.2]; exact ⟨rfl, rfl⟩
                  · rename_i q; rw [if_neg q, eab.1, eab.2]; exact ⟨rfl, rfl⟩
                walk_at "go"
                dsimp only
                refine wpAny_mono (lev_dp w a3 b3 ta tb v hab1 hab2 hab3 ca3 cb3 p loose mean mg mb dp un gd outer A₀ base g L s _ _ _ B X T (by omega) (by omega) F1 N1 ⟨rfl, rfl, rfl, trivial⟩) ?_ (fun _ _ x => x)
                rintro fl s' ⟨t9, h9, tk9, m9, rfl, rfl, F9, N9⟩
                exact ⟨_, _, [], F9, N9, (fun _ h => nomatch h), ⟨rfl, t9, by rw [eF, eT]⟩, _, _, rfl⟩
            all_goals (
              have eF := levF_ne hab0 ea eb hcs ea2 eb2
              walk_at "con end0"
              exact ⟨rfl, _, by rw [eF, levTail_nil (by rw [hla2, hlb2]; lia)]; rfl⟩)
end

section -- levw
theorem fresh_levw {M : Model} {A : Around} {Q : Flow → Shared → Prop} {E : Value → Shared → Prop} {s : Shared} {env : Env} {pos : Pos} (h : wpAny M A (exec (.Pass pos) env) Q E s) : wpAny M A (exec (.Pass pos) env) Q E s := by
  w_top off
  first | (walk1; fail "fresh") | exact h
theorem con_levw (w : World) (c d : Int) (t u v : Tok) : Con w 1 119 [.str (wordS c) t, .str (wordS d) u, .int 8 v] [] (fun r tl => tl = [] ∧ ∃ t', r = .int (priceI c d) t' ∧ 0 ≤ priceI c d ∧ priceI c d ≤ 8) := by
  have h := con_lev w (wordS c) (wordS d) t u v (word_len c) (word_len d) (word_7 c) (word_7 d)
  have e : levF (wordS c).cps.toList (wordS d).cps.toList = priceI c d := by
    show levF (wordL (cellN c)) (wordL (cellN d)) = _
    rw [lev_price (cellN_lt c) (cellN_lt d)]
    rfl
  rw [e] at h
  intro p loose mean mg mb dp un gd cn cs a ccd cl outer A₀ base h₀ L m s Q E B F X N T hk hd hu ret
  refine h p loose mean mg mb dp un gd cn cs a ccd cl outer A₀ base h₀ L m s Q E B F X N T hk hd hu fun r tl h' tk' F' st hn hp => ret r tl h' tk' F' st hn ?_
  obtain ⟨e1, t', e2⟩ := hp
  exact ⟨e1, t', e2, price_bd c d⟩
end

section -- rows
theorem fresh_rows {M : Model} {A : Around} {Q : Flow → Shared → Prop} {E : Value → Shared → Prop} {s : Shared} {env : Env} {pos : Pos} (h : wpAny M A (exec (.Pass pos) env) Q E s) : wpAny M A (exec (.Pass pos) env) Q E s := by
  w_top off
  first | (walk1; fail "fresh") | exact h
noncomputable def keyS (j : Nat) : PySem.Str := ⟨#[97 + j]⟩
theorem key_item {j : Nat} (h : j < 4) : Txt.item (PySem.Str.ofString "abcd") (j : Int) = keyS j := by
  have e : ((List.range 4).all fun j => Txt.item (PySem.Str.ofString "abcd") (j : Int) == keyS j) = true := by decide +kernel
  exact eq_of_beq (List.all_eq_true.mp e j (List.mem_range.mpr h))
theorem keyS_inj {i j : Nat} (h : keyS i = keyS j) : i = j := by
  unfold keyS at h
  injection h with h
  have := congrArg Array.toList h
  simp at this
  exact this
noncomputable def rowKV (f : Nat → Int) (i : Nat) : Nat → KV
  | 0 => []
  | j + 1 => if i = j then rowKV f i j else rowKV f i j ++ [(keyS j, f j)]
theorem hasK_row (f : Nat → Int) (i : Nat) : ∀ j k, j ≤ k → hasK (rowKV f i j) (keyS k) = false
  | 0, _, _ => rfl
  | j + 1, k, h => by
    have ih := hasK_row f i j k (by lia)
    unfold rowKV
    split
    · exact ih
    · unfold hasK at ih ⊢
      rw [List.any_append, ih]
      have : ¬ keyS j = keyS k := fun e => by have := keyS_inj e; lia
      simp [this]
theorem put_row {f : Nat → Int} {i j : Nat} (h : ¬ i = j) : putK (keyS j) (f j) (rowKV f i j) = rowKV f i (j + 1) := by
  unfold putK
  rw [hasK_row f i j j (Nat.le_refl _)]
  simp only [Bool.false_eq_true, if_false]
  conv => rhs; unfold rowKV
  rw [if_neg h]
theorem row_same {f : Nat → Int} {i : Nat} : rowKV f i i = rowKV f i (i + 1) := by
  conv => rhs; unfold rowKV
  rw [if_pos rfl]
theorem row_len (f : Nat → Int) (i : Nat) : ∀ j, (rowKV f i j).length ≤ j
  | 0 => Nat.le_refl _
  | j + 1 => by
    have ih := row_len f i j
    unfold rowKV
    split
    · lia
    · rw [List.length_append]; simp; omega

noncomputable def cellAt (c : List Int) (i : Nat) : Int := c.getD i 0
noncomputable def rowF (c : List Int) (i j : Nat) : Int := c.getD 4 0 * priceI (c.getD i 0) (c.getD j 0) - c.getD 5 0
local macro_rules | `(tactic| walk_at "call ref") => `(tactic| (k_here; k_dflt (refine' Con.useV (con_word _ _ _) al_nil ?_; intro t9 h9 tk9 F9 N9)))
local macro_rules | `(tactic| walk_at "call ref") => `(tactic| (k_here; k_dflt (refine' Con.useG (con_levw _ _ _ _ _ _) al_nil ?_; intro b9 t9 h9 tk9 F9 N9; obtain ⟨b9, c9⟩ := b9)))
local macro_rules | `(tactic| walk_at "setItem ref str") => `(tactic| (k_here; k_dflt (refine' dict_set ?F ?N ?U ?D ?z ?_; (case F => k_asm); (case N => k_asm); (case U => k_updF); (case D => k_asm); (case z => exact Nat.le_trans (row_len _ _ _) (by lia))); intro h' o' F' N' D'; (try dsimp only at N'); (try k_sweep)))
local macro_rules | `(tactic| walk_at "call builtin:list.append") => `(tactic| (k_here; (with_reducible show wpAny _ _ (call (Value.builtin _) [Value.ref _, _]) _ _ _); k_dflt (refine' append_K ?k1 ?k2 ?k3 ?_ ?z; (case k1 => k_asm); (case k2 => k_asm); (case k3 => k_upd); (case z => (simp only [List.size_toArray, List.length_map]; rw [sizeLine_eq]; lia)); k_whole); intro h' F' N'; (try k_sweep)))
theorem con_rows (w : World) (l : Addr) (k : Nat) (c0 c1 c2 c3 c4 c5 c6 c7 c8 c9 c10 : Int) (t0 t1 t2 t3 t4 t5 t6 t7 t8 t9 t10 : Tok) : Con w 2 143 [.ref l] [(l, W.listOf #[.int c0 t0, .int c1 t1, .int c2 t2, .int c3 t3, .int c4 t4, .int c5 t5, .int c6 t6, .int c7 t7, .int c8 t8, .int c9 t9, .int c10 t10] k)]
    (fun v tl => ∃ R kk rs, v = .ref R ∧ tl = (R, W.listOf (rs.map fun q => Value.ref q.1).toArray kk) :: rs ∧ rs.length = 4 ∧ ∀ i q, rs[i]? = some q → IsDict w q (rowKV (rowF [c0, c1, c2, c3, c4, c5, c6, c7, c8, c9, c10] i) i 4)) := by
  walk_at "con plain"
  rename_i p loose mean mg mb dp un gd outer A₀ base g L h0 tk0 s B F X N T hdp hun l1
  walk_at "go"
  rename_i Wl _ _ _ R _ hRW h1 F1 N1
  obtain ⟨ws, N2, hws⟩ : ∃ ws, News g L h1 [(R, W.listOf #[] 0), (Wl, LCg.lst ws), (l, W.listOf #[.int c0 t0, .int c1 t1, .int c2 t2, .int c3 t3, .int c4 t4, .int c5 t5, .int c6 t6, .int c7 t7, .int c8 t8, .int c9 t9, .int c10 t10] k)] ∧ ∀ i, i < 4 → ∃ t, ws[i]? = some (Value.str (wordS ([c0, c1, c2, c3, c4, c5, c6, c7, c8, c9, c10].getD i 0)) t) := by
    refine ⟨_, cb_drop N1 (by kcj_all), fun i hi => ?_⟩
    rcases i with _ | _ | _ | _ | i
    · exact ⟨_, rfl⟩
    · exact ⟨_, rfl⟩
    · exact ⟨_, rfl⟩
    · exact ⟨_, rfl⟩
    · lia
  clear N1
  have hRl : (@LT.lt Nat _ Wl R) ∧ (@LT.lt Nat _ l R) := ⟨hRW.1, hRW.2.2⟩
  clear hRW
  (with_unfolding_all refine' For_invVF F1 ?k1 ?k2 ?_; (case k1 => exact rfl); (case k2 => exact rfl))
  walk_at "go"
  rename IsRange _ _ _ _ _ _ _ _ => R1
  rename Fr _ _ _ _ => F1
  rename News _ _ _ _ => N1
  refine iter_rangeUnr (n := 4) rfl R1 (by decide) (by decide) F1 N1 ?_
  intro I hI1
  k_lt hI1
  refine range_inv (fun i m' n' => Hold (∃ rs kk, n' = (R, W.listOf (rs.map fun q => Value.ref q.1).toArray kk) :: (Wl, LCg.lst ws) :: (l, W.listOf #[.int c0 t0, .int c1 t1, .int c2 t2, .int c3 t3, .int c4 t4, .int c5 t5, .int c6 t6, .int c7 t7, .int c8 t8, .int c9 t9, .int c10 t10] k) :: rs ∧ rs.length = i ∧ HasL m' [("cells", .ref l), ("words", .ref Wl), ("rows", .ref R)] ∧ (∀ q ∈ rs, q.1 ≠ R) ∧ (∀ q ∈ rs, q.1 ≠ l) ∧ (∀ q ∈ rs, q.1 ≠ I) ∧ ∀ i q, rs[i]? = some q → IsDict w q (rowKV (rowF [c0, c1, c2, c3, c4, c5, c6, c7, c8, c9, c10] i) i 4))) ?_ ?_ 4 0 _ _ (by lia) ?_
  · clear F1 N1 R1
    rintro i m' n' ti h tk hi ex9
    apply exs_2_6 ex9
    clear ex9
    rintro rs kk hlen m1 hneR hneL hneI hrs F1 N1
    simp only [Int.zero_add] at F1
    replace F1 := fr_canons (ps := [("i", .int (i : Int) ti), ("cells", .ref l), ("words", .ref Wl), ("rows", .ref R)]) F1 ⟨rfl, m1⟩
    dsimp only [canonM] at F1
    walk_at "go"
    rename_i d _ o _ _ lo hs _ _ _ hA h2 F2 N2
    have hrd : ∀ q ∈ rs, q.1 ≠ d := fun q hq => Nat.ne_of_lt (ktn_ltOf hA.2.2.2.2 q hq)
    have hD0 := dict_nil hs
    clear hs
    (with_unfolding_all refine' For_invVF F2 ?k1 ?k2 ?_; (case k1 => exact rfl); (case k2 => exact rfl))
    clear m1
    walk_at "go"
    rename IsRange _ _ _ _ _ _ _ _ => R2
    rename Fr _ _ _ _ => F1
    rename News _ _ _ _ => N1
    refine iter_rangeUnr (n := 4) rfl R2 (by decide) (by decide) F1 N1 ?_
    intro I2 hI2
    have hI2d : @LT.lt Nat _ d I2 := hI2 _ (List.Mem.head _)
    have hI2o : ∀ q ∈ (I, itR (0 + ((i + 1 : Nat) : Int)) (((4 : Nat) : Int) - ((i + 1 : Nat) : Int))) :: (R, W.listOf (rs.map fun q => Value.ref q.1).toArray kk) :: (Wl, LCg.lst ws) :: (l, W.listOf #[.int c0 t0, .int c1 t1, .int c2 t2, .int c3 t3, .int c4 t4, .int c5 t5, .int c6 t6, .int c7 t7, .int c8 t8, .int c9 t9, .int c10 t10] k) :: rs, q.1 ≠ I2 := fun q hq => Nat.ne_of_lt (hI2 q (List.Mem.tail _ hq))
    clear hI2
    refine range_inv (fun j m' n' => Hold (∃ o, n' = (d, o) :: (I, itR (0 + ((i + 1 : Nat) : Int)) (((4 : Nat) : Int) - ((i + 1 : Nat) : Int))) :: (R, W.listOf (rs.map fun q => Value.ref q.1).toArray kk) :: (Wl, LCg.lst ws) :: (l, W.listOf #[.int c0 t0, .int c1 t1, .int c2 t2, .int c3 t3, .int c4 t4, .int c5 t5, .int c6 t6, .int c7 t7, .int c8 t8, .int c9 t9, .int c10 t10] k) :: rs ∧ HasL m' [("i", .int (i : Int) ti), ("cells", .ref l), ("words", .ref Wl), ("rows", .ref R), ("row", .ref d)] ∧ DictI w o (rowKV (rowF [c0, c1, c2, c3, c4, c5, c6, c7, c8, c9, c10] i) i j))) ?_ ?_ 4 0 _ _ (by lia) ?_
    · clear F1 N1 R2 hD0
      rintro j m' n' tj h tk hj ex9
      apply exs_1_2 ex9
      clear ex9
      intro o m1 hDj F1 N1
      simp only [Int.zero_add] at F1
      replace F1 := fr_canons (ps := [("j", .int (j : Int) tj), ("i", .int (i : Int) ti), ("cells", .ref l), ("words", .ref Wl), ("rows", .ref R), ("row", .ref d)]) F1 ⟨rfl, m1⟩
      dsimp only [canonM] at F1
      refine ex_1 (hws i hi) ?_
      intro tw1 hw1
      refine ex_1 (hws j hj) ?_
      intro tw2 hw2
      walk_at "go"
      · rename DictI w _ (putK _ _ _) => hD2
        rename (_ : Int) ≠ (_ : Int) => hij
        rename Fr _ _ _ _ => F3
        rename News _ _ _ _ => N3
        rw [key_item hj] at hD2
        have hD3 : DictI w _ (putK (keyS j) (rowF [c0, c1, c2, c3, c4, c5, c6, c7, c8, c9, c10] i j) (rowKV (rowF [c0, c1, c2, c3, c4, c5, c6, c7, c8, c9, c10] i) i j)) := hD2
        rw [put_row (by lia)] at hD3
        exact mkU _ _ _ _ rfl F3 N3 (off1 hI2d hI2o) (Hold.of (mks_1_2 _ rfl ⟨rfl, rfl, rfl, rfl, rfl, trivial⟩ hD3))
      · have eij : i = j := by lia
        subst eij
        rw [row_same] at hDj
        exact mkU _ _ _ _ rfl F1 N1 (off1 hI2d hI2o) (Hold.of (mks_1_2 _ rfl ⟨rfl, rfl, rfl, rfl, rfl, trivial⟩ hDj))
    · clear F1 N1 R2 hD0
      rintro m' n' h tk ex9
      apply exs_1_2 ex9
      clear ex9
      intro o m1 hDj F1 N1
      replace F1 := fr_canons F1 m1
      dsimp only [canonM] at F1
      walk_at "go"
      rename Fr _ _ _ _ => F3
      rename News _ _ _ _ => N3
      have eR : W.listOf ((rs.map fun q => Value.ref q.1).toArray.push (.ref d)) (kk + 1) = W.listOf (((rs ++ [(d, o)]).map fun q => Value.ref q.1)).toArray (kk + 1) := by simp
      refine mkU _ _ _ ((R, W.listOf (((rs ++ [(d, o)]).map fun q => Value.ref q.1)).toArray (kk + 1)) :: (Wl, LCg.lst ws) :: (l, W.listOf #[.int c0 t0, .int c1 t1, .int c2 t2, .int c3 t3, .int c4 t4, .int c5 t5, .int c6 t6, .int c7 t7, .int c8 t8, .int c9 t9, .int c10 t10] k) :: (rs ++ [(d, o)])) rfl F3 (cb_drop N3 (fun q hq => ?_)) ?_ (Hold.of (mks_2_6 (rs ++ [(d, o)]) (kk + 1) rfl (by rw [List.length_append, hlen]; rfl) ⟨rfl, rfl, rfl, trivial⟩ ?_ ?_ ?_ ?_))
      · rw [← eR] at hq
        simp only [List.mem_cons, List.mem_append, List.not_mem_nil, or_false] at hq ⊢
        rcases hq with hq | hq | hq | hq | hq | hq
        · exact .inr (.inl hq)
        · exact .inr (.inr (.inl hq))
        · exact .inr (.inr (.inr (.inl hq)))
        · exact .inr (.inr (.inr (.inr (.inl hq))))
        · exact .inr (.inr (.inr (.inr (.inr hq))))
        · exact .inl hq
      · intro q hq
        exact led_at hq (al_cons (Nat.ne_of_lt hI1.1) (al_cons (Nat.ne_of_lt hI1.2.1) (al_cons (Nat.ne_of_lt hI1.2.2) (al_app hneI (al_cons (Nat.ne_of_gt hA.1) al_nil)))))
      · intro q hq
        exact led_at hq (al_app hneR (al_cons (Nat.ne_of_gt hA.2.1) al_nil))
      · intro q hq
        exact led_at hq (al_app hneL (al_cons (Nat.ne_of_gt hA.2.2.2.1) al_nil))
      · intro q hq
        exact led_at hq (al_app hneI (al_cons (Nat.ne_of_gt hA.1) al_nil))
      · intro i2 q hq
        rw [List.getElem?_append] at hq
        split at hq
        · exact hrs i2 q hq
        · rename_i h2
          have e2 : i2 = i := by
            rcases Nat.lt_or_ge (i2 - rs.length) 1 with h3 | h3
            · lia
            · rw [List.getElem?_eq_none (by simpa using h3)] at hq; cases hq
          subst e2
          rw [hlen, Nat.sub_self] at hq
          have e3 : (d, o) = q := by simpa using hq
          subst e3
          exact ⟨lo, hDj⟩
    · exact Hold.of (mks_1_2 _ rfl ⟨rfl, rfl, rfl, rfl, rfl, trivial⟩ hD0)
  · clear F1 N1 R1
    rintro m' n' h tk ex9
    apply exs_2_6 ex9
    clear ex9
    rintro rs kk hlen m1 hneR hneL hneI hrs F1 N1
    replace F1 := fr_canons F1 m1
    dsimp only [canonM] at F1
    walk_at "go"
    dsimp only
    refine mkD _ _ ((R, W.listOf (rs.map fun q => Value.ref q.1).toArray kk) :: rs) F1 (cb_drop N1 (fun q hq => ?_)) (fun q hq r hr => ?_) ⟨R, kk, rs, rfl, rfl, hlen, hrs⟩ _ _ rfl
    · rcases List.mem_append.mp hq with hq | hq
      · rcases List.mem_cons.mp hq with rfl | hq
        · exact List.Mem.head _
        · exact List.Mem.tail _ (List.Mem.tail _ (List.Mem.tail _ hq))
      · rw [List.mem_singleton.mp hq]
        exact List.Mem.tail _ (List.Mem.tail _ (List.Mem.head _))
    · rw [List.mem_singleton.mp hr]
      rcases List.mem_cons.mp hq with rfl | hq
      · exact Nat.ne_of_lt hRl.2
      · exact fun e => hneL q hq e.symm
  · exact Hold.of (mks_2_6 ([]) 0 rfl rfl ⟨rfl, rfl, rfl, trivial⟩ (fun _ h => nomatch h) (fun _ h => nomatch h) (fun _ h => nomatch h) (fun _ _ h => by simp at h))
end

section -- seg2
theorem fresh_seg2 {M : Model} {A : Around} {Q : Flow → Shared → Prop} {E : Value → Shared → Prop} {s : Shared} {env : Env} {pos : Pos} (h : wpAny M A (exec (.Pass pos) env) Q E s) : wpAny M A (exec (.Pass pos) env) Q E s := by
  w_top off
  first | (walk1; fail "fresh") | exact h
theorem list_map (c : List Int) : c = (List.range c.length).map fun i => c.getD i 0 := by
  refine List.ext_getElem (by rw [List.length_map, List.length_range]) fun i h1 h2 => ?_
  rw [List.getElem_map, List.getElem_range, List.getD_eq_getElem?_getD, List.getElem?_eq_getElem h1]
  rfl
theorem ints_tok : ∀ {vs : List Value} {ns : List Int}, IntsAre vs ns → ∃ f : Nat → Tok, vs = (List.range ns.length).map fun i => Value.int (ns.getD i 0) (f i)
  | _, _, .nil => ⟨fun _ => 0, rfl⟩
  | _, _, .cons n t h => by
    obtain ⟨f, e⟩ := ints_tok h
    refine ⟨fun i => match i with | 0 => t | i + 1 => f i, ?_⟩
    rw [List.length_cons, List.range_succ_eq_map, List.map_cons, List.map_map]
    exact congrArg _ e
theorem con_rows2 (w : World) (l : Addr) (k : Nat) (us : List Value) (c : List Int) (h : IntsAre us c) (hl : c.length = 11) : Con w 2 143 [.ref l] [(l, W.listOf us.toArray k)]
    (fun v tl => ∃ R kk rs, v = .ref R ∧ tl = (R, W.listOf (rs.map fun q => Value.ref q.1).toArray kk) :: rs ∧ rs.length = 4 ∧ ∀ (i : Nat) (q : Addr × Obj), rs[i]? = some q → IsDict w q (rowKV (rowF c i) i 4)) := by
  obtain ⟨f, e1⟩ := ints_tok h
  have e2 := list_map c
  rw [hl] at e1 e2
  have e3 : c = [c.getD 0 0, c.getD 1 0, c.getD 2 0, c.getD 3 0, c.getD 4 0, c.getD 5 0, c.getD 6 0, c.getD 7 0, c.getD 8 0, c.getD 9 0, c.getD 10 0] := e2
  have e4 : us = [.int (c.getD 0 0) (f 0), .int (c.getD 1 0) (f 1), .int (c.getD 2 0) (f 2), .int (c.getD 3 0) (f 3), .int (c.getD 4 0) (f 4), .int (c.getD 5 0) (f 5), .int (c.getD 6 0) (f 6), .int (c.getD 7 0) (f 7), .int (c.getD 8 0) (f 8), .int (c.getD 9 0) (f 9), .int (c.getD 10 0) (f 10)] := e1
  have h9 := con_rows w l k (c.getD 0 0) (c.getD 1 0) (c.getD 2 0) (c.getD 3 0) (c.getD 4 0) (c.getD 5 0) (c.getD 6 0) (c.getD 7 0) (c.getD 8 0) (c.getD 9 0) (c.getD 10 0) (f 0) (f 1) (f 2) (f 3) (f 4) (f 5) (f 6) (f 7) (f 8) (f 9) (f 10)
  rw [← e3] at h9
  rw [e4]
  exact h9
local macro_rules | `(tactic| walk_at "halt") => `(tactic| (with_reducible show wpAny _ _ (call (Value.ref 143) _) _ _ _))
theorem seg2 (w : World) (p : Program) (loose : List PySem.Str) (mean : ExcName → Option Value) (mg mb : PySem.Str → Option Value) (dp un : Nat) (gd : Option (List Code)) (outer : List Env) (fa : Addr) (fcd : Value) (A₀ : Around) (base g : Heap) (L : Addr) (s : Shared) (E : Value → Shared → Prop) (h : Heap) (tk : Nat) (m : LMap) (rest : Led)
    (B : Below A₀ base outer g) (X : (hdtop.heap_39 w.params).In g) (T : Top p loose mean mg mb g) (hdp : dp + 10 < recursionLimit) (hun : un + 200 < cLine) (F : Fr g L h m) (sc D : Addr) (kk : Nat) (us : List Value) (c : List Int) (hi : IntsAre us c) (hc : c.length = 11) (o0 : Obj) (hc0 : o0.data = .cell (some (.ref D)))
    (N : News g L h ((L + 1, o0) :: (D, W.listOf us.toArray kk) :: rest)) (hm : HasL m [("script", .ref sc)]) :
    wpAny (model PySem.Challenge.rw_jc0016_01.row.prog w) (lawA dp un gd L fa fcd outer) (exec (lawS 1) (lawE L fa fcd)) (fun f s' => Hold (f = .next ∧ ∃ h' tk' m' R kr rs, s' = { s with heap := h', toks := tk' } ∧ Fr g L h' m' ∧ News g L h' ((R, W.listOf (rs.map fun q => Value.ref q.1).toArray kr) :: (rs ++ (L + 1, o0) :: (D, W.listOf us.toArray kk) :: rest)) ∧ (∀ q ∈ (L + 1, o0) :: (D, W.listOf us.toArray kk) :: rest, ∀ r ∈ (R, W.listOf (rs.map fun q => Value.ref q.1).toArray kr) :: rs, q.1 ≠ r.1) ∧
      rs.length = 4 ∧ (∀ (i : Nat) (q : Addr × Obj), rs[i]? = some q → IsDict w q (rowKV (rowF c i) i 4)) ∧ HasL m' [("script", .ref sc), ("rows", .ref R)])) E { s with heap := h, toks := tk } := by
  show wpAny _ (ktrTop _ _ _ _ ⟨_, [_, _, _, _, _, _, _, _, _, _, _, _, _, _, _, _, _, _, _, _, _, _, _, _], _, _, _⟩ _ _ _ (cellsFrom _ [_, _, _, _, _, _, _, _, _, _, _, _, _, _, _, _, _, _, _, _, _, _, _, _] _) _) (exec (Stmt.Assign _ _ _) (envOfC _ ⟨_, [_, _, _, _, _, _, _, _, _, _, _, _, _, _, _, _, _, _, _, _, _, _, _, _], _, _, _⟩ _ _ _)) _ _ _
  replace F := fr_canons F hm
  dsimp only [canonM] at F
  walk_at "go"
  refine' Con.useA (con_rows2 _ _ _ _ _ ?a1 ?a2) ?k9 ?_
  (case k9 => (intro q hq; rw [List.mem_singleton.mp hq]; k_mem))
  (case a1 => assumption)
  (case a2 => assumption)
  intro r9 tl9 h9 tk9 F9 N9 ap9 ho9
  obtain ⟨R9, kk9, rs9, e9, tn9, hl9, hd9⟩ := ho9
  subst e9
  subst tn9
  (simp only [List.cons_append, List.nil_append] at N9)
  walk_at "go"
  rename Fr _ _ _ _ => F3
  rename News _ _ _ _ => N3
  rename (∀ q ∈ _, ∀ r ∈ _, _) => ap
  rename List.length _ = 4 => hl3
  rename (∀ (i : Nat) (q : Addr × Obj), _ → _) => hd3
  exact Hold.of ⟨by trivial, mks_6_6 _ _ _ _ _ _ rfl F3 N3 ap hl3 hd3 ⟨rfl, rfl, trivial⟩⟩
end

section -- seg3
theorem fresh_seg3 {M : Model} {A : Around} {Q : Flow → Shared → Prop} {E : Value → Shared → Prop} {s : Shared} {env : Env} {pos : Pos} (h : wpAny M A (exec (.Pass pos) env) Q E s) : wpAny M A (exec (.Pass pos) env) Q E s := by
  w_top off
  first | (walk1; fail "fresh") | exact h
theorem dict_copy {w : World} {A : Around} {E : Value → Shared → Prop} {s : Shared} {h₀ : Heap} {L d : Addr} {m : LMap} {news : Led} {o : Obj} {l : KV} {p : Program} {loose : List PySem.Str} {mean : ExcName → Option Value} {mg mb : LMap} {Q : Value → Shared → Prop}
    (F : Fr h₀ L s.heap m) (N : News h₀ L s.heap news) (T : Top p loose mean mg mb h₀) (hm : (d, o) ∈ news) (lo : (d == sysModules) = false) (D : DictI w o l) (hsz : l.length ≤ 100)
    (k : ∀ d' h' o', Fr h₀ L h' m → News h₀ L h' ((d', o') :: news) → (∀ p ∈ news, p.1 < d') → (d' == sysModules) = false → DictI w o' l → Q (.ref d') { s with heap := h' }) :
    wpAny (model progN w) A (call (.type "dict") [.ref d]) Q E s :=
  kt_dict_K (knd := PySem.strKind progN w) (enc := PyData.str) F N T.nolimit (D.tab N hm lo) (by rw [kvD_len, sizeLine_eq]; lia) fun d' h' o' kvs F' N' l1 lo' hd hf => k d' h' o' F' N' l1 lo' ⟨kvs, hd, hf⟩
local macro_rules | `(tactic| walk_at "call type:dict") => `(tactic| (k_here; k_dflt (refine' dict_copy ?k1 ?k2 ?k3 ?k4 ?k5 ?k6 ?k7 ?_; (case k1 => k_asm); (case k2 => k_asm); (case k3 => k_asm); (case k4 => (repeat' (first | assumption | apply List.Mem.tail))); (case k5 => assumption); (case k6 => assumption); (case k7 => assumption)); intro d' h' o' F' N' l1 lo' hd'; (try k_lt l1)))
theorem seg3 (w : World) (p : Program) (loose : List PySem.Str) (mean : ExcName → Option Value) (mg mb : PySem.Str → Option Value) (dp un : Nat) (gd : Option (List Code)) (outer : List Env) (fa : Addr) (fcd : Value) (A₀ : Around) (base g : Heap) (L : Addr) (s : Shared) (E : Value → Shared → Prop) (h : Heap) (tk : Nat) (m : LMap) (rest : Led)
    (B : Below A₀ base outer g) (X : (hdtop.heap_39 w.params).In g) (T : Top p loose mean mg mb g) (hdp : dp + 10 < recursionLimit) (hun : un + 200 < cLine) (F : Fr g L h m) (sc R : Addr) (kr : Nat) (rs : Led) (K : Nat → KV) (hlen : rs.length = 4) (hrs : ∀ (i : Nat) (q : Addr × Obj), rs[i]? = some q → IsDict w q (K i)) (hK : ∀ i, (K i).length ≤ 100)
    (N : News g L h ((R, W.listOf (rs.map fun q => Value.ref q.1).toArray kr) :: (rs ++ rest))) (hm : HasL m [("script", .ref sc), ("rows", .ref R)]) :
    wpAny (model PySem.Challenge.rw_jc0016_01.row.prog w) (lawA dp un gd L fa fcd outer) (exec (lawS 2) (lawE L fa fcd)) (fun f s' => Hold (f = .next ∧ ∃ h' tk' m' Kp kn ks, s' = { s with heap := h', toks := tk' } ∧ Fr g L h' m' ∧ News g L h' ((Kp, W.listOf (ks.map fun q => Value.ref q.1).toArray kn) :: (ks ++ (R, W.listOf (rs.map fun q => Value.ref q.1).toArray kr) :: (rs ++ rest))) ∧ (∀ q ∈ (R, W.listOf (rs.map fun q => Value.ref q.1).toArray kr) :: (rs ++ rest), ∀ r ∈ (Kp, W.listOf (ks.map fun q => Value.ref q.1).toArray kn) :: ks, q.1 ≠ r.1) ∧
      ks.length = 4 ∧ (∀ (i : Nat) (q : Addr × Obj), ks[i]? = some q → IsDict w q (K i)) ∧ HasL m' [("script", .ref sc), ("rows", .ref R), ("kept", .ref Kp)])) E { s with heap := h, toks := tk } := by
  show wpAny _ (ktrTop _ _ _ _ ⟨_, [_, _, _, _, _, _, _, _, _, _, _, _, _, _, _, _, _, _, _, _, _, _, _, _], _, _, _⟩ _ _ _ (cellsFrom _ [_, _, _, _, _, _, _, _, _, _, _, _, _, _, _, _, _, _, _, _, _, _, _, _] _) _) (exec (Stmt.Assign _ _ _) (envOfC _ ⟨_, [_, _, _, _, _, _, _, _, _, _, _, _, _, _, _, _, _, _, _, _, _, _, _, _], _, _, _⟩ _ _ _)) _ _ _
  replace F := fr_canons F hm
  dsimp only [canonM] at F
  k_here
  refine LCg.Assign_ListComp_U (F₀ := F) (by rfl) (by with_unfolding_all rfl) (by with_unfolding_all rfl) (by decide) (by rfl) (by decide) (by rfl) (by rfl) (by rfl) ?_
  walk_at "goc"
  rename Fr _ _ _ _ => F2
  rename News _ _ _ _ => N2
  refine LCg.CompSrc.ledger (its := (rs.map fun q => Value.ref q.1).toArray) (k := kr) (by rfl) F2 N2 (List.Mem.head _) (by rw [List.size_toArray, List.length_map, hlen]; decide) ?_
  intro g'
  have esz : (rs.map fun q => Value.ref q.1).toArray.size = 4 := by rw [List.size_toArray, List.length_map, hlen]
  rw [esz]
  refine comp_inv (n := 4) (fun j ys2 news2 => ∃ ks : Led, news2 = (R, W.listOf (rs.map fun q => Value.ref q.1).toArray kr) :: (ks ++ (rs ++ rest)) ∧ ks.length = j ∧ ys2 = ks.map (fun q => Value.ref q.1) ∧ (∀ q ∈ (R, W.listOf (rs.map fun q => Value.ref q.1).toArray kr) :: (rs ++ rest), ∀ r ∈ ks, q.1 ≠ r.1) ∧ (∀ (i : Nat) (q : Addr × Obj), ks[i]? = some q → IsDict w q (K i))) ?_ ?_ 4 0 [] _ rfl (mks_1_4 ([]) rfl rfl rfl (fun _ _ _ h => nomatch h) (fun _ _ h => by simp at h))
  · clear F2 N2
    rintro j v I2 oI2 C2 oC2 D2 m2 ys2 news2 h2 tk2 E2 hj ex9
    apply exs_1_4 ex9
    clear ex9
    rintro ks hlk rfl hdis hks hv hC2 hx2 F1 N1 off2 ne2
    refine ex_2 (show ∃ da dob, rs[j]? = some (da, dob) from ⟨_, _, List.getElem?_eq_getElem (by lia)⟩) ?_
    intro da dob hdj
    have dlo := (hrs _ _ hdj).1
    have hdD := (hrs _ _ hdj).2
    have hdm : (da, dob) ∈ ks ++ (rs ++ rest) := List.mem_append_right _ (List.mem_append_left _ (List.mem_of_getElem? hdj))
    have ev : v = .ref da := by
      have hv2 : (rs.map fun q => Value.ref q.1)[j]? = some v := by simpa using hv
      rw [List.getElem?_map, hdj] at hv2
      exact (Option.some.inj hv2).symm
    subst ev
    have hKj := hK j
    walk_at "goc"
    show LCg.CompEnd _ _ _ _ _ _ _ _ _ _ _ _ _ _
    rename Fr _ _ _ _ => F3
    rename News _ _ _ _ => N3
    rename (_ ∧ _ ∧ _ ∧ _ ∧ AllLt _ _) => hT
    rename DictI _ _ _ => hdN
    rename (_ == sysModules) = false => hlo
    rename Obj => oT
    rename Addr => T9
    have hlt : ∀ q ∈ (R, W.listOf (rs.map fun q => Value.ref q.1).toArray kr) :: (ks ++ (rs ++ rest)), q.1 ≠ T9 := fun q hq => by
      rcases List.mem_cons.mp hq with rfl | hq
      · exact Nat.ne_of_lt hT.2.2.2.1
      · exact Nat.ne_of_lt (ktn_ltOf hT.2.2.2.2 q hq)
    have off3 := off2.mem
    refine mkC _ _ ((R, W.listOf (rs.map fun q => Value.ref q.1).toArray kr) :: ((ks ++ [(T9, oT)]) ++ (rs ++ rest))) rfl F3 (cb_drop N3 (fun q hq => ?_)) (LCg.Off3.of (fun q hq => ?_)) (Or.inr ⟨_, List.Mem.head _, rfl, _, rfl⟩) (mks_1_4 (ks ++ [(T9, oT)]) rfl (by rw [List.length_append, hlk]; rfl) (by rw [List.map_append]; rfl) (fun q hq r hr => ?_) (fun i q hq => ?_))
    · exact led_use (by walk_at "led sub") hq
    · have hq2 : q ∈ (T9, oT) :: ((R, W.listOf (rs.map fun q => Value.ref q.1).toArray kr) :: (ks ++ (rs ++ rest))) := led_use (by walk_at "led sub") hq
      rcases List.mem_cons.mp hq2 with rfl | hq2
      · exact ⟨Nat.ne_of_gt hT.1, Nat.ne_of_gt hT.2.1, Nat.ne_of_gt hT.2.2.1⟩
      · exact off3 q hq2
    · rcases List.mem_append.mp hr with hr | hr
      · exact hdis q hq r hr
      · rw [List.mem_singleton.mp hr]
        refine hlt q ?_
        exact led_use (by walk_at "led sub") hq
    · rcases get_snoc hq with ⟨h1, h2⟩ | ⟨h1, h2⟩
      · exact hks i q h2
      · rw [h2]
        have ej : i = j := by lia
        rw [ej]
        exact ⟨hlo, hdN⟩
  · rintro ys2 news2 ex9
    apply exs_1_4 ex9
    clear ex9
    rintro ks hlk rfl hdis hks D2 h2 tk2 F3 N3 o1
    have o2 := off1_mem o1
    refine Hold.of ⟨rfl, mks_6_6 _ _ _ D2 (ks.map fun q => Value.ref q.1).length ks rfl F3 (cb_drop N3 (fun q hq => ?_)) (fun q hq r hr => ?_) hlk hks ⟨rfl, rfl, rfl, trivial⟩⟩
    · exact led_use (by walk_at "led sub") hq
    · rcases List.mem_cons.mp hr with rfl | hr
      · refine o2 q ?_
        exact led_use (by walk_at "led sub") hq
      · exact hdis q hq r hr
end

section -- add
theorem fresh_add {M : Model} {A : Around} {Q : Flow → Shared → Prop} {E : Value → Shared → Prop} {s : Shared} {env : Env} {pos : Pos} (h : wpAny M A (exec (.Pass pos) env) Q E s) : wpAny M A (exec (.Pass pos) env) Q E s := by
  w_top off
  first | (walk1; fail "fresh") | exact h
noncomputable def copyKV (a : KV) : KV := a.foldl (fun acc p => putK p.1 p.2 acc) []
noncomputable def addKV (a b : KV) : KV := b.foldl (fun acc p => putK p.1 (getK acc p.1 + p.2) acc) (copyKV a)
noncomputable def itemOf (p : PySem.Str × Int) : Itm := .pairF (kyVal (.str p.1)) (.int p.2)
theorem items_kv (l : KV) : (kvD l).map (fun p => Itm.pairF (kyVal p.1) p.2) = l.map itemOf := by
  unfold kvD itemOf
  rw [List.map_map]
  rfl
theorem putK_len (k : PySem.Str) (v : Int) (l : KV) : (putK k v l).length ≤ l.length + 1 := by
  unfold putK
  split
  · simp
  · simp
theorem foldl_len (f : KV → PySem.Str × Int → KV) (hf : ∀ acc p, (f acc p).length ≤ acc.length + 1) : ∀ (l acc : KV), (l.foldl f acc).length ≤ acc.length + l.length
  | [], _ => Nat.le_refl _
  | p :: r, acc => by
    have := foldl_len f hf r (f acc p)
    have := hf acc p
    rw [List.foldl_cons, List.length_cons]
    lia
local macro_rules | `(tactic| walk_at "setItem ref str") => `(tactic| (k_here; k_dflt (refine' dict_set ?F ?N ?U ?D ?z ?_; (case F => k_asm); (case N => k_asm); (case U => k_updF); (case D => k_asm); (case z => assumption)); intro h' o' F' N' D'; (try dsimp only at N'); (try k_sweep)))
local macro_rules | `(tactic| walk_at "compareOp In str ref") => `(tactic| (k_here; k_dflt (refine' dict_in ?k1 ?k2 ?k3 ?k4 ?_; (case k1 => k_asm); (case k2 => k_mem); (case k3 => k_asm); (case k4 => k_asm))))
local macro_rules | `(tactic| walk_at "getItem ref str") => `(tactic| (k_here; k_dflt (refine' dict_at ?k1 ?k2 ?k3 ?k4 ?k5 ?_; (case k1 => k_asm); (case k2 => k_mem); (case k3 => k_asm); (case k4 => k_asm); (case k5 => assumption)); intro t'))
theorem con_add (w : World) (d1 d2 : Addr) (o1 o2 : Obj) (a b : KV) (lo1 : (d1 == sysModules) = false) (lo2 : (d2 == sysModules) = false) (D1 : DictI w o1 a) (D2 : DictI w o2 b) (ha : a.length ≤ 20) (hb : b.length ≤ 20) :
    Con w 1 98 [.ref d1, .ref d2] [(d1, o1), (d2, o2)] (fun v tl => ∃ d o, v = .ref d ∧ tl = [(d, o)] ∧ IsDict w (d, o) (addKV a b)) := by
  walk_at "con plain"
  rename_i p loose mean mg mb dp un gd outer A₀ base g L h0 tk0 s B F X N T hdp hun l1
  walk_at "go"
  rename_i d _ o lo hs _ _ _ hA h2 F1 N1
  have hD0 := dict_nil hs
  clear hs
  have tab1 : ∀ {h : Heap} {n : Led}, News g L h n → (d1, o1) ∈ n → TabAt (PySem.strKind progN w) PyData.str h d1 (kvD a) := fun N hm => D1.tab N hm lo1
  have tab2 : ∀ {h : Heap} {n : Led}, News g L h n → (d2, o2) ∈ n → TabAt (PySem.strKind progN w) PyData.str h d2 (kvD b) := fun N hm => D2.tab N hm lo2
  k_here
  (with_unfolding_all ((refine' For_turns F1 ?_); k_whole; (refine MethodCall_ ?_); (refine ld F1 (by rfl) ?_); (refine getMethod_tab (knd := PySem.strKind progN w) (enc := PyData.str) PySem.F.slot_dict_items PySem.F.type_dict_items (tab1 N1 (by k_mem)) ?_); (refine callWith_method0 ?_); (refine call_items_tab (knd := PySem.strKind progN w) (enc := PyData.str) (tab1 N1 (by k_mem)) F1 N1 ?_)))
  intro h3 o3 hv3 F2 N2
  replace N2 := kti_tail N2
  refine kti_items (knd := PySem.strKind progN w) (enc := PyData.str) (xs := a.map itemOf) (by rfl) F2 N2 hv3 (tab1 N2 (by k_mem)) (by k_mem) (fun _ _ h => Value.isStrOf_shape h) (items_kv a) ?_
  intro I hI
  k_lt hI
  refine items_inv (fun xs m' n' => ∃ (dn rest : KV) (o : Obj), n' = [(d, o), (d1, o1), (d2, o2)] ∧ a = dn ++ rest ∧ xs = rest.map itemOf ∧ HasL m' [("target", .ref d1), ("source", .ref d2), ("new_callers", .ref d)] ∧ DictI w o (copyKV dn)) ?_ ?_ _ _ _ ?_
  · clear F1 N1 F2 N2 hv3 hD0
    rintro it r m' n' v h tk ex9
    apply exs_3_4 ex9
    clear ex9
    rintro dn rest o' ea ex m1 hD hv F1
    cases rest with
    | nil => cases ex
    | cons q rest =>
      have e1 := (List.cons.inj ex).1
      have e2 := (List.cons.inj ex).2
      subst e1
      subst e2
      obtain ⟨T', t', x', rfl, hx, hT⟩ := hv
      obtain ⟨tx, rfl⟩ := PyProof.V.Flat.int_inv hx
      have hT2 : IsTup h T' #[Value.str q.1 t', Value.int q.2 tx] := hT
      clear hT hx
      refine AllObj.cons (fun oI hcI => AllObj.nil (fun N1 => ?_))
      simp only [List.cons_append, List.nil_append] at N1
      replace F1 := fr_canons F1 m1
      dsimp only [canonM] at F1
      have hsz : (copyKV dn).length ≤ 100 := by
        have := foldl_len (fun acc p => putK p.1 p.2 acc) (fun acc p => putK_len _ _ _) dn []
        rw [ea, List.length_append] at ha
        simp only [List.length_nil] at this
        unfold copyKV
        lia
      walk_at "go"
      rename Fr _ _ _ _ => F3
      rename News _ _ _ _ => N3
      rename DictI w _ (putK _ _ _) => hD2
      refine mkW _ _ _ ([(d, _), (d1, o1), (d2, o2)]) rfl F3 N3 (fun x hx y hy => ?_) ⟨by k_subL, (mks_3_4 (dn ++ [q]) rest _ rfl (by rw [ea]; simp) rfl ⟨rfl, rfl, rfl, trivial⟩ ?_)⟩
      · rw [List.mem_singleton.mp hy]
        exact off1 hI.1 (off1 hI.2.1 (off1 hI.2.2 off0)) x hx
      · unfold copyKV
        rw [List.foldl_append]
        exact hD2
  · clear F1 N1 F2 N2 hv3 hD0
    rintro m' n' h tk ex9
    apply exs_3_4 ex9
    clear ex9
    rintro dn rest o' ea ex m1 hD F1 N1
    cases rest with
    | cons q rest => cases ex
    | nil =>
      rw [List.append_nil] at ea
      subst ea
      replace F1 := fr_canons F1 m1
      dsimp only [canonM] at F1
      walk_at "go"
      k_here
      (with_unfolding_all ((refine' For_turns F1 ?_); k_whole; (refine MethodCall_ ?_); (refine ld F1 (by rfl) ?_); (refine getMethod_tab (knd := PySem.strKind progN w) (enc := PyData.str) PySem.F.slot_dict_items PySem.F.type_dict_items (tab2 N1 (by k_mem)) ?_); (refine callWith_method0 ?_); (refine call_items_tab (knd := PySem.strKind progN w) (enc := PyData.str) (tab2 N1 (by k_mem)) F1 N1 ?_)))
      intro h3 o3 hv3 F2 N2
      replace N2 := kti_tail N2
      refine kti_items (knd := PySem.strKind progN w) (enc := PyData.str) (xs := b.map itemOf) (by rfl) F2 N2 hv3 (tab2 N2 (by k_mem)) (by k_mem) (fun _ _ h => Value.isStrOf_shape h) (items_kv b) ?_
      intro I2 hI2
      k_lt hI2
      refine items_inv (fun xs m' n' => ∃ (dn rest : KV) (o : Obj), n' = [(d, o), (d1, o1), (d2, o2)] ∧ b = dn ++ rest ∧ xs = rest.map itemOf ∧ HasL m' [("target", .ref d1), ("source", .ref d2), ("new_callers", .ref d)] ∧ DictI w o (addKV a dn)) ?_ ?_ _ _ _ ?_
      · clear F1 N1 F2 N2 hv3
        rintro it r m' n' v h tk ex9
        apply exs_3_4 ex9
        clear ex9
        rintro dn rest o' eb ex m1 hD hv F1
        cases rest with
        | nil => cases ex
        | cons q rest =>
          have e1 := (List.cons.inj ex).1
          have e2 := (List.cons.inj ex).2
          subst e1
          subst e2
          obtain ⟨T', t', x', rfl, hx, hT⟩ := hv
          obtain ⟨tx, rfl⟩ := PyProof.V.Flat.int_inv hx
          have hT2 : IsTup h T' #[Value.str q.1 t', Value.int q.2 tx] := hT
          clear hT hx
          refine AllObj.cons (fun oI hcI => AllObj.nil (fun N1 => ?_))
          simp only [List.cons_append, List.nil_append] at N1
          replace F1 := fr_canons F1 m1
          dsimp only [canonM] at F1
          have hsz : (addKV a dn).length ≤ 100 := by
            have h1 := foldl_len (fun acc p => putK p.1 p.2 acc) (fun acc p => putK_len _ _ _) a []
            have h2 := foldl_len (fun acc p => putK p.1 (getK acc p.1 + p.2) acc) (fun acc p => putK_len _ _ _) dn (copyKV a)
            rw [eb, List.length_append] at hb
            simp only [List.length_nil] at h1
            unfold addKV copyKV at *
            lia
          walk_at "go"
          · rename Fr _ _ _ _ => F3
            rename News _ _ _ _ => N3
            rename DictI w _ (putK _ _ _) => hD2
            refine mkW _ _ _ ([(d, _), (d1, o1), (d2, o2)]) rfl F3 N3 (fun x hx y hy => ?_) ⟨by k_subL, (mks_3_4 (dn ++ [q]) rest _ rfl (by rw [eb]; simp) rfl ⟨rfl, rfl, rfl, trivial⟩ ?_)⟩
            · rw [List.mem_singleton.mp hy]
              exact off1 hI2.1 (off1 hI2.2.1 (off1 hI2.2.2 off0)) x hx
            · unfold addKV
              rw [List.foldl_append]
              exact hD2
          · rename Fr _ _ _ _ => F3
            rename News _ _ _ _ => N3
            rename DictI w _ (putK _ _ _) => hD2
            rename hasK _ _ = false => hno
            refine mkW _ _ _ ([(d, _), (d1, o1), (d2, o2)]) rfl F3 N3 (fun x hx y hy => ?_) ⟨by k_subL, (mks_3_4 (dn ++ [q]) rest _ rfl (by rw [eb]; simp) rfl ⟨rfl, rfl, rfl, trivial⟩ ?_)⟩
            · rw [List.mem_singleton.mp hy]
              exact off1 hI2.1 (off1 hI2.2.1 (off1 hI2.2.2 off0)) x hx
            · unfold addKV
              rw [List.foldl_append]
              have e0 : getK (addKV a dn) q.1 + q.2 = q.2 := by rw [getK_none hno]; lia
              have e1 : putK q.1 q.2 (addKV a dn) = putK q.1 (getK (addKV a dn) q.1 + q.2) (addKV a dn) := by rw [e0]
              rw [e1] at hD2
              exact hD2
      · clear F1 N1 F2 N2 hv3
        rintro m' n' h tk ex9
        apply exs_3_4 ex9
        clear ex9
        rintro dn rest o' eb ex m1 hD F1 N1
        cases rest with
        | cons q rest => cases ex
        | nil =>
          rw [List.append_nil] at eb
          subst eb
          replace F1 := fr_canons F1 m1
          dsimp only [canonM] at F1
          walk_at "go"
          dsimp only
          exact ⟨_, _, [(d, o')], F1, N1, (fun x hx y hy => by
            rw [List.mem_singleton.mp hx]
            rcases List.mem_cons.mp hy with rfl | hy
            · exact Nat.ne_of_lt hA.1
            · rw [List.mem_singleton.mp hy]; exact Nat.ne_of_lt hA.2), ⟨d, o', rfl, rfl, lo, hD⟩, _, _, rfl⟩
      · exact mks_3_4 ([]) b o' rfl rfl rfl ⟨rfl, rfl, rfl, trivial⟩ hD
  · exact mks_3_4 ([]) a o rfl rfl rfl ⟨rfl, rfl, rfl, trivial⟩ hD0
end

section -- tables
theorem fresh_tables {M : Model} {A : Around} {Q : Flow → Shared → Prop} {E : Value → Shared → Prop} {s : Shared} {env : Env} {pos : Pos} (h : wpAny M A (exec (.Pass pos) env) Q E s) : wpAny M A (exec (.Pass pos) env) Q E s := by
  w_top off
  first | (walk1; fail "fresh") | exact h
noncomputable def lowN (st : Nat) : Nat := if st % 2 = 1 then 0 else if st / 2 % 2 = 1 then 1 else if st / 4 % 2 = 1 then 2 else 3
noncomputable def bitsL (st : Nat) : Nat → List Int
  | 0 => []
  | k + 1 => if st / 2 ^ k % 2 = 1 then bitsL st k ++ [(k : Int)] else bitsL st k
theorem low_all : (List.range 16).all (fun st => st == 0 || ((bitsL st 4).all fun M => !((bitsL st 4).all fun a => decide (M ≤ a)) || M == (lowN st : Int)) && decide (0 < (bitsL st 4).length)) = true := by decide +kernel
theorem low_min {st : Nat} (h : st < 16) (h0 : 0 < st) {M : Int} (hm : M ∈ bitsL st 4) (hl : ∀ a, a ∈ bitsL st 4 → M ≤ a) : M = (lowN st : Int) := by
  have h1 := List.all_eq_true.mp low_all st (List.mem_range.mpr h)
  have h2 : (st == 0) = false := by simp; lia
  rw [h2, Bool.false_or, Bool.and_eq_true] at h1
  have h3 := List.all_eq_true.mp h1.1 M hm
  have h4 : (bitsL st 4).all (fun a => decide (M ≤ a)) = true := List.all_eq_true.mpr fun a ha => decide_eq_true (hl a ha)
  rw [h4] at h3
  simpa using h3
theorem low_pos {st : Nat} (h : st < 16) (h0 : 0 < st) : 0 < (bitsL st 4).length := by
  have h1 := List.all_eq_true.mp low_all st (List.mem_range.mpr h)
  have h2 : (st == 0) = false := by simp; omega
  rw [h2, Bool.false_or, Bool.and_eq_true] at h1
  exact of_decide_eq_true h1.2
theorem low_lt (st : Nat) : lowN st < 4 := by unfold lowN; split <;> (try split) <;> (try split) <;> lia
/-- the tables of the states below n -/
noncomputable def tabL (RW : Nat → KV) : Nat → List KV
  | 0 => []
  | n + 1 => tabL RW n ++ [if n = 0 then [] else addKV ((tabL RW n).getD (n &&& (n - 1)) []) (RW (lowN n))]
theorem tabL_len (RW : Nat → KV) : ∀ n, (tabL RW n).length = n
  | 0 => rfl
  | n + 1 => by
    show (tabL RW n ++ [_]).length = _
    rw [List.length_append, tabL_len RW n]; rfl
theorem tabL_old (RW : Nat → KV) {n j : Nat} (h : j < n) : (tabL RW (n + 1)).getD j [] = (tabL RW n).getD j [] := by
  show (tabL RW n ++ [_]).getD j [] = _
  rw [List.getD_eq_getElem?_getD, List.getElem?_append_left (by rw [tabL_len]; exact h), ← List.getD_eq_getElem?_getD]
theorem tabL_new (RW : Nat → KV) {n : Nat} (h : 0 < n) : (tabL RW (n + 1)).getD n [] = addKV ((tabL RW n).getD (n &&& (n - 1)) []) (RW (lowN n)) := by
  show (tabL RW n ++ [_]).getD n [] = _
  rw [List.getD_eq_getElem?_getD, List.getElem?_append_right (by rw [tabL_len]; exact Nat.le_refl _), tabL_len, Nat.sub_self]
  show (if n = 0 then _ else _) = _
  rw [if_neg (by lia)]
theorem addKV_len (a b : KV) : (addKV a b).length ≤ a.length + b.length := by
  have h1 := foldl_len (fun acc p => putK p.1 p.2 acc) (fun acc p => putK_len _ _ _) a []
  have h2 := foldl_len (fun acc p => putK p.1 (getK acc p.1 + p.2) acc) (fun acc p => putK_len _ _ _) b (copyKV a)
  simp only [List.length_nil] at h1
  unfold addKV copyKV at *
  lia
noncomputable def pcN (s : Nat) : Nat := s % 2 + s / 2 % 2 + s / 4 % 2 + s / 8 % 2
theorem pc_all : (List.range 16).all (fun s => s == 0 || (pcN (s &&& (s - 1)) + 1 == pcN s && decide (s &&& (s - 1) < s))) = true := by decide +kernel
theorem pc_step {s : Nat} (h : s < 16) (h0 : 0 < s) : pcN (s &&& (s - 1)) + 1 = pcN s ∧ s &&& (s - 1) < s := by
  have h1 := List.all_eq_true.mp pc_all s (List.mem_range.mpr h)
  have h2 : (s == 0) = false := by simp; omega
  rw [h2, Bool.false_or, Bool.and_eq_true] at h1
  exact ⟨by simpa using h1.1, of_decide_eq_true h1.2⟩
theorem tabL_bd {RW : Nat → KV} (h : ∀ i, (RW i).length ≤ 4) : ∀ n, n ≤ 16 → ∀ j, j < n → ((tabL RW n).getD j []).length ≤ 4 * pcN j
  | 0, _, j, hj => absurd hj (Nat.not_lt_zero _)
  | n + 1, hn, j, hj => by
    rcases Nat.lt_or_ge j n with h1 | h1
    · rw [tabL_old RW h1]
      exact tabL_bd h n (by lia) j h1
    · have e : j = n := by lia
      subst e
      rcases Nat.eq_zero_or_pos j with e0 | e0
      · subst e0
        exact Nat.zero_le _
      · rw [tabL_new RW e0]
        have hp := pc_step (show j < 16 by lia) e0
        have h2 := tabL_bd h j (by lia) _ hp.2
        have h3 := addKV_len ((tabL RW j).getD (j &&& (j - 1)) []) (RW (lowN j))
        have h4 := h (lowN j)
        lia
theorem pc_le (s : Nat) : pcN s ≤ 4 := by unfold pcN; lia
theorem bitsL_yes {st j : Nat} (h : st / 2 ^ j % 2 = 1) : bitsL st (j + 1) = bitsL st j ++ [(j : Int)] := if_pos h
theorem bitsL_no {st j : Nat} (h : ¬ st / 2 ^ j % 2 = 1) : bitsL st (j + 1) = bitsL st j := if_neg h
theorem and1 {x : Nat} : (((x &&& (1 : Int).toNat : Nat) : Int) = 1) ↔ x % 2 = 1 := by
  have e : x &&& (1 : Int).toNat = x % 2 := Nat.and_one_is_mod x
  rw [e]
  lia
theorem sub2 {x y : Addr × Obj} {big : Led} (hx : x ∈ big) (hy : y ∈ big) : ∀ q ∈ [x, y], q ∈ big := fun q hq => by
  exact led_at hq (al_cons (hx) (al_cons (hy) al_nil))
local macro_rules | `(tactic| walk_at "call ref") => `(tactic| (k_here; k_dflt (refine' Con.useA (con_add _ _ _ _ _ _ _ ?p1 ?p2 ?p3 ?p4 ?p5 ?p6) ?k9 ?_; (case k9 => (refine' sub2 ?a1 ?a2; (case a1 => (repeat' (first | assumption | apply List.Mem.tail))); (case a2 => (repeat' (first | assumption | apply List.Mem.tail))))); (case p1 => assumption); (case p2 => assumption); (case p3 => assumption); (case p4 => assumption); (case p5 => assumption); (case p6 => assumption);  intro r9 tl9 h9 tk9 F9 N9 ap9 ho9; obtain ⟨d9, o9, e9, tn9, hd9⟩ := ho9; subst e9; subst tn9; (simp only [List.cons_append, List.nil_append] at N9))))
local macro_rules | `(tactic| walk_at "halt") => `(tactic| first | (with_reducible show wpAny _ _ (call (Value.builtin "min") _) _ _ _) | (with_reducible show wpAny _ _ (call (Value.builtin "list.append") _) _ _ _))
theorem con_tables (w : World) (R : Addr) (rs : Led) (kr : Nat) (RW : Nat → KV) (hlen : rs.length = 4) (hrs : ∀ (j : Nat) (q : Addr × Obj), rs[j]? = some q → IsDict w q (RW j)) (hrl : ∀ i, (RW i).length ≤ 4) :
    Con w 2 148 [.ref R] ((R, W.listOf (rs.map fun q => Value.ref q.1).toArray kr) :: rs) (fun v tl => ∃ T kk ts, v = .ref T ∧ tl = (T, W.listOf (ts.map fun q => Value.ref q.1).toArray kk) :: ts ∧ ts.length = 16 ∧ ∀ (j : Nat) (q : Addr × Obj), ts[j]? = some q → IsDict w q ((tabL RW 16).getD j [])) := by
  walk_at "con cells"
  rename_i p loose mean mg mb dp un gd outer A₀ base g L h0 tk0 s B F X TT hdp hun l1 o hcell N
  walk_at "go"
  rename_i d0 _ od lo0 hs0 _ _ _ hA T _ hT _ F1 N1
  have hD0 := dict_nil hs0
  clear hs0
  k_here
  (with_unfolding_all refine' For_turns F1 ?_)
  walk_at "go"
  rename IsRange _ _ _ _ _ _ _ _ => R1
  rename Fr _ _ _ _ => F1
  rename News _ _ _ _ => N1
  have hc' : o.data = .cell none := hcell
  clear hcell
  have hRl : R < L + 1 := Nat.lt_succ_of_lt l1.1
  replace N1 := cb_drop (news := (T, W.listOf ([(d0, od)].map fun q => Value.ref q.1).toArray 0) :: (L + 1, o) :: (R, W.listOf (rs.map fun q => Value.ref q.1).toArray kr) :: (rs ++ [(d0, od)])) N1 (by
    intro q hq
    simp only [List.map_cons, List.map_nil, List.mem_cons, List.mem_append, List.not_mem_nil, or_false] at hq ⊢
    rcases hq with hq | hq | hq | hq | hq
    · exact .inl hq
    · exact .inr (.inr (.inl hq))
    · exact .inr (.inr (.inr (.inl hq)))
    · exact .inr (.inr (.inr (.inr hq)))
    · exact .inr (.inl hq))
  refine iter_rangeTurns (n := 15) rfl R1 (by decide) (by decide) F1 N1 (fun _ _ => rfl) ?_
  intro I hI
  have hI0 : @LT.lt Nat _ d0 I := hI (d0, od) (by simp)
  k_lt hI
  refine rangeT_inv (fun i m' n' => Hold (∃ (o : Obj) (v0 : Option Value) (ts : Led) (kk : Nat), n' = (T, W.listOf (ts.map fun q => Value.ref q.1).toArray kk) :: (L + 1, o) :: (R, W.listOf (rs.map fun q => Value.ref q.1).toArray kr) :: (rs ++ ts) ∧ ts.length = i + 1 ∧ o.data = .cell v0 ∧ HasL m' [("rows", .ref R), ("tables", .ref T)] ∧ (∀ q ∈ rs ++ ts, q.1 ≠ T) ∧ (∀ q ∈ rs ++ ts, q.1 ≠ L + 1) ∧ (∀ q ∈ rs ++ ts, q.1 ≠ I) ∧ (∀ q ∈ ts, q.1 ≠ R) ∧ (∀ q ∈ ts, ∀ r ∈ rs, r.1 ≠ q.1) ∧ ∀ (j : Nat) (q : Addr × Obj), ts[j]? = some q → IsDict w q ((tabL RW (i + 1)).getD j []))) ?_ ?_ _ _ ?_
  · clear F1 N1 R1
    rintro i m' n' t it h tk hi ex9
    apply exs_4_9 ex9
    clear ex9
    rintro o2 v0 ts kk hts hcv m1 hneT hneL hneI hneR hneS htD hit F1 N1
    replace F1 := fr_canons F1 m1
    dsimp only [canonM] at F1
    have ei : (1 : Int) + (i : Int) = ((i + 1 : Nat) : Int) := by lia
    rw [ei]
    walk_at "goc"
    rename Obj => ok
    rename Fr _ _ _ _ => F2
    rename News _ _ _ _ => N2
    rename _ = Data.cell (some (Value.int ((i + 1 : Nat) : Int) t)) => hk
    k_here
    k_dflt (refine LCt.ListComp_T (F₀ := F2) (by with_unfolding_all rfl) (by decide) (by rfl) (by decide) (by rfl) ?_)
    walk_at "goc"
    rename IsRange _ _ _ _ _ _ _ _ => R2
    rename Fr _ _ _ _ => F2
    rename News _ _ _ _ => N2
    refine LCt.CompSrcT.range (n := 4) (by rfl) F2 N2 R2 (by decide) (by decide) (by decide) ?_
    intro g'
    refine comp_invT (n := 4) (fun j ys2 news2 => news2 = (I, it) :: (T, W.listOf (ts.map fun q => Value.ref q.1).toArray kk) :: (L + 1, _) :: (R, W.listOf (rs.map fun q => Value.ref q.1).toArray kr) :: (rs ++ ts) ∧ IntsAre ys2 (bitsL (i + 1) j)) ?_ ?_ 4 0 [] _ rfl ⟨rfl, .nil⟩
    · skip
      clear F2 N2
      rintro j v I2 oI2 C2 oC2 D2 m2 ys2 news2 h2 tk2 E2 hj ex9
      apply exs_0_1 ex9
      clear ex9
      rintro hy ⟨tj, rfl⟩ hC2 hx2 F1 N1 off2 ne2
      simp only [Int.zero_add] at hx2
      have hx4 : ((((((i + 1 : Nat) : Int).toNat / 2 ^ ((j : Nat) : Int).toNat : Nat)) : Int)) ≤ 15 := Int.ofNat_le.mpr (Nat.le_trans (Nat.div_le_self _ _) (show i + 1 ≤ 15 by lia))
      have hx5 : 0 ≤ ((((((i + 1 : Nat) : Int).toNat / 2 ^ ((j : Nat) : Int).toNat : Nat)) : Int)) := Int.natCast_nonneg _
      walk_at "goc"
      · rename _ = (1 : Int) => hb
        rename Fr _ _ _ _ => F3
        rename News _ _ _ _ => N3
        refine mkC _ _ _ rfl F3 N3 off2 trivial ⟨rfl, ?_⟩
        rw [bitsL_yes (st := i + 1) (j := j) (and1.mp hb)]
        exact ints_snoc hy _ _
      · rename _ ≠ (1 : Int) => hb
        rename Fr _ _ _ _ => F3
        rename News _ _ _ _ => N3
        refine mkC _ _ _ rfl F3 N3 off2 trivial ⟨rfl, ?_⟩
        rw [bitsL_no (st := i + 1) (j := j) (fun e => hb (and1.mpr e))]
        exact hy
    · rintro ys2 news2 ex9
      apply exs_0_1 ex9
      clear ex9
      rintro hy D2 h2 tk2 F3 N3 o1
      have o2 := off1_mem o1
      simp only [LCg.Off1] at o1
      walk_at "goc"
      refine min_list_N (rfl) F3 N3 ⟨_, (N3 _ (List.Mem.head _)).1, rfl, _, rfl⟩ hy (low_pos (by lia) (by lia)) ?_
      clear F3 N3
      intro h3 M tM tk3 F3 N3 hM1 hM2
      have eM := low_min (show i + 1 < 16 by omega) (by omega) hM1 hM2
      subst eM
      clear hM1 hM2
      have hll := low_lt (i + 1)
      have hpc := pc_step (show i + 1 < 16 by omega) (by omega)
      have hsl : (i + 1) &&& (i + 1 - 1) < ts.length := by rw [hts]; exact hpc.2
      refine ex_2 (show ∃ da dob, ts[(i + 1) &&& (i + 1 - 1)]? = some (da, dob) from ⟨_, _, List.getElem?_eq_getElem hsl⟩) ?_
      intro da dob hdj
      have dlo := (htD _ _ hdj).1
      have hdD := (htD _ _ hdj).2
      refine ex_2 (show ∃ ra rob, rs[lowN (i + 1)]? = some (ra, rob) from ⟨_, _, List.getElem?_eq_getElem (by lia)⟩) ?_
      intro ra rob hrj
      have rlo := (hrs _ _ hrj).1
      have hrD := (hrs _ _ hrj).2
      have hdm : (da, dob) ∈ rs ++ ts := List.mem_append_right _ (List.mem_of_getElem? hdj)
      have hrm : (ra, rob) ∈ rs ++ ts := List.mem_append_left _ (List.mem_of_getElem? hrj)
      have hdlen : ((tabL RW (i + 1)).getD ((i + 1) &&& (i + 1 - 1)) []).length ≤ 20 := by
        have h1 := tabL_bd hrl (i + 1) (by lia) _ hpc.2
        have h2 := pc_le ((i + 1) &&& (i + 1 - 1))
        lia
      have hrlen : (RW (lowN (i + 1))).length ≤ 20 := Nat.le_trans (hrl _) (by decide)
      have es : (((i + 1 : Nat) : Int) - 1).toNat = i + 1 - 1 := by lia
      have hget1 : (ts.map fun q => Value.ref q.1)[((((((i + 1 : Nat) : Int)).toNat &&& (((i + 1 : Nat) : Int) - 1).toNat : Nat)) : Int).toNat]? = some (.ref da) := by
        rw [es]
        show (ts.map fun q => Value.ref q.1)[(i + 1) &&& (i + 1 - 1)]? = _
        rw [List.getElem?_map, hdj]
        rfl
      have hget2 : (rs.map fun q => Value.ref q.1)[((lowN (i + 1) : Nat) : Int).toNat]? = some (.ref ra) := by
        show (rs.map fun q => Value.ref q.1)[lowN (i + 1)]? = _
        rw [List.getElem?_map, hrj]
        rfl
      have hz0 : (0 : Int) ≤ ((i + 1 : Nat) : Int) := by lia
      have hz1 : ((i + 1 : Nat) : Int) ≤ 15 := by lia
      have hz2 : (0 : Int) ≤ ((i + 1 : Nat) : Int) - 1 := by lia
      have hz3 : ((i + 1 : Nat) : Int) - 1 ≤ 15 := by lia
      have hb9 : ((((((i + 1 : Nat) : Int)).toNat &&& (((i + 1 : Nat) : Int) - 1).toNat : Nat)) : Int) < 16 := by
        rw [es]
        have h1 : ((i + 1 : Nat) : Int).toNat = i + 1 := rfl
        rw [h1]
        have := hpc.2
        lia
      walk_at "goc"
      rename (∀ _ ∈ _, ∀ _ ∈ _, _) => ap
      rename Fr _ _ _ _ => F5
      rename News _ _ _ _ => N5
      rename IsDict w _ (addKV _ _) => hnew
      rename_i d9 o9
      replace N5 := cb_drop (news := (T, W.listOf (ts.map fun q => Value.ref q.1).toArray kk) :: (d9, o9) :: (I, it) :: (L + 1, ok) :: (R, W.listOf (rs.map fun q => Value.ref q.1).toArray kr) :: (rs ++ ts)) N5 (fun q hq => by
        exact led_use (by walk_at "led sub") hq)
      have off5 : ∀ q ∈ (d9, o9) :: (I, it) :: (L + 1, ok) :: (R, W.listOf (rs.map fun q => Value.ref q.1).toArray kr) :: (rs ++ ts), q.1 ≠ T := fun q hq => by
        rcases List.mem_cons.mp hq with rfl | hq
        · exact (ap (T, W.listOf (ts.map fun q => Value.ref q.1).toArray kk) (by simp) (d9, o9) (by simp)).symm
        exact led_at hq (al_cons (Nat.ne_of_gt hI.1) (al_cons (Nat.ne_of_lt hT.2.1) (al_cons (Nat.ne_of_lt hT.2.2.1) hneT)))
      refine append_K F5 N5 (Upd.head off5) (fun h7 F7 N7 => ?_) (by simp only [List.size_toArray, List.length_map]; rw [sizeLine_eq]; lia)
      have eT : W.listOf ((ts.map fun q => Value.ref q.1).toArray.push (.ref d9)) (kk + 1) = W.listOf (((ts ++ [(d9, o9)]).map fun q => Value.ref q.1)).toArray (kk + 1) := by simp
      rw [eT] at N7
      walk_at "goc"
      rename Fr _ _ _ _ => F8
      rename News _ _ _ _ => N8
      have apx : ∀ q ∈ (D2, LCg.lst ys2) :: (I, it) :: (T, W.listOf (ts.map fun q => Value.ref q.1).toArray kk) :: (L + 1, ok) :: (R, W.listOf (rs.map fun q => Value.ref q.1).toArray kr) :: (rs ++ ts), q.1 ≠ d9 := fun q hq => ap q hq (d9, o9) (by simp)
      refine mkW _ _ _ ((T, W.listOf ((ts ++ [(d9, o9)]).map fun q => Value.ref q.1).toArray (kk + 1)) :: (L + 1, ok) :: (R, W.listOf (rs.map fun q => Value.ref q.1).toArray kr) :: (rs ++ (ts ++ [(d9, o9)]))) rfl F8 (cb_drop N8 (fun q hq => ?_)) (fun q hq r hr => ?_) ⟨trivial, Hold.of (mks_4_9 ok _ (ts ++ [(d9, o9)]) (kk + 1) rfl (by rw [List.length_append, hts]; rfl) hk ⟨rfl, rfl, trivial⟩ (all_snoc hneT ?_) (all_snoc hneL ?_) (all_snoc hneI ?_) (all_snoc1 hneR ?_) (fun q hq r hr => ?_) (fun j q hq => ?_))⟩
      · exact led_use (by walk_at "led sub") hq
      · rw [List.mem_singleton.mp hr]
        exact led_at hq (al_cons (Nat.ne_of_lt hI.1) (al_cons (Nat.ne_of_lt hI.2.1) (al_cons (Nat.ne_of_lt hI.2.2.1) (all_snoc hneI (x := (d9, o9)) (apx (I, it) (by simp)).symm))))
      · exact off5 (d9, o9) (by simp)
      · exact (apx (L + 1, ok) (by simp)).symm
      · exact (apx (I, it) (by simp)).symm
      · exact (apx (R, W.listOf (rs.map fun q => Value.ref q.1).toArray kr) (by simp)).symm
      · rcases List.mem_append.mp hq with hq | hq
        · exact hneS q hq r hr
        · rw [List.mem_singleton.mp hq]
          exact apx r (by simp [hr])
      · rcases get_snoc hq with ⟨h1, h2⟩ | ⟨h1, h2⟩
        · rw [tabL_old RW (by lia)]
          exact htD j q h2
        · subst h2
          have ej : j = i + 1 := by lia
          subst ej
          rw [tabL_new RW (by lia)]
          exact hnew
  · clear F1 N1 R1
    rintro m' n' h tk ex9
    apply exs_4_9 ex9
    clear ex9
    rintro o2 v0 ts kk hts hcv m1 hneT hneL hneI hneR hneS htD F1 N1
    replace F1 := fr_canons F1 m1
    dsimp only [canonM] at F1
    walk_at "goc"
    dsimp only
    refine mkD _ _ ((T, W.listOf (ts.map fun q => Value.ref q.1).toArray kk) :: ts) F1 (cb_drop N1 (fun q hq => ?_)) (fun q hq r hr => ?_) ⟨T, kk, ts, rfl, rfl, hts, htD⟩ _ _ rfl
    · exact led_use (by walk_at "led sub") hq
    · rcases List.mem_cons.mp hq with rfl | hq
      · rcases List.mem_cons.mp hr with rfl | hr
        · exact Nat.ne_of_lt hT.2.2.1
        · exact Nat.ne_of_lt (ktn_ltOf hT.2.2.2 r hr)
      · rcases List.mem_cons.mp hr with rfl | hr
        · exact (hneR q hq).symm
        · exact hneS q hq r hr
  · refine Hold.of (mks_4_9 o none ([(d0, od)]) 0 rfl rfl hc' ⟨rfl, rfl, trivial⟩ ?_ ?_ ?_ ?_ ?_ ?_)
    · intro q hq
      rcases List.mem_append.mp hq with hq | hq
      · exact Nat.ne_of_lt (ktn_ltOf hT.2.2.2 q hq)
      · rw [List.mem_singleton.mp hq]; exact Nat.ne_of_lt hT.1
    · intro q hq
      rcases List.mem_append.mp hq with hq | hq
      · exact Nat.ne_of_lt (Nat.lt_succ_of_lt (ktn_ltOf l1.2 q hq))
      · rw [List.mem_singleton.mp hq]; exact Nat.ne_of_gt hA.1
    · intro q hq
      rcases List.mem_append.mp hq with hq | hq
      · exact Nat.ne_of_lt (Nat.lt_trans (ktn_ltOf hA.2.2 q hq) hI0)
      · rw [List.mem_singleton.mp hq]; exact Nat.ne_of_lt hI0
    · intro q hq
      rw [List.mem_singleton.mp hq]; exact Nat.ne_of_gt hA.2.1
    · intro q hq r hr
      rw [List.mem_singleton.mp hq]; exact Nat.ne_of_lt (ktn_ltOf hA.2.2 r hr)
    · intro j q hq
      rcases j with _ | j
      · cases hq; exact ⟨lo0, hD0⟩
      · simp at hq
end

section -- seg4
theorem fresh_seg4 {M : Model} {A : Around} {Q : Flow → Shared → Prop} {E : Value → Shared → Prop} {s : Shared} {env : Env} {pos : Pos} (h : wpAny M A (exec (.Pass pos) env) Q E s) : wpAny M A (exec (.Pass pos) env) Q E s := by
  w_top off
  first | (walk1; fail "fresh") | exact h
local macro_rules | `(tactic| walk_at "halt") => `(tactic| first | (with_reducible show wpAny _ _ (storeName _ (PySem.Str.ofString "tables") _) _ _ _) | (with_reducible show wpAny _ _ (call (Value.ref 148) _) _ _ _))
theorem rot4 {h₀ h : Heap} {L : Addr} {a c : Addr × Obj} {ts r : Led} (N : News h₀ L h (a :: (ts ++ c :: r))) : News h₀ L h (c :: a :: (ts ++ r)) := fun q hq => by
  refine N q ?_
  exact led_use (by walk_at "led sub") hq
theorem seg4 (w : World) (p : Program) (loose : List PySem.Str) (mean : ExcName → Option Value) (mg mb : PySem.Str → Option Value) (dp un : Nat) (gd : Option (List Code)) (outer : List Env) (fa : Addr) (fcd : Value) (A₀ : Around) (base g : Heap) (L : Addr) (s : Shared) (E : Value → Shared → Prop) (h : Heap) (tk : Nat) (m : LMap) (rest : Led)
    (B : Below A₀ base outer g) (X : (hdtop.heap_39 w.params).In g) (T : Top p loose mean mg mb g) (hdp : dp + 10 < recursionLimit) (hun : un + 200 < cLine) (F : Fr g L h m) (sc R Kp : Addr) (kr : Nat) (rs : Led) (K : Nat → KV) (hlen : rs.length = 4) (hrs : ∀ (i : Nat) (q : Addr × Obj), rs[i]? = some q → IsDict w q (K i)) (hK : ∀ i, (K i).length ≤ 4) (o1 : Obj) (v1 : Option Value) (hc1 : o1.data = .cell v1)
    (N : News g L h ((L + 1 + 1, o1) :: (R, W.listOf (rs.map fun q => Value.ref q.1).toArray kr) :: (rs ++ rest))) (off : ∀ q ∈ (R, W.listOf (rs.map fun q => Value.ref q.1).toArray kr) :: (rs ++ rest), q.1 ≠ L + 1 + 1) (hm : HasL m [("script", .ref sc), ("rows", .ref R), ("kept", .ref Kp)]) :
    wpAny (model PySem.Challenge.rw_jc0016_01.row.prog w) (lawA dp un gd L fa fcd outer) (exec (lawS 3) (lawE L fa fcd)) (fun f s' => Hold (f = .next ∧ ∃ h' tk' m' T kt ts o, s' = { s with heap := h', toks := tk' } ∧ Fr g L h' m' ∧ News g L h' ((L + 1 + 1, o) :: (T, W.listOf (ts.map fun q => Value.ref q.1).toArray kt) :: (ts ++ (R, W.listOf (rs.map fun q => Value.ref q.1).toArray kr) :: (rs ++ rest))) ∧ (∀ q ∈ (L + 1 + 1, o) :: (R, W.listOf (rs.map fun q => Value.ref q.1).toArray kr) :: (rs ++ rest), ∀ r ∈ (T, W.listOf (ts.map fun q => Value.ref q.1).toArray kt) :: ts, q.1 ≠ r.1) ∧
      ts.length = 16 ∧ (∀ (i : Nat) (q : Addr × Obj), ts[i]? = some q → IsDict w q ((tabL K 16).getD i [])) ∧ o.data = .cell (some (.ref T)) ∧ HasL m' [("script", .ref sc), ("rows", .ref R), ("kept", .ref Kp)])) E { s with heap := h, toks := tk } := by
  show wpAny _ (ktrTop _ _ _ _ ⟨_, [_, _, _, _, _, _, _, _, _, _, _, _, _, _, _, _, _, _, _, _, _, _, _, _], _, _, _⟩ _ _ _ (cellsFrom _ [_, _, _, _, _, _, _, _, _, _, _, _, _, _, _, _, _, _, _, _, _, _, _, _] _) _) (exec (Stmt.Assign _ _ _) (envOfC _ ⟨_, [_, _, _, _, _, _, _, _, _, _, _, _, _, _, _, _, _, _, _, _, _, _, _, _], _, _, _⟩ _ _ _)) _ _ _
  replace F := fr_canons F hm
  dsimp only [canonM] at F
  have hsub : ∀ q ∈ (R, W.listOf (rs.map fun q => Value.ref q.1).toArray kr) :: rs, q ∈ (L + 1 + 1, o1) :: (R, W.listOf (rs.map fun q => Value.ref q.1).toArray kr) :: (rs ++ rest) := fun q hq => by
    exact led_use (by walk_at "led sub") hq
  walk_at "go"
  refine' Con.useA (con_tables _ _ _ _ _ ?a1 ?a2 ?a3) ?k9 ?_
  (case k9 => assumption)
  (case a1 => assumption)
  (case a2 => assumption)
  (case a3 => assumption)
  intro r9 tl9 h9 tk9 F9 N9 ap9 ho9
  obtain ⟨R9, kk9, rs9, e9, tn9, hl9, hd9⟩ := ho9
  subst e9
  subst tn9
  (simp only [List.cons_append, List.nil_append] at N9)
  walk_at "go"
  rename Fr _ _ _ _ => F3
  rename News _ _ _ _ => N3
  rename (∀ q ∈ _, ∀ r ∈ _, _) => ap
  rename List.length _ = 16 => hl3
  rename (∀ (i : Nat) (q : Addr × Obj), _ → _) => hd3
  refine storeX_C F3 (rot4 N3) (by rfl) (UpdF.head (fun q hq => ?_)) hc1 ?_
  · rcases List.mem_cons.mp hq with rfl | hq
    · exact (ap (L + 1 + 1, o1) (List.Mem.head _) _ (List.Mem.head _)).symm
    rcases List.mem_append.mp hq with hq | hq
    · exact (ap (L + 1 + 1, o1) (List.Mem.head _) q (List.Mem.tail _ hq)).symm
    · exact off q hq
  intro h9 o9 F9 N9 hd9
  refine Hold.of ⟨by trivial, mks_7_7 _ _ _ _ _ _ _ rfl F9 N9 (fun q hq r hr => ?_) hl3 hd3 hd9 ⟨rfl, rfl, rfl, trivial⟩⟩
  rcases List.mem_cons.mp hq with rfl | hq
  · exact ap (L + 1 + 1, o1) (List.Mem.head _) r hr
  · exact ap q (List.Mem.tail _ hq) r hr
end

section -- seg5
theorem fresh_seg5 {M : Model} {A : Around} {Q : Flow → Shared → Prop} {E : Value → Shared → Prop} {s : Shared} {env : Env} {pos : Pos} (h : wpAny M A (exec (.Pass pos) env) Q E s) : wpAny M A (exec (.Pass pos) env) Q E s := by
  w_top off
  first | (walk1; fail "fresh") | exact h
/-- the j-th name -/
noncomputable def NameAt (c : List Int) (j : Nat) (o : Obj) : Prop := ∃ t1 t2 t3 kq, o = tup #[.int (c.getD (6 + j) 0) t1, .int ((c.getD j 0).fmod 32) t2, .int ((j : Nat) : Int) t3] kq
theorem seg5 (w : World) (p : Program) (loose : List PySem.Str) (mean : ExcName → Option Value) (mg mb : PySem.Str → Option Value) (dp un : Nat) (gd : Option (List Code)) (outer : List Env) (fa : Addr) (fcd : Value) (A₀ : Around) (base g : Heap) (L : Addr) (s : Shared) (E : Value → Shared → Prop) (h : Heap) (tk : Nat) (m : LMap) (rest : Led)
    (B : Below A₀ base outer g) (X : (hdtop.heap_39 w.params).In g) (T : Top p loose mean mg mb g) (hdp : dp + 10 < recursionLimit) (hun : un + 200 < cLine) (F : Fr g L h m) (sc D R Kp : Addr) (kk : Nat) (us : List Value) (c : List Int) (hi : IntsAre us c) (hc : c.length = 11) (o0 : Obj) (hc0 : o0.data = .cell (some (.ref D)))
    (N : News g L h ((L + 1, o0) :: (D, W.listOf us.toArray kk) :: rest)) (hm : HasL m [("script", .ref sc), ("rows", .ref R), ("kept", .ref Kp)]) :
    wpAny (model PySem.Challenge.rw_jc0016_01.row.prog w) (lawA dp un gd L fa fcd outer) (exec (lawS 4) (lawE L fa fcd)) (fun f s' => Hold (f = .next ∧ ∃ h' tk' m' Nm kn ns, s' = { s with heap := h', toks := tk' } ∧ Fr g L h' m' ∧ News g L h' ((Nm, W.listOf (ns.map fun q => Value.ref q.1).toArray kn) :: (ns ++ (L + 1, o0) :: (D, W.listOf us.toArray kk) :: rest)) ∧ (∀ q ∈ (L + 1, o0) :: (D, W.listOf us.toArray kk) :: rest, ∀ r ∈ (Nm, W.listOf (ns.map fun q => Value.ref q.1).toArray kn) :: ns, q.1 ≠ r.1) ∧
      ns.length = 4 ∧ (∀ (i : Nat) (q : Addr × Obj), ns[i]? = some q → NameAt c i q.2) ∧ HasL m' [("script", .ref sc), ("rows", .ref R), ("kept", .ref Kp), ("names", .ref Nm)])) E { s with heap := h, toks := tk } := by
  show wpAny _ (ktrTop _ _ _ _ ⟨_, [_, _, _, _, _, _, _, _, _, _, _, _, _, _, _, _, _, _, _, _, _, _, _, _], _, _, _⟩ _ _ _ (cellsFrom _ [_, _, _, _, _, _, _, _, _, _, _, _, _, _, _, _, _, _, _, _, _, _, _, _] _) _) (exec (Stmt.Assign _ _ _) (envOfC _ ⟨_, [_, _, _, _, _, _, _, _, _, _, _, _, _, _, _, _, _, _, _, _, _, _, _, _], _, _, _⟩ _ _ _)) _ _ _
  replace F := fr_canons F hm
  dsimp only [canonM] at F
  k_here
  refine LCg.Assign_ListComp_U (F₀ := F) (by rfl) (by with_unfolding_all rfl) (by with_unfolding_all rfl) (by decide) (by rfl) (by decide) (by rfl) (by rfl) (by rfl) ?_
  walk_at "goc"
  rename IsRange _ _ _ _ _ _ _ _ => R2
  rename Fr _ _ _ _ => F2
  rename News _ _ _ _ => N2
  refine LCg.CompSrc.range (n := 4) (by rfl) F2 N2 R2 (by decide) (by decide) (by decide) ?_
  intro g'
  refine comp_inv (n := 4) (fun j ys2 news2 => ∃ ns : Led, news2 = (L + 1, o0) :: (D, W.listOf us.toArray kk) :: (ns ++ rest) ∧ ns.length = j ∧ ys2 = ns.map (fun q => Value.ref q.1) ∧ (∀ q ∈ (L + 1, o0) :: (D, W.listOf us.toArray kk) :: rest, ∀ r ∈ ns, q.1 ≠ r.1) ∧ (∀ (i : Nat) (q : Addr × Obj), ns[i]? = some q → NameAt c i q.2)) ?_ ?_ 4 0 [] _ rfl (mks_1_4 ([]) rfl rfl rfl (fun _ _ _ h => nomatch h) (fun _ _ h => by simp at h))
  · clear F2 N2
    rintro j v I2 oI2 C2 oC2 D2 m2 ys2 news2 h2 tk2 E2 hj ex9
    apply exs_1_4 ex9
    clear ex9
    rintro ns hlen rfl hdis hns ⟨tj, rfl⟩ hC2 hx2 F1 N1 off2 ne2
    simp only [Int.zero_add] at hx2
    walk_at "goc"
    rename Fr _ _ _ _ => F3
    rename News _ _ _ _ => N3
    rename (_ ∧ _ ∧ _ ∧ _ ∧ _ ∧ AllLt _ _) => hT
    rename Addr => T9
    have e6 : ((6 : Int) + ((j : Nat) : Int)).toNat = 6 + j := by lia
    rw [e6] at N3
    obtain ⟨oT, N4, hoT⟩ : ∃ oT, News g L _ ((T9, oT) :: (I2, oI2) :: (C2, oC2) :: (D2, LCg.lst (ns.map fun q => Value.ref q.1)) :: (L + 1, o0) :: (D, W.listOf us.toArray kk) :: (ns ++ rest)) ∧ NameAt c j oT := ⟨_, N3, _, _, _, _, rfl⟩
    have hlt : ∀ q ∈ (L + 1, o0) :: (D, W.listOf us.toArray kk) :: (ns ++ rest), q.1 ≠ T9 := fun q hq => by
      rcases List.mem_cons.mp hq with rfl | hq
      · exact Nat.ne_of_lt hT.2.2.2.1
      rcases List.mem_cons.mp hq with rfl | hq
      · exact Nat.ne_of_lt hT.2.2.2.2.1
      · exact Nat.ne_of_lt (ktn_ltOf hT.2.2.2.2.2 q hq)
    have off3 := off2.mem
    refine mkC _ _ ((L + 1, o0) :: (D, W.listOf us.toArray kk) :: ((ns ++ [(T9, oT)]) ++ rest)) rfl F3 (cb_drop N4 (fun q hq => ?_)) (LCg.Off3.of (fun q hq => ?_)) trivial (mks_1_4 (ns ++ [(T9, oT)]) rfl (by rw [List.length_append, hlen]; rfl) (by rw [List.map_append]; rfl) (fun q hq r hr => ?_) (fun i q hq => ?_))
    · exact led_use (by walk_at "led sub") hq
    · have hq2 : q ∈ (T9, oT) :: ((L + 1, o0) :: (D, W.listOf us.toArray kk) :: (ns ++ rest)) := led_use (by walk_at "led sub") hq
      rcases List.mem_cons.mp hq2 with rfl | hq2
      · exact ⟨Nat.ne_of_gt hT.1, Nat.ne_of_gt hT.2.1, Nat.ne_of_gt hT.2.2.1⟩
      · exact off3 q hq2
    · rcases List.mem_append.mp hr with hr | hr
      · exact hdis q hq r hr
      · rw [List.mem_singleton.mp hr]
        refine hlt q ?_
        exact led_use (by walk_at "led sub") hq
    · rcases get_snoc hq with ⟨h1, h2⟩ | ⟨h1, h2⟩
      · exact hns i q h2
      · rw [h2]
        have ej : i = j := by lia
        rw [ej]
        exact hoT
  · rintro ys2 news2 ex9
    apply exs_1_4 ex9
    clear ex9
    rintro ns hlen rfl hdis hns D2 h2 tk2 F3 N3 o1
    have o2 := off1_mem o1
    refine Hold.of ⟨rfl, mks_6_6 _ _ _ D2 (ns.map fun q => Value.ref q.1).length ns rfl F3 (cb_drop N3 (fun q hq => ?_)) (fun q hq r hr => ?_) hlen hns ⟨rfl, rfl, rfl, rfl, trivial⟩⟩
    · exact led_use (by walk_at "led sub") hq
    · rcases List.mem_cons.mp hr with rfl | hr
      · refine o2 q ?_
        exact led_use (by walk_at "led sub") hq
      · exact hdis q hq r hr
end

section -- seg6
theorem fresh_seg6 {M : Model} {A : Around} {Q : Flow → Shared → Prop} {E : Value → Shared → Prop} {s : Shared} {env : Env} {pos : Pos} (h : wpAny M A (exec (.Pass pos) env) Q E s) : wpAny M A (exec (.Pass pos) env) Q E s := by
  w_top off
  first | (walk1; fail "fresh") | exact h
theorem ex_19 {α1 α2 α3 α4 α5 α6 α7 α8 α9 α10 α11 α12 α13 α14 α15 α16 α17 α18 α19 : Type} {R : α1 → α2 → α3 → α4 → α5 → α6 → α7 → α8 → α9 → α10 → α11 → α12 → α13 → α14 → α15 → α16 → α17 → α18 → α19 → Prop} {G : Prop} (h : ∃ x1 x2 x3 x4 x5 x6 x7 x8 x9 x10 x11 x12 x13 x14 x15 x16 x17 x18 x19, R x1 x2 x3 x4 x5 x6 x7 x8 x9 x10 x11 x12 x13 x14 x15 x16 x17 x18 x19) (g : ∀ x1 x2 x3 x4 x5 x6 x7 x8 x9 x10 x11 x12 x13 x14 x15 x16 x17 x18 x19, R x1 x2 x3 x4 x5 x6 x7 x8 x9 x10 x11 x12 x13 x14 x15 x16 x17 x18 x19 → G) : G :=
  h.elim fun x1 h => h.elim fun x2 h => h.elim fun x3 h => h.elim fun x4 h => h.elim fun x5 h => h.elim fun x6 h => h.elim fun x7 h => h.elim fun x8 h => h.elim fun x9 h => h.elim fun x10 h => h.elim fun x11 h => h.elim fun x12 h => h.elim fun x13 h => h.elim fun x14 h => h.elim fun x15 h => h.elim fun x16 h => h.elim fun x17 h => h.elim fun x18 h => h.elim fun x19 h => g x1 x2 x3 x4 x5 x6 x7 x8 x9 x10 x11 x12 x13 x14 x15 x16 x17 x18 x19 h
theorem mk_19 {α1 α2 α3 α4 α5 α6 α7 α8 α9 α10 α11 α12 α13 α14 α15 α16 α17 α18 α19 : Type} {R : α1 → α2 → α3 → α4 → α5 → α6 → α7 → α8 → α9 → α10 → α11 → α12 → α13 → α14 → α15 → α16 → α17 → α18 → α19 → Prop} (x1 : α1) (x2 : α2) (x3 : α3) (x4 : α4) (x5 : α5) (x6 : α6) (x7 : α7) (x8 : α8) (x9 : α9) (x10 : α10) (x11 : α11) (x12 : α12) (x13 : α13) (x14 : α14) (x15 : α15) (x16 : α16) (x17 : α17) (x18 : α18) (x19 : α19) (h : R x1 x2 x3 x4 x5 x6 x7 x8 x9 x10 x11 x12 x13 x14 x15 x16 x17 x18 x19) : ∃ x1 x2 x3 x4 x5 x6 x7 x8 x9 x10 x11 x12 x13 x14 x15 x16 x17 x18 x19, R x1 x2 x3 x4 x5 x6 x7 x8 x9 x10 x11 x12 x13 x14 x15 x16 x17 x18 x19 :=
  ⟨x1, x2, x3, x4, x5, x6, x7, x8, x9, x10, x11, x12, x13, x14, x15, x16, x17, x18, x19, h⟩
theorem exs_19_5 {α1 α2 α3 α4 α5 α6 α7 α8 α9 α10 α11 α12 α13 α14 α15 α16 α17 α18 α19 σ : Type} {F : α1 → α2 → α3 → α4 → α5 → α6 → α7 → α8 → α9 → α10 → α11 → α12 → α13 → α14 → α15 → α16 → α17 → α18 → α19 → σ} {P1 P2 P3 P4 P5 : α1 → α2 → α3 → α4 → α5 → α6 → α7 → α8 → α9 → α10 → α11 → α12 → α13 → α14 → α15 → α16 → α17 → α18 → α19 → Prop} {G : σ → Prop} {s : σ} (h : ∃ x1 x2 x3 x4 x5 x6 x7 x8 x9 x10 x11 x12 x13 x14 x15 x16 x17 x18 x19, s = F x1 x2 x3 x4 x5 x6 x7 x8 x9 x10 x11 x12 x13 x14 x15 x16 x17 x18 x19 ∧ P1 x1 x2 x3 x4 x5 x6 x7 x8 x9 x10 x11 x12 x13 x14 x15 x16 x17 x18 x19 ∧ P2 x1 x2 x3 x4 x5 x6 x7 x8 x9 x10 x11 x12 x13 x14 x15 x16 x17 x18 x19 ∧ P3 x1 x2 x3 x4 x5 x6 x7 x8 x9 x10 x11 x12 x13 x14 x15 x16 x17 x18 x19 ∧ P4 x1 x2 x3 x4 x5 x6 x7 x8 x9 x10 x11 x12 x13 x14 x15 x16 x17 x18 x19 ∧ P5 x1 x2 x3 x4 x5 x6 x7 x8 x9 x10 x11 x12 x13 x14 x15 x16 x17 x18 x19) (g : ∀ x1 x2 x3 x4 x5 x6 x7 x8 x9 x10 x11 x12 x13 x14 x15 x16 x17 x18 x19, P1 x1 x2 x3 x4 x5 x6 x7 x8 x9 x10 x11 x12 x13 x14 x15 x16 x17 x18 x19 → P2 x1 x2 x3 x4 x5 x6 x7 x8 x9 x10 x11 x12 x13 x14 x15 x16 x17 x18 x19 → P3 x1 x2 x3 x4 x5 x6 x7 x8 x9 x10 x11 x12 x13 x14 x15 x16 x17 x18 x19 → P4 x1 x2 x3 x4 x5 x6 x7 x8 x9 x10 x11 x12 x13 x14 x15 x16 x17 x18 x19 → P5 x1 x2 x3 x4 x5 x6 x7 x8 x9 x10 x11 x12 x13 x14 x15 x16 x17 x18 x19 → G (F x1 x2 x3 x4 x5 x6 x7 x8 x9 x10 x11 x12 x13 x14 x15 x16 x17 x18 x19)) : G s :=
  ex_19 h fun x1 x2 x3 x4 x5 x6 x7 x8 x9 x10 x11 x12 x13 x14 x15 x16 x17 x18 x19 h => h.1.symm ▸ g x1 x2 x3 x4 x5 x6 x7 x8 x9 x10 x11 x12 x13 x14 x15 x16 x17 x18 x19 h.2.1 h.2.2.1 h.2.2.2.1 h.2.2.2.2.1 h.2.2.2.2.2
theorem mks_19_5 {α1 α2 α3 α4 α5 α6 α7 α8 α9 α10 α11 α12 α13 α14 α15 α16 α17 α18 α19 σ : Type} {F : α1 → α2 → α3 → α4 → α5 → α6 → α7 → α8 → α9 → α10 → α11 → α12 → α13 → α14 → α15 → α16 → α17 → α18 → α19 → σ} {P1 P2 P3 P4 P5 : α1 → α2 → α3 → α4 → α5 → α6 → α7 → α8 → α9 → α10 → α11 → α12 → α13 → α14 → α15 → α16 → α17 → α18 → α19 → Prop} {s : σ} (x1 : α1) (x2 : α2) (x3 : α3) (x4 : α4) (x5 : α5) (x6 : α6) (x7 : α7) (x8 : α8) (x9 : α9) (x10 : α10) (x11 : α11) (x12 : α12) (x13 : α13) (x14 : α14) (x15 : α15) (x16 : α16) (x17 : α17) (x18 : α18) (x19 : α19) (h0 : s = F x1 x2 x3 x4 x5 x6 x7 x8 x9 x10 x11 x12 x13 x14 x15 x16 x17 x18 x19) (h1 : P1 x1 x2 x3 x4 x5 x6 x7 x8 x9 x10 x11 x12 x13 x14 x15 x16 x17 x18 x19) (h2 : P2 x1 x2 x3 x4 x5 x6 x7 x8 x9 x10 x11 x12 x13 x14 x15 x16 x17 x18 x19) (h3 : P3 x1 x2 x3 x4 x5 x6 x7 x8 x9 x10 x11 x12 x13 x14 x15 x16 x17 x18 x19) (h4 : P4 x1 x2 x3 x4 x5 x6 x7 x8 x9 x10 x11 x12 x13 x14 x15 x16 x17 x18 x19) (h5 : P5 x1 x2 x3 x4 x5 x6 x7 x8 x9 x10 x11 x12 x13 x14 x15 x16 x17 x18 x19) : ∃ x1 x2 x3 x4 x5 x6 x7 x8 x9 x10 x11 x12 x13 x14 x15 x16 x17 x18 x19, s = F x1 x2 x3 x4 x5 x6 x7 x8 x9 x10 x11 x12 x13 x14 x15 x16 x17 x18 x19 ∧ P1 x1 x2 x3 x4 x5 x6 x7 x8 x9 x10 x11 x12 x13 x14 x15 x16 x17 x18 x19 ∧ P2 x1 x2 x3 x4 x5 x6 x7 x8 x9 x10 x11 x12 x13 x14 x15 x16 x17 x18 x19 ∧ P3 x1 x2 x3 x4 x5 x6 x7 x8 x9 x10 x11 x12 x13 x14 x15 x16 x17 x18 x19 ∧ P4 x1 x2 x3 x4 x5 x6 x7 x8 x9 x10 x11 x12 x13 x14 x15 x16 x17 x18 x19 ∧ P5 x1 x2 x3 x4 x5 x6 x7 x8 x9 x10 x11 x12 x13 x14 x15 x16 x17 x18 x19 :=
  mk_19 x1 x2 x3 x4 x5 x6 x7 x8 x9 x10 x11 x12 x13 x14 x15 x16 x17 x18 x19 ⟨h0, h1, h2, h3, h4, h5⟩
local macro_rules | `(tactic| walk_at "halt") => `(tactic| (with_reducible show wpAny _ _ (storeName _ (PySem.Str.ofString "comp") _) _ _ _))
theorem pick6 {h₀ h : Heap} {L : Addr} {a1 a2 a3 a4 a5 a6 a7 e0 e2 eD : Addr × Obj} {r : Led} (N : News h₀ L h (a1 :: a2 :: a3 :: a4 :: a5 :: a6 :: a7 :: e0 :: e2 :: eD :: r)) : News h₀ L h (e2 :: a1 :: a2 :: a3 :: a6 :: a4 :: e0 :: eD :: r) := fun q hq => by
  refine N q ?_
  exact led_use (by walk_at "led sub") hq
theorem lt_ne {a b : Addr} (h : @LT.lt Nat _ a b) : a ≠ b := Nat.ne_of_lt h
theorem seg6 (w : World) (p : Program) (loose : List PySem.Str) (mean : ExcName → Option Value) (mg mb : PySem.Str → Option Value) (outer : List Env) (fa : Addr) (fcd : Value) (A₀ : Around) (base g : Heap) (L : Addr) (s : Shared) (E : Value → Shared → Prop) (h : Heap) (tk : Nat) (m : LMap) (rest : Led)
    (B : Below A₀ base outer g) (X : (hdtop.heap_39 w.params).In g) (T : Top p loose mean mg mb g) (F : Fr g L h m) (sc D R Kp Nm : Addr) (kk : Nat) (us : List Value) (c : List Int) (hi : IntsAre us c) (hc : c.length = 11) (o0 o2 : Obj) (hc0 : o0.data = .cell (some (.ref D))) (v2 : Option Value) (hc2 : o2.data = .cell v2)
    (N : News g L h ((L + 1, o0) :: (L + 1 + 1 + 1, o2) :: (D, W.listOf us.toArray kk) :: rest)) (off : ∀ q ∈ rest, q.1 ≠ L + 1 + 1 + 1) (offD : D ≠ L + 1 + 1 + 1) (hm : HasL m [("script", .ref sc), ("rows", .ref R), ("kept", .ref Kp), ("names", .ref Nm)]) :
    wpAny (model PySem.Challenge.rw_jc0016_01.row.prog w) (lawA (1 + claimMargin + 1) 7 (some []) L fa fcd outer) (exec (lawS 5) (lawE L fa fcd)) (fun f s' => Hold (f = .next ∧ ∃ h' tk' m' cx dx cl ta tb hk kl ka kb kd tkc u1 u2 u3 u4 o, s' = { s with heap := h', toks := tk' } ∧ Fr g L h' m' ∧ News g L h' ((L + 1 + 1 + 1, o) :: (cx, instObj 87 dx) :: (dx, dictOf [⟨hk, .str (PySem.Str.ofString "comp_select_list") tkc, .ref cl⟩] kd) :: (cl, W.listOf #[.ref ta, .ref tb] kl) :: (ta, tup #[.int ((c.getD 10 0).fmod 2) u1, .int ([1, -1].getD (((c.getD 10 0).fdiv 2).fmod 2).toNat 0) u2] ka) :: (tb, tup #[.int 2 u3, .int ([1, -1].getD (((c.getD 10 0).fdiv 4).fmod 2).toNat 0) u4] kb) :: (L + 1, o0) :: (D, W.listOf us.toArray kk) :: rest) ∧
      (∀ q ∈ (L + 1 + 1 + 1, o) :: (L + 1, o0) :: (D, W.listOf us.toArray kk) :: rest, q.1 ≠ cx ∧ q.1 ≠ dx ∧ q.1 ≠ cl ∧ q.1 ≠ ta ∧ q.1 ≠ tb) ∧ o.data = .cell (some (.ref cx)) ∧ HasL m' [("script", .ref sc), ("rows", .ref R), ("kept", .ref Kp), ("names", .ref Nm)])) E { s with heap := h, toks := tk } := by
  show wpAny _ (ktrTop _ _ _ _ ⟨_, [_, _, _, _, _, _, _, _, _, _, _, _, _, _, _, _, _, _, _, _, _, _, _, _], _, _, _⟩ _ _ _ (cellsFrom _ [_, _, _, _, _, _, _, _, _, _, _, _, _, _, _, _, _, _, _, _, _, _, _, _] _) _) (exec (Stmt.Assign _ _ _) (envOfC _ ⟨_, [_, _, _, _, _, _, _, _, _, _, _, _, _, _, _, _, _, _, _, _, _, _, _, _], _, _, _⟩ _ _ _)) _ _ _
  replace F := fr_canons F hm
  dsimp only [canonM] at F
  walk_at "go"
  rename Fr _ _ _ _ => F3
  rename News _ _ _ _ => N3
  rename (_ ∧ _ ∧ _ ∧ _ ∧ AllLt _ _) => hta
  rename (_ ∧ _ ∧ _ ∧ _ ∧ _ ∧ _ ∧ AllLt _ _) => htb
  rename (_ ∧ _ ∧ _ ∧ _ ∧ _ ∧ _ ∧ _ ∧ AllLt _ _) => hcl
  rename (_ ∧ _ ∧ _ ∧ _ ∧ _ ∧ _ ∧ _ ∧ _ ∧ AllLt _ _) => hdx
  rename (@LT.lt Nat _ _ _) => hcx
  replace N3 := pick6 N3
  obtain ⟨_, ht1, ht3, htD, htR⟩ := hta
  obtain ⟨_, hab, _⟩ := htb
  have hbc := hcl.1
  have hcd := hdx.1
  have old : ∀ q ∈ (L + 1, o0) :: (D, W.listOf us.toArray kk) :: rest, q.1 ≠ L + 1 + 1 + 1 := fun q hq => by
    exact led_at hq (al_cons (Nat.ne_of_lt (Nat.lt_succ_of_lt (Nat.lt_succ_self _))) (al_cons (offD) off))
  refine storeX_C F3 N3 (by rfl) (UpdF.head (fun q hq => ?_)) hc2 ?_
  · exact led_at hq (al_cons (Nat.ne_of_gt (Nat.lt_trans ht3 (Nat.lt_trans hab (Nat.lt_trans hbc (Nat.lt_trans hcd hcx))))) (al_cons (Nat.ne_of_gt (Nat.lt_trans ht3 (Nat.lt_trans hab (Nat.lt_trans hbc hcd)))) (al_cons (Nat.ne_of_gt (Nat.lt_trans ht3 (Nat.lt_trans hab hbc))) (al_cons (Nat.ne_of_gt ht3) (al_cons (Nat.ne_of_gt (Nat.lt_trans ht3 hab)) old)))))
  intro h9 o9 F9 N9 hd9
  refine Hold.of ⟨by trivial, mks_19_5 _ _ _ _ _ _ _ _ _ _ _ _ _ _ _ _ _ _ _ rfl F9 N9 (fun q hq => ?_) hd9 ⟨rfl, rfl, rfl, rfl, trivial⟩⟩
  have hlt : ∀ q ∈ (L + 1 + 1 + 1, o9) :: (L + 1, o0) :: (D, W.listOf us.toArray kk) :: rest, @LT.lt Nat _ q.1 _ := fun q hq => by
    exact led_at hq (al_cons (ht3) (al_cons (ht1) (al_cons (htD) (ktn_ltOf htR))))
  have g1 := hlt q hq
  exact ⟨lt_ne (Nat.lt_trans g1 (Nat.lt_trans hab (Nat.lt_trans hbc (Nat.lt_trans hcd hcx)))), lt_ne (Nat.lt_trans g1 (Nat.lt_trans hab (Nat.lt_trans hbc hcd))), lt_ne (Nat.lt_trans g1 (Nat.lt_trans hab hbc)), lt_ne g1, lt_ne (Nat.lt_trans g1 hab)⟩
end

section -- seg7
theorem fresh_seg7 {M : Model} {A : Around} {Q : Flow → Shared → Prop} {E : Value → Shared → Prop} {s : Shared} {env : Env} {pos : Pos} (h : wpAny M A (exec (.Pass pos) env) Q E s) : wpAny M A (exec (.Pass pos) env) Q E s := by
  w_top off
  first | (walk1; fail "fresh") | exact h
local macro_rules | `(tactic| walk_at "halt") => `(tactic| first | (with_reducible show wpAny _ _ (storeName _ (PySem.Str.ofString "line") _) _ _ _) | (with_reducible show wpAny _ _ (call (Value.ref 169) _) _ _ _))
theorem seg7 (w : World) (p : Program) (loose : List PySem.Str) (mean : ExcName → Option Value) (mg mb : PySem.Str → Option Value) (dp un : Nat) (gd : Option (List Code)) (outer : List Env) (fa : Addr) (fcd : Value) (A₀ : Around) (base g : Heap) (L : Addr) (s : Shared) (E : Value → Shared → Prop) (h : Heap) (tk : Nat) (m : LMap) (rest : Led)
    (B : Below A₀ base outer g) (X : (hdtop.heap_39 w.params).In g) (T : Top p loose mean mg mb g) (hdp : dp + 10 < recursionLimit) (hun : un + 200 < cLine) (F : Fr g L h m) (sc R Kp Nm cx dx cl ta tb : Addr) (hk : Int) (kl ka kb kd kn : Nat) (i0 d1 d2 : Int) (tkc u1 u2 u3 u4 : Tok) (ns : Led) (hi : i0 = 0 ∨ i0 = 1) (hlen : ns.length ≤ 10) (hns : ∀ q ∈ ns, ∃ b n k t1 t2 t3 kq, q.2 = tup #[.int b t1, .int n t2, .int k t3] kq)
    (o2 o3 : Obj) (v3 : Option Value) (hc2 : o2.data = .cell (some (.ref cx))) (hc3 : o3.data = .cell v3)
    (N : News g L h ((L + 1 + 1 + 1 + 1, o3) :: (L + 1 + 1 + 1, o2) :: (Nm, W.listOf (ns.map fun q => Value.ref q.1).toArray kn) :: (cx, instObj 87 dx) :: (dx, dictOf [⟨hk, .str (PySem.Str.ofString "comp_select_list") tkc, .ref cl⟩] kd) :: (cl, W.listOf #[.ref ta, .ref tb] kl) :: (ta, tup #[.int i0 u1, .int d1 u2] ka) :: (tb, tup #[.int 2 u3, .int d2 u4] kb) :: (ns ++ rest)))
    (off : ∀ q ∈ (L + 1 + 1 + 1, o2) :: (Nm, W.listOf (ns.map fun q => Value.ref q.1).toArray kn) :: (cx, instObj 87 dx) :: (dx, dictOf [⟨hk, .str (PySem.Str.ofString "comp_select_list") tkc, .ref cl⟩] kd) :: (cl, W.listOf #[.ref ta, .ref tb] kl) :: (ta, tup #[.int i0 u1, .int d1 u2] ka) :: (tb, tup #[.int 2 u3, .int d2 u4] kb) :: (ns ++ rest), q.1 ≠ L + 1 + 1 + 1 + 1)
    (hm : HasL m [("script", .ref sc), ("rows", .ref R), ("kept", .ref Kp), ("names", .ref Nm)]) :
    wpAny (model PySem.Challenge.rw_jc0016_01.row.prog w) (lawA dp un gd L fa fcd outer) (exec (lawS 6) (lawE L fa fcd)) (fun f s' => Hold (f = .next ∧ ∃ h' tk' m' Ln kk o, s' = { s with heap := h', toks := tk' } ∧ Fr g L h' m' ∧ News g L h' ((L + 1 + 1 + 1 + 1, o) :: (Ln, W.listOf ((lineQ (fun q x => cmpQ i0 d1 d2 q x == -1) ns).map fun q => Value.ref q.1).toArray kk) :: (L + 1 + 1 + 1, o2) :: (Nm, W.listOf (ns.map fun q => Value.ref q.1).toArray kn) :: (cx, instObj 87 dx) :: (dx, dictOf [⟨hk, .str (PySem.Str.ofString "comp_select_list") tkc, .ref cl⟩] kd) :: (cl, W.listOf #[.ref ta, .ref tb] kl) :: (ta, tup #[.int i0 u1, .int d1 u2] ka) :: (tb, tup #[.int 2 u3, .int d2 u4] kb) :: (ns ++ rest)) ∧
      (∀ q ∈ (L + 1 + 1 + 1 + 1, o) :: (L + 1 + 1 + 1, o2) :: (Nm, W.listOf (ns.map fun q => Value.ref q.1).toArray kn) :: (cx, instObj 87 dx) :: (dx, dictOf [⟨hk, .str (PySem.Str.ofString "comp_select_list") tkc, .ref cl⟩] kd) :: (cl, W.listOf #[.ref ta, .ref tb] kl) :: (ta, tup #[.int i0 u1, .int d1 u2] ka) :: (tb, tup #[.int 2 u3, .int d2 u4] kb) :: (ns ++ rest), q.1 ≠ Ln) ∧ o.data = .cell (some (.ref Ln)) ∧ HasL m' [("script", .ref sc), ("rows", .ref R), ("kept", .ref Kp), ("names", .ref Nm)])) E { s with heap := h, toks := tk } := by
  show wpAny _ (ktrTop _ _ _ _ ⟨_, [_, _, _, _, _, _, _, _, _, _, _, _, _, _, _, _, _, _, _, _, _, _, _, _], _, _, _⟩ _ _ _ (cellsFrom _ [_, _, _, _, _, _, _, _, _, _, _, _, _, _, _, _, _, _, _, _, _, _, _, _] _) _) (exec (Stmt.Assign _ _ _) (envOfC _ ⟨_, [_, _, _, _, _, _, _, _, _, _, _, _, _, _, _, _, _, _, _, _, _, _, _, _], _, _, _⟩ _ _ _)) _ _ _
  replace F := fr_canons F hm
  dsimp only [canonM] at F
  have hsub : ∀ q ∈ (Nm, W.listOf (ns.map fun q => Value.ref q.1).toArray kn) :: (cx, instObj 87 dx) :: (dx, dictOf [⟨hk, .str (PySem.Str.ofString "comp_select_list") tkc, .ref cl⟩] kd) :: (cl, W.listOf #[.ref ta, .ref tb] kl) :: (ta, tup #[.int i0 u1, .int d1 u2] ka) :: (tb, tup #[.int 2 u3, .int d2 u4] kb) :: ns, q ∈ (L + 1 + 1 + 1 + 1, o3) :: (L + 1 + 1 + 1, o2) :: (Nm, W.listOf (ns.map fun q => Value.ref q.1).toArray kn) :: (cx, instObj 87 dx) :: (dx, dictOf [⟨hk, .str (PySem.Str.ofString "comp_select_list") tkc, .ref cl⟩] kd) :: (cl, W.listOf #[.ref ta, .ref tb] kl) :: (ta, tup #[.int i0 u1, .int d1 u2] ka) :: (tb, tup #[.int 2 u3, .int d2 u4] kb) :: (ns ++ rest) := fun q hq => by
    exact led_use (by walk_at "led sub") hq
  walk_at "go"
  refine' Con.useA (con_line _ _ _ _ _ _ _ _ _ _ _ _ _ _ _ _ _ _ _ _ _ _ ?a1 ?a2 ?a3) ?k9 ?_
  (case k9 => assumption)
  (case a1 => assumption)
  (case a2 => assumption)
  (case a3 => assumption)
  intro r9 tl9 h9 tk9 F9 N9 ap9 ho9
  obtain ⟨R9, kk9, e9, tn9⟩ := ho9
  subst e9
  subst tn9
  (simp only [List.cons_append, List.nil_append] at N9)
  walk_at "go"
  rename Fr _ _ _ _ => F3
  rename News _ _ _ _ => N3
  rename (∀ q ∈ _, ∀ r ∈ _, _) => ap
  refine storeX_C F3 (swap2 N3) (by rfl) (UpdF.head (fun q hq => ?_)) hc3 ?_
  · exact led_at hq (al_cons ((ap (L + 1 + 1 + 1 + 1, o3) (List.Mem.head _) _ (List.Mem.head _)).symm) off)
  intro h9 o9 F9 N9 hd9
  refine Hold.of ⟨by trivial, mks_6_5 _ _ _ _ _ _ rfl F9 N9 (fun q hq => ?_) hd9 ⟨rfl, rfl, rfl, rfl, trivial⟩⟩
  rcases List.mem_cons.mp hq with rfl | hq
  · exact ap (L + 1 + 1 + 1 + 1, o3) (List.Mem.head _) _ (List.Mem.head _)
  · exact ap q (List.Mem.tail _ hq) _ (List.Mem.head _)
end

section -- next
theorem fresh_next {M : Model} {A : Around} {Q : Flow → Shared → Prop} {E : Value → Shared → Prop} {s : Shared} {env : Env} {pos : Pos} (h : wpAny M A (exec (.Pass pos) env) Q E s) : wpAny M A (exec (.Pass pos) env) Q E s := by
  w_top off
  first | (walk1; fail "fresh") | exact h
noncomputable def bitN (b : Bool) : Int := if b then 1 else 0
/-- the answer of the highest j names, lowest figure last -/
noncomputable def toldI (g : Nat → Bool) : Nat → Int
  | 0 => 0
  | j + 1 => toldI g j * 2 + bitN (g (3 - j))
theorem toldI_bd (g : Nat → Bool) : ∀ j, 0 ≤ toldI g j ∧ toldI g j < 2 ^ j
  | 0 => by simp [toldI]
  | j + 1 => by
    have := toldI_bd g j
    have hp : (2 : Int) ^ (j + 1) = 2 ^ j * 2 := by rw [Int.pow_succ]
    rw [hp]
    unfold toldI bitN
    split <;> lia
noncomputable def upB (T : KV) (bs : List Int) (k : Nat) : Bool := decide (getK T (keyS k) ≥ bs.getD k 0)
theorem k3_drop {t0 t1 t2 t3 : Tok} {j : Nat} {v : Value} {r : List Value} (h : v :: r = [Value.int 3 t0, .int 2 t1, .int 1 t2, .int 0 t3].drop j) : j < 4 ∧ (∃ t, v = .int ((3 - j : Nat) : Int) t) ∧ r = [Value.int 3 t0, .int 2 t1, .int 1 t2, .int 0 t3].drop (j + 1) := by
  rcases j with _ | _ | _ | _ | j
  · cases h; exact ⟨by decide, ⟨_, rfl⟩, rfl⟩
  · cases h; exact ⟨by decide, ⟨_, rfl⟩, rfl⟩
  · cases h; exact ⟨by decide, ⟨_, rfl⟩, rfl⟩
  · cases h; exact ⟨by decide, ⟨_, rfl⟩, rfl⟩
  · simp at h
local macro_rules | `(tactic| walk_at "getMethod ref") => `(tactic| (k_here; k_dflt (refine' dict_mget ?k1 ?k2 ?k3 ?k4 ?_; (case k1 => k_asm); (case k2 => k_mem); (case k3 => k_asm); (case k4 => k_asm))))
local macro_rules | `(tactic| walk_at "call builtin:dict.get") => `(tactic| (k_here; k_dflt (refine' dict_get ?k1 ?k2 ?k3 ?k4 ?_; (case k1 => k_asm); (case k2 => k_mem); (case k3 => k_asm); (case k4 => k_asm)); intro t'))
theorem con_next (w : World) (d l : Addr) (o : Obj) (a : KV) (k : Nat) (vs : List Value) (bs : List Int) (lo : (d == sysModules) = false) (D : DictI w o a) (hv : IntsAre vs bs) (hl : bs.length = 4) (hdl : d ≠ l) :
    Con w 1 155 [.ref d, .ref l] [(d, o), (l, W.listOf vs.toArray k)] (fun v tl => tl = [] ∧ ∃ t, v = .int (toldI (upB a bs) 4) t) := by
  walk_at "con plain"
  rename_i p loose mean mg mb dp un gd outer A₀ base g L h0 tk0 s B F X N T hdp hun l1
  walk_at "go"
  rename Fr _ _ _ _ => F1
  (with_unfolding_all refine' For_invVF F1 ?k1 ?k2 ?_; (case k1 => exact rfl); (case k2 => exact rfl))
  walk_at "go"
  rename_i lk _ F1 N1 hA
  refine iter_listUnr (n := 0) (vs := [Value.int 3 tk, .int 2 (tk + 1), .int 1 (tk + 1 + 1), .int 0 (tk + 1 + 1 + 1)]) rfl F1 N1 (by k_mem) rfl rfl ?_
  intro I hI
  k_lt hI
  refine list_inv (fun r m' n' => Hold (∃ j t, n' = [(lk, W.listOf #[.int 3 tk, .int 2 (tk + 1), .int 1 (tk + 1 + 1), .int 0 (tk + 1 + 1 + 1)] 0), (d, o), (l, W.listOf vs.toArray k)] ∧ j ≤ 4 ∧ r = [Value.int 3 tk, .int 2 (tk + 1), .int 1 (tk + 1 + 1), .int 0 (tk + 1 + 1 + 1)].drop j ∧ HasL m' [("table", .ref d), ("bounds", .ref l), ("told", .int (toldI (upB a bs) j) t)])) ?_ ?_ _ _ _ ?_
  · clear F1 N1
    rintro v r m' n' it h tk2 ex9
    apply exs_2_3 ex9
    clear ex9
    rintro j t _ e m1 hit F1 N1
    obtain ⟨hj, ⟨t2, rfl⟩, er⟩ := k3_drop e
    clear e
    replace F1 := fr_canons (ps := [("k", _), ("table", .ref d), ("bounds", .ref l), ("told", .int (toldI (upB a bs) j) t)]) F1 ⟨rfl, m1⟩
    dsimp only [canonM] at F1
    clear m1
    have hb0 := (toldI_bd (upB a bs) j).1
    have hb1 : toldI (upB a bs) j ≤ 15 := by
      have h1 := (toldI_bd (upB a bs) j).2
      have h2 : j = 0 ∨ j = 1 ∨ j = 2 ∨ j = 3 := by lia
      rcases h2 with e | e | e | e <;> subst e <;> lia
    walk_at "go"
    · rename (decide _ == true) = true => hq
      rename Fr _ _ _ _ => F3
      rename News _ _ _ _ => N3
      rw [key_item (by lia)] at hq
      have e2 : toldI (upB a bs) (j + 1) = toldI (upB a bs) j * 2 ^ (1 : Int).toNat + 1 := by
        have : upB a bs (3 - j) = true := eq_of_beq hq
        show toldI (upB a bs) j * 2 + bitN (upB a bs (3 - j)) = _
        rw [this]
        rfl
      exact mkU _ _ _ ([_, _, _]) rfl F3 N3 (off1 hI.1 (off1 hI.2.1 (off1 hI.2.2 off0))) ⟨by k_mem, Hold.of (mks_2_3 (j + 1) _ rfl hj er ⟨rfl, rfl, (by rw [e2]; rfl), trivial⟩)⟩
    · rename (decide _ == true) = false => hq
      rename Fr _ _ _ _ => F3
      rename News _ _ _ _ => N3
      rw [key_item (by omega)] at hq
      have e2 : toldI (upB a bs) (j + 1) = toldI (upB a bs) j * 2 ^ (1 : Int).toNat := by
        have : upB a bs (3 - j) = false := by
          have hq2 : (upB a bs (3 - j) == true) = false := hq
          cases hz : upB a bs (3 - j) with
          | false => rfl
          | true => rw [hz] at hq2; cases hq2
        show toldI (upB a bs) j * 2 + bitN (upB a bs (3 - j)) = _
        rw [this]
        show _ + (0 : Int) = _
        rw [Int.add_zero]
        rfl
      exact mkU _ _ _ ([_, _, _]) rfl F3 N3 (off1 hI.1 (off1 hI.2.1 (off1 hI.2.2 off0))) ⟨by k_mem, Hold.of (mks_2_3 (j + 1) _ rfl hj er ⟨rfl, rfl, (by rw [e2]; rfl), trivial⟩)⟩
  · clear F1 N1
    rintro m' n' h tk2 ex9
    apply exs_2_3 ex9
    clear ex9
    rintro j t hj4 e m1 F1 N1
    replace F1 := fr_canons F1 m1
    dsimp only [canonM] at F1
    have ej : j ≥ 4 := by
      have := congrArg List.length e
      rw [List.length_drop] at this
      simp at this
      lia
    have ej : j = 4 := by lia
    subst ej
    walk_at "go"
    dsimp only
    exact mkD _ _ ([]) F1 (cb_drop N1 (by kcj_all)) (fun _ h => nomatch h) ⟨rfl, t, rfl⟩ _ _ rfl
  · exact Hold.of (mks_2_3 0 _ rfl (by decide) rfl ⟨rfl, rfl, rfl, trivial⟩)
end

section -- seg8
theorem fresh_seg8 {M : Model} {A : Around} {Q : Flow → Shared → Prop} {E : Value → Shared → Prop} {s : Shared} {env : Env} {pos : Pos} (h : wpAny M A (exec (.Pass pos) env) Q E s) : wpAny M A (exec (.Pass pos) env) Q E s := by
  w_top off
  first | (walk1; fail "fresh") | exact h
theorem sub28 {x y : Addr × Obj} {big : Led} (hx : x ∈ big) (hy : y ∈ big) : ∀ q ∈ [x, y], q ∈ big := fun q hq => by
  exact led_at hq (al_cons (hx) (al_cons (hy) al_nil))
noncomputable def bnds (c : List Int) : List Int := (c.drop 6).take 4
local macro_rules | `(tactic| walk_at "halt") => `(tactic| (with_reducible show wpAny _ _ (call (Value.ref 155) _) _ _ _))
theorem bnds_len {c : List Int} (h : c.length = 11) : (bnds c).length = 4 := by
  unfold bnds; rw [List.length_take, List.length_drop, h]; rfl
theorem seg8 (w : World) (p : Program) (loose : List PySem.Str) (mean : ExcName → Option Value) (mg mb : PySem.Str → Option Value) (dp un : Nat) (gd : Option (List Code)) (outer : List Env) (fa : Addr) (fcd : Value) (A₀ : Around) (base g : Heap) (L : Addr) (s : Shared) (E : Value → Shared → Prop) (h : Heap) (tk : Nat) (m : LMap) (rest : Led)
    (B : Below A₀ base outer g) (X : (hdtop.heap_39 w.params).In g) (T : Top p loose mean mg mb g) (hdp : dp + 10 < recursionLimit) (hun : un + 200 < cLine) (F : Fr g L h m) (sc R Kp Nm D T9 : Addr) (kk kt : Nat) (us : List Value) (c : List Int) (hi : IntsAre us c) (hc : c.length = 11) (ts : Led) (K : Nat → KV) (hlen : ts.length = 16) (hts : ∀ (i : Nat) (q : Addr × Obj), ts[i]? = some q → IsDict w q (K i)) (o0 o1 : Obj) (hc0 : o0.data = .cell (some (.ref D))) (hc1 : o1.data = .cell (some (.ref T9)))
    (N : News g L h ((L + 1, o0) :: (L + 1 + 1, o1) :: (D, W.listOf us.toArray kk) :: (T9, W.listOf (ts.map fun q => Value.ref q.1).toArray kt) :: (ts ++ rest))) (hm : HasL m [("script", .ref sc), ("rows", .ref R), ("kept", .ref Kp), ("names", .ref Nm)]) :
    wpAny (model PySem.Challenge.rw_jc0016_01.row.prog w) (lawA dp un gd L fa fcd outer) (exec (lawS 7) (lawE L fa fcd)) (fun f s' => Hold (f = .next ∧ ∃ h' tk' m' Ld vs kn, s' = { s with heap := h', toks := tk' } ∧ Fr g L h' m' ∧ News g L h' ((Ld, W.listOf vs.toArray kn) :: (L + 1, o0) :: (L + 1 + 1, o1) :: (D, W.listOf us.toArray kk) :: (T9, W.listOf (ts.map fun q => Value.ref q.1).toArray kt) :: (ts ++ rest)) ∧ (∀ q ∈ (L + 1, o0) :: (L + 1 + 1, o1) :: (D, W.listOf us.toArray kk) :: (T9, W.listOf (ts.map fun q => Value.ref q.1).toArray kt) :: (ts ++ rest), q.1 ≠ Ld) ∧
      IntsAre vs ((List.range 16).map fun i => toldI (upB (K i) (bnds c)) 4) ∧ HasL m' [("script", .ref sc), ("rows", .ref R), ("kept", .ref Kp), ("names", .ref Nm), ("leads", .ref Ld)])) E { s with heap := h, toks := tk } := by
  show wpAny _ (ktrTop _ _ _ _ ⟨_, [_, _, _, _, _, _, _, _, _, _, _, _, _, _, _, _, _, _, _, _, _, _, _, _], _, _, _⟩ _ _ _ (cellsFrom _ [_, _, _, _, _, _, _, _, _, _, _, _, _, _, _, _, _, _, _, _, _, _, _, _] _) _) (exec (Stmt.Assign _ _ _) (envOfC _ ⟨_, [_, _, _, _, _, _, _, _, _, _, _, _, _, _, _, _, _, _, _, _, _, _, _, _], _, _, _⟩ _ _ _)) _ _ _
  replace F := fr_canons F hm
  dsimp only [canonM] at F
  k_here
  refine LCg.Assign_ListComp_U (F₀ := F) (by rfl) (by with_unfolding_all rfl) (by with_unfolding_all rfl) (by decide) (by rfl) (by decide) (by rfl) (by rfl) (by rfl) ?_
  walk_at "goc"
  rename Fr _ _ _ _ => F2
  rename News _ _ _ _ => N2
  have esz : (ts.map fun q => Value.ref q.1).toArray.size = 16 := by rw [List.size_toArray, List.length_map, hlen]
  refine LCg.CompSrc.ledger (its := (ts.map fun q => Value.ref q.1).toArray) (k := kt) (by rfl) F2 N2 (List.Mem.tail _ (List.Mem.tail _ (List.Mem.tail _ (List.Mem.head _)))) (by rw [esz]; decide) ?_
  intro g'
  rw [esz]
  refine comp_inv (n := 16) (fun j ys2 news2 => news2 = (L + 1, o0) :: (L + 1 + 1, o1) :: (D, W.listOf us.toArray kk) :: (T9, W.listOf (ts.map fun q => Value.ref q.1).toArray kt) :: (ts ++ rest) ∧ IntsAre ys2 ((List.range j).map fun i => toldI (upB (K i) (bnds c)) 4)) ?_ ?_ 16 0 [] _ rfl ⟨rfl, .nil⟩
  · clear F2 N2
    rintro j v I2 oI2 C2 oC2 D2 m2 ys2 news2 h2 tk2 E2 hj ex9
    apply exs_0_1 ex9
    clear ex9
    rintro hy hv hC2 hx2 F1 N1 off2 ne2
    refine ex_2 (show ∃ da dob, ts[j]? = some (da, dob) from ⟨_, _, List.getElem?_eq_getElem (by lia)⟩) ?_
    intro da dob hdj
    have dlo := (hts _ _ hdj).1
    have hdD := (hts _ _ hdj).2
    have hdm : (da, dob) ∈ ts ++ rest := List.mem_append_left _ (List.mem_of_getElem? hdj)
    have ev : v = .ref da := by
      have hv2 : (ts.map fun q => Value.ref q.1)[j]? = some v := by simpa using hv
      rw [List.getElem?_map, hdj] at hv2
      exact (Option.some.inj hv2).symm
    subst ev
    walk_at "goc"
    rename IntsAre _ (List.take _ _) => hI
    rename Fr _ _ _ _ => F3
    rename News _ _ _ _ => N3
    rename (_ ∧ _ ∧ _ ∧ _ ∧ _ ∧ _ ∧ _ ∧ AllLt _ _) => hl
    have e4 : List.take (min 10 c.length - 6) (List.drop 6 c) = bnds c := by rw [hc]; rfl
    rw [e4] at hI
    have hne := Nat.ne_of_lt (ktn_ltOf hl.2.2.2.2.2.2.2 (da, dob) hdm)
    k_here
    refine' Con.use (con_next _ _ _ _ _ _ _ _ dlo hdD hI (bnds_len hc) hne) ?k1 ?k2 ?k3 ?k4 ?k5 ?k6 ?k7 ?k8 ?k9 ?_
    (case k1 => k_asm)
    (case k2 => exact F3)
    (case k3 => k_asm)
    (case k4 => exact N3)
    (case k5 => k_asm)
    (case k6 => exact rfl)
    (case k7 => lia)
    (case k8 => lia)
    (case k9 => (refine' sub28 ?b1 ?b2; (case b1 => (repeat' (first | assumption | apply List.Mem.tail))); (case b2 => exact List.Mem.head _)))
    rintro r9 tl9 h9 tk9 F9 N9 ap9 st9 ⟨rfl, t9, rfl⟩
    refine mkC _ _ _ rfl F9 (kti_tail N9) off2 (Or.inr ⟨_, List.Mem.tail _ (List.Mem.tail _ (List.Mem.tail _ (List.Mem.head _))), rfl, _, rfl⟩) ⟨rfl, ?_⟩
    rw [map_range_succ]
    exact ints_snoc hy _ _
  · rintro ys2 news2 ex9
    apply exs_0_1 ex9
    clear ex9
    rintro hy D2 h2 tk2 F3 N3 o1
    exact Hold.of ⟨rfl, mks_6_5 _ _ _ D2 _ _ rfl F3 N3 (off1_mem o1) hy ⟨rfl, rfl, rfl, rfl, rfl, trivial⟩⟩
end

section -- round
theorem fresh_round {M : Model} {A : Around} {Q : Flow → Shared → Prop} {E : Value → Shared → Prop} {s : Shared} {env : Env} {pos : Pos} (h : wpAny M A (exec (.Pass pos) env) Q E s) : wpAny M A (exec (.Pass pos) env) Q E s := by
  w_top off
  first | (walk1; fail "fresh") | exact h
noncomputable def roundStep (T : Nat → KV) (st : Nat) (e : Int × Int × Nat) : Nat := if (decide (getK (T st) (keyS e.2.2) ≥ e.1) == false) != (st / 2 ^ e.2.2 % 2 == 0) then st ^^^ 2 ^ e.2.2 else st
noncomputable def roundN (T : Nat → KV) (ks : List (Int × Int × Nat)) (st : Nat) : Nat := ks.foldl (roundStep T) st
theorem xor_lt {a k : Nat} (ha : a < 16) (hk : k < 4) : a ^^^ 2 ^ k < 16 := Nat.xor_lt_two_pow (n := 4) ha (Nat.pow_lt_pow_right (by decide) hk)
theorem roundStep_lt {T : Nat → KV} {st : Nat} {e : Int × Int × Nat} (h : st < 16) (hk : e.2.2 < 4) : roundStep T st e < 16 := by
  unfold roundStep
  split
  · exact xor_lt h hk
  · exact h
theorem bit_and (x : Nat) : (((x &&& (1 : Int).toNat : Nat) : Int) == 0) = (x % 2 == 0) := by
  have e : x &&& (1 : Int).toNat = x % 2 := Nat.and_one_is_mod x
  rw [e]
  have h : x % 2 = 0 ∨ x % 2 = 1 := by lia
  rcases h with h | h <;> rw [h] <;> rfl
theorem roundN_succ {T : Nat → KV} {ks : List (Int × Int × Nat)} {j st : Nat} {e : Int × Int × Nat} (h : ks[j]? = some e) : roundN T (ks.take (j + 1)) st = roundStep T (roundN T (ks.take j) st) e := by
  unfold roundN
  rw [List.take_add_one, h, List.foldl_append]
  rfl
local macro_rules | `(tactic| walk_at "getMethod ref") => `(tactic| (k_here; k_dflt (refine' dict_mget ?k1 ?k2 ?k3 ?k4 ?_; (case k1 => k_asm); (case k2 => (repeat' (first | assumption | apply List.Mem.tail))); (case k3 => k_asm); (case k4 => k_asm))))
local macro_rules | `(tactic| walk_at "call builtin:dict.get") => `(tactic| (k_here; k_dflt (refine' dict_get ?k1 ?k2 ?k3 ?k4 ?_; (case k1 => k_asm); (case k2 => (repeat' (first | assumption | apply List.Mem.tail))); (case k3 => k_asm); (case k4 => k_asm)); intro t'))
theorem con_round (w : World) (T l : Addr) (ts ln : Led) (kk kl : Nat) (KVs : Nat → KV) (st : Nat) (tk : Tok) (hl1 : ts.length = 16) (hts : ∀ (j : Nat) (q : Addr × Obj), ts[j]? = some q → IsDict w q (KVs j))
    (ks : List (Int × Int × Nat)) (hln : ln.length = ks.length) (hks : ∀ (j : Nat) (q : Addr × Obj), ln[j]? = some q → ∃ b n k t1 t2 t3 kq, ks[j]? = some (b, n, k) ∧ k < 4 ∧ q.2 = tup #[.int b t1, .int n t2, .int ((k : Nat) : Int) t3] kq)  (s1 : st < 16) :
    Con w 1 162 [.ref T, .ref l, .int (st : Int) tk] ((T, W.listOf (ts.map fun q => Value.ref q.1).toArray kk) :: (l, W.listOf (ln.map fun q => Value.ref q.1).toArray kl) :: (ts ++ ln)) (fun v tl => tl = [] ∧ ∃ t, v = .int ((roundN KVs ks st : Nat) : Int) t) := by
  walk_at "con plain"
  rename_i p loose mean mg mb dp un gd outer A₀ base g L h0 tk0 s B F X N TT hdp hun l1
  walk_at "go"
  rename Fr _ _ _ _ => F1
  k_here
  (with_unfolding_all refine' For_turns F1 ?_)
  walk_at "go"
  rename Fr _ _ _ _ => F1
  rename News _ _ _ _ => N1
  refine' iter_listTurns (n := kl) (vs := ln.map fun q => Value.ref q.1) (lo := W.listOf (ln.map fun q => Value.ref q.1).toArray kl) ?q1 ?q2 ?q3 ?q4 ?q5 ?q6 ?_
  (case q1 => rfl)
  (case q2 => exact F1)
  (case q3 => exact N1)
  (case q4 => exact List.Mem.tail _ (List.Mem.head _))
  (case q5 => rfl)
  (case q6 => rfl)
  intro I hI
  k_lt hI
  have haI : ∀ q ∈ ts ++ ln, q.1 ≠ I := fun q hq => Nat.ne_of_lt (ktn_ltOf hI.2.2 q hq)
  refine items_inv (fun xs m' n' => Hold (∃ j st' t, n' = (T, W.listOf (ts.map fun q => Value.ref q.1).toArray kk) :: (l, W.listOf (ln.map fun q => Value.ref q.1).toArray kl) :: (ts ++ ln) ∧ j ≤ ks.length ∧ xs = ((ln.drop j).map fun q => Itm.val (Value.ref q.1)) ∧ st' = roundN KVs (ks.take j) st ∧ st' < 16 ∧ HasL m' [("tables", .ref T), ("state", .int ((st' : Nat) : Int) t)])) ?_ ?_ _ _ _ ?_
  · clear F1 N1
    rintro a r m' n' v h tk2 ex9
    apply exs_3_5 ex9
    clear ex9
    rintro j st' t hj ex hst hst16 m1 hv F1
    cases hd : ln.drop j with
    | nil => rw [hd] at ex; cases ex
    | cons q rest =>
      rw [hd] at ex
      have e1 := (List.cons.inj ex).1
      have e2 := (List.cons.inj ex).2
      subst e1
      have e3 : v = Value.ref q.1 := hv
      subst e3
      have hjl : j < ln.length := by
        have := congrArg List.length hd
        simp at this
        lia
      have hd2 := List.drop_eq_getElem_cons hjl
      rw [hd] at hd2
      have e4 := (List.cons.inj hd2).1
      have e5 := (List.cons.inj hd2).2
      have hqj : ln[j]? = some q := by rw [List.getElem?_eq_getElem hjl, e4]
      refine ex_7 (hks j q hqj) ?_
      intro b n k t1 t2 t3 kq h9
      have hkj := h9.1
      have hk4 := h9.2.1
      have eq := h9.2.2
      clear h9
      rcases q with ⟨qa, qo⟩
      have eq' : qo = tup #[.int b t1, .int n t2, .int ((k : Nat) : Int) t3] kq := eq
      subst eq'
      clear eq
      have hqm : (qa, tup #[.int b t1, .int n t2, .int ((k : Nat) : Int) t3] kq) ∈ ts ++ ln := List.mem_append_right _ (List.mem_of_getElem? hqj)
      refine ex_2 (show ∃ da dob, ts[st']? = some (da, dob) from ⟨_, _, List.getElem?_eq_getElem (by lia)⟩) ?_
      intro da dob hdj
      have dlo := (hts _ _ hdj).1
      have hdD := (hts _ _ hdj).2
      have hdm : (da, dob) ∈ ts ++ ln := List.mem_append_left _ (List.mem_of_getElem? hdj)
      have hget : (ts.map fun q => Value.ref q.1)[((st' : Nat) : Int).toNat]? = some (.ref da) := by
        show (ts.map fun q => Value.ref q.1)[st']? = _
        rw [List.getElem?_map, hdj]
        rfl
      refine AllObj.cons (fun oI hcI => AllObj.nil (fun N1 => ?_))
      simp only [List.cons_append, List.nil_append] at N1
      replace F1 := fr_canons F1 m1
      dsimp only [canonM] at F1
      have hT2 : IsTup h qa #[.int b t1, .int n t2, .int ((k : Nat) : Int) t3] := ⟨_, (N1 _ (List.Mem.tail _ (List.Mem.tail _ (List.Mem.tail _ hqm)))).1, rfl, _, rfl⟩
      have hb1 : st' / 2 ^ k ≤ 15 := Nat.le_trans (Nat.div_le_self _ _) (by lia)
      have hb2 : 2 ^ k ≤ 8 := by
        have h2 : k = 0 ∨ k = 1 ∨ k = 2 ∨ k = 3 := by lia
        rcases h2 with e | e | e | e <;> subst e <;> decide
      have hb3 : (1 : Int) * 2 ^ ((k : Nat) : Int).toNat = ((2 ^ k : Nat) : Int) := by
        rw [Int.one_mul]
        show (2 : Int) ^ k = _
        simp
      have hx0 : (0 : Int) ≤ 1 * 2 ^ ((k : Nat) : Int).toNat := by rw [hb3]; exact Int.natCast_nonneg _
      have hx1 : (1 : Int) * 2 ^ ((k : Nat) : Int).toNat ≤ 15 := by rw [hb3]; exact Int.ofNat_le.mpr (Nat.le_trans hb2 (by decide))
      have hx2 : (((((st' : Nat) : Int).toNat / 2 ^ ((k : Nat) : Int).toNat : Nat)) : Int) ≤ 15 := Int.ofNat_le.mpr hb1
      have hx3 : 0 ≤ (((((st' : Nat) : Int).toNat / 2 ^ ((k : Nat) : Int).toNat : Nat)) : Int) := Int.natCast_nonneg _
      walk_at "go"
      · rename _ = true => hq
        rename Fr _ _ _ _ => F3
        rename News _ _ _ _ => N3
        have hq2 : ((decide (getK (KVs st') (Txt.item (PySem.Str.ofString "abcd") ((k : Nat) : Int)) ≥ b) == false) != (((st' / 2 ^ k &&& (1 : Int).toNat : Nat) : Int) == 0)) = true := hq
        rw [key_item hk4, bit_and] at hq2
        have e6 : (((((st' : Nat) : Int).toNat ^^^ ((1 : Int) * 2 ^ ((k : Nat) : Int).toNat).toNat : Nat)) : Int) = ((roundN KVs (ks.take (j + 1)) st : Nat) : Int) := by
          rw [roundN_succ hkj, ← hst, hb3]
          show ((st' ^^^ 2 ^ k : Nat) : Int) = _
          unfold roundStep
          rw [if_pos hq2]
        refine mkW _ _ _ _ rfl F3 N3 (fun x hx y hy => ?_) ⟨⟨List.Mem.tail _ (List.Mem.head _), trivial⟩, Hold.of (mks_3_5 (j + 1) _ _ rfl (by lia) (by rw [← e5]; exact e2) rfl ?_ ⟨rfl, some_int e6, trivial⟩)⟩
        · rw [List.mem_singleton.mp hy]
          exact off1 hI.1 (off1 hI.2.1 haI) x hx
        · rw [roundN_succ hkj, ← hst]
          exact roundStep_lt hst16 hk4
      · rename _ = false => hq
        rename Fr _ _ _ _ => F3
        rename News _ _ _ _ => N3
        have hq2 : ((decide (getK (KVs st') (Txt.item (PySem.Str.ofString "abcd") ((k : Nat) : Int)) ≥ b) == false) != (((st' / 2 ^ k &&& (1 : Int).toNat : Nat) : Int) == 0)) = false := hq
        rw [key_item hk4, bit_and] at hq2
        have e6 : ((st' : Nat) : Int) = ((roundN KVs (ks.take (j + 1)) st : Nat) : Int) := by
          rw [roundN_succ hkj, ← hst]
          unfold roundStep
          rw [if_neg (by rw [hq2]; decide)]
        refine mkW _ _ _ _ rfl F3 N3 (fun x hx y hy => ?_) ⟨⟨List.Mem.tail _ (List.Mem.head _), trivial⟩, Hold.of (mks_3_5 (j + 1) _ _ rfl (by omega) (by rw [← e5]; exact e2) rfl ?_ ⟨rfl, some_int e6, trivial⟩)⟩
        · rw [List.mem_singleton.mp hy]
          exact off1 hI.1 (off1 hI.2.1 haI) x hx
        · rw [roundN_succ hkj, ← hst]
          exact roundStep_lt hst16 hk4
  · clear F1 N1
    rintro m' n' h tk2 ex9
    apply exs_3_5 ex9
    clear ex9
    rintro j st' t hj ex hst hst16 m1 F1 N1
    replace F1 := fr_canons F1 m1
    dsimp only [canonM] at F1
    have ej : ks.take j = ks := by
      have h1 := congrArg List.length ex
      simp at h1
      exact List.take_of_length_le (by lia)
    rw [ej] at hst
    subst hst
    walk_at "go"
    dsimp only
    exact mkD _ _ ([]) F1 N1 (fun _ h => nomatch h) ⟨rfl, t, rfl⟩ _ _ rfl
  · exact Hold.of (mks_3_5 0 st _ rfl (Nat.zero_le _) (by rw [List.drop_zero, List.map_map]; rfl) rfl s1 ⟨rfl, rfl, trivial⟩)
end

section -- seg9
theorem fresh_seg9 {M : Model} {A : Around} {Q : Flow → Shared → Prop} {E : Value → Shared → Prop} {s : Shared} {env : Env} {pos : Pos} (h : wpAny M A (exec (.Pass pos) env) Q E s) : wpAny M A (exec (.Pass pos) env) Q E s := by
  w_top off
  first | (walk1; fail "fresh") | exact h
local macro_rules | `(tactic| walk_at "halt") => `(tactic| (with_reducible show wpAny _ _ (call (Value.ref 162) _) _ _ _))
theorem seg9 (w : World) (p : Program) (loose : List PySem.Str) (mean : ExcName → Option Value) (mg mb : PySem.Str → Option Value) (dp un : Nat) (gd : Option (List Code)) (outer : List Env) (fa : Addr) (fcd : Value) (A₀ : Around) (base g : Heap) (L : Addr) (s : Shared) (E : Value → Shared → Prop) (h : Heap) (tk : Nat) (m : LMap) (rest : Led)
    (B : Below A₀ base outer g) (X : (hdtop.heap_39 w.params).In g) (T : Top p loose mean mg mb g) (hdp : dp + 10 < recursionLimit) (hun : un + 200 < cLine) (F : Fr g L h m) (sc R Kp Nm Ld Ln T9 : Addr) (kl kt : Nat) (ts ln : Led) (K : Nat → KV) (hlen : ts.length = 16) (hts : ∀ (i : Nat) (q : Addr × Obj), ts[i]? = some q → IsDict w q (K i)) (ks : List (Int × Int × Nat)) (hln : ln.length = ks.length) (hks : ∀ (j : Nat) (q : Addr × Obj), ln[j]? = some q → ∃ b n k t1 t2 t3 kq, ks[j]? = some (b, n, k) ∧ k < 4 ∧ q.2 = tup #[.int b t1, .int n t2, .int ((k : Nat) : Int) t3] kq)
    (o1 o3 : Obj) (hc1 : o1.data = .cell (some (.ref T9))) (hc3 : o3.data = .cell (some (.ref Ln))) (hsub : ∀ q ∈ ln, q ∈ rest)
    (N : News g L h ((L + 1 + 1, o1) :: (L + 1 + 1 + 1 + 1, o3) :: (T9, W.listOf (ts.map fun q => Value.ref q.1).toArray kt) :: (Ln, W.listOf (ln.map fun q => Value.ref q.1).toArray kl) :: (ts ++ rest))) (hm : HasL m [("script", .ref sc), ("rows", .ref R), ("kept", .ref Kp), ("names", .ref Nm), ("leads", .ref Ld)]) :
    wpAny (model PySem.Challenge.rw_jc0016_01.row.prog w) (lawA dp un gd L fa fcd outer) (exec (lawS 8) (lawE L fa fcd)) (fun f s' => Hold (f = .next ∧ ∃ h' tk' m' Rd vs kn, s' = { s with heap := h', toks := tk' } ∧ Fr g L h' m' ∧ News g L h' ((Rd, W.listOf vs.toArray kn) :: (L + 1 + 1, o1) :: (L + 1 + 1 + 1 + 1, o3) :: (T9, W.listOf (ts.map fun q => Value.ref q.1).toArray kt) :: (Ln, W.listOf (ln.map fun q => Value.ref q.1).toArray kl) :: (ts ++ rest)) ∧ (∀ q ∈ (L + 1 + 1, o1) :: (L + 1 + 1 + 1 + 1, o3) :: (T9, W.listOf (ts.map fun q => Value.ref q.1).toArray kt) :: (Ln, W.listOf (ln.map fun q => Value.ref q.1).toArray kl) :: (ts ++ rest), q.1 ≠ Rd) ∧
      IntsAre vs ((List.range 16).map fun i => ((roundN K ks i : Nat) : Int)) ∧ HasL m' [("script", .ref sc), ("rows", .ref R), ("kept", .ref Kp), ("names", .ref Nm), ("leads", .ref Ld), ("rounds", .ref Rd)])) E { s with heap := h, toks := tk } := by
  show wpAny _ (ktrTop _ _ _ _ ⟨_, [_, _, _, _, _, _, _, _, _, _, _, _, _, _, _, _, _, _, _, _, _, _, _, _], _, _, _⟩ _ _ _ (cellsFrom _ [_, _, _, _, _, _, _, _, _, _, _, _, _, _, _, _, _, _, _, _, _, _, _, _] _) _) (exec (Stmt.Assign _ _ _) (envOfC _ ⟨_, [_, _, _, _, _, _, _, _, _, _, _, _, _, _, _, _, _, _, _, _, _, _, _, _], _, _, _⟩ _ _ _)) _ _ _
  replace F := fr_canons F hm
  dsimp only [canonM] at F
  k_here
  refine LCg.Assign_ListComp_U (F₀ := F) (by rfl) (by with_unfolding_all rfl) (by with_unfolding_all rfl) (by decide) (by rfl) (by decide) (by rfl) (by rfl) (by rfl) ?_
  walk_at "goc"
  rename IsRange _ _ _ _ _ _ _ _ => R2
  rename Fr _ _ _ _ => F2
  rename News _ _ _ _ => N2
  refine LCg.CompSrc.range (n := 16) (by rfl) F2 N2 R2 (by decide) (by decide) (by decide) ?_
  intro g'
  refine comp_inv (n := 16) (fun j ys2 news2 => news2 = (L + 1 + 1, o1) :: (L + 1 + 1 + 1 + 1, o3) :: (T9, W.listOf (ts.map fun q => Value.ref q.1).toArray kt) :: (Ln, W.listOf (ln.map fun q => Value.ref q.1).toArray kl) :: (ts ++ rest) ∧ IntsAre ys2 ((List.range j).map fun i => ((roundN K ks i : Nat) : Int))) ?_ ?_ 16 0 [] _ rfl ⟨rfl, .nil⟩
  · clear F2 N2
    rintro j v I2 oI2 C2 oC2 D2 m2 ys2 news2 h2 tk2 E2 hj ex9
    apply exs_0_1 ex9
    clear ex9
    rintro hy ⟨tj, rfl⟩ hC2 hx2 F1 N1 off2 ne2
    simp only [Int.zero_add] at hx2
    walk_at "goc"
    rename Fr _ _ _ _ => F3
    rename News _ _ _ _ => N3
    k_here
    refine' Con.use (con_round _ _ _ ts ln kt kl K j _ hlen hts ks hln hks hj) ?k1 ?k2 ?k3 ?k4 ?k5 ?k6 ?k7 ?k8 ?k9 ?_
    (case k1 => k_asm)
    (case k2 => exact F3)
    (case k3 => k_asm)
    (case k4 => exact N3)
    (case k5 => k_asm)
    (case k6 => exact rfl)
    (case k7 => lia)
    (case k8 => lia)
    (case k9 =>
      intro q hq
      simp only [List.mem_cons, List.mem_append] at hq ⊢
      rcases hq with hq | hq | hq | hq
      · simp [hq]
      · simp [hq]
      · simp [hq]
      · have := hsub q hq
        simp [this])
    rintro r9 tl9 h9 tk9 F9 N9 ap9 st9 ⟨rfl, t9, rfl⟩
    refine mkC _ _ _ rfl F9 N9 off2 trivial ⟨rfl, ?_⟩
    rw [map_range_succ]
    exact ints_snoc hy _ _
  · rintro ys2 news2 ex9
    apply exs_0_1 ex9
    clear ex9
    rintro hy D2 h2 tk2 F3 N3 o1
    exact Hold.of ⟨rfl, mks_6_5 _ _ _ D2 _ _ rfl F3 N3 (off1_mem o1) hy ⟨rfl, rfl, rfl, rfl, rfl, rfl, trivial⟩⟩
end

section -- far
theorem fresh_far {M : Model} {A : Around} {Q : Flow → Shared → Prop} {E : Value → Shared → Prop} {s : Shared} {env : Env} {pos : Pos} (h : wpAny M A (exec (.Pass pos) env) Q E s) : wpAny M A (exec (.Pass pos) env) Q E s := by
  w_top off
  first | (walk1; fail "fresh") | exact h
noncomputable def sqL (ns : List Int) : List Int := (List.range 16).map fun i => ns.getD (ns.getD i 0).toNat 0
noncomputable def farI : Nat → List Int → List Int
  | 0, ns => ns
  | k + 1, ns => sqL (farI k ns)
theorem sqL_len (ns : List Int) : (sqL ns).length = 16 := by simp [sqL]
theorem farI_len {ns : List Int} (h : ns.length = 16) : ∀ k, (farI k ns).length = 16
  | 0 => h
  | _ + 1 => sqL_len _
theorem bd_getD {ns : List Int} (h : ∀ x ∈ ns, 0 ≤ x ∧ x < 16) (i : Nat) : 0 ≤ ns.getD i 0 ∧ ns.getD i 0 < 16 := by
  rw [List.getD_eq_getElem?_getD]
  cases e : ns[i]? with
  | none => simp
  | some x => exact h x (List.mem_of_getElem? e)
theorem sqL_bd {ns : List Int} (h : ∀ x ∈ ns, 0 ≤ x ∧ x < 16) : ∀ x ∈ sqL ns, 0 ≤ x ∧ x < 16 := by
  intro x hx
  obtain ⟨i, _, rfl⟩ := List.mem_map.mp hx
  exact bd_getD h _
theorem farI_bd {ns : List Int} (h : ∀ x ∈ ns, 0 ≤ x ∧ x < 16) : ∀ k, ∀ x ∈ farI k ns, 0 ≤ x ∧ x < 16
  | 0 => h
  | k + 1 => sqL_bd (farI_bd h k)
theorem bd_lt {ns : List Int} (h : ∀ x ∈ ns, 0 ≤ x ∧ x < 16) (e : ns.length = 16) (i : Nat) : ns.getD i 0 < (ns.length : Int) := by
  have := bd_getD h i
  lia
theorem sq_map (ns : List Int) : List.map (fun k' : Int => ns.getD (ns.getD k'.toNat 0).toNat 0) (rangeKs 0 (16 - 0 : Int).toNat) = sqL ns := rfl
local macro_rules | `(tactic| walk_at "subscriptTail Name Subscript ref int") => `(tactic| (k_here; k_dflt (refine' item_ints ?k1 ?k2 ?k3 ?k4 ?k5 ?k7 ?k8 ?k0 ?_ ?ka ?kb; (case k1 => k_asm); (case k2 => k_mem); (case k3 => exact rfl); (case k4 => exact rfl); (case k5 => assumption); (case k7 => exact (bd_getD (by assumption) _).1); (case k8 => exact bd_lt (by assumption) (by assumption) _); (case k0 => omega); (case ka => with_unfolding_all rfl); (case kb => intro _; with_unfolding_all rfl)); intro t'))
theorem con_far (w : World) (l : Addr) (k : Nat) (vs : List Value) (ns : List Int) (hv : IntsAre vs ns) (hl : ns.length = 16) (hb : ∀ x ∈ ns, 0 ≤ x ∧ x < 16) : Con w 0 181 [.ref l] [(l, W.listOf vs.toArray k)]
    (fun v tl => ∃ D vs2 k2, v = .ref D ∧ tl = [(D, W.listOf vs2.toArray k2)] ∧ IntsAre vs2 (farI 4 ns)) := by
  walk_at "con cells"
  rename_i p loose mean mg mb dp un gd outer A₀ base g L h0 tk0 s B F X T hdp hun l1 o hcell N
  walk_at "go"
  rename Fr _ _ _ _ => F1
  rename News _ _ _ _ => N1
  (with_unfolding_all refine' For_invVF F1 ?k1 ?k2 ?_; (case k1 => exact rfl); (case k2 => exact rfl))
  walk_at "go"
  rename IsRange _ _ _ _ _ _ _ _ => R1
  rename Fr _ _ _ _ => F1
  rename News _ _ _ _ => N1
  replace N1 := cb_drop (news := [(L + 1, o), (l, W.listOf vs.toArray k), (l, W.listOf vs.toArray k)]) N1 (by kcj_all)
  refine iter_rangeUnr (n := 4) rfl R1 (by decide) (by decide) F1 N1 ?_
  intro I hI1
  k_lt hI1
  refine range_inv (fun i m' n' => Hold (∃ o D vs2 k2, n' = [(L + 1, o), (D, W.listOf vs2.toArray k2), (l, W.listOf vs.toArray k)] ∧ o.data = .cell (some (.ref D)) ∧ IntsAre vs2 (farI i ns) ∧ (@Ne Nat D (L + 1)) ∧ (@Ne Nat D I) ∧ (i = 0 ∨ @Ne Nat D l))) ?_ ?_ 4 0 _ _ (by lia) ?_
  · clear F1 N1 R1
    rintro i m' n' ti h tk hi ex9
    apply exs_4_5 ex9
    clear ex9
    intro o2 D vs2 k2 hc2 hv2 hD1 hD2 hD3 F1 N1
    have hlen := farI_len hl i
    have hbd := farI_bd hb i
    walk_at "go free"
    rename IntsAre _ (List.map _ _) => hI8
    rename (_ ∧ _ ∧ _ ∧ _) => o1
    rename Fr _ _ _ _ => F3
    rename News _ _ _ _ => N3
    rw [sq_map] at hI8
    exact ⟨_, _, _, [(L + 1, _), (_, W.listOf _ _), (l, W.listOf vs.toArray k)], rfl, F3, cb_drop N3 (by kcj_all), (fun q hq => by
      rcases List.mem_cons.mp hq with rfl | hq
      · exact Nat.ne_of_lt hI1.1
      rcases List.mem_cons.mp hq with rfl | hq
      · exact o1.1.symm
      rw [List.mem_singleton.mp hq]
      exact Nat.ne_of_lt hI1.2.2), Hold.of (mks_4_5 _ _ _ _ rfl (by assumption) hI8 o1.2.1.symm o1.1.symm (Or.inr o1.2.2.2.symm))⟩
  · clear F1 N1 R1
    rintro m' n' h tk ex9
    apply exs_4_5 ex9
    clear ex9
    intro o2 D vs2 k2 hc2 hv2 hD1 hD2 hD3 F1 N1
    walk_at "go"
    dsimp only
    exact ⟨_, _, [(D, W.listOf vs2.toArray k2)], F1, cb_drop N1 (by kcj_all), (fun q hq r hr => by
      rw [List.mem_singleton.mp hq, List.mem_singleton.mp hr]
      exact (hD3.resolve_left (by decide)).symm), ⟨_, _, _, rfl, rfl, hv2⟩, _, _, rfl⟩
  · exact Hold.of (mks_4_5 o l vs k rfl hcell hv (Nat.ne_of_lt (Nat.lt_succ_of_lt l1)) (Nat.ne_of_lt hI1.2.1) (Or.inl rfl))
end

section -- seg10
theorem fresh_seg10 {M : Model} {A : Around} {Q : Flow → Shared → Prop} {E : Value → Shared → Prop} {s : Shared} {env : Env} {pos : Pos} (h : wpAny M A (exec (.Pass pos) env) Q E s) : wpAny M A (exec (.Pass pos) env) Q E s := by
  w_top off
  first | (walk1; fail "fresh") | exact h
local macro_rules | `(tactic| walk_at "subscriptTail Name Subscript ref int") => `(tactic| (k_here; k_dflt (refine' item_ints ?k1 ?k2 ?k3 ?k4 ?k5 ?k7 ?k8 ?k0 ?_ ?ka ?kb; (case k1 => k_asm); (case k2 => (repeat' (first | exact List.Mem.head _ | apply List.Mem.tail))); (case k3 => exact rfl); (case k4 => exact rfl); (case k5 => assumption); (case k7 => exact (bd_getD (by assumption) _).1); (case k8 => (refine bd_lt ?_ ?_ _ <;> assumption)); (case k0 => omega); (case ka => with_unfolding_all rfl); (case kb => intro _; with_unfolding_all rfl)); intro t'))
local macro_rules | `(tactic| walk_at "call ref") => `(tactic| (k_here; (with_reducible show wpAny _ _ (call (Value.ref 181) _) _ _ _)))
local macro_rules | `(tactic| walk_at "halt") => `(tactic| (with_reducible show wpAny _ _ (call (Value.ref 181) _) _ _ _))
theorem ints_split : ∀ {vs : List Value} {ns : List Int} {v : Value} {r : List Value}, IntsAre vs ns → ∀ {j : Nat}, vs.drop j = v :: r → j < ns.length ∧ (∃ t, v = .int (ns.getD j 0) t) ∧ r = vs.drop (j + 1) := fun {vs ns v r} hi {j} e => by
  have hl : vs.length = ns.length := hi.length
  have hj : j < vs.length := by
    have := congrArg List.length e
    simp at this
    omega
  have e2 := List.drop_eq_getElem_cons hj
  rw [e] at e2
  have e3 := (List.cons.inj e2).1
  have e4 := (List.cons.inj e2).2
  obtain ⟨t, et⟩ := ints_at hi (i := j) (by lia)
  rw [List.getElem?_eq_getElem hj] at et
  exact ⟨by omega, ⟨t, by rw [e3]; exact Option.some.inj et⟩, e4⟩
theorem seg10 (w : World) (p : Program) (loose : List PySem.Str) (mean : ExcName → Option Value) (mg mb : PySem.Str → Option Value) (dp un : Nat) (gd : Option (List Code)) (outer : List Env) (fa : Addr) (fcd : Value) (A₀ : Around) (base g : Heap) (L : Addr) (s : Shared) (E : Value → Shared → Prop) (h : Heap) (tk : Nat) (m : LMap) (rest : Led)
    (B : Below A₀ base outer g) (X : (hdtop.heap_39 w.params).In g) (T : Top p loose mean mg mb g) (hdp : dp + 10 < recursionLimit) (hun : un + 200 < cLine) (F : Fr g L h m) (sc R Kp Nm Ld Rd : Addr) (kn : Nat) (us : List Value) (ns : List Int) (hv : IntsAre us ns) (hl : ns.length = 16) (hb : ∀ x ∈ ns, 0 ≤ x ∧ x < 16) (hP : ∀ x ∈ farI 4 ns, ns.getD (ns.getD x.toNat 0).toNat 0 = x)
    (N : News g L h ((Ld, W.listOf us.toArray kn) :: rest)) (hm : HasL m [("script", .ref sc), ("rows", .ref R), ("kept", .ref Kp), ("names", .ref Nm), ("leads", .ref Ld), ("rounds", .ref Rd)]) :
    wpAny (model PySem.Challenge.rw_jc0016_01.row.prog w) (lawA dp un gd L fa fcd outer) (exec (lawS 9) (lawE L fa fcd)) (fun f s' => Hold (f = .next ∧ ∃ h' tk' m', s' = { s with heap := h', toks := tk' } ∧ Fr g L h' m' ∧ News g L h' ((Ld, W.listOf us.toArray kn) :: rest) ∧ HasL m' [("script", .ref sc), ("rows", .ref R), ("kept", .ref Kp), ("names", .ref Nm), ("leads", .ref Ld), ("rounds", .ref Rd)])) (fun _ _ => False) { s with heap := h, toks := tk } := by
  show wpAny _ (ktrTop _ _ _ _ ⟨_, [_, _, _, _, _, _, _, _, _, _, _, _, _, _, _, _, _, _, _, _, _, _, _, _], _, _, _⟩ _ _ _ (cellsFrom _ [_, _, _, _, _, _, _, _, _, _, _, _, _, _, _, _, _, _, _, _, _, _, _, _] _) _) (exec (Stmt.For _ _ _ _ _) (envOfC _ ⟨_, [_, _, _, _, _, _, _, _, _, _, _, _, _, _, _, _, _, _, _, _, _, _, _, _], _, _, _⟩ _ _ _)) _ _ _
  replace F := fr_canons F hm
  dsimp only [canonM] at F
  k_here
  (with_unfolding_all refine' For_invVF F ?k1 ?k2 ?_; (case k1 => exact rfl); (case k2 => exact rfl))
  walk_at "go"
  rename Fr _ _ _ _ => F1
  rename News _ _ _ _ => N1
  refine' Con.use (con_far w Ld kn us ns hv hl hb) ?k1 ?k2 ?k3 ?k4 ?k5 ?k6 ?k7 ?k8 ?k9 ?_
  (case k1 => k_asm)
  (case k2 => exact F1)
  (case k3 => k_asm)
  (case k4 => exact N1)
  (case k5 => k_asm)
  (case k6 => exact rfl)
  (case k7 => lia)
  (case k8 => lia)
  (case k9 => exact fun q hq => by rw [List.mem_singleton.mp hq]; exact List.Mem.head _)
  rintro r9 tl9 h9 tk9 F9 N9 ap9 st9 ⟨D, vs2, k2, rfl, rfl, hv2⟩
  simp only [List.cons_append, List.nil_append] at N9
  clear F1 N1 st9
  walk_at "go"
  refine' iter_listUnr (n := k2) (vs := vs2) ?q1 ?q2 ?q3 ?q4 ?q5 ?q6 ?_
  (case q1 => rfl)
  (case q2 => exact F9)
  (case q3 => exact N9)
  (case q4 => exact List.Mem.head _)
  (case q5 => rfl)
  (case q6 => rfl)
  intro I hI
  have hl2 := farI_len hl 4
  have hb2 := farI_bd hb 4
  refine list_inv (fun r m' n' => Hold (∃ j, n' = (D, W.listOf vs2.toArray k2) :: (Ld, W.listOf us.toArray kn) :: rest ∧ r = vs2.drop j ∧ HasL m' [("script", .ref sc), ("rows", .ref R), ("kept", .ref Kp), ("names", .ref Nm), ("leads", .ref Ld), ("rounds", .ref Rd)])) ?_ ?_ _ _ _ ?_
  · clear F9 N9
    rintro v r m' n' it h tk2 ex9
    apply exs_1_2 ex9
    clear ex9
    rintro j er m1 hit F1 N1
    obtain ⟨hj, ⟨t, rfl⟩, er2⟩ := ints_split hv2 er.symm
    generalize hx : (farI 4 ns).getD j 0 = x at *
    have hxm : x ∈ farI 4 ns := by
      rw [← hx, List.getD_eq_getElem?_getD, List.getElem?_eq_getElem hj]
      exact List.getElem_mem hj
    have hx1 := hb2 x hxm
    have hx2 := hP x hxm
    have m2 : HasL (fun y => if y = PySem.Str.ofString "end" then some (.int x t) else m' y) [("script", .ref sc), ("rows", .ref R), ("kept", .ref Kp), ("names", .ref Nm), ("leads", .ref Ld), ("rounds", .ref Rd), ("end", .int x t)] := ⟨m1.1, m1.2.1, m1.2.2.1, m1.2.2.2.1, m1.2.2.2.2.1, m1.2.2.2.2.2.1, rfl, trivial⟩
    replace F1 := fr_canons F1 m2
    dsimp only [canonM] at F1
    walk_at "go"
    · rename _ ≠ x => hne
      exact absurd hx2 hne
    · rename Fr _ _ _ _ => F3
      rename News _ _ _ _ => N3
      exact mkU _ _ _ _ rfl F3 N3 (fun q hq => Nat.ne_of_lt (hI q hq)) ⟨List.Mem.head _, Hold.of (mks_1_2 (j + 1) rfl er2 ⟨rfl, rfl, rfl, rfl, rfl, rfl, trivial⟩)⟩
  · clear F9 N9
    rintro m' n' h tk2 ex9
    apply exs_1_2 ex9
    clear ex9
    rintro j er m1 F1 N1
    exact Hold.of ⟨rfl, mks_3_3 _ _ _ rfl F1 (kti_tail N1) m1⟩
  · exact Hold.of (mks_1_2 0 rfl rfl ⟨rfl, rfl, rfl, rfl, rfl, rfl, trivial⟩)
end

section -- seg11
theorem fresh_seg11 {M : Model} {A : Around} {Q : Flow → Shared → Prop} {E : Value → Shared → Prop} {s : Shared} {env : Env} {pos : Pos} (h : wpAny M A (exec (.Pass pos) env) Q E s) : wpAny M A (exec (.Pass pos) env) Q E s := by
  w_top off
  first | (walk1; fail "fresh") | exact h
local macro_rules | `(tactic| walk_at "subscriptTail Name Subscript ref int") => `(tactic| (k_here; k_dflt (refine' item_ints ?k1 ?k2 ?k3 ?k4 ?k5 ?k7 ?k8 ?k0 ?_ ?ka ?kb; (case k1 => k_asm); (case k2 => (repeat' (first | exact List.Mem.head _ | apply List.Mem.tail))); (case k3 => exact rfl); (case k4 => exact rfl); (case k5 => assumption); (case k7 => exact (bd_getD (by assumption) _).1); (case k8 => (refine bd_lt ?_ ?_ _ <;> assumption)); (case k0 => lia); (case ka => with_unfolding_all rfl); (case kb => intro _; with_unfolding_all rfl)); intro t'))
local macro_rules | `(tactic| walk_at "call ref") => `(tactic| (k_here; (with_reducible show wpAny _ _ (call (Value.ref 181) _) _ _ _)))
local macro_rules | `(tactic| walk_at "halt") => `(tactic| (with_reducible show wpAny _ _ (call (Value.ref 181) _) _ _ _))
theorem seg11 (w : World) (p : Program) (loose : List PySem.Str) (mean : ExcName → Option Value) (mg mb : PySem.Str → Option Value) (dp un : Nat) (gd : Option (List Code)) (outer : List Env) (fa : Addr) (fcd : Value) (A₀ : Around) (base g : Heap) (L : Addr) (s : Shared) (E : Value → Shared → Prop) (h : Heap) (tk : Nat) (m : LMap) (rest : Led)
    (B : Below A₀ base outer g) (X : (hdtop.heap_39 w.params).In g) (T : Top p loose mean mg mb g) (hdp : dp + 10 < recursionLimit) (hun : un + 200 < cLine) (F : Fr g L h m) (sc R Kp Nm Ld Rd : Addr) (kn kr : Nat) (us ur : List Value) (ns rs : List Int) (hv : IntsAre us ns) (hl : ns.length = 16) (hvr : IntsAre ur rs) (hlr : rs.length = 16) (hb : ∀ x ∈ rs, 0 ≤ x ∧ x < 16) (hP : ∀ x ∈ farI 4 rs, ns.getD x.toNat 0 = x)
    (N : News g L h ((Rd, W.listOf ur.toArray kr) :: (Ld, W.listOf us.toArray kn) :: rest)) (hm : HasL m [("script", .ref sc), ("rows", .ref R), ("kept", .ref Kp), ("names", .ref Nm), ("leads", .ref Ld), ("rounds", .ref Rd)]) :
    wpAny (model PySem.Challenge.rw_jc0016_01.row.prog w) (lawA dp un gd L fa fcd outer) (exec (lawS 10) (lawE L fa fcd)) (fun f s' => Hold (f = .next ∧ ∃ h' tk' m', s' = { s with heap := h', toks := tk' } ∧ Fr g L h' m' ∧ News g L h' ((Rd, W.listOf ur.toArray kr) :: (Ld, W.listOf us.toArray kn) :: rest) ∧ HasL m' [("script", .ref sc), ("rows", .ref R), ("kept", .ref Kp), ("names", .ref Nm), ("leads", .ref Ld), ("rounds", .ref Rd)])) (fun _ _ => False) { s with heap := h, toks := tk } := by
  show wpAny _ (ktrTop _ _ _ _ ⟨_, [_, _, _, _, _, _, _, _, _, _, _, _, _, _, _, _, _, _, _, _, _, _, _, _], _, _, _⟩ _ _ _ (cellsFrom _ [_, _, _, _, _, _, _, _, _, _, _, _, _, _, _, _, _, _, _, _, _, _, _, _] _) _) (exec (Stmt.For _ _ _ _ _) (envOfC _ ⟨_, [_, _, _, _, _, _, _, _, _, _, _, _, _, _, _, _, _, _, _, _, _, _, _, _], _, _, _⟩ _ _ _)) _ _ _
  replace F := fr_canons F hm
  dsimp only [canonM] at F
  k_here
  (with_unfolding_all refine' For_invVF F ?k1 ?k2 ?_; (case k1 => exact rfl); (case k2 => exact rfl))
  walk_at "go"
  rename Fr _ _ _ _ => F1
  rename News _ _ _ _ => N1
  refine' Con.use (con_far w Rd kr ur rs hvr hlr hb) ?k1 ?k2 ?k3 ?k4 ?k5 ?k6 ?k7 ?k8 ?k9 ?_
  (case k1 => k_asm)
  (case k2 => exact F1)
  (case k3 => k_asm)
  (case k4 => exact N1)
  (case k5 => k_asm)
  (case k6 => exact rfl)
  (case k7 => lia)
  (case k8 => lia)
  (case k9 => exact fun q hq => by rw [List.mem_singleton.mp hq]; exact List.Mem.head _)
  rintro r9 tl9 h9 tk9 F9 N9 ap9 st9 ⟨D, vs2, k2, rfl, rfl, hv2⟩
  simp only [List.cons_append, List.nil_append] at N9
  clear F1 N1 st9
  walk_at "go"
  refine' iter_listUnr (n := k2) (vs := vs2) ?q1 ?q2 ?q3 ?q4 ?q5 ?q6 ?_
  (case q1 => rfl)
  (case q2 => exact F9)
  (case q3 => exact N9)
  (case q4 => exact List.Mem.head _)
  (case q5 => rfl)
  (case q6 => rfl)
  intro I hI
  have hl2 := farI_len hlr 4
  have hb2 := farI_bd hb 4
  refine list_inv (fun r m' n' => Hold (∃ j, n' = (D, W.listOf vs2.toArray k2) :: (Rd, W.listOf ur.toArray kr) :: (Ld, W.listOf us.toArray kn) :: rest ∧ r = vs2.drop j ∧ HasL m' [("script", .ref sc), ("rows", .ref R), ("kept", .ref Kp), ("names", .ref Nm), ("leads", .ref Ld), ("rounds", .ref Rd)])) ?_ ?_ _ _ _ ?_
  · clear F9 N9
    rintro v r m' n' it h tk2 ex9
    apply exs_1_2 ex9
    clear ex9
    rintro j er m1 hit F1 N1
    obtain ⟨hj, ⟨t, rfl⟩, er2⟩ := ints_split hv2 er.symm
    generalize hx : (farI 4 rs).getD j 0 = x at *
    have hxm : x ∈ farI 4 rs := by
      rw [← hx, List.getD_eq_getElem?_getD, List.getElem?_eq_getElem hj]
      exact List.getElem_mem hj
    have hx1 := hb2 x hxm
    have hx2 := hP x hxm
    have m2 : HasL (fun y => if y = PySem.Str.ofString "rest" then some (.int x t) else m' y) [("script", .ref sc), ("rows", .ref R), ("kept", .ref Kp), ("names", .ref Nm), ("leads", .ref Ld), ("rounds", .ref Rd), ("rest", .int x t)] := ⟨m1.1, m1.2.1, m1.2.2.1, m1.2.2.2.1, m1.2.2.2.2.1, m1.2.2.2.2.2.1, rfl, trivial⟩
    replace F1 := fr_canons F1 m2
    dsimp only [canonM] at F1
    walk_at "go"
    · rename _ ≠ x => hne
      exact absurd hx2 hne
    · rename Fr _ _ _ _ => F3
      rename News _ _ _ _ => N3
      exact mkU _ _ _ _ rfl F3 N3 (fun q hq => Nat.ne_of_lt (hI q hq)) ⟨List.Mem.head _, Hold.of (mks_1_2 (j + 1) rfl er2 ⟨rfl, rfl, rfl, rfl, rfl, rfl, trivial⟩)⟩
  · clear F9 N9
    rintro m' n' h tk2 ex9
    apply exs_1_2 ex9
    clear ex9
    rintro j er m1 F1 N1
    exact Hold.of ⟨rfl, mks_3_3 _ _ _ rfl F1 (kti_tail N1) m1⟩
  · exact Hold.of (mks_1_2 0 rfl rfl ⟨rfl, rfl, rfl, rfl, rfl, rfl, trivial⟩)
end

section -- price
theorem fresh_price {M : Model} {A : Around} {Q : Flow → Shared → Prop} {E : Value → Shared → Prop} {s : Shared} {env : Env} {pos : Pos} (h : wpAny M A (exec (.Pass pos) env) Q E s) : wpAny M A (exec (.Pass pos) env) Q E s := by
  w_top off
  first | (walk1; fail "fresh") | exact h
theorem bsum (c d : Int) (m j : Nat) (hm : 0 < m) (h : 32 = m * (2 * j)) : (c.fdiv (m : Int) + d.fdiv (m : Int)).fmod 2 = (((cellN c / m + cellN d / m) % 2 : Nat) : Int) := by
  have h1 := bit_f c m j hm h
  have h2 := bit_f d m j hm h
  rw [Int.fmod_eq_emod_of_nonneg _ (by decide)] at h1 h2 ⊢
  exact bs_gen h1 h2
theorem price_sum (c d : Int) : (List.map (fun k' : Int => (c.fdiv (2 ^ k'.toNat) + d.fdiv (2 ^ k'.toNat)).fmod 2 * ([1, 1, 2, 2, 2] : List Int).getD k'.toNat 0) (rangeKs 0 (5 - 0 : Int).toNat)).sum = priceI c d := by
  have e : rangeKs 0 (5 - 0 : Int).toNat = [0, 1, 2, 3, 4] := by decide
  rw [e]
  show (c.fdiv 1 + d.fdiv 1).fmod 2 * 1 + ((c.fdiv 2 + d.fdiv 2).fmod 2 * 1 + ((c.fdiv 4 + d.fdiv 4).fmod 2 * 2 + ((c.fdiv 8 + d.fdiv 8).fmod 2 * 2 + ((c.fdiv 16 + d.fdiv 16).fmod 2 * 2 + 0)))) = _
  rw [show (c.fdiv 1 + d.fdiv 1).fmod 2 = _ from bsum c d 1 16 (by decide) (by decide), show (c.fdiv 2 + d.fdiv 2).fmod 2 = _ from bsum c d 2 8 (by decide) (by decide), show (c.fdiv 4 + d.fdiv 4).fmod 2 = _ from bsum c d 4 4 (by decide) (by decide), show (c.fdiv 8 + d.fdiv 8).fmod 2 = _ from bsum c d 8 2 (by decide) (by decide), show (c.fdiv 16 + d.fdiv 16).fmod 2 = _ from bsum c d 16 1 (by decide) (by decide), Nat.div_one, Nat.div_one]
  unfold priceI priceN
  generalize (cellN c + cellN d) % 2 = x1
  generalize (cellN c / 2 + cellN d / 2) % 2 = x2
  generalize (cellN c / 4 + cellN d / 4) % 2 = x3
  generalize (cellN c / 8 + cellN d / 8) % 2 = x4
  generalize (cellN c / 16 + cellN d / 16) % 2 = x5
  lia
theorem con_price (w : World) (c d : Int) (t u : Tok) : Con w 0 138 [.int c t, .int d u] [] (fun v tl => tl = [] ∧ ∃ t', v = .int (priceI c d) t') := by
  walk_at "con cells"
  walk_at "go free"
  walk_at "con end0"
  exact ⟨rfl, _, by rw [price_sum]⟩
theorem con_price2 (w : World) (c d : Int) (t u : Tok) : Con w 0 138 [.int c t, .int d u] [] (fun v tl => tl = [] ∧ ∃ t', v = .int (priceI c d) t' ∧ 0 ≤ priceI c d ∧ priceI c d ≤ 8) := by
  intro p loose mean mg mb dp un gd cn cs a ccd cl outer A₀ base h₀ L m s Q E B F X N T hk hd hu ret
  refine con_price w c d t u p loose mean mg mb dp un gd cn cs a ccd cl outer A₀ base h₀ L m s Q E B F X N T hk hd hu fun r tl h' tk' F' st hn hp => ret r tl h' tk' F' st hn ?_
  obtain ⟨e1, t', e2⟩ := hp
  exact ⟨e1, t', e2, price_bd c d⟩
end

section -- pulls
theorem fresh_pulls {M : Model} {A : Around} {Q : Flow → Shared → Prop} {E : Value → Shared → Prop} {s : Shared} {env : Env} {pos : Pos} (h : wpAny M A (exec (.Pass pos) env) Q E s) : wpAny M A (exec (.Pass pos) env) Q E s := by
  w_top off
  first | (walk1; fail "fresh") | exact h
noncomputable def pullI (c : List Int) (i k : Nat) : Int := if i = k then 0 else rowF c i k
local macro_rules | `(tactic| walk_at "call ref") => `(tactic| (k_here; k_dflt (refine' Con.useG (con_price2 _ _ _ _ _) al_nil ?_; intro b9 t9 h9 tk9 F9 N9; obtain ⟨b9, c9⟩ := b9)))
theorem con_pulls (w : World) (l : Addr) (k : Nat) (vs : List Value) (c : List Int) (hv : IntsAre vs c) (hl : c.length = 11) :
    Con w 1 186 [.ref l] [(l, W.listOf vs.toArray k)] (fun v tl => ∃ P kk rs, v = .ref P ∧ tl = (P, W.listOf (rs.map fun q => Value.ref q.1).toArray kk) :: rs ∧ rs.length = 4 ∧ ∀ j q, rs[j]? = some q → ∃ vj kj, q.2 = W.listOf vj.toArray kj ∧ IntsAre vj ((List.range 4).map (pullI c j))) := by
  walk_at "con cells"
  rename_i p loose mean mg mb dp un gd outer A₀ base g L h0 tk0 s B F X T hdp hun l1 o hcell N
  walk_at "goc"
  k_here
  k_dflt (refine ListComp_V (F₀ := by k_asm) (by with_unfolding_all rfl) (by rfl) (fun _ => rfl) (fun _ => rfl) (by decide) (fun _ _ => rfl) ?_)
  walk_at "goc"
  rename IsRange _ _ _ _ _ _ _ _ => R1
  rename Fr _ _ _ _ => F1
  rename News _ _ _ _ => N1
  refine SrcV.range 4 (fun i ys news => ∃ rs : Led, news = (L + 1, o) :: (l, W.listOf vs.toArray k) :: rs ∧ rs.length = i ∧ ys = rs.map (fun q => Value.ref q.1) ∧ (∀ q ∈ rs, q.1 ≠ L + 1) ∧ (∀ q ∈ rs, q.1 ≠ l) ∧ ∀ j q, rs[j]? = some q → ∃ vj kj, q.2 = W.listOf vj.toArray kj ∧ IntsAre vj ((List.range 4).map (pullI c j))) rfl R1 (by decide) (by decide) F1 N1 (by decide) ?_ ?_ ?_
  · clear F1 N1
    rintro i v I oI C oC D cc oc ys news h tk E' hi ex9
    apply exs_1_5 ex9
    clear ex9
    rintro rs hlen rfl hr1 hr2 hrs ⟨ti, rfl⟩ hoc F1 N1 off ne neL
    have hlv : l ≠ L + 1 := Nat.ne_of_lt (Nat.lt_succ_of_lt l1)
    simp only [Int.zero_add] at hoc
    simp only [List.cons_append, List.nil_append] at N1
    walk_at "goc"
    k_here
    k_dflt (refine LCg.ListComp_U (F₀ := by k_asm) (by with_unfolding_all rfl) (by decide) (by rfl) (by decide) (by rfl) ?_)
    walk_at "goc"
    rename IsRange _ _ _ _ _ _ _ _ => R2
    rename Fr _ _ _ _ => F2
    rename News _ _ _ _ => N2
    refine LCg.CompSrc.range (n := 4) (by rfl) F2 N2 R2 (by decide) (by decide) (by decide) ?_
    intro g'
    refine comp_inv (n := 4) (fun j ys2 news2 => news2 = (I, oI) :: (C, oC) :: (D, LCg.lst (rs.map fun q => Value.ref q.1)) :: (cc, oc) :: (L + 1, o) :: (l, W.listOf vs.toArray k) :: rs ∧ IntsAre ys2 ((List.range j).map (pullI c i))) ?_ ?_ 4 0 [] _ rfl ⟨rfl, .nil⟩
    · clear F2 N2
      rintro j v I2 oI2 C2 oC2 D2 m2 ys2 news2 h2 tk2 E2 hj ex9
      apply exs_0_1 ex9
      clear ex9
      rintro hy ⟨tj, rfl⟩ hC2 hx2 F1 N1 off2 ne2
      simp only [Int.zero_add] at hx2
      walk_at "goc"
      · show LCg.CompEnd _ _ _ _ _ _ _ _ _ _ _ _ _ _
        rename (_ : Int) ≠ (_ : Int) => hij
        rename Fr _ _ _ _ => F3
        rename News _ _ _ _ => N3
        refine mkC _ _ _ rfl F3 N3 off2 trivial ⟨rfl, ?_⟩
        rw [map_range_succ]
        have e : pullI c i j = c.getD (Int.toNat 4) 0 * priceI (c.getD (i : Int).toNat 0) (c.getD (j : Int).toNat 0) - c.getD (Int.toNat 5) 0 := by
          unfold pullI
          rw [if_neg (by lia)]
          rfl
        rw [← e]
        exact ints_snoc hy _ _
      · show LCg.CompEnd _ _ _ _ _ _ _ _ _ _ _ _ _ _
        rename (_ : Int) = (_ : Int) => hij
        refine mkC _ _ _ rfl F1 N1 off2 trivial ⟨rfl, ?_⟩
        rw [map_range_succ]
        have e : pullI c i j = 0 := by
          unfold pullI
          rw [if_pos (by lia)]
        rw [e]
        exact ints_snoc hy _ _
    · rintro ys2 news2 ex9
      apply exs_0_1 ex9
      clear ex9
      rintro hy D2 h2 tk2 F3 N3 o1
      have o2 := off1_mem o1
      have eD : (D2, LCg.lst ys2) ∈ rs ++ [(D2, LCg.lst ys2)] := List.mem_append_right _ (.head _)
      refine mkV _ _ ((L + 1, o) :: (l, W.listOf vs.toArray k) :: (rs ++ [(D2, LCg.lst ys2)])) rfl F3 (cb_drop N3 (fun q hq => ?_)) (fun q hq => ?_) trivial (mks_1_5 (rs ++ [(D2, LCg.lst ys2)]) rfl (by simp [hlen]) (by simp) (fun q hq => ?_) (fun q hq => ?_) (fun j q hq => ?_))
      · exact led_use (by walk_at "led sub") hq
      · simp only [List.mem_cons, List.mem_append, List.not_mem_nil, or_false] at hq
        rcases hq with hq | hq | hq | hq
        · exact off q (by simp [hq])
        · exact off q (by simp [hq])
        · exact off q (by simp [hq])
        · rw [hq]
          exact ⟨(o2 (I, oI) (by simp)).symm, (o2 (C, oC) (by simp)).symm, (o2 (D, LCg.lst (rs.map fun q => Value.ref q.1)) (by simp)).symm, (o2 (cc, oc) (by simp)).symm⟩
      · exact led_at hq (al_app hr1 (al_cons ((o2 (L + 1, o) (by simp)).symm) al_nil))
      · exact led_at hq (al_app hr2 (al_cons ((o2 (l, W.listOf vs.toArray k) (by simp)).symm) al_nil))
      · by_cases hj : j < rs.length
        · rw [List.getElem?_append_left hj] at hq
          exact hrs j q hq
        · rw [List.getElem?_append_right (by lia)] at hq
          have e0 : j - rs.length = 0 := by
            rcases Nat.eq_zero_or_pos (j - rs.length) with h | h
            · exact h
            · rw [List.getElem?_eq_none (by simp; lia)] at hq; cases hq
          rw [e0] at hq
          cases hq
          have ej : j = i := by lia
          subst ej
          exact ⟨ys2, ys2.length, rfl, hy⟩
  · rintro D h tk ys news ex9
    apply exs_1_5 ex9
    clear ex9
    rintro rs hlen rfl hr1 hr2 hrs F1 N1 off
    walk_at "goc"
    refine mkD _ _ ((D, W.listOf (rs.map fun q => Value.ref q.1).toArray (rs.map fun q => Value.ref q.1).length) :: rs) F1 (cb_drop N1 (fun q hq => ?_)) (fun q hq r hr => ?_) ⟨D, _, rs, rfl, rfl, hlen, hrs⟩ _ _ rfl
    · simp only [List.mem_cons, List.mem_append, List.not_mem_nil, or_false] at hq ⊢
      rcases hq with (hq | hq) | hq
      · exact .inl hq
      · exact .inr (.inr (.inr hq))
      · exact .inr (.inr (.inl hq))
    · rw [List.mem_singleton.mp hr]
      rcases List.mem_cons.mp hq with rfl | hq
      · exact off (l, W.listOf vs.toArray k) (by simp)
      · exact (hr2 q hq).symm
  · exact mks_1_5 ([]) rfl rfl rfl (fun _ h => nomatch h) (fun _ h => nomatch h) (fun _ _ h => by simp at h)
end

section -- seg12
theorem fresh_seg12 {M : Model} {A : Around} {Q : Flow → Shared → Prop} {E : Value → Shared → Prop} {s : Shared} {env : Env} {pos : Pos} (h : wpAny M A (exec (.Pass pos) env) Q E s) : wpAny M A (exec (.Pass pos) env) Q E s := by
  w_top off
  first | (walk1; fail "fresh") | exact h
local macro_rules | `(tactic| walk_at "call ref") => `(tactic| (k_here; (with_reducible show wpAny _ _ (call (Value.ref 186) _) _ _ _)))
local macro_rules | `(tactic| walk_at "halt") => `(tactic| first | (with_reducible show wpAny _ _ (call (Value.ref 186) _) _ _ _) | (with_reducible show wpAny _ _ (storeName _ (PySem.Str.ofString "pulls") _) _ _ _))
theorem seg12 (w : World) (p : Program) (loose : List PySem.Str) (mean : ExcName → Option Value) (mg mb : PySem.Str → Option Value) (dp un : Nat) (gd : Option (List Code)) (outer : List Env) (fa : Addr) (fcd : Value) (A₀ : Around) (base g : Heap) (L : Addr) (s : Shared) (E : Value → Shared → Prop) (h : Heap) (tk : Nat) (m : LMap) (rest : Led)
    (B : Below A₀ base outer g) (X : (hdtop.heap_39 w.params).In g) (T : Top p loose mean mg mb g) (hdp : dp + 10 < recursionLimit) (hun : un + 200 < cLine) (F : Fr g L h m) (sc R Kp Nm Ld : Addr) (D : Addr) (kk : Nat) (us : List Value) (c : List Int) (hi : IntsAre us c) (hc : c.length = 11) (o0 o4 : Obj) (hc0 : o0.data = .cell (some (.ref D))) (v4 : Option Value) (hc4 : o4.data = .cell v4)
    (N : News g L h ((L + 1 + 1 + 1 + 1 + 1, o4) :: (L + 1, o0) :: (D, W.listOf us.toArray kk) :: rest)) (off : ∀ q ∈ rest, q.1 ≠ L + 1 + 1 + 1 + 1 + 1) (offD : D ≠ L + 1 + 1 + 1 + 1 + 1) (hm : HasL m [("script", .ref sc), ("rows", .ref R), ("kept", .ref Kp), ("names", .ref Nm), ("leads", .ref Ld)]) :
    wpAny (model PySem.Challenge.rw_jc0016_01.row.prog w) (lawA dp un gd L fa fcd outer) (exec (lawS 11) (lawE L fa fcd)) (fun f s' => Hold (f = .next ∧ ∃ h' tk' m' P kp rs o, s' = { s with heap := h', toks := tk' } ∧ Fr g L h' m' ∧ News g L h' ((L + 1 + 1 + 1 + 1 + 1, o) :: (P, W.listOf (rs.map fun q => Value.ref q.1).toArray kp) :: (rs ++ (L + 1, o0) :: (D, W.listOf us.toArray kk) :: rest)) ∧
      (∀ q ∈ (L + 1, o0) :: (D, W.listOf us.toArray kk) :: rest, ∀ r ∈ (P, W.listOf (rs.map fun q => Value.ref q.1).toArray kp) :: rs, q.1 ≠ r.1) ∧ o.data = .cell (some (.ref P)) ∧ rs.length = 4 ∧ (∀ (j : Nat) (q : Addr × Obj), rs[j]? = some q → ∃ vj kj, q.2 = W.listOf vj.toArray kj ∧ IntsAre vj ((List.range 4).map (pullI c j))) ∧ HasL m' [("script", .ref sc), ("rows", .ref R), ("kept", .ref Kp), ("names", .ref Nm), ("leads", .ref Ld)])) E { s with heap := h, toks := tk } := by
  show wpAny _ (ktrTop _ _ _ _ ⟨_, [_, _, _, _, _, _, _, _, _, _, _, _, _, _, _, _, _, _, _, _, _, _, _, _], _, _, _⟩ _ _ _ (cellsFrom _ [_, _, _, _, _, _, _, _, _, _, _, _, _, _, _, _, _, _, _, _, _, _, _, _] _) _) (exec (Stmt.Assign _ _ _) (envOfC _ ⟨_, [_, _, _, _, _, _, _, _, _, _, _, _, _, _, _, _, _, _, _, _, _, _, _, _], _, _, _⟩ _ _ _)) _ _ _
  replace F := fr_canons F hm
  dsimp only [canonM] at F
  walk_at "go"
  rename Fr _ _ _ _ => F1
  rename News _ _ _ _ => N1
  refine' Con.use (con_pulls w D kk us c hi hc) ?k1 ?k2 ?k3 ?k4 ?k5 ?k6 ?k7 ?k8 ?k9 ?_
  (case k1 => k_asm)
  (case k2 => exact F1)
  (case k3 => k_asm)
  (case k4 => exact N1)
  (case k5 => k_asm)
  (case k6 => exact rfl)
  (case k7 => lia)
  (case k8 => lia)
  (case k9 => exact fun q hq => by rw [List.mem_singleton.mp hq]; exact List.Mem.tail _ (List.Mem.tail _ (List.Mem.head _)))
  rintro r9 tl9 h9 tk9 F9 N9 ap9 st9 ⟨P, kp, rs, rfl, rfl, hrl, hrs⟩
  clear F1 N1 st9
  walk_at "go"
  have N2 : News g L h9 ((L + 1 + 1 + 1 + 1 + 1, o4) :: (P, W.listOf (rs.map fun q => Value.ref q.1).toArray kp) :: (rs ++ (L + 1, o0) :: (D, W.listOf us.toArray kk) :: rest)) := cb_drop N9 (fun q hq => by
    exact led_use (by walk_at "led sub") hq)
  have hne := ap9 _ (List.Mem.head _)
  refine storeX_C F9 N2 (by rfl) (UpdF.head (fun q hq => ?_)) hc4 ?_
  · rcases List.mem_cons.mp hq with rfl | hq
    · exact (hne _ (List.Mem.head _)).symm
    rcases List.mem_append.mp hq with hq | hq
    · exact (hne _ (List.Mem.tail _ hq)).symm
    exact led_at hq (al_cons (Nat.ne_of_lt (Nat.lt_succ_of_lt (Nat.lt_succ_of_lt (Nat.lt_succ_of_lt (Nat.lt_succ_self _))))) (al_cons (offD) off))
  intro h8 o8 F8 N8 hd8
  exact Hold.of ⟨by trivial, mks_7_7 _ _ _ _ _ _ _ rfl F8 N8 (fun q hq => ap9 q (List.Mem.tail _ hq)) hd8 hrl hrs ⟨rfl, rfl, rfl, rfl, rfl, trivial⟩⟩
end

section -- answer
theorem fresh_answer {M : Model} {A : Around} {Q : Flow → Shared → Prop} {E : Value → Shared → Prop} {s : Shared} {env : Env} {pos : Pos} (h : wpAny M A (exec (.Pass pos) env) Q E s) : wpAny M A (exec (.Pass pos) env) Q E s := by
  w_top off
  first | (walk1; fail "fresh") | exact h
/-- whether name i is up in a state -/
noncomputable def bitB (st i : Nat) : Bool := st / 2 ^ i % 2 == 1
noncomputable def sumB (rows : Nat → List Int) (st k : Nat) : Nat → Int
  | 0 => 0
  | i + 1 => sumB rows st k i + if bitB st i then (rows i).getD k 0 else 0
noncomputable def dueI (rows : Nat → List Int) (bs : List Int) (st : Nat) : Nat → Int
  | 0 => 0
  | k + 1 => dueI rows bs st k + if sumB rows st k 4 ≥ bs.getD k 0 then 2 ^ k else 0
theorem bit_int {st i : Nat} : ((st : Int).fdiv (2 ^ i)).fmod 2 = ((st / 2 ^ i % 2 : Nat) : Int) := by
  have hp : (0 : Int) ≤ 2 ^ i := Int.pow_nonneg (by decide)
  rw [Int.fdiv_eq_ediv_of_nonneg _ hp, Int.fmod_eq_emod_of_nonneg _ (by decide)]
  simp
theorem bit_yes {st j : Nat} (h : ((st : Int).fdiv (2 ^ (j : Int).toNat)).fmod 2 = 1) : bitB st j = true := by
  have h2 : ((st : Int).fdiv (2 ^ j)).fmod 2 = 1 := h
  rw [bit_int] at h2
  unfold bitB
  simp only [beq_iff_eq]
  lia
theorem bit_no {st j : Nat} (h : ((st : Int).fdiv (2 ^ (j : Int).toNat)).fmod 2 ≠ 1) : bitB st j = false := by
  have h2 : ((st : Int).fdiv (2 ^ j)).fmod 2 ≠ 1 := h
  rw [bit_int] at h2
  cases e : bitB st j with
  | false => rfl
  | true =>
    unfold bitB at e
    simp only [beq_iff_eq] at e
    lia
theorem sum_snoc (l : List Int) (x : Int) : (l ++ [x]).sum = l.sum + x := by simp
theorem con_answer (w : World) (P l : Addr) (rs : Led) (kk kl : Nat) (vl : List Value) (rows : Nat → List Int) (bs : List Int) (st : Nat) (ts : Tok) (hlen : rs.length = 4) (hrs : ∀ j q, rs[j]? = some q → ∃ vj kj, q.2 = W.listOf vj.toArray kj ∧ IntsAre vj (rows j) ∧ (rows j).length = 4)
    (el : IntsAre vl bs) (ml : bs.length = 4) (s1 : st < 16) :
    Con w 0 191 [.ref P, .ref l, .int (st : Int) ts] ((P, W.listOf (rs.map fun q => Value.ref q.1).toArray kk) :: (l, W.listOf vl.toArray kl) :: rs) (fun v tl => tl = [] ∧ ∃ t, v = .int (dueI rows bs st 4) t) := by
  walk_at "con cells"
  rename_i p loose mean mg mb dp un gd outer A₀ base g L h0 tk0 s B F X T hdp hun l1 o3 o2 o1 hc3 hc2 hc1 N
  walk_at "goc"
  rename Fr _ _ _ _ => F1
  rename News _ _ _ _ => N1
  k_here
  (with_unfolding_all refine' For_turns F1 ?_)
  walk_at "goc"
  rename IsRange _ _ _ _ _ _ _ _ => R1
  rename Fr _ _ _ _ => F1
  rename News _ _ _ _ => N1
  refine iter_rangeTurns (n := 4) rfl R1 (by decide) (by decide) F1 N1 (fun _ _ => rfl) ?_
  intro I hI
  k_lt hI
  have hc1' : o1.data = .cell (some (.ref P)) := hc1
  have hc2' : o2.data = .cell (some (.int (st : Int) ts)) := hc2
  have hc3' : o3.data = .cell none := hc3
  clear hc1 hc2 hc3
  have ha3 : ∀ q ∈ rs, q.1 ≠ L + 1 + 1 + 1 := fun q hq => Nat.ne_of_lt (Nat.lt_succ_of_lt (Nat.lt_succ_of_lt (Nat.lt_succ_of_lt (ktn_ltOf l1.2.2 q hq))))
  have haI : ∀ q ∈ rs, q.1 ≠ I := fun q hq => Nat.ne_of_lt (ktn_ltOf hI.2.2.2.2.2 q hq)
  refine rangeT_inv (fun i m' n' => Hold (∃ o v0 t, n' = (L + 1 + 1 + 1, o) :: (L + 1 + 1, o2) :: (L + 1, o1) :: (P, W.listOf (rs.map fun q => Value.ref q.1).toArray kk) :: (l, W.listOf vl.toArray kl) :: rs ∧ o.data = .cell v0 ∧ HasL m' [("bounds", .ref l), ("due", .int (dueI rows bs st i) t)])) ?_ ?_ _ _ ?_
  · skip
    clear F1 N1 R1
    rintro i m' n' t it h tk hi ex9
    apply exs_3_2 ex9
    clear ex9
    intro o v0 td hcv m1 hit F1 N1
    simp only [Int.zero_add]
    replace F1 := fr_canons F1 m1
    dsimp only [canonM] at F1
    walk_at "goc"
    rename Fr _ _ _ _ => F2
    rename News _ _ _ _ => N2
    rename _ = Data.cell (some (Value.int (i : Int) t)) => hk
    clear F1 N1
    rename_i ok _
    k_here
    k_dflt (refine LCt.ListComp_T (F₀ := F2) (by with_unfolding_all rfl) (by decide) (by rfl) (by decide) (by rfl) ?_)
    walk_at "goc"
    rename IsRange _ _ _ _ _ _ _ _ => R2
    rename Fr _ _ _ _ => F2
    rename News _ _ _ _ => N2
    refine LCt.CompSrcT.range (n := 4) (by rfl) F2 N2 R2 (by decide) (by decide) (by decide) ?_
    intro g'
    refine comp_invT (n := 4) (fun j ys2 news2 => news2 = (I, it) :: (L + 1 + 1 + 1, _) :: (L + 1 + 1, o2) :: (L + 1, o1) :: (P, W.listOf (rs.map fun q => Value.ref q.1).toArray kk) :: (l, W.listOf vl.toArray kl) :: rs ∧ ∃ ns2, IntsAre ys2 ns2 ∧ ns2.sum = sumB rows st i j) ?_ ?_ 4 0 [] _ rfl ⟨rfl, [], .nil, rfl⟩
    · clear F2 N2
      rintro j v I2 oI2 C2 oC2 D2 m2 ys2 news2 h2 tk2 E2 hj ⟨rfl, ns2, hy, hsum⟩ ⟨tj, rfl⟩ hC2 hx2 F1 N1 off2 ne2
      simp only [Int.zero_add] at hx2
      obtain ⟨qa, qo, hqj⟩ : ∃ qa qo, rs[j]? = some (qa, qo) := by
        have hj2 : j < rs.length := by lia
        exact ⟨_, _, List.getElem?_eq_getElem hj2⟩
      refine ex_2 (hrs j _ hqj) ?_
      intro vj kj h9
      have eo := h9.1
      have hvj := h9.2.1
      have hrl := h9.2.2
      clear h9
      have eo' : qo = W.listOf vj.toArray kj := eo
      subst eo'
      clear eo
      have hmem : (qa, W.listOf vj.toArray kj) ∈ rs := List.mem_of_getElem? hqj
      have hget : (rs.map fun q => Value.ref q.1)[(j : Int).toNat]? = some (.ref qa) := by
        show (rs.map fun q => Value.ref q.1)[j]? = _
        rw [List.getElem?_map, hqj]
        rfl
      walk_at "goc"
      · rename _ = (1 : Int) => hb
        refine mkC _ _ _ rfl F1 N1 off2 trivial ⟨rfl, _, ints_snoc hy _ _, ?_⟩
        rw [sum_snoc, hsum]
        show _ = sumB rows st i j + if bitB st j then (rows j).getD i 0 else 0
        rw [if_pos (bit_yes hb)]
        rfl
      · rename _ ≠ (1 : Int) => hb
        refine mkC _ _ _ rfl F1 N1 off2 trivial ⟨rfl, _, hy, ?_⟩
        rw [hsum]
        show _ = sumB rows st i j + if bitB st j then (rows j).getD i 0 else 0
        rw [if_neg (by rw [bit_no hb]; decide)]
        lia
    · rintro ys2 news2 ⟨rfl, ns2, hy, hsum⟩ D2 h2 tk2 F3 N3 o1
      walk_at "goc"
      · rename _ ≤ ns2.sum => hq
        rename Fr _ _ _ _ => F3
        rename News _ _ _ _ => N3
        rw [hsum] at hq
        have e : dueI rows bs st i + 2 ^ (i : Int).toNat = dueI rows bs st (i + 1) := by
          show _ = dueI rows bs st i + (if sumB rows st i 4 ≥ bs.getD i 0 then 2 ^ i else 0)
          rw [if_pos (show sumB rows st i 4 ≥ bs.getD i 0 from hq)]
          rfl
        refine mkW _ _ _ _ rfl F3 (kti_tail N3) ?_ ⟨trivial, Hold.of (mks_3_2 _ _ _ rfl hk ⟨rfl, some_int e, trivial⟩)⟩
        intro q hq r hr
        rw [List.mem_singleton.mp hr]
        exact off1 hI.1 (off1 hI.2.1 (off1 hI.2.2.1 (off1 hI.2.2.2.1 (off1 hI.2.2.2.2.1 haI)))) q hq
      · rename ¬ _ ≤ ns2.sum => hq
        rename Fr _ _ _ _ => F3
        rename News _ _ _ _ => N3
        rw [hsum] at hq
        have e : dueI rows bs st i = dueI rows bs st (i + 1) := by
          show _ = dueI rows bs st i + (if sumB rows st i 4 ≥ bs.getD i 0 then 2 ^ i else 0)
          rw [if_neg (show ¬ sumB rows st i 4 ≥ bs.getD i 0 from hq), Int.add_zero]
        refine mkW _ _ _ _ rfl F3 (kti_tail N3) ?_ ⟨trivial, Hold.of (mks_3_2 _ _ _ rfl hk ⟨rfl, some_int e, trivial⟩)⟩
        intro q hq r hr
        rw [List.mem_singleton.mp hr]
        exact off1 hI.1 (off1 hI.2.1 (off1 hI.2.2.1 (off1 hI.2.2.2.1 (off1 hI.2.2.2.2.1 haI)))) q hq
  · clear F1 N1 R1
    rintro m' n' h tk ex9
    apply exs_3_2 ex9
    clear ex9
    intro o v0 td hcv m1 F1 N1
    replace F1 := fr_canons F1 m1
    dsimp only [canonM] at F1
    walk_at "goc"
    dsimp only
    refine mkD _ _ ([]) F1 (cb_drop N1 (fun q hq => ?_)) (fun _ h => nomatch h) ⟨rfl, td, rfl⟩ _ _ rfl
    exact List.Mem.tail _ (List.Mem.tail _ (List.Mem.tail _ hq))
  · exact Hold.of (mks_3_2 o3 none _ rfl hc3' ⟨rfl, rfl, trivial⟩)
end

section -- seg13
theorem fresh_seg13 {M : Model} {A : Around} {Q : Flow → Shared → Prop} {E : Value → Shared → Prop} {s : Shared} {env : Env} {pos : Pos} (h : wpAny M A (exec (.Pass pos) env) Q E s) : wpAny M A (exec (.Pass pos) env) Q E s := by
  w_top off
  first | (walk1; fail "fresh") | exact h
local macro_rules | `(tactic| walk_at "halt") => `(tactic| (with_reducible show wpAny _ _ (call (Value.ref 191) _) _ _ _))
theorem seg13 (w : World) (p : Program) (loose : List PySem.Str) (mean : ExcName → Option Value) (mg mb : PySem.Str → Option Value) (dp un : Nat) (gd : Option (List Code)) (outer : List Env) (fa : Addr) (fcd : Value) (A₀ : Around) (base g : Heap) (L : Addr) (s : Shared) (E : Value → Shared → Prop) (h : Heap) (tk : Nat) (m : LMap) (rest : Led)
    (B : Below A₀ base outer g) (X : (hdtop.heap_39 w.params).In g) (T : Top p loose mean mg mb g) (hdp : dp + 10 < recursionLimit) (hun : un + 200 < cLine) (F : Fr g L h m) (sc R Kp Nm Ld P : Addr) (D : Addr) (kk kp kn : Nat) (us vs : List Value) (c bs ls : List Int) (hi : IntsAre us c) (hc : c.length = 11) (ebs : bs = (c.drop 6).take 4) (rows : Nat → List Int) (hvs : IntsAre vs ls) (els : ls = (List.range 16).map fun st => dueI rows bs st 4) (o0 o4 : Obj) (hc0 : o0.data = .cell (some (.ref D))) (hc4 : o4.data = .cell (some (.ref P)))
    (rs : Led) (hrl : rs.length = 4) (hrs : ∀ (j : Nat) (q : Addr × Obj), rs[j]? = some q → ∃ vj kj, q.2 = W.listOf vj.toArray kj ∧ IntsAre vj (rows j) ∧ (rows j).length = 4)
    (N : News g L h ((L + 1 + 1 + 1 + 1 + 1, o4) :: (L + 1, o0) :: (D, W.listOf us.toArray kk) :: (P, W.listOf (rs.map fun q => Value.ref q.1).toArray kp) :: (Ld, W.listOf vs.toArray kn) :: (rs ++ rest))) (hm : HasL m [("script", .ref sc), ("rows", .ref R), ("kept", .ref Kp), ("names", .ref Nm), ("leads", .ref Ld)]) :
    wpAny (model PySem.Challenge.rw_jc0016_01.row.prog w) (lawA dp un gd L fa fcd outer) (exec (lawS 12) (lawE L fa fcd)) (fun f s' => Hold (f = .next ∧ ∃ h' tk' m', s' = { s with heap := h', toks := tk' } ∧ Fr g L h' m' ∧ News g L h' ((L + 1 + 1 + 1 + 1 + 1, o4) :: (L + 1, o0) :: (D, W.listOf us.toArray kk) :: (P, W.listOf (rs.map fun q => Value.ref q.1).toArray kp) :: (Ld, W.listOf vs.toArray kn) :: (rs ++ rest)) ∧ HasL m' [("script", .ref sc), ("rows", .ref R), ("kept", .ref Kp), ("names", .ref Nm), ("leads", .ref Ld)])) (fun _ _ => False) { s with heap := h, toks := tk } := by
  show wpAny _ (ktrTop _ _ _ _ ⟨_, [_, _, _, _, _, _, _, _, _, _, _, _, _, _, _, _, _, _, _, _, _, _, _, _], _, _, _⟩ _ _ _ (cellsFrom _ [_, _, _, _, _, _, _, _, _, _, _, _, _, _, _, _, _, _, _, _, _, _, _, _] _) _) (exec (Stmt.If _ _ _ _) (envOfC _ ⟨_, [_, _, _, _, _, _, _, _, _, _, _, _, _, _, _, _, _, _, _, _, _, _, _, _], _, _, _⟩ _ _ _)) _ _ _
  replace F := fr_canons F hm
  dsimp only [canonM] at F
  walk_at "goc"
  k_here
  k_dflt (refine LCg.ListComp_U (F₀ := by k_asm) (by with_unfolding_all rfl) (by decide) (by rfl) (by decide) (by rfl) ?_)
  walk_at "goc"
  rename IsRange _ _ _ _ _ _ _ _ => R2
  rename Fr _ _ _ _ => F2
  rename News _ _ _ _ => N2
  refine LCg.CompSrc.range (n := 16) (by rfl) F2 N2 R2 (by decide) (by decide) (by decide) ?_
  intro g'
  refine comp_inv (n := 16) (fun j ys2 news2 => news2 = (L + 1 + 1 + 1 + 1 + 1, o4) :: (L + 1, o0) :: (D, W.listOf us.toArray kk) :: (P, W.listOf (rs.map fun q => Value.ref q.1).toArray kp) :: (Ld, W.listOf vs.toArray kn) :: (rs ++ rest) ∧ IntsAre ys2 ((List.range j).map fun st => dueI rows bs st 4)) ?_ ?_ 16 0 [] _ rfl ⟨rfl, .nil⟩
  · clear F2 N2
    rintro j v I2 oI2 C2 oC2 D2 m2 ys2 news2 h2 tk2 E2 hj ex9
    apply exs_0_1 ex9
    clear ex9
    rintro hy ⟨tj, rfl⟩ hC2 hx2 F1 N1 off2 ne2
    simp only [Int.zero_add] at hx2
    walk_at "goc"
    rename IntsAre _ (List.take _ _) => hI
    rename Fr _ _ _ _ => F3
    rename News _ _ _ _ => N3
    have e4 : List.take (min 10 c.length - 6) (List.drop 6 c) = bs := by rw [hc, ebs]; rfl
    rw [e4] at hI
    have hbl : bs.length = 4 := by rw [ebs, List.length_take, List.length_drop, hc]; rfl
    k_here
    refine' Con.use (con_answer _ _ _ rs kp _ _ rows bs j _ hrl hrs hI hbl hj) ?k1 ?k2 ?k3 ?k4 ?k5 ?k6 ?k7 ?k8 ?k9 ?_
    (case k1 => k_asm)
    (case k2 => exact F3)
    (case k3 => k_asm)
    (case k4 => exact N3)
    (case k5 => k_asm)
    (case k6 => exact rfl)
    (case k7 => lia)
    (case k8 => lia)
    (case k9 =>
      intro q hq
      rcases List.mem_cons.mp hq with rfl | hq
      · (repeat' (first | exact List.Mem.head _ | apply List.Mem.tail))
      rcases List.mem_cons.mp hq with rfl | hq
      · exact List.Mem.head _
      · simp [hq])
    rintro r9 tl9 h9 tk9 F9 N9 ap9 st9 ⟨rfl, t9, rfl⟩
    refine mkC _ _ _ rfl F9 (kti_tail N9) off2 trivial ⟨rfl, ?_⟩
    rw [map_range_succ]
    exact ints_snoc hy _ _
  · rintro ys2 news2 ex9
    apply exs_0_1 ex9
    clear ex9
    rintro hy D2 h2 tk2 F3 N3 o1
    clear F2 N2
    walk_at "goc"
    exact Hold.of ⟨rfl, mks_3_3 _ _ _ rfl F3 (kti_tail N3) ⟨rfl, rfl, rfl, rfl, rfl, trivial⟩⟩
end

section -- seg14
theorem fresh_seg14 {M : Model} {A : Around} {Q : Flow → Shared → Prop} {E : Value → Shared → Prop} {s : Shared} {env : Env} {pos : Pos} (h : wpAny M A (exec (.Pass pos) env) Q E s) : wpAny M A (exec (.Pass pos) env) Q E s := by
  w_top off
  first | (walk1; fail "fresh") | exact h
local macro_rules | `(tactic| walk_at "call ref") => `(tactic| (k_here; (with_reducible show wpAny _ _ (call (Value.ref 176) _) _ _ _)))
local macro_rules | `(tactic| walk_at "halt") => `(tactic| first | (with_reducible show wpAny _ _ (call (Value.ref 176) _) _ _ _) | (with_reducible show wpAny _ _ (compareOp CmpOp.NotEq _ _) _ _ _))
noncomputable def tupP (o : Obj) : PyData := .tuple [.int (tupD o).1, .int (tupD o).2.1, .int (tupD o).2.2]
noncomputable def IsT3 (o : Obj) : Prop := ∃ b n k t1 t2 t3 kq, o = tup #[.int b t1, .int n t2, .int k t3] kq
theorem reads_ints3 (h : Heap) (b n k : Int) (t1 t2 t3 : Tok) : ReadsAll h (#[.int b t1, .int n t2, .int k t3] : Array Value).toList [.int b, .int n, .int k] ([] ++ ([] ++ ([] ++ []))) :=
  ReadsAll.cons (Reads.int _ _) (ReadsAll.cons (Reads.int _ _) (ReadsAll.cons (Reads.int _ _) ReadsAll.nil))
theorem reads_names {h : Heap} : ∀ {ln : Led}, (∀ q ∈ ln, IsT3 q.2 ∧ h.get? q.1 = some q.2) → ∃ as, ReadsAll h (ln.map fun q => Value.ref q.1) (ln.map fun q => tupP q.2) as
  | [], _ => ⟨_, .nil⟩
  | q :: r, hh => by
    obtain ⟨⟨b, n, k, t1, t2, t3, kq, e⟩, hg⟩ := hh q List.mem_cons_self
    obtain ⟨as, hr⟩ := reads_names fun p hp => hh p (List.mem_cons_of_mem _ hp)
    have e2 : tupP q.2 = .tuple [.int b, .int n, .int k] := by rw [e]; rfl
    have h1 := reads_tuple_at (hg.trans (by rw [e])) rfl rfl (reads_ints3 h b n k t1 t2 t3)
    rw [List.map_cons, List.map_cons, e2]
    exact ⟨_, ReadsAll.cons h1 hr⟩
theorem lay_names : ∀ ln : Led, PyData.canLayAll0 (ln.map fun q => tupP q.2) = true
  | [] => rfl
  | _ :: r => by
    rw [List.map_cons]
    show (PyData.canLay0 (tupP _) && PyData.canLayAll0 _) = true
    rw [lay_names r]
    rfl
theorem depth_names : ∀ ln : Led, PyData.depthAll (ln.map fun q => tupP q.2) ≤ 1
  | [] => by decide
  | _ :: r => by
    rw [List.map_cons]
    show max (PyData.depth (tupP _)) (PyData.depthAll _) ≤ 1
    have := depth_names r
    have h2 : ∀ o, PyData.depth (tupP o) = 1 := fun _ => rfl
    rw [h2]
    lia
theorem shaped_names (ln : Led) : SeqAt.shaped (.list (ln.map fun q => tupP q.2)) = true := by
  unfold SeqAt.shaped
  have h1 : PyData.canLay0 (.list (ln.map fun q => tupP q.2)) = true := lay_names ln
  have h2 : PyData.depth (.list (ln.map fun q => tupP q.2)) = PyData.depthAll (ln.map fun q => tupP q.2) + 1 := rfl
  have h3 := depth_names ln
  rw [h1, h2, Bool.true_and, decide_eq_true_eq]
  lia
theorem ne_names {prog : Program} {w : World} {A : Around} {E : Value → Shared → Prop} {s : Shared} {a b : Addr} {ln : Led} {oa ob : Obj} {na nb : Nat} {Q : Value → Shared → Prop}
    (ha : s.heap.get? a = some oa) (hb : s.heap.get? b = some ob) (ca : oa.cls = .type "list") (cb : ob.cls = .type "list") (da : oa.data = .seq (ln.map fun q => Value.ref q.1).toArray na) (db : ob.data = .seq (ln.map fun q => Value.ref q.1).toArray nb)
    (hln : ∀ q ∈ ln, IsT3 q.2 ∧ s.heap.get? q.1 = some q.2) (hu : A.units + 64 < cLine) (h : Q (.bool false) s) : wpAny (model prog w) A (compareOp .NotEq (.ref a) (.ref b)) Q E s := by
  obtain ⟨as, hr⟩ := reads_names hln
  refine ne_dataH (reads_list_at ha ca da (by simpa using hr)) (reads_list_at hb cb db (by simpa using hr)) (shaped_names ln) (shaped_names ln) hu ?_
  have hl : PyData.canLay0 (.list (ln.map fun q => tupP q.2)) = true := lay_names ln
  rw [SeqAt.eqv_refl _ hl]
  exact h
noncomputable def bI (c : List Int) (i : Nat) : Int := c.getD (6 + i) 0
noncomputable def nI (c : List Int) (i : Nat) : Int := (c.getD i 0).fmod 32
/-- the keyed sort's answer -/
noncomputable def sortI (c : List Int) : List Nat := (evalT (lt4 ((1 - ((c.getD 10 0).fdiv 2).fmod 2 * 2) * selI ((c.getD 10 0).fmod 2) (bI c 0) (nI c 0)) ((1 - ((c.getD 10 0).fdiv 4).fmod 2 * 2) * ((0 : Nat) : Int)) ((1 - ((c.getD 10 0).fdiv 2).fmod 2 * 2) * selI ((c.getD 10 0).fmod 2) (bI c 1) (nI c 1)) ((1 - ((c.getD 10 0).fdiv 4).fmod 2 * 2) * ((1 : Nat) : Int)) ((1 - ((c.getD 10 0).fdiv 2).fmod 2 * 2) * selI ((c.getD 10 0).fmod 2) (bI c 2) (nI c 2)) ((1 - ((c.getD 10 0).fdiv 4).fmod 2 * 2) * ((2 : Nat) : Int)) ((1 - ((c.getD 10 0).fdiv 2).fmod 2 * 2) * selI ((c.getD 10 0).fmod 2) (bI c 3) (nI c 3)) ((1 - ((c.getD 10 0).fdiv 4).fmod 2 * 2) * ((3 : Nat) : Int))) (kas_sort 4)).toList
theorem names4c {c : List Int} {ns : Led} {G : Led → Prop} (h : ns.length = 4) (hns : ∀ (i : Nat) (q : Addr × Obj), ns[i]? = some q → NameAt c i q.2)
    (g : ∀ a0 a1 a2 a3 t00 t01 t02 t10 t11 t12 t20 t21 t22 t30 t31 t32 k0 k1 k2 k3, G [(a0, tup #[.int (c.getD (6 + 0) 0) t00, .int ((c.getD 0 0).fmod 32) t01, .int ((0 : Nat) : Int) t02] k0), (a1, tup #[.int (c.getD (6 + 1) 0) t10, .int ((c.getD 1 0).fmod 32) t11, .int ((1 : Nat) : Int) t12] k1), (a2, tup #[.int (c.getD (6 + 2) 0) t20, .int ((c.getD 2 0).fmod 32) t21, .int ((2 : Nat) : Int) t22] k2), (a3, tup #[.int (c.getD (6 + 3) 0) t30, .int ((c.getD 3 0).fmod 32) t31, .int ((3 : Nat) : Int) t32] k3)]) : G ns := by
  obtain ⟨⟨a0, q0⟩, ⟨a1, q1⟩, ⟨a2, q2⟩, ⟨a3, q3⟩, rfl⟩ := led4 h
  obtain ⟨t00, t01, t02, k0, e0⟩ := hns 0 _ rfl
  obtain ⟨t10, t11, t12, k1, e1⟩ := hns 1 _ rfl
  obtain ⟨t20, t21, t22, k2, e2⟩ := hns 2 _ rfl
  obtain ⟨t30, t31, t32, k3, e3⟩ := hns 3 _ rfl
  clear h hns
  replace e0 : q0 = _ := e0
  replace e1 : q1 = _ := e1
  replace e2 : q2 = _ := e2
  replace e3 : q3 = _ := e3
  subst e0 e1 e2 e3
  exact g ..
theorem ConT.use {w : World} {d : Nat} {f : Addr} {vs : List Value} {P : Addr} {small : Led} {post : Value → Led → Prop} (c : ConT w d f vs P small post)
    {p : Program} {loose : List PySem.Str} {mean : ExcName → Option Value} {mg mb : PySem.Str → Option Value} {dp un : Nat} {gd : Option (List Code)} {cn : PySem.Str} {cs : Scope} {a : Addr} {ccd : Value} {cl : List (PySem.Str × Addr)} {outer : List Env}
    {A₀ : Around} {base h₀ : Heap} {L : Addr} {m : PySem.Str → Option Value} {s : Shared} {Q E : Value → Shared → Prop}
    (B : Below A₀ base outer h₀) (F : Fr h₀ L s.heap m) (X : (hdtop.heap_39 w.params).In h₀) (N : News h₀ L s.heap ((P, tabObj #[]) :: small)) (ne : ∀ q ∈ small, q.1 ≠ P) (T : Top p loose mean mg mb h₀) (hk : cs.kind = .function) (h1 : dp + (2 * d + 2) < recursionLimit) (h2 : un + (40 * d + 40) < cLine)
    (ret : ∀ r tl h' tk' ps, Fr h₀ L h' m → News h₀ L h' (tl ++ (P, tabObj ps) :: small) → (∀ q ∈ tl, s.heap.get? q.1 = none) → (∀ b o, b ≠ P → s.heap.get? b = some o → h'.get? b = some o) → post r tl → Q r { s with heap := h', toks := tk' }) :
    wpAny (model PySem.Challenge.rw_jc0016_01.row.prog w) (ktrTop dp un gd cn cs L a ccd cl outer) (call (.ref f) vs) Q E s :=
  by
  have c2 := c p loose mean mg mb dp un gd cn cs a ccd cl outer A₀ base h₀ L m s Q E B F X N ne T
  have c3 := c2 hk h1 h2
  exact c3 (fun r tl h' tk' ps a b cc d e => ret r tl h' tk' ps a b cc d e)
theorem seg14 (w : World) (p : Program) (loose : List PySem.Str) (mean : ExcName → Option Value) (mg mb : PySem.Str → Option Value) (dp un : Nat) (gd : Option (List Code)) (outer : List Env) (fa : Addr) (fcd : Value) (A₀ : Around) (base g : Heap) (L : Addr) (s : Shared) (E : Value → Shared → Prop) (h : Heap) (tk : Nat) (m : LMap) (rest : Led)
    (B : Below A₀ base outer g) (X : (hdtop.heap_39 w.params).In g) (T : Top p loose mean mg mb g) (hdp : dp + 10 < recursionLimit) (hun : un + 200 < cLine) (F : Fr g L h m) (sc R Kp Nm Ld D Ln : Addr) (kk kn kl : Nat) (us : List Value) (c : List Int) (hi : IntsAre us c) (hc : c.length = 11) (ns ln : Led) (hnl : ns.length = 4) (hns : ∀ (i : Nat) (q : Addr × Obj), ns[i]? = some q → NameAt c i q.2)
    (hln : ∀ q ∈ ln, q ∈ ns) (hsort : (sortI c).map (fun i => (ns.map fun q => Value.ref q.1).getD i .none) = ln.map fun q => Value.ref q.1) (o0 o3 : Obj) (hc0 : o0.data = .cell (some (.ref D))) (hc3 : o3.data = .cell (some (.ref Ln)))
    (N : News g L h ((171, tabObj #[]) :: (L + 1 + 1 + 1 + 1, o3) :: (L + 1, o0) :: (D, W.listOf us.toArray kk) :: (Nm, W.listOf (ns.map fun q => Value.ref q.1).toArray kn) :: (Ln, W.listOf (ln.map fun q => Value.ref q.1).toArray kl) :: (ns ++ rest)))
    (off : ∀ q ∈ (L + 1 + 1 + 1 + 1, o3) :: (L + 1, o0) :: (D, W.listOf us.toArray kk) :: (Nm, W.listOf (ns.map fun q => Value.ref q.1).toArray kn) :: (Ln, W.listOf (ln.map fun q => Value.ref q.1).toArray kl) :: (ns ++ rest), q.1 ≠ 171)
    (hm : HasL m [("script", .ref sc), ("rows", .ref R), ("kept", .ref Kp), ("names", .ref Nm), ("leads", .ref Ld)]) :
    wpAny (model PySem.Challenge.rw_jc0016_01.row.prog w) (lawA dp un gd L fa fcd outer) (exec (lawS 13) (lawE L fa fcd)) (fun f s' => Hold (f = .next ∧ ∃ h' tk' m' ps, s' = { s with heap := h', toks := tk' } ∧ Fr g L h' m' ∧ News g L h' ((171, tabObj ps) :: (L + 1 + 1 + 1 + 1, o3) :: (L + 1, o0) :: (D, W.listOf us.toArray kk) :: (Nm, W.listOf (ns.map fun q => Value.ref q.1).toArray kn) :: (Ln, W.listOf (ln.map fun q => Value.ref q.1).toArray kl) :: (ns ++ rest)) ∧ HasL m' [("script", .ref sc), ("rows", .ref R), ("kept", .ref Kp), ("names", .ref Nm), ("leads", .ref Ld)])) (fun _ _ => False) { s with heap := h, toks := tk } := by
  show wpAny _ (ktrTop _ _ _ _ ⟨_, [_, _, _, _, _, _, _, _, _, _, _, _, _, _, _, _, _, _, _, _, _, _, _, _], _, _, _⟩ _ _ _ (cellsFrom _ [_, _, _, _, _, _, _, _, _, _, _, _, _, _, _, _, _, _, _, _, _, _, _, _] _) _) (exec (Stmt.If _ _ _ _) (envOfC _ ⟨_, [_, _, _, _, _, _, _, _, _, _, _, _, _, _, _, _, _, _, _, _, _, _, _, _], _, _, _⟩ _ _ _)) _ _ _
  replace F := fr_canons F hm
  dsimp only [canonM] at F
  have hT : ∀ q ∈ ln, IsT3 q.2 := fun q hq => by
    obtain ⟨i, hi2⟩ := List.getElem?_of_mem (hln q hq)
    obtain ⟨u1, u2, u3, u4, u5⟩ := hns i q hi2
    exact ⟨_, _, _, u1, u2, u3, u4, u5⟩
  revert N off hln hsort
  apply names4c (ns := ns) hnl hns
  clear hnl hns
  intro a0 a1 a2 a3 t00 t01 t02 t10 t11 t12 t20 t21 t22 t30 t31 t32 k0 k1 k2 k3 hln hsort N off
  walk_at "go"
  rename Fr _ _ _ _ => F1
  rename News _ _ _ _ => N1
  refine' ConT.use (con_sorted w D Nm a0 a1 a2 a3 kk kn k0 k1 k2 k3 us c hi hc (c.getD (6 + 0) 0) ((c.getD 0 0).fmod 32) ((0 : Nat) : Int) (c.getD (6 + 1) 0) ((c.getD 1 0).fmod 32) ((1 : Nat) : Int) (c.getD (6 + 2) 0) ((c.getD 2 0).fmod 32) ((2 : Nat) : Int) (c.getD (6 + 3) 0) ((c.getD 3 0).fmod 32) ((3 : Nat) : Int) t00 t01 t02 t10 t11 t12 t20 t21 t22 t30 t31 t32 (by decide) (by decide) (by decide) (by decide) (by decide) (by decide) _ _ _ rfl rfl rfl) ?k1 ?k2 ?k3 ?k4 ?k5 ?k6 ?k7 ?k8 ?k9 ?_
  (case k1 => k_asm)
  (case k2 => exact F1)
  (case k3 => k_asm)
  (case k4 => exact cb_drop N1 (by repeat' (first | exact al_nil | exact at_head | refine al_cons ?_ ?_ | refine at_tail ?_)))
  (case k5 => exact fun q hq => off q (led_use (by repeat' (first | exact al_nil | exact at_head | refine al_cons ?_ ?_ | refine at_tail ?_)) hq))
  (case k6 => k_asm)
  (case k7 => exact rfl)
  (case k8 => lia)
  (case k9 => lia)
  rintro r tl h9 tk9 ps F9 N9 ap9 kp9 ⟨D9, kk9, rfl, rfl⟩
  have e := hsort
  unfold sortI bI nI at e
  simp only [List.map_cons, List.map_nil] at e
  rw [e] at N9
  have N8 : News g L h9 ((171, tabObj ps) :: (L + 1 + 1 + 1 + 1, o3) :: (L + 1, o0) :: (D, W.listOf us.toArray kk) :: (Nm, W.listOf ([(a0, tup #[.int (c.getD (6 + 0) 0) t00, .int ((c.getD 0 0).fmod 32) t01, .int ((0 : Nat) : Int) t02] k0), (a1, tup #[.int (c.getD (6 + 1) 0) t10, .int ((c.getD 1 0).fmod 32) t11, .int ((1 : Nat) : Int) t12] k1), (a2, tup #[.int (c.getD (6 + 2) 0) t20, .int ((c.getD 2 0).fmod 32) t21, .int ((2 : Nat) : Int) t22] k2), (a3, tup #[.int (c.getD (6 + 3) 0) t30, .int ((c.getD 3 0).fmod 32) t31, .int ((3 : Nat) : Int) t32] k3)].map fun q => Value.ref q.1).toArray kn) :: (Ln, W.listOf (ln.map fun q => Value.ref q.1).toArray kl) :: ([(a0, tup #[.int (c.getD (6 + 0) 0) t00, .int ((c.getD 0 0).fmod 32) t01, .int ((0 : Nat) : Int) t02] k0), (a1, tup #[.int (c.getD (6 + 1) 0) t10, .int ((c.getD 1 0).fmod 32) t11, .int ((1 : Nat) : Int) t12] k1), (a2, tup #[.int (c.getD (6 + 2) 0) t20, .int ((c.getD 2 0).fmod 32) t21, .int ((2 : Nat) : Int) t22] k2), (a3, tup #[.int (c.getD (6 + 3) 0) t30, .int ((c.getD 3 0).fmod 32) t31, .int ((3 : Nat) : Int) t32] k3)] ++ rest)) := fun q hq => by
    rcases List.mem_cons.mp hq with rfl | hq
    · exact N9 _ (List.mem_append_right _ (List.Mem.head _))
    · exact ⟨kp9 _ _ (off q hq) (N1 q (List.mem_cons_of_mem _ hq)).1, (N1 q (List.mem_cons_of_mem _ hq)).2⟩
  have hD := (N9 _ (List.Mem.head _)).1
  have hLn := (N8 (Ln, W.listOf (ln.map fun q => Value.ref q.1).toArray kl) (by simp)).1
  refine ne_names hLn hD rfl rfl rfl rfl (fun q hq => ⟨hT q hq, (N8 q ?_).1⟩) ?_ ?_
  · have := hln q hq
    exact List.mem_cons_of_mem _ (List.mem_cons_of_mem _ (List.mem_cons_of_mem _ (List.mem_cons_of_mem _ (List.mem_cons_of_mem _ (List.mem_cons_of_mem _ (List.mem_append_left _ this))))))
  · show un + 64 < cLine
    lia
  walk_at "go"
  exact Hold.of ⟨rfl, mks_4_3 _ _ _ _ rfl F9 N8 ⟨rfl, rfl, rfl, rfl, rfl, trivial⟩⟩
end

section -- seg15
theorem fresh_seg15 {M : Model} {A : Around} {Q : Flow → Shared → Prop} {E : Value → Shared → Prop} {s : Shared} {env : Env} {pos : Pos} (h : wpAny M A (exec (.Pass pos) env) Q E s) : wpAny M A (exec (.Pass pos) env) Q E s := by
  w_top off
  first | (walk1; fail "fresh") | exact h
local macro_rules | `(tactic| walk_at "call ref") => `(tactic| (k_here; k_dflt (refine' Con.useV (con_compare _ _ _ _ _ _ _ _ _ _ _ _ _ _ _ _ _ _ _ _ _ _ _ _ _ _ _ _ _ _ _ _ _ _ _ ?p1) ?k9 ?_; (case k9 => (refine' sub7 ?a1 ?a2 ?a3 ?a4 ?a5 ?a6 ?a7; (all_goals (repeat' (first | exact List.Mem.head _ | assumption | apply List.Mem.tail))))); (case p1 => assumption); intro t9 h9 tk9 F9 N9)))
noncomputable def matI (i j : Nat) : Int := if i = j then 0 else if i < j then -1 else 1
theorem ints4 {vs : List Value} {a b c d : Int} (h : IntsAre vs [a, b, c, d]) : ∃ t0 t1 t2 t3, vs = [.int a t0, .int b t1, .int c t2, .int d t3] := by
  cases h with
  | cons _ t0 h => cases h with
    | cons _ t1 h => cases h with
      | cons _ t2 h => cases h with
        | cons _ t3 h => cases h with
          | nil => exact ⟨_, _, _, _, rfl⟩
theorem mat4c {rs : Led} {G : Led → Prop} (hl : rs.length = 4) (h : ∀ (j : Nat) (q : Addr × Obj), rs[j]? = some q → ∃ vj kj, q.2 = W.listOf vj.toArray kj ∧ IntsAre vj ((List.range 4).map (matI j)))
    (g : ∀ r0 r1 r2 r3 k0 k1 k2 k3 a0 a1 a2 a3 b0 b1 b2 b3 c0 c1 c2 c3 d0 d1 d2 d3, G [(r0, W.listOf [.int 0 a0, .int (-1) a1, .int (-1) a2, .int (-1) a3].toArray k0), (r1, W.listOf [.int 1 b0, .int 0 b1, .int (-1) b2, .int (-1) b3].toArray k1), (r2, W.listOf [.int 1 c0, .int 1 c1, .int 0 c2, .int (-1) c3].toArray k2), (r3, W.listOf [.int 1 d0, .int 1 d1, .int 1 d2, .int 0 d3].toArray k3)]) : G rs := by
  obtain ⟨⟨r0, p0⟩, ⟨r1, p1⟩, ⟨r2, p2⟩, ⟨r3, p3⟩, rfl⟩ := led4 hl
  obtain ⟨v0, k0, e0, h0⟩ := h 0 _ rfl
  obtain ⟨v1, k1, e1, h1⟩ := h 1 _ rfl
  obtain ⟨v2, k2, e2, h2⟩ := h 2 _ rfl
  obtain ⟨v3, k3, e3, h3⟩ := h 3 _ rfl
  clear h hl
  replace e0 : p0 = _ := e0
  replace e1 : p1 = _ := e1
  replace e2 : p2 = _ := e2
  replace e3 : p3 = _ := e3
  subst e0 e1 e2 e3
  obtain ⟨_, _, _, _, rfl⟩ := ints4 (show IntsAre v0 [0, -1, -1, -1] from h0)
  obtain ⟨_, _, _, _, rfl⟩ := ints4 (show IntsAre v1 [1, 0, -1, -1] from h1)
  obtain ⟨_, _, _, _, rfl⟩ := ints4 (show IntsAre v2 [1, 1, 0, -1] from h2)
  obtain ⟨_, _, _, _, rfl⟩ := ints4 (show IntsAre v3 [1, 1, 1, 0] from h3)
  exact g ..
theorem seg15 (w : World) (p : Program) (loose : List PySem.Str) (mean : ExcName → Option Value) (mg mb : PySem.Str → Option Value) (dp un : Nat) (gd : Option (List Code)) (outer : List Env) (fa : Addr) (fcd : Value) (A₀ : Around) (base g : Heap) (L : Addr) (s : Shared) (E : Value → Shared → Prop) (h : Heap) (tk : Nat) (m : LMap) (rest : Led)
    (B : Below A₀ base outer g) (X : (hdtop.heap_39 w.params).In g) (T : Top p loose mean mg mb g) (hdp : dp + 10 < recursionLimit) (hun : un + 200 < cLine) (F : Fr g L h m) (sc R Kp Nm Ld Ln cx dx cl ta tb : Addr) (hk : Int) (kl ka kb kd kll : Nat) (i0 d1 d2 : Int) (tkc u1 u2 u3 u4 : Tok) (ln : Led) (hi : i0 = 0 ∨ i0 = 1) (hlen : ln.length = 4) (hns : ∀ q ∈ ln, ∃ b n k t1 t2 t3 kq, q.2 = tup #[.int b t1, .int n t2, .int k t3] kq)
    (hmat : ∀ (i j : Nat) (q x : Addr × Obj), ln[i]? = some q → ln[j]? = some x → cmpQ i0 d1 d2 q x = matI i j)
    (o2 o3 : Obj) (hc2 : o2.data = .cell (some (.ref cx))) (hc3 : o3.data = .cell (some (.ref Ln)))
    (N : News g L h ((L + 1 + 1 + 1 + 1, o3) :: (L + 1 + 1 + 1, o2) :: (Ln, W.listOf (ln.map fun q => Value.ref q.1).toArray kll) :: (cx, instObj 87 dx) :: (dx, dictOf [⟨hk, .str (PySem.Str.ofString "comp_select_list") tkc, .ref cl⟩] kd) :: (cl, W.listOf #[.ref ta, .ref tb] kl) :: (ta, tup #[.int i0 u1, .int d1 u2] ka) :: (tb, tup #[.int 2 u3, .int d2 u4] kb) :: (ln ++ rest)))
    (hm : HasL m [("script", .ref sc), ("rows", .ref R), ("kept", .ref Kp), ("names", .ref Nm), ("leads", .ref Ld)]) :
    wpAny (model PySem.Challenge.rw_jc0016_01.row.prog w) (lawA dp un gd L fa fcd outer) (exec (lawS 14) (lawE L fa fcd)) (fun f s' => Hold (f = .next ∧ ∃ h' tk' m', s' = { s with heap := h', toks := tk' } ∧ Fr g L h' m' ∧ News g L h' ((L + 1 + 1 + 1 + 1, o3) :: (L + 1 + 1 + 1, o2) :: (Ln, W.listOf (ln.map fun q => Value.ref q.1).toArray kll) :: (cx, instObj 87 dx) :: (dx, dictOf [⟨hk, .str (PySem.Str.ofString "comp_select_list") tkc, .ref cl⟩] kd) :: (cl, W.listOf #[.ref ta, .ref tb] kl) :: (ta, tup #[.int i0 u1, .int d1 u2] ka) :: (tb, tup #[.int 2 u3, .int d2 u4] kb) :: (ln ++ rest)) ∧ HasL m' [("script", .ref sc), ("rows", .ref R), ("kept", .ref Kp), ("names", .ref Nm), ("leads", .ref Ld)])) (fun _ _ => False) { s with heap := h, toks := tk } := by
  show wpAny _ (ktrTop _ _ _ _ ⟨_, [_, _, _, _, _, _, _, _, _, _, _, _, _, _, _, _, _, _, _, _, _, _, _, _], _, _, _⟩ _ _ _ (cellsFrom _ [_, _, _, _, _, _, _, _, _, _, _, _, _, _, _, _, _, _, _, _, _, _, _, _] _) _) (exec (Stmt.If _ _ _ _) (envOfC _ ⟨_, [_, _, _, _, _, _, _, _, _, _, _, _, _, _, _, _, _, _, _, _, _, _, _, _], _, _, _⟩ _ _ _)) _ _ _
  replace F := fr_canons F hm
  dsimp only [canonM] at F
  walk_at "goc"
  k_here
  k_dflt (refine ListComp_V (F₀ := by k_asm) (by with_unfolding_all rfl) (by rfl) (fun _ => rfl) (fun _ => rfl) (by decide) (fun _ _ => rfl) ?_)
  walk_at "goc"
  rename Fr _ _ _ _ => F1
  rename News _ _ _ _ => N1
  have esz : (ln.map fun q => Value.ref q.1).toArray.size = 4 := by rw [List.size_toArray, List.length_map, hlen]
  refine SrcV.list (its := (ln.map fun q => Value.ref q.1).toArray) (k := kll) (fun i ys news => ∃ rs : Led, news = (L + 1 + 1 + 1 + 1, o3) :: (L + 1 + 1 + 1, o2) :: (Ln, W.listOf (ln.map fun q => Value.ref q.1).toArray kll) :: (cx, instObj 87 dx) :: (dx, dictOf [⟨hk, .str (PySem.Str.ofString "comp_select_list") tkc, .ref cl⟩] kd) :: (cl, W.listOf #[.ref ta, .ref tb] kl) :: (ta, tup #[.int i0 u1, .int d1 u2] ka) :: (tb, tup #[.int 2 u3, .int d2 u4] kb) :: (rs ++ (ln ++ rest)) ∧ rs.length = i ∧ ys = rs.map (fun q => Value.ref q.1) ∧ ∀ (j : Nat) (q : Addr × Obj), rs[j]? = some q → ∃ vj kj, q.2 = W.listOf vj.toArray kj ∧ IntsAre vj ((List.range 4).map (matI j))) rfl F1 N1 (List.Mem.tail _ (List.Mem.tail _ (List.Mem.head _))) (by rw [esz]; decide) ?_ ?_ ?_
  · clear F1 N1
    rw [esz]
    rintro i v I oI C oC D cc oc ys news h tk E' hi4 ex9
    apply exs_1_3 ex9
    clear ex9
    rintro rs hrl rfl hrs hv hoc F1 N1 off ne neL
    obtain ⟨qa, qo, hqi⟩ : ∃ qa qo, ln[i]? = some (qa, qo) := ⟨_, _, List.getElem?_eq_getElem (by lia)⟩
    have ev : v = .ref qa := by
      have hv2 : (ln.map fun q => Value.ref q.1)[i]? = some v := by simpa using hv
      rw [List.getElem?_map, hqi] at hv2
      exact (Option.some.inj hv2).symm
    subst ev
    have hqm : (qa, qo) ∈ rs ++ (ln ++ rest) := List.mem_append_right _ (List.mem_append_left _ (List.mem_of_getElem? hqi))
    simp only [List.cons_append, List.nil_append] at N1
    walk_at "goc"
    k_here
    k_dflt (refine LCg.ListComp_U (F₀ := by k_asm) (by with_unfolding_all rfl) (by decide) (by rfl) (by decide) (by rfl) ?_)
    walk_at "goc"
    rename Fr _ _ _ _ => F2
    rename News _ _ _ _ => N2
    refine ex_7 (hns _ (List.mem_of_getElem? hqi)) ?_
    intro b1 n1 k1 t1 t2 t3 kq1 e1
    replace e1 : qo = _ := e1
    subst e1
    refine LCg.CompSrc.ledger (its := (ln.map fun q => Value.ref q.1).toArray) (k := kll) (by rfl) F2 N2 (List.Mem.tail _ (List.Mem.tail _ (List.Mem.tail _ (List.Mem.tail _ (List.Mem.tail _ (List.Mem.tail _ (List.Mem.head _))))))) (by rw [esz]; decide) ?_
    intro g'
    rw [esz]
    refine comp_inv (n := 4) (fun j ys2 news2 => news2 = (I, oI) :: (C, oC) :: (D, LCg.lst (rs.map fun q => Value.ref q.1)) :: (cc, oc) :: (L + 1 + 1 + 1 + 1, o3) :: (L + 1 + 1 + 1, o2) :: (Ln, W.listOf (ln.map fun q => Value.ref q.1).toArray kll) :: (cx, instObj 87 dx) :: (dx, dictOf [⟨hk, .str (PySem.Str.ofString "comp_select_list") tkc, .ref cl⟩] kd) :: (cl, W.listOf #[.ref ta, .ref tb] kl) :: (ta, tup #[.int i0 u1, .int d1 u2] ka) :: (tb, tup #[.int 2 u3, .int d2 u4] kb) :: (rs ++ (ln ++ rest)) ∧ IntsAre ys2 ((List.range j).map (matI i))) ?_ ?_ 4 0 [] _ rfl ⟨rfl, .nil⟩
    · clear F2 N2
      rintro j v I2 oI2 C2 oC2 D2 m2 ys2 news2 h2 tk2 E2 hj ex9
      apply exs_0_1 ex9
      clear ex9
      rintro hy hv2 hC2 hx2 F1 N1 off2 ne2
      obtain ⟨xa, xo, hxj⟩ : ∃ xa xo, ln[j]? = some (xa, xo) := ⟨_, _, List.getElem?_eq_getElem (by lia)⟩
      have ev : v = .ref xa := by
        have hv3 : (ln.map fun q => Value.ref q.1)[j]? = some v := by simpa using hv2
        rw [List.getElem?_map, hxj] at hv3
        exact (Option.some.inj hv3).symm
      subst ev
      have hxm : (xa, xo) ∈ rs ++ (ln ++ rest) := List.mem_append_right _ (List.mem_append_left _ (List.mem_of_getElem? hxj))
      refine ex_7 (hns _ (List.mem_of_getElem? hxj)) ?_
      intro b2 n2 k2 t4 t5 t6 kq2 e2
      replace e2 : xo = _ := e2
      subst e2
      have hmm := hmat i j _ _ hqi hxj
      walk_at "goc"
      rename Fr _ _ _ _ => F3
      rename News _ _ _ _ => N3
      refine mkC _ _ _ rfl F3 N3 off2 (Or.inr ⟨_, List.Mem.tail _ (List.Mem.tail _ (List.Mem.tail _ (List.Mem.tail _ (List.Mem.tail _ (List.Mem.tail _ (List.Mem.head _)))))), rfl, _, rfl⟩) ⟨rfl, ?_⟩
      rw [map_range_succ, ← hmm]
      exact ints_snoc hy _ _
    · rintro ys2 news2 ex9
      apply exs_0_1 ex9
      clear ex9
      rintro hy D2 h2 tk2 F3 N3 o1
      have o2' := off1_mem o1
      have hrt : rs ++ [(D2, LCg.lst ys2)] = rs ++ [(D2, LCg.lst ys2)] := rfl
      refine mkV _ _ ((L + 1 + 1 + 1 + 1, o3) :: (L + 1 + 1 + 1, o2) :: (Ln, W.listOf (ln.map fun q => Value.ref q.1).toArray kll) :: (cx, instObj 87 dx) :: (dx, dictOf [⟨hk, .str (PySem.Str.ofString "comp_select_list") tkc, .ref cl⟩] kd) :: (cl, W.listOf #[.ref ta, .ref tb] kl) :: (ta, tup #[.int i0 u1, .int d1 u2] ka) :: (tb, tup #[.int 2 u3, .int d2 u4] kb) :: ((rs ++ [(D2, LCg.lst ys2)]) ++ (ln ++ rest))) rfl F3 (cb_drop N3 (fun q hq => ?_)) (fun q hq => ?_) (Or.inr ⟨_, List.Mem.tail _ (List.Mem.tail _ (List.Mem.head _)), rfl, _, rfl⟩) (mks_1_3 (rs ++ [(D2, LCg.lst ys2)]) rfl (by simp [hrl]) (by simp) (fun j q hq => ?_))
      · exact led_use (by walk_at "led sub") hq
      · have hq2 : q ∈ (D2, LCg.lst ys2) :: ((L + 1 + 1 + 1 + 1, o3) :: (L + 1 + 1 + 1, o2) :: (Ln, W.listOf (ln.map fun q => Value.ref q.1).toArray kll) :: (cx, instObj 87 dx) :: (dx, dictOf [⟨hk, .str (PySem.Str.ofString "comp_select_list") tkc, .ref cl⟩] kd) :: (cl, W.listOf #[.ref ta, .ref tb] kl) :: (ta, tup #[.int i0 u1, .int d1 u2] ka) :: (tb, tup #[.int 2 u3, .int d2 u4] kb) :: (rs ++ (ln ++ rest))) := led_use (by walk_at "led sub") hq
        rcases List.mem_cons.mp hq2 with rfl | hq2
        · exact ⟨(o2' (I, oI) (by simp)).symm, (o2' (C, oC) (by simp)).symm, (o2' (D, LCg.lst (rs.map fun q => Value.ref q.1)) (by simp)).symm, (o2' (cc, oc) (by simp)).symm⟩
        · exact off q hq2
      · rcases get_snoc hq with ⟨h1, h2⟩ | ⟨h1, h2⟩
        · exact hrs j q h2
        · rw [h2]
          have ej : j = i := by lia
          rw [ej]
          exact ⟨ys2, _, rfl, hy⟩
  · clear F1 N1
    rw [esz]
    rintro D2 h2 tk2 ys2 news2 ex9
    apply exs_1_3 ex9
    clear ex9
    rintro rs hrl rfl hrs
    apply mat4c (rs := rs) hrl hrs
    clear hrl hrs
    intro r0 r1 r2 r3 k0 k1 k2 k3 _ _ _ _ _ _ _ _ _ _ _ _ _ _ _ _ F1 N1 o1
    simp only [List.cons_append, List.nil_append, List.map_cons, List.map_nil] at N1
    walk_at "goc"
    rename Fr _ _ _ _ => F9
    rename News _ _ _ _ => N9
    have N8 : News g L _ ((L + 1 + 1 + 1 + 1, o3) :: (L + 1 + 1 + 1, o2) :: (Ln, W.listOf (ln.map fun q => Value.ref q.1).toArray kll) :: (cx, instObj 87 dx) :: (dx, dictOf [⟨hk, .str (PySem.Str.ofString "comp_select_list") tkc, .ref cl⟩] kd) :: (cl, W.listOf #[.ref ta, .ref tb] kl) :: (ta, tup #[.int i0 u1, .int d1 u2] ka) :: (tb, tup #[.int 2 u3, .int d2 u4] kb) :: (ln ++ rest)) := cb_drop N9 (fun q hq => by
      exact led_use (by walk_at "led sub") hq)
    exact Hold.of ⟨rfl, mks_3_3 _ _ _ rfl F9 N8 ⟨rfl, rfl, rfl, rfl, rfl, trivial⟩⟩
  · exact mks_1_3 ([]) rfl rfl rfl (fun _ _ h => by simp at h)
end

section -- count
theorem fresh_count {M : Model} {A : Around} {Q : Flow → Shared → Prop} {E : Value → Shared → Prop} {s : Shared} {env : Env} {pos : Pos} (h : wpAny M A (exec (.Pass pos) env) Q E s) : wpAny M A (exec (.Pass pos) env) Q E s := by
  w_top off
  first | (walk1; fail "fresh") | exact h
theorem con_count (w : World) (d : Addr) (o : Obj) (a : KV) (lo : (d == sysModules) = false) (D : DictI w o a) :
    Con w 0 105 [.ref d] [(d, o)] (fun v tl => tl = [] ∧ ∃ t, v = .int ((a.map (·.2)).sum) t) := by
  walk_at "con plain"
  rename_i p loose mean mg mb dp un gd outer A₀ base g L h0 tk0 s B F X N T hdp hun l1
  walk_at "go"
  rename_i h2 F1 N1
  have tab1 : ∀ {h : Heap} {n : Led}, News g L h n → (d, o) ∈ n → TabAt (PySem.strKind progN w) PyData.str h d (kvD a) := fun N hm => D.tab N hm lo
  k_here
  (with_unfolding_all ((refine' For_turns F1 ?_); k_whole; (refine MethodCall_ ?_); (refine ld F1 (by rfl) ?_); (refine getMethod_tab (knd := PySem.strKind progN w) (enc := PyData.str) PySem.F.slot_dict_values PySem.F.type_dict_values (tab1 N1 (by k_mem)) ?_); (refine callWith_method0 ?_); (refine call_values_tab (knd := PySem.strKind progN w) (enc := PyData.str) (tab1 N1 (by k_mem)) F1 N1 ?_)))
  intro h3 o3 hv3 F2 N2
  replace N2 := kti_tail N2
  have hxs : (kvD a).map (fun p => Itm.flat p.2) = a.map fun p => Itm.flat (.int p.2) := by unfold kvD; rw [List.map_map]; rfl
  refine kti_vals (knd := PySem.strKind progN w) (enc := PyData.str) (xs := a.map fun p => Itm.flat (.int p.2)) (by rfl) F2 N2 hv3 (tab1 N2 (by k_mem)) (by k_mem) hxs ?_
  intro I hI
  k_lt hI
  refine items_inv (fun xs m' n' => ∃ (dn rest : KV) (t : Tok), n' = [(d, o)] ∧ a = dn ++ rest ∧ xs = (rest.map fun p => Itm.flat (.int p.2)) ∧ HasL m' [("nc", .int ((dn.map (·.2)).sum) t)]) ?_ ?_ _ _ _ ?_
  · clear F1 N1 F2 N2 hv3
    rintro it r m' n' v h tk ex9
    apply exs_3_3 ex9
    clear ex9
    rintro dn rest t ea ex m1 hv F1
    cases rest with
    | nil => cases ex
    | cons q rest =>
      have e1 := (List.cons.inj ex).1
      have e2 := (List.cons.inj ex).2
      subst e1
      subst e2
      obtain ⟨tx, rfl⟩ := PyProof.V.Flat.int_inv hv
      refine AllObj.cons (fun oI hcI => AllObj.nil (fun N1 => ?_))
      simp only [List.cons_append, List.nil_append] at N1
      replace F1 := fr_canons F1 m1
      dsimp only [canonM] at F1
      walk_at "go"
      rename Fr _ _ _ _ => F3
      rename News _ _ _ _ => N3
      have es : ((dn ++ [q]).map (·.2)).sum = (dn.map (·.2)).sum + q.2 := by simp
      exact mkW _ _ _ ([(d, o)]) rfl F3 N3 (fun x hx y hy => by rw [List.mem_singleton.mp hy]; exact off1 hI off0 x hx) ⟨by k_subL, (mks_3_3 (dn ++ [q]) rest _ rfl (by rw [ea]; simp) rfl ⟨(by rw [es]; rfl), trivial⟩)⟩
  · clear F1 N1 F2 N2 hv3
    rintro m' n' h tk ex9
    apply exs_3_3 ex9
    clear ex9
    rintro dn rest t ea ex m1 F1 N1
    cases rest with
    | cons q rest => cases ex
    | nil =>
      rw [List.append_nil] at ea
      subst ea
      replace F1 := fr_canons F1 m1
      dsimp only [canonM] at F1
      walk_at "go"
      dsimp only
      exact mkD _ _ ([]) F1 N1 (fun _ h => nomatch h) ⟨rfl, _, rfl⟩ _ _ rfl
  · exact mks_3_3 ([]) a _ rfl rfl rfl ⟨rfl, trivial⟩
end

section -- seg16
theorem fresh_seg16 {M : Model} {A : Around} {Q : Flow → Shared → Prop} {E : Value → Shared → Prop} {s : Shared} {env : Env} {pos : Pos} (h : wpAny M A (exec (.Pass pos) env) Q E s) : wpAny M A (exec (.Pass pos) env) Q E s := by
  w_top off
  first | (walk1; fail "fresh") | exact h
local macro_rules | `(tactic| walk_at "call ref") => `(tactic| (k_here; (with_reducible show wpAny _ _ (call (Value.ref 105) _) _ _ _)))
local macro_rules | `(tactic| walk_at "halt") => `(tactic| (with_reducible show wpAny _ _ (call (Value.ref 105) _) _ _ _))
theorem seg16 (w : World) (p : Program) (loose : List PySem.Str) (mean : ExcName → Option Value) (mg mb : PySem.Str → Option Value) (dp un : Nat) (gd : Option (List Code)) (outer : List Env) (fa : Addr) (fcd : Value) (A₀ : Around) (base g : Heap) (L : Addr) (s : Shared) (E : Value → Shared → Prop) (h : Heap) (tk : Nat) (m : LMap) (rest : Led)
    (B : Below A₀ base outer g) (X : (hdtop.heap_39 w.params).In g) (T : Top p loose mean mg mb g) (hdp : dp + 10 < recursionLimit) (hun : un + 200 < cLine) (F : Fr g L h m) (sc R Kp Nm Ld P T9 : Addr) (kt kp : Nat) (ts rs : Led) (K : Nat → KV) (hlen : ts.length = 16) (hts : ∀ (i : Nat) (q : Addr × Obj), ts[i]? = some q → IsDict w q (K i)) (hrl : rs.length = 4) (rows : Nat → List Int) (hrs : ∀ (j : Nat) (q : Addr × Obj), rs[j]? = some q → ∃ vj kj, q.2 = W.listOf vj.toArray kj ∧ IntsAre vj (rows j) ∧ (rows j).length = 4)
    (hval : ((K 15).map (·.2)).sum = (rows 0).sum + (rows 1).sum + (rows 2).sum + (rows 3).sum) (o1 o4 : Obj) (hc1 : o1.data = .cell (some (.ref T9))) (hc4 : o4.data = .cell (some (.ref P)))
    (N : News g L h ((L + 1 + 1, o1) :: (L + 1 + 1 + 1 + 1 + 1, o4) :: (T9, W.listOf (ts.map fun q => Value.ref q.1).toArray kt) :: (P, W.listOf (rs.map fun q => Value.ref q.1).toArray kp) :: (rs ++ (ts ++ rest)))) (hm : HasL m [("script", .ref sc), ("rows", .ref R), ("kept", .ref Kp), ("names", .ref Nm), ("leads", .ref Ld)]) :
    wpAny (model PySem.Challenge.rw_jc0016_01.row.prog w) (lawA dp un gd L fa fcd outer) (exec (lawS 15) (lawE L fa fcd)) (fun f s' => Hold (f = .next ∧ ∃ h' tk' m', s' = { s with heap := h', toks := tk' } ∧ Fr g L h' m' ∧ News g L h' ((L + 1 + 1, o1) :: (L + 1 + 1 + 1 + 1 + 1, o4) :: (T9, W.listOf (ts.map fun q => Value.ref q.1).toArray kt) :: (P, W.listOf (rs.map fun q => Value.ref q.1).toArray kp) :: (rs ++ (ts ++ rest))) ∧ HasL m' [("script", .ref sc), ("rows", .ref R), ("kept", .ref Kp), ("names", .ref Nm), ("leads", .ref Ld)])) (fun _ _ => False) { s with heap := h, toks := tk } := by
  show wpAny _ (ktrTop _ _ _ _ ⟨_, [_, _, _, _, _, _, _, _, _, _, _, _, _, _, _, _, _, _, _, _, _, _, _, _], _, _, _⟩ _ _ _ (cellsFrom _ [_, _, _, _, _, _, _, _, _, _, _, _, _, _, _, _, _, _, _, _, _, _, _, _] _) _) (exec (Stmt.If _ _ _ _) (envOfC _ ⟨_, [_, _, _, _, _, _, _, _, _, _, _, _, _, _, _, _, _, _, _, _, _, _, _, _], _, _, _⟩ _ _ _)) _ _ _
  replace F := fr_canons F hm
  dsimp only [canonM] at F
  refine ex_2 (show ∃ da dob, ts[15]? = some (da, dob) from ⟨_, _, List.getElem?_eq_getElem (by lia)⟩) ?_
  intro da dob hdj
  have dlo := (hts _ _ hdj).1
  have hdD := (hts _ _ hdj).2
  have hdm : (da, dob) ∈ rs ++ (ts ++ rest) := List.mem_append_right _ (List.mem_append_left _ (List.mem_of_getElem? hdj))
  have hget : (ts.map fun q => Value.ref q.1)[(15 : Int).toNat]? = some (.ref da) := by
    show (ts.map fun q => Value.ref q.1)[15]? = _
    rw [List.getElem?_map, hdj]
    rfl
  walk_at "goc"
  rename Fr _ _ _ _ => F1
  rename News _ _ _ _ => N1
  refine' Con.use (con_count w da dob (K 15) dlo hdD) ?k1 ?k2 ?k3 ?k4 ?k5 ?k6 ?k7 ?k8 ?k9 ?_
  (case k1 => k_asm)
  (case k2 => exact F1)
  (case k3 => k_asm)
  (case k4 => exact N1)
  (case k5 => k_asm)
  (case k6 => exact rfl)
  (case k7 => lia)
  (case k8 => lia)
  (case k9 => (intro q hq; rw [List.mem_singleton.mp hq]; (repeat' (first | assumption | apply List.Mem.tail))))
  rintro r9 tl9 h9 tk9 F9 N9 ap9 st9 ⟨rfl, t9, rfl⟩
  simp only [List.nil_append] at N9
  clear F1 N1 st9
  walk_at "goc"
  k_here
  k_dflt (refine LCg.ListComp_U (F₀ := by k_asm) (by with_unfolding_all rfl) (by decide) (by rfl) (by decide) (by rfl) ?_)
  walk_at "goc"
  rename Fr _ _ _ _ => F2
  rename News _ _ _ _ => N2
  have esz : (rs.map fun q => Value.ref q.1).toArray.size = 4 := by rw [List.size_toArray, List.length_map, hrl]
  refine LCg.CompSrc.ledger (its := (rs.map fun q => Value.ref q.1).toArray) (k := kp) (by rfl) F2 N2 (List.Mem.tail _ (List.Mem.tail _ (List.Mem.tail _ (List.Mem.head _)))) (by rw [esz]; decide) ?_
  intro g'
  rw [esz]
  refine comp_inv (n := 4) (fun j ys2 news2 => news2 = (L + 1 + 1, o1) :: (L + 1 + 1 + 1 + 1 + 1, o4) :: (T9, W.listOf (ts.map fun q => Value.ref q.1).toArray kt) :: (P, W.listOf (rs.map fun q => Value.ref q.1).toArray kp) :: (rs ++ (ts ++ rest)) ∧ IntsAre ys2 ((List.range j).map fun i => (rows i).sum)) ?_ ?_ 4 0 [] _ rfl ⟨rfl, .nil⟩
  · clear F2 N2
    rintro j v I2 oI2 C2 oC2 D2 m2 ys2 news2 h2 tk2 E2 hj ex9
    apply exs_0_1 ex9
    clear ex9
    rintro hy hv hC2 hx2 F1 N1 off2 ne2
    refine ex_2 (show ∃ qa qo, rs[j]? = some (qa, qo) from ⟨_, _, List.getElem?_eq_getElem (by lia)⟩) ?_
    intro qa qo hqj
    have ev : v = .ref qa := by
      have hv3 : (rs.map fun q => Value.ref q.1)[j]? = some v := by simpa using hv
      rw [List.getElem?_map, hqj] at hv3
      exact (Option.some.inj hv3).symm
    subst ev
    refine ex_2 (hrs j _ hqj) ?_
    intro vj kj h9
    have eo := h9.1
    have hvj := h9.2.1
    have hrj := h9.2.2
    clear h9
    replace eo : qo = _ := eo
    subst eo
    have hqm : (qa, W.listOf vj.toArray kj) ∈ rs ++ (ts ++ rest) := List.mem_append_left _ (List.mem_of_getElem? hqj)
    walk_at "goc"
    have hil : h2.IsList qa vj.toArray := ⟨_, (N1 (qa, W.listOf vj.toArray kj) (List.mem_cons_of_mem _ (List.mem_cons_of_mem _ (List.mem_cons_of_mem _ (List.mem_cons_of_mem _ (List.mem_cons_of_mem _ (List.mem_cons_of_mem _ (List.mem_cons_of_mem _ hqm)))))))).1, rfl, _, rfl⟩
    k_here
    refine' sumK ?k0 ?k1 ?k2 ?k3 ?k4 ?_
    (case k0 => with_unfolding_all rfl)
    (case k1 => exact F1)
    (case k2 => exact N1)
    (case k3 => exact hil)
    (case k4 => exact hvj)
    intro h3 tk3 t3 F3 N3
    walk_at "goc"
    refine mkC _ _ _ rfl F3 N3 off2 (Or.inr ⟨_, List.Mem.tail _ (List.Mem.tail _ (List.Mem.tail _ (List.Mem.head _))), rfl, _, rfl⟩) ⟨rfl, ?_⟩
    rw [map_range_succ]
    exact ints_snoc hy _ _
  · rintro ys2 news2 ex9
    apply exs_0_1 ex9
    clear ex9
    rintro hy D2 h2 tk2 F3 N3 o1
    have hval2 : ((K 15).map (·.2)).sum = ((List.range 4).map fun i => (rows i).sum).sum := by
      rw [hval]
      show _ = (rows 0).sum + ((rows 1).sum + ((rows 2).sum + ((rows 3).sum + 0)))
      lia
    walk_at "goc"
    · exact absurd hval2 (by assumption)
    · rename Fr _ _ _ _ => F9
      rename News _ _ _ _ => N9
      exact Hold.of ⟨rfl, mks_3_3 _ _ _ rfl F9 (kti_tail N9) ⟨rfl, rfl, rfl, rfl, rfl, trivial⟩⟩
end

section -- dlist
theorem fresh_dlist {M : Model} {A : Around} {Q : Flow → Shared → Prop} {E : Value → Shared → Prop} {s : Shared} {env : Env} {pos : Pos} (h : wpAny M A (exec (.Pass pos) env) Q E s) : wpAny M A (exec (.Pass pos) env) Q E s := by
  w_top off
  first | (walk1; fail "fresh") | exact h
open PySem.SeqAt PySem.MeetsSeq PySem.MeetsSeq2 PySem.MeetsSeq3 PySem.SeqRoads2 in
section
open PySem PySem.SeqAt PySem.MeetsSeq PySem.MeetsSeq2 PySem.MeetsSeq3 PySem.SeqRoads2
variable {prog : Program} {w : World}
/-- the two values are told equal -/
noncomputable def EqT (prog : Program) (w : World) (A : Around) (s : Shared) (y x : Value) : Prop := ∀ (E : Value → Shared → Prop) (Q : Bool → Shared → Prop), Q true s → wpAny (model prog w) A (eqBool y x) Q E s
theorem loopT (l b : Addr) (items items2 : Array Value) (n n2 : Nat) (hsz : items.size = items2.size) (k : Nat) :
    ∀ i : Nat, items.size - i = k → ∀ (A : Around) (R : Result → Shared → Prop) (s : Shared), s.heap.get? l = some { cls := .type "list", dict := none, data := .seq items n } → s.heap.get? b = some { cls := .type "list", dict := none, data := .seq items2 n2 } →
      (∀ j (h1 : j < items.size) (h2 : j < items2.size), EqT prog w A.in1 s items[j] items2[j]) → R (.ok (.ret (.bool true))) s →
      wpAny (model prog w) A.in1 (Builtin.«list.__eq__.loop» ⟨[.ref l, .ref b, rawInt i, rawInt 2], []⟩) (fun fin s' => match fin with | .done f => R (.ok f) s' | .again c' => c'.quiet = true ∧ codeAny (model prog w) A c' R s') (fun e s' => R (.error e) s') s := by
  induction k with
  | zero =>
    intro i hk A R s hl hb he h
    obtain ⟨hp, g, d, tk, os⟩ := s
    wp_walk using PySem.AutoSeq1.wpAny_loadPart' hl, PySem.AutoSeq1.wpAny_loadPart' hb
    have hi1 : items[((i : Nat) : Int).toNat]? = none := by simp; lia
    have hi2 : items2[((i : Nat) : Int).toNat]? = none := by simp; lia
    rw [hi1, hi2]
    wp_walk using PySem.AutoSeq1.wpAny_loadPart' hl, PySem.AutoSeq1.wpAny_loadPart' hb
    show R (.ok (.ret (.bool (items.size == items2.size)))) _
    rw [hsz, beq_self_eq_true]
    exact h
  | succ k ih =>
    intro i hk A R s hl hb he h
    obtain ⟨hp, g, d, tk, os⟩ := s
    wp_walk using PySem.AutoSeq1.wpAny_loadPart' hl, PySem.AutoSeq1.wpAny_loadPart' hb
    have hlt : i < items.size := by omega
    have hlt2 : i < items2.size := by lia
    have hi1 : items[((i : Nat) : Int).toNat]? = some items[i] := by simp [hlt]
    have hi2 : items2[((i : Nat) : Int).toNat]? = some items2[i] := by simp [hlt2]
    have hc : ((i : Int) + 1) = ((i + 1 : Nat) : Int) := by push_cast; rfl
    rw [hi1, hi2]
    refine wpAny_bind (he i hlt hlt2 _ _ ?_)
    wp_walk
    rw [hc]
    exact ⟨plainId_quiet plain_eq_loop _, codeAny_builtin entry_eq_loop (by
      rw [Around.under_plainId plain_eq_loop _]
      exact ih (i + 1) (by lia) A R _ hl hb he h)⟩
theorem eq_listT {A : Around} {E : Value → Shared → Prop} {s : Shared} {l b : Addr} {items items2 : Array Value} {n n2 : Nat} {Q : Value → Shared → Prop} (hl : s.heap.get? l = some { cls := .type "list", data := .seq items n }) (hb : s.heap.get? b = some { cls := .type "list", data := .seq items2 n2 }) (hsz : items.size = items2.size) (hu : A.units < cLine)
    (he : ∀ j (h1 : j < items.size) (h2 : j < items2.size), EqT prog w A.in1 s items[j] items2[j]) (h : Q (.bool true) s) : wpAny (model prog w) A (compareOp .Eq (.ref l) (.ref b)) Q E s := by
  have tl : s.TypeIs (.ref l) "list" := ⟨_, hl, rfl⟩
  have tb : s.TypeIs (.ref b) "list" := ⟨_, hb, rfl⟩
  have key : wpAny (model prog w) A.in1 (Builtin.«list.__eq__» ⟨[.ref l, .ref b], []⟩) (fun fin s' => match fin with | .done f => wants (fun v s' => v ≠ .notImplemented ∧ Q v s') E (.ok f) s' | .again c' => c'.quiet = true ∧ codeAny (model prog w) A c' (wants (fun v s' => v ≠ .notImplemented ∧ Q v s') E) s') (fun e s' => wants (fun v s' => v ≠ .notImplemented ∧ Q v s') E (.error e) s') s := by
    obtain ⟨hp, g, d, tk, os⟩ := s
    have f3 := PySem.AutoSeq1.sub_list_list
    have hne : ¬ (items.size != items2.size) = true := by simp [hsz]
    wp_walk using PySem.AutoSeq1.wpAny_loadPart' hl, PySem.AutoSeq1.wpAny_loadPart' hb
    exact ⟨plainId_quiet plain_eq_loop _, codeAny_builtin entry_eq_loop (by
      rw [Around.under_plainId plain_eq_loop _]
      exact loopT l b items items2 n n2 hsz _ 0 rfl A _ _ hl hb he ⟨(fun x => nomatch x), h⟩)⟩
  exact wpAny_richCompare_same_room (op := .Eq) tl tb F.slot_list_eq (wpAny_call (codeAny_call_builtin F.slot_list_eq.plain F.entry_list_eq (F.slot_list_eq.check _ _ _ _ _ _ _ _ tl (F.args_list_eq_2 _ _) key))) hu
theorem eqT_refs {A : Around} {s : Shared} {l b : Addr} (hne : l ≠ b) (h : ∀ (E : Value → Shared → Prop) (Q : Value → Shared → Prop), Q (.bool true) s → wpAny (model prog w) A (richCompare .Eq (.ref l) (.ref b)) Q E s) : EqT prog w A s (.ref l) (.ref b) := fun E Q hq => by
  unfold eqBool
  refine wpAny_holding ?_
  refine wpAny_ite_split (fun hab => absurd (by have := eq_of_beq hab; injection this) hne) (fun _ => ?_)
  exact wpAny_bind (h E _ (wpAny_truthy_bool hq))
end
theorem getK_mid (p : PySem.Str × Int) (r : KV) : ∀ pre : KV, ((pre ++ p :: r).map (·.1)).Nodup → getK (pre ++ p :: r) p.1 = p.2 ∧ hasK (pre ++ p :: r) p.1 = true
  | [], _ => ⟨if_pos rfl, by show (decide (p.1 = p.1) || _) = true; simp⟩
  | q :: pre, h => by
    rw [List.cons_append, List.map_cons, List.nodup_cons] at h
    obtain ⟨h1, h2⟩ := getK_mid p r pre h.2
    have hne : ¬ q.1 = p.1 := fun e => h.1 (by rw [e]; exact List.mem_map_of_mem (List.mem_append_right _ (List.mem_cons_self ..)))
    refine ⟨?_, ?_⟩
    · show (if q.1 = p.1 then q.2 else getK (pre ++ p :: r) p.1) = p.2
      rw [if_neg hne]
      exact h1
    · show (decide (q.1 = p.1) || hasK (pre ++ p :: r) p.1) = true
      rw [h2, Bool.or_true]
theorem rows_self : ∀ (l : KV) (pre : KV), ((pre ++ l).map (·.1)).Nodup → KeqRows (kvD (pre ++ l)) (kvD l) true
  | [], _, _ => KeqRows.nil
  | p :: r, pre, h => by
    obtain ⟨h1, h2⟩ := getK_mid p r pre h
    have hl : PySem.Spec.lookup (.str p.1) (kvD (pre ++ p :: r)) = some (.int p.2) := by
      rw [kvD_lookup, h2, h1]
      rfl
    have ih := rows_self r (pre ++ [p]) (by rw [List.append_assoc]; exact h)
    rw [List.append_assoc] at ih
    have := KeqRows.hit (k := .str p.1) (v := .int p.2) hl ih
    have e : (PyData.eqv (.int p.2) (.int p.2) && true) = true := by simp [PyData.eqv]
    rw [e] at this
    exact this
/-- two dicts of the same pairs, in the same order -/
theorem eqT_dicts {w : World} {A : Around} {s : Shared} {p q : Addr × Obj} {l : KV} (hp : s.heap.get? p.1 = some p.2) (hq : s.heap.get? q.1 = some q.2) (hne : p.1 ≠ q.1) (dp : IsDict w p l) (dq : IsDict w q l) (hnd : (l.map (·.1)).Nodup) (hu : A.units < cLine) : EqT progN w A s (.ref p.1) (.ref q.1) := by
  refine eqT_refs hne fun E Q h => ?_
  obtain ⟨lp, kp, ip, fp⟩ := dp
  obtain ⟨lq, kq, iq, fq⟩ := dq
  have rows := rows_self l [] hnd
  exact keq_tabs (knd := PySem.strKind progN w) (enc := PyData.str) (Da := kvD l) (Db := kvD l) PyProof.V.same_str ⟨lp, kp, Heap.dictOf_iff.mpr ⟨_, hp, ip⟩, fp⟩ ⟨lq, kq, Heap.dictOf_iff.mpr ⟨_, hq, iq⟩, fq⟩ rfl hu rows h
end

section -- seg17
theorem fresh_seg17 {M : Model} {A : Around} {Q : Flow → Shared → Prop} {E : Value → Shared → Prop} {s : Shared} {env : Env} {pos : Pos} (h : wpAny M A (exec (.Pass pos) env) Q E s) : wpAny M A (exec (.Pass pos) env) Q E s := by
  w_top off
  first | (walk1; fail "fresh") | exact h
local macro_rules | `(tactic| walk_at "halt") => `(tactic| (with_reducible show wpAny _ _ (compareOp CmpOp.Eq _ _) _ _ _))
theorem seg17 (w : World) (p : Program) (loose : List PySem.Str) (mean : ExcName → Option Value) (mg mb : PySem.Str → Option Value) (dp un : Nat) (gd : Option (List Code)) (outer : List Env) (fa : Addr) (fcd : Value) (A₀ : Around) (base g : Heap) (L : Addr) (s : Shared) (E : Value → Shared → Prop) (h : Heap) (tk : Nat) (m : LMap) (rest : Led)
    (B : Below A₀ base outer g) (X : (hdtop.heap_39 w.params).In g) (T : Top p loose mean mg mb g) (hdp : dp + 10 < recursionLimit) (hun : un + 200 < cLine) (F : Fr g L h m) (sc R Kp Nm Ld T9 : Addr) (kt kr kk : Nat) (ts rs ks : Led) (K : Nat → KV) (hlen : ts.length = 16) (hts : ∀ (i : Nat) (q : Addr × Obj), ts[i]? = some q → IsDict w q (K i)) (hrl : rs.length = 4) (hkl : ks.length = 4) (KR : Nat → KV) (hrs : ∀ (i : Nat) (q : Addr × Obj), rs[i]? = some q → IsDict w q (KR i)) (hks : ∀ (i : Nat) (q : Addr × Obj), ks[i]? = some q → IsDict w q (KR i)) (h0 : K 0 = [])
    (hnd : ∀ i < 4, ((KR i).map (·.1)).Nodup) (hne : ∀ q ∈ rs, ∀ p ∈ ks, q.1 ≠ p.1) (o1 : Obj) (hc1 : o1.data = .cell (some (.ref T9)))
    (N : News g L h ((L + 1 + 1, o1) :: (T9, W.listOf (ts.map fun q => Value.ref q.1).toArray kt) :: (R, W.listOf (rs.map fun q => Value.ref q.1).toArray kr) :: (Kp, W.listOf (ks.map fun q => Value.ref q.1).toArray kk) :: (rs ++ (ks ++ (ts ++ rest))))) (hm : HasL m [("script", .ref sc), ("rows", .ref R), ("kept", .ref Kp), ("names", .ref Nm), ("leads", .ref Ld)]) :
    wpAny (model PySem.Challenge.rw_jc0016_01.row.prog w) (lawA dp un gd L fa fcd outer) (exec (lawS 16) (lawE L fa fcd)) (fun f s' => Hold (f = .ret (.bool true) ∧ ∃ h' tk' m', s' = { s with heap := h', toks := tk' } ∧ Fr g L h' m' ∧ News g L h' ((L + 1 + 1, o1) :: (T9, W.listOf (ts.map fun q => Value.ref q.1).toArray kt) :: (R, W.listOf (rs.map fun q => Value.ref q.1).toArray kr) :: (Kp, W.listOf (ks.map fun q => Value.ref q.1).toArray kk) :: (rs ++ (ks ++ (ts ++ rest)))))) (fun _ _ => False) { s with heap := h, toks := tk } := by
  show wpAny _ (ktrTop _ _ _ _ ⟨_, [_, _, _, _, _, _, _, _, _, _, _, _, _, _, _, _, _, _, _, _, _, _, _, _], _, _, _⟩ _ _ _ (cellsFrom _ [_, _, _, _, _, _, _, _, _, _, _, _, _, _, _, _, _, _, _, _, _, _, _, _] _) _) (exec (Stmt.Return _ _) (envOfC _ ⟨_, [_, _, _, _, _, _, _, _, _, _, _, _, _, _, _, _, _, _, _, _, _, _, _, _], _, _, _⟩ _ _ _)) _ _ _
  replace F := fr_canons F hm
  dsimp only [canonM] at F
  obtain ⟨da, dob, hdj⟩ : ∃ da dob, ts[0]? = some (da, dob) := ⟨_, _, List.getElem?_eq_getElem (by lia)⟩
  have hD0 := hts _ _ hdj
  have hdm : (da, dob) ∈ rs ++ (ks ++ (ts ++ rest)) := List.mem_append_right _ (List.mem_append_right _ (List.mem_append_left _ (List.mem_of_getElem? hdj)))
  have hget : (ts.map fun q => Value.ref q.1)[(0 : Int).toNat]? = some (.ref da) := by
    show (ts.map fun q => Value.ref q.1)[0]? = _
    rw [List.getElem?_map, hdj]
    rfl
  walk_at "goc"
  rename Fr _ _ _ _ => F1
  rename News _ _ _ _ => N1
  refine eq_listT (N1 (R, _) (List.Mem.tail _ (List.Mem.tail _ (List.Mem.head _)))).1 (N1 (Kp, _) (List.Mem.tail _ (List.Mem.tail _ (List.Mem.tail _ (List.Mem.head _))))).1 (by simp [hrl, hkl]) (show un < cLine by lia) (fun j h1 h2 => ?_) ?_
  · have j1 : j < rs.length := by simpa using h1
    have j2 : j < ks.length := by simpa using h2
    have g1 : rs[j] ∈ rs := List.getElem_mem j1
    have g2 : ks[j] ∈ ks := List.getElem_mem j2
    have e1 : (rs.map fun q => Value.ref q.1).toArray[j] = .ref rs[j].1 := by simp
    have e2 : (ks.map fun q => Value.ref q.1).toArray[j] = .ref ks[j].1 := by simp
    rw [e1, e2]
    refine eqT_dicts (N1 rs[j] ?_).1 (N1 ks[j] ?_).1 (hne _ g1 _ g2) (hrs j _ (List.getElem?_eq_getElem j1)) (hks j _ (List.getElem?_eq_getElem j2)) (hnd j (by lia)) (by units_room)
    · simp [g1]
    · simp [g2]
  walk_at "goc"
  rename Fr _ _ _ _ => F9
  rename News _ _ _ _ => N9
  rename (_ == sysModules) = false => lo9
  rename Obj.IsDictOf (PySem.strKind _ _) _ [] => hs9
  rename PyProof.V.FlatPairs PyData.str [] [] => fs9
  obtain ⟨lo0, k0, ik0, fk0⟩ := hD0
  rw [h0] at fk0
  have hd0 := (N9 (da, dob) (by simp only [List.mem_cons]; simp [hdm])).1
  refine keq_tabs (knd := PySem.strKind progN w) (enc := PyData.str) (Da := []) (Db := []) (r := true) PyProof.V.same_str ⟨lo0, k0, Heap.dictOf_iff.mpr ⟨_, hd0, ik0⟩, fk0⟩ ⟨lo9, _, Heap.dictOf_iff.mpr ⟨_, (N9 _ (List.Mem.head _)).1, hs9⟩, fs9⟩ rfl (show un < cLine by lia) KeqRows.nil ?_
  walk_at "goc"
  exact Hold.of ⟨rfl, _, _, _, rfl, F9, kti_tail N9⟩
end

section -- plain1
theorem fresh_plain1 {M : Model} {A : Around} {Q : Flow → Shared → Prop} {E : Value → Shared → Prop} {s : Shared} {env : Env} {pos : Pos} (h : wpAny M A (exec (.Pass pos) env) Q E s) : wpAny M A (exec (.Pass pos) env) Q E s := by
  w_top off
  first | (walk1; fail "fresh") | exact h
theorem getK_put (k k2 : PySem.Str) (v : Int) (l : KV) : getK (putK k v l) k2 = if k = k2 then v else getK l k2 := by
  have hmap : ∀ l : KV, getK (l.map fun p => if p.1 = k then (p.1, v) else p) k2 = if k = k2 then (if hasK l k then v else 0) else getK l k2 := by
    intro l
    induction l with
    | nil => simp [getK, hasK]
    | cons p r ih =>
      rw [List.map_cons]
      by_cases e : p.1 = k
      · rw [if_pos e]
        show (if p.1 = k2 then v else getK _ k2) = _
        rw [ih]
        have hh : hasK (p :: r) k = true := by unfold hasK; simp [e]
        rw [hh]
        by_cases e2 : k = k2
        · rw [if_pos (e.trans e2), if_pos e2, if_pos rfl]
        · rw [if_neg (fun q => e2 (e.symm.trans q)), if_neg e2, if_neg e2]
          show _ = if p.1 = k2 then p.2 else getK r k2
          rw [if_neg (fun q => e2 (e.symm.trans q))]
      · rw [if_neg e]
        show (if p.1 = k2 then p.2 else getK _ k2) = _
        rw [ih]
        have hh : hasK (p :: r) k = hasK r k := by unfold hasK; simp [e]
        rw [hh]
        show _ = if k = k2 then _ else (if p.1 = k2 then p.2 else getK r k2)
        by_cases e2 : k = k2
        · rw [if_pos e2, if_pos e2, if_neg (fun q => e (q.trans e2.symm))]
        · rw [if_neg e2, if_neg e2]
  have happ : ∀ l : KV, hasK l k = false → getK (l ++ [(k, v)]) k2 = if k = k2 then v else getK l k2 := by
    intro l
    induction l with
    | nil => intro _; rfl
    | cons p r ih =>
      intro h
      unfold hasK at h
      rw [List.any_cons, Bool.or_eq_false_iff] at h
      have h1 : ¬ p.1 = k := of_decide_eq_false h.1
      show (if p.1 = k2 then p.2 else getK (r ++ [(k, v)]) k2) = if k = k2 then v else (if p.1 = k2 then p.2 else getK r k2)
      rw [ih h.2]
      by_cases e2 : k = k2
      · rw [if_pos e2, if_pos e2, if_neg (fun q => h1 (q.trans e2.symm))]
      · rw [if_neg e2, if_neg e2]
  unfold putK
  cases hk : hasK l k with
  | true =>
    rw [if_pos rfl, hmap, hk]
    rfl
  | false =>
    rw [if_neg (by decide)]
    exact happ l hk
noncomputable def sumK (b : KV) (k : PySem.Str) : Int := match b with
  | [] => 0
  | p :: r => (if p.1 = k then p.2 else 0) + sumK r k
theorem getK_fold (k : PySem.Str) : ∀ (b acc : KV), getK (b.foldl (fun acc p => putK p.1 (getK acc p.1 + p.2) acc) acc) k = getK acc k + sumK b k
  | [], acc => by simp [sumK]
  | p :: r, acc => by
    rw [List.foldl_cons, getK_fold k r, getK_put]
    show _ = getK acc k + ((if p.1 = k then p.2 else 0) + sumK r k)
    by_cases e : p.1 = k
    · rw [if_pos e, if_pos e, e]; lia
    · rw [if_neg e, if_neg e]; lia
noncomputable def keysK (l : KV) : List PySem.Str := l.map (·.1)
theorem hasK_mem {l : KV} {k : PySem.Str} : hasK l k = true ↔ k ∈ keysK l := by
  unfold hasK keysK
  simp only [List.any_eq_true, decide_eq_true_eq, List.mem_map]
theorem keysK_put (k : PySem.Str) (v : Int) (l : KV) : keysK (putK k v l) = if hasK l k then keysK l else keysK l ++ [k] := by
  unfold putK
  split
  · unfold keysK
    rw [List.map_map]
    apply List.map_congr_left
    intro p _
    show (if p.1 = k then (p.1, v) else p).1 = p.1
    split <;> rfl
  · simp [keysK]
theorem nd_put {k : PySem.Str} {v : Int} {l : KV} (h : (keysK l).Nodup) : (keysK (putK k v l)).Nodup := by
  rw [keysK_put]
  split
  · exact h
  · rename_i hk
    rw [List.nodup_append]
    refine ⟨h, by simp, fun a ha b hb e => ?_⟩
    rw [List.mem_singleton.mp hb] at e
    exact hk (hasK_mem.mpr (e ▸ ha))
theorem nd_fold {f : KV → PySem.Str × Int → Int} : ∀ (b acc : KV), (keysK acc).Nodup → (keysK (b.foldl (fun acc p => putK p.1 (f acc p) acc) acc)).Nodup
  | [], _, h => h
  | p :: r, acc, h => by
    rw [List.foldl_cons]
    exact nd_fold r _ (nd_put h)
theorem copy_nd : ∀ (a acc : KV), (keysK (acc ++ a)).Nodup → a.foldl (fun acc p => putK p.1 p.2 acc) acc = acc ++ a
  | [], acc, _ => by simp
  | p :: r, acc, h => by
    rw [List.foldl_cons]
    have hk : hasK acc p.1 = false := by
      cases e : hasK acc p.1 with
      | false => rfl
      | true =>
        have hm := hasK_mem.mp e
        unfold keysK at h hm
        rw [List.map_append, List.nodup_append] at h
        exact absurd rfl (h.2.2 p.1 hm p.1 (by simp))
    have e1 : putK p.1 p.2 acc = acc ++ [p] := by unfold putK; rw [hk]; simp
    rw [e1, copy_nd r (acc ++ [p]) (by rw [List.append_assoc]; exact h), List.append_assoc]
    rfl
theorem copyKV_nd {a : KV} (h : (keysK a).Nodup) : copyKV a = a := by
  have := copy_nd a [] (by simpa using h)
  unfold copyKV
  rw [this]; rfl
theorem getK_add {a b : KV} (h : (keysK a).Nodup) (k : PySem.Str) : getK (addKV a b) k = getK a k + sumK b k := by
  unfold addKV
  rw [getK_fold, copyKV_nd h]
theorem nd_add {a b : KV} (h : (keysK a).Nodup) : (keysK (addKV a b)).Nodup := by
  unfold addKV
  rw [copyKV_nd h]
  exact nd_fold (f := fun acc p => getK acc p.1 + p.2) b a h
noncomputable def valK (l : KV) : Int := (l.map (·.2)).sum
theorem valK_cons (p : PySem.Str × Int) (l : KV) : valK (p :: l) = p.2 + valK l := by unfold valK; simp
theorem val_put {k : PySem.Str} {v : Int} : ∀ {l : KV}, (keysK l).Nodup → valK (putK k (getK l k + v) l) = valK l + v := by
  intro l h
  cases hk : hasK l k with
  | false =>
    unfold putK
    rw [hk]
    simp only [Bool.false_eq_true, if_false]
    rw [getK_none hk]
    unfold valK
    simp
  | true =>
    unfold putK
    rw [hk, if_pos rfl]
    have key : ∀ (l : KV), (keysK l).Nodup → hasK l k = true → ∀ x : Int, valK (l.map fun p => if p.1 = k then (p.1, x) else p) = valK l - getK l k + x := by
      intro l
      induction l with
      | nil => intro _ h; simp [hasK] at h
      | cons p r ih =>
        intro hn hh x
        have hn2 : p.1 ∉ keysK r ∧ (keysK r).Nodup := by unfold keysK at hn ⊢; simpa using hn
        rw [List.map_cons, valK_cons, valK_cons]
        by_cases e : p.1 = k
        · rw [if_pos e]
          have hr : (r.map fun p => if p.1 = k then (p.1, x) else p) = r := by
            conv => rhs; rw [← List.map_id r]
            apply List.map_congr_left
            intro q hq
            have : ¬ q.1 = k := fun e2 => hn2.1 (by rw [e, ← e2]; unfold keysK; exact List.mem_map_of_mem hq)
            rw [if_neg this]
            rfl
          rw [hr]
          have : getK (p :: r) k = p.2 := if_pos e
          rw [this]
          show x + valK r = _
          lia
        · rw [if_neg e]
          have h2 : hasK r k = true := by
            have : hasK (p :: r) k = (decide (p.1 = k) || hasK r k) := rfl
            rw [this, decide_eq_false e, Bool.false_or] at hh
            exact hh
          rw [ih hn2.2 h2 x]
          have : getK (p :: r) k = getK r k := if_neg e
          rw [this]
          lia
    rw [key l h hk]
    lia
theorem val_fold : ∀ (b acc : KV), (keysK acc).Nodup → valK (b.foldl (fun acc p => putK p.1 (getK acc p.1 + p.2) acc) acc) = valK acc + valK b
  | [], acc, _ => by simp [valK]
  | p :: r, acc, h => by
    rw [List.foldl_cons, val_fold r _ (nd_put h), val_put h, valK_cons]
    lia
theorem val_add {a b : KV} (h : (keysK a).Nodup) : valK (addKV a b) = valK a + valK b := by
  unfold addKV
  rw [copyKV_nd h, val_fold b a h]
theorem sumK_append (a b : KV) (k : PySem.Str) : sumK (a ++ b) k = sumK a k + sumK b k := by
  induction a with
  | nil => simp [sumK]
  | cons p r ih =>
    show (if p.1 = k then p.2 else 0) + sumK (r ++ b) k = (if p.1 = k then p.2 else 0) + sumK r k + sumK b k
    rw [ih]; lia
theorem sumK_row (f : Nat → Int) (i k : Nat) : ∀ j, sumK (rowKV f i j) (keyS k) = if k < j ∧ i ≠ k then f k else 0
  | 0 => by simp [rowKV, sumK]
  | j + 1 => by
    have ih := sumK_row f i k j
    unfold rowKV
    by_cases e : i = j
    · rw [if_pos e, ih]
      by_cases h1 : k < j ∧ i ≠ k
      · rw [if_pos h1, if_pos ⟨by lia, h1.2⟩]
      · rw [if_neg h1, if_neg (by lia)]
    · rw [if_neg e, sumK_append, ih]
      show _ + ((if keyS j = keyS k then f j else 0) + 0) = _
      by_cases h2 : j = k
      · subst h2
        rw [if_neg (by lia), if_pos rfl, if_pos ⟨by lia, e⟩]
        lia
      · rw [if_neg (fun q => h2 (keyS_inj q))]
        by_cases h1 : k < j ∧ i ≠ k
        · rw [if_pos h1, if_pos ⟨by omega, h1.2⟩]; lia
        · rw [if_neg h1, if_neg (by lia)]; lia
/-- the pull of i upon k -/
noncomputable def wt (c : List Int) (i k : Nat) : Int := if i = k then 0 else rowF c i k
noncomputable def RWf (c : List Int) (i : Nat) : KV := rowKV (rowF c i) i 4
noncomputable def TB (c : List Int) (s : Nat) : KV := (tabL (RWf c) 16).getD s []
theorem tabL_stab (RW : Nat → KV) {j : Nat} : ∀ {m n : Nat}, j < n → n ≤ m → (tabL RW m).getD j [] = (tabL RW n).getD j []
  | 0, n, h, h2 => absurd h (by lia)
  | m + 1, n, h, h2 => by
    rcases Nat.lt_or_ge m n with h3 | h3
    · have : n = m + 1 := by lia
      rw [this]
    · rw [tabL_old RW (by lia), tabL_stab RW h h3]
theorem TB_zero (c : List Int) : TB c 0 = [] := by
  unfold TB
  rw [tabL_stab (RWf c) (show 0 < 1 by decide) (by decide)]
  rfl
theorem TB_step (c : List Int) {s : Nat} (h : s < 16) (h0 : 0 < s) : TB c s = addKV (TB c (s &&& (s - 1))) (RWf c (lowN s)) := by
  have hp := (pc_step h h0).2
  unfold TB
  have e1 : (tabL (RWf c) 16).getD s [] = (tabL (RWf c) (s + 1)).getD s [] := tabL_stab (RWf c) (by lia) (by lia)
  have e2 : (tabL (RWf c) 16).getD (s &&& (s - 1)) [] = (tabL (RWf c) s).getD (s &&& (s - 1)) [] := tabL_stab (RWf c) hp (by lia)
  rw [e1, e2, tabL_new _ h0]
theorem TB_nd (c : List Int) : ∀ s, s < 16 → (keysK (TB c s)).Nodup := by
  intro s
  induction s using Nat.strongRecOn with
  | ind s ih =>
    intro h
    rcases Nat.eq_zero_or_pos s with e | e
    · subst e; rw [TB_zero]; exact List.nodup_nil
    · rw [TB_step c h e]
      have hp := (pc_step h e).2
      exact nd_add (ih _ hp (by lia))
/-- what those that are up pull k by -/
noncomputable def hS (c : List Int) (s k : Nat) : Int := (if bitB s 0 then wt c 0 k else 0) + (if bitB s 1 then wt c 1 k else 0) + (if bitB s 2 then wt c 2 k else 0) + (if bitB s 3 then wt c 3 k else 0)
theorem st0 (x0 x1 x2 x3 : Int) : x0 + x1 + x2 + x3 = (0 + x1 + x2 + x3) + x0 := by lia
theorem st1 (x1 x2 x3 : Int) : 0 + x1 + x2 + x3 = (0 + 0 + x2 + x3) + x1 := by lia
theorem st2 (x2 x3 : Int) : 0 + 0 + x2 + x3 = (0 + 0 + 0 + x3) + x2 := by lia
theorem st3 (x3 : Int) : 0 + 0 + 0 + x3 = (0 + 0 + 0 + 0) + x3 := by lia
theorem all15 {P : Nat → Prop} (h1 : P 1) (h2 : P 2) (h3 : P 3) (h4 : P 4) (h5 : P 5) (h6 : P 6) (h7 : P 7) (h8 : P 8) (h9 : P 9) (h10 : P 10) (h11 : P 11) (h12 : P 12) (h13 : P 13) (h14 : P 14) (h15 : P 15) : ∀ s : Nat, s < 16 → 0 < s → P s
  | 0, _, h => absurd h (by decide)
  | 1, _, _ => h1
  | 2, _, _ => h2
  | 3, _, _ => h3
  | 4, _, _ => h4
  | 5, _, _ => h5
  | 6, _, _ => h6
  | 7, _, _ => h7
  | 8, _, _ => h8
  | 9, _, _ => h9
  | 10, _, _ => h10
  | 11, _, _ => h11
  | 12, _, _ => h12
  | 13, _, _ => h13
  | 14, _, _ => h14
  | 15, _, _ => h15
  | n + 16, h, _ => absurd h (Nat.not_lt.mpr (Nat.le_add_left 16 n))
theorem hS_step (c : List Int) {s : Nat} (h : s < 16) (h0 : 0 < s) (k : Nat) : hS c s k = hS c (s &&& (s - 1)) k + wt c (lowN s) k :=
  all15 (P := fun s => hS c s k = hS c (s &&& (s - 1)) k + wt c (lowN s) k) (st0 (wt c 0 k) _ _ _) (st1 (wt c 1 k) _ _) (st0 (wt c 0 k) _ _ _) (st2 (wt c 2 k) _) (st0 (wt c 0 k) _ _ _) (st1 (wt c 1 k) _ _) (st0 (wt c 0 k) _ _ _) (st3 (wt c 3 k)) (st0 (wt c 0 k) _ _ _) (st1 (wt c 1 k) _ _) (st0 (wt c 0 k) _ _ _) (st2 (wt c 2 k) _) (st0 (wt c 0 k) _ _ _) (st1 (wt c 1 k) _ _) (st0 (wt c 0 k) _ _ _) s h h0
theorem TB_get (c : List Int) {k : Nat} (hk : k < 4) : ∀ s, s < 16 → getK (TB c s) (keyS k) = hS c s k := by
  intro s
  induction s using Nat.strongRecOn with
  | ind s ih =>
    intro h
    rcases Nat.eq_zero_or_pos s with e | e
    · subst e; rw [TB_zero]; rfl
    · have hp := (pc_step h e).2
      rw [TB_step c h e, getK_add (TB_nd c _ (by lia)), ih _ hp (by omega), hS_step c h e]
      congr 1
      unfold RWf
      rw [sumK_row]
      unfold wt
      by_cases e2 : lowN s = k
      · rw [if_pos e2, if_neg (by lia)]
      · rw [if_neg e2, if_pos ⟨hk, e2⟩]
theorem val_row (f : Nat → Int) (i : Nat) : valK (rowKV f i 4) = (if i = 0 then 0 else f 0) + (if i = 1 then 0 else f 1) + (if i = 2 then 0 else f 2) + (if i = 3 then 0 else f 3) := by
  have step : ∀ j, valK (rowKV f i (j + 1)) = valK (rowKV f i j) + (if i = j then 0 else f j) := fun j => by
    show valK (if i = j then rowKV f i j else rowKV f i j ++ [(keyS j, f j)]) = _
    split
    · lia
    · unfold valK; simp
  rw [step, step, step, step]
  show 0 + _ + _ + _ + _ = _
  lia
theorem TB_val (c : List Int) : valK (TB c 15) = valK (RWf c 0) + valK (RWf c 1) + valK (RWf c 2) + valK (RWf c 3) := by
  have e15 := TB_step c (s := 15) (by decide) (by decide)
  have e14 := TB_step c (s := 14) (by decide) (by decide)
  have e12 := TB_step c (s := 12) (by decide) (by decide)
  have e8 := TB_step c (s := 8) (by decide) (by decide)
  have f15 : (15 : Nat) &&& (15 - 1) = 14 := by decide
  have f14 : (14 : Nat) &&& (14 - 1) = 12 := by decide
  have f12 : (12 : Nat) &&& (12 - 1) = 8 := by decide
  have f8 : (8 : Nat) &&& (8 - 1) = 0 := by decide
  rw [f15] at e15
  rw [f14] at e14
  rw [f12] at e12
  rw [f8] at e8
  rw [e15, val_add (TB_nd c _ (by decide)), e14, val_add (TB_nd c _ (by decide)), e12, val_add (TB_nd c _ (by decide)), e8, val_add (TB_nd c _ (by decide)), TB_zero]
  have l15 : lowN 15 = 0 := rfl
  have l14 : lowN 14 = 1 := rfl
  have l12 : lowN 12 = 2 := rfl
  have l8 : lowN 8 = 3 := rfl
  rw [l15, l14, l12, l8]
  show (0 : Int) + _ + _ + _ + _ = _
  lia
end

section -- plain2
theorem fresh_plain2 {M : Model} {A : Around} {Q : Flow → Shared → Prop} {E : Value → Shared → Prop} {s : Shared} {env : Env} {pos : Pos} (h : wpAny M A (exec (.Pass pos) env) Q E s) : wpAny M A (exec (.Pass pos) env) Q E s := by
  w_top off
  first | (walk1; fail "fresh") | exact h
section
theorem cnt_lt {p q : Nat → Bool} : ∀ {l : List Nat}, (∀ a ∈ l, p a = true → q a = true) → (∃ a ∈ l, q a = true ∧ p a = false) → (l.filter p).length < (l.filter q).length
  | [], _, h => by obtain ⟨_, h, _⟩ := h; cases h
  | a :: r, h, he => by
    have hr : ∀ x ∈ r, p x = true → q x = true := fun x hx => h x (List.mem_cons_of_mem _ hx)
    have hle : ∀ {l : List Nat}, (∀ a ∈ l, p a = true → q a = true) → (l.filter p).length ≤ (l.filter q).length := by
      intro l
      induction l with
      | nil => intro _; exact Nat.le_refl _
      | cons a r ih =>
        intro h
        have ih := ih fun x hx => h x (List.mem_cons_of_mem _ hx)
        rw [List.filter_cons, List.filter_cons]
        cases e1 : p a with
        | true =>
          rw [h a (List.mem_cons_self ..) e1]
          simp only [if_true, List.length_cons]
          lia
        | false =>
          cases e2 : q a <;> simp only [if_true, Bool.false_eq_true, if_false, List.length_cons] <;> omega
    rw [List.filter_cons, List.filter_cons]
    cases e1 : p a with
    | true =>
      rw [h a (List.mem_cons_self ..) e1]
      simp only [if_true, List.length_cons]
      have : ∃ x ∈ r, q x = true ∧ p x = false := by
        obtain ⟨x, hx, hq, hp⟩ := he
        rcases List.mem_cons.mp hx with rfl | hx
        · rw [e1] at hp; cases hp
        · exact ⟨x, hx, hq, hp⟩
      have := cnt_lt hr this
      lia
    | false =>
      cases e2 : q a with
      | true =>
        simp only [if_true, Bool.false_eq_true, if_false, List.length_cons]
        have := hle hr
        lia
      | false =>
        simp only [Bool.false_eq_true, if_false]
        refine cnt_lt hr ?_
        obtain ⟨x, hx, hq, hp⟩ := he
        rcases List.mem_cons.mp hx with rfl | hx
        · rw [e2] at hq; cases hq
        · exact ⟨x, hx, hq, hp⟩
noncomputable def itN (F : Nat → Nat) : Nat → Nat → Nat
  | 0, s => s
  | n + 1, s => itN F n (F s)
theorem itN_add (F : Nat → Nat) (m : Nat) : ∀ n s, itN F m (itN F n s) = itN F (n + m) s
  | 0, s => by rw [Nat.zero_add]; rfl
  | n + 1, s => by
    have e : n + 1 + m = (n + m) + 1 := by lia
    rw [e]
    exact itN_add F m n (F s)
theorem itN_lt {F : Nat → Nat} (hF : ∀ s, s < 16 → F s < 16) : ∀ n s, s < 16 → itN F n s < 16
  | 0, _, h => h
  | n + 1, _, h => itN_lt hF n _ (hF _ h)
theorem settle {F : Nat → Nat} (hF : ∀ s, s < 16 → F s < 16) (φ : Nat → Int) {P : Nat → Prop} (hdec : ∀ s, s < 16 → P s ∨ φ (F s) < φ s) (hP : ∀ s, s < 16 → P s → P (F s)) {s : Nat} (hs : s < 16) : P (itN F 16 s) := by
  have keep : ∀ n s, s < 16 → P s → P (itN F n s) := by
    intro n
    induction n with
    | zero => exact fun _ _ h => h
    | succ n ih => exact fun s hs h => ih _ (hF s hs) (hP s hs h)
  have main : ∀ n s, s < 16 → ((List.range 16).filter fun t => decide (φ t < φ s)).length ≤ n → P (itN F n s) := by
    intro n
    induction n with
    | zero =>
      intro s hs h
      rcases hdec s hs with h1 | h1
      · exact h1
      · have hm : F s ∈ (List.range 16).filter fun t => decide (φ t < φ s) := List.mem_filter.mpr ⟨List.mem_range.mpr (hF s hs), decide_eq_true h1⟩
        have := List.length_pos_of_mem hm
        omega
    | succ n ih =>
      intro s hs h
      rcases hdec s hs with h1 | h1
      · exact keep (n + 1) s hs h1
      · refine ih (F s) (hF s hs) ?_
        have := cnt_lt (p := fun t => decide (φ t < φ (F s))) (q := fun t => decide (φ t < φ s)) (l := List.range 16) (fun a _ ha => decide_eq_true (Int.lt_trans (of_decide_eq_true ha) h1)) ⟨F s, List.mem_range.mpr (hF s hs), decide_eq_true h1, decide_eq_false (Int.lt_irrefl _)⟩
        omega
  refine main 16 s hs ?_
  have := List.length_filter_le (fun t => decide (φ t < φ s)) (List.range 16)
  rw [List.length_range] at this
  exact this
variable (u : Nat → Nat → Int) (b : Nat → Int)
noncomputable def uT (x y : Nat → Bool) (i k : Nat) : Int := if x i && y k then u i k else 0
noncomputable def hX (x : Nat → Bool) (k : Nat) : Int := (if x 0 then u 0 k else 0) + (if x 1 then u 1 k else 0) + (if x 2 then u 2 k else 0) + (if x 3 then u 3 k else 0)
noncomputable def bX (x : Nat → Bool) (k : Nat) : Int := if x k then 2 * b k - 1 else 0
noncomputable def colT (x y : Nat → Bool) (k : Nat) : Int := uT u x y 0 k + uT u x y 1 k + uT u x y 2 k + uT u x y 3 k
noncomputable def enE (x y : Nat → Bool) : Int := bX b x 0 + bX b x 1 + bX b x 2 + bX b x 3 + (bX b y 0 + bX b y 1 + bX b y 2 + bX b y 3) - 2 * (colT u x y 0 + colT u x y 1 + colT u x y 2 + colT u x y 3)
variable {u b}
theorem uT_symm (hu : ∀ i k, u i k = u k i) (x y : Nat → Bool) (i k : Nat) : uT u x y i k = uT u y x k i := by
  unfold uT
  rw [Bool.and_comm, hu i k]
theorem tr16 (a00 a01 a02 a03 a10 a11 a12 a13 a20 a21 a22 a23 a30 a31 a32 a33 : Int) : ((a00 + a10 + a20 + a30) + (a01 + a11 + a21 + a31) + (a02 + a12 + a22 + a32) + (a03 + a13 + a23 + a33)) = ((a00 + a01 + a02 + a03) + (a10 + a11 + a12 + a13) + (a20 + a21 + a22 + a23) + (a30 + a31 + a32 + a33)) := by lia
theorem enE_symm (hu : ∀ i k, u i k = u k i) (x y : Nat → Bool) : enE u b x y = enE u b y x := by
  have e : uT u y x = fun i k => uT u x y k i := funext fun i => funext fun k => (uT_symm hu x y k i).symm
  unfold enE colT
  rw [e]
  have h := tr16 (uT u x y 0 0) (uT u x y 0 1) (uT u x y 0 2) (uT u x y 0 3) (uT u x y 1 0) (uT u x y 1 1) (uT u x y 1 2) (uT u x y 1 3) (uT u x y 2 0) (uT u x y 2 1) (uT u x y 2 2) (uT u x y 2 3) (uT u x y 3 0) (uT u x y 3 1) (uT u x y 3 2) (uT u x y 3 3)
  dsimp only
  rw [h, Int.add_comm (bX b x 0 + bX b x 1 + bX b x 2 + bX b x 3)]
theorem colT_eq (x y : Nat → Bool) (k : Nat) : colT u x y k = if y k then hX u x k else 0 := by
  unfold colT uT hX
  cases y k <;> simp
/-- what one more cell of the answer adds -/
theorem min_k {x y z : Nat → Bool} {k : Nat} (hz : z k = decide (hX u x k ≥ b k)) : (z k = y k ∨ bX b z k - 2 * colT u x z k < bX b y k - 2 * colT u x y k) ∧ bX b z k - 2 * colT u x z k ≤ bX b y k - 2 * colT u x y k := by
  rw [colT_eq, colT_eq]
  unfold bX
  by_cases h : hX u x k ≥ b k
  · rw [hz, decide_eq_true h]
    cases y k with
    | true => exact ⟨.inl rfl, Int.le_refl _⟩
    | false =>
      simp only [if_true, Bool.false_eq_true, if_false]
      refine ⟨.inr ?_, ?_⟩ <;> lia
  · rw [hz, decide_eq_false h]
    cases y k with
    | false => exact ⟨.inl rfl, Int.le_refl _⟩
    | true =>
      simp only [if_true, Bool.false_eq_true, if_false]
      refine ⟨.inr ?_, ?_⟩ <;> lia
theorem min_all {x y z : Nat → Bool} (hz : ∀ k, k < 4 → z k = decide (hX u x k ≥ b k)) : (∀ k, k < 4 → z k = y k) ∨ enE u b x z < enE u b x y := by
  obtain ⟨a0, c0⟩ := min_k (y := y) (hz 0 (by decide))
  obtain ⟨a1, c1⟩ := min_k (y := y) (hz 1 (by decide))
  obtain ⟨a2, c2⟩ := min_k (y := y) (hz 2 (by decide))
  obtain ⟨a3, c3⟩ := min_k (y := y) (hz 3 (by decide))
  unfold enE
  rcases a0 with a0 | a0
  · rcases a1 with a1 | a1
    · rcases a2 with a2 | a2
      · rcases a3 with a3 | a3
        · left
          intro k hk
          have : k = 0 ∨ k = 1 ∨ k = 2 ∨ k = 3 := by lia
          rcases this with rfl | rfl | rfl | rfl <;> assumption
        · right; lia
      · right; lia
    · right; lia
  · right; lia
theorem bits_eq {s t : Nat} (hs : s < 16) (ht : t < 16) (h : ∀ k, k < 4 → bitB s k = bitB t k) : s = t := by
  have key : ∀ s, s < 16 → s = (if bitB s 0 then 1 else 0) + (if bitB s 1 then 2 else 0) + (if bitB s 2 then 4 else 0) + (if bitB s 3 then 8 else 0) := by decide
  rw [key s hs, key t ht, h 0 (by decide), h 1 (by decide), h 2 (by decide), h 3 (by decide)]
/-- where a state leads at once -/
noncomputable def FN (u : Nat → Nat → Int) (b : Nat → Int) (s : Nat) : Nat := (if decide (hX u (bitB s) 0 ≥ b 0) then 1 else 0) + (if decide (hX u (bitB s) 1 ≥ b 1) then 2 else 0) + (if decide (hX u (bitB s) 2 ≥ b 2) then 4 else 0) + (if decide (hX u (bitB s) 3 ≥ b 3) then 8 else 0)
theorem nib_all : ∀ p q r t : Bool, (if p then 1 else 0) + (if q then 2 else 0) + (if r then 4 else 0) + (if t then 8 else 0) < 16 ∧ bitB ((if p then 1 else 0) + (if q then 2 else 0) + (if r then 4 else 0) + (if t then 8 else 0)) 0 = p ∧ bitB ((if p then 1 else 0) + (if q then 2 else 0) + (if r then 4 else 0) + (if t then 8 else 0)) 1 = q ∧ bitB ((if p then 1 else 0) + (if q then 2 else 0) + (if r then 4 else 0) + (if t then 8 else 0)) 2 = r ∧ bitB ((if p then 1 else 0) + (if q then 2 else 0) + (if r then 4 else 0) + (if t then 8 else 0)) 3 = t := by decide
theorem FN_lt (s : Nat) : FN u b s < 16 := (nib_all _ _ _ _).1
theorem FN_bit (s : Nat) : ∀ k, k < 4 → bitB (FN u b s) k = decide (hX u (bitB s) k ≥ b k) := by
  intro k hk
  have : k = 0 ∨ k = 1 ∨ k = 2 ∨ k = 3 := by lia
  obtain ⟨_, h0, h1, h2, h3⟩ := nib_all (decide (hX u (bitB s) 0 ≥ b 0)) (decide (hX u (bitB s) 1 ≥ b 1)) (decide (hX u (bitB s) 2 ≥ b 2)) (decide (hX u (bitB s) 3 ≥ b 3))
  rcases this with rfl | rfl | rfl | rfl <;> assumption
theorem two_back (hu : ∀ i k, u i k = u k i) {s : Nat} (hs : s < 16) : FN u b (FN u b (itN (FN u b) 16 s)) = itN (FN u b) 16 s := by
  refine settle (P := fun s => FN u b (FN u b s) = s) (fun s _ => FN_lt s) (fun s => enE u b (bitB s) (bitB (FN u b s))) (fun s hs => ?_) (fun s _ h => by rw [h]) hs
  rcases min_all (y := bitB s) (FN_bit (u := u) (b := b) (FN u b s)) with h | h
  · exact .inl (bits_eq (FN_lt _) hs h)
  · right
    rw [enE_symm hu (bitB s)]
    exact h
end
end

section -- plain3
theorem fresh_plain3 {M : Model} {A : Around} {Q : Flow → Shared → Prop} {E : Value → Shared → Prop} {s : Shared} {env : Env} {pos : Pos} (h : wpAny M A (exec (.Pass pos) env) Q E s) : wpAny M A (exec (.Pass pos) env) Q E s := by
  w_top off
  first | (walk1; fail "fresh") | exact h
section
variable {u : Nat → Nat → Int} {b : Nat → Int}
/-- a state's own energy, doubled pairs -/
noncomputable def en1 (u : Nat → Nat → Int) (b : Nat → Int) (x : Nat → Bool) : Int := bX b x 0 + bX b x 1 + bX b x 2 + bX b x 3 - (colT u x x 0 + colT u x x 1 + colT u x x 2 + colT u x x 3)
noncomputable def flipB (x : Nat → Bool) (k i : Nat) : Bool := if i = k then !x i else x i
noncomputable def cR (u : Nat → Nat → Int) (b : Nat → Int) (x : Nat → Bool) (i j l : Nat) : Int := bX b x i + bX b x j + bX b x l - (uT u x x i i + uT u x x j i + uT u x x l i + (uT u x x i j + uT u x x j j + uT u x x l j) + (uT u x x i l + uT u x x j l + uT u x x l l))
theorem uT_diag (hd : ∀ i, u i i = 0) (x : Nat → Bool) (k : Nat) : uT u x x k k = 0 := by
  unfold uT
  rw [hd k]
  exact ite_self 0
theorem flip_end {B H C e1 e2 : Int} {p : Bool} (h1 : e1 = ((if p then B else 0) - 2 * (if p then H else 0)) + C) (h2 : e2 = ((if !p then B else 0) - 2 * (if !p then H else 0)) + C) : e2 = e1 + (if p then 2 * H - B else B - 2 * H) := by
  cases p
  · have h3 : e1 = (0 - 2 * 0) + C := h1
    have h4 : e2 = (B - 2 * H) + C := h2
    show e2 = e1 + (B - 2 * H)
    lia
  · have h3 : e1 = (B - 2 * H) + C := h1
    have h4 : e2 = (0 - 2 * 0) + C := h2
    show e2 = e1 + (2 * H - B)
    lia
theorem en_at0 (hu : ∀ i k, u i k = u k i) (hd : ∀ i, u i i = 0) (x : Nat → Bool) : en1 u b x = (bX b x 0 - 2 * colT u x x 0) + cR u b x 1 2 3 := by
  have s1 := uT_symm hu x x 0 1
  have s2 := uT_symm hu x x 0 2
  have s3 := uT_symm hu x x 0 3
  have d := uT_diag hd x 0
  unfold en1 cR colT
  lia
theorem hX_flip0 (hd : ∀ i, u i i = 0) (x : Nat → Bool) : hX u (flipB x 0) 0 = hX u x 0 := by
  unfold hX
  rw [hd 0, ite_self, ite_self]
  rfl
theorem en_at1 (hu : ∀ i k, u i k = u k i) (hd : ∀ i, u i i = 0) (x : Nat → Bool) : en1 u b x = (bX b x 1 - 2 * colT u x x 1) + cR u b x 0 2 3 := by
  have s1 := uT_symm hu x x 1 0
  have s2 := uT_symm hu x x 1 2
  have s3 := uT_symm hu x x 1 3
  have d := uT_diag hd x 1
  unfold en1 cR colT
  lia
theorem hX_flip1 (hd : ∀ i, u i i = 0) (x : Nat → Bool) : hX u (flipB x 1) 1 = hX u x 1 := by
  unfold hX
  rw [hd 1, ite_self, ite_self]
  rfl
theorem en_at2 (hu : ∀ i k, u i k = u k i) (hd : ∀ i, u i i = 0) (x : Nat → Bool) : en1 u b x = (bX b x 2 - 2 * colT u x x 2) + cR u b x 0 1 3 := by
  have s1 := uT_symm hu x x 2 0
  have s2 := uT_symm hu x x 2 1
  have s3 := uT_symm hu x x 2 3
  have d := uT_diag hd x 2
  unfold en1 cR colT
  lia
theorem hX_flip2 (hd : ∀ i, u i i = 0) (x : Nat → Bool) : hX u (flipB x 2) 2 = hX u x 2 := by
  unfold hX
  rw [hd 2, ite_self, ite_self]
  rfl
theorem en_at3 (hu : ∀ i k, u i k = u k i) (hd : ∀ i, u i i = 0) (x : Nat → Bool) : en1 u b x = (bX b x 3 - 2 * colT u x x 3) + cR u b x 0 1 2 := by
  have s1 := uT_symm hu x x 3 0
  have s2 := uT_symm hu x x 3 1
  have s3 := uT_symm hu x x 3 2
  have d := uT_diag hd x 3
  unfold en1 cR colT
  lia
theorem hX_flip3 (hd : ∀ i, u i i = 0) (x : Nat → Bool) : hX u (flipB x 3) 3 = hX u x 3 := by
  unfold hX
  rw [hd 3, ite_self, ite_self]
  rfl
theorem en_flip (hu : ∀ i k, u i k = u k i) (hd : ∀ i, u i i = 0) (x : Nat → Bool) {k : Nat} (hk : k < 4) : en1 u b (flipB x k) = en1 u b x + (if x k then 2 * hX u x k - (2 * b k - 1) else (2 * b k - 1) - 2 * hX u x k) := by
  have : k = 0 ∨ k = 1 ∨ k = 2 ∨ k = 3 := by lia
  rcases this with rfl | rfl | rfl | rfl
  · have h1 := en_at0 (b := b) hu hd x
    have h2 := en_at0 (b := b) hu hd (flipB x 0)
    rw [colT_eq] at h1 h2
    rw [hX_flip0 hd x] at h2
    exact flip_end h1 h2
  · have h1 := en_at1 (b := b) hu hd x
    have h2 := en_at1 (b := b) hu hd (flipB x 1)
    rw [colT_eq] at h1 h2
    rw [hX_flip1 hd x] at h2
    exact flip_end h1 h2
  · have h1 := en_at2 (b := b) hu hd x
    have h2 := en_at2 (b := b) hu hd (flipB x 2)
    rw [colT_eq] at h1 h2
    rw [hX_flip2 hd x] at h2
    exact flip_end h1 h2
  · have h1 := en_at3 (b := b) hu hd x
    have h2 := en_at3 (b := b) hu hd (flipB x 3)
    rw [colT_eq] at h1 h2
    rw [hX_flip3 hd x] at h2
    exact flip_end h1 h2
theorem bit_flip : ∀ s, s < 16 → ∀ k, k < 4 → ∀ i, i < 4 → bitB (s ^^^ 2 ^ k) i = flipB (bitB s) k i := by decide
theorem flip_lt {s k : Nat} (hs : s < 16) (hk : k < 4) : s ^^^ 2 ^ k < 16 := xor_lt hs hk
theorem en1_congr {x y : Nat → Bool} (h : ∀ i, i < 4 → x i = y i) : en1 u b x = en1 u b y := by
  unfold en1 colT uT bX
  rw [h 0 (by decide), h 1 (by decide), h 2 (by decide), h 3 (by decide)]
/-- one name's answer -/
noncomputable def stepN (u : Nat → Nat → Int) (b : Nat → Int) (s k : Nat) : Nat := if (decide (hX u (bitB s) k ≥ b k) == false) != (s / 2 ^ k % 2 == 0) then s ^^^ 2 ^ k else s
theorem step_ok (hu : ∀ i k, u i k = u k i) (hd : ∀ i, u i i = 0) {s k : Nat} (hs : s < 16) (hk : k < 4) : stepN u b s k < 16 ∧ ((stepN u b s k = s ∧ bitB s k = decide (hX u (bitB s) k ≥ b k)) ∨ en1 u b (bitB (stepN u b s k)) < en1 u b (bitB s)) := by
  have e0 : (s / 2 ^ k % 2 == 0) = !bitB s k := by
    unfold bitB
    have : s / 2 ^ k % 2 = 0 ∨ s / 2 ^ k % 2 = 1 := by lia
    rcases this with h | h <;> rw [h] <;> rfl
  have ef : en1 u b (bitB (s ^^^ 2 ^ k)) = en1 u b (bitB s) + (if bitB s k then 2 * hX u (bitB s) k - (2 * b k - 1) else (2 * b k - 1) - 2 * hX u (bitB s) k) := by
    rw [← en_flip hu hd (bitB s) hk]
    exact en1_congr (bit_flip s hs k hk)
  unfold stepN
  rw [e0]
  by_cases h : hX u (bitB s) k ≥ b k
  · rw [decide_eq_true h]
    cases e : bitB s k with
    | true => exact ⟨hs, .inl ⟨rfl, rfl⟩⟩
    | false =>
      rw [e] at ef
      refine ⟨flip_lt hs hk, .inr ?_⟩
      show en1 u b (bitB (s ^^^ 2 ^ k)) < _
      rw [ef]
      simp only [Bool.false_eq_true, if_false]
      lia
  · rw [decide_eq_false h]
    cases e : bitB s k with
    | false => exact ⟨hs, .inl ⟨rfl, rfl⟩⟩
    | true =>
      rw [e] at ef
      refine ⟨flip_lt hs hk, .inr ?_⟩
      show en1 u b (bitB (s ^^^ 2 ^ k)) < _
      rw [ef]
      simp only [if_true]
      lia
noncomputable def goN (u : Nat → Nat → Int) (b : Nat → Int) (ks : List Nat) (s : Nat) : Nat := ks.foldl (stepN u b) s
theorem go_ok (hu : ∀ i k, u i k = u k i) (hd : ∀ i, u i i = 0) : ∀ (ks : List Nat) (s : Nat), s < 16 → (∀ k ∈ ks, k < 4) → goN u b ks s < 16 ∧ ((goN u b ks s = s ∧ ∀ k ∈ ks, bitB s k = decide (hX u (bitB s) k ≥ b k)) ∨ en1 u b (bitB (goN u b ks s)) < en1 u b (bitB s))
  | [], s, hs, _ => ⟨hs, .inl ⟨rfl, fun _ h => nomatch h⟩⟩
  | k :: r, s, hs, hk => by
    obtain ⟨h1, h2⟩ := step_ok (b := b) hu hd hs (hk k (List.mem_cons_self ..))
    obtain ⟨h3, h4⟩ := go_ok hu hd r (stepN u b s k) h1 fun x hx => hk x (List.mem_cons_of_mem _ hx)
    have e : goN u b (k :: r) s = goN u b r (stepN u b s k) := rfl
    rw [e]
    refine ⟨h3, ?_⟩
    rcases h2 with ⟨h2, h5⟩ | h2
    · rw [h2] at h4 ⊢
      rcases h4 with ⟨h4, h6⟩ | h4
      · refine .inl ⟨h4, fun x hx => ?_⟩
        rcases List.mem_cons.mp hx with rfl | hx
        · exact h5
        · exact h6 x hx
      · exact .inr h4
    · right
      rcases h4 with ⟨h4, _⟩ | h4
      · rw [h4]; exact h2
      · exact Int.lt_trans h4 h2
theorem go_keep : ∀ (ks : List Nat) {s : Nat}, (∀ k, k < 4 → bitB s k = decide (hX u (bitB s) k ≥ b k)) → (∀ k ∈ ks, k < 4) → goN u b ks s = s
  | [], _, _, _ => rfl
  | k :: r, s, h, hk => by
    have h1 := h k (hk k (List.mem_cons_self ..))
    have e0 : (s / 2 ^ k % 2 == 0) = !bitB s k := by
      unfold bitB
      have : s / 2 ^ k % 2 = 0 ∨ s / 2 ^ k % 2 = 1 := by lia
      rcases this with h | h <;> rw [h] <;> rfl
    have e : stepN u b s k = s := by
      unfold stepN
      rw [e0, ← h1]
      cases bitB s k <;> rfl
    show goN u b r (stepN u b s k) = s
    rw [e]
    exact go_keep r h fun x hx => hk x (List.mem_cons_of_mem _ hx)
theorem at_rest (hu : ∀ i k, u i k = u k i) (hd : ∀ i, u i i = 0) {ks : List Nat} (hk : ∀ k ∈ ks, k < 4) (hall : ∀ k, k < 4 → k ∈ ks) {s : Nat} (hs : s < 16) : FN u b (itN (goN u b ks) 16 s) = itN (goN u b ks) 16 s := by
  have hG : ∀ s, s < 16 → goN u b ks s < 16 := fun s hs => (go_ok hu hd ks s hs hk).1
  have hP := settle (P := fun s => ∀ k, k < 4 → bitB s k = decide (hX u (bitB s) k ≥ b k)) hG (fun s => en1 u b (bitB s)) (fun s hs => ?_) (fun s _ h => ?_) hs
  · exact bits_eq (FN_lt _) (itN_lt hG 16 s hs) fun k hk => by rw [FN_bit _ k hk, hP k hk]
  · rcases (go_ok (b := b) hu hd ks s hs hk).2 with ⟨_, h⟩ | h
    · exact .inl fun k hk => h k (hall k hk)
    · exact .inr h
  · rw [go_keep ks h hk]
    exact h
end
end

section -- plain4
theorem fresh_plain4 {M : Model} {A : Around} {Q : Flow → Shared → Prop} {E : Value → Shared → Prop} {s : Shared} {env : Env} {pos : Pos} (h : wpAny M A (exec (.Pass pos) env) Q E s) : wpAny M A (exec (.Pass pos) env) Q E s := by
  w_top off
  first | (walk1; fail "fresh") | exact h
theorem price_symm (c d : Int) : priceI c d = priceI d c := by
  unfold priceI priceN
  rw [Nat.add_comm (cellN c) (cellN d), Nat.add_comm (cellN c / 2) (cellN d / 2), Nat.add_comm (cellN c / 4) (cellN d / 4), Nat.add_comm (cellN c / 8) (cellN d / 8), Nat.add_comm (cellN c / 16) (cellN d / 16)]
theorem wt_symm (c : List Int) (i k : Nat) : wt c i k = wt c k i := by
  unfold wt
  by_cases e : i = k
  · rw [if_pos e, if_pos e.symm]
  · rw [if_neg e, if_neg (fun q => e q.symm)]
    unfold rowF
    rw [price_symm]
theorem wt_diag (c : List Int) (i : Nat) : wt c i i = 0 := if_pos rfl
noncomputable abbrev bsOf (c : List Int) : List Int := (c.drop 6).take 4
noncomputable abbrev bF (c : List Int) (k : Nat) : Int := (bsOf c).getD k 0
theorem up_eq (c : List Int) {s k : Nat} (hs : s < 16) (hk : k < 4) : upB (TB c s) (bsOf c) k = decide (hX (wt c) (bitB s) k ≥ bF c k) := by
  unfold upB
  rw [TB_get c hk s hs]
  rfl
theorem lead_eq (c : List Int) {s : Nat} (hs : s < 16) : toldI (upB (TB c s) (bsOf c)) 4 = ((FN (wt c) (bF c) s : Nat) : Int) := by
  have h0 := up_eq c hs (k := 0) (by decide)
  have h1 := up_eq c hs (k := 1) (by decide)
  have h2 := up_eq c hs (k := 2) (by decide)
  have h3 := up_eq c hs (k := 3) (by decide)
  show (((((0 : Int) * 2 + bitN (upB (TB c s) (bsOf c) 3)) * 2 + bitN (upB (TB c s) (bsOf c) 2)) * 2 + bitN (upB (TB c s) (bsOf c) 1)) * 2 + bitN (upB (TB c s) (bsOf c) 0)) = _
  rw [h0, h1, h2, h3]
  unfold FN
  generalize decide (hX (wt c) (bitB s) 0 ≥ bF c 0) = p0
  generalize decide (hX (wt c) (bitB s) 1 ≥ bF c 1) = p1
  generalize decide (hX (wt c) (bitB s) 2 ≥ bF c 2) = p2
  generalize decide (hX (wt c) (bitB s) 3 ≥ bF c 3) = p3
  revert p0 p1 p2 p3
  decide
theorem sum_eq (c : List Int) (s : Nat) {k : Nat} (hk : k < 4) : sumB (fun j => (List.range 4).map (pullI c j)) s k 4 = hX (wt c) (bitB s) k := by
  have e : ∀ j, ((List.range 4).map (pullI c j)).getD k 0 = wt c j k := fun j => getD_map_range hk
  show ((((0 : Int) + if bitB s 0 then ((List.range 4).map (pullI c 0)).getD k 0 else 0) + if bitB s 1 then ((List.range 4).map (pullI c 1)).getD k 0 else 0) + if bitB s 2 then ((List.range 4).map (pullI c 2)).getD k 0 else 0) + (if bitB s 3 then ((List.range 4).map (pullI c 3)).getD k 0 else 0) = _
  rw [e, e, e, e, Int.zero_add]
  rfl
theorem due_eq (c : List Int) (s : Nat) : dueI (fun j => (List.range 4).map (pullI c j)) (bsOf c) s 4 = ((FN (wt c) (bF c) s : Nat) : Int) := by
  have h0 := sum_eq c s (k := 0) (by decide)
  have h1 := sum_eq c s (k := 1) (by decide)
  have h2 := sum_eq c s (k := 2) (by decide)
  have h3 := sum_eq c s (k := 3) (by decide)
  simp only [dueI]
  rw [h0, h1, h2, h3]
  unfold FN
  by_cases a0 : hX (wt c) (bitB s) 0 ≥ bF c 0 <;> by_cases a1 : hX (wt c) (bitB s) 1 ≥ bF c 1 <;> by_cases a2 : hX (wt c) (bitB s) 2 ≥ bF c 2 <;> by_cases a3 : hX (wt c) (bitB s) 3 ≥ bF c 3 <;> simp only [a0, a1, a2, a3, if_true, if_false, decide_true, decide_false, Bool.false_eq_true] <;> decide
theorem leads_eq (c : List Int) : ((List.range 16).map fun i => toldI (upB (TB c i) (bsOf c)) 4) = (List.range 16).map fun i => ((FN (wt c) (bF c) i : Nat) : Int) :=
  List.map_congr_left fun _ hi => lead_eq c (List.mem_range.mp hi)
theorem els_ok (c : List Int) : ((List.range 16).map fun i => toldI (upB (TB c i) (bsOf c)) 4) = (List.range 16).map fun st => dueI (fun j => (List.range 4).map (pullI c j)) (bsOf c) st 4 := by
  rw [leads_eq]
  exact List.map_congr_left fun i _ => (due_eq c i).symm
theorem mapN_bd {F : Nat → Nat} (hF : ∀ s, s < 16 → F s < 16) : ∀ x ∈ (List.range 16).map fun i => ((F i : Nat) : Int), 0 ≤ x ∧ x < 16 := fun x hx => by
  obtain ⟨i, hi, rfl⟩ := List.mem_map.mp hx
  have := hF i (List.mem_range.mp hi)
  lia
theorem far_it {F : Nat → Nat} (hF : ∀ s, s < 16 → F s < 16) : ∀ k, farI k ((List.range 16).map fun i => ((F i : Nat) : Int)) = (List.range 16).map fun i => ((itN F (2 ^ k) i : Nat) : Int)
  | 0 => rfl
  | k + 1 => by
    show sqL (farI k _) = _
    rw [far_it hF k]
    unfold sqL
    refine List.map_congr_left fun i hi => ?_
    have hi := List.mem_range.mp hi
    rw [getD_map_range hi, Int.toNat_natCast, getD_map_range (itN_lt hF _ i hi), itN_add]
    have : 2 ^ k + 2 ^ k = 2 ^ (k + 1) := by rw [Nat.pow_succ]; lia
    rw [this]
theorem far_mem {F : Nat → Nat} (hF : ∀ s, s < 16 → F s < 16) {x : Int} (h : x ∈ farI 4 ((List.range 16).map fun i => ((F i : Nat) : Int))) : ∃ i, i < 16 ∧ x = ((itN F 16 i : Nat) : Int) := by
  rw [far_it hF] at h
  obtain ⟨i, hi, rfl⟩ := List.mem_map.mp h
  exact ⟨i, List.mem_range.mp hi, rfl⟩
theorem back_ok (c : List Int) : ∀ x ∈ farI 4 ((List.range 16).map fun i => toldI (upB (TB c i) (bsOf c)) 4), ((List.range 16).map fun i => toldI (upB (TB c i) (bsOf c)) 4).getD (((List.range 16).map fun i => toldI (upB (TB c i) (bsOf c)) 4).getD x.toNat 0).toNat 0 = x := by
  rw [leads_eq]
  intro x hx
  have hF : ∀ s, s < 16 → FN (wt c) (bF c) s < 16 := fun s _ => FN_lt s
  obtain ⟨i, hi, rfl⟩ := far_mem hF hx
  rw [Int.toNat_natCast, getD_map_range (itN_lt hF 16 i hi), Int.toNat_natCast, getD_map_range (FN_lt _), two_back (wt_symm c) hi]
theorem step_eq (c : List Int) {s : Nat} (hs : s < 16) {e : Int × Int × Nat} (hk : e.2.2 < 4) (hb : e.1 = bF c e.2.2) : roundStep (TB c) s e = stepN (wt c) (bF c) s e.2.2 := by
  unfold roundStep stepN
  rw [TB_get c hk s hs, hb]
  rfl
theorem round_eq (c : List Int) : ∀ (ks : List (Int × Int × Nat)) (s : Nat), s < 16 → (∀ e ∈ ks, e.2.2 < 4 ∧ e.1 = bF c e.2.2) → roundN (TB c) ks s = goN (wt c) (bF c) (ks.map (·.2.2)) s
  | [], _, _, _ => rfl
  | e :: r, s, hs, h => by
    obtain ⟨h1, h2⟩ := h e (List.mem_cons_self ..)
    show roundN (TB c) r (roundStep (TB c) s e) = goN (wt c) (bF c) (r.map (·.2.2)) (stepN (wt c) (bF c) s e.2.2)
    rw [step_eq c hs h1 h2]
    exact round_eq c r _ (step_ok (wt_symm c) (wt_diag c) hs h1).1 fun x hx => h x (List.mem_cons_of_mem _ hx)
theorem rounds_eq (c : List Int) {ks : List (Int × Int × Nat)} (h : ∀ e ∈ ks, e.2.2 < 4 ∧ e.1 = bF c e.2.2) : ((List.range 16).map fun i => ((roundN (TB c) ks i : Nat) : Int)) = (List.range 16).map fun i => ((goN (wt c) (bF c) (ks.map (·.2.2)) i : Nat) : Int) :=
  List.map_congr_left fun i hi => by rw [round_eq c ks i (List.mem_range.mp hi) h]
theorem rounds_lt (c : List Int) {ks : List (Int × Int × Nat)} (h : ∀ e ∈ ks, e.2.2 < 4 ∧ e.1 = bF c e.2.2) : ∀ s, s < 16 → goN (wt c) (bF c) (ks.map (·.2.2)) s < 16 := fun s hs =>
  (go_ok (wt_symm c) (wt_diag c) _ s hs (fun k hk => by obtain ⟨e, he, rfl⟩ := List.mem_map.mp hk; exact (h e he).1)).1
theorem rest_ok (c : List Int) {ks : List (Int × Int × Nat)} (h : ∀ e ∈ ks, e.2.2 < 4 ∧ e.1 = bF c e.2.2) (hall : ∀ k, k < 4 → k ∈ ks.map (·.2.2)) : ∀ x ∈ farI 4 ((List.range 16).map fun i => ((roundN (TB c) ks i : Nat) : Int)), ((List.range 16).map fun i => toldI (upB (TB c i) (bsOf c)) 4).getD x.toNat 0 = x := by
  rw [rounds_eq c h, leads_eq]
  intro x hx
  have hG := rounds_lt c h
  obtain ⟨i, hi, rfl⟩ := far_mem hG hx
  rw [Int.toNat_natCast, getD_map_range (itN_lt hG 16 i hi), at_rest (wt_symm c) (wt_diag c) (fun k hk => by obtain ⟨e, he, rfl⟩ := List.mem_map.mp hk; exact (h e he).1) hall hi]
theorem val_ok (c : List Int) : ((TB c 15).map (·.2)).sum = ((List.range 4).map (pullI c 0)).sum + ((List.range 4).map (pullI c 1)).sum + ((List.range 4).map (pullI c 2)).sum + ((List.range 4).map (pullI c 3)).sum := by
  have h := TB_val c
  have e : ∀ i, ((List.range 4).map (pullI c i)).sum = valK (RWf c i) := fun i => by
    unfold RWf
    rw [val_row]
    show pullI c i 0 + (pullI c i 1 + (pullI c i 2 + (pullI c i 3 + 0))) = _
    unfold pullI
    lia
  rw [e, e, e, e]
  exact h
end

section -- plain5
theorem fresh_plain5 {M : Model} {A : Around} {Q : Flow → Shared → Prop} {E : Value → Shared → Prop} {s : Shared} {env : Env} {pos : Pos} (h : wpAny M A (exec (.Pass pos) env) Q E s) : wpAny M A (exec (.Pass pos) env) Q E s := by
  w_top off
  first | (walk1; fail "fresh") | exact h
theorem ord_flip {a b F e : Int} (hF : F = 1 ∨ F = -1) : ordI a b F e = if F * a = F * b then e else if F * a < F * b then -1 else 1 := by
  rcases Int.lt_trichotomy a b with h | h | h
  · rw [ordI_lt h]
    rcases hF with rfl | rfl
    · rw [if_neg (by lia), if_pos (by lia)]
    · rw [if_neg (by lia), if_neg (by lia)]; rfl
  · subst h
    rw [ordI_eq (Int.lt_irrefl _) (Int.lt_irrefl _), if_pos rfl]
  · rw [ordI_gt (by lia) h]
    rcases hF with rfl | rfl
    · rw [if_neg (by lia), if_neg (by lia)]
    · rw [if_neg (by lia), if_pos (by lia)]
theorem lt2_three {x1 y1 x2 y2 : Int} : (if lt2 x1 y1 x2 y2 then (-1 : Int) else if lt2 x2 y2 x1 y1 then 1 else 0) = if x1 = x2 then (if y1 = y2 then 0 else if y1 < y2 then -1 else 1) else if x1 < x2 then -1 else 1 := by
  by_cases e : x1 = x2
  · have A : lt2 x1 y1 x2 y2 = decide (y1 < y2) := if_pos e
    have B : lt2 x2 y2 x1 y1 = decide (y2 < y1) := if_pos e.symm
    rw [A, B, if_pos e]
    rcases Int.lt_trichotomy y1 y2 with h | h | h
    · rw [decide_eq_true h, if_neg (Int.ne_of_lt h), if_pos h]; rfl
    · rw [if_pos h, decide_eq_false (show ¬ y1 < y2 by lia), decide_eq_false (show ¬ y2 < y1 by lia)]; rfl
    · rw [decide_eq_false (show ¬ y1 < y2 by lia), decide_eq_true h, if_neg (show ¬ y1 = y2 by lia), if_neg (show ¬ y1 < y2 by omega)]; rfl
  · have A : lt2 x1 y1 x2 y2 = decide (x1 < x2) := if_neg e
    have B : lt2 x2 y2 x1 y1 = decide (x2 < x1) := if_neg fun q => e q.symm
    rw [A, B, if_neg e]
    by_cases h : x1 < x2
    · rw [decide_eq_true h, if_pos h]; rfl
    · rw [decide_eq_false h, decide_eq_true (show x2 < x1 by lia), if_neg h]; rfl
theorem cmp_lt {i0 F S b1 n1 k1 b2 n2 k2 : Int} (hF : F = 1 ∨ F = -1) (hS : S = 1 ∨ S = -1) : cmpI i0 F S b1 n1 k1 b2 n2 k2 = if lt2 (F * selI i0 b1 n1) (S * k1) (F * selI i0 b2 n2) (S * k2) then -1 else if lt2 (F * selI i0 b2 n2) (S * k2) (F * selI i0 b1 n1) (S * k1) then 1 else 0 := by
  rw [lt2_three]
  show ordI _ _ F (ordI k1 k2 S 0) = _
  rw [ord_flip hF, ord_flip hS]
noncomputable def wF (c : List Int) : Int := 1 - ((c.getD 10 0).fdiv 2).fmod 2 * 2
noncomputable def wS (c : List Int) : Int := 1 - ((c.getD 10 0).fdiv 4).fmod 2 * 2
noncomputable def wW (c : List Int) : Int := (c.getD 10 0).fmod 2
theorem bit01 (x : Int) : x.fmod 2 = 0 ∨ x.fmod 2 = 1 := by
  rw [Int.fmod_eq_emod_of_nonneg _ (show (0 : Int) ≤ 2 by decide)]
  lia
theorem wF_is (c : List Int) : wF c = [1, -1].getD (((c.getD 10 0).fdiv 2).fmod 2).toNat 0 ∧ (wF c = 1 ∨ wF c = -1) := by
  unfold wF
  rcases bit01 ((c.getD 10 0).fdiv 2) with h | h <;> rw [h] <;> exact ⟨rfl, by decide⟩
theorem wS_is (c : List Int) : wS c = [1, -1].getD (((c.getD 10 0).fdiv 4).fmod 2).toNat 0 ∧ (wS c = 1 ∨ wS c = -1) := by
  unfold wS
  rcases bit01 ((c.getD 10 0).fdiv 4) with h | h <;> rw [h] <;> exact ⟨rfl, by decide⟩
noncomputable def kx (c : List Int) (i : Nat) : Int := wF c * selI (wW c) (bI c i) (nI c i)
noncomputable def ky (c : List Int) (i : Nat) : Int := wS c * ((i : Nat) : Int)
noncomputable def ltc (c : List Int) : Nat → Nat → Bool := lt4 (kx c 0) (ky c 0) (kx c 1) (ky c 1) (kx c 2) (ky c 2) (kx c 3) (ky c 3)
theorem ky_ne (c : List Int) {i j : Nat} (h : i ≠ j) : ky c i ≠ ky c j := by
  unfold ky
  rcases (wS_is c).2 with e | e <;> rw [e] <;> lia
theorem ltc_eq (c : List Int) : ∀ i j, i < 4 → j < 4 → ltc c i j = lt2 (kx c i) (ky c i) (kx c j) (ky c j) := by
  intro i j hi hj
  match i, j, hi, hj with
  | 0, 0, _, _ => exact (lt2_same _ _).symm
  | 0, 1, _, _ => rfl
  | 0, 2, _, _ => rfl
  | 0, 3, _, _ => rfl
  | 1, 0, _, _ => exact (lt2_not (ky_ne c (by decide))).symm
  | 1, 1, _, _ => exact (lt2_same _ _).symm
  | 1, 2, _, _ => rfl
  | 1, 3, _, _ => rfl
  | 2, 0, _, _ => exact (lt2_not (ky_ne c (by decide))).symm
  | 2, 1, _, _ => exact (lt2_not (ky_ne c (by decide))).symm
  | 2, 2, _, _ => exact (lt2_same _ _).symm
  | 2, 3, _, _ => rfl
  | 3, 0, _, _ => exact (lt2_not (ky_ne c (by decide))).symm
  | 3, 1, _, _ => exact (lt2_not (ky_ne c (by decide))).symm
  | 3, 2, _, _ => exact (lt2_not (ky_ne c (by decide))).symm
  | 3, 3, _, _ => exact (lt2_same _ _).symm
  | i + 4, _, h1, _ => exact absurd h1 (by lia)
  | 0, j + 4, _, h1 => exact absurd h1 (by omega)
  | 1, j + 4, _, h1 => exact absurd h1 (by omega)
  | 2, j + 4, _, h1 => exact absurd h1 (by omega)
  | 3, j + 4, _, h1 => exact absurd h1 (by omega)
theorem ltc_trans (c : List Int) : transB (ltc c) = true := by
  unfold transB
  refine List.all_eq_true.mpr fun i hi => List.all_eq_true.mpr fun j hj => List.all_eq_true.mpr fun k hk => ?_
  have hi := List.mem_range.mp hi
  have hj := List.mem_range.mp hj
  have hk := List.mem_range.mp hk
  rw [ltc_eq c i j hi hj, ltc_eq c j k hj hk, ltc_eq c i k hi hk]
  cases e1 : lt2 (kx c i) (ky c i) (kx c j) (ky c j) with
  | false => rfl
  | true =>
    cases e2 : lt2 (kx c j) (ky c j) (kx c k) (ky c k) with
    | false => rfl
    | true => rw [lt2_trans e1 e2]; rfl
theorem line_all : ([true, false].all fun a => [true, false].all fun b => [true, false].all fun c => [true, false].all fun d => [true, false].all fun e => [true, false].all fun f => (lineI (ltB a b c d e f)).all fun i => decide (i < 4)) = true := by decide +kernel
theorem line_lt (c : List Int) : ∀ i ∈ lineI (ltc c), i < 4 := by
  have mb : ∀ x : Bool, x ∈ [true, false] := fun x => by cases x <;> simp
  have h := List.all_eq_true.mp (List.all_eq_true.mp (List.all_eq_true.mp (List.all_eq_true.mp (List.all_eq_true.mp (List.all_eq_true.mp line_all _ (mb (lt2 (kx c 0) (ky c 0) (kx c 1) (ky c 1)))) _ (mb (lt2 (kx c 0) (ky c 0) (kx c 2) (ky c 2)))) _ (mb (lt2 (kx c 0) (ky c 0) (kx c 3) (ky c 3)))) _ (mb (lt2 (kx c 1) (ky c 1) (kx c 2) (ky c 2)))) _ (mb (lt2 (kx c 1) (ky c 1) (kx c 3) (ky c 3)))) _ (mb (lt2 (kx c 2) (ky c 2) (kx c 3) (ky c 3)))
  exact fun i hi => of_decide_eq_true (List.all_eq_true.mp h i hi)
theorem sortI_eq (c : List Int) : sortI c = lineI (ltc c) := (sort_ok _ _ _ _ _ _ (ltc_trans c)).1
theorem pairs_at {lt : Nat → Nat → Bool} : ∀ {l : List Nat}, pairsOK lt l = true → ∀ {i j a b : Nat}, i < j → l[i]? = some a → l[j]? = some b → lt a b = true ∧ lt b a = false
  | [], _, i, j, a, b, _, h, _ => by simp at h
  | x :: r, h, i, j, a, b, hij, ha, hb => by
    simp only [pairsOK, Bool.and_eq_true] at h
    cases i with
    | zero =>
      cases j with
      | zero => lia
      | succ j =>
        have ea : x = a := by simpa using ha
        have hb2 : r[j]? = some b := by simpa using hb
        have := List.all_eq_true.mp h.1 b (List.mem_of_getElem? hb2)
        rw [← ea]
        simpa using this
    | succ i =>
      cases j with
      | zero => lia
      | succ j => exact pairs_at h.2 (i := i) (j := j) (by lia) (by simpa using ha) (by simpa using hb)
theorem ins_map {p : Addr × Obj → Addr × Obj → Bool} {lt : Nat → Nat → Bool} {f : Nat → Addr × Obj} {x : Nat} {l : List Nat} (h : ∀ i ∈ l, p (f i) (f x) = lt i x) : insQ p (f x) (l.map f) = (insI lt x l).map f := by
  have ht : ∀ l : List Nat, (∀ i ∈ l, p (f i) (f x) = lt i x) → (l.map f).takeWhile (fun q => p q (f x)) = (l.takeWhile fun i => lt i x).map f ∧ (l.map f).dropWhile (fun q => p q (f x)) = (l.dropWhile fun i => lt i x).map f := by
    intro l
    induction l with
    | nil => intro _; exact ⟨rfl, rfl⟩
    | cons a r ih =>
      intro h
      obtain ⟨h1, h2⟩ := ih fun i hi => h i (List.mem_cons_of_mem _ hi)
      have ha := h a (List.mem_cons_self ..)
      simp only [List.map_cons, List.takeWhile_cons, List.dropWhile_cons, ha]
      cases lt a x with
      | true => simp only [if_true, List.map_cons, h1, h2]; exact ⟨trivial, trivial⟩
      | false => simp
  obtain ⟨h1, h2⟩ := ht l h
  unfold insQ insI
  rw [h1, h2, List.map_append, List.map_cons]
theorem insI_mem {lt : Nat → Nat → Bool} {x : Nat} {l : List Nat} {P : Nat → Prop} (hx : P x) (h : ∀ i ∈ l, P i) : ∀ i ∈ insI lt x l, P i := fun i hi => by
  unfold insI at hi
  rcases List.mem_append.mp hi with hi | hi
  · exact h i ((List.takeWhile_sublist _).mem hi)
  · rcases List.mem_cons.mp hi with rfl | hi
    · exact hx
    · exact h i ((List.dropWhile_sublist _).mem hi)
theorem fold_map {p : Addr × Obj → Addr × Obj → Bool} {lt : Nat → Nat → Bool} {f : Nat → Addr × Obj} (h : ∀ i j, i < 4 → j < 4 → p (f i) (f j) = lt i j) : ∀ (xs l : List Nat), (∀ i ∈ xs, i < 4) → (∀ i ∈ l, i < 4) → (xs.map f).foldl (fun l x => insQ p x l) (l.map f) = (xs.foldl (fun l x => insI lt x l) l).map f
  | [], l, _, _ => rfl
  | x :: r, l, hx, hl => by
    rw [List.map_cons, List.foldl_cons, List.foldl_cons, ins_map (lt := lt) fun i hi => h i x (hl i hi) (hx x (List.mem_cons_self ..))]
    exact fold_map h r _ (fun i hi => hx i (List.mem_cons_of_mem _ hi)) (insI_mem (hx x (List.mem_cons_self ..)) hl)
theorem name_tup {c : List Int} {i : Nat} {o : Obj} (h : NameAt c i o) : tupD o = (bI c i, nI c i, ((i : Nat) : Int)) := by
  obtain ⟨t1, t2, t3, kq, rfl⟩ := h
  rfl
theorem cmp_names (c : List Int) {i j : Nat} {q x : Addr × Obj} (hq : NameAt c i q.2) (hx : NameAt c j x.2) (hi : i < 4) (hj : j < 4) : cmpQ (wW c) (wF c) (wS c) q x = if ltc c i j then -1 else if ltc c j i then 1 else 0 := by
  unfold cmpQ
  rw [name_tup hq, name_tup hx]
  show cmpI (wW c) (wF c) (wS c) (bI c i) (nI c i) ((i : Nat) : Int) (bI c j) (nI c j) ((j : Nat) : Int) = _
  rw [cmp_lt (wF_is c).2 (wS_is c).2, ltc_eq c i j hi hj, ltc_eq c j i hj hi]
  rfl
theorem asym (c : List Int) {i j : Nat} (hi : i < 4) (hj : j < 4) (h : ltc c i j = true) : ltc c j i = false := by
  by_cases e : i = j
  · subst e
    rw [ltc_eq c i i hi hi, lt2_same] at h
    cases h
  · rw [ltc_eq c i j hi hj] at h
    rw [ltc_eq c j i hj hi, lt2_not (ky_ne c e), h]
    rfl
noncomputable def nthQ (ns : Led) (i : Nat) : Addr × Obj := ns.getD i (0, { cls := .none })
theorem nth_get {ns : Led} (hnl : ns.length = 4) {i : Nat} (hi : i < 4) : ns[i]? = some (nthQ ns i) := by
  have h : i < ns.length := by lia
  unfold nthQ
  rw [List.getD_eq_getElem?_getD, List.getElem?_eq_getElem h]
  rfl
theorem nth_map {ns : Led} (hnl : ns.length = 4) : [0, 1, 2, 3].map (nthQ ns) = ns := by
  obtain ⟨q0, q1, q2, q3, rfl⟩ := led4 hnl
  rfl
noncomputable abbrev lnOf (c : List Int) (ns : Led) : Led := lineQ (fun q x => cmpQ (wW c) (wF c) (wS c) q x == -1) ns
section
variable {c : List Int} {ns : Led} (hnl : ns.length = 4) (hns : ∀ (i : Nat) (q : Addr × Obj), ns[i]? = some q → NameAt c i q.2)
include hnl hns
theorem ln_eq : lnOf c ns = (lineI (ltc c)).map (nthQ ns) := by
  have h := fold_map (p := fun q x => cmpQ (wW c) (wF c) (wS c) q x == -1) (lt := ltc c) (f := nthQ ns) (fun i j hi hj => by
    rw [cmp_names c (hns i _ (nth_get hnl hi)) (hns j _ (nth_get hnl hj)) hi hj]
    cases ltc c i j with
    | true => rfl
    | false => cases ltc c j i <;> rfl) [0, 1, 2, 3] [] (by decide) (fun _ h => nomatch h)
  rw [nth_map hnl] at h
  exact h
theorem ln_len : (lnOf c ns).length = 4 := by
  rw [ln_eq hnl hns, List.length_map]
  exact (sort_ok _ _ _ _ _ _ (ltc_trans c)).2.2.1
theorem ln_mem : ∀ q ∈ lnOf c ns, ∃ i, i < 4 ∧ ns[i]? = some q := fun q hq => by
  rw [ln_eq hnl hns] at hq
  obtain ⟨i, hi, rfl⟩ := List.mem_map.mp hq
  exact ⟨i, line_lt c i hi, nth_get hnl (line_lt c i hi)⟩
theorem ln_sort : (sortI c).map (fun i => (ns.map fun q => Value.ref q.1).getD i .none) = (lnOf c ns).map fun q => Value.ref q.1 := by
  rw [sortI_eq, ln_eq hnl hns, List.map_map]
  refine List.map_congr_left fun i hi => ?_
  have h := nth_get hnl (line_lt c i hi)
  rw [List.getD_eq_getElem?_getD, List.getElem?_map, h]
  rfl
theorem ln_mat : ∀ (i j : Nat) (q x : Addr × Obj), (lnOf c ns)[i]? = some q → (lnOf c ns)[j]? = some x → cmpQ (wW c) (wF c) (wS c) q x = matI i j := by
  intro i j q x hq hx
  rw [ln_eq hnl hns, List.getElem?_map] at hq hx
  obtain ⟨a, ha, rfl⟩ := Option.map_eq_some_iff.mp hq
  obtain ⟨b, hb, rfl⟩ := Option.map_eq_some_iff.mp hx
  have ha4 := line_lt c a (List.mem_of_getElem? ha)
  have hb4 := line_lt c b (List.mem_of_getElem? hb)
  have hp := (sort_ok _ _ _ _ _ _ (ltc_trans c)).2.1
  rw [cmp_names c (hns a _ (nth_get hnl ha4)) (hns b _ (nth_get hnl hb4)) ha4 hb4]
  unfold matI
  rcases Nat.lt_trichotomy i j with h | h | h
  · obtain ⟨h1, h2⟩ := pairs_at hp h ha hb
    have h1' : ltc c a b = true := h1
    rw [h1', if_pos rfl, if_neg (by lia), if_pos h]
  · subst h
    rw [ha] at hb
    cases hb
    have e : ltc c a a = false := by rw [ltc_eq c a a ha4 ha4, lt2_same]
    rw [e, if_pos rfl]
    rfl
  · obtain ⟨h1, h2⟩ := pairs_at hp h hb ha
    have h1' : ltc c b a = true := h1
    have h2' : ltc c a b = false := h2
    rw [h1', h2']
    show (1 : Int) = if i = j then 0 else if i < j then -1 else 1
    rw [if_neg (by lia), if_neg (by lia)]
noncomputable def kOf (q : Addr × Obj) : Int × Int × Nat := ((tupD q.2).1, (tupD q.2).2.1, (tupD q.2).2.2.toNat)
theorem kOf_at {i : Nat} {q : Addr × Obj} (h : NameAt c i q.2) : kOf q = (bI c i, nI c i, i) := by
  unfold kOf
  rw [name_tup h]
  rfl
theorem ln_ks : ∀ (j : Nat) (q : Addr × Obj), (lnOf c ns)[j]? = some q → ∃ b n k t1 t2 t3 kq, ((lnOf c ns).map kOf)[j]? = some (b, n, k) ∧ k < 4 ∧ q.2 = tup #[.int b t1, .int n t2, .int ((k : Nat) : Int) t3] kq := fun j q hq => by
  obtain ⟨i, hi, hqi⟩ := ln_mem hnl hns q (List.mem_of_getElem? hq)
  have hn := hns i q hqi
  obtain ⟨t1, t2, t3, kq, e⟩ := id hn
  refine ⟨_, _, i, t1, t2, t3, kq, ?_, hi, e⟩
  rw [List.getElem?_map, hq]
  show some (kOf q) = _
  rw [kOf_at hnl hns hn]
  rfl
theorem ln_ok : ∀ e ∈ (lnOf c ns).map kOf, e.2.2 < 4 ∧ e.1 = bI c e.2.2 := fun e he => by
  obtain ⟨q, hq, rfl⟩ := List.mem_map.mp he
  obtain ⟨i, hi, hqi⟩ := ln_mem hnl hns q hq
  rw [kOf_at hnl hns (hns i q hqi)]
  exact ⟨hi, rfl⟩
theorem ln_all : ∀ k, k < 4 → k ∈ ((lnOf c ns).map kOf).map (·.2.2) := fun k hk => by
  have h := (sort_ok _ _ _ _ _ _ (ltc_trans c)).2.2.2 k hk
  have h2 : nthQ ns k ∈ lnOf c ns := by
    rw [ln_eq hnl hns]
    exact List.mem_map_of_mem h
  refine List.mem_map.mpr ⟨kOf (nthQ ns k), List.mem_map_of_mem h2, ?_⟩
  rw [kOf_at hnl hns (hns k _ (nth_get hnl hk))]
end
end

section -- lawf
theorem fresh_lawf {M : Model} {A : Around} {Q : Flow → Shared → Prop} {E : Value → Shared → Prop} {s : Shared} {env : Env} {pos : Pos} (h : wpAny M A (exec (.Pass pos) env) Q E s) : wpAny M A (exec (.Pass pos) env) Q E s := by
  w_top off
  first | (walk1; fail "fresh") | exact h
theorem law_list : lawDef.1 = [lawS 0, lawS 1, lawS 2, lawS 3, lawS 4, lawS 5, lawS 6, lawS 7, lawS 8, lawS 9, lawS 10, lawS 11, lawS 12, lawS 13, lawS 14, lawS 15, lawS 16] := by kernel_rfl
theorem row_nd (f : Nat → Int) (i : Nat) : ∀ j, (keysK (rowKV f i j)).Nodup
  | 0 => List.nodup_nil
  | j + 1 => by
    by_cases h : i = j
    · subst h
      rw [← row_same]
      exact row_nd f i i
    · rw [← put_row h]
      exact nd_put (row_nd f i j)
/-- no cell, and not the lambda's table -/
noncomputable def Pln (o : Obj) : Prop := (∀ v, o.data ≠ .cell v) ∧ ∀ ps, o.data ≠ .fields ps
theorem pln_dicts {w : World} {rs : Led} {K : Nat → KV} (h : ∀ (i : Nat) (q : Addr × Obj), rs[i]? = some q → IsDict w q (K i)) : ∀ q ∈ rs, Pln q.2 := fun q hq => by
  obtain ⟨i, hi⟩ := List.mem_iff_getElem?.mp hq
  obtain ⟨-, kvs, ⟨es, ep, -, hd, -⟩, -⟩ := h i q hi
  exact ⟨fun v e => (by rw [hd] at e; cases e), fun v e => (by rw [hd] at e; cases e)⟩
theorem pln_names {ns : Led} {c : List Int} (h : ∀ (i : Nat) (q : Addr × Obj), ns[i]? = some q → NameAt c i q.2) : ∀ q ∈ ns, Pln q.2 := fun q hq => by
  obtain ⟨i, hi⟩ := List.mem_iff_getElem?.mp hq
  obtain ⟨t1, t2, t3, kq, e⟩ := h i q hi
  exact ⟨fun v e2 => (by rw [e] at e2; cases e2), fun v e2 => (by rw [e] at e2; cases e2)⟩
theorem pln_lists {ps : Led} {F : Nat → List Int} (h : ∀ (j : Nat) (q : Addr × Obj), ps[j]? = some q → ∃ vj kj, q.2 = W.listOf vj.toArray kj ∧ IntsAre vj (F j)) : ∀ q ∈ ps, Pln q.2 := fun q hq => by
  obtain ⟨i, hi⟩ := List.mem_iff_getElem?.mp hq
  obtain ⟨vj, kj, e, -⟩ := h i q hi
  exact ⟨fun v e2 => (by rw [e] at e2; cases e2), fun v e2 => (by rw [e] at e2; cases e2)⟩
theorem pln_list (vs : Array Value) (k : Nat) : Pln (W.listOf vs k) := ⟨fun _ e => (by cases e), fun _ e => (by cases e)⟩
theorem pln_tup (vs : Array Value) (k : Nat) : Pln (tup vs k) := ⟨fun _ e => (by cases e), fun _ e => (by cases e)⟩
theorem pln_inst (c d : Addr) : Pln (instObj c d) := ⟨fun _ e => (by cases e), fun _ e => (by cases e)⟩
theorem pln_dict (es : List DictEntry) (k : Nat) : Pln (dictOf es k) := ⟨fun _ e => (by cases e), fun _ e => (by cases e)⟩
/-- in a ledger, apart from a cell: what is no cell, or has another address -/
theorem off_cell {g h : Heap} {L x : Addr} {o : Obj} {v : Option Value} {big l : Led} (N : News g L h big) (hx : (x, o) ∈ big) (ho : o.data = .cell v) (hs : ∀ q ∈ l, q ∈ big) (hl : ∀ q ∈ l, Pln q.2 ∨ q.1 ≠ x) : ∀ q ∈ l, q.1 ≠ x := fun q hq e => by
  rcases hl q hq with hp | hp
  · have h1 := (N q (hs q hq)).1
    rw [e] at h1
    have h2 := (N _ hx).1
    rw [h1] at h2
    have h3 : q.2 = o := Option.some.inj h2
    exact hp.1 v (h3 ▸ ho)
  · exact hp e
theorem off_tab {g h : Heap} {L x : Addr} {vs : Array Value} {big l : Led} (N : News g L h big) (hx : (x, tabObj vs) ∈ big) (hs : ∀ q ∈ l, q ∈ big) (hl : ∀ q ∈ l, Pln q.2 ∨ q.1 ≠ x) : ∀ q ∈ l, q.1 ≠ x := fun q hq e => by
  rcases hl q hq with hp | hp
  · have h1 := (N q (hs q hq)).1
    rw [e] at h1
    have h2 := (N _ hx).1
    rw [h1] at h2
    have h3 : q.2 = tabObj vs := Option.some.inj h2
    exact hp.2 vs (by rw [h3])
  · exact hp e
theorem pl_left {q : Addr × Obj} {x : Addr} (h : Pln q.2) : Pln q.2 ∨ q.1 ≠ x := .inl h
theorem pl_all {l : Led} {x : Addr} (h : ∀ q ∈ l, Pln q.2) : ∀ q ∈ l, Pln q.2 ∨ q.1 ≠ x := fun q hq => .inl (h q hq)
theorem pl_right {q : Addr × Obj} {x : Addr} (h : q.1 ≠ x) : Pln q.2 ∨ q.1 ≠ x := .inr h
section
variable {c : List Int} {ns : Led} (hnl : ns.length = 4) (hns : ∀ (i : Nat) (q : Addr × Obj), ns[i]? = some q → NameAt c i q.2)
include hns
theorem names_t3 : ∀ q ∈ ns, ∃ b n k t1 t2 t3 kq, q.2 = tup #[.int b t1, .int n t2, .int k t3] kq := fun q hq => by
  obtain ⟨i, hi⟩ := List.mem_iff_getElem?.mp hq
  obtain ⟨t1, t2, t3, kq, e⟩ := hns i q hi
  exact ⟨_, _, _, t1, t2, t3, kq, e⟩
include hnl
theorem ln_sub : ∀ q ∈ lnOf c ns, q ∈ ns := fun q hq => by
  obtain ⟨i, -, h⟩ := ln_mem hnl hns q hq
  exact List.mem_of_getElem? h
theorem ln_t3 : ∀ q ∈ lnOf c ns, ∃ b n k t1 t2 t3 kq, q.2 = tup #[.int b t1, .int n t2, .int k t3] kq := fun q hq => names_t3 hns q (ln_sub hnl hns q hq)
theorem ln_bF : ∀ e ∈ (lnOf c ns).map kOf, e.2.2 < 4 ∧ e.1 = bF c e.2.2 := fun e he => by
  obtain ⟨h1, h2⟩ := ln_ok hnl hns e he
  refine ⟨h1, h2.trans ?_⟩
  show bI c e.2.2 = ((c.drop 6).take 4).getD e.2.2 0
  unfold bI
  rw [List.getD_eq_getElem?_getD, List.getD_eq_getElem?_getD, List.getElem?_take_of_lt h1, List.getElem?_drop]
end
theorem leads_bd (c : List Int) : ∀ x ∈ (List.range 16).map fun i => toldI (upB (TB c i) (bsOf c)) 4, 0 ≤ x ∧ x < 16 := by
  rw [leads_eq]
  exact mapN_bd fun s _ => FN_lt s
theorem rounds_bd (c : List Int) {ks : List (Int × Int × Nat)} (h : ∀ e ∈ ks, e.2.2 < 4 ∧ e.1 = bF c e.2.2) : ∀ x ∈ (List.range 16).map fun i => ((roundN (TB c) ks i : Nat) : Int), 0 ≤ x ∧ x < 16 := by
  rw [rounds_eq c h]
  exact mapN_bd (rounds_lt c h)
theorem cell_ne (L : Nat) (l0 : @LT.lt Nat _ 171 L) : (@Ne Nat (L + 1) (L + 1 + 1) ∧ @Ne Nat (L + 1 + 1 + 1) (L + 1 + 1) ∧ @Ne Nat (L + 1 + 1 + 1 + 1) (L + 1 + 1) ∧ @Ne Nat (L + 1 + 1 + 1 + 1 + 1) (L + 1 + 1) ∧ @Ne Nat 171 (L + 1 + 1)) ∧
    (@Ne Nat (L + 1 + 1) (L + 1) ∧ @Ne Nat (L + 1 + 1 + 1) (L + 1) ∧ @Ne Nat (L + 1 + 1 + 1 + 1) (L + 1) ∧ @Ne Nat (L + 1 + 1 + 1 + 1 + 1) (L + 1) ∧ @Ne Nat 171 (L + 1)) ∧
    (@Ne Nat (L + 1) (L + 1 + 1 + 1) ∧ @Ne Nat (L + 1 + 1) (L + 1 + 1 + 1) ∧ @Ne Nat (L + 1 + 1 + 1 + 1) (L + 1 + 1 + 1) ∧ @Ne Nat (L + 1 + 1 + 1 + 1 + 1) (L + 1 + 1 + 1) ∧ @Ne Nat 171 (L + 1 + 1 + 1)) ∧
    (@Ne Nat (L + 1) (L + 1 + 1 + 1 + 1) ∧ @Ne Nat (L + 1 + 1) (L + 1 + 1 + 1 + 1) ∧ @Ne Nat (L + 1 + 1 + 1) (L + 1 + 1 + 1 + 1) ∧ @Ne Nat (L + 1 + 1 + 1 + 1 + 1) (L + 1 + 1 + 1 + 1) ∧ @Ne Nat 171 (L + 1 + 1 + 1 + 1)) ∧
    (@Ne Nat (L + 1) (L + 1 + 1 + 1 + 1 + 1) ∧ @Ne Nat (L + 1 + 1) (L + 1 + 1 + 1 + 1 + 1) ∧ @Ne Nat (L + 1 + 1 + 1) (L + 1 + 1 + 1 + 1 + 1) ∧ @Ne Nat (L + 1 + 1 + 1 + 1) (L + 1 + 1 + 1 + 1 + 1) ∧ @Ne Nat 171 (L + 1 + 1 + 1 + 1 + 1)) ∧
    (@Ne Nat (L + 1) 171 ∧ @Ne Nat (L + 1 + 1) 171 ∧ @Ne Nat (L + 1 + 1 + 1) 171 ∧ @Ne Nat (L + 1 + 1 + 1 + 1) 171 ∧ @Ne Nat (L + 1 + 1 + 1 + 1 + 1) 171) := by
  refine ⟨⟨?_, ?_, ?_, ?_, ?_⟩, ⟨?_, ?_, ?_, ?_, ?_⟩, ⟨?_, ?_, ?_, ?_, ?_⟩, ⟨?_, ?_, ?_, ?_, ?_⟩, ⟨?_, ?_, ?_, ?_, ?_⟩, ⟨?_, ?_, ?_, ?_, ?_⟩⟩ <;> lia
end

section -- law
theorem fresh_law {M : Model} {A : Around} {Q : Flow → Shared → Prop} {E : Value → Shared → Prop} {s : Shared} {env : Env} {pos : Pos} (h : wpAny M A (exec (.Pass pos) env) Q E s) : wpAny M A (exec (.Pass pos) env) Q E s := by
  w_top off
  first | (walk1; fail "fresh") | exact h
local macro_rules | `(tactic| walk_at "led sub") => `(tactic| with_reducible (repeat' (first | exact al_nil | exact at_head | exact in_self | refine in_all (ln_sub (by assumption) (by assumption)) ?_ | refine al_cons ?_ ?_ | refine al_app ?_ ?_ | refine at_tail ?_ | refine at_right ?_ | refine in_tail ?_ | exact in_left in_self | refine in_right ?_)))
local macro_rules | `(tactic| walk_at "led off") => `(tactic| with_reducible (repeat' (first | exact al_nil | refine al_cons ?_ ?_ | refine al_app ?_ ?_ | exact pl_all (by assumption) | exact pl_left (pln_list _ _) | exact pl_left (pln_tup _ _) | exact pl_left (pln_inst _ _) | exact pl_left (pln_dict _ _) | exact pl_right (by assumption))))
theorem law_body (w : World) (p : Program) (loose : List PySem.Str) (mean : ExcName → Option Value) (mg mb : PySem.Str → Option Value) (outer : List Env) (fa : Addr) (fcd : Value) (A₀ : Around) (base g : Heap) (L : Addr) (s : Shared) (h : Heap) (tk : Nat) (m : LMap)
    (B : Below A₀ base outer g) (X : (hdtop.heap_39 w.params).In g) (T : Top p loose mean mg mb g) (F : Fr g L h m) (sc : Addr) (vs : List Value) (ns : List Int) (hv : IntsAre vs ns) (hl : ns.length ≤ 63) (hsl : g.IsList sc vs.toArray)
    (o0 o1 o2 o3 o4 : Obj) (v0 v1 v2 v3 v4 : Option Value) (hc0 : o0.data = .cell v0) (hc1 : o1.data = .cell v1) (hc2 : o2.data = .cell v2) (hc3 : o3.data = .cell v3) (hc4 : o4.data = .cell v4) (l0 : @LT.lt Nat _ 171 L)
    (N : News g L h [(L + 1 + 1 + 1 + 1 + 1, o4), (L + 1 + 1 + 1 + 1, o3), (L + 1 + 1 + 1, o2), (L + 1 + 1, o1), (L + 1, o0), (171, tabObj #[])]) (hm : HasL m [("script", .ref sc)]) :
    wpAny (model PySem.Challenge.rw_jc0016_01.row.prog w) (lawA (1 + claimMargin + 1) 7 (some []) L fa fcd outer) (execs lawDef.1 (lawE L fa fcd)) (fun f s' => Hold (f = .ret (.bool true) ∧ ∃ h' tk' m' ps tl, s' = { s with heap := h', toks := tk' } ∧ Fr g L h' m' ∧ News g L h' ((171, tabObj ps) :: tl))) (fun _ _ => False) { s with heap := h, toks := tk } := by
  have hdp : 1 + claimMargin + 1 + 10 < recursionLimit := by decide
  have hun : 7 + 200 < cLine := by decide
  rw [law_list]
  refine execs_cut1 _ (seg1 w p loose mean mg mb _ _ _ outer fa fcd A₀ base g L s _ h tk m [(L + 1 + 1, o1), (L + 1 + 1 + 1, o2), (L + 1 + 1 + 1 + 1, o3), (L + 1 + 1 + 1 + 1 + 1, o4), (171, tabObj #[])] B X T hdp hun F sc vs ns hv hl hsl o0 v0 hc0 (cb_drop N (by walk_at "led sub")) ?_ hm) ?_
  · obtain ⟨e1, e2, e3, e4, e5⟩ := (cell_ne L l0).2.1
    exact al_cons e1 (al_cons e2 (al_cons e3 (al_cons e4 (al_cons e5 al_nil))))
  intro s1 e1
  refine exs_8_7 e1 ?_
  clear e1
  intro h1 tk1 m1 D kk us c p0 F1 N1 n1 hp0 hi hc hm1
  clear N F hm hc0
  refine execs_cut1 _ (seg2 w p loose mean mg mb _ _ _ outer fa fcd A₀ base g L s _ h1 tk1 m1 [(L + 1 + 1, o1), (L + 1 + 1 + 1, o2), (L + 1 + 1 + 1 + 1, o3), (L + 1 + 1 + 1 + 1 + 1, o4), (171, tabObj #[])] B X T hdp hun F1 sc D kk us c hi hc p0 hp0 N1 hm1) ?_
  intro s2 e2
  refine exs_6_6 e2 ?_
  clear e2
  intro h2 tk2 m2 R kr rs F2 N2 n2 hrl hrs hm2
  clear F1 hm1
  have pR : ∀ q ∈ rs, Pln q.2 := pln_dicts hrs
  refine execs_cut1 _ (seg3 w p loose mean mg mb _ _ _ outer fa fcd A₀ base g L s _ h2 tk2 m2 [(L + 1, p0), (D, W.listOf us.toArray kk), (L + 1 + 1, o1), (L + 1 + 1 + 1, o2), (L + 1 + 1 + 1 + 1, o3), (L + 1 + 1 + 1 + 1 + 1, o4), (171, tabObj #[])] B X T hdp hun F2 sc R kr rs _ hrl hrs (fun i => ?_) N2 hm2) ?_
  · exact Nat.le_trans (row_len _ _ 4) (by decide)
  intro s3 e3
  refine exs_6_6 e3 ?_
  clear e3
  intro h3 tk3 m3 Kp kn ks F3 N3 n3 hkl hks hm3
  clear F2 hm2
  have pK : ∀ q ∈ ks, Pln q.2 := pln_dicts hks
  refine execs_cut1 _ (seg4 w p loose mean mg mb _ _ _ outer fa fcd A₀ base g L s _ h3 tk3 m3 (ks ++ [(Kp, W.listOf (ks.map fun q => Value.ref q.1).toArray kn), (L + 1, p0), (D, W.listOf us.toArray kk), (L + 1 + 1 + 1, o2), (L + 1 + 1 + 1 + 1, o3), (L + 1 + 1 + 1 + 1 + 1, o4), (171, tabObj #[])]) B X T hdp hun F3 sc R Kp kr rs _ hrl hrs (fun i => ?_) o1 v1 hc1 (cb_drop N3 (by walk_at "led sub")) ?_ hm3) ?_
  · exact row_len _ _ 4
  · obtain ⟨e1, e2, e3, e4, e5⟩ := (cell_ne L l0).1
    exact off_cell (big := _) N3 (by walk_at "led sub") hc1 (by walk_at "led sub") (by walk_at "led off")
  intro s4 e4
  refine exs_7_7 e4 ?_
  clear e4
  intro h4 tk4 m4 T9 kt ts p1 F4 N4 n4 htl hts hp1 hm4
  clear F3 hm3 hc1
  have pT : ∀ q ∈ ts, Pln q.2 := pln_dicts hts
  refine execs_cut1 _ (seg5 w p loose mean mg mb _ _ _ outer fa fcd A₀ base g L s _ h4 tk4 m4 ((L + 1 + 1, p1) :: (L + 1 + 1 + 1, o2) :: (L + 1 + 1 + 1 + 1, o3) :: (L + 1 + 1 + 1 + 1 + 1, o4) :: (171, tabObj #[]) :: (T9, W.listOf (ts.map fun q => Value.ref q.1).toArray kt) :: (R, W.listOf (rs.map fun q => Value.ref q.1).toArray kr) :: (Kp, W.listOf (ks.map fun q => Value.ref q.1).toArray kn) :: (ts ++ (rs ++ ks))) B X T hdp hun F4 sc D R Kp kk us c hi hc p0 hp0 (cb_drop N4 (by walk_at "led sub")) hm4) ?_
  intro s5 e5
  refine exs_6_6 e5 ?_
  clear e5
  intro h5 tk5 m5 Nm km nm F5 N5 n5 hnl hns hm5
  clear F4 hm4
  have pN : ∀ q ∈ nm, Pln q.2 := pln_names hns
  refine execs_cut1 _ (seg6 w p loose mean mg mb outer fa fcd A₀ base g L s _ h5 tk5 m5 ((L + 1 + 1, p1) :: (L + 1 + 1 + 1 + 1, o3) :: (L + 1 + 1 + 1 + 1 + 1, o4) :: (171, tabObj #[]) :: (Nm, W.listOf (nm.map fun q => Value.ref q.1).toArray km) :: (T9, W.listOf (ts.map fun q => Value.ref q.1).toArray kt) :: (R, W.listOf (rs.map fun q => Value.ref q.1).toArray kr) :: (Kp, W.listOf (ks.map fun q => Value.ref q.1).toArray kn) :: (nm ++ (ts ++ (rs ++ ks)))) B X T F5 sc D R Kp Nm kk us c hi hc p0 o2 hp0 v2 hc2 (cb_drop N5 (by walk_at "led sub")) ?_ ?_ hm5) ?_
  · obtain ⟨e1, e2, e3, e4, e5⟩ := (cell_ne L l0).2.2.1
    exact off_cell N5 (by walk_at "led sub") hc2 (by walk_at "led sub") (by walk_at "led off")
  · exact off_cell N5 (by walk_at "led sub") hc2 (l := [(D, W.listOf us.toArray kk)]) (by walk_at "led sub") (by walk_at "led off") _ at_head
  intro s6 e6
  refine exs_19_5 e6 ?_
  clear e6
  intro h6 tk6 m6 cx dx cl ta tb hk kl ka kb kd tkc u1 u2 u3 u4 p2 F6 N6 n6 hp2 hm6
  clear F5 hm5
  rw [← (wF_is c).1, ← (wS_is c).1, show (c.getD 10 0).fmod 2 = wW c from rfl] at N6
  have M6 : News g L h6 ((L + 1 + 1 + 1 + 1, o3) :: (L + 1 + 1 + 1, p2) :: (Nm, W.listOf (nm.map fun q => Value.ref q.1).toArray km) :: (cx, instObj 87 dx) :: (dx, dictOf [⟨hk, .str (PySem.Str.ofString "comp_select_list") tkc, .ref cl⟩] kd) :: (cl, W.listOf #[.ref ta, .ref tb] kl) :: (ta, tup #[.int (wW c) u1, .int (wF c) u2] ka) :: (tb, tup #[.int 2 u3, .int (wS c) u4] kb) :: (nm ++ ((L + 1, p0) :: (D, W.listOf us.toArray kk) :: (L + 1 + 1, p1) :: (L + 1 + 1 + 1 + 1 + 1, o4) :: (171, tabObj #[]) :: (T9, W.listOf (ts.map fun q => Value.ref q.1).toArray kt) :: (R, W.listOf (rs.map fun q => Value.ref q.1).toArray kr) :: (Kp, W.listOf (ks.map fun q => Value.ref q.1).toArray kn) :: (ts ++ (rs ++ ks))))) := cb_drop N6 (by walk_at "led sub")
  refine execs_cut1 _ (seg7 w p loose mean mg mb _ _ _ outer fa fcd A₀ base g L s _ h6 tk6 m6 ((L + 1, p0) :: (D, W.listOf us.toArray kk) :: (L + 1 + 1, p1) :: (L + 1 + 1 + 1 + 1 + 1, o4) :: (171, tabObj #[]) :: (T9, W.listOf (ts.map fun q => Value.ref q.1).toArray kt) :: (R, W.listOf (rs.map fun q => Value.ref q.1).toArray kr) :: (Kp, W.listOf (ks.map fun q => Value.ref q.1).toArray kn) :: (ts ++ (rs ++ ks))) B X T hdp hun F6 sc R Kp Nm cx dx cl ta tb hk kl ka kb kd km (wW c) (wF c) (wS c) tkc u1 u2 u3 u4 nm (bit01 _) (by lia) ?_ p2 o3 v3 hp2 hc3 M6 ?_ hm6) ?_
  · exact names_t3 hns
  · obtain ⟨e1, e2, e3, e4, e5⟩ := (cell_ne L l0).2.2.2.1
    exact off_cell M6 (by walk_at "led sub") hc3 (by walk_at "led sub") (by walk_at "led off")
  intro s7 e7
  refine exs_6_5 e7 ?_
  clear e7
  intro h7 tk7 m7 Ln kl2 p3 F7 N7 n7 hp3 hm7
  clear F6 hm6
  have hTB : ∀ (i : Nat) (q : Addr × Obj), ts[i]? = some q → IsDict w q (TB c i) := hts
  refine execs_cut1 _ (seg8 w p loose mean mg mb _ _ _ outer fa fcd A₀ base g L s _ h7 tk7 m7 ((L + 1 + 1 + 1 + 1, p3) :: (L + 1 + 1 + 1, p2) :: (L + 1 + 1 + 1 + 1 + 1, o4) :: (171, tabObj #[]) :: (Nm, W.listOf (nm.map fun q => Value.ref q.1).toArray km) :: (Ln, W.listOf ((lnOf c nm).map fun q => Value.ref q.1).toArray kl2) :: (R, W.listOf (rs.map fun q => Value.ref q.1).toArray kr) :: (Kp, W.listOf (ks.map fun q => Value.ref q.1).toArray kn) :: (cx, instObj 87 dx) :: (dx, dictOf [⟨hk, .str (PySem.Str.ofString "comp_select_list") tkc, .ref cl⟩] kd) :: (cl, W.listOf #[.ref ta, .ref tb] kl) :: (ta, tup #[.int (wW c) u1, .int (wF c) u2] ka) :: (tb, tup #[.int 2 u3, .int (wS c) u4] kb) :: (nm ++ (rs ++ ks))) B X T hdp hun F7 sc R Kp Nm D T9 kk kt us c hi hc ts (TB c) htl hTB p0 p1 hp0 hp1 (cb_drop N7 (by walk_at "led sub")) hm7) ?_
  intro s8 e8
  refine exs_6_5 e8 ?_
  clear e8
  intro h8 tk8 m8 Ld vl kd2 F8 N8 n8 hvl hm8
  clear F7 hm7
  refine execs_cut1 _ (seg9 w p loose mean mg mb _ _ _ outer fa fcd A₀ base g L s _ h8 tk8 m8 ((L + 1, p0) :: (D, W.listOf us.toArray kk) :: (L + 1 + 1 + 1, p2) :: (L + 1 + 1 + 1 + 1 + 1, o4) :: (171, tabObj #[]) :: (Nm, W.listOf (nm.map fun q => Value.ref q.1).toArray km) :: (Ld, W.listOf vl.toArray kd2) :: (R, W.listOf (rs.map fun q => Value.ref q.1).toArray kr) :: (Kp, W.listOf (ks.map fun q => Value.ref q.1).toArray kn) :: (cx, instObj 87 dx) :: (dx, dictOf [⟨hk, .str (PySem.Str.ofString "comp_select_list") tkc, .ref cl⟩] kd) :: (cl, W.listOf #[.ref ta, .ref tb] kl) :: (ta, tup #[.int (wW c) u1, .int (wF c) u2] ka) :: (tb, tup #[.int 2 u3, .int (wS c) u4] kb) :: (nm ++ (rs ++ ks))) B X T hdp hun F8 sc R Kp Nm Ld Ln T9 kl2 kt ts (lnOf c nm) (TB c) htl hTB ((lnOf c nm).map kOf) (by rw [List.length_map]) (ln_ks hnl hns) p1 p3 hp1 hp3 ?_ (cb_drop N8 (by walk_at "led sub")) hm8) ?_
  · exact in_all (ln_sub hnl hns) (by walk_at "led sub")
  intro s9 e9
  refine exs_6_5 e9 ?_
  clear e9
  intro h9 tk9 m9 Rd vr kr2 F9 N9 n9 hvr hm9
  clear F8 hm8
  refine execs_cut1 _ (seg10 w p loose mean mg mb _ _ _ outer fa fcd A₀ base g L s (fun _ _ => False) h9 tk9 m9 ((Rd, W.listOf vr.toArray kr2) :: (L + 1, p0) :: (L + 1 + 1, p1) :: (L + 1 + 1 + 1, p2) :: (L + 1 + 1 + 1 + 1, p3) :: (L + 1 + 1 + 1 + 1 + 1, o4) :: (171, tabObj #[]) :: (D, W.listOf us.toArray kk) :: (T9, W.listOf (ts.map fun q => Value.ref q.1).toArray kt) :: (Ln, W.listOf ((lnOf c nm).map fun q => Value.ref q.1).toArray kl2) :: (Nm, W.listOf (nm.map fun q => Value.ref q.1).toArray km) :: (R, W.listOf (rs.map fun q => Value.ref q.1).toArray kr) :: (Kp, W.listOf (ks.map fun q => Value.ref q.1).toArray kn) :: (cx, instObj 87 dx) :: (dx, dictOf [⟨hk, .str (PySem.Str.ofString "comp_select_list") tkc, .ref cl⟩] kd) :: (cl, W.listOf #[.ref ta, .ref tb] kl) :: (ta, tup #[.int (wW c) u1, .int (wF c) u2] ka) :: (tb, tup #[.int 2 u3, .int (wS c) u4] kb) :: (ts ++ (nm ++ (rs ++ ks)))) B X T hdp hun F9 sc R Kp Nm Ld Rd kd2 vl _ hvl (by rw [List.length_map, List.length_range]) ?_ (back_ok c) (cb_drop N9 (by walk_at "led sub")) hm9) ?_
  · exact leads_bd c
  intro s10 e10
  refine exs_3_3 e10 ?_
  clear e10
  intro h10 tk10 m10 F10 N10 hm10
  clear F9 hm9
  refine execs_cut1 _ (seg11 w p loose mean mg mb _ _ _ outer fa fcd A₀ base g L s (fun _ _ => False) h10 tk10 m10 ((L + 1, p0) :: (L + 1 + 1, p1) :: (L + 1 + 1 + 1, p2) :: (L + 1 + 1 + 1 + 1, p3) :: (L + 1 + 1 + 1 + 1 + 1, o4) :: (171, tabObj #[]) :: (D, W.listOf us.toArray kk) :: (T9, W.listOf (ts.map fun q => Value.ref q.1).toArray kt) :: (Ln, W.listOf ((lnOf c nm).map fun q => Value.ref q.1).toArray kl2) :: (Nm, W.listOf (nm.map fun q => Value.ref q.1).toArray km) :: (R, W.listOf (rs.map fun q => Value.ref q.1).toArray kr) :: (Kp, W.listOf (ks.map fun q => Value.ref q.1).toArray kn) :: (cx, instObj 87 dx) :: (dx, dictOf [⟨hk, .str (PySem.Str.ofString "comp_select_list") tkc, .ref cl⟩] kd) :: (cl, W.listOf #[.ref ta, .ref tb] kl) :: (ta, tup #[.int (wW c) u1, .int (wF c) u2] ka) :: (tb, tup #[.int 2 u3, .int (wS c) u4] kb) :: (ts ++ (nm ++ (rs ++ ks)))) B X T hdp hun F10 sc R Kp Nm Ld Rd kd2 kr2 vl vr _ _ hvl (by rw [List.length_map, List.length_range]) hvr (by rw [List.length_map, List.length_range]) ?_ (rest_ok c ?_ (ln_all hnl hns)) (cb_drop N10 (by walk_at "led sub")) hm10) ?_
  · exact rounds_bd c (ln_bF hnl hns)
  · exact ln_bF hnl hns
  intro s11 e11
  refine exs_3_3 e11 ?_
  clear e11
  intro h11 tk11 m11 F11 N11 hm11
  clear F10 hm10
  refine execs_cut1 _ (seg12 w p loose mean mg mb _ _ _ outer fa fcd A₀ base g L s _ h11 tk11 m11 ((L + 1 + 1, p1) :: (L + 1 + 1 + 1, p2) :: (L + 1 + 1 + 1 + 1, p3) :: (171, tabObj #[]) :: (T9, W.listOf (ts.map fun q => Value.ref q.1).toArray kt) :: (Ln, W.listOf ((lnOf c nm).map fun q => Value.ref q.1).toArray kl2) :: (Ld, W.listOf vl.toArray kd2) :: (Nm, W.listOf (nm.map fun q => Value.ref q.1).toArray km) :: (R, W.listOf (rs.map fun q => Value.ref q.1).toArray kr) :: (Kp, W.listOf (ks.map fun q => Value.ref q.1).toArray kn) :: (cx, instObj 87 dx) :: (dx, dictOf [⟨hk, .str (PySem.Str.ofString "comp_select_list") tkc, .ref cl⟩] kd) :: (cl, W.listOf #[.ref ta, .ref tb] kl) :: (ta, tup #[.int (wW c) u1, .int (wF c) u2] ka) :: (tb, tup #[.int 2 u3, .int (wS c) u4] kb) :: (ts ++ (nm ++ (rs ++ ks)))) B X T hdp hun F11 sc R Kp Nm Ld D kk us c hi hc p0 o4 hp0 v4 hc4 (cb_drop N11 (by walk_at "led sub")) ?_ ?_ ⟨hm11.1, hm11.2.1, hm11.2.2.1, hm11.2.2.2.1, hm11.2.2.2.2.1, trivial⟩) ?_
  · obtain ⟨e1, e2, e3, e4, e5⟩ := (cell_ne L l0).2.2.2.2.1
    exact off_cell N11 (by walk_at "led sub") hc4 (by walk_at "led sub") (by walk_at "led off")
  · exact off_cell N11 (by walk_at "led sub") hc4 (l := [(D, W.listOf us.toArray kk)]) (by walk_at "led sub") (by walk_at "led off") _ at_head
  intro s12 e12
  refine exs_7_7 e12 ?_
  clear e12
  intro h12 tk12 m12 Pp kp ps p4 F12 N12 n12 hp4 hpl hps hm12
  clear F11 hm11
  have pP : ∀ q ∈ ps, Pln q.2 := pln_lists hps
  have hps2 : ∀ (j : Nat) (q : Addr × Obj), ps[j]? = some q → ∃ vj kj, q.2 = W.listOf vj.toArray kj ∧ IntsAre vj ((List.range 4).map (pullI c j)) ∧ ((List.range 4).map (pullI c j)).length = 4 := fun j q hq => by
    obtain ⟨vj, kj, e1, e2⟩ := hps j q hq
    exact ⟨vj, kj, e1, e2, by rw [List.length_map, List.length_range]⟩
  refine execs_cut1 _ (seg13 w p loose mean mg mb _ _ _ outer fa fcd A₀ base g L s (fun _ _ => False) h12 tk12 m12 ((L + 1 + 1, p1) :: (L + 1 + 1 + 1, p2) :: (L + 1 + 1 + 1 + 1, p3) :: (171, tabObj #[]) :: (T9, W.listOf (ts.map fun q => Value.ref q.1).toArray kt) :: (Ln, W.listOf ((lnOf c nm).map fun q => Value.ref q.1).toArray kl2) :: (Nm, W.listOf (nm.map fun q => Value.ref q.1).toArray km) :: (R, W.listOf (rs.map fun q => Value.ref q.1).toArray kr) :: (Kp, W.listOf (ks.map fun q => Value.ref q.1).toArray kn) :: (cx, instObj 87 dx) :: (dx, dictOf [⟨hk, .str (PySem.Str.ofString "comp_select_list") tkc, .ref cl⟩] kd) :: (cl, W.listOf #[.ref ta, .ref tb] kl) :: (ta, tup #[.int (wW c) u1, .int (wF c) u2] ka) :: (tb, tup #[.int 2 u3, .int (wS c) u4] kb) :: (ts ++ (nm ++ (rs ++ ks)))) B X T hdp hun F12 sc R Kp Nm Ld Pp D kk kp kd2 us vl c (bsOf c) _ hi hc rfl (fun j => (List.range 4).map (pullI c j)) hvl (els_ok c) p0 p4 hp0 hp4 ps hpl hps2 (cb_drop N12 (by walk_at "led sub")) hm12) ?_
  intro s13 e13
  refine exs_3_3 e13 ?_
  clear e13
  intro h13 tk13 m13 F13 N13 hm13
  clear F12 hm12
  refine execs_cut1 _ (seg14 w p loose mean mg mb _ _ _ outer fa fcd A₀ base g L s (fun _ _ => False) h13 tk13 m13 ((L + 1 + 1, p1) :: (L + 1 + 1 + 1, p2) :: (L + 1 + 1 + 1 + 1 + 1, p4) :: (Ld, W.listOf vl.toArray kd2) :: (T9, W.listOf (ts.map fun q => Value.ref q.1).toArray kt) :: (Pp, W.listOf (ps.map fun q => Value.ref q.1).toArray kp) :: (R, W.listOf (rs.map fun q => Value.ref q.1).toArray kr) :: (Kp, W.listOf (ks.map fun q => Value.ref q.1).toArray kn) :: (cx, instObj 87 dx) :: (dx, dictOf [⟨hk, .str (PySem.Str.ofString "comp_select_list") tkc, .ref cl⟩] kd) :: (cl, W.listOf #[.ref ta, .ref tb] kl) :: (ta, tup #[.int (wW c) u1, .int (wF c) u2] ka) :: (tb, tup #[.int 2 u3, .int (wS c) u4] kb) :: (ts ++ (rs ++ (ks ++ ps)))) B X T hdp hun F13 sc R Kp Nm Ld D Ln kk km kl2 us c hi hc nm (lnOf c nm) hnl hns ?_ (ln_sort hnl hns) p0 p3 hp0 hp3 (cb_drop N13 (by walk_at "led sub")) ?_ hm13) ?_
  · exact ln_sub hnl hns
  · obtain ⟨e1, e2, e3, e4, e5⟩ := (cell_ne L l0).2.2.2.2.2
    exact off_tab N13 (by walk_at "led sub") (by walk_at "led sub") (by walk_at "led off")
  intro s14 e14
  refine exs_4_3 e14 ?_
  clear e14
  intro h14 tk14 m14 pt F14 N14 hm14
  clear F13 hm13
  refine execs_cut1 _ (seg15 w p loose mean mg mb _ _ _ outer fa fcd A₀ base g L s (fun _ _ => False) h14 tk14 m14 ((171, tabObj pt) :: (L + 1, p0) :: (L + 1 + 1, p1) :: (L + 1 + 1 + 1 + 1 + 1, p4) :: (D, W.listOf us.toArray kk) :: (T9, W.listOf (ts.map fun q => Value.ref q.1).toArray kt) :: (Pp, W.listOf (ps.map fun q => Value.ref q.1).toArray kp) :: (R, W.listOf (rs.map fun q => Value.ref q.1).toArray kr) :: (Kp, W.listOf (ks.map fun q => Value.ref q.1).toArray kn) :: (ts ++ (rs ++ (ks ++ ps)))) B X T hdp hun F14 sc R Kp Nm Ld Ln cx dx cl ta tb hk kl ka kb kd kl2 (wW c) (wF c) (wS c) tkc u1 u2 u3 u4 (lnOf c nm) (bit01 _) (ln_len hnl hns) ?_ (ln_mat hnl hns) p2 p3 hp2 hp3 (cb_drop N14 (by walk_at "led sub")) hm14) ?_
  · exact ln_t3 hnl hns
  intro s15 e15
  refine exs_3_3 e15 ?_
  clear e15
  intro h15 tk15 m15 F15 N15 hm15
  clear F14 hm14
  refine execs_cut1 _ (seg16 w p loose mean mg mb _ _ _ outer fa fcd A₀ base g L s (fun _ _ => False) h15 tk15 m15 ((171, tabObj pt) :: (R, W.listOf (rs.map fun q => Value.ref q.1).toArray kr) :: (Kp, W.listOf (ks.map fun q => Value.ref q.1).toArray kn) :: (rs ++ ks)) B X T hdp hun F15 sc R Kp Nm Ld Pp T9 kt kp ts ps (TB c) htl hTB hpl (fun j => (List.range 4).map (pullI c j)) hps2 (val_ok c) p1 p4 hp1 hp4 (cb_drop N15 (by walk_at "led sub")) hm15) ?_
  intro s16 e16
  refine exs_3_3 e16 ?_
  clear e16
  intro h16 tk16 m16 F16 N16 hm16
  clear F15 hm15
  refine wpAny_execs_cons (wpAny_mono (seg17 w p loose mean mg mb _ _ _ outer fa fcd A₀ base g L s (fun _ _ => False) h16 tk16 m16 ((171, tabObj pt) :: ([])) B X T hdp hun F16 sc R Kp Nm Ld T9 kt kr kn ts rs ks (TB c) htl hTB hrl hkl _ hrs hks (TB_zero c) ?_ ?_ p1 hp1 (cb_drop N16 (by walk_at "led sub")) hm16) (fun f s' hq => ?_) fun _ _ e => e)
  · exact fun i _ => row_nd _ _ 4
  · exact fun q hq r hr => n3 q (List.mem_cons_of_mem _ (List.mem_append_left _ hq)) r (List.mem_cons_of_mem _ hr)
  obtain ⟨rfl, h17, tk17, m17, rfl, F17, N17⟩ := hq.out
  exact Hold.of ⟨rfl, _, _, _, pt, _, rfl, F17, cb_drop (news := [(171, tabObj pt)]) N17 (by walk_at "led sub")⟩
end

section -- top
theorem fresh_top {M : Model} {A : Around} {Q : Flow → Shared → Prop} {E : Value → Shared → Prop} {s : Shared} {env : Env} {pos : Pos} (h : wpAny M A (exec (.Pass pos) env) Q E s) : wpAny M A (exec (.Pass pos) env) Q E s := by
  w_top off
  first | (walk1; fail "fresh") | exact h
theorem top_cast {w : World} {nm : PySem.Str} {scope : Scope} {body : List Stmt} {L fa : Addr} {cd : Value} {Q : Flow → Shared → Prop} {E : Value → Shared → Prop} {s : Shared} (hq : nm = PySem.Str.ofString "law") (hs : scope = lawDef.2) (hb : body = lawDef.1)
    (h : wpAny (model PySem.Challenge.rw_jc0016_01.row.prog w) (lawA (1 + claimMargin + 1) 7 (some []) L fa cd []) (execs lawDef.1 (lawE L fa cd)) Q E s) :
    wpAny (model PySem.Challenge.rw_jc0016_01.row.prog w) (callerA.deeper (envOfC nm scope L fa cd)) (execs body (envOfC nm scope L fa cd)) Q E s := by
  subst hq hs hb
  exact h
noncomputable abbrev hookK : Hook := kmHook hdtop.heap_39 asK (fun _ => by kernel_rfl) [171]
theorem pc_open : ∀ w : World, (fencedOpening treeTable prg w 2212).map (fun s => (s.heap, s.gens, s.drawn, s.toks)) = some (boot_heap w.params, Array.mk [], boot_drawn, boot_toks) := boot_open (by kernel_rfl) (by kernel_rfl) (fun s => by kernel_rfl)
theorem pc_size (w : World) : ((boot_heap w.params).isNs mainGlobals && (⟨[]⟩ : Array GenState).size == 0, (boot_heap w.params).objs.size, (boot_heap w.params).nsMap mainGlobals (PySem.Str.ofString "__annotations__")) = (true, 11, some (.ref 6)) := by kernel_rfl
theorem look1 (w : World) (os : OsState) : (staticsOk (importedModules prg.main.body) (boot_heap w.params) (hp4 w.params) && namesBound prg (hp4 w.params) && gensDone (sh (hp4 w.params) 450 os) && laidKept (boot_heap w.params) (hp4 w.params)) = true := by kernel_rfl
theorem look2 (w : World) (os : OsState) : openSeen hdtop.view_39 [] (importedModules prg.main.body) (fun s => xlAt hdtop.view_39 [] s && recOk (RowW.records (OpenRow.toRowW PySem.Challenge.rw_jc0016_01.row)) s) true (sh (hp4 w.params) 450 os) = openGood hdtop.view_39 [] := by kernel_rfl
theorem look3 (w : World) (os : OsState) : Hook.obs hookK (sh (hp4 w.params) 450 os) = Hook.val hookK w := by kernel_rfl
theorem law_said : PySem.Challenge.rw_jc0016_01.wellSaid = true := by
  unfold OpenLaw.wellSaid OpenRow.wellSaid OpenRow.partSaid looksOpen
  repeat' (with_reducible refine look_both ?_ ?_)
  all_goals decide +kernel
theorem raw_left : LeftO PySem.Challenge.rw_jc0016_01.row.prog hdtop.view_39 [] (fun s => xlAt hdtop.view_39 [] s && recOk (RowW.records (OpenRow.toRowW PySem.Challenge.rw_jc0016_01.row)) s)
    (Hook.obs hookK) (Hook.val hookK) 2212 := LeftO.of_pieces (H₀ := boot_heap) (H₁ := hp4) pc_open pc_size pc_run (by kernel_rfl) (fun w => funext fun os => looks_pair (look1 w os) (looks_pair (look2 w os) (look3 w os)))
theorem top_holds : PySem.Challenge.rw_jc0016_01.Holds := by
  w_on
  refine holds_law law_said fun said => ?_
  refine holds_open (q := hdtop.view_39) (loose := []) (Xt := fun s => xlAt hdtop.view_39 [] s && recOk (RowW.records (OpenRow.toRowW PySem.Challenge.rw_jc0016_01.row)) s) (XP := XL hdtop.view_39 []) (Yf := Hook.obs hookK) (Ya := Hook.val hookK) (YP := Hook.says hookK) (N := 2212) raw_left (Hook.of hookK) (Hook.keeps hookK) (fun s e => xl_of s (Bool.and_eq_true_iff.mp e).1) XL.keeps (by rfl) (by rfl) (by rfl) (fun s e => recFacts_of (Bool.and_eq_true_iff.mp e).2) (by rfl) (by first | assumption | decide +kernel) (by decide +kernel) ⟨rfl, rfl, rfl, rfl, rfl, by decide +kernel⟩ ?hw ?hc
  case hw => w_witness2
  case hc =>
  k_go0
  all_goals try k_fold
  rename Below _ _ _ _ => K0
  rename Frag.In _ _ => X0
  rename Top _ _ _ _ _ _ => T0
  rename Fr _ _ _ _ => F0
  rename News _ _ _ _ => N0
  rename Heap.IsList _ _ _ => I0
  rename @LT.lt Nat _ 171 _ => l0
  rename IntsAre _ _ => hI
  refine top_cast (by kernel_rfl) (by kernel_rfl) (by kernel_rfl) ?_
  refine wpAny_mono (law_body _ _ _ _ _ _ _ _ _ _ _ _ _ _ _ _ _ K0 X0 T0 F0 _ _ _ hI (by lia) I0 _ _ _ _ _ _ _ _ _ _ (by assumption) (by assumption) (by assumption) (by assumption) (by assumption) l0 N0 ⟨by kernel_rfl, trivial⟩) (fun f s' hq => ?_) (fun _ _ x => False.elim x)
  obtain ⟨rfl, h9, tk9, m9, ps, tl, rfl, F9, N9⟩ := hq.out
  refine ⟨?_, ⟨GrownAt.of N9 at_head, True.intro⟩⟩
  dsimp only
  kc_close
end

end Mine
set_option maxRecDepth 100000 in
set_option maxHeartbeats 8000000 in
theorem PySem.Challenge.cw_jc0016_01_holds : PySem.Challenge.rw_jc0016_01.Holds :=
  Mine.top_holds
