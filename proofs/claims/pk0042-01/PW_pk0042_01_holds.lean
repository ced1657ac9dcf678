import PyProof.Rows.All
import Wide.All
import OpenK.AllK
import Wide.FinOn
import Lean
import PySem.Challenge.RW_pk0042_01
set_option Elab.async false
section
open PySem PySem.W PyProof.Rows
namespace Mine
/-! the objects that the texts' run leaves: the defs and their code, the class, the names. The defs' own trees are read off the given program. -/
abbrev vS (x : Str) (t : Tok) : Value := .str x t
abbrev vR (a : Addr) : Value := .ref a
abbrev vI (n : Int) (t : Tok) : Value := .int n t
abbrev vF (t : Tok) : Value := .str "/claim/cut.py" t
abbrev dE (P : Params) (k : Str) (t : Tok) (v : Value) : DictEntry := { hash := PyData.keyHash P k, key := .str k t, val := v }
abbrev tupO (l : Array Value) : Obj := { cls := .type "tuple", data := .seq l }
abbrev codO (l : Array Value) : Obj := { cls := .type "code", data := .fields l }
noncomputable def topS (i : Nat) : Stmt := PySem.Challenge.pw_pk0042_01.main.body.getD i (.Pass default)
noncomputable def methS (i : Nat) : Stmt := match topS 8 with
  | .ClassDef _ _ _ body .. => body.getD i (.Pass default)
  | s => s
noncomputable def fnO (s : Stmt) (q : Str) (clo : List (Str × Addr)) (dflt mod code ct : Value) : Obj := match s with
  | .FunctionDef name args body _ _ _ scope .. => { cls := .type "function", data := .func { name := name, qualname := q, params := args, body := .stmts body, scope := scope, globals := 3, closure := clo, defaults := dflt, kwdefaults := .none, pyModule := mod, code := code, closureTuple := ct } }
  | _ => default
noncomputable def KM (P : Params) : Frag := [
  (2, { cls := Value.none, data := Data.dict #[] }),
  (3, { cls := Value.type "dict", data := Data.dict #[dE P "__name__" 165 (vS "law_pk0042_01" 342), dE P "__doc__" 166 (Value.none), dE P "__package__" 167 (Value.none), dE P "__loader__" 168 (Value.builtin "__main__.__loader__#opaque"), dE P "__spec__" 169 (Value.none), dE P "__annotations__" 170 (vR 6), dE P "__builtins__" 171 (vR 4), dE P "__file__" 173 (vF 172), dE P "__cached__" 174 (Value.none), dE P "_wall" 193 (vR 21), dE P "func_std_string" 203 (vR 28), dE P "add_func_stats" 221 (vR 35), dE P "add_callers" 232 (vR 42), dE P "count_calls" 241 (vR 49), dE P "EMPTYSTRING" 245 (vS "" 244), dE P "_Accumulator" 341 (vR 129), dE P "_law_pairs" 349 (vR 138), dE P "_law_end" 355 (vR 143), dE P "_law_run" 369 (vR 150), dE P "_law_lists" 381 (vR 157), dE P "_law_table" 387 (vR 162), dE P "_law_sums" 393 (vR 167), dE P "_law_told" 399 (vR 172), dE P "_law_agrees" 405 (vR 177), dE P "_law_both" 416 (vR 184), dE P "_law_spoilt" 422 (vR 189), dE P "law" 428 (vR 194)] 27 }),
  (15, tupO #[]),
  (17, tupO #[vS "k" 190]),
  (18, tupO #[]),
  (20, codO #[vS "_wall" 187, vS "_wall" 188, vF 189, vI 1 0, vI 1 0, vI 0 0, vI 0 0, vI 3 0, vR 15, Value.bool true, vI 181 0, vR 16, Value.none, vR 17, vR 18, vR 19, vI 191 0, vI 1 0, vF 192]),
  (21, fnO (topS 0) "_wall" ([]) (Value.none) (vS "__main__" 164) (vR 20) Value.none),
  (22, tupO #[]),
  (24, tupO #[vS "func_name" 199, vS "name" 200]),
  (25, tupO #[]),
  (27, codO #[vS "func_std_string" 196, vS "func_std_string" 197, vF 198, vI 5 0, vI 1 0, vI 0 0, vI 0 0, vI 3 0, vR 22, Value.bool true, vI 181 0, vR 23, Value.none, vR 24, vR 25, vR 26, vI 201 0, vI 5 0, vF 202]),
  (28, fnO (topS 2) "func_std_string" ([]) (Value.none) (vS "cpy313.pstats" 194) (vR 27) Value.none),
  (29, tupO #[]),
  (31, tupO #[vS "target" 207, vS "source" 208, vS "cc" 209, vS "nc" 210, vS "tt" 211, vS "ct" 212, vS "callers" 213, vS "t_cc" 214, vS "t_nc" 215, vS "t_tt" 216, vS "t_ct" 217, vS "t_callers" 218]),
  (32, tupO #[]),
  (34, codO #[vS "add_func_stats" 204, vS "add_func_stats" 205, vF 206, vI 14 0, vI 2 0, vI 0 0, vI 0 0, vI 3 0, vR 29, Value.bool true, vI 181 0, vR 30, Value.none, vR 31, vR 32, vR 33, vI 219 0, vI 14 0, vF 220]),
  (35, fnO (topS 3) "add_func_stats" ([]) (Value.none) (vS "cpy313.pstats" 194) (vR 34) Value.none),
  (36, tupO #[]),
  (38, tupO #[vS "target" 225, vS "source" 226, vS "new_callers" 227, vS "func" 228, vS "caller" 229]),
  (39, tupO #[]),
  (41, codO #[vS "add_callers" 222, vS "add_callers" 223, vF 224, vI 18 0, vI 2 0, vI 0 0, vI 0 0, vI 3 0, vR 36, Value.bool true, vI 181 0, vR 37, Value.none, vR 38, vR 39, vR 40, vI 230 0, vI 18 0, vF 231]),
  (42, fnO (topS 4) "add_callers" ([]) (Value.none) (vS "cpy313.pstats" 194) (vR 41) Value.none),
  (43, tupO #[]),
  (45, tupO #[vS "callers" 236, vS "nc" 237, vS "calls" 238]),
  (46, tupO #[]),
  (48, codO #[vS "count_calls" 233, vS "count_calls" 234, vF 235, vI 31 0, vI 1 0, vI 0 0, vI 0 0, vI 3 0, vR 43, Value.bool true, vI 181 0, vR 44, Value.none, vR 45, vR 46, vR 47, vI 239 0, vI 31 0, vF 240]),
  (49, fnO (topS 5) "count_calls" ([]) (Value.none) (vS "cpy313.pstats" 194) (vR 48) Value.none),
  (50, tupO #[Value.type "list"]),
  (53, { cls := Value.type "cell", data := Data.cell (some (vR 129)) }),
  (58, tupO #[vI 0 258]),
  (59, tupO #[vR 53]),
  (60, tupO #[vS "__class__" 262]),
  (62, tupO #[vS "self" 263, vS "initial_size" 264]),
  (63, tupO #[]),
  (65, codO #[vS "__init__" 259, vS "_Accumulator.__init__" 260, vF 261, vI 40 0, vI 2 0, vI 0 0, vI 0 0, vI 3 0, vR 60, Value.bool true, vI 181 0, vR 61, Value.none, vR 62, vR 63, vR 64, vI 265 0, vI 40 0, vF 266]),
  (66, fnO (methS 0) "_Accumulator.__init__" ([("__class__", 53)]) (vR 58) (vS "cpy313.email.header" 242) (vR 65) (vR 59)),
  (67, tupO #[]),
  (69, tupO #[vS "self" 271, vS "fws" 272, vS "string" 273]),
  (70, tupO #[]),
  (72, codO #[vS "push" 268, vS "_Accumulator.push" 269, vF 270, vI 44 0, vI 3 0, vI 0 0, vI 0 0, vI 3 0, vR 67, Value.bool true, vI 181 0, vR 68, Value.none, vR 69, vR 70, vR 71, vI 274 0, vI 44 0, vF 275]),
  (73, fnO (methS 1) "_Accumulator.push" ([]) (Value.none) (vS "cpy313.email.header" 242) (vR 72) Value.none),
  (74, tupO #[vI 0 277]),
  (75, tupO #[]),
  (77, tupO #[vS "self" 281, vS "i" 282, vS "popped" 283]),
  (78, tupO #[]),
  (80, codO #[vS "pop_from" 278, vS "_Accumulator.pop_from" 279, vF 280, vI 47 0, vI 2 0, vI 0 0, vI 0 0, vI 3 0, vR 75, Value.bool true, vI 181 0, vR 76, Value.none, vR 77, vR 78, vR 79, vI 284 0, vI 47 0, vF 285]),
  (81, fnO (methS 2) "_Accumulator.pop_from" ([]) (vR 74) (vS "cpy313.email.header" 242) (vR 80) Value.none),
  (82, tupO #[vR 53]),
  (83, tupO #[vS "__class__" 290]),
  (85, tupO #[vS "self" 291]),
  (86, tupO #[]),
  (88, codO #[vS "pop" 287, vS "_Accumulator.pop" 288, vF 289, vI 52 0, vI 1 0, vI 0 0, vI 0 0, vI 3 0, vR 83, Value.bool true, vI 181 0, vR 84, Value.none, vR 85, vR 86, vR 87, vI 292 0, vI 52 0, vF 293]),
  (89, fnO (methS 3) "_Accumulator.pop" ([("__class__", 53)]) (Value.none) (vS "cpy313.email.header" 242) (vR 88) (vR 82)),
  (90, tupO #[]),
  (92, tupO #[vS "self" 298]),
  (93, tupO #[]),
  (95, codO #[vS "__len__" 295, vS "_Accumulator.__len__" 296, vF 297, vI 57 0, vI 1 0, vI 0 0, vI 0 0, vI 3 0, vR 90, Value.bool true, vI 181 0, vR 91, Value.none, vR 92, vR 93, vR 94, vI 299 0, vI 57 0, vF 300]),
  (96, fnO (methS 4) "_Accumulator.__len__" ([]) (Value.none) (vS "cpy313.email.header" 242) (vR 95) Value.none),
  (97, tupO #[]),
  (99, tupO #[vS "self" 305]),
  (100, tupO #[]),
  (102, codO #[vS "__str__" 302, vS "_Accumulator.__str__" 303, vF 304, vI 60 0, vI 1 0, vI 0 0, vI 0 0, vI 3 0, vR 97, Value.bool true, vI 181 0, vR 98, Value.none, vR 99, vR 100, vR 101, vI 306 0, vI 60 0, vF 307]),
  (103, fnO (methS 5) "_Accumulator.__str__" ([]) (Value.none) (vS "cpy313.email.header" 242) (vR 102) Value.none),
  (104, tupO #[Value.none]),
  (105, tupO #[]),
  (107, tupO #[vS "self" 312, vS "startval" 313]),
  (108, tupO #[]),
  (110, codO #[vS "reset" 309, vS "_Accumulator.reset" 310, vF 311, vI 63 0, vI 2 0, vI 0 0, vI 0 0, vI 3 0, vR 105, Value.bool true, vI 181 0, vR 106, Value.none, vR 107, vR 108, vR 109, vI 314 0, vI 63 0, vF 315]),
  (111, fnO (methS 6) "_Accumulator.reset" ([]) (vR 104) (vS "cpy313.email.header" 242) (vR 110) Value.none),
  (112, tupO #[]),
  (114, tupO #[vS "self" 320]),
  (115, tupO #[]),
  (117, codO #[vS "is_onlyws" 317, vS "_Accumulator.is_onlyws" 318, vF 319, vI 66 0, vI 1 0, vI 0 0, vI 0 0, vI 3 0, vR 112, Value.bool true, vI 181 0, vR 113, Value.none, vR 114, vR 115, vR 116, vI 321 0, vI 66 0, vF 322]),
  (118, fnO (methS 7) "_Accumulator.is_onlyws" ([]) (Value.none) (vS "cpy313.email.header" 242) (vR 117) Value.none),
  (119, tupO #[vR 53]),
  (120, tupO #[vS "__class__" 327]),
  (122, tupO #[vS "self" 328]),
  (123, tupO #[]),
  (125, codO #[vS "part_count" 324, vS "_Accumulator.part_count" 325, vF 326, vI 69 0, vI 1 0, vI 0 0, vI 0 0, vI 3 0, vR 120, Value.bool true, vI 181 0, vR 121, Value.none, vR 122, vR 123, vR 124, vI 329 0, vI 69 0, vF 330]),
  (126, fnO (methS 8) "_Accumulator.part_count" ([("__class__", 53)]) (Value.none) (vS "cpy313.email.header" 242) (vR 125) (vR 119)),
  (127, tupO #[vS "_initial_size" 332]),
  (128, { cls := Value.type "dict", data := Data.dict #[dE P "__module__" 253 (vS "cpy313.email.header" 242), dE P "__firstlineno__" 257 (vI 38 256), dE P "__init__" 267 (vR 66), dE P "push" 276 (vR 73), dE P "pop_from" 286 (vR 81), dE P "pop" 294 (vR 89), dE P "__len__" 301 (vR 96), dE P "__str__" 308 (vR 103), dE P "reset" 316 (vR 111), dE P "is_onlyws" 323 (vR 118), dE P "part_count" 331 (vR 126), dE P "__static_attributes__" 333 (vR 127), dE P "__dict__" 336 (vR 130), dE P "__weakref__" 338 (vR 131), dE P "__doc__" 339 (Value.none)] 5 }),
  (129, { cls := Value.type "type", data := Data.cls { name := "_Accumulator", bases := [Value.type "list"], mro := [vR 129, Value.type "list", Value.type "object"], ns := 128, qualname := "_Accumulator" }, slots := #[some (vR 50), none, some (vS "_Accumulator" 246), some (vS "_Accumulator" 254), some (Value.builtin "list.__new__"), some (Value.bool true)] }),
  (130, { cls := Value.type "getset_descriptor", data := Data.fields #[vS "__dict__" 335, vR 129, Value.builtin "function.__dict__", Value.builtin "function.__dict__#set"] }),
  (131, { cls := Value.type "getset_descriptor", data := Data.fields #[vS "__weakref__" 337, vR 129, Value.builtin "ExceptionGroup.__weakref__", Value.none] }),
  (134, tupO #[]),
  (137, codO #[vS "_law_pairs" 344, vS "_law_pairs" 345, vF 346, vI 72 0, vI 1 0, vI 0 0, vI 0 0, vI 3 0, vR 134, Value.bool true, vI 181 0, vR 135, Value.none, Value.none, Value.none, vR 136, vI 347 0, vI 72 0, vF 348]),
  (138, fnO (topS 10) "_law_pairs" ([]) (Value.none) (vS "law_pk0042_01" 342) (vR 137) Value.none),
  (139, tupO #[]),
  (142, codO #[vS "_law_end" 350, vS "_law_end" 351, vF 352, vI 74 0, vI 4 0, vI 0 0, vI 0 0, vI 3 0, vR 139, Value.bool true, vI 181 0, vR 140, Value.none, Value.none, Value.none, vR 141, vI 353 0, vI 74 0, vF 354]),
  (143, fnO (topS 11) "_law_end" ([]) (Value.none) (vS "law_pk0042_01" 342) (vR 142) Value.none),
  (144, tupO #[]),
  (146, tupO #[vS "numbers" 359, vS "words" 360, vS "pile" 361, vS "frames" 362, vS "books" 363, vS "comings" 364, vS "works" 365, vS "number" 366]),
  (147, tupO #[]),
  (149, codO #[vS "_law_run" 356, vS "_law_run" 357, vF 358, vI 88 0, vI 2 0, vI 0 0, vI 0 0, vI 3 0, vR 144, Value.bool true, vI 181 0, vR 145, Value.none, vR 146, vR 147, vR 148, vI 367 0, vI 88 0, vF 368]),
  (150, fnO (topS 12) "_law_run" ([]) (Value.none) (vS "law_pk0042_01" 342) (vR 149) Value.none),
  (151, tupO #[]),
  (153, tupO #[vS "numbers" 373, vS "words" 374, vS "now" 375, vS "come" 376, vS "worked" 377, vS "number" 378]),
  (154, tupO #[]),
  (156, codO #[vS "_law_lists" 370, vS "_law_lists" 371, vF 372, vI 102 0, vI 2 0, vI 0 0, vI 0 0, vI 3 0, vR 151, Value.bool true, vI 181 0, vR 152, Value.none, vR 153, vR 154, vR 155, vI 379 0, vI 102 0, vF 380]),
  (157, fnO (topS 13) "_law_lists" ([]) (Value.none) (vS "law_pk0042_01" 342) (vR 156) Value.none),
  (158, tupO #[]),
  (161, codO #[vS "_law_table" 382, vS "_law_table" 383, vF 384, vI 112 0, vI 1 0, vI 0 0, vI 0 0, vI 3 0, vR 158, Value.bool true, vI 181 0, vR 159, Value.none, Value.none, Value.none, vR 160, vI 385 0, vI 112 0, vF 386]),
  (162, fnO (topS 14) "_law_table" ([]) (Value.none) (vS "law_pk0042_01" 342) (vR 161) Value.none),
  (163, tupO #[]),
  (166, codO #[vS "_law_sums" 388, vS "_law_sums" 389, vF 390, vI 115 0, vI 1 0, vI 0 0, vI 0 0, vI 3 0, vR 163, Value.bool true, vI 181 0, vR 164, Value.none, Value.none, Value.none, vR 165, vI 391 0, vI 115 0, vF 392]),
  (167, fnO (topS 15) "_law_sums" ([]) (Value.none) (vS "law_pk0042_01" 342) (vR 166) Value.none),
  (168, tupO #[]),
  (171, codO #[vS "_law_told" 394, vS "_law_told" 395, vF 396, vI 117 0, vI 3 0, vI 0 0, vI 0 0, vI 3 0, vR 168, Value.bool true, vI 181 0, vR 169, Value.none, Value.none, Value.none, vR 170, vI 397 0, vI 117 0, vF 398]),
  (172, fnO (topS 16) "_law_told" ([]) (Value.none) (vS "law_pk0042_01" 342) (vR 171) Value.none),
  (173, tupO #[]),
  (176, codO #[vS "_law_agrees" 400, vS "_law_agrees" 401, vF 402, vI 134 0, vI 3 0, vI 0 0, vI 0 0, vI 3 0, vR 173, Value.bool true, vI 181 0, vR 174, Value.none, Value.none, Value.none, vR 175, vI 403 0, vI 134 0, vF 404]),
  (177, fnO (topS 17) "_law_agrees" ([]) (Value.none) (vS "law_pk0042_01" 342) (vR 176) Value.none),
  (178, tupO #[]),
  (180, tupO #[vS "one" 409, vS "two" 410, vS "words" 411, vS "books" 412, vS "name" 413]),
  (181, tupO #[]),
  (183, codO #[vS "_law_both" 406, vS "_law_both" 407, vF 408, vI 141 0, vI 3 0, vI 0 0, vI 0 0, vI 3 0, vR 178, Value.bool true, vI 181 0, vR 179, Value.none, vR 180, vR 181, vR 182, vI 414 0, vI 141 0, vF 415]),
  (184, fnO (topS 18) "_law_both" ([]) (Value.none) (vS "law_pk0042_01" 342) (vR 183) Value.none),
  (185, tupO #[]),
  (188, codO #[vS "_law_spoilt" 417, vS "_law_spoilt" 418, vF 419, vI 147 0, vI 1 0, vI 0 0, vI 0 0, vI 3 0, vR 185, Value.bool true, vI 181 0, vR 186, Value.none, Value.none, Value.none, vR 187, vI 420 0, vI 147 0, vF 421]),
  (189, fnO (topS 19) "_law_spoilt" ([]) (Value.none) (vS "law_pk0042_01" 342) (vR 188) Value.none),
  (190, tupO #[]),
  (193, codO #[vS "law" 423, vS "law" 424, vF 425, vI 150 0, vI 1 0, vI 0 0, vI 0 0, vI 3 0, vR 190, Value.bool true, vI 181 0, vR 191, Value.none, Value.none, Value.none, vR 192, vI 426 0, vI 150 0, vF 427]),
  (194, fnO (topS 20) "law" ([]) (Value.none) (vS "law_pk0042_01" 342) (vR 193) Value.none)]
/-- and two tables of code -/
noncomputable def KW (P : Params) : Frag := (37, { cls := Value.none, data := Data.fields #[] }) :: (98, { cls := Value.none, data := Data.fields #[] }) :: KM P
noncomputable def KA : List Addr := [37, 98, 2, 3, 15, 17, 18, 20, 21, 22, 24, 25, 27, 28, 29, 31, 32, 34, 35, 36, 38, 39, 41, 42, 43, 45, 46, 48, 49, 50, 53, 58, 59, 60, 62, 63, 65, 66, 67, 69, 70, 72, 73, 74, 75, 77, 78, 80, 81, 82, 83, 85, 86, 88, 89, 90, 92, 93, 95, 96, 97, 99, 100, 102, 103, 104, 105, 107, 108, 110, 111, 112, 114, 115, 117, 118, 119, 120, 122, 123, 125, 126, 127, 128, 129, 130, 131, 134, 137, 138, 139, 142, 143, 144, 146, 147, 149, 150, 151, 153, 154, 156, 157, 158, 161, 162, 163, 166, 167, 168, 171, 172, 173, 176, 177, 178, 180, 181, 183, 184, 185, 188, 189, 190, 193, 194]
theorem KA_eq : ∀ P, KA = (KW P).map (·.1) := fun P => by kernel_rfl
end Mine
end
section
open PySem PySem.W PyProof.Rows
open PySem.W.X PySem.W.ZRun
set_option maxRecDepth 100000
set_option maxHeartbeats 0
namespace Mine
/-! the run of the text ahead of the law's call, by the kernel's evaluation -/
noncomputable def vw : Program := view PySem.Challenge.rw_pk0042_01.row.prog [20]
noncomputable def lo : List Str := ["_wall", "func_std_string", "add_func_stats", "add_callers", "count_calls", "EMPTYSTRING", "_Accumulator", "_law_pairs", "_law_end", "_law_run", "_law_lists", "_law_table", "_law_sums", "_law_told", "_law_agrees", "_law_both", "_law_spoilt"]
theorem law_some : (defOf vw "law").isSome = true := by kernel_rfl
noncomputable def lawD : DefRec × List (Str × Expr) := (defOf vw "law").get law_some
theorem left : LeftO PySem.Challenge.rw_pk0042_01.row.prog vw lo (fun s => xlAt vw [] s && recOk (RowW.records PySem.Challenge.rw_pk0042_01.row.toRowW) s) (obsZ KA) (valZ KW 195 429) 2154 := fun w => by kernel_rfl
theorem lawD_def : defOf vw PySem.Challenge.rw_pk0042_01.row.name = some (lawD.1, lawD.2) := by kernel_rfl
theorem lawD_the : PySem.Challenge.rw_pk0042_01.row.prog.theDef PySem.Challenge.rw_pk0042_01.row.name = some (lawD.1.params, lawD.1.body, lawD.1.scope) := by kernel_rfl
theorem lawD_kw : kwWritten? lawD.1.params.kwonlyargs lawD.1.params.kw_defaults = some lawD.2 := by kernel_rfl
end Mine
end
section
open PySem PySem.W PyProof.Rows
set_option maxRecDepth 100000
set_option linter.unusedVariables false
namespace Mine
theorem setGen_size (s : Shared) (g : Nat) (x : GenState) : (s.setGen g x).heap.objs.size = s.heap.objs.size := rfl
theorem runs_size {M : Model} {Γ : Ctx} {p : Pos} {t : Sem Fin} {fs : List Frame} {s : Shared} {e : End} {s' : Shared} (h : Runs M Γ p t fs s e s') : s.heap.objs.size ≤ s'.heap.objs.size := by
  induction h <;> (try simp only [setGen_size, Heap.size_push, Heap.size_after_update] at *) <;> omega
theorem wakes_size {M : Model} {Γ : Ctx} {p : Pos} {g : Nat} {r : Resume} {s : Shared} {res : GenResult} {s' : Shared} (h : Wakes M Γ p g r s res s') : s.heap.objs.size ≤ s'.heap.objs.size := by
  unfold Wakes at h
  split at h
  · exact h.elim
  · split at h
    · obtain ⟨e₁, s₁, hr, _, _, rfl⟩ := h
      have := runs_size hr; simpa [setGen_size] using this
    · rw [h.2]; exact Nat.le_refl _
    · rw [h.2]; exact Nat.le_refl _
  · obtain ⟨e₁, s₁, hr, _, _, rfl⟩ := h
    have := runs_size hr; simpa [setGen_size] using this
  · rw [h.2]; exact Nat.le_refl _
  · rw [h.2]; exact Nat.le_refl _
theorem wp_size {α : Type} {M : Model} {Γ : Ctx} {N : Nat} : ∀ (t : Sem α) {Q : α → Pos → Shared → Prop} {E : Value → Pos → Shared → Prop} {p : Pos} {s : Shared}, N ≤ s.heap.objs.size → Sem.wp M Γ t Q E p s →
    Sem.wp M Γ t (fun a p' s' => Q a p' s' ∧ N ≤ s'.heap.objs.size) (fun e p' s' => E e p' s' ∧ N ≤ s'.heap.objs.size) p s
  | .pure a, Q, E, p, s, hN, h => ⟨h, hN⟩
  | .raise e, Q, E, p, s, hN, h => ⟨h, hN⟩
  | .unsupported _, Q, E, p, s, hN, h => h.elim
  | .finish _, Q, E, p, s, hN, h => h.elim
  | .rule _ k, Q, E, p, s, hN, h => wp_size (k ()) hN h
  | .at p' k, Q, E, p, s, hN, h => wp_size (k ()) hN h
  | .load a _ k, Q, E, p, s, hN, h => let ⟨o, ho, r⟩ := h; ⟨o, ho, wp_size (k o) hN r⟩
  | .update a _ f k, Q, E, p, s, hN, h => ⟨h.1, wp_size (k ()) (by simpa using hN) h.2⟩
  | .loadIfAlive a k, Q, E, p, s, hN, h => wp_size (k _) hN h
  | .point _ k, Q, E, p, s, hN, h => wp_size (k ()) hN h
  | .register _ _, Q, E, p, s, hN, h => h.elim
  | .alloc o k, Q, E, p, s, hN, h => wp_size (k _) (by simp; omega) h
  | .fresh k, Q, E, p, s, hN, h => wp_size (k _) hN h
  | .ask k, Q, E, p, s, hN, h => wp_size (k _) hN h
  | .choose src n k, Q, E, p, s, hN, h => ⟨h.1, wp_size (k _) hN h.2⟩
  | .os q _ k, Q, E, p, s, hN, h => wp_size (k _) hN h
  | .call c hd _ _ k, Q, E, p, s, hN, h => let ⟨r, s', hr, x⟩ := h; ⟨r, s', hr, wp_size (k r) (Nat.le_trans hN (runs_size hr)) x⟩
  | .handled own k, Q, E, p, s, hN, h => wp_size (k _) hN h
  | .genState g k, Q, E, p, s, hN, h => let ⟨st, hs, r⟩ := h; ⟨st, hs, wp_size (k _) hN r⟩
  | .newGen c k, Q, E, p, s, hN, h => wp_size (k _) hN h
  | .resume g r _ k, Q, E, p, s, hN, h => let ⟨res, s', hw, x⟩ := h; ⟨res, s', hw, wp_size (k res) (Nat.le_trans hN (wakes_size hw)) x⟩
  | .yield .., Q, E, p, s, hN, h => h.elim
  | .stack k, Q, E, p, s, hN, h => wp_size (k _) hN h
  | .fork .., Q, E, p, s, hN, h => h.elim
  | .thread k, Q, E, p, s, hN, h => wp_size (k _) hN h
  | .await .., Q, E, p, s, hN, h => h.elim
theorem wpAny_size {α : Type} {M : Model} {A : Around} {t : Sem α} {Q : α → Shared → Prop} {E : Value → Shared → Prop} {s : Shared} (h : wpAny M A t Q E s) :
    wpAny M A t (fun a s' => Q a s' ∧ s.heap.objs.size ≤ s'.heap.objs.size) (fun e s' => E e s' ∧ s.heap.objs.size ≤ s'.heap.objs.size) s := fun Γ p hΓ => wp_size t (Nat.le_refl _) (h Γ p hΓ)
end Mine
end
section
open PySem PySem.W PyProof.Rows
set_option maxRecDepth 100000
namespace Mine

structure Cx where
  prog : Program
  w : World
  hB : Heap
  os : OsState
  sites : List (Addr × Addr)
  K : Frag
  n : Nat

inductive D where
  | none
  | bool (b : Bool)
  | int (i : Int)
  | str (s : Str)
  | list (l : List D)
  | tuple (l : List D)
  | dict (l : List (Str × D))
  /-- a dict that is new: its address is c.n or more -/
  | ndict (l : List (Str × D))
  /-- anything of which P holds -/
  | any (P : Value → Prop)
  /-- an object of the class _Accumulator (its class lies at 129), to be read -/
  | pile (l : List D)

noncomputable def Frail (o : Obj) : Prop := o.cls = .none ∧ ∃ vs, o.data = .fields vs
noncomputable def Grow (h h' : Heap) : Prop := h.objs.size ≤ h'.objs.size ∧ ∀ b o, ¬ Frail o → h.get? b = some o → h'.get? b = some o
theorem Grow.refl (h : Heap) : Grow h h := ⟨Nat.le_refl _, fun _ _ _ e => e⟩
theorem Grow.trans {h₁ h₂ h₃ : Heap} (x : Grow h₁ h₂) (y : Grow h₂ h₃) : Grow h₁ h₃ := ⟨Nat.le_trans x.1 y.1, fun b o f e => y.2 b o f (x.2 b o f e)⟩
theorem Grow.push (h : Heap) (o : Obj) : Grow h (h.push o) := ⟨by simp, fun _ _ _ e => Heap.get?_push_of_some o e⟩
theorem not_frail_cls {o : Obj} (h : o.cls ≠ .none) : ¬ Frail o := fun f => h f.1

noncomputable def pnames : List Str := ["push", "pop_from", "part_count", "append"]
/-- the own dict of such an object -/
noncomputable def PDict (o : Obj) : Prop := o.cls = .type "dict" ∧ ∀ x ∈ pnames, lookIn x o = some none
theorem PDict.nf {o : Obj} (h : PDict o) : ¬ Frail o := not_frail_cls (by rw [h.1]; nofun)
mutual
noncomputable def Is (c : Cx) (O : Addr → Prop) (h : Heap) : D → Value → Prop
  | .none, v => v = .none
  | .bool b, v => v = .bool b
  | .int i, v => ∃ t, v = .int i t
  | .str x, v => ∃ t, v = .str x t
  | .list ds, v => ∃ a vs n, v = .ref a ∧ ¬ O a ∧ h.get? a = some { cls := .type "list", data := .seq vs n } ∧ IsAll c O h ds vs.toList
  | .tuple ds, v => ∃ a vs n, v = .ref a ∧ ¬ O a ∧ h.get? a = some { cls := .type "tuple", data := .seq vs n } ∧ IsAll c O h ds vs.toList
  | .dict ds, v => ∃ a kvs ep, v = .ref a ∧ (1 < a ∧ ¬ O a) ∧ h.DictAt (strKind c.prog c.w) a kvs ep ∧ IsKv c O h ds kvs
  | .ndict ds, v => ∃ a kvs ep, v = .ref a ∧ ((1 < a ∧ c.n ≤ a) ∧ ¬ O a) ∧ h.DictAt (strKind c.prog c.w) a kvs ep ∧ IsKv c O h ds kvs
  | .any P, v => P v
  | .pile ds, v => ∃ a d o vs n, v = .ref a ∧ ¬ O a ∧ h.get? a = some { cls := .ref 129, dict := some d, data := .seq vs n } ∧ (h.get? d = some o ∧ ¬ O d ∧ PDict o) ∧ IsAll c O h ds vs.toList
noncomputable def IsAll (c : Cx) (O : Addr → Prop) (h : Heap) : List D → List Value → Prop
  | [], vs => vs = []
  | d :: ds, vs => ∃ v r, vs = v :: r ∧ Is c O h d v ∧ IsAll c O h ds r
noncomputable def IsKv (c : Cx) (O : Addr → Prop) (h : Heap) : List (Str × D) → List (Str × Value) → Prop
  | [], kvs => kvs = []
  | (k, d) :: ds, kvs => ∃ v r, kvs = (k, v) :: r ∧ Is c O h d v ∧ IsKv c O h ds r
end

section
variable {c : Cx} {O O' : Addr → Prop} {h h' : Heap}
theorem not_frail_dict {o : Obj} (h : o.ExactDict) : ¬ Frail o := fun f => by
  have := h.1
  rw [f.1] at this; cases this
mutual
theorem Is.mono (hO : ∀ a, O' a → O a) (hk : ∀ b o, ¬ O b → ¬ Frail o → h.get? b = some o → h'.get? b = some o) : ∀ (d : D) (v : Value), Is c O h d v → Is c O' h' d v
  | .none, v, x => by unfold Is at *; exact x
  | .bool b, v, x => by unfold Is at *; exact x
  | .int b, v, x => by unfold Is at *; exact x
  | .str b, v, x => by unfold Is at *; exact x
  | .list ds, v, x => by
    unfold Is at *
    obtain ⟨a, vs, n, e, na, ho, r⟩ := x
    exact ⟨a, vs, n, e, fun q => na (hO a q), hk a _ na (not_frail_cls nofun) ho, IsAll.mono hO hk ds _ r⟩
  | .tuple ds, v, x => by
    unfold Is at *
    obtain ⟨a, vs, n, e, na, ho, r⟩ := x
    exact ⟨a, vs, n, e, fun q => na (hO a q), hk a _ na (not_frail_cls nofun) ho, IsAll.mono hO hk ds _ r⟩
  | .dict ds, v, x => by
    unfold Is at *
    obtain ⟨a, kvs, ep, e, na, ⟨o, es, ho, hx, y⟩, r⟩ := x
    exact ⟨a, kvs, ep, e, ⟨na.1, fun q => na.2 (hO a q)⟩, ⟨o, es, hk a _ na.2 (not_frail_dict hx) ho, hx, y⟩, IsKv.mono hO hk ds _ r⟩
  | .ndict ds, v, x => by
    unfold Is at *
    obtain ⟨a, kvs, ep, e, na, ⟨o, es, ho, hx, y⟩, r⟩ := x
    exact ⟨a, kvs, ep, e, ⟨na.1, fun q => na.2 (hO a q)⟩, ⟨o, es, hk a _ na.2 (not_frail_dict hx) ho, hx, y⟩, IsKv.mono hO hk ds _ r⟩
  | .any P, v, x => by unfold Is at *; exact x
  | .pile ds, v, x => by
    unfold Is at *
    obtain ⟨a, d, o, vs, n, e, na, ho, ⟨h1, h2, h3⟩, r⟩ := x
    exact ⟨a, d, o, vs, n, e, fun q => na (hO a q), hk a _ na (not_frail_cls nofun) ho, ⟨hk d _ h2 h3.nf h1, fun q => h2 (hO d q), h3⟩, IsAll.mono hO hk ds _ r⟩
theorem IsAll.mono (hO : ∀ a, O' a → O a) (hk : ∀ b o, ¬ O b → ¬ Frail o → h.get? b = some o → h'.get? b = some o) : ∀ (ds : List D) (vs : List Value), IsAll c O h ds vs → IsAll c O' h' ds vs
  | [], vs, x => by unfold IsAll at *; exact x
  | d :: ds, vs, x => by
    unfold IsAll at *
    obtain ⟨v, r, e, a, b⟩ := x
    exact ⟨v, r, e, Is.mono hO hk d v a, IsAll.mono hO hk ds r b⟩
theorem IsKv.mono (hO : ∀ a, O' a → O a) (hk : ∀ b o, ¬ O b → ¬ Frail o → h.get? b = some o → h'.get? b = some o) : ∀ (ds : List (Str × D)) (vs : List (Str × Value)), IsKv c O h ds vs → IsKv c O' h' ds vs
  | [], vs, x => by unfold IsKv at *; exact x
  | (k, d) :: ds, vs, x => by
    unfold IsKv at *
    obtain ⟨v, r, e, a, b⟩ := x
    exact ⟨v, r, e, Is.mono hO hk d v a, IsKv.mono hO hk ds r b⟩
end
theorem Is.grow {d : D} {v : Value} (x : Is c O h d v) (g : Grow h h') : Is c O h' d v := Is.mono (fun _ q => q) (fun b o _ f e => g.2 b o f e) d v x
theorem IsAll.grow {d : List D} {v : List Value} (x : IsAll c O h d v) (g : Grow h h') : IsAll c O h' d v := IsAll.mono (fun _ q => q) (fun b o _ f e => g.2 b o f e) d v x
theorem IsKv.grow {d : List (Str × D)} {v : List (Str × Value)} (x : IsKv c O h d v) (g : Grow h h') : IsKv c O h' d v := IsKv.mono (fun _ q => q) (fun b o _ f e => g.2 b o f e) d v x
theorem Is.sub {d : D} {v : Value} (x : Is c O h d v) (hO : ∀ a, O' a → O a) : Is c O' h d v := Is.mono hO (fun b o _ f e => e) d v x

theorem IsAll.length : ∀ {ds : List D} {vs : List Value}, IsAll c O h ds vs → vs.length = ds.length
  | [], vs, x => by unfold IsAll at x; subst x; rfl
  | d :: ds, vs, x => by unfold IsAll at x; obtain ⟨v, r, e, _, b⟩ := x; subst e; simp [IsAll.length b]
theorem IsKv.length : ∀ {ds : List (Str × D)} {vs : List (Str × Value)}, IsKv c O h ds vs → vs.length = ds.length
  | [], vs, x => by unfold IsKv at x; subst x; rfl
  | (k, d) :: ds, vs, x => by unfold IsKv at x; obtain ⟨v, r, e, _, b⟩ := x; subst e; simp [IsKv.length b]
theorem IsAll.get : ∀ {ds : List D} {vs : List Value}, IsAll c O h ds vs → ∀ {i : Nat} {d : D}, ds[i]? = some d → ∃ v, vs[i]? = some v ∧ Is c O h d v
  | [], vs, x, i, d, e => by simp at e
  | d :: ds, vs, x, i, d', e => by
    unfold IsAll at x
    obtain ⟨v, r, rfl, a, b⟩ := x
    cases i with
    | zero => simp at e; subst e; exact ⟨v, rfl, a⟩
    | succ i => simp at e; obtain ⟨v', e', y⟩ := IsAll.get b e; exact ⟨v', by simpa using e', y⟩
theorem IsAll.get' : ∀ {ds : List D} {vs : List Value}, IsAll c O h ds vs → ∀ {i : Nat} {v : Value}, vs[i]? = some v → ∃ d, ds[i]? = some d ∧ Is c O h d v
  | [], vs, x, i, d, e => by unfold IsAll at x; subst x; simp at e
  | d :: ds, vs, x, i, d', e => by
    unfold IsAll at x
    obtain ⟨v, r, rfl, a, b⟩ := x
    cases i with
    | zero => simp at e; subst e; exact ⟨d, rfl, a⟩
    | succ i => simp at e; obtain ⟨v', e', y⟩ := IsAll.get' b e; exact ⟨v', by simpa using e', y⟩
theorem IsAll.append : ∀ {ds ds' : List D} {vs vs' : List Value}, IsAll c O h ds vs → IsAll c O h ds' vs' → IsAll c O h (ds ++ ds') (vs ++ vs')
  | [], ds', vs, vs', x, y => by unfold IsAll at x; subst x; exact y
  | d :: ds, ds', vs, vs', x, y => by
    unfold IsAll at x
    obtain ⟨v, r, rfl, a, b⟩ := x
    show IsAll c O h (d :: (ds ++ ds')) (v :: (r ++ vs'))
    unfold IsAll
    exact ⟨v, _, rfl, a, IsAll.append b y⟩
theorem IsAll.take : ∀ {ds : List D} {vs : List Value} (n : Nat), IsAll c O h ds vs → IsAll c O h (ds.take n) (vs.take n)
  | ds, vs, 0, x => by simp [IsAll]
  | [], vs, n + 1, x => by unfold IsAll at x; subst x; simp [IsAll]
  | d :: ds, vs, n + 1, x => by
    unfold IsAll at x
    obtain ⟨v, r, rfl, a, b⟩ := x
    show IsAll c O h (d :: ds.take n) (v :: r.take n)
    unfold IsAll
    exact ⟨v, _, rfl, a, IsAll.take n b⟩
theorem IsAll.drop : ∀ {ds : List D} {vs : List Value} (n : Nat), IsAll c O h ds vs → IsAll c O h (ds.drop n) (vs.drop n)
  | ds, vs, 0, x => x
  | [], vs, n + 1, x => by unfold IsAll at x; subst x; simp [IsAll]
  | d :: ds, vs, n + 1, x => by
    unfold IsAll at x
    obtain ⟨v, r, rfl, a, b⟩ := x
    exact IsAll.drop n b
theorem IsAll.single {d : D} {v : Value} (x : Is c O h d v) : IsAll c O h [d] [v] := by unfold IsAll; exact ⟨v, [], rfl, x, by unfold IsAll; rfl⟩
theorem IsAll.nil : IsAll c O h [] [] := by unfold IsAll; rfl
theorem IsAll.cons {d : D} {v : Value} {ds : List D} {vs : List Value} (x : Is c O h d v) (y : IsAll c O h ds vs) : IsAll c O h (d :: ds) (v :: vs) := by unfold IsAll; exact ⟨v, vs, rfl, x, y⟩
theorem IsAll.reverse : ∀ {ds : List D} {vs : List Value}, IsAll c O h ds vs → IsAll c O h ds.reverse vs.reverse
  | [], vs, x => by unfold IsAll at x; subst x; exact .nil
  | d :: ds, vs, x => by
    unfold IsAll at x
    obtain ⟨v, r, rfl, a, b⟩ := x
    rw [List.reverse_cons, List.reverse_cons]
    exact IsAll.append (IsAll.reverse b) (.single a)
theorem IsKv.nil : IsKv c O h [] [] := by unfold IsKv; rfl
theorem IsKv.cons {k : Str} {d : D} {v : Value} {ds : List (Str × D)} {vs : List (Str × Value)} (x : Is c O h d v) (y : IsKv c O h ds vs) : IsKv c O h ((k, d) :: ds) ((k, v) :: vs) := by unfold IsKv; exact ⟨v, vs, rfl, x, y⟩
end

structure St (c : Cx) (s : Shared) : Prop where
  low : 3 ≤ c.hB.objs.size
  n : c.n ≤ s.heap.objs.size
  old : OldK c.hB s.heap
  grow : Grow c.hB s.heap
  bare : AllBare s.gens
  os : s.os = c.os
  tabs : ∀ x ∈ c.sites, x.2 < c.hB.objs.size ∧ ∃ ps, s.heap.IsCode x.1 x.2 ps ∧ s.heap.TableAt x.1 x.2 ps ∧ x.1 < c.hB.objs.size

theorem oldK_low {h₀ h h' : Heap} (K : OldK h₀ h) (hk : ∀ b o, b < h₀.objs.size → h.get? b = some o → h'.get? b = some o) (hc : cStatics < h₀.objs.size) : OldK h₀ h' := by
  refine ⟨fun b o e => ?_, fun b o e => let ⟨o', ho'⟩ := K.there b o e; ⟨o', hk b o' (Heap.lt_size e) ho'⟩⟩
  have lb := Heap.lt_size e
  rcases K.old b o e with x | ⟨t, hc', vs, more, hv, x⟩ | ⟨rfl, hc', ⟨o', es, n, ho', r⟩, z⟩
  · exact .inl (hk b _ lb x)
  · exact .inr (.inl ⟨t, hc', vs, more, hv, hk b _ lb x⟩)
  · exact .inr (.inr ⟨rfl, hc', ⟨o', es, n, hk _ _ lb ho', r⟩, fun key => by rw [OldK.staticOf_congr ((hk _ _ lb ho').trans ho'.symm) key]; exact z key⟩)
section
variable {c : Cx} {s s' : Shared}
theorem St.step (S : St c s) (hk : ∀ b o, b < c.hB.objs.size → s.heap.get? b = some o → s'.heap.get? b = some o) (hz : s.heap.objs.size ≤ s'.heap.objs.size) (hg : AllBare s'.gens) (ho : s'.os = s.os) : St c s' where
  low := S.low
  n := Nat.le_trans S.n hz
  old := oldK_low S.old hk (Nat.lt_of_lt_of_le (by decide) S.low)
  grow := ⟨Nat.le_trans S.grow.1 hz, fun b o f e => hk b o (Heap.lt_size e) (S.grow.2 b o f e)⟩
  bare := hg
  os := ho.trans S.os
  tabs := fun x hx => by
    obtain ⟨p, ps, ic, ta, e⟩ := S.tabs x hx
    exact ⟨p, ps, ic.at2 (fun o q => hk _ o e q) (fun o q => hk _ o p q), ta.at2 (fun o q => hk _ o e q) (fun o q => hk _ o p q), e⟩
theorem St.keeps (S : St c s) (hk : ∀ b o, s.heap.get? b = some o → s'.heap.get? b = some o) (hz : s.heap.objs.size ≤ s'.heap.objs.size) (hg : s'.gens = s.gens) (ho : s'.os = s.os) : St c s' :=
  S.step (fun b o _ e => hk b o e) hz (hg ▸ S.bare) ho
theorem St.ext (S : St c s) {a : Addr} (ha : c.hB.objs.size ≤ a) (hs : Heap.ExtBut a s.heap s'.heap) (hz : s.heap.objs.size ≤ s'.heap.objs.size) (hg : s'.gens = s.gens) (ho : s'.os = s.os) : St c s' :=
  S.step (fun b o lb e => hs b o (Nat.ne_of_lt (Nat.lt_of_lt_of_le lb ha)) e) hz (hg ▸ S.bare) ho
theorem St.same (S : St c s) {a : Addr} (ha : c.hB.objs.size ≤ a) (hs : Heap.SameBut a s.heap s'.heap) (hg : s'.gens = s.gens) (ho : s'.os = s.os) : St c s' :=
  S.ext ha hs.extBut (Nat.le_of_eq hs.1.symm) hg ho
theorem St.push (S : St c s) (o : Obj) {g d t os} (hg : g = s.gens) (hos : os = s.os) : St c ⟨s.heap.push o, g, d, t, os⟩ := S.keeps (fun _ _ e => Heap.get?_push_of_some o e) (by simp) hg hos
theorem St.tok (S : St c s) (t : Nat) : St c { s with toks := t } := S.keeps (fun _ _ e => e) (Nat.le_refl _) rfl rfl
end
end Mine
end
section
open PySem PySem.W PyProof.Rows
set_option maxRecDepth 100000
set_option linter.unusedVariables false
namespace Mine

noncomputable def Room (k : Nat) (A : Around) : Prop := A.handled = none ∧ A.depth + k < 900 ∧ A.units + 16 * k < 9000
theorem Room.deeper {k : Nat} {A : Around} (R : Room (k + 1) A) (env : Env) : Room k (A.deeper env) := ⟨R.1, by have := R.2.1; show A.depth + 1 + k < 900; omega, by have := R.2.2; show A.units + 3 + 16 * k < 9000; omega⟩
theorem Room.in1 {k : Nat} {A : Around} (R : Room (k + 1) A) : Room k A.in1 := ⟨R.1, by have := R.2.1; show A.depth + k < 900; omega, by have := R.2.2; show A.units + 1 + 16 * k < 9000; omega⟩
theorem Room.depth {k : Nat} {A : Around} (R : Room k A) : A.depth < recursionLimit := by have := R.2.1; unfold recursionLimit; omega
theorem Room.units {k : Nat} {A : Around} (R : Room k A) : A.units + 64 < cLine := by have := R.2.2; unfold cLine; omega
theorem ns_grow {h h' : Heap} {a : Addr} {m} (x : h.Ns a m) (g : Grow h h') : h'.Ns a m := by
  obtain ⟨o, es, ep, ho, hd, r⟩ := x
  exact ⟨o, es, ep, g.2 a o (fun f => by obtain ⟨_, vs, e⟩ := f; rw [hd] at e; cases e) ho, hd, r⟩
theorem cell_grow {h h' : Heap} {a : Addr} {v} (x : h.IsCell a v) (g : Grow h h') : h'.IsCell a v := by
  obtain ⟨o, ho, hd⟩ := x
  exact ⟨o, g.2 a o (fun f => by obtain ⟨_, vs, e⟩ := f; rw [hd] at e; cases e) ho, hd⟩

structure EnvS (c : Cx) (env : Env) : Prop where
  kind : env.scope.kind = .function
  glob : env.globals = mainGlobals
  bi : env.builtins = builtinsNs
  low : c.hB.objs.size ≤ env.locals
  apart : env.cells.Pairwise fun x y => x.2 ≠ y.2
  above : ∀ n cl, (n, cl) ∈ env.cells → cl ≠ env.locals ∧ c.hB.objs.size ≤ cl

structure Frm (env : Env) (lv : Str → Option Value) (h : Heap) : Prop where
  ns : ∃ m, h.Ns env.locals m ∧ ∀ x, env.kindOf x = some .local → m x = lv x
  cell : ∀ x cl, env.kindOf x ≠ some .local → env.cells.lookup x = some cl → h.IsCell cl (lv x)
theorem Frm.grow {env lv} {h h' : Heap} (F : Frm env lv h) (g : Grow h h') : Frm env lv h' := ⟨let ⟨m, a, b⟩ := F.ns; ⟨m, ns_grow a g, b⟩, fun x cl n e => cell_grow (F.cell x cl n e) g⟩

noncomputable def FrameAddr (env : Env) (b : Addr) : Prop := b = env.locals ∨ ∃ n, (n, b) ∈ env.cells
/-- a name is a plain local, or a cell that the frame bears -/
noncomputable def Has (env : Env) (x : Str) : Bool := match env.kindOf x with
  | some .local => true
  | some .cell => (env.cells.lookup x).isSome
  | some .free => (env.cells.lookup x).isSome && !(x == ("__classdict__" : Str))
  | _ => false

section
variable {c : Cx} {M : Model} {A : Around} {E : Value → Shared → Prop} {s : Shared} {env : Env} {lv : Str → Option Value}
theorem load_has {x : Str} {v : Value} {Q : Value → Shared → Prop} (S : EnvS c env) (F : Frm env lv s.heap) (hx : Has env x = true) (hv : lv x = some v) (h : Q v s) : wpAny M A (loadName env x) Q E s := by
  unfold Has at hx
  split at hx
  · rename_i hk
    obtain ⟨m, hn, hm⟩ := F.ns
    exact wpAny_loadName_local S.kind hk hn ((hm x hk).trans hv) h
  · rename_i hk
    obtain ⟨cl, hc⟩ := Option.isSome_iff_exists.mp hx
    have := F.cell x cl (by rw [hk]; nofun) hc
    rw [hv] at this
    exact wpAny_loadName_cell S.kind hk hc this h
  · rename_i hk
    rw [Bool.and_eq_true] at hx
    obtain ⟨cl, hc⟩ := Option.isSome_iff_exists.mp hx.1
    have := F.cell x cl (by rw [hk]; nofun) hc
    rw [hv] at this
    exact wpAny_loadName_free S.kind hk hc this h (by simpa using hx.2)
  · cases hx
theorem store_has {x : Str} {v : Value} {Q : Unit → Shared → Prop} (S : EnvS c env) (F : Frm env lv s.heap) (hx : Has env x = true) (hnf : env.kindOf x ≠ some .free)
    (h : ∀ h' tk a, (a = env.locals ∨ env.cells.lookup x = some a) → Heap.SameBut a s.heap h' → Frm env (fun y => if y = x then some v else lv y) h' → Q () { s with heap := h', toks := tk }) : wpAny M A (storeName env x v) Q E s := by
  obtain ⟨m, hn, hm⟩ := F.ns
  unfold Has at hx
  split at hx
  · rename_i hk
    refine wpAny_storeName_local hk hn (fun h' hn' hs => h h' _ env.locals (.inl rfl) hs ⟨⟨_, hn', fun y hy => ?_⟩, fun y cl hy hc => ?_⟩) (by rw [S.kind]; rfl)
    · by_cases e : y = x
      · simp [e]
      · simp only [e, if_false]; exact hm y hy
    · have e : y ≠ x := fun e => hy (e ▸ hk)
      simp only [e, if_false]
      exact (F.cell y cl hy hc).sameBut hs (S.above y cl (mem_of_lookup hc)).1
  · rename_i hk
    obtain ⟨cl, hc⟩ := Option.isSome_iff_exists.mp hx
    have hm0 := mem_of_lookup hc
    refine wpAny_storeName_cell S.kind hk hc (F.cell x cl (by rw [hk]; nofun) hc) fun h' hc' hs => h h' _ cl (.inr hc) hs ⟨⟨m, hn.sameBut hs (Ne.symm (S.above x cl hm0).1), fun y hy => ?_⟩, fun y cl' hy hcl' => ?_⟩
    · have e : y ≠ x := fun e => by rw [e, hk] at hy; cases hy
      simp only [e, if_false]; exact hm y hy
    · by_cases e : y = x
      · subst e
        rw [hc] at hcl'; cases hcl'
        simpa using hc'
      · simp only [e, if_false]
        exact (F.cell y cl' hy hcl').sameBut hs fun q => e (name_of_addr S.apart (mem_of_lookup hcl') (q ▸ hm0))
  · rename_i hk; exact absurd hk hnf
  · cases hx
end

noncomputable def Own (O : Addr → Prop) (h : Heap) : Prop := ∀ a, O a → a < h.objs.size
theorem Own.grow {O : Addr → Prop} {h h' : Heap} (x : Own O h) (g : Grow h h') : Own O h' := fun a q => Nat.lt_of_lt_of_le (x a q) g.1
theorem Own.new {O : Addr → Prop} {h : Heap} (x : Own O h) {a : Addr} (ha : h.objs.size ≤ a) : ¬ O a := fun q => Nat.lt_irrefl _ (Nat.lt_of_lt_of_le (x a q) ha)
noncomputable def EnvOk (c : Cx) (O : Addr → Prop) (env : Env) (ρ : List (Str × D)) (h : Heap) : Prop :=
  EnvS c env ∧ Own O h ∧ (∀ b, FrameAddr env b → O b) ∧ ∃ lv, Frm env lv h ∧ ∀ x d, ρ.lookup x = some d → ∃ v, lv x = some v ∧ Is c O h d v
theorem EnvOk.grow {c : Cx} {O : Addr → Prop} {env : Env} {ρ : List (Str × D)} {h h' : Heap} (x : EnvOk c O env ρ h) (g : Grow h h') : EnvOk c O env ρ h' := by
  obtain ⟨S, ow, fr, lv, F, r⟩ := x
  refine ⟨S, ow.grow g, fr, lv, F.grow g, fun x d e => ?_⟩
  obtain ⟨v, a, b⟩ := r x d e
  exact ⟨v, a, b.grow g⟩

structure Cx.Ok (c : Cx) : Prop where
  inB : c.K.In c.hB
  top : ∃ p loose mean mg mb, Top p loose mean mg mb c.hB

abbrev F0 : Value → Shared → Prop := fun _ _ => False
noncomputable def Ret (c : Cx) (O : Addr → Prop) (s : Shared) (d : D) : Value → Shared → Prop := fun v s' => St c s' ∧ Grow s.heap s'.heap ∧ Is c O s'.heap d v
noncomputable def EvO (c : Cx) (O : Addr → Prop) (k : Nat) (env : Env) (ρ : List (Str × D)) (e : Expr) (d : D) : Prop :=
  ∀ A s, Room k A → St c s → EnvOk c O env ρ s.heap → wpAny (model c.prog c.w) A (eval e env) (Ret c O s d) F0 s
noncomputable def EvAll (c : Cx) (O : Addr → Prop) (k : Nat) (env : Env) (ρ : List (Str × D)) (pos : Pos) (es : List Expr) (ds : List D) : Prop :=
  ∀ A s, Room k A → St c s → EnvOk c O env ρ s.heap → wpAny (model c.prog c.w) A (spliced (backTo pos (starEach es env))) (fun vs s' => St c s' ∧ Grow s.heap s'.heap ∧ IsAll c O s'.heap ds vs) F0 s

section
variable {c : Cx} {O : Addr → Prop} {k : Nat} {env : Env} {ρ : List (Str × D)} {A : Around} {s : Shared}
theorem EvO.use {e : Expr} {d : D} {Q : Value → Shared → Prop} {E : Value → Shared → Prop} (X : EvO c O k env ρ e d) (R : Room k A) (S : St c s) (V : EnvOk c O env ρ s.heap)
    (h : ∀ v s', St c s' → Grow s.heap s'.heap → Is c O s'.heap d v → Q v s') : wpAny (model c.prog c.w) A (eval e env) Q E s :=
  wpAny_mono (X A s R S V) (fun v s' r => h v s' r.1 r.2.1 r.2.2) (fun _ _ f => f.elim)
theorem EvAll.use {pos : Pos} {e : List Expr} {d : List D} {Q : List Value → Shared → Prop} {E : Value → Shared → Prop} (X : EvAll c O k env ρ pos e d) (R : Room k A) (S : St c s) (V : EnvOk c O env ρ s.heap)
    (h : ∀ v s', St c s' → Grow s.heap s'.heap → IsAll c O s'.heap d v → Q v s') : wpAny (model c.prog c.w) A (spliced (backTo pos (starEach e env))) Q E s :=
  wpAny_mono (X A s R S V) (fun v s' r => h v s' r.1 r.2.1 r.2.2) (fun _ _ f => f.elim)

theorem ev_int {i : Int} {n : Nat} {pos : Pos} : EvO c O k env ρ (.Constant (.int i) n pos) (.int i) := fun A s R S V =>
  wpAny_Constant_int ⟨S.tok _, Grow.refl _, by unfold Is; exact ⟨_, rfl⟩⟩
theorem ev_str {i : Str} {n : Nat} {pos : Pos} : EvO c O k env ρ (.Constant (.str i) n pos) (.str i) := fun A s R S V =>
  Calls.Constant_str ⟨S.tok _, Grow.refl _, by unfold Is; exact ⟨_, rfl⟩⟩
theorem ev_name {x : Str} {pos : Pos} {d : D} (hx : Has env x = true) (hd : ρ.lookup x = some d) (hb : (x == ("__debug__" : Str)) = false := by decide) : EvO c O k env ρ (.Name x pos) d := fun A s R S V => by
  obtain ⟨ES, ow, fr, lv, F, r⟩ := V
  obtain ⟨v, a, b⟩ := r x d hd
  exact wpAny_Name (load_has ES F hx a ⟨S, Grow.refl _, b⟩) hb
theorem ev_bin {op : Operator} {l r : Expr} {pos : Pos} {a b d : D} (X : EvO c O k env ρ l a) (Y : EvO c O k env ρ r b)
    (h : ∀ A s va vb, Room k A → St c s → Own O s.heap → Is c O s.heap a va → Is c O s.heap b vb → wpAny (model c.prog c.w) A (binaryOp op va vb) (Ret c O s d) F0 s) : EvO c O k env ρ (.BinOp l op r pos) d := fun A s R S V =>
  wpAny_BinOp (X.use R S V fun v s' S' g i => Y.use R S' (V.grow g) fun v' s'' S'' g' i' => wpAny_mono (h A s'' v v' R S'' ((V.grow g).grow g').2.1 (i.grow g') i') (fun x s3 r => ⟨r.1, (g.trans g').trans r.2.1, r.2.2⟩) fun _ _ f => f)
theorem ev_add {l r : Expr} {pos : Pos} {a b : Int} (X : EvO c O k env ρ l (.int a)) (Y : EvO c O k env ρ r (.int b)) : EvO c O k env ρ (.BinOp l .Add r pos) (.int (a + b)) :=
  ev_bin X Y fun A s va vb R S ow i j => by
    unfold Is at i j; obtain ⟨_, rfl⟩ := i; obtain ⟨_, rfl⟩ := j
    exact wpAny_add_int ⟨S.tok _, Grow.refl _, by unfold Is; exact ⟨_, rfl⟩⟩
theorem ev_sub {l r : Expr} {pos : Pos} {a b : Int} (X : EvO c O k env ρ l (.int a)) (Y : EvO c O k env ρ r (.int b)) : EvO c O k env ρ (.BinOp l .Sub r pos) (.int (a - b)) :=
  ev_bin X Y fun A s va vb R S ow i j => by
    unfold Is at i j; obtain ⟨_, rfl⟩ := i; obtain ⟨_, rfl⟩ := j
    exact sub_int ⟨S.tok _, Grow.refl _, by unfold Is; exact ⟨_, rfl⟩⟩
theorem ev_mul {l r : Expr} {pos : Pos} {a b : Int} (X : EvO c O k env ρ l (.int a)) (Y : EvO c O k env ρ r (.int b)) (hm : IntMulOk a b) : EvO c O k env ρ (.BinOp l .Mult r pos) (.int (a * b)) :=
  ev_bin X Y fun A s va vb R S ow i j => by
    unfold Is at i j; obtain ⟨_, rfl⟩ := i; obtain ⟨_, rfl⟩ := j
    exact mul_int ⟨S.tok _, Grow.refl _, by unfold Is; exact ⟨_, rfl⟩⟩ hm
theorem ev_mod {l r : Expr} {pos : Pos} {a b : Int} (X : EvO c O k env ρ l (.int a)) (Y : EvO c O k env ρ r (.int b)) (hb : b ≠ 0) : EvO c O k env ρ (.BinOp l .Mod r pos) (.int (a.fmod b)) :=
  ev_bin X Y fun A s va vb R S ow i j => by
    unfold Is at i j; obtain ⟨_, rfl⟩ := i; obtain ⟨_, rfl⟩ := j
    exact mod_int hb ⟨S.tok _, Grow.refl _, by unfold Is; exact ⟨_, rfl⟩⟩
theorem ev_fdiv {l r : Expr} {pos : Pos} {a b : Int} (X : EvO c O k env ρ l (.int a)) (Y : EvO c O k env ρ r (.int b)) (hb : b ≠ 0) (hs : b.natAbs < 1073741824) : EvO c O k env ρ (.BinOp l .FloorDiv r pos) (.int (a.fdiv b)) :=
  ev_bin X Y fun A s va vb R S ow i j => by
    unfold Is at i j; obtain ⟨_, rfl⟩ := i; obtain ⟨_, rfl⟩ := j
    refine AutoIntOps.floordiv_1 (by simpa using hb) (by rw [PyProof.noPylong_small hs]; decide) ?_
    exact ⟨S.tok _, Grow.refl _, by unfold Is; exact ⟨_, rfl⟩⟩
theorem ev_addStr {l r : Expr} {pos : Pos} {a b : Str} (X : EvO c O k env ρ l (.str a)) (Y : EvO c O k env ρ r (.str b)) (hsz : a.length + b.length ≤ sizeLine) : EvO c O k env ρ (.BinOp l .Add r pos) (.str (a ++ b)) :=
  ev_bin X Y fun A s va vb R S ow i j => by
    unfold Is at i j; obtain ⟨_, rfl⟩ := i; obtain ⟨_, rfl⟩ := j
    exact SB.add (fun t k => ⟨S.tok _, Grow.refl _, by unfold Is; exact ⟨_, rfl⟩⟩) hsz
theorem Is.newList {ds : List D} {vs : List Value} (S : St c s) (ow : Own O s.heap) (y : IsAll c O s.heap ds vs) : Ret c O s (.list ds) (.ref s.heap.objs.size) { s with heap := s.heap.push { cls := .type "list", data := .seq vs.toArray } } :=
  ⟨S.push _ rfl rfl, Grow.push _ _, by unfold Is; exact ⟨_, vs.toArray, 0, rfl, ow.new (Nat.le_refl _), Heap.get?_push_size _ rfl, y.grow (Grow.push _ _)⟩⟩
theorem Is.newTuple {ds : List D} {vs : List Value} (S : St c s) (ow : Own O s.heap) (y : IsAll c O s.heap ds vs) : Ret c O s (.tuple ds) (.ref s.heap.objs.size) { s with heap := s.heap.push { cls := .type "tuple", data := .seq vs.toArray } } :=
  ⟨S.push _ rfl rfl, Grow.push _ _, by unfold Is; exact ⟨_, vs.toArray, 0, rfl, ow.new (Nat.le_refl _), Heap.get?_push_size _ rfl, y.grow (Grow.push _ _)⟩⟩
end
end Mine
end
section
open PySem PySem.W PyProof.Rows
set_option maxRecDepth 100000
set_option linter.unusedVariables false
namespace Mine
section
variable {c : Cx} {O : Addr → Prop} {k : Nat} {env : Env} {ρ : List (Str × D)} {A : Around} {s : Shared}

theorem evs_nil {pos : Pos} : EvAll c O k env ρ pos [] [] := fun A s R S V => Calls.spliced_nil ⟨S, Grow.refl _, .nil⟩
theorem evs_cons {pos : Pos} {e : Expr} {es : List Expr} {d : D} {ds : List D} (X : EvO c O k env ρ e d) (Y : EvAll c O k env ρ pos es ds) (hs : starEach (e :: es) env = (false, eval e env) :: starEach es env := by rfl) : EvAll c O k env ρ pos (e :: es) (d :: ds) := fun A s R S V => by
  rw [hs]
  show wpAny _ A (spliced ((false, eval e env) :: backTo pos (starEach es env))) _ _ s
  exact Calls.spliced_cons (X.use R S V fun v s' S' g i => Y.use R S' (V.grow g) fun vs s'' S'' g' i' => ⟨S'', g.trans g', .cons (i.grow g') i'⟩)
theorem ev_tuple {es : List Expr} {n : Nat} {pos : Pos} {ds : List D} (X : EvAll c O k env ρ pos es ds) (hz : ds.length ≤ sizeLine := by (simp only [List.length_cons, List.length_nil]; decide)) : EvO c O k env ρ (.Tuple es n pos) (.tuple ds) := fun A s R S V =>
  Tuple_ (X.use R S V fun vs s' S' g i => wpAny_newTuple (by
    have := Is.newTuple S' (V.grow g).2.1 i
    exact ⟨this.1, g.trans this.2.1, this.2.2⟩) (by rw [i.length]; exact hz))
theorem ev_list {es : List Expr} {pos : Pos} {ds : List D} (X : EvAll c O k env ρ pos es ds) (hz : ds.length ≤ sizeLine := by (simp only [List.length_cons, List.length_nil]; decide)) : EvO c O k env ρ (.List es pos) (.list ds) := fun A s R S V =>
  List_ (X.use R S V fun vs s' S' g i => wpAny_newList (by
    have := Is.newList S' (V.grow g).2.1 i
    exact ⟨this.1, g.trans this.2.1, this.2.2⟩) (by rw [i.length]; exact hz))

theorem ev_sub_ {v sl : Expr} {pos : Pos} {a b d : D} (X : EvO c O k env ρ v a) (Y : EvO c O k env ρ sl b)
    (h : ∀ A s va vb, Room k A → St c s → Own O s.heap → Is c O s.heap a va → Is c O s.heap b vb → wpAny (model c.prog c.w) A (subscriptTail v sl va vb) (Ret c O s d) F0 s) : EvO c O k env ρ (.Subscript v sl pos) d := fun A s R S V =>
  Subscript_ (X.use R S V fun x s' S' g i => Y.use R S' (V.grow g) fun y s'' S'' g' i' => wpAny_mono (h A s'' x y R S'' ((V.grow g).grow g').2.1 (i.grow g') i') (fun x s3 r => ⟨r.1, (g.trans g').trans r.2.1, r.2.2⟩) fun _ _ f => f)
theorem typeIs_of {T : String} {a : Addr} {dt : Data} (h : s.heap.get? a = some { cls := .type T, data := dt }) : s.TypeIs (.ref a) T := ⟨_, h, rfl⟩

theorem ev_item_list {v sl : Expr} {pos : Pos} {ds : List D} {i : Int} {d : D} (X : EvO c O k env ρ v (.list ds)) (Y : EvO c O k env ρ sl (.int i)) (h0 : 0 ≤ i) (h1 : i < 2 ^ 63) (hd : ds[i.toNat]? = some d)
    (hs : ∀ o i, subscripted sl false o i = operate [o, i] (getItem o i) := by intros; rfl) : EvO c O k env ρ (.Subscript v sl pos) d :=
  ev_sub_ X Y fun A s va vb R S ow x y => by
    unfold Is at x y
    obtain ⟨a, vs, n, rfl, na, ho, r⟩ := x
    obtain ⟨t, rfl⟩ := y
    obtain ⟨v', e', z⟩ := r.get hd
    exact tail_any (typeIs_of ho) slot_list_getitem.lookup (wpAny_getItem_list ⟨_, ho, rfl, n, rfl⟩ h0 h1 (by simpa using e') ⟨S, Grow.refl _, z⟩) (hs _ _)
theorem ev_item_list_neg {v sl : Expr} {pos : Pos} {ds : List D} {i : Int} {d : D} (X : EvO c O k env ρ v (.list ds)) (Y : EvO c O k env ρ sl (.int i)) (h0 : i < 0) (h2 : -(ds.length : Int) ≤ i) (h1 : -(2 ^ 63) ≤ i) (hd : ds[(i + ds.length).toNat]? = some d)
    (hs : ∀ o i, subscripted sl false o i = operate [o, i] (getItem o i) := by intros; rfl) : EvO c O k env ρ (.Subscript v sl pos) d :=
  ev_sub_ X Y fun A s va vb R S ow x y => by
    unfold Is at x y
    obtain ⟨a, vs, n, rfl, na, ho, r⟩ := x
    obtain ⟨t, rfl⟩ := y
    obtain ⟨v', e', z⟩ := r.get hd
    have hl : vs.size = ds.length := by rw [← r.length]; simp
    exact tail_any (typeIs_of ho) slot_list_getitem.lookup (wpAny_getItem_list_neg ⟨_, ho, rfl, n, rfl⟩ h0 (by rw [hl]; exact h2) h1 (by rw [hl]; simpa using e') ⟨S, Grow.refl _, z⟩) (hs _ _)
theorem ev_item_tuple {v sl : Expr} {pos : Pos} {ds : List D} {i : Int} {j : Nat} {d : D} (X : EvO c O k env ρ v (.tuple ds)) (Y : EvO c O k env ρ sl (.int i)) (h0 : -(2 ^ 63) ≤ i) (h1 : i < 2 ^ 63) (hj : seqIndex? i ds.length = some j) (hd : ds[j]? = some d)
    (hs : ∀ o i, subscripted sl false o i = operate [o, i] (getItem o i) := by intros; rfl) : EvO c O k env ρ (.Subscript v sl pos) d :=
  ev_sub_ X Y fun A s va vb R S ow x y => by
    unfold Is at x y
    obtain ⟨a, vs, n, rfl, na, ho, r⟩ := x
    obtain ⟨t, rfl⟩ := y
    obtain ⟨v', e', z⟩ := r.get hd
    have hl : vs.size = ds.length := by rw [← r.length]; simp
    exact tail_any (typeIs_of ho) slot_tuple_getitem.lookup (getItem_tuple ⟨_, ho, rfl, n, rfl⟩ h0 h1 (by rw [hl]; exact hj) (by simpa using e') ⟨S, Grow.refl _, z⟩) (hs _ _)


theorem not_modules {a : Addr} (h : 1 < a) : (a == sysModules) = false := by
  have : a ≠ sysModules := fun e => by rw [e] at h; exact absurd h (by decide)
  simpa using this
noncomputable def dget {α : Type} (l : List (Str × α)) (k : Str) : Option α := (l.find? fun kv => kv.1 = k).map (·.2)
noncomputable def dput {α : Type} (l : List (Str × α)) (k : Str) (v : α) : List (Str × α) := if l.any (fun kv => kv.1 = k) then l.map (fun kv => if kv.1 = k then (kv.1, v) else kv) else l ++ [(k, v)]
theorem IsKv.keys : ∀ {ds : List (Str × D)} {kvs : List (Str × Value)} {h : Heap}, IsKv c O h ds kvs → kvs.map (·.1) = ds.map (·.1)
  | [], kvs, h, x => by unfold IsKv at x; subst x; rfl
  | (k, d) :: ds, kvs, h, x => by unfold IsKv at x; obtain ⟨v, r, rfl, a, b⟩ := x; simp [IsKv.keys b]
theorem IsKv.find : ∀ {ds : List (Str × D)} {kvs : List (Str × Value)} {h : Heap}, IsKv c O h ds kvs → ∀ {x : Str} {d : D}, dget ds x = some d → ∃ v, valueAt kvs x = some v ∧ Is c O h d v
  | [], kvs, h, x, y, d, e => by cases e
  | (k, d) :: ds, kvs, h, x, y, d', e => by
    unfold IsKv at x
    obtain ⟨v, r, rfl, a, b⟩ := x
    unfold dget at e
    unfold valueAt
    by_cases hk : k = y
    · simp only [List.find?_cons, hk, decide_true] at e ⊢
      cases e; exact ⟨v, rfl, a⟩
    · simp only [List.find?_cons, hk, decide_false] at e ⊢
      exact IsKv.find b e
theorem IsKv.miss : ∀ {ds : List (Str × D)} {kvs : List (Str × Value)} {h : Heap}, IsKv c O h ds kvs → ∀ {x : Str}, dget ds x = none → valueAt kvs x = none
  | [], kvs, h, x, y, e => by unfold IsKv at x; subst x; rfl
  | (k, d) :: ds, kvs, h, x, y, e => by
    unfold IsKv at x
    obtain ⟨v, r, rfl, a, b⟩ := x
    unfold dget at e
    unfold valueAt
    by_cases hk : k = y
    · simp only [List.find?_cons, hk, decide_true] at e; cases e
    · simp only [List.find?_cons, hk, decide_false] at e ⊢
      exact IsKv.miss b e
theorem IsKv.isSome {ds : List (Str × D)} {kvs : List (Str × Value)} {h : Heap} (x : IsKv c O h ds kvs) (y : Str) : (valueAt kvs y).isSome = (dget ds y).isSome := by
  cases e : dget ds y with
  | none => rw [x.miss e]; rfl
  | some d => obtain ⟨v, e', _⟩ := x.find e; rw [e']; rfl
theorem IsKv.map_put : ∀ {ds : List (Str × D)} {kvs : List (Str × Value)} {h : Heap} {k : Str} {d : D} {v : Value}, IsKv c O h ds kvs → Is c O h d v →
    IsKv c O h (ds.map (fun kv => if kv.1 = k then (kv.1, d) else kv)) (kvs.map (fun kv => if kv.1 = k then (kv.1, v) else kv))
  | [], kvs, h, k, d, v, x, y => by unfold IsKv at x; subst x; exact .nil
  | (k', d') :: ds, kvs, h, k, d, v, x, y => by
    unfold IsKv at x
    obtain ⟨v', r, rfl, a, b⟩ := x
    rw [List.map_cons, List.map_cons]
    by_cases hk : k' = k
    · simp only [hk, if_true]; exact .cons y (IsKv.map_put b y)
    · simp only [hk, if_false]; exact .cons a (IsKv.map_put b y)
theorem IsKv.append : ∀ {ds ds' : List (Str × D)} {kvs kvs' : List (Str × Value)} {h : Heap}, IsKv c O h ds kvs → IsKv c O h ds' kvs' → IsKv c O h (ds ++ ds') (kvs ++ kvs')
  | [], ds', kvs, kvs', h, x, y => by unfold IsKv at x; subst x; exact y
  | (k, d) :: ds, ds', kvs, kvs', h, x, y => by
    unfold IsKv at x
    obtain ⟨v, r, rfl, a, b⟩ := x
    exact .cons a (IsKv.append b y)
theorem IsKv.any {ds : List (Str × D)} {kvs : List (Str × Value)} {h : Heap} (x : IsKv c O h ds kvs) (y : Str) : kvs.any (fun kv => kv.1 = y) = ds.any (fun kv => kv.1 = y) := by
  have e := x.keys
  have a : ∀ {α : Type} (l : List (Str × α)), l.any (fun kv => kv.1 = y) = (l.map (·.1)).any (fun z => z = y) := fun l => by rw [List.any_map]; rfl
  rw [a, a, e]
theorem IsKv.put {ds : List (Str × D)} {kvs : List (Str × Value)} {h : Heap} {k : Str} {d : D} {v : Value} (x : IsKv c O h ds kvs) (y : Is c O h d v) : IsKv c O h (dput ds k d) (stored kvs k v) := by
  unfold dput stored
  rw [x.any k]
  split
  · exact x.map_put y
  · exact x.append (.cons y .nil)
theorem isStr_key (x : Str) (t : Tok) : (strKind c.prog c.w).is x (.str x t) = true := by show Value.isStrOf x (.str x t) = true; simp [Value.isStrOf]

theorem ev_item_dict {v sl : Expr} {pos : Pos} {ds : List (Str × D)} {x : Str} {d : D} (X : EvO c O k env ρ v (.dict ds)) (Y : EvO c O k env ρ sl (.str x)) (hd : dget ds x = some d)
    (hs : ∀ o i, subscripted sl false o i = operate [o, i] (getItem o i) := by intros; rfl) : EvO c O k env ρ (.Subscript v sl pos) d :=
  ev_sub_ X Y fun A s va vb R S ow x y => by
    unfold Is at x y
    obtain ⟨a, kvs, ep, rfl, na, ho, r⟩ := x
    obtain ⟨t, rfl⟩ := y
    obtain ⟨v', e', z⟩ := r.find hd
    exact tail_any ho.dictOf.typeIs slot_dict_getitem.lookup (wpAny_getItem_of (isStr_key _ t) ho.dictOf.mapOf e' ⟨S.tok _, Grow.refl _, z⟩) (hs _ _)

/-- plain slices of a list -/
noncomputable def cut {α : Type} (l : List α) (lo hi : Option Int) : List α := (l.drop (lo.elim 0 (clipAt l.length))).take (hi.elim l.length (clipAt l.length) - lo.elim 0 (clipAt l.length))
noncomputable def EvP (c : Cx) (O : Addr → Prop) (k : Nat) (env : Env) (ρ : List (Str × D)) : Option Expr → Option Int → Prop
  | none, none => True
  | some e, some i => EvO c O k env ρ e (.int i)
  | _, _ => False
theorem EvP.use {x : Option Expr} {i : Option Int} {Q : Value → Shared → Prop} {E : Value → Shared → Prop} (X : EvP c O k env ρ x i) (R : Room k A) (S : St c s) (V : EnvOk c O env ρ s.heap)
    (h : ∀ v s', St c s' → Grow s.heap s'.heap → IsPart v i → Q v s') : wpAny (model c.prog c.w) A (evalPart x env) Q E s := by
  cases x with
  | none => cases i with
    | none => exact wpAny_pure (h _ _ S (Grow.refl _) .none)
    | some i => exact X.elim
  | some e => cases i with
    | none => exact X.elim
    | some i => exact EvO.use X R S V fun v s' S' g y => by unfold Is at y; obtain ⟨t, rfl⟩ := y; exact h _ _ S' g (.int i t)
theorem ev_slice {v : Expr} {lo hi : Option Expr} {p pos : Pos} {ds : List D} {a b : Option Int} (X : EvO c O k env ρ v (.list ds)) (L : EvP c O k env ρ lo a) (H : EvP c O k env ρ hi b) (hz : ds.length ≤ sizeLine) :
    EvO c O k env ρ (.Subscript v (.Slice lo hi none p) pos) (.list (cut ds a b)) := fun A s R S V => by
  refine Subscript_ (X.use R S V fun o s₁ S₁ g₁ i₁ => ?_)
  refine wpAny_Slice (L.use R S₁ (V.grow g₁) fun l s₂ S₂ g₂ pl => H.use R S₂ ((V.grow g₁).grow g₂) fun u s₃ S₃ g₃ pu => wpAny_pure ?_)
  have V₃ := ((V.grow g₁).grow g₂).grow g₃
  have i₃ := (i₁.grow g₂).grow g₃
  unfold Is at i₃
  obtain ⟨ad, vs, n, rfl, na, ho, r⟩ := i₃
  have gp := Grow.push s₃.heap { cls := .type "slice", data := .fields #[l, u, .none] }
  have S₄ := S₃.push { cls := .type "slice", data := .fields #[l, u, .none] } (g := s₃.gens) (d := s₃.drawn) (t := s₃.toks) (os := s₃.os) rfl rfl
  have ho' := Heap.get?_push_of_some { cls := .type "slice", data := .fields #[l, u, .none] } ho
  have hl : vs.size = ds.length := by rw [← r.length]; simp
  refine tail_any (typeIs_of ho') slot_list_getitem.lookup (wpAny_getItem_list_slice ⟨_, ho', rfl, n, rfl⟩ (Heap.IsSliceOf.new ..) pl pu .none nofun ?_ (by rw [hl]; exact hz)) rfl
  have r' := (r.grow gp).drop (a.elim 0 (clipAt ds.length)) |>.take (b.elim ds.length (clipAt ds.length) - a.elim 0 (clipAt ds.length))
  have z := Is.newList S₄ (V₃.2.1.grow gp) r'
  refine ⟨?_, ?_, ?_⟩
  · rw [slicePick_plain, hl]; exact z.1
  · rw [slicePick_plain, hl]; exact (((g₁.trans g₂).trans g₃).trans gp).trans z.2.1
  · rw [slicePick_plain, hl]; exact z.2.2
theorem ev_slice_rev {v st : Expr} {p pos : Pos} {ds : List D} (X : EvO c O k env ρ v (.list ds)) (L : EvO c O k env ρ st (.int (-1))) (hz : ds.length ≤ sizeLine) :
    EvO c O k env ρ (.Subscript v (.Slice none none (some st) p) pos) (.list ds.reverse) := fun A s R S V => by
  refine Subscript_ (X.use R S V fun o s₁ S₁ g₁ i₁ => ?_)
  refine wpAny_Slice (wpAny_pure (wpAny_pure (L.use R S₁ (V.grow g₁) fun l s₃ S₃ g₃ pl => ?_)))
  have V₃ := (V.grow g₁).grow g₃
  have i₃ := i₁.grow g₃
  unfold Is at i₃ pl
  obtain ⟨t, rfl⟩ := pl
  obtain ⟨ad, vs, n, rfl, na, ho, r⟩ := i₃
  have gp := Grow.push s₃.heap { cls := .type "slice", data := .fields #[.none, .none, .int (-1) t] }
  have S₄ := S₃.push { cls := .type "slice", data := .fields #[.none, .none, .int (-1) t] } (g := s₃.gens) (d := s₃.drawn) (t := s₃.toks) (os := s₃.os) rfl rfl
  have ho' := Heap.get?_push_of_some { cls := .type "slice", data := .fields #[.none, .none, .int (-1) t] } ho
  have hl : vs.size = ds.length := by rw [← r.length]; simp
  refine tail_any (typeIs_of ho') slot_list_getitem.lookup (wpAny_getItem_list_slice ⟨_, ho', rfl, n, rfl⟩ (Heap.IsSliceOf.new ..) .none .none (.int _ t) (by decide) ?_ (by rw [hl]; exact hz)) rfl
  have z := Is.newList S₄ (V₃.2.1.grow gp) (r.grow gp).reverse
  refine ⟨?_, ?_, ?_⟩
  · rw [krv_pick]; exact z.1
  · rw [krv_pick]; exact ((g₁.trans g₃).trans gp).trans z.2.1
  · rw [krv_pick]; exact z.2.2
theorem ev_addList {l r : Expr} {pos : Pos} {a b : List D} (X : EvO c O k env ρ l (.list a)) (Y : EvO c O k env ρ r (.list b)) (hz : a.length + b.length ≤ sizeLine) : EvO c O k env ρ (.BinOp l .Add r pos) (.list (a ++ b)) :=
  ev_bin X Y fun A s va vb R S ow i j => by
    unfold Is at i j
    obtain ⟨p, vs, n, rfl, na, ho, r⟩ := i
    obtain ⟨q, ws, m, rfl, nb, hq, r'⟩ := j
    have h1 : vs.size = a.length := by rw [← r.length]; simp
    have h2 : ws.size = b.length := by rw [← r'.length]; simp
    have z := Is.newList S ow (r.append r')
    refine P.add_list (show IsL _ _ _ _ from ho) (show IsL _ _ _ _ from hq) ?_ (by omega)
    rw [← Array.toArray_toList (xs := vs ++ ws), Array.toList_append]
    exact z
end

mutual
noncomputable def D.toPy : D → PyData
  | .none => .none
  | .bool b => .bool b
  | .int i => .int i
  | .str s => .str s
  | .list l => .list (D.toPys l)
  | .tuple l => .tuple (D.toPys l)
  | .dict l => .dict (D.toPyKv l)
  | .ndict l => .dict (D.toPyKv l)
  | .any _ => .none
  | .pile _ => .none
noncomputable def D.toPys : List D → List PyData
  | [] => []
  | d :: r => d.toPy :: D.toPys r
noncomputable def D.toPyKv : List (Str × D) → List (PyData × PyData)
  | [] => []
  | (k, d) :: r => (.str k, d.toPy) :: D.toPyKv r
end
mutual
noncomputable def D.solid : D → Bool
  | .any _ => false
  | .pile _ => false
  | .list l => D.solids l
  | .tuple l => D.solids l
  | .dict l => D.solidKv l
  | .ndict l => D.solidKv l
  | _ => true
noncomputable def D.solids : List D → Bool
  | [] => true
  | d :: r => d.solid && D.solids r
noncomputable def D.solidKv : List (Str × D) → Bool
  | [] => true
  | (_, d) :: r => d.solid && D.solidKv r
end
noncomputable def D.ok : Nat → D → Bool
  | _, .none => true
  | _, .bool _ => true
  | _, .int _ => true
  | _, .str s => PyData.strOk s
  | n + 1, .list l => l.all (D.ok n)
  | n + 1, .tuple l => l.all (D.ok n)
  | _, _ => false
noncomputable def D.eqv (a b : D) : Bool := PyData.eqv a.toPy b.toPy
theorem toPys_ok (n : Nat) (ih : ∀ d : D, d.ok n = true → d.toPy.canLay0 = true ∧ d.toPy.depth ≤ n) : ∀ l : List D, l.all (D.ok n) = true → PyData.canLayAll0 (D.toPys l) = true ∧ PyData.depthAll (D.toPys l) ≤ n
  | [], _ => by simp [D.toPys, PyData.canLayAll0, PyData.depthAll]
  | d :: r, h => by
    rw [List.all_cons, Bool.and_eq_true] at h
    have a := ih d h.1
    have b := toPys_ok n ih r h.2
    constructor
    · simp [D.toPys, PyData.canLayAll0, a.1, b.1]
    · simp only [D.toPys, PyData.depthAll]; omega
theorem toPy_ok : ∀ (n : Nat) (d : D), d.ok n = true → d.toPy.canLay0 = true ∧ d.toPy.depth ≤ n
  | n, .none, _ => by simp [D.toPy, PyData.canLay0, PyData.depth]
  | n, .bool b, _ => by simp [D.toPy, PyData.canLay0, PyData.depth]
  | n, .int b, _ => by simp [D.toPy, PyData.canLay0, PyData.depth]
  | n, .str b, h => by
    have : PyData.strOk b = true := by unfold D.ok at h; exact h
    simp [D.toPy, PyData.canLay0, PyData.depth, this]
  | 0, .list l, h => by simp [D.ok] at h
  | 0, .tuple l, h => by simp [D.ok] at h
  | 0, .dict l, h => by simp [D.ok] at h
  | n + 1, .dict l, h => by simp [D.ok] at h
  | 0, .ndict l, h => by simp [D.ok] at h
  | n + 1, .ndict l, h => by simp [D.ok] at h
  | 0, .any l, h => by simp [D.ok] at h
  | n + 1, .any l, h => by simp [D.ok] at h
  | 0, .pile l, h => by simp [D.ok] at h
  | n + 1, .pile l, h => by simp [D.ok] at h
  | n + 1, .list l, h => by
    have h' : l.all (D.ok n) = true := by unfold D.ok at h; exact h
    have := toPys_ok n (toPy_ok n) l h'
    constructor
    · simp [D.toPy, PyData.canLay0, this.1]
    · simp only [D.toPy, PyData.depth]; omega
  | n + 1, .tuple l, h => by
    have h' : l.all (D.ok n) = true := by unfold D.ok at h; exact h
    have := toPys_ok n (toPy_ok n) l h'
    constructor
    · simp [D.toPy, PyData.canLay0, this.1]
    · simp only [D.toPy, PyData.depth]; omega

section
variable {c : Cx} {O : Addr → Prop} {h : Heap}
theorem solids_ok (n : Nat) (ih : ∀ d : D, d.ok n = true → d.solid = true) : ∀ l : List D, l.all (D.ok n) = true → D.solids l = true
  | [], _ => by simp [D.solids]
  | d :: r, h => by
    rw [List.all_cons, Bool.and_eq_true] at h
    simp [D.solids, ih d h.1, solids_ok n ih r h.2]
theorem solid_ok : ∀ (n : Nat) (d : D), d.ok n = true → d.solid = true
  | n, .none, _ => by simp [D.solid]
  | n, .bool b, _ => by simp [D.solid]
  | n, .int b, _ => by simp [D.solid]
  | n, .str b, h => by simp [D.solid]
  | 0, .list l, h => by simp [D.ok] at h
  | 0, .tuple l, h => by simp [D.ok] at h
  | 0, .dict l, h => by simp [D.ok] at h
  | n + 1, .dict l, h => by simp [D.ok] at h
  | 0, .ndict l, h => by simp [D.ok] at h
  | n + 1, .ndict l, h => by simp [D.ok] at h
  | 0, .any l, h => by simp [D.ok] at h
  | n + 1, .any l, h => by simp [D.ok] at h
  | 0, .pile l, h => by simp [D.ok] at h
  | n + 1, .pile l, h => by simp [D.ok] at h
  | n + 1, .list l, h => by
    have h' : l.all (D.ok n) = true := by unfold D.ok at h; exact h
    simp [D.solid, solids_ok n (solid_ok n) l h']
  | n + 1, .tuple l, h => by
    have h' : l.all (D.ok n) = true := by unfold D.ok at h; exact h
    simp [D.solid, solids_ok n (solid_ok n) l h']
mutual
theorem Is.reads : ∀ (d : D) (v : Value), d.solid = true → Is c O h d v → ∃ as, Reads h v d.toPy as
  | .none, v, _, x => by unfold Is at x; subst x; exact ⟨_, by unfold D.toPy; exact .none⟩
  | .bool b, v, _, x => by unfold Is at x; subst x; exact ⟨_, by unfold D.toPy; exact .bool b⟩
  | .int b, v, _, x => by unfold Is at x; obtain ⟨t, rfl⟩ := x; exact ⟨_, by unfold D.toPy; exact .int b t⟩
  | .str b, v, _, x => by unfold Is at x; obtain ⟨t, rfl⟩ := x; exact ⟨_, by unfold D.toPy; exact .str b t⟩
  | .any P, v, q, x => by simp [D.solid] at q
  | .pile P, v, q, x => by simp [D.solid] at q
  | .list ds, v, q, x => by
    unfold Is at x
    obtain ⟨a, vs, n, rfl, na, ho, r⟩ := x
    obtain ⟨as, y⟩ := IsAll.reads ds _ (by simpa [D.solid] using q) r
    exact ⟨_, by unfold D.toPy; exact .list ho rfl rfl y⟩
  | .tuple ds, v, q, x => by
    unfold Is at x
    obtain ⟨a, vs, n, rfl, na, ho, r⟩ := x
    obtain ⟨as, y⟩ := IsAll.reads ds _ (by simpa [D.solid] using q) r
    exact ⟨_, by unfold D.toPy; exact .tuple ho rfl rfl y⟩
  | .dict ds, v, q, x => by
    unfold Is at x
    obtain ⟨a, kvs, ep, rfl, na, ⟨o, es, ho, hx, hd, hk, hp, hn⟩, r⟩ := x
    obtain ⟨as, bs, y, z⟩ := IsKv.reads ds kvs (by simpa [D.solid] using q) r es.toList hp
    exact ⟨_, by unfold D.toPy; exact .dict ho hx.1 hd y z⟩
  | .ndict ds, v, q, x => by
    unfold Is at x
    obtain ⟨a, kvs, ep, rfl, na, ⟨o, es, ho, hx, hd, hk, hp, hn⟩, r⟩ := x
    obtain ⟨as, bs, y, z⟩ := IsKv.reads ds kvs (by simpa [D.solid] using q) r es.toList hp
    exact ⟨_, by unfold D.toPy; exact .dict ho hx.1 hd y z⟩
theorem IsAll.reads : ∀ (ds : List D) (vs : List Value), D.solids ds = true → IsAll c O h ds vs → ∃ as, ReadsAll h vs (D.toPys ds) as
  | [], vs, _, x => by unfold IsAll at x; subst x; exact ⟨_, by unfold D.toPys; exact .nil⟩
  | d :: ds, vs, q, x => by
    unfold IsAll at x
    obtain ⟨v, r, rfl, a, b⟩ := x
    have q' : d.solid = true ∧ D.solids ds = true := by simpa [D.solids] using q
    obtain ⟨as, y⟩ := Is.reads d v q'.1 a
    obtain ⟨bs, z⟩ := IsAll.reads ds r q'.2 b
    exact ⟨_, by unfold D.toPys; exact .cons y z⟩
theorem IsKv.reads : ∀ (ds : List (Str × D)) (kvs : List (Str × Value)), D.solidKv ds = true → IsKv c O h ds kvs → ∀ (es : List DictEntry), Pairs (strKind c.prog c.w) es kvs → ∃ as bs, ReadsAll h (es.map (·.key)) ((D.toPyKv ds).map (·.1)) as ∧ ReadsAll h (es.map (·.val)) ((D.toPyKv ds).map (·.2)) bs
  | [], kvs, _, x, es, p => by
    unfold IsKv at x; subst x
    cases es with
    | nil => exact ⟨_, _, by unfold D.toPyKv; exact .nil, by unfold D.toPyKv; exact .nil⟩
    | cons e es => exact absurd p.length (by simp)
  | (k, d) :: ds, kvs, q, x, es, p => by
    unfold IsKv at x
    obtain ⟨v, r, rfl, a, b⟩ := x
    have q' : d.solid = true ∧ D.solidKv ds = true := by simpa [D.solidKv] using q
    cases es with
    | nil => exact absurd p.length (by simp)
    | cons e es =>
      cases p with
      | cons h1 h2 h3 =>
        obtain ⟨t, ht⟩ := Value.isStrOf_shape h1
        obtain ⟨as, y⟩ := Is.reads d v q'.1 a
        obtain ⟨bs, cs, z1, z2⟩ := IsKv.reads ds r q'.2 b es h3
        have q1 : Reads h e.key (.str k) [] := by rw [ht]; exact .str k t
        have q2 : Reads h e.val d.toPy as := by rw [h2]; exact y
        exact ⟨_, _, by unfold D.toPyKv; exact .cons q1 z1, by unfold D.toPyKv; exact .cons q2 z2⟩
end
end

section
variable {c : Cx} {O : Addr → Prop} {k : Nat} {env : Env} {ρ : List (Str × D)} {A : Around} {s : Shared}
/-- a comparison's two sides -/
noncomputable def CmO (c : Cx) (O : Addr → Prop) (k : Nat) (op : CmpOp) (a b : D) (r : Bool) : Prop :=
  ∀ A s va vb, Room k A → St c s → Is c O s.heap a va → Is c O s.heap b vb → wpAny (model c.prog c.w) A (compareOp op va vb) (fun v s' => St c s' ∧ Grow s.heap s'.heap ∧ v = .bool r) F0 s
theorem cm_eq {a b : D} (ha : a.ok 8 = true) (hb : b.ok 8 = true) : CmO c O k .Eq a b (D.eqv a b) := fun A s va vb R S x y => by
  obtain ⟨as, rx⟩ := Is.reads _ _ (solid_ok _ _ ha) x
  obtain ⟨bs, ry⟩ := Is.reads _ _ (solid_ok _ _ hb) y
  have p := toPy_ok 8 a ha
  have q := toPy_ok 8 b hb
  exact SeqAt.compareEq_reads rx ry p.1 q.1 (by have := R.2.2; unfold cLine; omega) ⟨S, Grow.refl _, rfl⟩
theorem cm_ne {a b : D} (ha : a.ok 8 = true) (hb : b.ok 8 = true) : CmO c O k .NotEq a b (!D.eqv a b) := fun A s va vb R S x y => by
  obtain ⟨as, rx⟩ := Is.reads _ _ (solid_ok _ _ ha) x
  obtain ⟨bs, ry⟩ := Is.reads _ _ (solid_ok _ _ hb) y
  have p := toPy_ok 8 a ha
  have q := toPy_ok 8 b hb
  exact SeqAt.compareNe_reads rx ry p.1 q.1 (by have := R.2.2; unfold cLine; omega) ⟨S, Grow.refl _, rfl⟩
theorem toPys_any (f : PyData → Bool) : ∀ l : List D, (D.toPys l).any f = l.any fun d => f d.toPy
  | [] => by simp [D.toPys]
  | d :: r => by simp [D.toPys, toPys_any f r]
theorem cm_in {a : D} {l : List D} (ha : a.ok 8 = true) (hb : l.all (D.ok 8) = true) : CmO c O k .In a (.list l) (l.any fun d => D.eqv d a) := fun A s va vb R S x y => by
  obtain ⟨as, rx⟩ := Is.reads _ _ (solid_ok _ _ ha) x
  obtain ⟨bs, ry⟩ := Is.reads _ _ (solid_ok 9 (.list l) (by unfold D.ok; exact hb)) y
  have p := toPy_ok 8 a ha
  have q := toPys_ok 8 (toPy_ok 8) l hb
  unfold D.toPy at ry
  refine SeqAt.in_list_reads ry rx q.1 p.1 (by have := R.2.2; unfold cLine; omega) ⟨S, Grow.refl _, ?_⟩
  rw [toPys_any]; rfl
theorem cm_notIn {a : D} {l : List D} (ha : a.ok 8 = true) (hb : l.all (D.ok 8) = true) : CmO c O k .NotIn a (.list l) (!l.any fun d => D.eqv d a) := fun A s va vb R S x y => by
  obtain ⟨as, rx⟩ := Is.reads _ _ (solid_ok _ _ ha) x
  obtain ⟨bs, ry⟩ := Is.reads _ _ (solid_ok 9 (.list l) (by unfold D.ok; exact hb)) y
  have p := toPy_ok 8 a ha
  have q := toPys_ok 8 (toPy_ok 8) l hb
  unfold D.toPy at ry
  refine SeqAt.notIn_list_reads ry rx q.1 p.1 (by have := R.2.2; unfold cLine; omega) ⟨S, Grow.refl _, ?_⟩
  rw [toPys_any]; rfl
theorem cm_lt {a b : Int} : CmO c O k .Lt (.int a) (.int b) (decide (a < b)) := fun A s va vb R S x y => by
  unfold Is at x y; obtain ⟨_, rfl⟩ := x; obtain ⟨_, rfl⟩ := y
  exact wpAny_lt_int ⟨S, Grow.refl _, rfl⟩
theorem cm_gt {a b : Int} : CmO c O k .Gt (.int a) (.int b) (decide (b < a)) := fun A s va vb R S x y => by
  unfold Is at x y; obtain ⟨_, rfl⟩ := x; obtain ⟨_, rfl⟩ := y
  exact gt_int ⟨S, Grow.refl _, rfl⟩
theorem cm_inDict {x : Str} {ds : List (Str × D)} : CmO c O k .In (.str x) (.dict ds) (dget ds x).isSome := fun A s va vb R S y z => by
  unfold Is at y z
  obtain ⟨t, rfl⟩ := y
  obtain ⟨a, kvs, ep, rfl, na, ho, r⟩ := z
  exact wpAny_in_of (isStr_key _ t) (not_modules na.1) ho.dictOf.mapOf ⟨S.tok _, Grow.refl _, by rw [r.isSome]⟩

noncomputable def TrO (c : Cx) (O : Addr → Prop) (k : Nat) (env : Env) (ρ : List (Str × D)) (e : Expr) (b : Bool) : Prop :=
  ∀ A s, Room k A → St c s → EnvOk c O env ρ s.heap → wpAny (model c.prog c.w) A (isTrue e env (eval e env)) (fun r s' => St c s' ∧ Grow s.heap s'.heap ∧ r = b) F0 s
theorem TrO.use {e : Expr} {b : Bool} {Q : Bool → Shared → Prop} {E : Value → Shared → Prop} (X : TrO c O k env ρ e b) (R : Room k A) (S : St c s) (V : EnvOk c O env ρ s.heap)
    (h : ∀ s', St c s' → Grow s.heap s'.heap → Q b s') : wpAny (model c.prog c.w) A (isTrue e env (eval e env)) Q E s :=
  wpAny_mono (X A s R S V) (fun v s' r => r.2.2 ▸ h s' r.1 r.2.1) (fun _ _ f => f.elim)
theorem tr_cmp {l r : Expr} {op : CmpOp} {pos : Pos} {a b : D} {q : Bool} (X : EvO c O k env ρ l a) (Y : EvO c O k env ρ r b) (h : CmO c O k op a b q) (hm : behindInMarks op r = false := by with_unfolding_all rfl) : TrO c O k env ρ (.Compare l [op] [r] pos) q := fun A s R S V =>
  wpAny_isTrue_Compare1 (X.use R S V fun x s₁ S₁ g₁ i => Y.use R S₁ (V.grow g₁) fun y s₂ S₂ g₂ j => wpAny_mono (h A s₂ x y R S₂ (i.grow g₂) j) (fun v s₃ z => by
    obtain ⟨S₃, g₃, rfl⟩ := z
    exact wpAny_truthy_bool ⟨S₃, (g₁.trans g₂).trans g₃, rfl⟩) fun _ _ f => f) hm
theorem ev_cmp {l r : Expr} {op : CmpOp} {pos : Pos} {a b : D} {q : Bool} (X : EvO c O k env ρ l a) (Y : EvO c O k env ρ r b) (h : CmO c O k op a b q) (hm : behindInMarks op r = false := by with_unfolding_all rfl) : EvO c O k env ρ (.Compare l [op] [r] pos) (.bool q) := fun A s R S V =>
  wpAny_Compare1 (X.use R S V fun x s₁ S₁ g₁ i => Y.use R S₁ (V.grow g₁) fun y s₂ S₂ g₂ j => wpAny_mono (h A s₂ x y R S₂ (i.grow g₂) j) (fun v s₃ z => by
    obtain ⟨S₃, g₃, rfl⟩ := z
    exact ⟨S₃, (g₁.trans g₂).trans g₃, by unfold Is; rfl⟩) fun _ _ f => f) hm
theorem tr_not {e : Expr} {pos : Pos} {b : Bool} (X : TrO c O k env ρ e b) : TrO c O k env ρ (.UnaryOp .Not e pos) (!b) := fun A s R S V => by
  rw [arm_isTrue_UnaryOp]
  exact wpAny_bind (X.use R S V fun s' S' g => wpAny_pure ⟨S', g, rfl⟩)
/-- or: the right side is asked only where the left is false -/
theorem tr_or {e f : Expr} {pos : Pos} {a b : Bool} (X : TrO c O k env ρ e a) (Y : a = false → TrO c O k env ρ f b) : TrO c O k env ρ (.BoolOp .Or [e, f] pos) (a || b) := fun A s R S V => by
  rw [arm_isTrue_BoolOp, arm_allTrue_cons]
  refine wpAny_bind (X.use R S V fun s' S' g => ?_)
  cases a with
  | true => exact wpAny_pure ⟨S', g, rfl⟩
  | false =>
    show wpAny _ A (allTrue .Or [f] env) _ _ s'
    rw [arm_allTrue_cons]
    refine wpAny_bind ((Y rfl).use R S' (V.grow g) fun s'' S'' g' => ?_)
    cases b with
    | true => exact wpAny_pure ⟨S'', g.trans g', rfl⟩
    | false => exact wpAny_pure ⟨S'', g.trans g', rfl⟩
theorem tr_and {e f : Expr} {pos : Pos} {a b : Bool} (X : TrO c O k env ρ e a) (Y : a = true → TrO c O k env ρ f b) : TrO c O k env ρ (.BoolOp .And [e, f] pos) (a && b) := fun A s R S V => by
  rw [arm_isTrue_BoolOp, arm_allTrue_cons]
  refine wpAny_bind (X.use R S V fun s' S' g => ?_)
  cases a with
  | false => exact wpAny_pure ⟨S', g, rfl⟩
  | true =>
    show wpAny _ A (allTrue .And [f] env) _ _ s'
    rw [arm_allTrue_cons]
    refine wpAny_bind ((Y rfl).use R S' (V.grow g) fun s'' S'' g' => ?_)
    cases b with
    | true => exact wpAny_pure ⟨S'', g.trans g', rfl⟩
    | false => exact wpAny_pure ⟨S'', g.trans g', rfl⟩
theorem ev_ife {t a b : Expr} {pos : Pos} {q : Bool} {d : D} (T : TrO c O k env ρ t q) (X : q = true → EvO c O k env ρ a d) (Y : q = false → EvO c O k env ρ b d) : EvO c O k env ρ (.IfExp t a b pos) d := fun A s R S V => by
  rw [arm_eval_IfExp]
  refine wpAny_bind (T.use R S V fun s' S' g => ?_)
  cases q with
  | true => exact (X rfl).use R S' (V.grow g) fun v s'' S'' g' i => ⟨S'', g.trans g', i⟩
  | false => exact (Y rfl).use R S' (V.grow g) fun v s'' S'' g' i => ⟨S'', g.trans g', i⟩
end
end Mine
end
section
open PySem PySem.W PyProof.Rows
set_option maxRecDepth 100000
set_option linter.unusedVariables false
namespace Mine

noncomputable def Chg (P : Addr → Prop) (h h' : Heap) : Prop := h.objs.size ≤ h'.objs.size ∧ ∀ b o, ¬ P b → ¬ Frail o → h.get? b = some o → h'.get? b = some o
theorem Chg.refl (P : Addr → Prop) (h : Heap) : Chg P h h := ⟨Nat.le_refl _, fun _ _ _ _ e => e⟩
theorem Chg.trans {P : Addr → Prop} {h₁ h₂ h₃ : Heap} (x : Chg P h₁ h₂) (y : Chg P h₂ h₃) : Chg P h₁ h₃ := ⟨Nat.le_trans x.1 y.1, fun b o n f e => y.2 b o n f (x.2 b o n f e)⟩
theorem Grow.chg {P : Addr → Prop} {h h' : Heap} (g : Grow h h') : Chg P h h' := ⟨g.1, fun b o _ f e => g.2 b o f e⟩
theorem Chg.sub {P P' : Addr → Prop} {h h' : Heap} (x : Chg P h h') (hP : ∀ a, P a → P' a) : Chg P' h h' := ⟨x.1, fun b o n f e => x.2 b o (fun q => n (hP b q)) f e⟩
theorem Chg.grow {P : Addr → Prop} {h h' : Heap} (x : Chg P h h') (hP : ∀ a, P a → h.objs.size ≤ a) : Grow h h' := ⟨x.1, fun b o f e => x.2 b o (fun q => Nat.lt_irrefl _ (Nat.lt_of_lt_of_le (Heap.lt_size e) (hP b q))) f e⟩
theorem SameBut.chg {a : Addr} {h h' : Heap} {P : Addr → Prop} (x : Heap.SameBut a h h') (ha : P a) : Chg P h h' := ⟨Nat.le_of_eq x.1.symm, fun b o n f e => (x.2 b (fun q => n (q ▸ ha))).trans e⟩
section
variable {c : Cx} {O : Addr → Prop} {h h' : Heap}
theorem Is.chg {d : D} {v : Value} (x : Is c O h d v) (g : Chg O h h') : Is c O h' d v := Is.mono (fun _ q => q) (fun b o n f e => g.2 b o n f e) d v x
theorem IsAll.chg {d : List D} {v : List Value} (x : IsAll c O h d v) (g : Chg O h h') : IsAll c O h' d v := IsAll.mono (fun _ q => q) (fun b o n f e => g.2 b o n f e) d v x
theorem IsKv.chg {d : List (Str × D)} {v : List (Str × Value)} (x : IsKv c O h d v) (g : Chg O h h') : IsKv c O h' d v := IsKv.mono (fun _ q => q) (fun b o n f e => g.2 b o n f e) d v x
theorem IsAll.sub {O' : Addr → Prop} {d : List D} {v : List Value} (x : IsAll c O h d v) (hO : ∀ a, O' a → O a) : IsAll c O' h d v := IsAll.mono hO (fun b o _ f e => e) d v x
theorem IsKv.sub {O' : Addr → Prop} {d : List (Str × D)} {v : List (Str × Value)} (x : IsKv c O h d v) (hO : ∀ a, O' a → O a) : IsKv c O' h d v := IsKv.mono hO (fun b o _ f e => e) d v x
/-- what is read lies within the heap: nothing new is in it -/
noncomputable def Up (O : Addr → Prop) (N : Nat) : Addr → Prop := fun a => O a ∨ N ≤ a
mutual
theorem Is.up {N : Nat} (hN : h.objs.size ≤ N) : ∀ (d : D) (v : Value), Is c O h d v → Is c (Up O N) h d v
  | .none, v, x => by unfold Is at *; exact x
  | .bool b, v, x => by unfold Is at *; exact x
  | .int b, v, x => by unfold Is at *; exact x
  | .str b, v, x => by unfold Is at *; exact x
  | .list ds, v, x => by
    unfold Is at *
    obtain ⟨a, vs, n, e, na, ho, r⟩ := x
    exact ⟨a, vs, n, e, fun q => q.elim na fun q => Nat.lt_irrefl _ (Nat.lt_of_lt_of_le (Heap.lt_size ho) (Nat.le_trans hN q)), ho, IsAll.up hN ds _ r⟩
  | .tuple ds, v, x => by
    unfold Is at *
    obtain ⟨a, vs, n, e, na, ho, r⟩ := x
    exact ⟨a, vs, n, e, fun q => q.elim na fun q => Nat.lt_irrefl _ (Nat.lt_of_lt_of_le (Heap.lt_size ho) (Nat.le_trans hN q)), ho, IsAll.up hN ds _ r⟩
  | .dict ds, v, x => by
    unfold Is at *
    obtain ⟨a, kvs, ep, e, na, ho, r⟩ := x
    exact ⟨a, kvs, ep, e, ⟨na.1, fun q => q.elim na.2 fun q => Nat.lt_irrefl _ (Nat.lt_of_lt_of_le ho.lt_size (Nat.le_trans hN q))⟩, ho, IsKv.up hN ds _ r⟩
  | .ndict ds, v, x => by
    unfold Is at *
    obtain ⟨a, kvs, ep, e, na, ho, r⟩ := x
    exact ⟨a, kvs, ep, e, ⟨na.1, fun q => q.elim na.2 fun q => Nat.lt_irrefl _ (Nat.lt_of_lt_of_le ho.lt_size (Nat.le_trans hN q))⟩, ho, IsKv.up hN ds _ r⟩
  | .any P, v, x => by unfold Is at *; exact x
  | .pile ds, v, x => by
    unfold Is at *
    obtain ⟨a, d, o, vs, n, e, na, ho, ⟨h1, h2, h3⟩, r⟩ := x
    exact ⟨a, d, o, vs, n, e, fun q => q.elim na fun q => Nat.lt_irrefl _ (Nat.lt_of_lt_of_le (Heap.lt_size ho) (Nat.le_trans hN q)), ho, ⟨h1, fun q => q.elim h2 fun q => Nat.lt_irrefl _ (Nat.lt_of_lt_of_le (Heap.lt_size h1) (Nat.le_trans hN q)), h3⟩, IsAll.up hN ds _ r⟩
theorem IsAll.up {N : Nat} (hN : h.objs.size ≤ N) : ∀ (ds : List D) (vs : List Value), IsAll c O h ds vs → IsAll c (Up O N) h ds vs
  | [], vs, x => by unfold IsAll at *; exact x
  | d :: ds, vs, x => by
    unfold IsAll at *
    obtain ⟨v, r, e, a, b⟩ := x
    exact ⟨v, r, e, Is.up hN d v a, IsAll.up hN ds r b⟩
theorem IsKv.up {N : Nat} (hN : h.objs.size ≤ N) : ∀ (ds : List (Str × D)) (vs : List (Str × Value)), IsKv c O h ds vs → IsKv c (Up O N) h ds vs
  | [], vs, x => by unfold IsKv at *; exact x
  | (k, d) :: ds, vs, x => by
    unfold IsKv at *
    obtain ⟨v, r, e, a, b⟩ := x
    exact ⟨v, r, e, Is.up hN d v a, IsKv.up hN ds r b⟩
end
end

theorem St.frame {c : Cx} {s s' : Shared} {env : Env} {a : Addr} (S : St c s) (E : EnvS c env) (ha : FrameAddr env a) (hs : Heap.SameBut a s.heap s'.heap) (hg : s'.gens = s.gens) (ho : s'.os = s.os) : St c s' := by
  refine S.same ?_ hs hg ho
  rcases ha with rfl | ⟨n, h⟩
  · exact E.low
  · exact (E.above n a h).2

noncomputable def TA (env : Env) (xs : List Str) (a : Addr) : Prop := a = env.locals ∨ ∃ x ∈ xs, env.cells.lookup x = some a
theorem TA.frame {env : Env} {xs : List Str} {a : Addr} (h : TA env xs a) : FrameAddr env a := h.imp id fun ⟨x, _, e⟩ => ⟨x, mem_of_lookup e⟩
/-- to bind a target -/
noncomputable def AsO (c : Cx) (env : Env) (tgt : Expr) (xs : List Str) (d : D) (σ : List (Str × D)) : Prop :=
  ∀ (O : Addr → Prop) A s lv v (Q : Unit → Shared → Prop) (E : Value → Shared → Prop), A.handled = none → St c s → EnvS c env → (∀ b, FrameAddr env b → O b) → Own O s.heap → Frm env lv s.heap → Is c O s.heap d v →
    (∀ s' lv', St c s' → Chg (TA env xs) s.heap s'.heap → Frm env lv' s'.heap → (∀ x, σ.lookup x = none → lv' x = lv x) → (∀ x e, σ.lookup x = some e → ∃ u, lv' x = some u ∧ Is c O s'.heap e u) → Q () s') →
    wpAny (model c.prog c.w) A (assign tgt env v) Q E s

theorem lookup_one {α : Type} {x y : Str} {d : α} : ([(x, d)] : List (Str × α)).lookup y = if y = x then some d else none := by
  rw [List.lookup_cons]
  by_cases h : y = x
  · simp [h]
  · have : (y == x) = false := by simpa using h
    simp [this, h]
theorem as_name {c : Cx} {env : Env} {x : Str} {p : Pos} {d : D} (hx : Has env x = true) (hf : env.kindOf x ≠ some .free) : AsO c env (.Name x p) [x] d [(x, d)] := fun O A s lv v Q E hh S ES fr ow F i k =>
  wpAny_assign_Name (store_has ES F hx hf fun h' tk a ha hs F' => k _ _ (S.frame ES (ha.imp id fun e => ⟨x, mem_of_lookup e⟩) hs rfl rfl) (SameBut.chg hs (ha.imp id fun e => ⟨x, List.mem_cons_self, e⟩)) F' (fun y hy => by
      rw [lookup_one] at hy
      by_cases e : y = x
      · simp [e] at hy
      · simp [e]) fun y e hy => by
      rw [lookup_one] at hy
      by_cases q : y = x
      · simp [q] at hy; subst hy; exact ⟨v, by simp [q], i.chg (SameBut.chg hs (fr a (ha.imp id fun e => ⟨x, mem_of_lookup e⟩)))⟩
      · simp [q] at hy)

inductive NamesOf : List Expr → List Str → Prop
  | nil : NamesOf [] []
  | cons {x : Str} {p : Pos} {es : List Expr} {xs : List Str} : NamesOf es xs → NamesOf (.Name x p :: es) (x :: xs)
theorem NamesOf.plain {es : List Expr} {xs : List Str} (h : NamesOf es xs) (env : Env) : (assignEach es env).length = xs.length ∧ (assignEach es env).findIdx? (·.1) = none := by
  induction h with
  | nil => exact ⟨rfl, rfl⟩
  | cons h ih =>
    rename_i x p es xs
    have e : assignEach (.Name x p :: es) env = (false, assign (.Name x p) env) :: assignEach es env := by rfl
    rw [e]
    refine ⟨by simp [ih.1], ?_⟩
    rw [List.findIdx?_cons, ih.2]; rfl
theorem zip_lookup_none {xs : List Str} {ds : List D} {x : Str} (h : x ∉ xs) : (xs.zip ds).lookup x = none := by
  induction xs generalizing ds with
  | nil => rfl
  | cons y ys ih =>
    cases ds with
    | nil => rfl
    | cons d ds =>
      rw [List.zip_cons_cons, List.lookup_cons]
      have : (x == y) = false := by simpa using fun e : x = y => h (by simp [e])
      rw [this]
      exact ih (fun q => h (List.mem_cons_of_mem _ q))
theorem as_order {c : Cx} {env : Env} {O : Addr → Prop} : ∀ {es : List Expr} {xs : List Str} (_ : NamesOf es xs) (ds : List D) (hl : xs.length = ds.length) (hx : ∀ x ∈ xs, Has env x = true ∧ env.kindOf x ≠ some .free) (hn : xs.Nodup) (A : Around) (s : Shared) (lv) (vs : List Value) (Q : Unit → Shared → Prop) (E : Value → Shared → Prop),
    A.handled = none → St c s → EnvS c env → (∀ b, FrameAddr env b → O b) → Own O s.heap → Frm env lv s.heap → IsAll c O s.heap ds vs →
    (∀ s' lv', St c s' → Chg (TA env xs) s.heap s'.heap → Frm env lv' s'.heap → (∀ x, (xs.zip ds).lookup x = none → lv' x = lv x) → (∀ x e, (xs.zip ds).lookup x = some e → ∃ u, lv' x = some u ∧ Is c O s'.heap e u) → Q () s') →
    wpAny (model c.prog c.w) A (assignInOrder ((assignEach es env).map (·.2)) vs) Q E s := by
  intro es xs hN
  induction hN with
  | nil =>
    intro ds hl hx hn A s lv vs Q E hh S ES fr ow F i k
    cases ds with
    | nil => unfold IsAll at i; subst i; exact wpAny_pure (k s lv S (Chg.refl _ _) F (fun _ _ => rfl) fun _ _ e => by cases e)
    | cons d ds => cases hl
  | cons h ih =>
    rename_i x p es xs
    intro ds hl hx hn A s lv vs Q E hh S ES fr ow F i k
    cases ds with
    | nil => cases hl
    | cons d ds =>
      unfold IsAll at i
      obtain ⟨v, r, rfl, i1, i2⟩ := i
      have e : (assignEach (.Name x p :: es) env).map (·.2) = assign (.Name x p) env :: (assignEach es env).map (·.2) := by rfl
      rw [e]
      show wpAny _ A (holding r (assign (.Name x p) env v) >>= fun _ => assignInOrder _ r) Q E s
      obtain ⟨hx1, hx2⟩ := hx x List.mem_cons_self
      rw [List.nodup_cons] at hn
      refine wpAny_bind (wpAny_holding (as_name hx1 hx2 O A s lv v _ _ hh S ES fr ow F i1 fun s' lv' S' g' F' e1 e2 => ?_))
      refine ih ds (by simpa using hl) (fun y hy => hx y (List.mem_cons_of_mem _ hy)) hn.2 A s' lv' r Q E hh S' ES fr (fun a ha => Nat.lt_of_lt_of_le (ow a ha) g'.1) F' (i2.chg (g'.sub fun a q => fr a q.frame)) fun s'' lv'' S'' g'' F'' e3 e4 => ?_
      refine k s'' lv'' S'' ((g'.sub fun a q => q.imp id fun ⟨z, hz, e⟩ => ⟨z, by rw [List.mem_singleton.mp hz]; exact List.mem_cons_self, e⟩).trans (g''.sub fun a q => q.imp id fun ⟨z, hz, e⟩ => ⟨z, List.mem_cons_of_mem _ hz, e⟩)) F'' (fun y hy => ?_) fun y e hy => ?_
      · rw [List.zip_cons_cons, List.lookup_cons] at hy
        by_cases q : y = x
        · simp [q] at hy
        · have q' : (y == x) = false := by simpa using q
          rw [q'] at hy
          exact (e3 y hy).trans (e1 y (by rw [lookup_one]; simp [q]))
      · rw [List.zip_cons_cons, List.lookup_cons] at hy
        by_cases q : y = x
        · subst q
          simp at hy; subst hy
          obtain ⟨u, a1, a2⟩ := e2 y d (by rw [lookup_one]; simp)
          exact ⟨u, (e3 y (zip_lookup_none hn.1)).trans a1, a2.chg (g''.sub fun a q => fr a q.frame)⟩
        · have q' : (y == x) = false := by simpa using q
          rw [q'] at hy
          exact e4 y e hy
theorem as_tuple {c : Cx} {env : Env} {es : List Expr} {xs : List Str} {n : Nat} {p : Pos} {ds : List D} (hN : NamesOf es xs) (hl : xs.length = ds.length) (hx : ∀ x ∈ xs, Has env x = true ∧ env.kindOf x ≠ some .free) (hn : xs.Nodup) :
    AsO c env (.Tuple es n p) xs (.tuple ds) (xs.zip ds) := fun O A s lv v Q E hh S ES fr ow F i k => by
  unfold Is at i
  obtain ⟨a, vs, m, rfl, na, ho, r⟩ := i
  have hp := hN.plain env
  have hl' : vs.size = ds.length := by rw [← r.length]; simp
  have key : ∀ E, wpAny (model c.prog c.w) A (unpackItems (.ref a) (assignEach es env).length ((assignEach es env).findIdx? (·.1))) (fun its s' => its = vs.toList ∧ ∃ h', s' = { s with heap := h' } ∧ Heap.ExtBut s.heap.objs.size s.heap h') E s := by
    intro E
    rw [hp.1, hp.2, hl, ← hl']
    exact wpAny_unpackItems_tuple hh ⟨_, ho, rfl, m, rfl⟩ fun h' hx => ⟨rfl, h', rfl, hx⟩
  rw [arm_assign_Tuple]
  refine wpAny_bind (wpAny_standAt ?_)
  unfold unpack
  refine wpAny_bind (wpAny_holding (wpAny_mono (wpAny_size (key E)) (fun its s' x => ?_) fun _ _ f => f.1))
  obtain ⟨⟨e9, h', e8, hx'⟩, hsz⟩ := x
  subst e9 e8
  have g : Grow s.heap h' := ⟨hsz, fun b o f e => hx' b o (Nat.ne_of_lt (Heap.lt_size e)) e⟩
  have S' : St c { s with heap := h' } := S.keeps (fun b o e => hx' b o (Nat.ne_of_lt (Heap.lt_size e)) e) hsz rfl rfl
  exact as_order hN ds hl hx hn A _ lv vs.toList Q E hh S' ES fr (ow.grow g) (F.grow g) (r.grow g) fun s' lv' S'' g' F' e1 e2 => k s' lv' S'' (g.chg.trans g') F' e1 e2
end Mine
end
section
open PySem PySem.W PyProof.Rows
set_option maxRecDepth 100000
set_option linter.unusedVariables false
namespace Mine

structure Wk (c : Cx) (O : Addr → Prop) (tgt : Expr) (N : Nat) (W : Addr) (items : List D) (J : Nat → Heap → Prop) : Prop where
  new : N ≤ W
  live : ∀ i h, J i h → W < h.objs.size
  frame : ∀ i h h', J i h → (∀ b o, (¬ O b ∧ b < N) ∨ b = W → ¬ Frail o → h.get? b = some o → h'.get? b = some o) → J i h'
  item : ∀ (A : Around) (i : Nat) (d : D) (s : Shared) (O' : Addr → Prop) (Q : Value → Shared → Prop) (E : Value → Shared → Prop), A.handled = none → items[i]? = some d → J i s.heap → (∀ a, O' a → O a ∨ N ≤ a) → Own O' s.heap →
    (∀ v h' tk, Is c O' h' d v → J (i + 1) h' → Heap.ExtBut W s.heap h' → s.heap.objs.size ≤ h'.objs.size → Q v { s with heap := h', toks := tk }) →
    wpAny (model c.prog c.w) A (pyNext (.ref W)) (fun r s₁ => match r with | none => False | some v => wpAny (model c.prog c.w) A (letOwnedTupleGo tgt (.ref W) v) (fun _ s₂ => Q v s₂) E s₁) E s
  done : ∀ (A : Around) (s : Shared) (Q : Shared → Prop) (E : Value → Shared → Prop), A.handled = none → J items.length s.heap → (∀ h' tk, Heap.ExtBut W s.heap h' → s.heap.objs.size ≤ h'.objs.size → Q { s with heap := h', toks := tk }) →
    wpAny (model c.prog c.w) A (pyNext (.ref W)) (fun r s₁ => r = none ∧ Q s₁) E s
  self : ∀ (A : Around) (i : Nat) (s : Shared) (Q : Value → Shared → Prop) (E : Value → Shared → Prop), J i s.heap → Q (.ref W) s → wpAny (model c.prog c.w) A (pyIter (.ref W)) Q E s

theorem letOwned_other {M : Model} {A : Around} {E : Value → Shared → Prop} {s : Shared} {Q : Unit → Shared → Prop} {tgt : Expr} {W : Addr} {v : Value} {T : String} {o : Obj} (ho : s.heap.get? W = some o) (hc : o.cls = .type T)
    (hT : (["enumerate", "zip", "dict_itemiterator", "dict_reverseitemiterator", "odict_iterator", "itertools.zip_longest", "itertools.pairwise"] : List String).contains T = false) (h : Q () s) :
    wpAny M A (letOwnedTupleGo tgt (.ref W) v) Q E s := by
  have key : wpAny M A (do
    let (.ref r, .ref a) := (Value.ref W, v) | return
    let o ← load r
    match o.cls, o.data with
    | .type n, .fields vs =>
      if ["enumerate", "zip", "dict_itemiterator", "dict_reverseitemiterator", "odict_iterator", "itertools.zip_longest", "itertools.pairwise"].contains n && vs[0]? == some (rawInt a) then
        rule "for.unpacks-the-owned-tuple"
        updateField r 0 .none
    | _, _ => pure ()) Q E s := by
    cases v <;> first
      | exact wpAny_pure h
      | (refine wpAny_bind (wpAny_load ho ?_)
         rw [hc]
         cases o.data <;> first
           | exact wpAny_pure h
           | (dsimp only; rw [hT]; exact wpAny_pure h))
  cases tgt <;> first
    | exact key
    | exact wpAny_pure h

noncomputable def ItO (c : Cx) (O : Addr → Prop) (k : Nat) (env : Env) (ρ : List (Str × D)) (e tgt : Expr) (items : List D) : Prop :=
  ∀ A s, Room k A → St c s → EnvOk c O env ρ s.heap → wpAny (model c.prog c.w) A (eval e env) (fun x s₁ => wpAny (model c.prog c.w) A (pyIter x) (fun it s₂ => St c s₂ ∧ Grow s.heap s₂.heap ∧ ∃ N W J, it = .ref W ∧ s.heap.objs.size ≤ N ∧ J 0 s₂.heap ∧ Wk c O tgt N W items J) F0 s₁) F0 s

section
variable {c : Cx} {O : Addr → Prop} {k : Nat} {env : Env} {ρ : List (Str × D)} {A : Around} {s : Shared}
theorem notO_of {O : Addr → Prop} {N : Nat} {b : Addr} (h : ¬ Up O N b) : ¬ O b ∧ b < N := ⟨fun q => h (.inl q), Nat.lt_of_not_le fun q => h (.inr q)⟩

theorem wk_list {tgt : Expr} {N : Nat} {l W : Addr} {vs : Array Value} {n : Nat} {items : List D} (hW : N ≤ W) (hl : l < N) (hO : ¬ O l) :
    Wk c O tgt N W items (fun i h => h.IsListIter W l i ∧ h.get? l = some { cls := .type "list", data := .seq vs n } ∧ IsAll c (Up O N) h items vs.toList) where
  new := hW
  live := fun i h x => let ⟨o, ho, _⟩ := x.1; Heap.lt_size ho
  frame := fun i h h' x hk => by
    obtain ⟨⟨o, ho, hc, hd⟩, hl', r⟩ := x
    exact ⟨⟨o, hk W o (.inr rfl) (not_frail_cls (by rw [hc]; nofun)) ho, hc, hd⟩, hk l _ (.inl ⟨hO, hl⟩) (not_frail_cls nofun) hl', IsAll.mono (fun _ q => q) (fun b o nb f e => hk b o (.inl (notO_of nb)) f e) _ _ r⟩
  item := fun A i d s O' Q E hh hd x hO' ow hQ => by
    obtain ⟨hit, hl', r⟩ := x
    obtain ⟨v, hv, y⟩ := r.get hd
    refine wpAny_pyNext_list_item hit ⟨_, hl', rfl, n, rfl⟩ (by simpa using hv) fun h' hit' hs => ?_
    obtain ⟨o, ho, hc, hdt⟩ := hit'
    refine letOwned_other (T := "list_iterator") ho hc (by decide) ?_
    have hlW : l ≠ W := Nat.ne_of_lt (Nat.lt_of_lt_of_le hl hW)
    have kk : ∀ b o, ¬ Up O N b → ¬ Frail o → s.heap.get? b = some o → h'.get? b = some o := fun b o nb f e => (hs.2 b (Nat.ne_of_lt (Nat.lt_of_lt_of_le (notO_of nb).2 hW))).trans e
    exact hQ v h' _ (Is.mono (fun a q => hO' a q) kk _ _ y) ⟨⟨o, ho, hc, hdt⟩, (hs.2 l hlW).trans hl', IsAll.mono (fun _ q => q) kk _ _ r⟩ hs.extBut (Nat.le_of_eq hs.1.symm)
  done := fun A s Q E hh x hQ => by
    obtain ⟨hit, hl', r⟩ := x
    have hz : vs.toList[items.length]? = none := by rw [List.getElem?_eq_none_iff, r.length]; exact Nat.le_refl _
    have key : ∀ E, wpAny (model c.prog c.w) A (pyNext (.ref W)) (fun r s₁ => r = none ∧ ∃ h', s₁ = { s with heap := h' } ∧ Heap.ExtBut W s.heap h') E s := fun E =>
      wpAny_pyNext_list_end hh hit ⟨_, hl', rfl, n, rfl⟩ (by simpa using hz) fun h' hx => ⟨rfl, h', rfl, hx⟩
    refine wpAny_mono (wpAny_size (key E)) (fun r s₁ y => ?_) fun _ _ f => f.1
    obtain ⟨⟨e1, h', e2, hx⟩, hsz⟩ := y
    subst e1 e2
    exact ⟨rfl, hQ h' _ hx hsz⟩
  self := fun A i s Q E x hQ => wpAny_pyIter_listiter x.1 hQ

theorem it_list {e tgt : Expr} {ds : List D} (X : EvO c O k env ρ e (.list ds)) : ItO c O k env ρ e tgt ds := fun A s R S V =>
  X.use R S V fun v s₁ S₁ g₁ i => by
    have up := Is.up (Nat.le_refl _) _ _ i
    unfold Is at up
    obtain ⟨a, vs, n, rfl, na, ho, r⟩ := up
    refine wpAny_pyIter_list ⟨_, ho, rfl, n, rfl⟩ ?_
    have gp := Grow.push s₁.heap { cls := .type "list_iterator", data := .fields #[.ref a, .int 0 0] }
    refine ⟨S₁.push _ rfl rfl, g₁.trans gp, s₁.heap.objs.size, s₁.heap.objs.size, _, rfl, g₁.1, ?_, wk_list (vs := vs) (n := n) (Nat.le_refl _) (Heap.lt_size ho) (notO_of na).1⟩
    exact ⟨⟨_, Heap.get?_push_size _ rfl, rfl, rfl⟩, Heap.get?_push_of_some _ ho, r.grow gp⟩
end

/-! comprehensions: the inner frame -/
noncomputable def clOf (env : Env) : List (Str × NameKind) → List (Str × Addr) → List (Str × Addr)
  | [], acc => acc
  | (n, k) :: r, acc => if k == .free then clOf env r ((n, (env.cells.lookup n).getD 0) :: acc) else clOf env r acc
theorem closureFor_clOf (scope : Scope) (env : Env) (h : ∀ x ∈ scope.names, x.2 = .free → (env.cells.lookup x.1).isSome = true) : closureFor scope env = pure (clOf env scope.names []) := by
  have key : ∀ (l : List (Str × NameKind)) (acc : List (Str × Addr)), (∀ x ∈ l, x.2 = .free → (env.cells.lookup x.1).isSome = true) →
      (forIn l acc fun (x : Str × NameKind) (r : List (Str × Addr)) => (match x with
        | (name, kind) => if (kind == NameKind.free) = true then do let __do_lift ← cellOf env name; pure (ForInStep.yield ((name, __do_lift) :: r)) else pure (ForInStep.yield r) : Sem (ForInStep (List (Str × Addr))))) = pure (clOf env l acc) := by
    intro l
    induction l with
    | nil => intro acc _; rfl
    | cons x l ih =>
      intro acc hl
      obtain ⟨n, k⟩ := x
      rw [List.forIn_cons]
      unfold clOf
      by_cases hk : (k == NameKind.free) = true
      · rw [if_pos hk]
        obtain ⟨a, ha⟩ := Option.isSome_iff_exists.mp (hl (n, k) List.mem_cons_self (by simpa using hk))
        have e : cellOf env n = pure a := by unfold cellOf; rw [ha]
        simp only [hk, if_true, e, ha, Option.getD_some]
        exact ih _ fun x hx => hl x (List.mem_cons_of_mem _ hx)
      · rw [if_neg hk]
        simp only [hk, if_false]
        exact ih _ fun x hx => hl x (List.mem_cons_of_mem _ hx)
  have := key scope.names [] h
  unfold closureFor
  exact congrArg (fun t => t >>= fun r => pure r) this

noncomputable def compOk (scope : Scope) (env : Env) : Bool :=
  scope.kind == .function && scope.names.all (fun x => x.2 != .free || ((env.cells.lookup x.1).isSome && env.kindOf x.1 != some .local)) && decide ((scope.names.map (·.1)).Nodup)
noncomputable def compX (scope : Scope) (env : Env) (C : Addr) : Env :=
  { scope := relabel scope env, locals := C, globals := env.globals, cells := cellsFrom (C + 1) scope.names (clOf env scope.names []), qual := env.qual, func := none, code := env.code, frame := env.frame, builtins := env.builtins }

theorem clOf_mem {env : Env} : ∀ (l : List (Str × NameKind)) (acc : List (Str × Addr)) (p : Str × Addr), p ∈ clOf env l acc → p ∈ acc ∨ ((p.1, NameKind.free) ∈ l ∧ p.2 = (env.cells.lookup p.1).getD 0)
  | [], acc, p, h => .inl h
  | (n, k) :: r, acc, p, h => by
    unfold clOf at h
    split at h
    · rename_i hk
      rcases clOf_mem r _ p h with q | q
      · rcases List.mem_cons.mp q with e | q
        · subst e
          have : k = .free := by simpa using hk
          subst this
          exact .inr ⟨List.mem_cons_self, rfl⟩
        · exact .inl q
      · exact .inr ⟨List.mem_cons_of_mem _ q.1, q.2⟩
    · rcases clOf_mem r _ p h with q | q
      · exact .inl q
      · exact .inr ⟨List.mem_cons_of_mem _ q.1, q.2⟩
theorem cellsFrom_mem : ∀ (l : List (Str × NameKind)) (n : Nat) (acc : List (Str × Addr)) (p : Str × Addr), p ∈ cellsFrom n l acc → p ∈ acc ∨ ((p.1, NameKind.cell) ∈ l ∧ n ≤ p.2)
  | [], n, acc, p, h => .inl h
  | (x, k) :: r, n, acc, p, h => by
    unfold cellsFrom at h
    split at h
    · rename_i hk
      rcases cellsFrom_mem r _ _ p h with q | q
      · rcases List.mem_cons.mp q with e | q
        · subst e
          have : k = .cell := by simpa using hk
          subst this
          exact .inr ⟨List.mem_cons_self, Nat.le_refl _⟩
        · exact .inl q
      · exact .inr ⟨List.mem_cons_of_mem _ q.1, Nat.le_of_succ_le q.2⟩
    · rcases cellsFrom_mem r _ _ p h with q | q
      · exact .inl q
      · exact .inr ⟨List.mem_cons_of_mem _ q.1, q.2⟩
end Mine
end
section
open PySem PySem.W PyProof.Rows
set_option maxRecDepth 100000
set_option linter.unusedVariables false
namespace Mine

theorem clOf_pairs {env : Env} : ∀ (l : List (Str × NameKind)) (acc : List (Str × Addr)), (l.map (·.1)).Nodup → acc.Pairwise (fun x y => x.1 ≠ y.1) → (∀ p ∈ acc, ∀ q ∈ l, p.1 ≠ q.1) → (clOf env l acc).Pairwise (fun x y => x.1 ≠ y.1)
  | [], acc, _, h, _ => h
  | (n, k) :: r, acc, hn, h, hd => by
    rw [List.map_cons, List.nodup_cons] at hn
    unfold clOf
    split
    · refine clOf_pairs r _ hn.2 (List.pairwise_cons.mpr ⟨fun y hy e => hd y hy (n, k) List.mem_cons_self e.symm, h⟩) fun p hp q hq => ?_
      rcases List.mem_cons.mp hp with rfl | hp
      · exact fun e => hn.1 (List.mem_map.mpr ⟨q, hq, e.symm⟩)
      · exact hd p hp q (List.mem_cons_of_mem _ hq)
    · exact clOf_pairs r acc hn.2 h fun p hp q hq => hd p hp q (List.mem_cons_of_mem _ hq)
theorem cellsFrom_pairs : ∀ (l : List (Str × NameKind)) (n : Nat) (acc : List (Str × Addr)), acc.Pairwise (fun x y => x.2 ≠ y.2) → (∀ p ∈ acc, p.2 < n) → (cellsFrom n l acc).Pairwise (fun x y => x.2 ≠ y.2)
  | [], n, acc, h, _ => h
  | (x, k) :: r, n, acc, h, hl => by
    unfold cellsFrom
    split
    · refine cellsFrom_pairs r _ _ (List.pairwise_cons.mpr ⟨fun y hy e => Nat.lt_irrefl y.2 (by have q := hl y hy; have e' : n = y.2 := e; rw [e'] at q; exact q), h⟩) fun p hp => ?_
      rcases List.mem_cons.mp hp with rfl | hp
      · exact Nat.lt_succ_self _
      · exact Nat.lt_succ_of_lt (hl p hp)
    · exact cellsFrom_pairs r n acc h hl
theorem pushCells_cells : ∀ (l : List (Str × NameKind)) (h : Heap) (acc : List (Str × Addr)) (p : Str × Addr), p ∈ cellsFrom h.objs.size l acc → p ∈ acc ∨ (pushCells h l).IsCell p.2 none
  | [], h, acc, p, hp => .inl hp
  | (x, k) :: r, h, acc, p, hp => by
    unfold cellsFrom at hp
    unfold pushCells
    split at hp
    · rename_i hk
      rw [if_pos hk]
      rw [show h.objs.size + 1 = (h.push { cls := .type "cell", data := .cell none }).objs.size from (Heap.size_push ..).symm] at hp
      rcases pushCells_cells r _ _ p hp with q | q
      · rcases List.mem_cons.mp q with rfl | q
        · exact .inr ⟨_, pushCells_keeps _ _ _ _ (Heap.get?_push_size _ rfl), rfl⟩
        · exact .inl q
      · exact .inr q
    · rename_i hk
      rw [if_neg hk]
      exact pushCells_cells r h acc p hp
theorem pushCells_size : ∀ (l : List (Str × NameKind)) (h : Heap), h.objs.size ≤ (pushCells h l).objs.size
  | [], h => Nat.le_refl _
  | (x, k) :: r, h => by
    unfold pushCells
    split
    · exact Nat.le_trans (by simp) (pushCells_size r _)
    · exact pushCells_size r h
theorem lookup_nodup {α : Type} : ∀ {l : List (Str × α)} {n : Str} {k : α}, (l.map (·.1)).Nodup → (n, k) ∈ l → l.lookup n = some k
  | (x, y) :: r, n, k, hn, hm => by
    rw [List.map_cons, List.nodup_cons] at hn
    rw [List.lookup_cons]
    rcases List.mem_cons.mp hm with e | hm
    · cases e; simp
    · have : (n == x) = false := by simpa using fun e : n = x => hn.1 (List.mem_map.mpr ⟨(n, k), hm, e⟩)
      rw [this]; exact lookup_nodup hn.2 hm
theorem relabel_local {scope : Scope} {env : Env} {x : Str} (h : (relabel scope env).names.lookup x = some .local) : scope.names.lookup x = some .local := by
  unfold relabel at h
  dsimp only at h
  generalize scope.names = l at h ⊢
  induction l with
  | nil => cases h
  | cons p l ih =>
    obtain ⟨n, k⟩ := p
    rw [List.map_cons] at h
    rw [List.lookup_cons]
    split at h
    · rename_i hc
      rw [List.lookup_cons] at h
      cases hx : x == n with
      | true => rw [hx] at h; simp at h
      | false => rw [hx] at h; exact ih h
    · rename_i hc
      rw [List.lookup_cons] at h
      cases hx : x == n with
      | true => rw [hx] at h; exact h
      | false => rw [hx] at h; exact ih h

section
variable {c : Cx} {scope : Scope} {env : Env}
structure CompF (scope : Scope) (env : Env) : Prop where
  kind : scope.kind = .function
  free : ∀ x ∈ scope.names, x.2 = .free → (env.cells.lookup x.1).isSome = true ∧ env.kindOf x.1 ≠ some .local
  nodup : (scope.names.map (·.1)).Nodup
theorem compOk_facts (h : compOk scope env = true) : CompF scope env := by
  unfold compOk at h
  rw [Bool.and_eq_true, Bool.and_eq_true] at h
  obtain ⟨⟨h1, h2⟩, h3⟩ := h
  refine ⟨by simpa using h1, fun x hx hf => ?_, by simpa using h3⟩
  have := List.all_eq_true.mp h2 x hx
  rw [hf] at this
  simpa using this
theorem cl_in (F : CompF scope env) {p : Str × Addr} (hp : p ∈ clOf env scope.names []) : env.cells.lookup p.1 = some p.2 ∧ env.kindOf p.1 ≠ some .local ∧ (p.1, NameKind.free) ∈ scope.names := by
  rcases clOf_mem _ _ _ hp with q | ⟨q, e⟩
  · cases q
  · obtain ⟨a, b⟩ := F.free _ q rfl
    obtain ⟨y, hy⟩ := Option.isSome_iff_exists.mp a
    rw [hy] at e
    exact ⟨by rw [hy, e]; rfl, b, q⟩
theorem compX_S (F : CompF scope env) (S : EnvS c env) {C : Addr} (hC : ∀ n a, (n, a) ∈ env.cells → a < C) (hlow : c.hB.objs.size ≤ C) : EnvS c (compX scope env C) where
  kind := F.kind
  glob := S.glob
  bi := S.bi
  low := hlow
  apart := by
    refine cellsFrom_pairs _ _ _ ?_ fun p hp => Nat.lt_succ_of_lt (hC p.1 p.2 (mem_of_lookup (cl_in F hp).1))
    refine List.Pairwise.imp_of_mem (fun {x y} hx hy hxy e => hxy ?_) (clOf_pairs scope.names [] F.nodup List.Pairwise.nil (fun _ hp => nomatch hp))
    exact name_of_addr S.apart (mem_of_lookup (cl_in F hx).1) (e ▸ mem_of_lookup (cl_in F hy).1)
  above := fun n a h => by
    rcases cellsFrom_mem _ _ _ _ h with q | ⟨_, q⟩
    · have := cl_in F q
      have m := mem_of_lookup this.1
      exact ⟨Nat.ne_of_lt (hC n a m), (S.above n a m).2⟩
    · have q' : C < a := q
      exact ⟨Nat.ne_of_gt q', Nat.le_trans hlow (Nat.le_of_lt q')⟩
theorem compX_frame (F : CompF scope env) {C b : Addr} (h : FrameAddr (compX scope env C) b) : b = C ∨ C < b ∨ FrameAddr env b := by
  rcases h with rfl | ⟨n, h⟩
  · exact .inl rfl
  · rcases cellsFrom_mem _ _ _ _ h with q | ⟨_, q⟩
    · exact .inr (.inr (.inr ⟨n, mem_of_lookup (cl_in F q).1⟩))
    · exact .inr (.inl q)
noncomputable def lvIn (scope : Scope) (lv : Str → Option Value) : Str → Option Value := fun x => match scope.names.lookup x with
  | some .local => none
  | some .cell => none
  | _ => lv x
theorem compX_Frm (F : CompF scope env) {lv : Str → Option Value} {h : Heap} (Fr : Frm env lv h) : Frm (compX scope env h.objs.size) (lvIn scope lv) (pushCells (h.push { cls := .type "dict", data := .dict #[] }) scope.names) where
  ns := ⟨fun _ => none, (Heap.Ns.new h (.type "dict")).keeps (pushCells_keeps _ _), fun x hx => by
    have := relabel_local (scope := scope) (env := env) hx
    unfold lvIn; rw [this]⟩
  cell := fun x a hx ha => by
    have m := mem_of_lookup ha
    have e1 : (h.push { cls := .type "dict", data := .dict #[] }).objs.size = h.objs.size + 1 := Heap.size_push ..
    have m' : (x, a) ∈ cellsFrom (h.push { cls := .type "dict", data := .dict #[] }).objs.size scope.names (clOf env scope.names []) := by rw [e1]; exact m
    have keep : ∀ b o, h.get? b = some o → (pushCells (h.push { cls := .type "dict", data := .dict #[] }) scope.names).get? b = some o := fun b o e => pushCells_keeps _ _ _ _ (Heap.get?_push_of_some _ e)
    rcases cellsFrom_mem _ _ _ _ m with q | ⟨q, q2⟩
    · obtain ⟨c1, c2, c3⟩ := cl_in F q
      have := lookup_nodup F.nodup c3
      have e : lvIn scope lv x = lv x := by unfold lvIn; rw [this]
      rw [e]
      exact (Fr.cell x a c2 c1).keeps keep
    · have := lookup_nodup F.nodup q
      have e : lvIn scope lv x = none := by unfold lvIn; rw [this]
      rw [e]
      rcases pushCells_cells _ _ _ _ m' with z | z
      · obtain ⟨c1, c2, c3⟩ := cl_in F z
        have := lookup_nodup F.nodup c3
        rw [lookup_nodup F.nodup q] at this; cases this
      · exact z
end

theorem comp_newEnv {M : Model} {A : Around} {E : Value → Shared → Prop} {s : Shared} {scope : Scope} {env : Env} {cl : List (Str × Addr)} {Q : Env → Shared → Prop}
    (h : Q { scope := scope, locals := s.heap.objs.size, globals := env.globals, cells := cellsFrom (s.heap.objs.size + 1) scope.names cl, qual := env.qual, func := none, code := env.code, frame := env.frame, builtins := env.builtins }
      { s with heap := pushCells (s.heap.push { cls := .type "dict", data := .dict #[] }) scope.names }) :
    wpAny M A (newFunctionEnv scope env.globals cl [] env.qual none .none (some env)) Q E s := by
  simp only [newFunctionEnv, Option.isSome_some, if_true]
  refine wpAny_bind (wpAny_alloc ?_)
  refine wpAny_bind (wpAny_layCells _ (fun name kind cells => by cases hkc : kind == NameKind.cell <;> simp [hkc]) _ _ _ _ ?_)
  refine wpAny_bind ?_
  rw [List.forIn_nil]
  refine wpAny_pure (wpAny_pure ?_)
  rw [show ({ s with heap := s.heap.push { cls := .type "dict", data := .dict #[] } } : Shared).heap.objs.size = s.heap.objs.size + 1 from Heap.size_push ..]
  exact h
end Mine
end
section
open PySem PySem.W PyProof.Rows
set_option maxRecDepth 100000
set_option linter.unusedVariables false
namespace Mine
section
variable {prog : Program} {w : World} {A : Around} {E : Value → Shared → Prop} {s : Shared}
theorem append_exact {l : Addr} {vs : Array Value} {n : Nat} {x : Value} {Q : Value → Shared → Prop} (ho : s.heap.get? l = some { cls := .type "list", data := .seq vs n }) (hz : vs.size ≤ sizeLine)
    (hQ : ∀ h' n', h'.get? l = some { cls := .type "list", data := .seq (vs.push x) n' } → Heap.SameBut l s.heap h' → Q .none { s with heap := h' }) :
    wpAny (model prog w) A (call (.builtin "list.append") [.ref l, x]) Q E s := by
  refine wpAny_call_entry slot_list_append ⟨_, ho, rfl⟩ entry_list_append ?_ (args_list_append _ _)
  show wpAny _ _ (updateSeq l (·.push x) >>= fun _ => ret .none) _ _ s
  refine wpAny_bind ?_
  refine wpAny_updateSeq ho rfl (wpAny_pure ⟨.none, rfl, hQ _ _ (Heap.get?_update_self _ ho rfl) (Heap.SameBut.update ..)⟩)

noncomputable def OnDraw (N : Shared → Prop) (Y : Value → Shared → Prop) : Option Value → Shared → Prop
  | none, s => N s
  | some v, s => Y v s
theorem compLoop_any {elt target iter : Expr} {ifs : List Expr} {scope : Scope} {pos : Pos} {it acc : Value} {env : Env} {R : Result → Shared → Prop} (I : Nat → Shared → Prop)
    (turn : ∀ n s, I n s → wpAny (model prog w) A (pyNext it) (OnDraw (fun s₁ => R (.ok .next) s₁)
      (fun v s₁ => wpAny (model prog w) A (letOwnedTupleGo target it v) (fun _ s₁' => wpAny (model prog w) A (assign target env v) (fun _ s₂ =>
          wpAny (model prog w) A (forIn ifs true fun c r => if r = true then do let ok ← isTrue c env (eval c env); pure (ForInStep.yield ok) else pure (ForInStep.yield r)) (fun ok s₃ =>
            if ok = true then wpAny (model prog w) A (eval elt env) (fun x s₄ =>
              wpAny (model prog w) A (call (.builtin "list.append") [acc, x]) (fun _ s₅ => ∃ m, m < n ∧ I m s₅) (fun _ _ => False) s₄) (fun _ _ => False) s₃
            else ∃ m, m < n ∧ I m s₃) (fun _ _ => False) s₂) (fun _ _ => False) s₁') (fun _ _ => False) s₁)) (fun _ _ => False) s)
    (n : Nat) (h : I n s) :
    codeAny (model prog w) A (.compLoop (.ListComp elt [⟨target, iter, ifs, 0⟩] scope pos) 0 it acc env) R s := by
  refine codeAny_loop rfl I (fun n s hI => ?_) n h
  show wpAny _ A ((compTurn (.ListComp elt [⟨target, iter, ifs, 0⟩] scope pos) 0 it acc env).onRaise (fun x => do noteFrame x env; theTreesLotGoes x)) _ _ s
  refine wpAny_noted ?_
  rw [compTurn_list]
  have no : ∀ (e : Value) (s' : Shared), False → notedBy (model prog w) A env (fun e s' => R (.error e) s') e s' := fun _ _ f => f.elim
  refine wpAny_bind (wpAny_standAt (wpAny_bind (wpAny_mono (turn n s hI) (fun r s₁ h₁ => ?_) no)))
  cases r with
  | none => exact wpAny_pure h₁
  | some v =>
    refine wpAny_bind (wpAny_mono h₁ (fun _ s₁' h₁' => ?_) no)
    refine wpAny_bind (wpAny_mono h₁' (fun _ s₂ h₂ => wpAny_bind (wpAny_mono h₂ (fun ok s₃ h₃ => ?_) no)) no)
    cases ok with
    | false => exact wpAny_pure ⟨rfl, h₃⟩
    | true =>
      exact wpAny_bind (wpAny_bind (wpAny_mono h₃ (fun x s₄ h₄ => wpAny_bind (wpAny_mono h₄ (fun _ s₅ h₅ => wpAny_pure (wpAny_pure ⟨rfl, h₅⟩)) no)) no))
end

theorem Wk.draw {c : Cx} {O : Addr → Prop} {tgt : Expr} {N : Nat} {W : Addr} {items : List D} {J : Nat → Heap → Prop} (wk : Wk c O tgt N W items J) {A : Around} {i : Nat} {d : D} {s : Shared} {O' : Addr → Prop} {Q : Value → Shared → Prop} {E : Value → Shared → Prop} {N' : Shared → Prop}
    (hh : A.handled = none) (hd : items[i]? = some d) (j : J i s.heap) (up : ∀ a, O' a → O a ∨ N ≤ a) (ow : Own O' s.heap)
    (h : ∀ v h' tk, Is c O' h' d v → J (i + 1) h' → Heap.ExtBut W s.heap h' → s.heap.objs.size ≤ h'.objs.size → Q v { s with heap := h', toks := tk }) :
    wpAny (model c.prog c.w) A (pyNext (.ref W)) (OnDraw N' (fun v s₁ => wpAny (model c.prog c.w) A (letOwnedTupleGo tgt (.ref W) v) (fun _ s₂ => Q v s₂) E s₁)) E s :=
  wpAny_mono (wk.item A i d s O' Q E hh hd j up ow h) (fun r s₁ q => by cases r with | none => exact q.elim | some v => exact q) fun _ _ f => f
theorem Wk.over {c : Cx} {O : Addr → Prop} {tgt : Expr} {N : Nat} {W : Addr} {items : List D} {J : Nat → Heap → Prop} (wk : Wk c O tgt N W items J) {A : Around} {s : Shared} {Q : Value → Shared → Prop} {E : Value → Shared → Prop} {N' : Shared → Prop}
    (hh : A.handled = none) (j : J items.length s.heap) (h : ∀ h' tk, Heap.ExtBut W s.heap h' → s.heap.objs.size ≤ h'.objs.size → N' { s with heap := h', toks := tk }) :
    wpAny (model c.prog c.w) A (pyNext (.ref W)) (OnDraw N' Q) E s :=
  wpAny_mono (wk.done A s N' E hh j h) (fun r s₁ q => by obtain ⟨rfl, q⟩ := q; exact q) fun _ _ f => f

section
variable {c : Cx} {O : Addr → Prop} {k : Nat} {env : Env} {ρ : List (Str × D)} {A : Around} {s : Shared}
noncomputable def IfO (c : Cx) (O : Addr → Prop) (k : Nat) (env : Env) (ρ : List (Str × D)) (ifs : List Expr) (b : Bool) : Prop :=
  ∀ A s, Room k A → St c s → EnvOk c O env ρ s.heap → wpAny (model c.prog c.w) A (forIn ifs true fun c r => if r = true then do let ok ← isTrue c env (eval c env); pure (ForInStep.yield ok) else pure (ForInStep.yield r)) (fun b' s' => St c s' ∧ Grow s.heap s'.heap ∧ b' = b) F0 s
theorem if_nil : IfO c O k env ρ [] true := fun A s R S V => wpAny_tests_nil ⟨S, Grow.refl _, rfl⟩
theorem if_one {t : Expr} {b : Bool} (X : TrO c O k env ρ t b) : IfO c O k env ρ [t] b := fun A s R S V => wpAny_tests_one (X A s R S V)


noncomputable def CO (O : Addr → Prop) (scope : Scope) (env : Env) (W Dd C : Addr) : Addr → Prop := fun a => O a ∨ a = W ∨ a = Dd ∨ FrameAddr (compX scope env C) a
theorem Frm.ext {env : Env} {lv} {h h' : Heap} (F : Frm env lv h) (hk : ∀ b, FrameAddr env b → ∀ o, h.get? b = some o → h'.get? b = some o) : Frm env lv h' where
  ns := let ⟨m, ⟨o, es, ep, ho, r⟩, b⟩ := F.ns; ⟨m, ⟨o, es, ep, hk _ (.inl rfl) o ho, r⟩, b⟩
  cell := fun x cl n e => let ⟨o, ho, r⟩ := F.cell x cl n e; ⟨o, hk _ (.inr ⟨x, mem_of_lookup e⟩) o ho, r⟩

structure CompInv (c : Cx) (O : Addr → Prop) (scope : Scope) (env : Env) (xs : List Str) (lv : Str → Option Value) (items : List D) (cond : D → Bool) (F : D → D) (J : Nat → Heap → Prop) (s : Shared) (Z : Nat) (W Dd C : Addr) (i : Nat) (s' : Shared) : Prop where
  st : St c s'
  grow : Grow s.heap s'.heap
  size : Z ≤ s'.heap.objs.size
  it : J i s'.heap
  acc : ∃ vs nn, s'.heap.get? Dd = some { cls := .type "list", data := .seq vs nn } ∧ IsAll c (CO O scope env W Dd C) s'.heap (((items.take i).filter cond).map F) vs.toList
  frm : ∃ lv', Frm (compX scope env C) lv' s'.heap ∧ ∀ x, x ∉ xs → lv' x = lvIn scope lv x

theorem take_succ_of {α : Type} {l : List α} {i : Nat} {d : α} (h : l[i]? = some d) : l.take (i + 1) = l.take i ++ [d] := by
  rw [List.take_add_one, h]; rfl

theorem comp_loop {elt tgt iter : Expr} {ifs : List Expr} {scope : Scope} {pos : Pos} {xs : List Str} {items : List D} {cond : D → Bool} {F : D → D} {σ : D → List (Str × D)} {lv : Str → Option Value} {J : Nat → Heap → Prop} {N Z : Nat} {W Dd C : Nat} {s : Shared}
    {R : Result → Shared → Prop}
    (hok : compOk scope env = true) (hxs : xs.all (fun x => scope.names.lookup x == some .local || scope.names.lookup x == some .cell) = true)
    (hρ : ρ.all (fun p => scope.names.lookup p.1 != some .local && scope.names.lookup p.1 != some .cell) = true) (hz : items.length ≤ sizeLine)
    (hA : ∀ C d, d ∈ items → AsO c (compX scope env C) tgt xs d (σ d))
    (hT : ∀ O' C d, d ∈ items → IfO c O' k (compX scope env C) (σ d ++ ρ) ifs (cond d))
    (hE : ∀ O' C d, d ∈ items → cond d = true → EvO c O' k (compX scope env C) (σ d ++ ρ) elt (F d))
    (hσ : ∀ d ∈ items, ∀ x, x ∉ xs → (σ d).lookup x = none)
    (Rm : Room k A) (S : St c s) (ES : EnvS c env) (ow : Own O s.heap) (fr : ∀ b, FrameAddr env b → O b) (hr : ∀ x d, ρ.lookup x = some d → ∃ v, lv x = some v ∧ Is c O s.heap d v)
    (hN : s.heap.objs.size ≤ N) (wk : Wk c O tgt N W items J) (hWD : W < Dd) (hDC : Dd < C) (hZ : ∀ b, FrameAddr (compX scope env C) b → ¬ O b → b < Z) (hZC : C < Z)
    (hR : ∀ s', CompInv c O scope env xs lv items cond F J s Z W Dd C items.length s' → ∀ h' tk, Heap.ExtBut W s'.heap h' → s'.heap.objs.size ≤ h'.objs.size → R (.ok .next) { s' with heap := h', toks := tk })
    (s₄ : Shared) (inv : CompInv c O scope env xs lv items cond F J s Z W Dd C 0 s₄) :
    codeAny (model c.prog c.w) A (.compLoop (.ListComp elt [⟨tgt, iter, ifs, 0⟩] scope pos) 0 (.ref W) (.ref Dd) (compX scope env C)) R s₄ := by
  have CF := compOk_facts hok
  have hW := wk.new
  have hB : c.hB.objs.size ≤ s.heap.objs.size := S.grow.1
  have hsW : s.heap.objs.size ≤ W := Nat.le_trans hN hW
  have hsC : s.heap.objs.size ≤ C := by omega
  have ES' : EnvS c (compX scope env C) := compX_S CF ES (fun n a h => Nat.lt_of_lt_of_le (ow a (fr a (.inr ⟨n, h⟩))) hsC) (Nat.le_trans hB hsC)
  have fO : ∀ b, FrameAddr (compX scope env C) b → CO O scope env W Dd C b := fun b q => .inr (.inr (.inr q))
  have frC : ∀ b : Nat, FrameAddr (compX scope env C) b → b = C ∨ C < b ∨ O b := fun b q => (compX_frame CF q).imp id fun z => z.imp id fun z => fr b z
  have up : ∀ a : Nat, CO O scope env W Dd C a → O a ∨ N ≤ a := fun (a : Nat) q => by
    rcases q with q | rfl | rfl | q
    · exact .inl q
    · exact .inr hW
    · exact .inr (by omega)
    · rcases frC a q with rfl | q | q
      · exact .inr (by omega)
      · exact .inr (by omega)
      · exact .inl q
  have own : ∀ s' : Shared, Z ≤ s'.heap.objs.size → s.heap.objs.size ≤ s'.heap.objs.size → Own (CO O scope env W Dd C) s'.heap := fun s' hz hs (a : Nat) q => by
    rcases q with q | rfl | rfl | q
    · exact Nat.lt_of_lt_of_le (ow a q) hs
    · exact Nat.lt_of_lt_of_le (show (a : Nat) < Z from Nat.lt_trans hWD (Nat.lt_trans hDC hZC)) hz
    · exact Nat.lt_of_lt_of_le (show (a : Nat) < Z from Nat.lt_trans hDC hZC) hz
    · by_cases qo : O a
      · exact Nat.lt_of_lt_of_le (ow a qo) hs
      · exact Nat.lt_of_lt_of_le (hZ a q qo) hz
  have taC : ∀ a : Nat, TA (compX scope env C) xs a → C ≤ a := fun (a : Nat) q => by
    rcases q with rfl | ⟨x, hx, e⟩
    · exact Nat.le_refl _
    · have hk := List.all_eq_true.mp hxs x hx
      rcases cellsFrom_mem _ _ _ _ (mem_of_lookup e) with z | ⟨_, z⟩
      · have := lookup_nodup CF.nodup (cl_in CF z).2.2
        rw [this] at hk; simp at hk
      · exact Nat.le_of_succ_le z
  have ltC : ∀ b : Nat, b < C → ¬ TA (compX scope env C) xs b := fun b h q => Nat.lt_irrefl _ (Nat.lt_of_lt_of_le h (taC b q))
  have hWC : W < C := Nat.lt_trans hWD hDC
  have ltN : ∀ b : Nat, b < N ∨ b = W → b < C := fun b h => h.elim (fun h => Nat.lt_of_lt_of_le h (Nat.le_trans hW (Nat.le_of_lt hWC))) fun h => h ▸ hWC
  have ltD : ∀ b : Nat, b < N ∨ b = W → b < Dd := fun b h => h.elim (fun h => Nat.lt_of_lt_of_le h (Nat.le_trans hW (Nat.le_of_lt hWD))) fun h => h ▸ hWD
  have hBD : c.hB.objs.size ≤ Dd := Nat.le_trans hB (Nat.le_trans hsW (Nat.le_of_lt hWD))
  have hsD : s.heap.objs.size ≤ Dd := Nat.le_trans hsW (Nat.le_of_lt hWD)
  have notxs : ∀ x d, ρ.lookup x = some d → x ∉ xs ∧ lvIn scope lv x = lv x := fun x d e => by
    have hk := List.all_eq_true.mp hρ (x, d) (mem_of_lookup e)
    rw [Bool.and_eq_true] at hk
    constructor
    · intro hx
      have := List.all_eq_true.mp hxs x hx
      simp only [bne_iff_ne, ne_eq] at hk
      rw [Bool.or_eq_true] at this
      rcases this with q | q
      · exact hk.1 (by simpa using q)
      · exact hk.2 (by simpa using q)
    · unfold lvIn
      simp only [bne_iff_ne, ne_eq] at hk
      cases e : scope.names.lookup x with
      | none => rfl
      | some kd => cases kd <;> first | rfl | exact absurd e hk.1 | exact absurd e hk.2
  refine compLoop_any (fun m s' => ∃ i, i ≤ items.length ∧ m = items.length - i ∧ CompInv c O scope env xs lv items cond F J s Z W Dd C i s') (fun m s' hI => ?_) items.length ⟨0, Nat.zero_le _, rfl, inv⟩
  obtain ⟨i, hi, rfl, I⟩ := hI
  by_cases hlt : i < items.length
  · have hd : items[i]? = some items[i] := by simp [hlt]
    generalize items[i] = d at hd
    have hm : d ∈ items := List.mem_of_getElem? hd
    have own' := own s' I.size I.grow.1
    refine wk.draw Rm.1 hd I.it up own' fun v h1 tk iv j1 hx hs1 => ?_
    -- the item is drawn
    obtain ⟨vs, nn, hacc, hvs⟩ := I.acc
    obtain ⟨lv', Fm, hlv⟩ := I.frm
    have g1 : Grow s.heap h1 := ⟨Nat.le_trans I.grow.1 hs1, fun (b : Nat) o f e => hx b o (Nat.ne_of_lt (Nat.lt_of_lt_of_le (Heap.lt_size e) hsW)) (I.grow.2 b o f e)⟩
    have ch1 : Chg (CO O scope env W Dd C) s'.heap h1 := ⟨hs1, fun (b : Nat) o nb f e => hx b o (fun z => nb (.inr (.inl z))) e⟩
    have S1 : St c { s' with heap := h1, toks := tk } := I.st.ext (Nat.le_trans hB hsW) hx hs1 rfl rfl
    have neW : ∀ b : Nat, FrameAddr (compX scope env C) b → b ≠ W := fun (b : Nat) q z => by
      subst z
      rcases frC b q with rfl | q | q
      · omega
      · omega
      · exact Nat.lt_irrefl _ (Nat.lt_of_lt_of_le (ow b q) hsW)
    have Fm1 : Frm (compX scope env C) lv' h1 := Fm.ext fun b q o e => hx b o (neW b q) e
    have own1 : Own (CO O scope env W Dd C) h1 := fun a q => Nat.lt_of_lt_of_le (own' a q) hs1
    have nfl : ¬ Frail { cls := .type "list", data := .seq vs nn } := not_frail_cls nofun
    have acc1 : h1.get? Dd = some { cls := .type "list", data := .seq vs nn } := hx Dd _ (Nat.ne_of_gt hWD) hacc
    refine hA C d hm (CO O scope env W Dd C) A { s' with heap := h1, toks := tk } lv' v _ _ Rm.1 S1 ES' fO own1 Fm1 iv fun s2 lv2 S2 ch2 Fm2 e1 e2 => ?_
    have g2 : Grow s.heap s2.heap := ⟨Nat.le_trans g1.1 ch2.1, fun (b : Nat) o f e => ch2.2 b o (ltC b (Nat.lt_of_lt_of_le (Heap.lt_size e) hsC)) f (g1.2 b o f e)⟩
    have j2 : J (i + 1) s2.heap := wk.frame _ _ _ j1 fun (b : Nat) o hb f e => ch2.2 b o (ltC b (ltN b (hb.imp (·.2) id))) f e
    have ch2' : Chg (CO O scope env W Dd C) h1 s2.heap := ch2.sub fun a q => fO a q.frame
    have acc2 : s2.heap.get? Dd = some { cls := .type "list", data := .seq vs nn } := ch2.2 Dd _ (ltC Dd hDC) (not_frail_cls nofun) acc1
    have hvs2 := (hvs.chg ch1).chg ch2'
    have own2 : Own (CO O scope env W Dd C) s2.heap := fun a q => Nat.lt_of_lt_of_le (own1 a q) ch2.1
    have sz2 : Z ≤ s2.heap.objs.size := Nat.le_trans I.size (Nat.le_trans hs1 ch2.1)
    have V2 : EnvOk c (CO O scope env W Dd C) (compX scope env C) (σ d ++ ρ) s2.heap := by
      refine ⟨ES', own2, fO, lv2, Fm2, fun x e he => ?_⟩
      rw [List.lookup_append] at he
      cases hq : (σ d).lookup x with
      | some e' => rw [hq] at he; cases he; exact e2 x e hq
      | none =>
        rw [hq] at he
        have he' : ρ.lookup x = some e := he
        obtain ⟨v', hv', iv'⟩ := hr x e he'
        obtain ⟨nx, ex⟩ := notxs x e he'
        refine ⟨v', (e1 x hq).trans ((hlv x nx).trans (ex.trans hv')), ?_⟩
        exact Is.mono (fun a q => (up a q).imp id fun z => Nat.le_trans hN z) (fun (b : Nat) o nb f e => g2.2 b o f e) _ _ (Is.up (Nat.le_refl _) _ _ iv')
    have hlv2 : ∀ x, x ∉ xs → lv2 x = lvIn scope lv x := fun x hx' => (e1 x (hσ d hm x hx')).trans (hlv x hx')
    refine wpAny_mono (hT _ C d hm A s2 Rm S2 V2) (fun ok s3 q => ?_) fun _ _ f => f
    obtain ⟨S3, g3, rfl⟩ := q
    have tk1 : items.take (i + 1) = items.take i ++ [d] := take_succ_of hd
    have hm' : items.length - (i + 1) < items.length - i := Nat.sub_lt_sub_left (List.getElem?_eq_some_iff.mp hd).1 (Nat.lt_succ_self _)
    cases hc : cond d with
    | false =>
      simp only [Bool.false_eq_true, if_false]
      refine ⟨items.length - (i + 1), hm', i + 1, hlt, rfl, ⟨S3, g2.trans g3, Nat.le_trans sz2 g3.1, wk.frame _ _ _ j2 fun (b : Nat) o hb f e => g3.2 b o f e, ⟨vs, nn, g3.2 _ _ nfl acc2, ?_⟩, ⟨lv2, Fm2.grow g3, hlv2⟩⟩⟩
      rw [tk1, List.filter_append]
      simp only [List.filter_cons, hc, Bool.false_eq_true, if_false, List.filter_nil, List.append_nil]
      exact hvs2.grow g3
    | true =>
      simp only [if_true]
      refine wpAny_mono (hE _ C d hm hc A s3 Rm S3 (V2.grow g3)) (fun x s4 q => ?_) fun _ _ f => f
      obtain ⟨S4, g4, ix⟩ := q
      have acc4 := g4.2 _ _ nfl (g3.2 _ _ nfl acc2)
      have hvs4 := (hvs2.grow g3).grow g4
      refine append_exact acc4 ?_ fun h' n' ho' hs' => ?_
      · have l1 : vs.size = (((items.take i).filter cond).map F).length := by rw [← hvs.length]; simp
        have l2 := List.length_filter_le cond (items.take i)
        rw [List.length_map] at l1
        have l3 : (items.take i).length ≤ items.length := by rw [List.length_take]; omega
        omega
      · have chD : Chg (CO O scope env W Dd C) s4.heap h' := SameBut.chg hs' (.inr (.inr (.inl rfl)))
        have neD : ∀ b : Nat, FrameAddr (compX scope env C) b → b ≠ Dd := fun (b : Nat) q z => by
          subst z
          rcases frC b q with rfl | q | q
          · exact Nat.lt_irrefl _ hDC
          · exact Nat.lt_irrefl _ (Nat.lt_trans q hDC)
          · exact Nat.lt_irrefl _ (Nat.lt_of_lt_of_le (ow b q) hsD)
        refine ⟨items.length - (i + 1), hm', i + 1, hlt, rfl, ⟨S4.same hBD hs' rfl rfl, ?_, ?_, wk.frame _ _ _ (wk.frame _ _ _ (wk.frame _ _ _ j2 fun (b : Nat) o hb f e => g3.2 b o f e) fun (b : Nat) o hb f e => g4.2 b o f e) fun (b : Nat) o hb f e => ?_, ⟨_, n', ho', ?_⟩, ⟨lv2, ((Fm2.grow g3).grow g4).ext fun b q o e => (hs'.2 b (neD b q)).trans e, hlv2⟩⟩⟩
        · exact ⟨Nat.le_trans ((g2.trans g3).trans g4).1 (Nat.le_of_eq hs'.1.symm), fun (b : Nat) o f e => (hs'.2 b (Nat.ne_of_lt (Nat.lt_of_lt_of_le (Heap.lt_size e) hsD))).trans (((g2.trans g3).trans g4).2 b o f e)⟩
        · exact Nat.le_trans sz2 (Nat.le_trans g3.1 (Nat.le_trans g4.1 (Nat.le_of_eq hs'.1.symm)))
        · exact (hs'.2 b (Nat.ne_of_lt (ltD b (hb.imp (·.2) id)))).trans e
        · rw [tk1, List.filter_append]
          simp only [List.filter_cons, hc, if_true, List.filter_nil, List.map_append, List.map_cons, List.map_nil, Array.toList_push]
          exact (hvs4.append (.single ix)).chg chD
  · have e : i = items.length := by omega
    subst e
    exact wk.over Rm.1 I.it fun h' tk hx hs => hR s' I h' tk hx hs
end
end Mine
end
section
open PySem PySem.W PyProof.Rows
set_option maxRecDepth 100000
set_option linter.unusedVariables false
namespace Mine
section
variable {c : Cx} {O : Addr → Prop} {k : Nat} {env : Env} {ρ : List (Str × D)} {A : Around} {s : Shared}

/-- what a comprehension needs to be known of -/
structure LcO (c : Cx) (O : Addr → Prop) (k : Nat) (env : Env) (ρ : List (Str × D)) (elt tgt iter : Expr) (ifs : List Expr) (scope : Scope) (xs : List Str) (items : List D) (cond : D → Bool) (F : D → D) (σ : D → List (Str × D)) : Prop where
  ok : compOk scope env = true
  hxs : xs.all (fun x => scope.names.lookup x == some .local || scope.names.lookup x == some .cell) = true
  rho : ρ.all (fun p => scope.names.lookup p.1 != some .local && scope.names.lookup p.1 != some .cell) = true
  size : items.length ≤ sizeLine
  src : ItO c O k env ρ iter tgt items
  bind : ∀ C d, d ∈ items → AsO c (compX scope env C) tgt xs d (σ d)
  test : ∀ O' C d, d ∈ items → IfO c O' k (compX scope env C) (σ d ++ ρ) ifs (cond d)
  val : ∀ O' C d, d ∈ items → cond d = true → EvO c O' k (compX scope env C) (σ d ++ ρ) elt (F d)
  keys : ∀ d ∈ items, ∀ x, x ∉ xs → (σ d).lookup x = none

noncomputable def LcPost (c : Cx) (O : Addr → Prop) (s : Shared) (rs : List D) (acc : Value) (C : Addr) (r : Result) (s' : Shared) : Prop :=
  r = .ok .next ∧ St c s' ∧ Grow s.heap s'.heap ∧ s.heap.objs.size ≤ C ∧ (∃ m, s'.heap.Ns C m) ∧ Is c (fun a => O a ∨ a = C) s'.heap (.list rs) acc

theorem comp_run {elt tgt iter : Expr} {ifs : List Expr} {scope : Scope} {pos : Pos} {xs : List Str} {items : List D} {cond : D → Bool} {F : D → D} {σ : D → List (Str × D)}
    (L : LcO c O k env ρ elt tgt iter ifs scope xs items cond F σ) (Rm : Room k A) (S : St c s) (V : EnvOk c O env ρ s.heap) :
    wpAny (model c.prog c.w) A (eval iter env) (fun x s₁ => wpAny (model c.prog c.w) A (pyIter x) (fun it s₂ => wpAny (model c.prog c.w) A (newList []) (fun acc s₃ =>
      wpAny (model c.prog c.w) A (newFunctionEnv scope env.globals (clOf env scope.names []) [] env.qual none .none (some env)) (fun cenv s₄ =>
        codeAny (model c.prog c.w) A (.compStart (.ListComp elt [⟨tgt, iter, ifs, 0⟩] scope pos) 0 it acc { cenv with scope := relabel scope env })
          (LcPost c O s ((items.filter cond).map F) acc cenv.locals) s₄) F0 s₃) F0 s₂) F0 s₁) F0 s := by
  obtain ⟨ES, ow, fr, lv, Fm, hr⟩ := id V
  have CF := compOk_facts L.ok
  refine wpAny_mono (L.src A s Rm S V) (fun x s₁ h₁ => wpAny_mono h₁ (fun it s₂ h₂ => ?_) fun _ _ f => f) fun _ _ f => f
  obtain ⟨S₂, g₂, N, W, J, rfl, hN, j0, wk⟩ := h₂
  have hWs := wk.live 0 _ j0
  refine wpAny_newList (wpAny_mono (E := F0) (comp_newEnv (Q := fun cenv s₄ => cenv = { scope := scope, locals := s₂.heap.objs.size + 1, globals := env.globals, cells := cellsFrom (s₂.heap.objs.size + 1 + 1) scope.names (clOf env scope.names []), qual := env.qual, func := none, code := env.code, frame := env.frame, builtins := env.builtins } ∧
      s₄ = { s₂ with heap := pushCells ((s₂.heap.push { cls := .type "list", data := .seq #[] }).push { cls := .type "dict", data := .dict #[] }) scope.names }) ?_) (fun cenv s₄ q => ?_) fun _ _ f => f) (by simp)
  · rw [show ({ s₂ with heap := s₂.heap.push { cls := .type "list", data := .seq (List.toArray []) } } : Shared).heap.objs.size = s₂.heap.objs.size + 1 from Heap.size_push ..]
    exact ⟨rfl, rfl⟩
  obtain ⟨rfl, rfl⟩ := q
  show codeAny (model c.prog c.w) A (.compStart _ 0 (.ref W) (.ref s₂.heap.objs.size) (compX scope env (s₂.heap.objs.size + 1))) (LcPost c O s ((items.filter cond).map F) (.ref s₂.heap.objs.size) (s₂.heap.objs.size + 1)) _
  -- the heap at the loop's start
  have gD := Grow.push s₂.heap { cls := .type "list", data := .seq #[] }
  have kp : ∀ b o, s₂.heap.get? b = some o → (pushCells ((s₂.heap.push { cls := .type "list", data := .seq #[] }).push { cls := .type "dict", data := .dict #[] }) scope.names).get? b = some o :=
    fun b o e => pushCells_keeps _ _ _ _ (Heap.get?_push_of_some _ (Heap.get?_push_of_some _ e))
  have z1 : (s₂.heap.push { cls := .type "list", data := .seq #[] }).objs.size = s₂.heap.objs.size + 1 := Heap.size_push ..
  have z2 : ((s₂.heap.push { cls := .type "list", data := .seq #[] }).push { cls := .type "dict", data := .dict #[] }).objs.size = s₂.heap.objs.size + 1 + 1 := by rw [Heap.size_push, z1]
  have z3 := pushCells_size scope.names ((s₂.heap.push { cls := .type "list", data := .seq #[] }).push { cls := .type "dict", data := .dict #[] })
  rw [z2] at z3
  have gk : Grow s₂.heap (pushCells ((s₂.heap.push { cls := .type "list", data := .seq #[] }).push { cls := .type "dict", data := .dict #[] }) scope.names) := ⟨by omega, fun b o _ e => kp b o e⟩
  have g₄ := g₂.trans gk
  have hs2 : s.heap.objs.size ≤ s₂.heap.objs.size := g₂.1
  have Fm₃ : Frm env lv (s₂.heap.push { cls := .type "list", data := .seq #[] }) := (Fm.grow g₂).grow gD
  have FmX := compX_Frm CF Fm₃
  rw [z1] at FmX
  have inv : CompInv c O scope env xs lv items cond F J s (pushCells ((s₂.heap.push { cls := .type "list", data := .seq #[] }).push { cls := .type "dict", data := .dict #[] }) scope.names).objs.size W s₂.heap.objs.size (s₂.heap.objs.size + 1) 0
      { s₂ with heap := pushCells ((s₂.heap.push { cls := .type "list", data := .seq #[] }).push { cls := .type "dict", data := .dict #[] }) scope.names } := by
    refine ⟨S₂.keeps kp gk.1 rfl rfl, g₄, Nat.le_refl _, wk.frame _ _ _ j0 fun b o _ _ e => kp b o e, ⟨#[], 0, pushCells_keeps _ _ _ _ (Heap.get?_push_of_some _ (Heap.get?_push_size _ rfl)), ?_⟩, ⟨lvIn scope lv, FmX, fun _ _ => rfl⟩⟩
    simp only [List.take_zero, List.filter_nil, List.map_nil]
    exact .nil
  have hZ : ∀ b, FrameAddr (compX scope env (s₂.heap.objs.size + 1)) b → ¬ O b → b < (pushCells ((s₂.heap.push { cls := .type "list", data := .seq #[] }).push { cls := .type "dict", data := .dict #[] }) scope.names).objs.size := fun b q nb => by
    rcases q with rfl | ⟨n, q⟩
    · exact z3
    · have q' : (n, b) ∈ cellsFrom ((s₂.heap.push { cls := .type "list", data := .seq #[] }).push { cls := .type "dict", data := .dict #[] }).objs.size scope.names (clOf env scope.names []) := by rw [z2]; exact q
      rcases pushCells_cells _ _ _ _ q' with y | y
      · exact absurd (fr b (.inr ⟨n, mem_of_lookup (cl_in CF y).1⟩)) nb
      · exact y.lt
  have loop := comp_loop (pos := pos) (iter := iter) (R := LcPost c O s ((items.filter cond).map F) (.ref s₂.heap.objs.size) (s₂.heap.objs.size + 1)) L.ok L.hxs L.rho L.size L.bind L.test L.val L.keys Rm S ES ow fr hr hN wk hWs (Nat.lt_succ_self _) hZ z3
    (fun s' I h' tk hx hsz => by
      have hW := wk.new
      have hsW : s.heap.objs.size ≤ W := Nat.le_trans hN hW
      refine ⟨rfl, I.st.ext (Nat.le_trans S.grow.1 hsW) hx hsz rfl rfl, ⟨Nat.le_trans I.grow.1 hsz, fun b o f e => hx b o (Nat.ne_of_lt (Nat.lt_of_lt_of_le (Heap.lt_size e) hsW)) (I.grow.2 b o f e)⟩, Nat.le_trans hs2 (Nat.le_succ _), ?_, ?_⟩
      · obtain ⟨lv', Fm', _⟩ := I.frm
        obtain ⟨m, ⟨o, es, ep, ho, r⟩, _⟩ := Fm'.ns
        exact ⟨m, o, es, ep, hx _ _ (Nat.ne_of_gt (Nat.lt_succ_of_lt hWs)) ho, r⟩
      · obtain ⟨vs, nn, ho, hv⟩ := I.acc
        rw [List.take_length] at hv
        unfold Is
        refine ⟨s₂.heap.objs.size, vs, nn, rfl, fun q => ?_, hx _ _ (Nat.ne_of_gt hWs) ho, ?_⟩
        · rcases q with q | q
          · exact Nat.lt_irrefl _ (Nat.lt_of_lt_of_le (ow _ q) hs2)
          · exact Nat.ne_of_lt (Nat.lt_succ_self _) q
        · refine IsAll.mono (fun a q => ?_) (fun b o nb f e => hx b o (fun z => nb (.inr (.inl z))) e) _ _ hv
          rcases q with q | rfl
          · exact .inl q
          · exact .inr (.inr (.inr (.inl rfl))))
    _ inv
  refine codeAny_compStart_list loop ?_
  exact wk.self A 0 _ _ _ inv.it loop

theorem ev_listcomp {elt tgt iter : Expr} {ifs : List Expr} {scope : Scope} {pos : Pos} {xs : List Str} {items : List D} {cond : D → Bool} {F : D → D} {σ : D → List (Str × D)}
    (L : LcO c O k env ρ elt tgt iter ifs scope xs items cond F σ) (hs : ∀ x, foldedSetIterable iter env x = pure x := by intro _; rfl) :
    EvO c O k env ρ (.ListComp elt [⟨tgt, iter, ifs, 0⟩] scope pos) (.list ((items.filter cond).map F)) := fun A s Rm S V => by
  have CF := compOk_facts L.ok
  rw [eval_ListComp]
  refine wpAny_comprehension_free (g := ⟨tgt, iter, ifs, 0⟩) (gs := []) rfl hs (closureFor_clOf scope env fun x hx hf => (CF.free x hx hf).1) CF.kind (fun x hx hl => lookup_nodup CF.nodup (hl ▸ hx)) ?_
  refine wpAny_mono (comp_run (pos := pos) L Rm S V) (fun x s₁ h₁ => wpAny_mono h₁ (fun it s₂ h₂ => wpAny_mono h₂ (fun acc s₃ h₃ => wpAny_mono h₃ (fun cenv s₄ h₄ => codeAny_mono h₄ fun r s' q => ?_) fun _ _ f => f) fun _ _ f => f) fun _ _ f => f) fun _ _ f => f
  obtain ⟨rfl, S', g, hC, ⟨m, hn⟩, i⟩ := q
  refine ⟨m, hn, fun h' hs' => ⟨S'.same (Nat.le_trans S.grow.1 hC) hs' rfl rfl, ⟨Nat.le_trans g.1 (Nat.le_of_eq hs'.1.symm), fun b o f e => (hs'.2 b (Nat.ne_of_lt (Nat.lt_of_lt_of_le (Heap.lt_size e) hC))).trans (g.2 b o f e)⟩, ?_⟩⟩
  exact Is.mono (fun a q => .inl q) (fun b o nb f e => (hs'.2 b fun z => nb (.inr z)).trans e) _ _ i

/-- a statement that binds a name to a comprehension's list: the store comes ahead of the inner frame's end -/
theorem use_listcomp {elt tgt iter : Expr} {ifs : List Expr} {scope : Scope} {pos : Pos} {xs : List Str} {items : List D} {cond : D → Bool} {F : D → D} {σ : D → List (Str × D)} {u : Value → Sem Unit} {Q : Unit → Shared → Prop} {E : Value → Shared → Prop}
    (L : LcO c O k env ρ elt tgt iter ifs scope xs items cond F σ) (Rm : Room k A) (S : St c s) (V : EnvOk c O env ρ s.heap)
    (h : ∀ v s' C, St c s' → Grow s.heap s'.heap → s.heap.objs.size ≤ C → (∃ m, s'.heap.Ns C m) → Is c (fun a => O a ∨ a = C) s'.heap (.list ((items.filter cond).map F)) v →
      wpAny (model c.prog c.w) A (u v) (fun _ s'' => ∃ m, s''.heap.Ns C m ∧ ∀ h', Heap.SameBut C s''.heap h' → Q () { s'' with heap := h' }) E s')
    (hs : ∀ x, foldedSetIterable iter env x = pure x := by intro _; rfl) :
    wpAny (model c.prog c.w) A (evalThenUse (.ListComp elt [⟨tgt, iter, ifs, 0⟩] scope pos) env u) Q E s := by
  have CF := compOk_facts L.ok
  rw [arm_evalThenUse_ListComp]
  refine wpAny_bind (wpAny_comprehension_free (g := ⟨tgt, iter, ifs, 0⟩) (gs := []) rfl hs (closureFor_clOf scope env fun x hx hf => (CF.free x hx hf).1) CF.kind (fun x hx hl => lookup_nodup CF.nodup (hl ▸ hx)) ?_)
  refine wpAny_mono (comp_run (pos := pos) L Rm S V) (fun x s₁ h₁ => wpAny_mono h₁ (fun it s₂ h₂ => wpAny_mono h₂ (fun acc s₃ h₃ => wpAny_mono h₃ (fun cenv s₄ h₄ => codeAny_mono h₄ fun r s' q => ?_) fun _ _ f => f.elim) fun _ _ f => f.elim) fun _ _ f => f.elim) fun _ _ f => f.elim
  obtain ⟨rfl, S', g, hC, hn, i⟩ := q
  exact wpAny_mono (h acc s' cenv.locals S' g hC hn i) (fun _ s'' q => let ⟨m, a, b⟩ := q; ⟨m, a, fun h' hs' => wpAny_pure (b h' hs')⟩) fun _ _ e => e
end
end Mine
end
section
open PySem PySem.W PyProof.Rows
set_option maxRecDepth 100000
set_option linter.unusedVariables false
namespace Mine

/-- a call of a def of the text, its arguments data, its result data; nothing that stood is changed -/
noncomputable def FnO (c : Cx) (k : Nat) (f : Addr) (ds : List D) (r : D) : Prop :=
  ∀ (O : Addr → Prop) A s vs, Room k A → St c s → Own O s.heap → IsAll c O s.heap ds vs → wpAny (model c.prog c.w) A (call (.ref f) vs) (Ret c O s r) F0 s

structure Fs (c : Cx) (h₀ : Heap) (O : Addr → Prop) (env : Env) (lv : Str → Option Value) (s : Shared) : Prop where
  st : St c s
  es : EnvS c env
  own : Own O s.heap
  fr : ∀ b, FrameAddr env b → O b
  frm : Frm env lv s.heap
  grow : Grow h₀ s.heap
  above : ∀ b, FrameAddr env b → h₀.objs.size ≤ b
  base : c.hB.objs.size ≤ h₀.objs.size
noncomputable def Bd (c : Cx) (O : Addr → Prop) (lv : Str → Option Value) (h : Heap) (ρ : List (Str × D)) : Prop := ∀ x d, ρ.lookup x = some d → ∃ v, lv x = some v ∧ Is c O h d v

section
variable {c : Cx} {h₀ : Heap} {O : Addr → Prop} {k : Nat} {env : Env} {lv : Str → Option Value} {ρ : List (Str × D)} {A : Around} {s : Shared}
theorem Fs.ok (F : Fs c h₀ O env lv s) (B : Bd c O lv s.heap ρ) : EnvOk c O env ρ s.heap := ⟨F.es, F.own, F.fr, lv, F.frm, B⟩
theorem Fs.go {s' : Shared} (F : Fs c h₀ O env lv s) (S : St c s') (g : Grow s.heap s'.heap) : Fs c h₀ O env lv s' := ⟨S, F.es, F.own.grow g, F.fr, F.frm.grow g, F.grow.trans g, F.above, F.base⟩
theorem Bd.go {h h' : Heap} (B : Bd c O lv h ρ) (g : Grow h h') : Bd c O lv h' ρ := fun x d e => let ⟨v, a, b⟩ := B x d e; ⟨v, a, b.grow g⟩
theorem Bd.chg {h h' : Heap} (B : Bd c O lv h ρ) (g : Chg O h h') : Bd c O lv h' ρ := fun x d e => let ⟨v, a, b⟩ := B x d e; ⟨v, a, b.chg g⟩
theorem Bd.up {h : Heap} (B : Bd c O lv h ρ) {N : Nat} (hN : h.objs.size ≤ N) : Bd c (Up O N) lv h ρ := fun x d e => let ⟨v, a, b⟩ := B x d e; ⟨v, a, Is.up hN _ _ b⟩
theorem Bd.sub {h : Heap} {O' : Addr → Prop} (B : Bd c O lv h ρ) (hO : ∀ a, O' a → O a) : Bd c O' lv h ρ := fun x d e => let ⟨v, a, b⟩ := B x d e; ⟨v, a, b.sub hO⟩
theorem Chg.ofTA {xs : List Str} {h h' : Heap} (F : Fs c h₀ O env lv s) (g : Chg (TA env xs) h h') : Chg O h h' := g.sub fun a q => F.fr a q.frame
theorem Fs.ta {s' : Shared} {lv' : Str → Option Value} {xs : List Str} (F : Fs c h₀ O env lv s) (S : St c s') (g : Chg (TA env xs) s.heap s'.heap) (F' : Frm env lv' s'.heap) : Fs c h₀ O env lv' s' :=
  ⟨S, F.es, fun a q => Nat.lt_of_lt_of_le (F.own a q) g.1, F.fr, F', ⟨Nat.le_trans F.grow.1 g.1, fun b o f e => g.2 b o (fun q => Nat.lt_irrefl _ (Nat.lt_of_lt_of_le (Heap.lt_size e) (F.above b q.frame))) f (F.grow.2 b o f e)⟩, F.above, F.base⟩

/-- after a target is bound -/
theorem Fs.bound {s s' : Shared} {lv' : Str → Option Value} {xs : List Str} {σ : List (Str × D)} {h : Heap} (F : Fs c h₀ O env lv s) (B : Bd c O lv s.heap ρ) (g : Chg (TA env xs) s.heap s'.heap) (e1 : ∀ x, σ.lookup x = none → lv' x = lv x)
    (e2 : ∀ x e, σ.lookup x = some e → ∃ u, lv' x = some u ∧ Is c O s'.heap e u) : Bd c O lv' s'.heap (σ ++ ρ) := fun x d e => by
  rw [List.lookup_append] at e
  cases q : σ.lookup x with
  | some d' => rw [q] at e; cases e; exact e2 x d q
  | none =>
    rw [q] at e
    obtain ⟨v, a, b⟩ := B x d e
    exact ⟨v, (e1 x q).trans a, b.chg (Chg.ofTA F g)⟩

theorem st_assign {x : Str} {p pos : Pos} {e : Expr} {d : D} {Q : Flow → Shared → Prop} (X : EvO c O k env ρ e d) (hx : Has env x = true) (hf : env.kindOf x ≠ some .free)
    (R : Room k A) (F : Fs c h₀ O env lv s) (B : Bd c O lv s.heap ρ)
    (h : ∀ s' lv' v, Fs c h₀ O env lv' s' → Chg (TA env [x]) s.heap s'.heap → Bd c O lv' s'.heap ((x, d) :: ρ) → (∀ y, y ≠ x → lv' y = lv y) → lv' x = some v → Is c O s'.heap d v → Q .next s')
    (hs : swapsWith e (some (.Name x p)) pos.line env = pure false := by rfl) : wpAny (model c.prog c.w) A (exec (.Assign [.Name x p] e pos) env) Q F0 s := by
  refine wpAny_Assign_Name (X.use R F.st (F.ok B) fun v s₁ S₁ g₁ i => ?_) hs
  have F₁ := F.go S₁ g₁
  have B₁ := B.go g₁
  refine store_has F₁.es F₁.frm hx hf fun h' tk a ha hs F' => ?_
  have ta : TA env [x] a := ha.imp id fun e => ⟨x, List.mem_cons_self, e⟩
  have ch : Chg (TA env [x]) s₁.heap h' := SameBut.chg hs ta
  have S' : St c { s₁ with heap := h', toks := tk } := S₁.frame F.es ta.frame hs rfl rfl
  have i' := i.chg (Chg.ofTA F₁ ch)
  refine h _ _ v (F₁.ta (s' := { s₁ with heap := h', toks := tk }) S' ch F') (g₁.chg.trans ch) ?_ (fun y hy => by simp [hy]) (by simp) i'
  refine Fs.bound (σ := [(x, d)]) (h := s.heap) (s := s₁) (s' := { s₁ with heap := h', toks := tk }) F₁ B₁ ch (fun y hy => ?_) fun y e hy => ?_
  · rw [lookup_one] at hy
    by_cases q : y = x
    · simp [q] at hy
    · simp [q]
  · rw [lookup_one] at hy
    by_cases q : y = x
    · simp [q] at hy; subst hy; exact ⟨v, by simp [q], i'⟩
    · simp [q] at hy
theorem st_return {e : Expr} {pos : Pos} {d : D} {Q : Flow → Shared → Prop} (X : EvO c O k env ρ e d) (R : Room k A) (F : Fs c h₀ O env lv s) (B : Bd c O lv s.heap ρ)
    (h : ∀ v s', St c s' → Grow s.heap s'.heap → Is c O s'.heap d v → Q (.ret v) s') : wpAny (model c.prog c.w) A (exec (.Return (some e) pos) env) Q F0 s :=
  wpAny_Return_some (X.use R F.st (F.ok B) fun v s' S' g i => h v s' S' g i)
theorem st_if {t : Expr} {b : Bool} {th el : List Stmt} {pos : Pos} {Q : Flow → Shared → Prop} (T : TrO c O k env ρ t b) (R : Room k A) (F : Fs c h₀ O env lv s) (B : Bd c O lv s.heap ρ)
    (h1 : b = true → ∀ s', Fs c h₀ O env lv s' → Grow s.heap s'.heap → wpAny (model c.prog c.w) A (execs th env) Q F0 s')
    (h2 : b = false → ∀ s', Fs c h₀ O env lv s' → Grow s.heap s'.heap → wpAny (model c.prog c.w) A (execs el env) Q F0 s') : wpAny (model c.prog c.w) A (exec (.If t th el pos) env) Q F0 s := by
  refine wpAny_If (T.use R F.st (F.ok B) fun s' S' g => ?_)
  cases b with
  | true => simp only [if_true]; exact h1 rfl s' (F.go S' g) g
  | false => simp only [Bool.false_eq_true, if_false]; exact h2 rfl s' (F.go S' g) g
/-- one statement after another -/
theorem st_seq {st : Stmt} {rest : List Stmt} {Q : Flow → Shared → Prop} (h : wpAny (model c.prog c.w) A (exec st env) (fun f s' => match f with | .next => wpAny (model c.prog c.w) A (execs rest env) Q F0 s' | f => Q f s') F0 s) :
    wpAny (model c.prog c.w) A (execs (st :: rest) env) Q F0 s := by
  rw [execs_cons]
  refine wpAny_bind (wpAny_mono h (fun f s' q => ?_) fun _ _ f => f)
  cases f with
  | next => exact q
  | brk => exact wpAny_pure q
  | cont => exact wpAny_pure q
  | ret v => exact wpAny_pure q
end
end Mine
end
section
open PySem PySem.W PyProof.Rows
set_option maxRecDepth 100000
set_option linter.unusedVariables false
namespace Mine
section
variable {c : Cx} {h₀ : Heap} {O : Addr → Prop} {k : Nat} {env : Env} {lv : Str → Option Value} {ρ : List (Str × D)} {A : Around} {s : Shared}

/-- what a name of the top or of the built-ins holds -/
noncomputable def FnV (c : Cx) (env : Env) (e : Expr) (v : Value) : Prop := ∀ (A : Around) (s : Shared) (Q : Value → Shared → Prop) (E : Value → Shared → Prop), St c s → Q v s → wpAny (model c.prog c.w) A (eval e env) Q E s
theorem St.inK (H : c.Ok) (S : St c s) {a : Addr} {o : Obj} (h : c.K.lookup a = some o) (hf : ¬ Frail o) : s.heap.get? a = some o := S.grow.2 a o hf (H.inB a o h)
theorem fnv_global (H : c.Ok) (ES : EnvS c env) {x : Str} {p : Pos} {v : Value} (e : nsIn c.K mainGlobals x = some (some v)) (hx : env.kindOf x = some .globalImplicit) (hd : (x == ("__debug__" : Str)) = false := by decide) : FnV c env (.Name x p) v := fun A s Q E S h => by
  obtain ⟨p', loose, mean, mg, mb, T⟩ := H.top
  exact Calls.Name_function_global ES.kind hx (Calls.loadGlobal_global (env := env) (by rw [ES.glob]; exact ns_grow T.g S.grow) (mg_of H.inB T.g e) h) hd
theorem fnv_builtin (H : c.Ok) (ES : EnvS c env) {x : Str} {p : Pos} {v : Value} (e : nsIn c.K mainGlobals x = some none) (hv : bootBuiltins x = some v) (hn : x ≠ "__name__") (hx : env.kindOf x = some .globalImplicit) (hd : (x == ("__debug__" : Str)) = false := by decide) : FnV c env (.Name x p) v := fun A s Q E S h => by
  obtain ⟨p', loose, mean, mg, mb, T⟩ := H.top
  exact Calls.Name_function_global ES.kind hx (Calls.loadGlobal_builtin (env := env) (by rw [ES.glob]; exact ns_grow T.g S.grow) (mg_none_of H.inB T.g e) (by rw [ES.bi]; exact ns_grow T.b S.grow) ((T.builtins x hn).trans hv) h) hd

theorem evs_args {f : Value} {pos : Pos} {e : Expr} {es : List Expr} {ds : List D} {Q : Args → Shared → Prop} {E : Value → Shared → Prop} (X : EvAll c O k env ρ pos (e :: es) ds) (R : Room k A) (S : St c s) (V : EnvOk c O env ρ s.heap)
    (hs : starEach (e :: es) env = (false, eval e env) :: starEach es env) (h : ∀ vs s', St c s' → Grow s.heap s'.heap → IsAll c O s'.heap ds vs → Q ⟨vs, []⟩ s') :
    wpAny (model c.prog c.w) A (evalArgs f true (backTo pos (starEach (e :: es) env)) []) Q E s := by
  rw [hs]
  show wpAny _ A (evalArgs f true ((false, eval e env) :: backTo pos (starEach es env)) []) Q E s
  refine Calls.evalArgs_plain ?_
  have := X.use (E := E) (Q := fun vs s' => Q ⟨vs, []⟩ s') R S V h
  rw [hs] at this
  exact this

/-- a call of a value that the machine calls itself -/
theorem ev_call_builtin {fe : Expr} {id : String} {pos : Pos} {e : Expr} {es : List Expr} {ds : List D} {r : D} (hv : EnvS c env → FnV c env fe (.builtin id)) (X : EvAll c O k env ρ pos (e :: es) ds)
    (h : ∀ A s vs, Room k A → St c s → Own O s.heap → IsAll c O s.heap ds vs → wpAny (model c.prog c.w) A (call (.builtin id) vs) (Ret c O s r) F0 s)
    (hs : starEach (e :: es) env = (false, eval e env) :: starEach es env := by rfl)
    (he : eval (.Call fe (e :: es) [] pos) env = (do callWith pos (← eval fe env) [] (backTo pos (starEach (e :: es) env)) []) := by rfl)
    (hp : (backTo pos (starEach (e :: es) env)).any (·.1) = false := by rfl) : EvO c O k env ρ (.Call fe (e :: es) [] pos) r := fun A s R S V => by
  rw [he]
  refine wpAny_bind (hv V.1 A s _ _ S ?_)
  refine Calls.callWith_builtin hp (evs_args X R S V hs fun vs s' S' g i => ?_)
  exact wpAny_mono (h A s' vs R S' (V.2.1.grow g) i) (fun v s'' q => ⟨q.1, g.trans q.2.1, q.2.2⟩) fun _ _ f => f
theorem ev_call_type {fe : Expr} {T : String} {pos : Pos} {e : Expr} {es : List Expr} {ds : List D} {r : D} (hv : EnvS c env → FnV c env fe (.type T)) (X : EvAll c O k env ρ pos (e :: es) ds)
    (h : ∀ A s vs, Room k A → St c s → Own O s.heap → IsAll c O s.heap ds vs → wpAny (model c.prog c.w) A (call (.type T) vs) (Ret c O s r) F0 s)
    (hs : starEach (e :: es) env = (false, eval e env) :: starEach es env := by rfl)
    (he : eval (.Call fe (e :: es) [] pos) env = (do callWith pos (← eval fe env) [] (backTo pos (starEach (e :: es) env)) []) := by rfl)
    (hp : (backTo pos (starEach (e :: es) env)).any (·.1) = false := by rfl) : EvO c O k env ρ (.Call fe (e :: es) [] pos) r := fun A s R S V => by
  rw [he]
  refine wpAny_bind (hv V.1 A s _ _ S ?_)
  refine PyProof.Rows.callWith_type hp (evs_args X R S V hs fun vs s' S' g i => ?_)
  exact wpAny_mono (h A s' vs R S' (V.2.1.grow g) i) (fun v s'' q => ⟨q.1, g.trans q.2.1, q.2.2⟩) fun _ _ f => f
theorem ev_call_fn (H : c.Ok) {fe : Expr} {f : Addr} {pos : Pos} {e : Expr} {es : List Expr} {ds : List D} {r : D} {o : Obj} {fd : FuncData} (hv : EnvS c env → FnV c env fe (.ref f)) (hK : c.K.lookup f = some o) (ho : o.data = .func fd)
    (X : EvAll c O k env ρ pos (e :: es) ds) (h : FnO c k f ds r)
    (hs : starEach (e :: es) env = (false, eval e env) :: starEach es env := by rfl)
    (he : eval (.Call fe (e :: es) [] pos) env = (do callWith pos (← eval fe env) [] (backTo pos (starEach (e :: es) env)) []) := by rfl) : EvO c O k env ρ (.Call fe (e :: es) [] pos) r := fun A s R S V => by
  rw [he]
  refine wpAny_bind (hv V.1 A s _ _ S ?_)
  refine Calls.callWith_function (o := o) (fd := fd) (evs_args X R S V hs fun vs s' S' g i => ⟨⟨S'.inK H hK (fun q => by obtain ⟨_, vs, e⟩ := q; rw [ho] at e; cases e), ho⟩, ?_⟩)
  exact wpAny_mono (h O A s' vs R S' (V.2.1.grow g) i) (fun v s'' q => ⟨q.1, g.trans q.2.1, q.2.2⟩) fun _ _ f => f

/-- len of a list -/
theorem ev_len (H : c.Ok) {p pos : Pos} {e : Expr} {ds : List D} (X : EvO c O k env ρ e (.list ds)) (hK : nsIn c.K mainGlobals "len" = some none) (hx : env.kindOf "len" = some .globalImplicit) (hl : ds.length < 2 ^ 63)
    (hs : starEach [e] env = (false, eval e env) :: starEach [] env := by rfl) : EvO c O k env ρ (.Call (.Name "len" p) [e] [] pos) (.int ds.length) := by
  refine ev_call_builtin (id := "len") (ds := [.list ds]) (fun ES => fnv_builtin H ES hK boot_len (by decide) hx) (evs_cons X evs_nil hs) (fun A s vs R S ow i => ?_) hs rfl (by rw [hs]; rfl)
  unfold IsAll at i
  obtain ⟨v, r, rfl, i, i2⟩ := i
  unfold IsAll at i2
  subst i2
  unfold Is at i
  obtain ⟨a, vs, n, rfl, na, ho, r⟩ := i
  have hz : vs.size = ds.length := by rw [← r.length]; simp
  refine Calls.call_len_list ⟨_, ho, rfl, n, rfl⟩ (by rw [hz]; omega) ⟨S.tok _, Grow.refl _, ?_⟩
  rw [hz]; unfold Is; exact ⟨_, rfl⟩
end
end Mine
end
section
open PySem PySem.W PyProof.Rows
set_option maxRecDepth 100000
set_option linter.unusedVariables false
namespace Mine

theorem bindL_miss (kd : Str → Option NameKind) : ∀ (b : List (Str × Value)) (m : Str → Option Value) (x : Str), (∀ p ∈ b, p.1 ≠ x) → bindL kd b m x = m x
  | [], m, x, _ => rfl
  | (n, v) :: r, m, x, h => by
    unfold bindL
    rw [bindL_miss kd r _ x fun p hp => h p (List.mem_cons_of_mem _ hp)]
    have : x ≠ n := fun e => h (n, v) List.mem_cons_self e.symm
    split <;> simp [this]
theorem bindC_miss (kd : Str → Option NameKind) : ∀ (b : List (Str × Value)) (m : Str → Option Value) (x : Str), (∀ p ∈ b, p.1 ≠ x) → bindC kd b m x = m x
  | [], m, x, _ => rfl
  | (n, v) :: r, m, x, h => by
    unfold bindC
    rw [bindC_miss kd r _ x fun p hp => h p (List.mem_cons_of_mem _ hp)]
    have : x ≠ n := fun e => h (n, v) List.mem_cons_self e.symm
    split <;> simp [this]
noncomputable def lvOf (kd : Str → Option NameKind) (b : List (Str × Value)) : Str → Option Value := fun x => if kd x = some .local then bindL kd b (fun _ => none) x else bindC kd b (fun _ => none) x
theorem lvOf_get (kd : Str → Option NameKind) : ∀ (b : List (Str × Value)) (m : Str → Option Value) (x : Str) (v : Value), (b.map (·.1)).Nodup → (x, v) ∈ b →
    (if kd x = some .local then bindL kd b m x else bindC kd b m x) = some v := by
  intro b
  induction b with
  | nil => intro m x v _ h; cases h
  | cons p r ih =>
    obtain ⟨n, w⟩ := p
    intro m x v hn h
    rw [List.map_cons, List.nodup_cons] at hn
    rcases List.mem_cons.mp h with e | h
    · obtain ⟨rfl, rfl⟩ := Prod.mk.inj e
      have miss : ∀ p ∈ r, p.1 ≠ x := fun p hp e => hn.1 (List.mem_map.mpr ⟨p, hp, e⟩)
      unfold bindL bindC
      by_cases hk : kd x = some .local
      · simp only [hk, if_true]; rw [bindL_miss kd r _ x miss]; simp
      · simp only [hk, if_false]; rw [bindC_miss kd r _ x miss]; simp
    · unfold bindL bindC
      by_cases hk : kd x = some .local
      · simp only [hk, if_true]
        have := ih (if kd n = some .local then fun y => if y = n then some w else m y else m) x v hn.2 h
        rw [if_pos hk] at this; exact this
      · simp only [hk, if_false]
        have := ih (if kd n = some .local then m else fun y => if y = n then some w else m y) x v hn.2 h
        rw [if_neg hk] at this; exact this

theorem cellsFrom_npairs : ∀ (l : List (Str × NameKind)) (n : Nat) (acc : List (Str × Addr)), (l.map (·.1)).Nodup → acc.Pairwise (fun x y => x.1 ≠ y.1) → (∀ p ∈ acc, ∀ q ∈ l, p.1 ≠ q.1) → (cellsFrom n l acc).Pairwise (fun x y => x.1 ≠ y.1)
  | [], n, acc, _, h, _ => h
  | (x, k) :: r, n, acc, hn, h, hd => by
    rw [List.map_cons, List.nodup_cons] at hn
    unfold cellsFrom
    split
    · refine cellsFrom_npairs r _ _ hn.2 (List.pairwise_cons.mpr ⟨fun y hy e => hd y hy (x, k) List.mem_cons_self e.symm, h⟩) fun p hp q hq => ?_
      rcases List.mem_cons.mp hp with rfl | hp
      · exact fun e => hn.1 (List.mem_map.mpr ⟨q, hq, e.symm⟩)
      · exact hd p hp q (List.mem_cons_of_mem _ hq)
    · exact cellsFrom_npairs r n acc hn.2 h fun p hp q hq => hd p hp q (List.mem_cons_of_mem _ hq)
theorem lookup_pair {α : Type} : ∀ {l : List (Str × α)} {n : Str} {k : α}, l.Pairwise (fun x y => x.1 ≠ y.1) → (n, k) ∈ l → l.lookup n = some k
  | (x, y) :: r, n, k, hn, hm => by
    rw [List.pairwise_cons] at hn
    rw [List.lookup_cons]
    rcases List.mem_cons.mp hm with e | hm
    · obtain ⟨rfl, rfl⟩ := Prod.mk.inj e; simp
    · have : (n == x) = false := by simpa using fun e : n = x => hn.1 (n, k) hm e.symm
      rw [this]; exact lookup_pair hn.2 hm

noncomputable def codeK (K : Frag) (cd : Value) (q : Str) : Bool := match cd with
  | .ref a => (match K.lookup a with
      | some ⟨.type _, _, .fields vs, _⟩ => (match vs.toList with | _ :: .str n _ :: _ => n == q | _ => false)
      | _ => false)
  | _ => false
theorem codeK_rec {c : Cx} {s : Shared} (H : c.Ok) (S : St c s) {cd : Value} {q : Str} (h : codeK c.K cd q = true) : s.heap.CodeRec cd q := by
  unfold codeK at h
  split at h
  · rename_i a
    split at h
    · rename_i T d vs sl e
      split at h
      · rename_i x n t r e'
        have ho := S.inK H e (not_frail_cls nofun)
        refine ⟨a, _, vs, t, rfl, ho, rfl, ?_⟩
        have : n = q := by simpa using h
        subst this
        rw [← Array.getElem?_toList, e']; rfl
      · cases h
    · cases h
  · cases h

/-- a def of the text, as the head has written it out -/
theorem all0 {P : List Value → Prop} (h : P []) (l : List Value) (e : l.length = 0) : P l := List.eq_nil_of_length_eq_zero e ▸ h
theorem allS {n : Nat} {P : List Value → Prop} (h : ∀ a l, l.length = n → P (a :: l)) (l : List Value) (e : l.length = n + 1) : P l := by
  cases l with
  | nil => cases e
  | cons a l => exact h a l (Nat.succ.inj e)
theorem all1 {P : List Value → Prop} (h : ∀ a, P [a]) : ∀ l, l.length = 1 → P l := allS fun a => all0 (h a)
theorem all2 {P : List Value → Prop} (h : ∀ a b, P [a, b]) : ∀ l, l.length = 2 → P l := allS fun a => all1 (h a)
theorem all3 {P : List Value → Prop} (h : ∀ a b d, P [a, b, d]) : ∀ l, l.length = 3 → P l := allS fun a => all2 (h a)
theorem all4 {P : List Value → Prop} (h : ∀ a b d e, P [a, b, d, e]) : ∀ l, l.length = 4 → P l := allS fun a => all3 (h a)
structure DefAt (c : Cx) (f : Addr) (fd : FuncData) (body : List Stmt) (xs : List Str) : Prop where
  at_ : ∃ o, c.K.lookup f = some o ∧ o.data = .func fd
  body : fd.body = .stmts body
  clo : fd.closure = []
  code : codeK c.K fd.code fd.qualname = true
  glob : fd.globals = mainGlobals
  bi : fd.builtins = builtinsNs
  kind : fd.scope.kind = .function
  co : fd.scope.isCoroutine = false
  gen : fd.scope.isGenerator = false
  bind : ∀ vs : List Value, vs.length = xs.length → bindArgs fd ⟨vs, []⟩ = pure (xs.zip vs)
  names : xs.all (fun x => fd.scope.names.lookup x == some .local || fd.scope.names.lookup x == some .cell) = true
  nodup : xs.Nodup
  scope : decide ((fd.scope.names.map (·.1)).Nodup) = true

noncomputable def Fo (O : Addr → Prop) (env : Env) : Addr → Prop := fun a => O a ∨ FrameAddr env a

theorem fn_enter {c : Cx} (H : c.Ok) {f : Addr} {fd : FuncData} {body : List Stmt} {xs : List Str} {vs : List Value} {k : Nat} {A : Around} {s : Shared} {O : Addr → Prop} {Q : Value → Shared → Prop} (D : DefAt c f fd body xs)
    (R : Room (k + 1) A) (S : St c s) (ow : Own O s.heap) (hl : vs.length = xs.length)
    (h : ∀ s₁ env lv, env = callEnvC fd s.heap.objs.size f → Room k (A.deeper env) → Fs c s.heap (Fo O env) env lv s₁ → (∀ x v, (x, v) ∈ xs.zip vs → lv x = some v) → (∀ b o, s.heap.get? b = some o → s₁.heap.get? b = some o) →
      wpAny (model c.prog c.w) (A.deeper env) (execs body env) (fun fl s' => Q (match fl with | .ret v => v | _ => .none) s') F0 s₁) :
    wpAny (model c.prog c.w) A (call (.ref f) vs) Q F0 s := by
  obtain ⟨o, hK, ho⟩ := D.at_
  obtain ⟨p', loose, mean, mg, mb, T⟩ := H.top
  have nl : s.heap.NoLimit := by
    obtain ⟨mc, hn, e⟩ := T.nolimit
    exact ⟨mc, ns_grow hn S.grow, e⟩
  have nod : ((xs.zip vs).map (·.1)).Nodup := by
    rw [List.map_fst_zip (by omega)]; exact D.nodup
  refine wpAny_call (codeAny_call_cells (o := o) (fd := fd) (body := body) (binds := xs.zip vs) R.depth (S.inK H hK (fun q => by obtain ⟨_, w, e⟩ := q; rw [ho] at e; cases e)) ho nl (codeK_rec H S D.code) D.body (D.bind vs hl) D.clo ?_ (fun s₁ X => ?_) D.co D.gen D.kind)
  · intro x hx
    have hm : x.1 ∈ xs := (List.of_mem_zip hx).1
    have := List.all_eq_true.mp D.names x.1 hm
    rw [Bool.or_eq_true] at this
    rcases this with q | q
    · exact .inl (by simpa using q)
    · refine .inr ⟨by simpa using q, ?_⟩
      exact cellsFrom_some _ _ _ (.inl (by simpa using q))
  · have hb : c.hB.objs.size ≤ s.heap.objs.size := S.grow.1
    obtain ⟨h₁, tk, rfl, hk⟩ := X.done
    have hsz : s.heap.objs.size ≤ h₁.objs.size := Nat.le_of_lt (Nat.lt_of_le_of_lt X.toInCall.fresh X.toInCall.ns.lt)
    have fr : ∀ b, FrameAddr (callEnvC fd s.heap.objs.size f) b → s.heap.objs.size ≤ b ∧ b < h₁.objs.size := fun b q => by
      rcases q with rfl | ⟨n, q⟩
      · exact ⟨X.toInCall.fresh, X.toInCall.ns.lt⟩
      · refine ⟨Nat.le_trans X.toInCall.fresh (Nat.le_of_lt (X.above n b q)), ?_⟩
        exact (X.cell n b (lookup_pair (cellsFrom_npairs _ _ [] (of_decide_eq_true D.scope) List.Pairwise.nil (fun _ hp => nomatch hp)) q)).lt
    have F : Fs c s.heap (Fo O (callEnvC fd s.heap.objs.size f)) (callEnvC fd s.heap.objs.size f) (lvOf (callEnvC fd s.heap.objs.size f).kindOf (xs.zip vs)) { s with heap := h₁, toks := tk } := by
      refine ⟨S.keeps hk hsz rfl rfl, ⟨D.kind, D.glob, D.bi, ?_, X.apart, fun n cl q => ⟨Nat.ne_of_gt (X.above n cl q), ?_⟩⟩, fun a q => ?_, fun b q => .inr q, ⟨⟨_, X.toInCall.ns, fun x hx => by unfold lvOf; rw [if_pos hx]⟩, fun x cl hx e => ?_⟩, ⟨hsz, fun b o _ e => hk b o e⟩, fun b q => (fr b q).1, hb⟩
      · exact Nat.le_trans hb X.toInCall.fresh
      · exact Nat.le_trans hb (Nat.le_trans X.toInCall.fresh (Nat.le_of_lt (X.above n cl q)))
      · rcases q with q | q
        · exact Nat.lt_of_lt_of_le (ow a q) hsz
        · exact (fr a q).2
      · have := X.cell x cl e
        unfold lvOf; rw [if_neg hx]; exact this
    refine wpAny_mono (h _ _ _ rfl (R.deeper _) F (fun x v hm => lvOf_get _ _ _ x v nod hm) hk) (fun fl s' q => q) fun _ _ f => f.elim
end Mine
end
section
open PySem PySem.W PyProof.Rows
set_option maxRecDepth 100000
set_option linter.unusedVariables false
namespace Mine

theorem zip_get {c : Cx} {O : Addr → Prop} {h : Heap} : ∀ {xs : List Str} {ds : List D} {vs : List Value}, IsAll c O h ds vs → ∀ {x : Str} {d : D}, (xs.zip ds).lookup x = some d → ∃ v, (x, v) ∈ xs.zip vs ∧ Is c O h d v
  | [], ds, vs, i, x, d, e => by cases e
  | y :: ys, [], vs, i, x, d, e => by cases e
  | y :: ys, d' :: ds, vs, i, x, d, e => by
    unfold IsAll at i
    obtain ⟨v, r, rfl, i1, i2⟩ := i
    rw [List.zip_cons_cons, List.lookup_cons] at e
    rw [List.zip_cons_cons]
    cases q : x == y with
    | true => rw [q] at e; cases e; rw [beq_iff_eq.mp q]; exact ⟨v, List.mem_cons_self, i1⟩
    | false =>
      rw [q] at e
      obtain ⟨u, m, z⟩ := zip_get i2 e
      exact ⟨u, List.mem_cons_of_mem _ m, z⟩

theorem fn_pure {c : Cx} (H : c.Ok) {f : Addr} {fd : FuncData} {body : List Stmt} {xs : List Str} {ds : List D} {r : D} {k : Nat} (Df : DefAt c f fd body xs) (hl : ds.length = xs.length)
    (h : ∀ (O : Addr → Prop) A s env lv h₀, env = callEnvC fd h₀.objs.size f → Room k A → Fs c h₀ O env lv s → Bd c O lv s.heap (xs.zip ds) →
      wpAny (model c.prog c.w) A (execs body env) (fun fl s' => ∃ v, fl = .ret v ∧ St c s' ∧ Grow h₀ s'.heap ∧ Is c O s'.heap r v) F0 s) : FnO c (k + 1) f ds r := fun O A s vs R S ow i => by
  refine fn_enter H Df R S ow (by rw [i.length, hl]) fun s₁ env lv he R' F hb hk => ?_
  refine wpAny_mono (h (Fo O env) _ s₁ env lv s.heap he R' F fun x d e => ?_) (fun fl s' q => ?_) fun _ _ f => f
  · obtain ⟨v, m, z⟩ := zip_get i e
    refine ⟨v, hb x v m, ?_⟩
    exact Is.mono (fun a q => q.imp id fun q => F.above a q) (fun b o _ f e => hk b o e) _ _ (Is.up (Nat.le_refl _) _ _ z)
  · obtain ⟨v, rfl, S', g, z⟩ := q
    exact ⟨S', g, z.sub fun a q => .inl q⟩

/-! ranges -/
section
variable {c : Cx} {O : Addr → Prop} {k : Nat} {env : Env} {ρ : List (Str × D)} {A : Around} {s : Shared}
noncomputable def rints (a : Int) (n : Nat) : List D := (List.range n).map fun (i : Nat) => .int (a + (i : Int))
theorem rints_get {a : Int} {n i : Nat} {d : D} (h : (rints a n)[i]? = some d) : i < n ∧ d = .int (a + (i : Int)) := by
  unfold rints at h
  rw [List.getElem?_map] at h
  by_cases hi : i < n
  · rw [List.getElem?_range hi] at h; simp at h; exact ⟨hi, h.symm⟩
  · rw [List.getElem?_eq_none (by simpa using Nat.le_of_not_lt hi)] at h; simp at h
theorem wk_range {tgt : Expr} {N : Nat} {W : Addr} {a : Int} {n : Nat} (hW : N ≤ W) : Wk c O tgt N W (rints a n) (fun i h => IsRangeIter h W (a + i) ((n : Int) - i) 1) where
  new := hW
  live := fun i h x => Heap.lt_size x
  frame := fun i h h' x hk => hk W _ (.inr rfl) (not_frail_cls nofun) x
  item := fun A i d s O' Q E hh hd x hO' ow hQ => by
    obtain ⟨hi, rfl⟩ := rints_get hd
    refine wpAny_pyNext_range_item x (by omega) fun h' hit' hs => ?_
    refine letOwned_other (T := "range_iterator") hit' rfl (by decide) ?_
    refine hQ _ h' _ (by unfold Is; exact ⟨_, rfl⟩) ?_ hs.extBut (Nat.le_of_eq hs.1.symm)
    have e1 : a + ((i + 1 : Nat) : Int) = a + (i : Int) + 1 := by omega
    have e2 : (n : Int) - ((i + 1 : Nat) : Int) = (n : Int) - (i : Int) - 1 := by omega
    show IsRangeIter h' W (a + ((i + 1 : Nat) : Int)) ((n : Int) - ((i + 1 : Nat) : Int)) 1
    rw [e1, e2]; exact hit'
  done := fun A s Q E hh x hQ => by
    have e : (rints a n).length = n := by simp [rints]
    rw [e] at x
    have key : ∀ E, wpAny (model c.prog c.w) A (pyNext (.ref W)) (fun r s₁ => r = none ∧ ∃ h', s₁ = { s with heap := h' } ∧ Heap.ExtBut W s.heap h') E s := fun E =>
      wpAny_pyNext_range_end hh x (by omega) fun h' hx => ⟨rfl, h', rfl, hx⟩
    refine wpAny_mono (wpAny_size (key E)) (fun r s₁ y => ?_) fun _ _ f => f.1
    obtain ⟨⟨e1, h', e2, hx⟩, hsz⟩ := y
    subst e1 e2
    exact ⟨rfl, hQ h' _ hx hsz⟩
  self := fun A i s Q E x hQ => wpAny_pyIter_rangeiter x hQ

theorem boot_range : bootBuiltins "range" = some (.type "range") := by decide +kernel
theorem it_range2 (H : c.Ok) {p pos : Pos} {e1 e2 tgt : Expr} {a b : Int} (X : EvO c O k env ρ e1 (.int a)) (Y : EvO c O k env ρ e2 (.int b)) (hK : nsIn c.K mainGlobals "range" = some none) (hx : env.kindOf "range" = some .globalImplicit)
    (ha : -(2 ^ 62) ≤ a) (ha' : a < 2 ^ 62) (hb : -(2 ^ 62) ≤ b) (hb' : b < 2 ^ 62)
    (hs : starEach [e1, e2] env = (false, eval e1 env) :: starEach [e2] env := by rfl) (hs' : starEach [e2] env = (false, eval e2 env) :: starEach [] env := by rfl) :
    ItO c O k env ρ (.Call (.Name "range" p) [e1, e2] [] pos) tgt (rints a (b - a).toNat) := fun A s R S V => by
  show wpAny _ A (do callWith pos (← eval (.Name "range" p) env) [] (backTo pos (starEach [e1, e2] env)) []) _ _ s
  refine wpAny_bind (fnv_builtin H V.1 hK boot_range (by decide) hx (by decide) A s _ _ S ?_)
  refine PyProof.Rows.callWith_type (by rw [hs, hs']; rfl) (evs_args (evs_cons X (evs_cons Y evs_nil hs') hs) R S V hs fun vs s' S' g i => ?_)
  unfold IsAll at i
  obtain ⟨v, r, rfl, i, i2⟩ := i
  unfold IsAll at i2
  obtain ⟨v', r', rfl, i', i3⟩ := i2
  unfold IsAll at i3
  subst i3
  unfold Is at i i'
  obtain ⟨t, rfl⟩ := i
  obtain ⟨u, rfl⟩ := i'
  refine call_range_2 ?_
  have g1 := Grow.push s'.heap { cls := .type "range", data := .fields #[.int a t, .int b u, .int 1 s'.toks] }
  refine wpAny_pyIter_range (IsRange.new ..) (small_one ha ha' hb hb') ?_
  have S1 := S'.push { cls := .type "range", data := .fields #[.int a t, .int b u, .int 1 s'.toks] } (g := s'.gens) (d := s'.drawn) (t := s'.toks + 1) (os := s'.os) rfl rfl
  refine ⟨S1.push _ rfl rfl, (g.trans g1).trans (Grow.push _ _), _, _, _, rfl, Nat.le_trans g.1 g1.1, ?_, wk_range (Nat.le_refl _)⟩
  show IsRangeIter _ _ _ _ _
  have e : Builtin.Range.rangeSize a b 1 = (((b - a).toNat : Nat) : Int) - ((0 : Nat) : Int) := by rw [rangeSize_one]; split <;> omega
  rw [← e]
  have e' : a + ((0 : Nat) : Int) = a := by omega
  rw [e']
  exact Heap.get?_push_size _ rfl
theorem it_range1 (H : c.Ok) {p pos : Pos} {e1 tgt : Expr} {b : Int} (X : EvO c O k env ρ e1 (.int b)) (hK : nsIn c.K mainGlobals "range" = some none) (hx : env.kindOf "range" = some .globalImplicit)
    (hb : -(2 ^ 62) ≤ b) (hb' : b < 2 ^ 62)
    (hs : starEach [e1] env = (false, eval e1 env) :: starEach [] env := by rfl) :
    ItO c O k env ρ (.Call (.Name "range" p) [e1] [] pos) tgt (rints 0 b.toNat) := fun A s R S V => by
  show wpAny _ A (do callWith pos (← eval (.Name "range" p) env) [] (backTo pos (starEach [e1] env)) []) _ _ s
  refine wpAny_bind (fnv_builtin H V.1 hK boot_range (by decide) hx (by decide) A s _ _ S ?_)
  refine PyProof.Rows.callWith_type (by rw [hs]; rfl) (evs_args (evs_cons X evs_nil hs) R S V hs fun vs s' S' g i => ?_)
  unfold IsAll at i
  obtain ⟨v, r, rfl, i, i2⟩ := i
  unfold IsAll at i2
  subst i2
  unfold Is at i
  obtain ⟨t, rfl⟩ := i
  refine call_range_1 ?_
  have g1 := Grow.push s'.heap { cls := .type "range", data := .fields #[.int 0 s'.toks, .int b t, .int 1 (s'.toks + 1)] }
  refine wpAny_pyIter_range (IsRange.new ..) (small_one (by decide) (by decide) hb hb') ?_
  have S1 := S'.push { cls := .type "range", data := .fields #[.int 0 s'.toks, .int b t, .int 1 (s'.toks + 1)] } (g := s'.gens) (d := s'.drawn) (t := s'.toks + 1 + 1) (os := s'.os) rfl rfl
  refine ⟨S1.push _ rfl rfl, (g.trans g1).trans (Grow.push _ _), _, _, _, rfl, Nat.le_trans g.1 g1.1, ?_, wk_range (Nat.le_refl _)⟩
  show IsRangeIter _ _ _ _ _
  have e : Builtin.Range.rangeSize 0 b 1 = ((b.toNat : Nat) : Int) - ((0 : Nat) : Int) := by rw [rangeSize_one]; split <;> omega
  rw [← e]
  have e' : (0 : Int) + ((0 : Nat) : Int) = 0 := by omega
  rw [e']
  exact Heap.get?_push_size _ rfl
end

/-! the text's defs -/
noncomputable def fdOf (P : Params) (f : Addr) : FuncData := match (KM P).lookup f with
  | some ⟨_, _, .func fd, _⟩ => fd
  | _ => default
noncomputable def bodyOf (P : Params) (f : Addr) : List Stmt := match (fdOf P f).body with
  | .stmts b => b
  | _ => []
noncomputable def objOf (P : Params) (f : Addr) : Obj := ((KM P).lookup f).getD default
structure Cx.Good (c : Cx) : Prop where
  ok : c.Ok
  K : c.K = KM c.w.params

theorem def_pairs {c : Cx} (G : c.Good) : DefAt c 138 (fdOf c.w.params 138) (bodyOf c.w.params 138) ["names"] where
  at_ := ⟨objOf c.w.params 138, by rw [G.K]; kernel_rfl, by kernel_rfl⟩
  body := by kernel_rfl
  clo := by kernel_rfl
  code := by rw [G.K]; kernel_rfl
  glob := by kernel_rfl
  bi := by kernel_rfl
  kind := by kernel_rfl
  co := by kernel_rfl
  gen := by kernel_rfl
  bind := all1 fun a => by kernel_rfl
  names := by kernel_rfl
  nodup := by decide
  scope := by kernel_rfl
end Mine
end
section
open PySem PySem.W PyProof.Rows
set_option maxRecDepth 100000
set_option linter.unusedVariables false
namespace Mine
section
variable {c : Cx} {O : Addr → Prop} {k : Nat} {env : Env} {ρ : List (Str × D)} {A : Around} {s : Shared}
theorem lc_name {x : Str} {p : Pos} {elt iter : Expr} {ifs : List Expr} {scope : Scope} {items : List D} {cond : D → Bool} {F : D → D}
    (src : ItO c O k env ρ iter (.Name x p) items) (size : items.length ≤ sizeLine)
    (test : ∀ O' C d, d ∈ items → IfO c O' k (compX scope env C) ((x, d) :: ρ) ifs (cond d))
    (val : ∀ O' C d, d ∈ items → cond d = true → EvO c O' k (compX scope env C) ((x, d) :: ρ) elt (F d))
    (ok : compOk scope env = true := by kernel_rfl) (hxs : [x].all (fun x => scope.names.lookup x == some .local || scope.names.lookup x == some .cell) = true := by kernel_rfl)
    (rho : ρ.all (fun p => scope.names.lookup p.1 != some .local && scope.names.lookup p.1 != some .cell) = true := by kernel_rfl)
    (has : ∀ C, Has (compX scope env C) x = true := by intro C; kernel_rfl) (nf : ∀ C, decide ((compX scope env C).kindOf x ≠ some .free) = true := by intro C; kernel_rfl) :
    LcO c O k env ρ elt (.Name x p) iter ifs scope [x] items cond F (fun d => [(x, d)]) where
  ok := ok
  hxs := hxs
  rho := rho
  size := size
  src := src
  bind := fun C d _ => as_name (has C) (of_decide_eq_true (nf C))
  test := test
  val := val
  keys := fun d _ y hy => by rw [lookup_one, if_neg (by simpa using hy)]
noncomputable def pairSig (x y : Str) : D → List (Str × D)
  | .tuple [a, b] => [(x, a), (y, b)]
  | _ => []
theorem lc_pair {x y : Str} {p q r : Pos} {n : Nat} {elt iter : Expr} {ifs : List Expr} {scope : Scope} {items : List D} {cond : D → Bool} {F : D → D}
    (src : ItO c O k env ρ iter (.Tuple [.Name x p, .Name y q] n r) items) (size : items.length ≤ sizeLine) (two : ∀ d ∈ items, ∃ a b, d = .tuple [a, b])
    (test : ∀ O' C a b, .tuple [a, b] ∈ items → IfO c O' k (compX scope env C) ((x, a) :: (y, b) :: ρ) ifs (cond (.tuple [a, b])))
    (val : ∀ O' C a b, .tuple [a, b] ∈ items → cond (.tuple [a, b]) = true → EvO c O' k (compX scope env C) ((x, a) :: (y, b) :: ρ) elt (F (.tuple [a, b])))
    (ok : compOk scope env = true := by kernel_rfl) (hxs : [x, y].all (fun x => scope.names.lookup x == some .local || scope.names.lookup x == some .cell) = true := by kernel_rfl)
    (rho : ρ.all (fun p => scope.names.lookup p.1 != some .local && scope.names.lookup p.1 != some .cell) = true := by kernel_rfl)
    (has : ∀ C, [x, y].all (fun x => Has (compX scope env C) x && decide ((compX scope env C).kindOf x ≠ some .free)) = true := by intro C; kernel_rfl) (nd : decide ([x, y].Nodup) = true := by kernel_rfl) :
    LcO c O k env ρ elt (.Tuple [.Name x p, .Name y q] n r) iter ifs scope [x, y] items cond F (pairSig x y) where
  ok := ok
  hxs := hxs
  rho := rho
  size := size
  src := src
  bind := fun C d hd => by
    obtain ⟨a, b, rfl⟩ := two d hd
    exact as_tuple (ds := [a, b]) (.cons (.cons .nil)) rfl (fun z hz => by
      have := List.all_eq_true.mp (has C) z hz
      rw [Bool.and_eq_true] at this
      exact ⟨this.1, of_decide_eq_true this.2⟩) (of_decide_eq_true nd)
  test := fun O' C d hd => by
    obtain ⟨a, b, rfl⟩ := two d hd
    exact test O' C a b hd
  val := fun O' C d hd hc => by
    obtain ⟨a, b, rfl⟩ := two d hd
    exact val O' C a b hd hc
  keys := fun d hd z hz => by
    obtain ⟨a, b, rfl⟩ := two d hd
    exact zip_lookup_none (ds := [a, b]) hz
end
end Mine
end
section
open PySem PySem.W PyProof.Rows
set_option maxRecDepth 100000
set_option linter.unusedVariables false
namespace Mine
section
variable {c : Cx} {O : Addr → Prop} {k : Nat} {env : Env} {ρ : List (Str × D)} {A : Around} {s : Shared}
theorem ev_neg {e : Expr} {pos : Pos} {i : Int} (X : EvO c O k env ρ e (.int i)) : EvO c O k env ρ (.UnaryOp .USub e pos) (.int (-i)) := fun A s R S V => by
  rw [arm_eval_UnaryOp]
  refine wpAny_bind (X.use R S V fun v s' S' g y => ?_)
  unfold Is at y; obtain ⟨t, rfl⟩ := y
  exact wpAny_bind (wpAny_standAt (wpAny_holding (PyProof.Rows.neg_int ⟨S'.tok _, g, by unfold Is; exact ⟨_, rfl⟩⟩)))
theorem IsAll.one {d : D} {vs : List Value} (i : IsAll c O s.heap [d] vs) : ∃ v, vs = [v] ∧ Is c O s.heap d v := by
  unfold IsAll at i
  obtain ⟨v, r, rfl, i, i2⟩ := i
  unfold IsAll at i2
  subst i2
  exact ⟨v, rfl, i⟩
theorem IsAll.two {d d' : D} {vs : List Value} (i : IsAll c O s.heap [d, d'] vs) : ∃ v v', vs = [v, v'] ∧ Is c O s.heap d v ∧ Is c O s.heap d' v' := by
  unfold IsAll at i
  obtain ⟨v, r, rfl, i, i2⟩ := i
  obtain ⟨v', rfl, j⟩ := i2.one
  exact ⟨v, v', rfl, i, j⟩
theorem Ret.keep {d : D} {v : Value} {s : Shared} {h' : Heap} {tk : Nat} (S : St c s) (hk : ∀ b o, s.heap.get? b = some o → h'.get? b = some o) (hz : s.heap.objs.size ≤ h'.objs.size) (i : Is c O h' d v) : Ret c O s d v { s with heap := h', toks := tk } :=
  ⟨S.keeps hk hz rfl rfl, ⟨hz, fun b o _ e => hk b o e⟩, i⟩

theorem ev_intBool (G : c.Good) {p pos : Pos} {e : Expr} {b : Bool} (X : EvO c O k env ρ e (.bool b)) (hx : env.kindOf "int" = some .globalImplicit)
    (hs : starEach [e] env = (false, eval e env) :: starEach [] env := by rfl) : EvO c O k env ρ (.Call (.Name "int" p) [e] [] pos) (.int (if b then 1 else 0)) :=
  ev_call_type (T := "int") (fun ES => fnv_builtin G.ok ES (by rw [G.K]; kernel_rfl) boot_int (by decide) hx) (evs_cons X evs_nil hs) (fun A s vs R S ow i => by
    obtain ⟨v, rfl, j⟩ := i.one
    unfold Is at j; subst j
    exact call_int_bool ⟨S.tok _, Grow.refl _, by unfold Is; exact ⟨_, rfl⟩⟩) hs rfl (by rw [hs]; rfl)
theorem boot_max : bootBuiltins "max" = some (.builtin "max") := by decide +kernel
theorem boot_sum : bootBuiltins "sum" = some (.builtin "sum") := by decide +kernel
theorem ev_max (G : c.Good) {p pos : Pos} {e1 e2 : Expr} {a b : Int} (X : EvO c O k env ρ e1 (.int a)) (Y : EvO c O k env ρ e2 (.int b)) (hx : env.kindOf "max" = some .globalImplicit)
    (hs : starEach [e1, e2] env = (false, eval e1 env) :: starEach [e2] env := by rfl) (hs' : starEach [e2] env = (false, eval e2 env) :: starEach [] env := by rfl) : EvO c O k env ρ (.Call (.Name "max" p) [e1, e2] [] pos) (.int (max a b)) :=
  ev_call_builtin (id := "max") (fun ES => fnv_builtin G.ok ES (by rw [G.K]; kernel_rfl) boot_max (by decide) hx) (evs_cons X (evs_cons Y evs_nil hs') hs) (fun A s vs R S ow i => by
    obtain ⟨v, v', rfl, i, j⟩ := i.two
    unfold Is at i j; obtain ⟨t, rfl⟩ := i; obtain ⟨u, rfl⟩ := j
    have key : ∀ E, wpAny (model c.prog c.w) A (call (.builtin "max") [.int a t, .int b u]) (fun v s' => (∃ t', v = .int (max a b) t') ∧ ∃ h' tk, s' = { s with heap := h', toks := tk } ∧ ∀ b o, s.heap.get? b = some o → h'.get? b = some o) E s := fun E =>
      max_two_ints R.1 fun h' tk hk => by
        refine ⟨?_, h', tk, rfl, hk⟩
        split
        · exact ⟨u, by congr 1; omega⟩
        · exact ⟨t, by congr 1; omega⟩
    refine wpAny_mono (wpAny_size (key F0)) (fun v s' q => ?_) fun _ _ f => f.1
    obtain ⟨⟨⟨t', e1⟩, h', tk, e2, hk⟩, hz⟩ := q
    subst e1 e2
    exact Ret.keep S hk hz (by unfold Is; exact ⟨_, rfl⟩)) hs rfl (by rw [hs, hs']; rfl)
noncomputable def intsD (ns : List Int) : List D := ns.map .int
theorem ints_items : ∀ {ns : List Int} {vs : List Value} {h : Heap}, IsAll c O h (intsD ns) vs → ∃ xs : List (Int × Tok), vs = xs.map (fun p => .int p.1 p.2) ∧ xs.map (·.1) = ns
  | [], vs, h, i => by unfold intsD at i; rw [List.map_nil] at i; unfold IsAll at i; subst i; exact ⟨[], rfl, rfl⟩
  | n :: ns, vs, h, i => by
    unfold intsD at i
    rw [List.map_cons] at i
    unfold IsAll at i
    obtain ⟨v, r, rfl, i, j⟩ := i
    unfold Is at i
    obtain ⟨t, rfl⟩ := i
    obtain ⟨xs, e1, e2⟩ := ints_items (ns := ns) j
    exact ⟨(n, t) :: xs, by rw [e1]; rfl, by rw [← e2]; rfl⟩
theorem ev_sum (G : c.Good) {p pos : Pos} {e : Expr} {ns : List Int} (X : EvO c O k env ρ e (.list (intsD ns))) (hx : env.kindOf "sum" = some .globalImplicit)
    (hs : starEach [e] env = (false, eval e env) :: starEach [] env := by rfl) : EvO c O k env ρ (.Call (.Name "sum" p) [e] [] pos) (.int ns.sum) :=
  ev_call_builtin (id := "sum") (fun ES => fnv_builtin G.ok ES (by rw [G.K]; kernel_rfl) boot_sum (by decide) hx) (evs_cons X evs_nil hs) (fun A s vs R S ow i => by
    obtain ⟨v, rfl, j⟩ := i.one
    unfold Is at j
    obtain ⟨a, vs, n, rfl, na, ho, r⟩ := j
    obtain ⟨xs, e1, e2⟩ := ints_items r
    have hv : vs = intItems xs.toArray := by apply Array.ext'; rw [e1]; simp [intItems]
    subst hv
    have key : ∀ E, wpAny (model c.prog c.w) A (call (.builtin "sum") [.ref a]) (fun v s' => (∃ t', v = .int ns.sum t') ∧ ∃ h' tk, s' = { s with heap := h', toks := tk } ∧ ∀ b o, s.heap.get? b = some o → h'.get? b = some o) E s := fun E =>
      sum_intListG R.1 ⟨_, ho, rfl, n, rfl⟩ fun h' tk t' hk => by
        refine ⟨⟨t', ?_⟩, h', tk, rfl, hk⟩
        rw [preSum_eq, ← e2]
        rw [List.take_of_length_le (by simp)]
    refine wpAny_mono (wpAny_size (key F0)) (fun v s' q => ?_) fun _ _ f => f.1
    obtain ⟨⟨⟨t', e1⟩, h', tk, e2, hk⟩, hz⟩ := q
    subst e1 e2
    exact Ret.keep S hk hz (by unfold Is; exact ⟨_, rfl⟩)) hs rfl (by rw [hs]; rfl)
end
end Mine
end
section
open PySem PySem.W PyProof.Rows
set_option maxRecDepth 100000
set_option linter.unusedVariables false
namespace Mine
noncomputable def Mut (O : Addr → Prop) (N : Nat) (W : Addr) : Addr → Prop := fun a => a ≠ W ∧ (O a ∨ N ≤ a)
noncomputable def AddO (O : Addr → Prop) (W : Addr) : Addr → Prop := fun a => O a ∨ a = W
section
variable {c : Cx} {h₀ : Heap} {O : Addr → Prop} {k : Nat} {env : Env} {lv : Str → Option Value} {ρ : List (Str × D)} {A : Around} {s : Shared}

theorem Fs.add (F : Fs c h₀ O env lv s) {W : Addr} (hW : W < s.heap.objs.size) : Fs c h₀ (AddO O W) env lv s :=
  ⟨F.st, F.es, fun a q => q.elim (F.own a) fun e => e ▸ hW, fun b q => .inl (F.fr b q), F.frm, F.grow, F.above, F.base⟩
theorem Bd.add {h : Heap} (B : Bd c O lv h ρ) {W : Addr} (hW : h.objs.size ≤ W) : Bd c (AddO O W) lv h ρ := (B.up (Nat.le_refl _)).sub fun a (q : AddO O W a) => q.imp id fun (e : a = W) => e ▸ hW

/-- a for statement, by what holds ahead of each turn -/
theorem st_for {tgt iter : Expr} {body : List Stmt} {pos : Pos} {items : List D} {Q : Flow → Shared → Prop} (P : Addr → Nat → Nat → (Str → Option Value) → Shared → Prop)
    (hI : ItO c O k env ρ iter tgt items) (R : Room k A) (F : Fs c h₀ O env lv s) (B : Bd c O lv s.heap ρ)
    (start : ∀ W N s', s.heap.objs.size ≤ N → N ≤ W → Fs c h₀ (AddO O W) env lv s' → Grow s.heap s'.heap → P W N 0 lv s')
    (turn : ∀ W N i d lv' s' v, s.heap.objs.size ≤ N → N ≤ W → items[i]? = some d → (∀ a, O a → Mut O N W a) → (∃ s₀, P W N i lv' s₀ ∧ Chg (fun a => a = W) s₀.heap s'.heap) → Fs c h₀ (AddO O W) env lv' s' → Is c (AddO O W) s'.heap d v →
      wpAny (model c.prog c.w) A (assign tgt env v) (fun _ s₂ => wpAny (model c.prog c.w) A (execs body env) (fun f s₃ => match f with
        | .next | .cont => ∃ lv₃, Fs c h₀ (AddO O W) env lv₃ s₃ ∧ P W N (i + 1) lv₃ s₃ ∧ Chg (Mut O N W) s'.heap s₃.heap
        | .brk => Q .next s₃
        | .ret v => Q (.ret v) s₃) F0 s₂) F0 s')
    (last : ∀ W N lv' s', s.heap.objs.size ≤ N → N ≤ W → (∃ s₀, P W N items.length lv' s₀ ∧ Chg (fun a => a = W) s₀.heap s'.heap) → Fs c h₀ (AddO O W) env lv' s' → Q .next s')
    (hs : ∀ x, foldedSetIterable iter env x = pure x := by intro _; rfl) :
    wpAny (model c.prog c.w) A (exec (.For tgt iter body [] pos) env) Q F0 s := by
  refine wpAny_For (wpAny_mono (hI A s R F.st (F.ok B)) (fun x s₁ h₁ => wpAny_mono h₁ (fun it s₂ h₂ => ?_) fun _ _ f => f) fun _ _ f => f) hs
  obtain ⟨S₂, g₂, N, W, J, rfl, hN, j0, wk⟩ := h₂
  have hW := wk.new
  have F₂ := (F.go S₂ g₂).add (wk.live 0 _ j0)
  have hB : c.hB.objs.size ≤ W := Nat.le_trans F.st.grow.1 (Nat.le_trans hN hW)
  have hmut : ∀ a, O a → Mut O N W a := fun a q => ⟨Nat.ne_of_lt (Nat.lt_of_lt_of_le (F.own a q) (Nat.le_trans hN hW)), .inl q⟩
  have h₀W : h₀.objs.size ≤ W := Nat.le_trans F.grow.1 (Nat.le_trans hN hW)
  have up : ∀ a, AddO O W a → O a ∨ N ≤ a := fun a (q : AddO O W a) => q.imp id fun (e : a = W) => e ▸ hW
  -- the frame behind a draw
  have ext : ∀ {lv' s' h' tk}, Fs c h₀ (AddO O W) env lv' s' → Heap.ExtBut W s'.heap h' → s'.heap.objs.size ≤ h'.objs.size → Fs c h₀ (AddO O W) env lv' { s' with heap := h', toks := tk } ∧ Chg (fun a => a = W) s'.heap h' := fun {lv' s' h' tk} F' hx hz => by
    refine ⟨⟨F'.st.ext hB hx hz rfl rfl, F'.es, fun a q => Nat.lt_of_lt_of_le (F'.own a q) hz, F'.fr, F'.frm.ext fun b q o e => hx b o (fun z => ?_) e, ⟨Nat.le_trans F'.grow.1 hz, fun b o f e => hx b o (Nat.ne_of_lt (Nat.lt_of_lt_of_le (Heap.lt_size e) h₀W)) (F'.grow.2 b o f e)⟩, F'.above, F'.base⟩, ⟨hz, fun b o n f e => hx b o n e⟩⟩
    exact (hmut b (F.fr b q)).1 z
  refine codeAny_mono (codeAny_forLoop_any (R := fun r s' => match r with | .ok f => Q f s' | .error e => False) (fun m s' => ∃ i lv', i ≤ items.length ∧ m = items.length - i ∧ Fs c h₀ (AddO O W) env lv' s' ∧ P W N i lv' s' ∧ J i s'.heap) (fun m s' hI => ?_) items.length ⟨0, lv, Nat.zero_le _, rfl, F₂, start W N s₂ hN hW F₂ g₂, j0⟩) (fun r s' q => by cases r with | ok f => exact q | error e => exact q.elim)
  obtain ⟨i, lv', hi, rfl, F', p, j⟩ := hI
  have no : ∀ (e : Value) (s' : Shared), F0 e s' → notedBy (model c.prog c.w) A env (fun e s' => False) e s' := fun _ _ f => f.elim
  by_cases hlt : i < items.length
  · have hd : items[i]? = some items[i] := by simp [hlt]
    generalize items[i] = d at hd
    refine wpAny_mono (wk.draw (E := F0) (N' := fun _ => False) (Q := fun v s₁' => wpAny (model c.prog c.w) A (assign tgt env v) (fun _ s₂ => wpAny (model c.prog c.w) A (execs body env) (fun f s₃ => match f with
        | .next | .cont => ∃ m, m < items.length - i ∧ ∃ i' lv', i' ≤ items.length ∧ m = items.length - i' ∧ Fs c h₀ (AddO O W) env lv' s₃ ∧ P W N i' lv' s₃ ∧ J i' s₃.heap
        | .brk => Q .next s₃
        | .ret v => Q (.ret v) s₃) F0 s₂) F0 s₁') R.1 hd j up F'.own fun v h1 tk iv j1 hx hz => ?_) (fun r s₁ q => ?_) no
    · obtain ⟨F1, ch1⟩ := ext (tk := tk) F' hx hz
      refine wpAny_mono (turn W N i d lv' _ v hN hW hd hmut ⟨s', p, ch1⟩ F1 iv) (fun _ s₂ q => wpAny_mono q (fun f s₃ q => ?_) fun _ _ f => f) fun _ _ f => f
      have fin : (∃ lv₃, Fs c h₀ (AddO O W) env lv₃ s₃ ∧ P W N (i + 1) lv₃ s₃ ∧ Chg (Mut O N W) h1 s₃.heap) → ∃ m, m < items.length - i ∧ ∃ i' lv', i' ≤ items.length ∧ m = items.length - i' ∧ Fs c h₀ (AddO O W) env lv' s₃ ∧ P W N i' lv' s₃ ∧ J i' s₃.heap := fun ⟨lv₃, F3, p3, ch⟩ =>
        ⟨items.length - (i + 1), by omega, i + 1, lv₃, hlt, rfl, F3, p3, wk.frame _ _ _ j1 fun b o hb f e => ch.2 b o (fun q => by
          rcases hb with ⟨nb, hb⟩ | hb
          · exact q.2.elim nb fun z => Nat.lt_irrefl _ (Nat.lt_of_lt_of_le hb z)
          · exact q.1 hb) f e⟩
      cases f with
      | next => exact fin q
      | cont => exact fin q
      | brk => exact q
      | ret v => exact q
    · cases r with
      | none => exact q.elim
      | some v =>
        refine wpAny_mono q (fun _ s₁' q => wpAny_mono q (fun _ s₂ q => wpAny_mono q (fun f s₃ q => ?_) no) no) no
        cases f <;> exact q
  · have e : i = items.length := by omega
    subst e
    refine wpAny_mono (wk.over (E := F0) (Q := fun _ _ => False) (N' := fun s₁ => Q .next s₁) R.1 j fun h' tk hx hz => ?_) (fun r s₁ q => ?_) no
    · obtain ⟨F1, ch1⟩ := ext (tk := tk) F' hx hz
      exact last W N lv' _ hN hW ⟨s', p, ch1⟩ F1
    · cases r with
      | none => exact wpAny_execs_nil q
      | some v => exact q.elim
end
end Mine
end
section
open PySem PySem.W PyProof.Rows
set_option maxRecDepth 100000
set_option linter.unusedVariables false
namespace Mine
section
variable {c : Cx} {O : Addr → Prop} {k : Nat} {env : Env} {ρ : List (Str × D)} {A : Around} {s : Shared}

theorem IsKv.get : ∀ {ds : List (Str × D)} {kvs : List (Str × Value)} {h : Heap}, IsKv c O h ds kvs → ∀ {i : Nat} {x : Str} {d : D}, ds[i]? = some (x, d) → ∃ v, kvs[i]? = some (x, v) ∧ Is c O h d v
  | [], kvs, h, i, n, x, d, e => by simp at e
  | (x', d') :: ds, kvs, h, i, n, x, d, e => by
    unfold IsKv at i
    obtain ⟨v, r, rfl, a, b⟩ := i
    cases n with
    | zero => simp at e; obtain ⟨rfl, rfl⟩ := e; exact ⟨v, rfl, a⟩
    | succ n => simp at e; obtain ⟨v', e', y⟩ := IsKv.get b e; exact ⟨v', by simpa using e', y⟩

/-- the parts that the three walks over a dict share -/
structure DcAt (c : Cx) (O : Addr → Prop) (N : Nat) (d : Addr) (ds : List (Str × D)) (kvs : List (Str × Value)) (ep : Nat) (h : Heap) : Prop where
  at_ : h.DictAt (strKind c.prog c.w) d kvs ep
  kv : IsKv c (Up O N) h ds kvs
theorem DcAt.frame {N : Nat} {d W : Addr} {ds : List (Str × D)} {kvs : List (Str × Value)} {ep : Nat} {h h' : Heap} (x : DcAt c O N d ds kvs ep h) (hd : d < N) (hO : ¬ O d)
    (hk : ∀ b o, (¬ O b ∧ b < N) ∨ b = W → ¬ Frail o → h.get? b = some o → h'.get? b = some o) : DcAt c O N d ds kvs ep h' := by
  obtain ⟨⟨o, es, ho, hx, r⟩, kv⟩ := x
  exact ⟨⟨o, es, hk d o (.inl ⟨hO, hd⟩) (not_frail_dict hx) ho, hx, r⟩, IsKv.mono (fun _ q => q) (fun b o nb f e => hk b o (.inl (notO_of nb)) f e) _ _ kv⟩
theorem DcAt.ext {N : Nat} {d W : Addr} {ds : List (Str × D)} {kvs : List (Str × Value)} {ep : Nat} {h h' : Heap} (x : DcAt c O N d ds kvs ep h) (hd : d < N) (hW : N ≤ W) (hx : Heap.ExtBut W h h') : DcAt c O N d ds kvs ep h' := by
  obtain ⟨⟨o, es, ho, r⟩, kv⟩ := x
  exact ⟨⟨o, es, hx d o (Nat.ne_of_lt (Nat.lt_of_lt_of_le hd hW)) ho, r⟩, IsKv.mono (fun _ q => q) (fun b o nb f e => hx b o (Nat.ne_of_lt (Nat.lt_of_lt_of_le (notO_of nb).2 hW)) e) _ _ kv⟩

theorem wk_keys {tgt : Expr} {N : Nat} {d W : Addr} {ds : List (Str × D)} {kvs : List (Str × Value)} {ep : Nat} (hW : N ≤ W) (hl : d < N) (hO : ¬ O d) (hz : kvs.length = ds.length) :
    Wk c O tgt N W (ds.map fun p => .str p.1) (fun i h => h.IsKeyIter W d i kvs.length ep ∧ DcAt c O N d ds kvs ep h) where
  new := hW
  live := fun i h x => let ⟨o, ho, _⟩ := x.1; Heap.lt_size ho
  frame := fun i h h' x hk => by
    obtain ⟨⟨o, ho, hc, hd⟩, y⟩ := x
    exact ⟨⟨o, hk W o (.inr rfl) (not_frail_cls (by rw [hc]; nofun)) ho, hc, hd⟩, y.frame hl hO hk⟩
  item := fun A i e s O' Q E hh hd x hO' ow hQ => by
    obtain ⟨hit, y⟩ := x
    rw [List.getElem?_map, Option.map_eq_some_iff] at hd
    obtain ⟨⟨x, d'⟩, hx, rfl⟩ := hd
    obtain ⟨v, hv, z⟩ := y.kv.get hx
    refine wpAny_pyNext_dict_item hit y.at_ hv fun key h' hkey hit' hs => ?_
    obtain ⟨o, ho, hc, hdt⟩ := hit'
    refine letOwned_other (T := "dict_keyiterator") ho hc (by decide) ?_
    obtain ⟨t, rfl⟩ := Value.isStrOf_shape hkey
    exact hQ _ h' _ (by unfold Is; exact ⟨t, rfl⟩) ⟨⟨o, ho, hc, hdt⟩, y.ext hl hW hs.extBut⟩ hs.extBut (Nat.le_of_eq hs.1.symm)
  done := fun A s Q E hh x hQ => by
    obtain ⟨hit, y⟩ := x
    have hz' : kvs[(ds.map fun p => D.str p.1).length]? = none := by rw [List.getElem?_eq_none_iff, List.length_map, hz]; exact Nat.le_refl _
    have key : ∀ E, wpAny (model c.prog c.w) A (pyNext (.ref W)) (fun r s₁ => r = none ∧ ∃ h', s₁ = { s with heap := h' } ∧ Heap.ExtBut W s.heap h') E s := fun E =>
      wpAny_pyNext_dict_end hh hit y.at_ hz' fun h' hx => ⟨rfl, h', rfl, hx⟩
    refine wpAny_mono (wpAny_size (key E)) (fun r s₁ y => ?_) fun _ _ f => f.1
    obtain ⟨⟨e1, h', e2, hx⟩, hsz⟩ := y
    subst e1 e2
    exact ⟨rfl, hQ h' _ hx hsz⟩
  self := fun A i s Q E x hQ => wpAny_pyIter_keyiter x.1 hQ
theorem wk_values {tgt : Expr} {N : Nat} {d W : Addr} {ds : List (Str × D)} {kvs : List (Str × Value)} {ep : Nat} (hW : N ≤ W) (hl : d < N) (hO : ¬ O d) (hz : kvs.length = ds.length) :
    Wk c O tgt N W (ds.map (·.2)) (fun i h => h.IsValIter W d i kvs.length ep ∧ DcAt c O N d ds kvs ep h) where
  new := hW
  live := fun i h x => let ⟨o, ho, _⟩ := x.1; Heap.lt_size ho
  frame := fun i h h' x hk => by
    obtain ⟨⟨o, ho, hc, hd⟩, y⟩ := x
    exact ⟨⟨o, hk W o (.inr rfl) (not_frail_cls (by rw [hc]; nofun)) ho, hc, hd⟩, y.frame hl hO hk⟩
  item := fun A i e s O' Q E hh hd x hO' ow hQ => by
    obtain ⟨hit, y⟩ := x
    rw [List.getElem?_map, Option.map_eq_some_iff] at hd
    obtain ⟨⟨x, d'⟩, hx, rfl⟩ := hd
    obtain ⟨v, hv, z⟩ := y.kv.get hx
    refine wpAny_pyNext_values_item hit y.at_ hv fun h' hit' hs => ?_
    obtain ⟨o, ho, hc, hdt⟩ := hit'
    refine letOwned_other (T := "dict_valueiterator") ho hc (by decide) ?_
    exact hQ _ h' _ (Is.mono (fun a q => hO' a q) (fun b o nb f e => (hs.2 b (Nat.ne_of_lt (Nat.lt_of_lt_of_le (notO_of nb).2 hW))).trans e) _ _ z) ⟨⟨o, ho, hc, hdt⟩, y.ext hl hW hs.extBut⟩ hs.extBut (Nat.le_of_eq hs.1.symm)
  done := fun A s Q E hh x hQ => by
    obtain ⟨hit, y⟩ := x
    have hz' : kvs[(ds.map (·.2)).length]? = none := by rw [List.getElem?_eq_none_iff, List.length_map, hz]; exact Nat.le_refl _
    have key : ∀ E, wpAny (model c.prog c.w) A (pyNext (.ref W)) (fun r s₁ => r = none ∧ ∃ h', s₁ = { s with heap := h' } ∧ Heap.ExtBut W s.heap h') E s := fun E =>
      wpAny_pyNext_values_end hh hit y.at_ hz' fun h' hx => ⟨rfl, h', rfl, hx⟩
    refine wpAny_mono (wpAny_size (key E)) (fun r s₁ y => ?_) fun _ _ f => f.1
    obtain ⟨⟨e1, h', e2, hx⟩, hsz⟩ := y
    subst e1 e2
    exact ⟨rfl, hQ h' _ hx hsz⟩
  self := fun A i s Q E x hQ => wpAny_pyIter_valiter x.1 hQ
theorem entry_itemiter : entryFor table "dict_itemiterator.__iter__" = some Builtin.«dict_keyiterator.__iter__» := entryFor_alias (id' := "dict_keyiterator.__iter__") (by kernel_rfl) rfl (by decide +kernel) (by kernel_rfl)
theorem pyIter_itemiter {it d : Addr} {i n ep : Nat} {ok ov : Value} {Q : Value → Shared → Prop} {E : Value → Shared → Prop} (hit : IsItemIter s.heap it d i n ep ok ov) (h : Q (.ref it) s) : wpAny (model c.prog c.w) A (pyIter (.ref it)) Q E s := by
  have hT : s.TypeIs (.ref it) "dict_itemiterator" := ⟨_, hit, rfl⟩
  refine wpAny_pyIter_slot hT F.slot_dict_itemiterator_iter (wpAny_call_entry F.slot_dict_itemiterator_iter hT entry_itemiter ?_ (F.args_dict_itemiterator_iter_1 _))
  show wpAny _ _ (ret (.ref it)) _ _ s
  exact wpAny_pure ⟨_, rfl, "dict_itemiterator", _, hT, F.slot_dict_itemiterator_next.lookup, h⟩
theorem wk_items {es : List Expr} {m : Nat} {p : Pos} {N : Nat} {d W : Addr} {ds : List (Str × D)} {kvs : List (Str × Value)} {ep : Nat} (hW : N ≤ W) (hl : d < N) (hO : ¬ O d) (hz : kvs.length = ds.length) :
    Wk c O (.Tuple es m p) N W (ds.map fun q => .tuple [.str q.1, q.2]) (fun i h => (∃ ok ov, IsItemIter h W d i kvs.length ep ok ov) ∧ DcAt c O N d ds kvs ep h) where
  new := hW
  live := fun i h x => let ⟨_, _, ho⟩ := x.1; Heap.lt_size ho
  frame := fun i h h' x hk => by
    obtain ⟨⟨ok, ov, ho⟩, y⟩ := x
    exact ⟨⟨ok, ov, hk W _ (.inr rfl) (not_frail_cls nofun) ho⟩, y.frame hl hO hk⟩
  item := fun A i e s O' Q E hh hd x hO' ow hQ => by
    obtain ⟨⟨ok, ov, hit⟩, y⟩ := x
    rw [List.getElem?_map, Option.map_eq_some_iff] at hd
    obtain ⟨⟨x, d'⟩, hx, rfl⟩ := hd
    obtain ⟨v, hv, z⟩ := y.kv.get hx
    refine wpAny_pyNext_items_item hit y.at_ hv fun key h' hkey hit' ht hsz hx' => ?_
    refine wpAny_letOwnedTupleGo_items hit' fun h'' hit'' hs => ?_
    obtain ⟨t, rfl⟩ := Value.isStrOf_shape hkey
    have hWs : W < s.heap.objs.size := Heap.lt_size hit
    have ex : Heap.ExtBut W s.heap h'' := fun b o nb e => (hs.2 b nb).trans (hx' b o nb e)
    have z1 : s.heap.objs.size ≤ h''.objs.size := by rw [hs.1, hsz]; exact Nat.le_succ _
    refine hQ _ h'' _ ?_ ⟨⟨_, _, hit''⟩, y.ext hl hW ex⟩ ex z1
    unfold Is
    refine ⟨_, _, _, rfl, fun q => Nat.lt_irrefl _ (ow _ q), (hs.2 _ (Nat.ne_of_gt hWs)).trans ht, ?_⟩
    refine .cons (by unfold Is; exact ⟨t, rfl⟩) (.single ?_)
    exact Is.mono (fun a q => hO' a q) (fun b o nb f e => ex b o (Nat.ne_of_lt (Nat.lt_of_lt_of_le (notO_of nb).2 hW)) e) _ _ z
  done := fun A s Q E hh x hQ => by
    obtain ⟨⟨ok, ov, hit⟩, y⟩ := x
    have hz' : kvs[(ds.map fun q => D.tuple [.str q.1, q.2]).length]? = none := by rw [List.getElem?_eq_none_iff, List.length_map, hz]; exact Nat.le_refl _
    have key : ∀ E, wpAny (model c.prog c.w) A (pyNext (.ref W)) (fun r s₁ => r = none ∧ ∃ h', s₁ = { s with heap := h' } ∧ Heap.ExtBut W s.heap h') E s := fun E =>
      wpAny_pyNext_items_end hh hit y.at_ hz' fun h' hx => ⟨rfl, h', rfl, hx⟩
    refine wpAny_mono (wpAny_size (key E)) (fun r s₁ y => ?_) fun _ _ f => f.1
    obtain ⟨⟨e1, h', e2, hx⟩, hsz⟩ := y
    subst e1 e2
    exact ⟨rfl, hQ h' _ hx hsz⟩
  self := fun A i s Q E x hQ => let ⟨_, _, ho⟩ := x.1; pyIter_itemiter ho hQ

theorem it_keys {e tgt : Expr} {ds : List (Str × D)} (X : EvO c O k env ρ e (.dict ds)) : ItO c O k env ρ e tgt (ds.map fun p => .str p.1) := fun A s R S V =>
  X.use R S V fun v s₁ S₁ g₁ i => by
    have up := Is.up (Nat.le_refl _) _ _ i
    unfold Is at up
    obtain ⟨a, kvs, ep, rfl, na, ho, r⟩ := up
    refine wpAny_pyIter_dict (not_modules na.1) ho ?_
    have gp := Grow.push s₁.heap { cls := .type "dict_keyiterator", data := .fields #[.ref a, .int 0 0, .int kvs.length 0, .int ep 0] }
    exact ⟨S₁.push _ rfl rfl, g₁.trans gp, s₁.heap.objs.size, s₁.heap.objs.size, _, rfl, g₁.1, ⟨⟨_, Heap.get?_push_size _ rfl, rfl, rfl⟩, ⟨ho.push _, r.grow gp⟩⟩, wk_keys (Nat.le_refl _) ho.lt_size (notO_of na.2).1 r.length⟩

theorem method0 {o : Expr} {name : Str} {apos pos : Pos} {id : String} {T : String} {d : D} {Q : Value → Shared → Prop} {E : Value → Shared → Prop} (X : EvO c O k env ρ o d) (R : Room k A) (S : St c s) (V : EnvOk c O env ρ s.heap)
    (pl : Sem Bool) (he : eval (.Call (.Attribute o name apos) [] [] pos) env = (do
      let ov ← eval o env
      standAt apos.atName
      let (f, first) ← holding [ov] (getMethod ov name pl)
      callWith pos f first (backTo pos (starEach [] env)) []))
    (h : ∀ v s', St c s' → Grow s.heap s'.heap → Is c O s'.heap d v → wpAny (model c.prog c.w) A (getMethod v name pl) (fun fx s₂ => fx = (.builtin id, [v]) ∧ wpAny (model c.prog c.w) A (call (.builtin id) [v]) Q E s₂) E s') :
    wpAny (model c.prog c.w) A (eval (.Call (.Attribute o name apos) [] [] pos) env) Q E s := by
  refine MethodCall_ (pl := pl) (X.use R S V fun v s' S' g i => wpAny_mono (h v s' S' g i) (fun fx s₂ q => ?_) fun _ _ e => e) he
  obtain ⟨rfl, q⟩ := q
  exact callWith_method0 q
theorem dict_method {a : Addr} {kvs : List (Str × Value)} {ep : Nat} {name : Str} {id : String} {pl : Sem Bool} {Q : Value × List Value → Shared → Prop} {E : Value → Shared → Prop} (ho : s.heap.DictAt (strKind c.prog c.w) a kvs ep) (slot : Slot "dict" name id) (hty : typeOf (.builtin id) = pure (.type "method_descriptor"))
    (h : Q (.builtin id, [.ref a]) s) : wpAny (model c.prog c.w) A (getMethod (.ref a) name pl) Q E s :=
  getMethod_builtin ho.dictOf.typeIs F.plainAttrs_dict slot hty (fun b e => by cases e; obtain ⟨o, es, ho, hx, _⟩ := ho; exact ⟨o, ho, hx.2.1⟩) h
theorem it_values {e tgt : Expr} {apos pos : Pos} {ds : List (Str × D)} (X : EvO c O k env ρ e (.dict ds)) (pl : Sem Bool) (he : eval (.Call (.Attribute e "values" apos) [] [] pos) env = (do
      let ov ← eval e env
      standAt apos.atName
      let (f, first) ← holding [ov] (getMethod ov "values" pl)
      callWith pos f first (backTo pos (starEach [] env)) []) := by rfl) : ItO c O k env ρ (.Call (.Attribute e "values" apos) [] [] pos) tgt (ds.map (·.2)) := fun A s R S V =>
  method0 (id := "dict.values") (T := "dict") X R S V pl he fun v s₁ S₁ g₁ i => by
    have up := Is.up (Nat.le_refl _) _ _ i
    unfold Is at up
    obtain ⟨a, kvs, ep, rfl, na, ho, r⟩ := up
    refine dict_method ho F.slot_dict_values F.type_dict_values ⟨rfl, ?_⟩
    refine call_meetsIn F.slot_dict_values ho.dictOf.typeIs F.entry_dict_values (F.args_dict_values_1 _) (meets_dict_values (strKind c.prog c.w) a (not_modules na.1)) ⟨⟨_, ho.dictOf⟩, ?_⟩
    have g2 := Grow.push s₁.heap { cls := .type "dict_values", data := .fields #[.ref a] }
    refine wpAny_pyIter_values ⟨_, Heap.get?_push_size _ rfl, rfl, rfl⟩ (ho.push _) ?_
    have S2 := S₁.push { cls := .type "dict_values", data := .fields #[.ref a] } (g := s₁.gens) (d := s₁.drawn) (t := s₁.toks) (os := s₁.os) rfl rfl
    have gp := Grow.push (s₁.heap.push { cls := .type "dict_values", data := .fields #[.ref a] }) { cls := .type "dict_valueiterator", data := .fields #[.ref a, .int 0 0, .int kvs.length 0, .int ep 0] }
    exact ⟨S2.push _ rfl rfl, (g₁.trans g2).trans gp, s₁.heap.objs.size, _, _, rfl, g₁.1, ⟨⟨_, Heap.get?_push_size _ rfl, rfl, rfl⟩, ⟨(ho.push _).push _, (r.grow g2).grow gp⟩⟩, wk_values (by simp) ho.lt_size (notO_of na.2).1 r.length⟩
theorem it_items {e : Expr} {es : List Expr} {m : Nat} {p : Pos} {apos pos : Pos} {ds : List (Str × D)} (X : EvO c O k env ρ e (.dict ds)) (pl : Sem Bool) (he : eval (.Call (.Attribute e "items" apos) [] [] pos) env = (do
      let ov ← eval e env
      standAt apos.atName
      let (f, first) ← holding [ov] (getMethod ov "items" pl)
      callWith pos f first (backTo pos (starEach [] env)) []) := by rfl) : ItO c O k env ρ (.Call (.Attribute e "items" apos) [] [] pos) (.Tuple es m p) (ds.map fun q => .tuple [.str q.1, q.2]) := fun A s R S V =>
  method0 (id := "dict.items") (T := "dict") X R S V pl he fun v s₁ S₁ g₁ i => by
    have up := Is.up (Nat.le_refl _) _ _ i
    unfold Is at up
    obtain ⟨a, kvs, ep, rfl, na, ho, r⟩ := up
    refine dict_method ho F.slot_dict_items F.type_dict_items ⟨rfl, ?_⟩
    refine call_meetsIn F.slot_dict_items ho.dictOf.typeIs F.entry_dict_items (F.args_dict_items_1 _) (meets_dict_items (strKind c.prog c.w) a (not_modules na.1)) ⟨⟨_, ho.dictOf⟩, ?_⟩
    have g2 := Grow.push s₁.heap { cls := .type "dict_items", data := .fields #[.ref a] }
    refine wpAny_pyIter_items ⟨_, Heap.get?_push_size _ rfl, rfl, rfl⟩ (ho.push _) ?_
    have S2 := S₁.push { cls := .type "dict_items", data := .fields #[.ref a] } (g := s₁.gens) (d := s₁.drawn) (t := s₁.toks) (os := s₁.os) rfl rfl
    have gp := Grow.push (s₁.heap.push { cls := .type "dict_items", data := .fields #[.ref a] }) { cls := .type "dict_itemiterator", data := .fields #[.none, .bool false, .ref a, .int 0 0, .int kvs.length 0, .int ep 0, .none, .none] }
    exact ⟨S2.push _ rfl rfl, (g₁.trans g2).trans gp, s₁.heap.objs.size, _, _, rfl, g₁.1, ⟨⟨_, _, Heap.get?_push_size _ rfl⟩, ⟨(ho.push _).push _, (r.grow g2).grow gp⟩⟩, wk_items (by simp) ho.lt_size (notO_of na.2).1 r.length⟩
end
end Mine
end
section
open PySem PySem.W PyProof.Rows
set_option maxRecDepth 100000
set_option linter.unusedVariables false
namespace Mine
section
variable {c : Cx} {O : Addr → Prop} {k : Nat} {env : Env} {ρ : List (Str × D)} {A : Around} {s : Shared}

abbrev MethForm (o : Expr) (name : Str) (apos pos : Pos) (args : List Expr) (env : Env) (pl : Sem Bool) : Prop := eval (.Call (.Attribute o name apos) args [] pos) env = (do
      let ov ← eval o env
      standAt apos.atName
      let (f, first) ← holding [ov] (getMethod ov name pl)
      callWith pos f first (backTo pos (starEach args env)) [])
theorem methodN {o : Expr} {name : Str} {apos pos : Pos} {id : String} {d : D} {e : Expr} {es : List Expr} {ds : List D} {Q : Value → Shared → Prop} {E : Value → Shared → Prop} (X : EvO c O k env ρ o d) (Y : EvAll c O k env ρ pos (e :: es) ds) (R : Room k A) (S : St c s) (V : EnvOk c O env ρ s.heap)
    (pl : Sem Bool) (he : MethForm o name apos pos (e :: es) env pl) (hs : starEach (e :: es) env = (false, eval e env) :: starEach es env) (hp : (backTo pos (starEach es env)).any (·.1) = false)
    (hm : ∀ v s' Q' E', St c s' → Is c O s'.heap d v → Q' (.builtin id, [v]) s' → wpAny (model c.prog c.w) A (getMethod v name pl) Q' E' s')
    (h : ∀ v vs s', St c s' → Grow s.heap s'.heap → Is c O s'.heap d v → IsAll c O s'.heap ds vs → wpAny (model c.prog c.w) A (call (.builtin id) (v :: vs)) Q E s') :
    wpAny (model c.prog c.w) A (eval (.Call (.Attribute o name apos) (e :: es) [] pos) env) Q E s := by
  refine MethodCall_ (pl := pl) (X.use R S V fun v s' S' g i => hm v s' _ _ S' i ?_) he
  refine callWith_method1 (Y.use R S' (V.grow g) fun vs s'' S'' g' j => ?_) hs hp
  exact h v vs s'' S'' (g.trans g') (i.grow g') j

/-- d.get(key, default) -/
theorem ev_get {o e1 e2 : Expr} {apos pos : Pos} {ds : List (Str × D)} {x : Str} {d : D} (X : EvO c O k env ρ o (.dict ds)) (Y : EvO c O k env ρ e1 (.str x)) (Z : EvO c O k env ρ e2 d) (pl : Sem Bool) (he : MethForm o "get" apos pos [e1, e2] env pl := by rfl)
    (hs : starEach [e1, e2] env = (false, eval e1 env) :: starEach [e2] env := by rfl) (hs' : starEach [e2] env = (false, eval e2 env) :: starEach [] env := by rfl) :
    EvO c O k env ρ (.Call (.Attribute o "get" apos) [e1, e2] [] pos) ((dget ds x).getD d) := fun A s R S V =>
  methodN (id := "dict.get") X (evs_cons Y (evs_cons Z evs_nil hs') hs) R S V pl he hs (by rw [hs']; rfl) (fun v s' Q' E' S' i q => by
      unfold Is at i
      obtain ⟨a, kvs, ep, rfl, na, ho, r⟩ := i
      exact dict_method ho F.slot_dict_get F.type_dict_get q) fun v vs s' S' g i j => by
    unfold Is at i
    obtain ⟨a, kvs, ep, rfl, na, ho, r⟩ := i
    obtain ⟨v1, v2, rfl, j1, j2⟩ := j.two
    unfold Is at j1
    obtain ⟨t, rfl⟩ := j1
    refine call_meetsIn F.slot_dict_get ho.dictOf.typeIs F.entry_dict_get (F.args_dict_get_3 _ _ _) (meets_dict_get_default (strKind c.prog c.w) a (isStr_key x t) (not_modules na.1) v2) ⟨_, ho.dictOf.mapOf, ?_⟩
    refine ⟨S'.tok _, g, ?_⟩
    cases e : dget ds x with
    | none => rw [r.miss e]; exact j2
    | some d' => obtain ⟨v', e', z⟩ := r.find e; rw [e']; exact z

noncomputable def strsD (l : List Str) : List D := l.map .str
theorem strs_items : ∀ {l : List Str} {vs : List Value} {h : Heap}, IsAll c O h (strsD l) vs → ∃ xs : List (Str × Tok), vs = strValues xs ∧ xs.map (·.1) = l
  | [], vs, h, i => by unfold strsD at i; rw [List.map_nil] at i; unfold IsAll at i; subst i; exact ⟨[], rfl, rfl⟩
  | n :: ns, vs, h, i => by
    unfold strsD at i
    rw [List.map_cons] at i
    unfold IsAll at i
    obtain ⟨v, r, rfl, i, j⟩ := i
    unfold Is at i
    obtain ⟨t, rfl⟩ := i
    obtain ⟨xs, e1, e2⟩ := strs_items (l := ns) j
    exact ⟨(n, t) :: xs, by rw [e1]; rfl, by rw [← e2]; rfl⟩
theorem isAll_strs : ∀ (xs : List (Str × Tok)) {h : Heap}, IsAll c O h (strsD (xs.map (·.1))) (strValues xs)
  | [], h => .nil
  | p :: xs, h => .cons (by unfold Is; exact ⟨_, rfl⟩) (isAll_strs xs)

theorem split_exact {prog : Program} {w : World} {A : Around} {E : Value → Shared → Prop} {s : Shared} {x y : Str} {t u : Tok} {Q : Value → Shared → Prop} (hy : (y.length == 0) = false)
    (hq : ∀ l tk, l.map (·.1) = Txt.split x y → Q (.ref s.heap.objs.size) { s with toks := tk, heap := s.heap.push { cls := .type "list", data := .seq (strValues l).toArray } })
    (hsz : x.length ≤ sizeLine) (hsz2 : (Builtin.Str.partsBetween x (Builtin.Str.occurrences x y 0 x.length (x.length + 1)) y.length).length ≤ sizeLine) :
    wpAny (model prog w) A (call (.builtin "str.split") [.str x t, .str y u]) Q E s := by
  cases h1 : (decide (x.length < y.length) || decide (Builtin.Str.strKind x < Builtin.Str.strKind y))
  · cases hf : (Builtin.Str.occurrences x y 0 x.length (x.length + 1)).isEmpty
    · refine call_meets F.slot_str_split (typeIs_str _ _ _) F.entry_str_split (F.args_str_split_2 _ _) (meets_str_split_sep x y t u h1 hy hf hsz hsz2) ?_
      show wants Q E _ { s with toks := _, heap := s.heap.push { cls := .type "list", data := .seq (strsFrom s.toks (Builtin.Str.partsBetween x (Builtin.Str.occurrences x y 0 x.length (x.length + 1)) y.length)).toArray } }
      rw [strsFrom_eq]
      exact hq (numbered s.toks _) _ ((numbered_texts _ _).trans ((if_neg (ne_true_of_eq_false h1)).trans (if_neg (ne_true_of_eq_false hf))).symm)
    · exact call_meets F.slot_str_split (typeIs_str _ _ _) F.entry_str_split (F.args_str_split_2 _ _) (meets_str_split_not_found x y t u h1 hy hf) (hq [(x, t)] s.toks ((if_neg (ne_true_of_eq_false h1)).trans (if_pos hf)).symm)
  · exact call_meets F.slot_str_split (typeIs_str _ _ _) F.entry_str_split (F.args_str_split_2 _ _) (meets_str_split_cannot_occur x y t u h1) (hq [(x, t)] s.toks (if_pos h1).symm)
theorem ev_split {o e : Expr} {apos pos : Pos} {x y : Str} (X : EvO c O k env ρ o (.str x)) (Y : EvO c O k env ρ e (.str y)) (hy : (y.length == 0) = false) (hsz : x.length ≤ sizeLine) (hsz2 : (Builtin.Str.partsBetween x (Builtin.Str.occurrences x y 0 x.length (x.length + 1)) y.length).length ≤ sizeLine)
    (pl : Sem Bool) (he : MethForm o "split" apos pos [e] env pl := by rfl) (hs : starEach [e] env = (false, eval e env) :: starEach [] env := by rfl) :
    EvO c O k env ρ (.Call (.Attribute o "split" apos) [e] [] pos) (.list (strsD (Txt.split x y))) := fun A s R S V =>
  methodN (id := "str.split") X (evs_cons Y evs_nil hs) R S V pl he hs rfl (fun v s' Q' E' S' i q => by
      unfold Is at i
      obtain ⟨t, rfl⟩ := i
      exact getMethod_builtin (typeIs_str _ _ _) F.plainAttrs_str F.slot_str_split F.type_str_split (fun _ e => nomatch e) q) fun v vs s' S' g i j => by
    unfold Is at i
    obtain ⟨t, rfl⟩ := i
    obtain ⟨v1, rfl, j1⟩ := j.one
    unfold Is at j1
    obtain ⟨u, rfl⟩ := j1
    refine split_exact hy (fun l tk hl => ?_) hsz hsz2
    have gp := Grow.push s'.heap { cls := .type "list", data := .seq (strValues l).toArray }
    have ow := (V.grow g).2.1
    refine ⟨S'.push _ rfl rfl, g.trans gp, ?_⟩
    unfold Is
    refine ⟨_, _, _, rfl, ow.new (Nat.le_refl _), Heap.get?_push_size _ rfl, ?_⟩
    rw [← hl]
    exact isAll_strs l
theorem ev_join {o e : Expr} {apos pos : Pos} {x : Str} {l : List Str} (X : EvO c O k env ρ o (.str x)) (Y : EvO c O k env ρ e (.list (strsD l))) (hok : JoinOk x l = true)
    (pl : Sem Bool) (he : MethForm o "join" apos pos [e] env pl := by rfl) (hs : starEach [e] env = (false, eval e env) :: starEach [] env := by rfl) :
    EvO c O k env ρ (.Call (.Attribute o "join" apos) [e] [] pos) (.str (Txt.join x l)) := fun A s R S V =>
  methodN (id := "str.join") X (evs_cons Y evs_nil hs) R S V pl he hs rfl (fun v s' Q' E' S' i q => by
      unfold Is at i
      obtain ⟨t, rfl⟩ := i
      exact getMethod_builtin (typeIs_str _ _ _) F.plainAttrs_str F.slot_str_join F.type_str_join (fun _ e => nomatch e) q) fun v vs s' S' g i j => by
    unfold Is at i
    obtain ⟨t, rfl⟩ := i
    obtain ⟨v1, rfl, j1⟩ := j.one
    unfold Is at j1
    obtain ⟨a, ws, n, rfl, na, ho, r⟩ := j1
    obtain ⟨xs, e1, e2⟩ := strs_items r
    have hv : ws = (strValues xs).toArray := by apply Array.ext'; rw [e1]
    subst hv
    exact SC.join ⟨_, ho, rfl, n, rfl⟩ e2 hok fun t' tk => ⟨S'.tok _, g, by unfold Is; exact ⟨_, rfl⟩⟩
end
end Mine
end
section
open PySem PySem.W PyProof.Rows
set_option maxRecDepth 100000
set_option linter.unusedVariables false
namespace Mine
noncomputable def upd (lv : Str → Option Value) (x : Str) (v : Value) : Str → Option Value := fun y => if y = x then some v else lv y
noncomputable def OwnD (c : Cx) (O : Addr → Prop) (h : Heap) (a : Addr) (ds : List (Str × D)) : Prop := 1 < a ∧ ∃ kvs ep, h.DictAt (strKind c.prog c.w) a kvs ep ∧ IsKv c O h ds kvs
noncomputable def OwnL (c : Cx) (O : Addr → Prop) (h : Heap) (a : Addr) (ds : List D) : Prop := ∃ vs n, h.get? a = some { cls := .type "list", data := .seq vs n } ∧ IsAll c O h ds vs.toList
section
variable {c : Cx} {h₀ : Heap} {O : Addr → Prop} {k : Nat} {env : Env} {lv : Str → Option Value} {ρ : List (Str × D)} {A : Around} {s : Shared}

/-- an owned object stands where other things are changed -/
theorem OwnD.chg {h h' : Heap} {a : Addr} {ds : List (Str × D)} {P : Addr → Prop} (x : OwnD c O h a ds) (g : Chg P h h') (hP : ∀ b, P b → O b) (ha : ¬ P a) : OwnD c O h' a ds := by
  obtain ⟨h1, kvs, ep, ⟨o, es, ho, hx, r⟩, kv⟩ := x
  exact ⟨h1, kvs, ep, ⟨o, es, g.2 a o ha (not_frail_dict hx) ho, hx, r⟩, kv.chg (g.sub hP)⟩
theorem OwnL.chg {h h' : Heap} {a : Addr} {ds : List D} {P : Addr → Prop} (x : OwnL c O h a ds) (g : Chg P h h') (hP : ∀ b, P b → O b) (ha : ¬ P a) : OwnL c O h' a ds := by
  obtain ⟨vs, n, ho, r⟩ := x
  exact ⟨vs, n, g.2 a _ ha (not_frail_cls nofun) ho, r.chg (g.sub hP)⟩
theorem OwnD.grow {h h' : Heap} {a : Addr} {ds : List (Str × D)} (x : OwnD c O h a ds) (g : Grow h h') : OwnD c O h' a ds := x.chg (P := fun _ => False) g.chg (fun _ q => q.elim) id
theorem OwnD.sub {h : Heap} {a : Addr} {ds : List (Str × D)} {O' : Addr → Prop} (x : OwnD c O h a ds) (hO : ∀ b, O' b → O b) : OwnD c O' h a ds := let ⟨h1, kvs, ep, ho, kv⟩ := x; ⟨h1, kvs, ep, ho, kv.sub hO⟩
theorem OwnL.sub {h : Heap} {a : Addr} {ds : List D} {O' : Addr → Prop} (x : OwnL c O h a ds) (hO : ∀ b, O' b → O b) : OwnL c O' h a ds := let ⟨vs, n, ho, kv⟩ := x; ⟨vs, n, ho, kv.sub hO⟩
/-- given up: a plain datum again -/
theorem OwnD.is {h : Heap} {a : Addr} {ds : List (Str × D)} (x : OwnD c O h a ds) (ha : ¬ O a) : Is c O h (.dict ds) (.ref a) := by
  obtain ⟨h1, kvs, ep, ho, kv⟩ := x
  unfold Is; exact ⟨a, kvs, ep, rfl, ⟨h1, ha⟩, ho, kv⟩
theorem OwnL.is {h : Heap} {a : Addr} {ds : List D} (x : OwnL c O h a ds) (ha : ¬ O a) : Is c O h (.list ds) (.ref a) := by
  obtain ⟨vs, n, ho, r⟩ := x
  unfold Is; exact ⟨a, vs, n, rfl, ha, ho, r⟩
theorem OwnD.up {h : Heap} {a : Addr} {ds : List (Str × D)} (x : OwnD c O h a ds) {N : Nat} (hN : h.objs.size ≤ N) : OwnD c (Up O N) h a ds := let ⟨h1, kvs, ep, ho, kv⟩ := x; ⟨h1, kvs, ep, ho, IsKv.up hN _ _ kv⟩
theorem OwnL.up {h : Heap} {a : Addr} {ds : List D} (x : OwnL c O h a ds) {N : Nat} (hN : h.objs.size ≤ N) : OwnL c (Up O N) h a ds := let ⟨vs, n, ho, kv⟩ := x; ⟨vs, n, ho, IsAll.up hN _ _ kv⟩
theorem OwnD.lt {h : Heap} {a : Addr} {ds : List (Str × D)} (x : OwnD c O h a ds) : a < h.objs.size := let ⟨_, _, _, ho, _⟩ := x; ho.lt_size
theorem OwnL.lt {h : Heap} {a : Addr} {ds : List D} (x : OwnL c O h a ds) : a < h.objs.size := let ⟨_, _, ho, _⟩ := x; Heap.lt_size ho
theorem st_store {x : Str} {v : Value} {Q : Unit → Shared → Prop} {E : Value → Shared → Prop} (F : Fs c h₀ O env lv s) (hx : Has env x = true) (hf : env.kindOf x ≠ some .free)
    (h : ∀ s', Fs c h₀ O env (upd lv x v) s' → Chg (TA env [x]) s.heap s'.heap → Q () s') : wpAny (model c.prog c.w) A (storeName env x v) Q E s :=
  store_has F.es F.frm hx hf fun h' tk a ha hs F' => by
    have ta : TA env [x] a := ha.imp id fun e => ⟨x, List.mem_cons_self, e⟩
    have ch : Chg (TA env [x]) s.heap h' := SameBut.chg hs ta
    exact h _ (F.ta (s' := { s with heap := h', toks := tk }) (F.st.frame F.es ta.frame hs rfl rfl) ch F') ch
/-- what is bound stays bound under a store to another name -/
theorem Bd.upd {h h' : Heap} {x : Str} {v : Value} {xs : List Str} (B : Bd c O lv h ρ) (hx : ρ.lookup x = none) (g : Chg O h h') : Bd c O (upd lv x v) h' ρ := fun y d e => by
  obtain ⟨u, a, b⟩ := B y d e
  refine ⟨u, ?_, b.chg g⟩
  have : y ≠ x := fun q => by rw [q, hx] at e; cases e
  simp [Mine.upd, this, a]

theorem newDict_eval {pos : Pos} {Q : Value → Shared → Prop} {E : Value → Shared → Prop} (h : Q (.ref s.heap.objs.size) { s with heap := s.heap.push { cls := .type "dict", data := .dict #[] } }) : wpAny (model c.prog c.w) A (eval (.Dict [] [] pos) env) Q E s := by
  rw [arm_eval_Dict]
  refine wpAny_bind (wpAny_standAt ?_)
  show wpAny _ A (newDict) Q E s
  exact wpAny_newObj_type h
theorem size_gt (S : St c s) : 1 < s.heap.objs.size := Nat.lt_of_lt_of_le (Nat.lt_of_lt_of_le (by decide) S.low) S.grow.1
theorem OwnD.new (S : St c s) (ow : Own O s.heap) : OwnD c (AddO O s.heap.objs.size) (s.heap.push { cls := .type "dict", data := .dict #[] }) s.heap.objs.size [] := by
  obtain ⟨ep, hd⟩ := (Heap.DictOf.new (knd := strKind c.prog c.w) s.heap).dictAt
  exact ⟨size_gt S, [], ep, hd, .nil⟩
theorem ev_dict0 {pos : Pos} : EvO c O k env ρ (.Dict [] [] pos) (.dict []) := fun A s R S V => newDict_eval ⟨S.push _ rfl rfl, Grow.push _ _, ((OwnD.new S V.2.1).sub fun b q => .inl q).is (V.2.1.new (Nat.le_refl _))⟩
end
end Mine
end
section
open PySem PySem.W PyProof.Rows
set_option maxRecDepth 100000
set_option linter.unusedVariables false
namespace Mine
mutual
noncomputable def D.flat : D → Bool
  | .none => true
  | .bool _ => true
  | .int _ => true
  | .str _ => true
  | .tuple l => D.flats l
  | .list _ => false
  | .dict _ => false
  | .ndict _ => false
  | .any _ => true
  | .pile _ => false
noncomputable def D.flats : List D → Bool
  | [] => true
  | d :: r => d.flat && D.flats r
end
section
variable {c : Cx} {O O' : Addr → Prop} {h : Heap}
mutual
theorem Is.flat (hO : ∀ a, O' a → O a ∨ ∃ o, h.get? a = some o ∧ o.cls ≠ .type "tuple") : ∀ (d : D) (v : Value), d.flat = true → Is c O h d v → Is c O' h d v
  | .none, v, _, x => by unfold Is at *; exact x
  | .bool b, v, _, x => by unfold Is at *; exact x
  | .int b, v, _, x => by unfold Is at *; exact x
  | .str b, v, _, x => by unfold Is at *; exact x
  | .list ds, v, hf, x => by unfold D.flat at hf; cases hf
  | .dict ds, v, hf, x => by unfold D.flat at hf; cases hf
  | .ndict ds, v, hf, x => by unfold D.flat at hf; cases hf
  | .any P, v, hf, x => by unfold Is at *; exact x
  | .pile P, v, hf, x => by unfold D.flat at hf; cases hf
  | .tuple ds, v, hf, x => by
    unfold D.flat at hf
    unfold Is at *
    obtain ⟨a, vs, n, e, na, ho, r⟩ := x
    refine ⟨a, vs, n, e, fun q => ?_, ho, IsAll.flat hO ds _ hf r⟩
    rcases hO a q with q | ⟨o, ho', hc⟩
    · exact na q
    · rw [ho] at ho'; cases ho'; exact hc rfl
theorem IsAll.flat (hO : ∀ a, O' a → O a ∨ ∃ o, h.get? a = some o ∧ o.cls ≠ .type "tuple") : ∀ (ds : List D) (vs : List Value), D.flats ds = true → IsAll c O h ds vs → IsAll c O' h ds vs
  | [], vs, _, x => by unfold IsAll at *; exact x
  | d :: ds, vs, hf, x => by
    unfold D.flats at hf
    rw [Bool.and_eq_true] at hf
    unfold IsAll at *
    obtain ⟨v, r, e, a, b⟩ := x
    exact ⟨v, r, e, Is.flat hO d v hf.1 a, IsAll.flat hO ds r hf.2 b⟩
end
end
section
variable {c : Cx} {h₀ : Heap} {O : Addr → Prop} {k : Nat} {env : Env} {lv : Str → Option Value} {ρ : List (Str × D)} {A : Around} {s : Shared}

/-- an address of the frame's own making -/
structure MineA (h₀ : Heap) (O : Addr → Prop) (env : Env) (a : Addr) : Prop where
  own : O a
  new : h₀.objs.size ≤ a
  nf : ¬ FrameAddr env a
theorem Fs.same {s' : Shared} {a : Addr} (F : Fs c h₀ O env lv s) (ha : MineA h₀ O env a) (hs : Heap.SameBut a s.heap s'.heap) (hg : s'.gens = s.gens) (ho : s'.os = s.os) : Fs c h₀ O env lv s' :=
  ⟨F.st.same (Nat.le_trans F.base ha.new) hs hg ho, F.es, fun b q => by rw [hs.1]; exact F.own b q, F.fr, F.frm.ext fun b q o e => (hs.2 b fun z => ha.nf (z ▸ q)).trans e,
    ⟨Nat.le_trans F.grow.1 (Nat.le_of_eq hs.1.symm), fun b o f e => (hs.2 b (Nat.ne_of_lt (Nat.lt_of_lt_of_le (Heap.lt_size e) ha.new))).trans (F.grow.2 b o f e)⟩, F.above, F.base⟩
theorem setItem_own {a : Addr} {ds : List (Str × D)} {x : Str} {t : Tok} {d : D} {v : Value} {Q : Unit → Shared → Prop} {E : Value → Shared → Prop} (F : Fs c h₀ O env lv s) (ha : MineA h₀ O env a) (W : OwnD c O s.heap a ds) (hz : ds.length ≤ 1000) (i : Is c O s.heap d v)
    (h : ∀ s', Fs c h₀ O env lv s' → Chg (fun b => b = a) s.heap s'.heap → OwnD c O s'.heap a (dput ds x d) → Q () s') : wpAny (model c.prog c.w) A (setItem (.ref a) (.str x t) v) Q E s := by
  obtain ⟨h1, kvs, ep, ho, kv⟩ := W
  refine wpAny_setItem_pairs (isStr_key x t) ho.dictOf (fun h' hd hs => ?_) (by rw [kv.length]; exact Nat.le_trans hz (by decide))
  obtain ⟨ep', hd'⟩ := hd.dictAt
  refine h _ (F.same (s' := { s with heap := h', toks := s.toks + 1 }) ha hs rfl rfl) (SameBut.chg hs rfl) ⟨h1, _, ep', hd', ?_⟩
  exact (kv.put i).chg (SameBut.chg hs ha.own)

/-- what an expression gives, as it is used -/
abbrev Gives (c : Cx) (O : Addr → Prop) (A : Around) (env : Env) (s : Shared) (e : Expr) (d : D) : Prop :=
  ∀ (Q : Value → Shared → Prop), (∀ v s', St c s' → Grow s.heap s'.heap → Is c O s'.heap d v → Q v s') → wpAny (model c.prog c.w) A (eval e env) Q F0 s
theorem EvO.gives {e : Expr} {d : D} (X : EvO c O k env ρ e d) (R : Room k A) (F : Fs c h₀ O env lv s) (B : Bd c O lv s.heap ρ) : Gives c O A env s e d := fun Q h => X.use R F.st (F.ok B) h
theorem load_name {x : Str} {p : Pos} {v : Value} {Q : Value → Shared → Prop} {E : Value → Shared → Prop} (F : Fs c h₀ O env lv s) (hx : Has env x = true) (hv : lv x = some v) (h : Q v s) (hd : (x == ("__debug__" : Str)) = false := by decide) : wpAny (model c.prog c.w) A (eval (.Name x p) env) Q E s :=
  wpAny_Name (load_has F.es F.frm hx hv h) hd
/-- y[key] = e on an owned dict -/
theorem st_setDict {y : Str} {p1 p2 pos : Pos} {e e1 : Expr} {x : Str} {d : D} {a : Addr} {ds : List (Str × D)} {Q : Flow → Shared → Prop} (X : Gives c O A env s e d) (Y : EvO c O k env ρ e1 (.str x)) (hy : Has env y = true)
    (R : Room k A) (F : Fs c h₀ O env lv s) (B : Bd c O lv s.heap ρ) (hv : lv y = some (.ref a)) (W : OwnD c O s.heap a ds) (ha : MineA h₀ O env a) (hz : ds.length ≤ 1000)
    (h : ∀ s', Fs c h₀ O env lv s' → Chg (fun b => b = a) s.heap s'.heap → OwnD c O s'.heap a (dput ds x d) → Q .next s')
    (hs : swapsWith e (some (.Subscript (.Name y p1) e1 p2)) pos.line env = pure false := by rfl) (hd : (y == ("__debug__" : Str)) = false := by decide) :
    wpAny (model c.prog c.w) A (exec (.Assign [.Subscript (.Name y p1) e1 p2] e pos) env) Q F0 s := by
  refine wpAny_Assign_Subscript (X _ fun v s₁ S₁ g₁ i => ?_) hs
  have F₁ := F.go S₁ g₁
  refine load_name F₁ hy hv (Y.use R S₁ (F₁.ok (B.go g₁)) fun iv s₂ S₂ g₂ j => ?_) hd
  unfold Is at j
  obtain ⟨t, rfl⟩ := j
  exact setItem_own (F₁.go S₂ g₂) ha ((W.grow g₁).grow g₂) hz (i.grow g₂) fun s' F' ch W' => h s' F' ((g₁.trans g₂).chg.trans ch) W'
end
end Mine
end
section
open PySem PySem.W PyProof.Rows
set_option maxRecDepth 100000
set_option linter.unusedVariables false
namespace Mine
theorem def_func_std_string {c : Cx} (G : c.Good) : DefAt c 28 (fdOf c.w.params 28) (bodyOf c.w.params 28) ["func_name"] where
  at_ := ⟨objOf c.w.params 28, by rw [G.K]; kernel_rfl, by kernel_rfl⟩
  body := by kernel_rfl
  clo := by kernel_rfl
  code := by rw [G.K]; kernel_rfl
  glob := by kernel_rfl
  bi := by kernel_rfl
  kind := by kernel_rfl
  co := by kernel_rfl
  gen := by kernel_rfl
  bind := all1 fun a => by kernel_rfl
  names := by kernel_rfl
  nodup := by decide
  scope := by kernel_rfl
theorem def_add_func_stats {c : Cx} (G : c.Good) : DefAt c 35 (fdOf c.w.params 35) (bodyOf c.w.params 35) ["target", "source"] where
  at_ := ⟨objOf c.w.params 35, by rw [G.K]; kernel_rfl, by kernel_rfl⟩
  body := by kernel_rfl
  clo := by kernel_rfl
  code := by rw [G.K]; kernel_rfl
  glob := by kernel_rfl
  bi := by kernel_rfl
  kind := by kernel_rfl
  co := by kernel_rfl
  gen := by kernel_rfl
  bind := all2 fun a b => by kernel_rfl
  names := by kernel_rfl
  nodup := by decide
  scope := by kernel_rfl
theorem def_add_callers {c : Cx} (G : c.Good) : DefAt c 42 (fdOf c.w.params 42) (bodyOf c.w.params 42) ["target", "source"] where
  at_ := ⟨objOf c.w.params 42, by rw [G.K]; kernel_rfl, by kernel_rfl⟩
  body := by kernel_rfl
  clo := by kernel_rfl
  code := by rw [G.K]; kernel_rfl
  glob := by kernel_rfl
  bi := by kernel_rfl
  kind := by kernel_rfl
  co := by kernel_rfl
  gen := by kernel_rfl
  bind := all2 fun a b => by kernel_rfl
  names := by kernel_rfl
  nodup := by decide
  scope := by kernel_rfl
theorem def_count_calls {c : Cx} (G : c.Good) : DefAt c 49 (fdOf c.w.params 49) (bodyOf c.w.params 49) ["callers"] where
  at_ := ⟨objOf c.w.params 49, by rw [G.K]; kernel_rfl, by kernel_rfl⟩
  body := by kernel_rfl
  clo := by kernel_rfl
  code := by rw [G.K]; kernel_rfl
  glob := by kernel_rfl
  bi := by kernel_rfl
  kind := by kernel_rfl
  co := by kernel_rfl
  gen := by kernel_rfl
  bind := all1 fun a => by kernel_rfl
  names := by kernel_rfl
  nodup := by decide
  scope := by kernel_rfl
theorem def_end {c : Cx} (G : c.Good) : DefAt c 143 (fdOf c.w.params 143) (bodyOf c.w.params 143) ["pile", "keep", "frames", "books"] where
  at_ := ⟨objOf c.w.params 143, by rw [G.K]; kernel_rfl, by kernel_rfl⟩
  body := by kernel_rfl
  clo := by kernel_rfl
  code := by rw [G.K]; kernel_rfl
  glob := by kernel_rfl
  bi := by kernel_rfl
  kind := by kernel_rfl
  co := by kernel_rfl
  gen := by kernel_rfl
  bind := all4 fun a b c d => by kernel_rfl
  names := by kernel_rfl
  nodup := by decide
  scope := by kernel_rfl
theorem def_run {c : Cx} (G : c.Good) : DefAt c 150 (fdOf c.w.params 150) (bodyOf c.w.params 150) ["numbers", "words"] where
  at_ := ⟨objOf c.w.params 150, by rw [G.K]; kernel_rfl, by kernel_rfl⟩
  body := by kernel_rfl
  clo := by kernel_rfl
  code := by rw [G.K]; kernel_rfl
  glob := by kernel_rfl
  bi := by kernel_rfl
  kind := by kernel_rfl
  co := by kernel_rfl
  gen := by kernel_rfl
  bind := all2 fun a b => by kernel_rfl
  names := by kernel_rfl
  nodup := by decide
  scope := by kernel_rfl
theorem def_lists {c : Cx} (G : c.Good) : DefAt c 157 (fdOf c.w.params 157) (bodyOf c.w.params 157) ["numbers", "words"] where
  at_ := ⟨objOf c.w.params 157, by rw [G.K]; kernel_rfl, by kernel_rfl⟩
  body := by kernel_rfl
  clo := by kernel_rfl
  code := by rw [G.K]; kernel_rfl
  glob := by kernel_rfl
  bi := by kernel_rfl
  kind := by kernel_rfl
  co := by kernel_rfl
  gen := by kernel_rfl
  bind := all2 fun a b => by kernel_rfl
  names := by kernel_rfl
  nodup := by decide
  scope := by kernel_rfl
theorem def_table {c : Cx} (G : c.Good) : DefAt c 162 (fdOf c.w.params 162) (bodyOf c.w.params 162) ["pairs"] where
  at_ := ⟨objOf c.w.params 162, by rw [G.K]; kernel_rfl, by kernel_rfl⟩
  body := by kernel_rfl
  clo := by kernel_rfl
  code := by rw [G.K]; kernel_rfl
  glob := by kernel_rfl
  bi := by kernel_rfl
  kind := by kernel_rfl
  co := by kernel_rfl
  gen := by kernel_rfl
  bind := all1 fun a => by kernel_rfl
  names := by kernel_rfl
  nodup := by decide
  scope := by kernel_rfl
theorem def_sums {c : Cx} (G : c.Good) : DefAt c 167 (fdOf c.w.params 167) (bodyOf c.w.params 167) ["rows"] where
  at_ := ⟨objOf c.w.params 167, by rw [G.K]; kernel_rfl, by kernel_rfl⟩
  body := by kernel_rfl
  clo := by kernel_rfl
  code := by rw [G.K]; kernel_rfl
  glob := by kernel_rfl
  bi := by kernel_rfl
  kind := by kernel_rfl
  co := by kernel_rfl
  gen := by kernel_rfl
  bind := all1 fun a => by kernel_rfl
  names := by kernel_rfl
  nodup := by decide
  scope := by kernel_rfl
theorem def_told {c : Cx} (G : c.Good) : DefAt c 172 (fdOf c.w.params 172) (bodyOf c.w.params 172) ["comings", "works", "words"] where
  at_ := ⟨objOf c.w.params 172, by rw [G.K]; kernel_rfl, by kernel_rfl⟩
  body := by kernel_rfl
  clo := by kernel_rfl
  code := by rw [G.K]; kernel_rfl
  glob := by kernel_rfl
  bi := by kernel_rfl
  kind := by kernel_rfl
  co := by kernel_rfl
  gen := by kernel_rfl
  bind := all3 fun a b c => by kernel_rfl
  names := by kernel_rfl
  nodup := by decide
  scope := by kernel_rfl
theorem def_agrees {c : Cx} (G : c.Good) : DefAt c 177 (fdOf c.w.params 177) (bodyOf c.w.params 177) ["run", "lists", "words"] where
  at_ := ⟨objOf c.w.params 177, by rw [G.K]; kernel_rfl, by kernel_rfl⟩
  body := by kernel_rfl
  clo := by kernel_rfl
  code := by rw [G.K]; kernel_rfl
  glob := by kernel_rfl
  bi := by kernel_rfl
  kind := by kernel_rfl
  co := by kernel_rfl
  gen := by kernel_rfl
  bind := all3 fun a b c => by kernel_rfl
  names := by kernel_rfl
  nodup := by decide
  scope := by kernel_rfl
theorem def_both {c : Cx} (G : c.Good) : DefAt c 184 (fdOf c.w.params 184) (bodyOf c.w.params 184) ["one", "two", "words"] where
  at_ := ⟨objOf c.w.params 184, by rw [G.K]; kernel_rfl, by kernel_rfl⟩
  body := by kernel_rfl
  clo := by kernel_rfl
  code := by rw [G.K]; kernel_rfl
  glob := by kernel_rfl
  bi := by kernel_rfl
  kind := by kernel_rfl
  co := by kernel_rfl
  gen := by kernel_rfl
  bind := all3 fun a b c => by kernel_rfl
  names := by kernel_rfl
  nodup := by decide
  scope := by kernel_rfl
theorem def_spoilt {c : Cx} (G : c.Good) : DefAt c 189 (fdOf c.w.params 189) (bodyOf c.w.params 189) ["run"] where
  at_ := ⟨objOf c.w.params 189, by rw [G.K]; kernel_rfl, by kernel_rfl⟩
  body := by kernel_rfl
  clo := by kernel_rfl
  code := by rw [G.K]; kernel_rfl
  glob := by kernel_rfl
  bi := by kernel_rfl
  kind := by kernel_rfl
  co := by kernel_rfl
  gen := by kernel_rfl
  bind := all1 fun a => by kernel_rfl
  names := by kernel_rfl
  nodup := by decide
  scope := by kernel_rfl
theorem def_law {c : Cx} (G : c.Good) : DefAt c 194 (fdOf c.w.params 194) (bodyOf c.w.params 194) ["script"] where
  at_ := ⟨objOf c.w.params 194, by rw [G.K]; kernel_rfl, by kernel_rfl⟩
  body := by kernel_rfl
  clo := by kernel_rfl
  code := by rw [G.K]; kernel_rfl
  glob := by kernel_rfl
  bi := by kernel_rfl
  kind := by kernel_rfl
  co := by kernel_rfl
  gen := by kernel_rfl
  bind := all1 fun a => by kernel_rfl
  names := by kernel_rfl
  nodup := by decide
  scope := by kernel_rfl
section
variable {c : Cx} {h₀ : Heap} {O : Addr → Prop} {k : Nat} {env : Env} {lv : Str → Option Value} {ρ : List (Str × D)} {A : Around} {s : Shared}
/-- bind a target within a body -/
theorem st_bind {tgt : Expr} {xs : List Str} {d : D} {σ : List (Str × D)} {v : Value} {Q : Unit → Shared → Prop} {E : Value → Shared → Prop} (X : AsO c env tgt xs d σ) (hh : A.handled = none) (F : Fs c h₀ O env lv s) (B : Bd c O lv s.heap ρ) (i : Is c O s.heap d v)
    (h : ∀ s' lv', Fs c h₀ O env lv' s' → Chg (TA env xs) s.heap s'.heap → Bd c O lv' s'.heap (σ ++ ρ) → (∀ x, σ.lookup x = none → lv' x = lv x) → Q () s') : wpAny (model c.prog c.w) A (assign tgt env v) Q E s :=
  X O A s lv v Q E hh F.st F.es F.fr F.own F.frm i fun s' lv' S' ch F' e1 e2 => h s' lv' (F.ta S' ch F') ch (Fs.bound (h := s.heap) F B ch e1 e2) e1
noncomputable def HasW (env : Env) (x : Str) : Bool := Has env x && decide (env.kindOf x ≠ some .free)
theorem HasW.has {x : Str} (h : HasW env x = true) : Has env x = true := by unfold HasW at h; rw [Bool.and_eq_true] at h; exact h.1
theorem HasW.nf {x : Str} (h : HasW env x = true) : env.kindOf x ≠ some .free := by unfold HasW at h; rw [Bool.and_eq_true] at h; exact of_decide_eq_true h.2
theorem as_name' {x : Str} {p : Pos} {d : D} (hw : HasW env x = true := by kernel_rfl) : AsO c env (.Name x p) [x] d [(x, d)] := as_name (HasW.has hw) (HasW.nf hw)
theorem as_tuple' {es : List Expr} {xs : List Str} {n : Nat} {p : Pos} {ds : List D} (hN : NamesOf es xs) (hl : xs.length = ds.length) (hw : (xs.all (HasW env) && decide xs.Nodup) = true := by kernel_rfl) : AsO c env (.Tuple es n p) xs (.tuple ds) (xs.zip ds) := by
  rw [Bool.and_eq_true] at hw
  exact as_tuple hN hl (fun x hx => ⟨HasW.has (List.all_eq_true.mp hw.1 x hx), HasW.nf (List.all_eq_true.mp hw.1 x hx)⟩) (of_decide_eq_true hw.2)
theorem Fs.drop {O' : Addr → Prop} (F : Fs c h₀ O' env lv s) (hO : ∀ b, O b → O' b) (fr : ∀ b, FrameAddr env b → O b) : Fs c h₀ O env lv s := ⟨F.st, F.es, fun b q => F.own b (hO b q), fr, F.frm, F.grow, F.above, F.base⟩
theorem tr_ev {e : Expr} {b : Bool} (X : EvO c O k env ρ e (.bool b)) (he : isTrue e env (eval e env) = (do let v ← eval e env; standAt e.pos; holding [v] (truthy v)) := by rfl) : TrO c O k env ρ e b := fun A s R S V => by
  rw [he]
  refine wpAny_bind (X.use R S V fun v s' S' g i => ?_)
  unfold Is at i; subst i
  exact wpAny_bind (wpAny_standAt (wpAny_holding (wpAny_truthy_bool ⟨S', g, rfl⟩)))
theorem boot_isinstance : bootBuiltins "isinstance" = some (.builtin "isinstance") := by decide +kernel
theorem boot_tuple' : bootBuiltins "tuple" = some (.type "tuple") := by decide +kernel
noncomputable def isTup : D → Bool
  | .tuple _ => true
  | _ => false
end
end Mine
end
section
open PySem PySem.W PyProof.Rows
set_option maxRecDepth 100000
set_option linter.unusedVariables false
namespace Mine
/-- what a frame owns -/
inductive OD where
  | dict (l : List (Str × D))
  | list (l : List D)
  | pile (l : List D)
/-- an object of the class _Accumulator: the class lies at 129 -/
noncomputable def OwnP (c : Cx) (O : Addr → Prop) (h : Heap) (a : Addr) (ds : List D) : Prop := ∃ d o vs n, h.get? a = some { cls := .ref 129, dict := some d, data := .seq vs n } ∧ (h.get? d = some o ∧ ¬ O d ∧ PDict o) ∧ IsAll c O h ds vs.toList
noncomputable def OwnX (c : Cx) (O : Addr → Prop) (h : Heap) (a : Addr) : OD → Prop
  | .dict ds => OwnD c O h a ds
  | .list ds => OwnL c O h a ds
  | .pile ds => OwnP c O h a ds
abbrev OL := List (Str × Addr × OD)
noncomputable def OX (X : Addr → Prop) (ω : OL) : Addr → Prop := fun b => X b ∨ ∃ w ∈ ω, w.2.1 = b
/-- a thing not yet bound bears a digit for a name -/
noncomputable def anon (x : Str) : Bool := [("1" : Str), "2", "3", "4", "5"].contains x
noncomputable def OwnAll (c : Cx) (O : Addr → Prop) (lv : Str → Option Value) (h : Heap) (ω : OL) : Prop := ∀ w ∈ ω, (anon w.1 = true ∨ lv w.1 = some (.ref w.2.1)) ∧ OwnX c O h w.2.1 w.2.2
section
variable {c : Cx} {O O' : Addr → Prop} {h h' : Heap} {a : Addr}
theorem OwnX.chg {od : OD} {P : Addr → Prop} (x : OwnX c O h a od) (g : Chg P h h') (hP : ∀ b, P b → O b) (ha : ¬ P a) : OwnX c O h' a od := by
  cases od with
  | dict ds => exact OwnD.chg x g hP ha
  | list ds => exact OwnL.chg x g hP ha
  | pile ds =>
    obtain ⟨d, o, vs, n, ho, ⟨h1, h2, h3⟩, r⟩ := x
    exact ⟨d, o, vs, n, g.2 a _ ha (not_frail_cls nofun) ho, ⟨g.2 d _ (fun q => h2 (hP d q)) h3.nf h1, h2, h3⟩, r.chg (g.sub hP)⟩
theorem OwnX.grow {od : OD} (x : OwnX c O h a od) (g : Grow h h') : OwnX c O h' a od := x.chg (P := fun _ => False) g.chg (fun _ q => q.elim) id
theorem OwnX.sub {od : OD} (x : OwnX c O h a od) (hO : ∀ b, O' b → O b) : OwnX c O' h a od := by
  cases od with
  | dict ds => exact OwnD.sub x hO
  | list ds => exact OwnL.sub x hO
  | pile ds => obtain ⟨d, o, vs, n, ho, ⟨h1, h2, h3⟩, r⟩ := x; exact ⟨d, o, vs, n, ho, ⟨h1, fun q => h2 (hO d q), h3⟩, r.sub hO⟩
theorem OwnX.lt {od : OD} (x : OwnX c O h a od) : a < h.objs.size := by
  cases od with
  | dict ds => exact OwnD.lt x
  | list ds => exact OwnL.lt x
  | pile ds => obtain ⟨d, o, vs, n, ho, _, r⟩ := x; exact Heap.lt_size ho
theorem OwnX.up {od : OD} (x : OwnX c O h a od) {N : Nat} (hN : h.objs.size ≤ N) : OwnX c (Up O N) h a od := by
  cases od with
  | dict ds => exact OwnD.up x hN
  | list ds => exact OwnL.up x hN
  | pile ds => obtain ⟨d, o, vs, n, ho, ⟨h1, h2, h3⟩, r⟩ := x; exact ⟨d, o, vs, n, ho, ⟨h1, fun q => q.elim h2 fun q => Nat.lt_irrefl _ (Nat.lt_of_lt_of_le (Heap.lt_size h1) (Nat.le_trans hN q)), h3⟩, IsAll.up hN _ _ r⟩
theorem OwnX.noTuple {od : OD} (x : OwnX c O h a od) : ∃ o, h.get? a = some o ∧ o.cls ≠ .type "tuple" ∧ ¬ Frail o := by
  cases od with
  | dict ds =>
    obtain ⟨_, kvs, ep, ⟨o, es, ho, hx, r⟩, _⟩ := x
    refine ⟨o, ho, ?_, not_frail_dict hx⟩
    rw [hx.1]; simp
  | list ds => obtain ⟨vs, n, ho, r⟩ := x; exact ⟨_, ho, by simp, not_frail_cls nofun⟩
  | pile ds => obtain ⟨d, o, vs, n, ho, _, r⟩ := x; exact ⟨_, ho, nofun, not_frail_cls nofun⟩
end

structure Blk where
  h₀ : Heap
  X : Addr → Prop
  Y : Addr → Prop
  hb : Heap
noncomputable def Blk.may (b : Blk) : Addr → Prop := fun a => b.Y a ∨ b.hb.objs.size ≤ a
/-- what holds ahead of a statement: ρ the names bound to data, ω the names bound to what the frame owns -/
structure Sx (c : Cx) (env : Env) (b : Blk) (ρ : List (Str × D)) (ω : OL) (s : Shared) : Prop where
  ex : ∃ lv, Fs c b.h₀ (OX b.X ω) env lv s ∧ Bd c (OX b.X ω) lv s.heap ρ ∧ OwnAll c (OX b.X ω) lv s.heap ω
  nd : ω.Pairwise fun x y => x.1 ≠ y.1 ∧ x.2.1 ≠ y.2.1
  mine : ∀ w ∈ ω, ¬ b.X w.2.1 ∧ b.h₀.objs.size ≤ w.2.1 ∧ b.may w.2.1
  fr : ∀ a, FrameAddr env a → b.X a ∧ b.may a
  chg : Chg b.may b.hb s.heap

section
variable {c : Cx} {env : Env} {b : Blk} {k : Nat} {ρ : List (Str × D)} {ω : OL} {A : Around} {s : Shared}
theorem OwnAll.go {O : Addr → Prop} {lv : Str → Option Value} {h h' : Heap} (x : OwnAll c O lv h ω) (g : Grow h h') : OwnAll c O lv h' ω := fun w hw => ⟨(x w hw).1, (x w hw).2.grow g⟩
theorem Sx.st (x : Sx c env b ρ ω s) : St c s := let ⟨_, F, _⟩ := x.ex; F.st
theorem Sx.go (x : Sx c env b ρ ω s) {s' : Shared} (S : St c s') (g : Grow s.heap s'.heap) : Sx c env b ρ ω s' := by
  obtain ⟨⟨lv, F, B, W⟩, nd, mine, fr, chg⟩ := x
  exact ⟨⟨lv, F.go S g, B.go g, W.go g⟩, nd, mine, fr, chg.trans g.chg⟩
/-- fewer names -/
noncomputable def Keeps (ρ : List (Str × D)) : List (Str × D) → Prop
  | [] => True
  | p :: r => ρ.lookup p.1 = some p.2 ∧ Keeps ρ r
theorem Keeps.get : ∀ {ρ' : List (Str × D)} (_ : Keeps ρ ρ') {x : Str} {d : D}, ρ'.lookup x = some d → ρ.lookup x = some d
  | [], _, x, d, e => by cases e
  | p :: r, h, x, d, e => by
    rw [List.lookup_cons] at e
    cases q : x == p.1 with
    | true => rw [q] at e; cases e; rw [beq_iff_eq.mp q]; exact h.1
    | false => rw [q] at e; exact Keeps.get h.2 e
theorem Sx.keep {ρ' : List (Str × D)} (x : Sx c env b ρ ω s) (h : Keeps ρ ρ') : Sx c env b ρ' ω s := by
  obtain ⟨⟨lv, F, B, W⟩, nd, mine, fr, chg⟩ := x
  exact ⟨⟨lv, F, fun y d e => B y d (h.get e), W⟩, nd, mine, fr, chg⟩

/-- an expression, as it is used under Sx -/
noncomputable def SxEv (c : Cx) (env : Env) (b : Blk) (k : Nat) (ρ : List (Str × D)) (ω : OL) (e : Expr) (d : D) : Prop :=
  ∀ (A : Around) (s : Shared) (Q : Value → Shared → Prop), Room k A → Sx c env b ρ ω s → (∀ v s', Sx c env b ρ ω s' → Grow s.heap s'.heap → Is c (OX b.X ω) s'.heap d v → Q v s') → wpAny (model c.prog c.w) A (eval e env) Q F0 s
noncomputable def SxTr (c : Cx) (env : Env) (b : Blk) (k : Nat) (ρ : List (Str × D)) (ω : OL) (e : Expr) (q : Bool) : Prop :=
  ∀ (A : Around) (s : Shared) (Q : Bool → Shared → Prop), Room k A → Sx c env b ρ ω s → (∀ s', Sx c env b ρ ω s' → Grow s.heap s'.heap → Q q s') → wpAny (model c.prog c.w) A (isTrue e env (eval e env)) Q F0 s
theorem EvO.sx {e : Expr} {d : D} (X : EvO c (OX b.X ω) k env ρ e d) : SxEv c env b k ρ ω e d := fun A s Q R x h => by
  obtain ⟨lv, F, B, W⟩ := id x.ex
  exact X.use R F.st (F.ok B) fun v s' S' g i => h v s' (x.go S' g) g i
theorem TrO.sx {e : Expr} {q : Bool} (X : TrO c (OX b.X ω) k env ρ e q) : SxTr c env b k ρ ω e q := fun A s Q R x h => by
  obtain ⟨lv, F, B, W⟩ := id x.ex
  exact X.use R F.st (F.ok B) fun s' S' g => h s' (x.go S' g) g
/-- the owned ones read as data -/
noncomputable def OD.asD : OD → Option D
  | .dict l => some (.dict l)
  | .list l => some (.list l)
  | .pile l => some (.pile l)
noncomputable def lend : OL → List (Str × D)
  | [] => []
  | w :: r => match anon w.1, w.2.2.asD with
    | false, some d => (w.1, d) :: lend r
    | _, _ => lend r
theorem lend_get : ∀ {ω : OL} {x : Str} {d : D}, (lend ω).lookup x = some d → ∃ a od, (x, a, od) ∈ ω ∧ od.asD = some d ∧ anon x = false
  | [], x, d, e => by cases e
  | (y, a, od) :: r, x, d, e => by
    unfold lend at e
    split at e
    · rename_i d' q1 q2
      rw [List.lookup_cons] at e
      cases z : x == y with
      | true => rw [z] at e; cases e; rw [beq_iff_eq.mp z]; exact ⟨a, od, List.mem_cons_self, q2, q1⟩
      | false => rw [z] at e; obtain ⟨a', od', m, z⟩ := lend_get e; exact ⟨a', od', List.mem_cons_of_mem _ m, z⟩
    · obtain ⟨a', od', m, z⟩ := lend_get e; exact ⟨a', od', List.mem_cons_of_mem _ m, z⟩
theorem OwnX.is {O : Addr → Prop} {h : Heap} {a : Addr} {od : OD} {d : D} (x : OwnX c O h a od) (ha : ¬ O a) (e : od.asD = some d) : Is c O h d (.ref a) := by
  cases od with
  | dict ds => cases e; exact OwnD.is x ha
  | list ds => cases e; exact OwnL.is x ha
  | pile ds =>
    cases e
    obtain ⟨d, o, vs, n, ho, h1, r⟩ := x
    unfold Is; exact ⟨a, d, o, vs, n, rfl, ha, ho, h1, r⟩
theorem Sx.lent (x : Sx c env b ρ ω s) : EnvOk c b.X env (lend ω ++ ρ) s.heap := by
  obtain ⟨⟨lv, F, B, W⟩, nd, mine, fr, chg⟩ := x
  refine ⟨F.es, fun a q => F.own a (.inl q), fun a q => (fr a q).1, lv, F.frm, fun y d e => ?_⟩
  rw [List.lookup_append] at e
  cases q : (lend ω).lookup y with
  | none =>
    rw [q] at e
    obtain ⟨v, a, z⟩ := B y d e
    exact ⟨v, a, z.sub fun a q => .inl q⟩
  | some d' =>
    rw [q] at e; cases e
    obtain ⟨a, od, m, z, an⟩ := lend_get q
    obtain ⟨e1, w1⟩ := W _ m
    exact ⟨_, e1.resolve_left (by rw [an]; nofun), (w1.sub fun a q => .inl q).is (mine _ m).1 z⟩
theorem EvO.sxl {e : Expr} {d : D} (X : EvO c b.X k env (lend ω ++ ρ) e d) (hf : d.flat = true) : SxEv c env b k ρ ω e d := fun A s Q R x h => by
  obtain ⟨lv, F, B, W⟩ := id x.ex
  refine X.use R F.st x.lent fun v s' S' g i => h v s' (x.go S' g) g (Is.flat (fun a q => ?_) _ _ hf i)
  rcases q with q | ⟨w, hw, rfl⟩
  · exact .inl q
  · obtain ⟨o, a1, a2, a3⟩ := (W w hw).2.noTuple
    exact .inr ⟨o, g.2 _ _ a3 a1, a2⟩
theorem TrO.sxl {e : Expr} {q : Bool} (X : TrO c b.X k env (lend ω ++ ρ) e q) : SxTr c env b k ρ ω e q := fun A s Q R x h => by
  obtain ⟨lv, F, B, W⟩ := id x.ex
  exact X.use R F.st x.lent fun s' S' g => h s' (x.go S' g) g

/-! statements -/
noncomputable def noOwn (σ : List Str) (ω : OL) : Bool := ω.all fun w => !σ.contains w.1
theorem noOwn.get {σ : List Str} {w : Str × Addr × OD} (h : noOwn σ ω = true) (hw : w ∈ ω) : w.1 ∉ σ := by
  have := List.all_eq_true.mp h w hw
  simpa using this
theorem Sx.frame_ne (x : Sx c env b ρ ω s) {w : Str × Addr × OD} (hw : w ∈ ω) : ¬ FrameAddr env w.2.1 := fun q => (x.mine w hw).1 (x.fr _ q).1
/-- the names of a target -/
theorem lookup_keys {σ : List (Str × D)} {y : Str} (h : y ∉ σ.map (·.1)) : σ.lookup y = none := by
  induction σ with
  | nil => rfl
  | cons p r ih =>
    rw [List.map_cons, List.mem_cons] at h
    rw [List.lookup_cons]
    have : (y == p.1) = false := by simpa using fun e : y = p.1 => h (.inl e)
    rw [this]
    exact ih fun q => h (.inr q)
theorem sx_bind {tgt : Expr} {xs : List Str} {d : D} {σ : List (Str × D)} {v : Value} {Q : Unit → Shared → Prop} {E : Value → Shared → Prop} (X : AsO c env tgt xs d σ) (hh : A.handled = none) (x : Sx c env b ρ ω s) (i : Is c (OX b.X ω) s.heap d v)
    (h : ∀ s', Sx c env b (σ ++ ρ) ω s' → Q () s') (hn : noOwn (σ.map (·.1)) ω = true := by kernel_rfl) : wpAny (model c.prog c.w) A (assign tgt env v) Q E s := by
  obtain ⟨lv, F, B, W⟩ := id x.ex
  refine st_bind X hh F B i fun s' lv' F' ch B' e => h s' ⟨⟨lv', F', B', fun w hw => ⟨?_, ?_⟩⟩, x.nd, x.mine, x.fr, x.chg.trans (ch.sub fun a q => (x.fr a q.frame).2)⟩
  · exact (W w hw).1.imp id fun q => by rw [e _ (lookup_keys (noOwn.get hn hw))]; exact q
  · exact (W w hw).2.chg ch (fun a q => F.fr a q.frame) fun q => x.frame_ne hw q.frame
theorem sx_seq {st : Stmt} {rest : List Stmt} {Q : Flow → Shared → Prop} (h : wpAny (model c.prog c.w) A (exec st env) (fun f s' => match f with | .next => wpAny (model c.prog c.w) A (execs rest env) Q F0 s' | f => Q f s') F0 s) :
    wpAny (model c.prog c.w) A (execs (st :: rest) env) Q F0 s := st_seq h
theorem sx_store {y : Str} {v : Value} {d : D} {Q : Unit → Shared → Prop} {E : Value → Shared → Prop} (x : Sx c env b ρ ω s) (i : Is c (OX b.X ω) s.heap d v)
    (h : ∀ s', Sx c env b ((y, d) :: ρ) ω s' → Q () s') (hw : HasW env y = true := by kernel_rfl) (hn : noOwn [y] ω = true := by kernel_rfl) : wpAny (model c.prog c.w) A (storeName env y v) Q E s := by
  obtain ⟨lv, F, B, W⟩ := id x.ex
  refine st_store F (HasW.has hw) (HasW.nf hw) fun s' F' ch => h s' ⟨⟨_, F', fun z d' e => ?_, fun w hw' => ⟨?_, ?_⟩⟩, x.nd, x.mine, x.fr, x.chg.trans (ch.sub fun a q => (x.fr a q.frame).2)⟩
  · rw [List.lookup_cons] at e
    cases q : z == y with
    | true => rw [q] at e; cases e; rw [beq_iff_eq.mp q]; exact ⟨v, by simp [upd], i.chg (ch.sub fun a q => F.fr a q.frame)⟩
    | false =>
      rw [q] at e
      obtain ⟨u, a, z'⟩ := B z d' e
      have : z ≠ y := by simpa using q
      exact ⟨u, by simp [upd, this, a], z'.chg (ch.sub fun a q => F.fr a q.frame)⟩
  · have : w.1 ≠ y := by simpa using noOwn.get hn hw'
    exact (W w hw').1.imp id fun q => by simp [upd, this, q]
  · exact (W w hw').2.chg ch (fun a q => F.fr a q.frame) fun q => x.frame_ne hw' q.frame
theorem sx_assign {y : Str} {p pos : Pos} {e : Expr} {d : D} {Q : Flow → Shared → Prop} (X : SxEv c env b k ρ ω e d) (R : Room k A) (x : Sx c env b ρ ω s)
    (h : ∀ s', Sx c env b ((y, d) :: ρ) ω s' → Q .next s') (hs : swapsWith e (some (.Name y p)) pos.line env = pure false := by rfl) (hw : HasW env y = true := by kernel_rfl) (hn : noOwn [y] ω = true := by kernel_rfl) :
    wpAny (model c.prog c.w) A (exec (.Assign [.Name y p] e pos) env) Q F0 s := by
  exact wpAny_Assign_Name (X _ s _ R x fun v s' x' g i => sx_store x' i h hw hn) hs
theorem sx_if {t : Expr} {q : Bool} {th el : List Stmt} {pos : Pos} {Q : Flow → Shared → Prop} (T : SxTr c env b k ρ ω t q) (R : Room k A) (x : Sx c env b ρ ω s)
    (h1 : q = true → ∀ s', Sx c env b ρ ω s' → wpAny (model c.prog c.w) A (execs th env) Q F0 s')
    (h2 : q = false → ∀ s', Sx c env b ρ ω s' → wpAny (model c.prog c.w) A (execs el env) Q F0 s') : wpAny (model c.prog c.w) A (exec (.If t th el pos) env) Q F0 s := by
  refine wpAny_If (T A s _ R x fun s' x' g => ?_)
  cases q with
  | true => simp only [if_true]; exact h1 rfl s' x'
  | false => simp only [Bool.false_eq_true, if_false]; exact h2 rfl s' x'
theorem sx_return {e : Expr} {pos : Pos} {d : D} {Q : Flow → Shared → Prop} (X : SxEv c env b k ρ ω e d) (R : Room k A) (x : Sx c env b ρ ω s)
    (h : ∀ v s', Sx c env b ρ ω s' → Is c (OX b.X ω) s'.heap d v → Q (.ret v) s') : wpAny (model c.prog c.w) A (exec (.Return (some e) pos) env) Q F0 s :=
  wpAny_Return_some (X A s _ R x fun v s' x' g i => h v s' x' i)
end
end Mine
end
section
open PySem PySem.W PyProof.Rows
set_option maxRecDepth 100000
set_option linter.unusedVariables false
namespace Mine
noncomputable def oset (ω : OL) (y : Str) (od : OD) : OL := ω.map fun w => if w.1 == y then (w.1, w.2.1, od) else w
noncomputable def odel (ω : OL) (y : Str) : OL := ω.filter fun w => !(w.1 == y)
noncomputable def oren (ω : OL) (x y : Str) : OL := ω.map fun w => if w.1 == x then (y, w.2.1, w.2.2) else w
theorem lookup_mem {α : Type} : ∀ {l : List (Str × α)} {y : Str} {v : α}, l.lookup y = some v → (y, v) ∈ l
  | [], y, v, e => by cases e
  | (z, u) :: r, y, v, e => by
    rw [List.lookup_cons] at e
    cases q : y == z with
    | true => rw [q] at e; cases e; rw [beq_iff_eq.mp q]; exact List.mem_cons_self
    | false => rw [q] at e; exact List.mem_cons_of_mem _ (lookup_mem e)
theorem OX.eq_of {X : Addr → Prop} {ω ω' : OL} (h : ω'.map (·.2.1) = ω.map (·.2.1)) {a : Addr} (q : OX X ω' a) : OX X ω a := by
  refine q.imp id fun ⟨w, hw, e⟩ => ?_
  have : a ∈ ω.map (·.2.1) := h ▸ List.mem_map.mpr ⟨w, hw, e⟩
  obtain ⟨w', hw', e'⟩ := List.mem_map.mp this
  exact ⟨w', hw', e'⟩
theorem oset_ads (ω : OL) (y : Str) (od : OD) : (oset ω y od).map (·.2.1) = ω.map (·.2.1) := by
  unfold oset; rw [List.map_map]; refine List.map_congr_left fun w _ => ?_
  simp only [Function.comp]; split <;> rfl
theorem oren_ads (ω : OL) (x y : Str) : (oren ω x y).map (·.2.1) = ω.map (·.2.1) := by
  unfold oren; rw [List.map_map]; refine List.map_congr_left fun w _ => ?_
  simp only [Function.comp]; split <;> rfl
theorem nd_uniq {ω : OL} (nd : ω.Pairwise fun x y => x.1 ≠ y.1 ∧ x.2.1 ≠ y.2.1) {w w' : Str × Addr × OD} (h : w ∈ ω) (h' : w' ∈ ω) (e : w.1 = w'.1 ∨ w.2.1 = w'.2.1) : w = w' := by
  induction nd with
  | nil => cases h
  | cons hx _ ih =>
    rcases List.mem_cons.mp h with rfl | h1
    · rcases List.mem_cons.mp h' with rfl | h2
      · rfl
      · exact (e.elim (fun e => (hx _ h2).1 e) fun e => (hx _ h2).2 e).elim
    · rcases List.mem_cons.mp h' with rfl | h2
      · exact (e.elim (fun e => (hx _ h1).1 e.symm) fun e => (hx _ h1).2 e.symm).elim
      · exact ih h1 h2
section
variable {c : Cx} {env : Env} {b : Blk} {k : Nat} {ρ : List (Str × D)} {ω : OL} {A : Around} {s s' : Shared}
theorem Fs.owns {h₀ : Heap} {O O' : Addr → Prop} {env : Env} {lv : Str → Option Value} (F : Fs c h₀ O env lv s) (hO : ∀ a, O' a → O a) (fr : ∀ a, FrameAddr env a → O' a) : Fs c h₀ O' env lv s := F.drop hO fr
theorem Sx.fr' (x : Sx c env b ρ ω s) {ω' : OL} : ∀ a, FrameAddr env a → OX b.X ω' a := fun a q => .inl (x.fr a q).1
theorem Sx.mineA (x : Sx c env b ρ ω s) {w : Str × Addr × OD} (hw : w ∈ ω) : MineA b.h₀ (OX b.X ω) env w.2.1 := ⟨.inr ⟨w, hw, rfl⟩, (x.mine w hw).2.1, x.frame_ne hw⟩
/-- one owned thing is changed -/
theorem Sx.set (x : Sx c env b ρ ω s) {y : Str} {a : Addr} {od od' : OD} (hm : (y, a, od) ∈ ω) (hs : Heap.SameBut a s.heap s'.heap) (hg : s'.gens = s.gens) (ho : s'.os = s.os) (hn : OwnX c (OX b.X ω) s'.heap a od') : Sx c env b ρ (oset ω y od') s' := by
  obtain ⟨lv, F, B, W⟩ := id x.ex
  have cha : Chg (fun b => b = a) s.heap s'.heap := SameBut.chg hs rfl
  have oa : OX b.X ω a := .inr ⟨_, hm, rfl⟩
  have chO : Chg (OX b.X ω) s.heap s'.heap := cha.sub fun z e => e ▸ oa
  have sub1 : ∀ z, OX b.X (oset ω y od') z → OX b.X ω z := fun z => OX.eq_of (oset_ads ..)
  refine ⟨⟨lv, (F.same (x.mineA hm) hs hg ho).owns sub1 x.fr', (B.chg chO).sub sub1, fun w hw => ?_⟩, ?_, fun w hw => ?_, x.fr, x.chg.trans (cha.sub fun z e => e ▸ (x.mine _ hm).2.2)⟩
  · obtain ⟨w', hw', e⟩ := List.mem_map.mp hw
    by_cases q : w'.1 == y
    · rw [if_pos q] at e; subst e
      have e' := nd_uniq x.nd hw' hm (.inl (beq_iff_eq.mp q))
      subst e'
      exact ⟨(W _ hw').1, hn.sub sub1⟩
    · rw [if_neg q] at e; subst e
      refine ⟨(W _ hw').1, ((W _ hw').2.chg cha (fun z e => e ▸ oa) fun e => ?_).sub sub1⟩
      have e' := nd_uniq x.nd hw' hm (.inr e)
      subst e'
      exact q (beq_iff_eq.mpr rfl)
  · unfold oset
    rw [List.pairwise_map]
    refine x.nd.imp fun {u v} h => ?_
    split <;> split <;> exact h
  · obtain ⟨w', hw', e⟩ := List.mem_map.mp hw
    have := x.mine w' hw'
    split at e <;> · subst e; exact this
/-- an owned thing becomes a datum -/
theorem Sx.give (x : Sx c env b ρ ω s) (y : Str) {a : Addr} {od : OD} {d : D} (hm : ω.lookup y = some (a, od) := by rfl) (hd : od.asD = some d := by rfl) (ha : anon y = false := by decide) : Sx c env b ((y, d) :: ρ) (odel ω y) s := by
  obtain ⟨lv, F, B, W⟩ := id x.ex
  have hm' := lookup_mem hm
  have sub1 : ∀ z, OX b.X (odel ω y) z → OX b.X ω z := fun z q => q.imp id fun ⟨w, hw, e⟩ => ⟨w, (List.mem_filter.mp hw).1, e⟩
  have na : ¬ OX b.X (odel ω y) a := fun q => by
    rcases q with q | ⟨w, hw, e⟩
    · exact (x.mine _ hm').1 q
    · obtain ⟨h1, h2⟩ := List.mem_filter.mp hw
      have e' := nd_uniq x.nd h1 hm' (.inr e)
      subst e'
      simp at h2
  refine ⟨⟨lv, F.owns sub1 x.fr', fun z d' e => ?_, fun w hw => ?_⟩, x.nd.filter _, fun w hw => x.mine w (List.mem_filter.mp hw).1, x.fr, x.chg⟩
  · rw [List.lookup_cons] at e
    cases q : z == y with
    | true =>
      rw [q] at e; cases e; rw [beq_iff_eq.mp q]
      exact ⟨_, (W _ hm').1.resolve_left (by rw [ha]; nofun), ((W _ hm').2.sub sub1).is na hd⟩
    | false =>
      rw [q] at e
      obtain ⟨v, e1, i⟩ := B z d' e
      exact ⟨v, e1, i.sub sub1⟩
  · have := W w (List.mem_filter.mp hw).1
    exact ⟨this.1, this.2.sub sub1⟩
theorem Sx.drop (x : Sx c env b ρ ω s) (y : Str) : Sx c env b ρ (odel ω y) s := by
  obtain ⟨lv, F, B, W⟩ := id x.ex
  have sub1 : ∀ z, OX b.X (odel ω y) z → OX b.X ω z := fun z q => q.imp id fun ⟨w, hw, e⟩ => ⟨w, (List.mem_filter.mp hw).1, e⟩
  exact ⟨⟨lv, F.owns sub1 x.fr', B.sub sub1, fun w hw => ⟨(W w (List.mem_filter.mp hw).1).1, (W w (List.mem_filter.mp hw).1).2.sub sub1⟩⟩, x.nd.filter _, fun w hw => x.mine w (List.mem_filter.mp hw).1, x.fr, x.chg⟩
/-- a new object, not bound yet -/
theorem Sx.alloc (x : Sx c env b ρ ω s) {o : Obj} {od : OD} (nm : Str) (h : OwnX c (Up (OX b.X ω) s.heap.objs.size) (s.heap.push o) s.heap.objs.size od) (e : s'.heap = s.heap.push o) (hg : s'.gens = s.gens) (ho : s'.os = s.os)
    (hnm : anon nm = true := by decide) (hn : noOwn [nm] ω = true := by kernel_rfl) : Sx c env b ρ ((nm, s.heap.objs.size, od) :: ω) s' := by
  obtain ⟨lv, F, B, W⟩ := id x.ex
  have g : Grow s.heap s'.heap := e ▸ Grow.push _ _
  have S' : St c s' := F.st.keeps (fun b o' z => by rw [e]; exact Heap.get?_push_of_some o z) g.1 hg ho
  have up : ∀ z, OX b.X ((nm, s.heap.objs.size, od) :: ω) z → Up (OX b.X ω) s.heap.objs.size z := fun z q => by
    rcases q with q | ⟨w, hw, e⟩
    · exact .inl (.inl q)
    · rcases List.mem_cons.mp hw with rfl | hw
      · exact .inr (Nat.le_of_eq e)
      · exact .inl (.inr ⟨w, hw, e⟩)
  have F' := F.go S' g
  refine ⟨⟨lv, ⟨F'.st, F'.es, fun z q => ?_, x.fr', F'.frm, F'.grow, F'.above, F'.base⟩, ((B.up (Nat.le_refl _)).sub up).go g, fun w hw => ?_⟩, List.pairwise_cons.mpr ⟨fun w hw => ⟨fun q => ?_, fun q => ?_⟩, x.nd⟩, fun w hw => ?_, x.fr, x.chg.trans g.chg⟩
  · rcases up z q with q | q
    · exact F'.own z q
    · rcases id ‹OX b.X _ z› with q' | ⟨w, hw, rfl⟩
      · exact F'.own _ (.inl q')
      · rcases List.mem_cons.mp hw with rfl | hw
        · rw [e]; simp
        · exact F'.own _ (.inr ⟨w, hw, rfl⟩)
  · rcases List.mem_cons.mp hw with rfl | hw
    · exact ⟨.inl hnm, (e ▸ h).sub up⟩
    · exact ⟨(W w hw).1, (((W w hw).2.up (Nat.le_refl _)).sub up).grow g⟩
  · exact noOwn.get hn hw (by simp [← q])
  · exact Nat.lt_irrefl _ (Nat.lt_of_lt_of_eq ((W w hw).2.lt) q)
  · rcases List.mem_cons.mp hw with rfl | hw
    · exact ⟨fun q => Nat.lt_irrefl _ (F.own _ (.inl q)), F.grow.1, .inr x.chg.1⟩
    · exact x.mine w hw
/-- and bound -/
theorem sx_storeOwn {y nm : Str} {a : Addr} {od : OD} {Q : Unit → Shared → Prop} {E : Value → Shared → Prop} (x : Sx c env b ρ ω s) (hm : ω.lookup nm = some (a, od)) (h : ∀ s', Sx c env b ρ (oren ω nm y) s' → Q () s') (hρ : ρ.lookup y = none := by rfl) (hnm : anon nm = true := by decide)
    (hw : HasW env y = true := by kernel_rfl) (hn : noOwn [y] ω = true := by kernel_rfl) : wpAny (model c.prog c.w) A (storeName env y (.ref a)) Q E s := by
  obtain ⟨lv, F, B, W⟩ := id x.ex
  have hm' := lookup_mem hm
  have sub1 : ∀ z, OX b.X (oren ω nm y) z → OX b.X ω z := fun z => OX.eq_of (oren_ads ..)
  refine st_store F (HasW.has hw) (HasW.nf hw) fun s' F' ch => h s' ⟨⟨_, F'.owns sub1 x.fr', ((B.upd (xs := []) hρ (ch.sub fun a q => F.fr a q.frame))).sub sub1, fun w hw0 => ?_⟩, ?_, fun w hw0 => ?_, x.fr, x.chg.trans (ch.sub fun a q => (x.fr a q.frame).2)⟩
  · obtain ⟨w', hw', e⟩ := List.mem_map.mp hw0
    have own' := ((W w' hw').2.chg ch (fun a q => F.fr a q.frame) fun q => x.frame_ne hw' q.frame).sub sub1
    by_cases q : w'.1 == nm
    · rw [if_pos q] at e; subst e
      have e' := nd_uniq x.nd hw' hm' (.inl (beq_iff_eq.mp q))
      subst e'
      exact ⟨.inr (by simp [upd]), own'⟩
    · rw [if_neg q] at e; subst e
      have : w'.1 ≠ y := by simpa using noOwn.get hn hw'
      exact ⟨(W w' hw').1.imp id fun q => by simp [upd, this, q], own'⟩
  · unfold oren
    rw [List.pairwise_map]
    refine List.Pairwise.imp_of_mem (fun {u v} hu hv h => ?_) x.nd
    have hu' : u.1 ≠ y := by simpa using noOwn.get hn hu
    have hv' : v.1 ≠ y := by simpa using noOwn.get hn hv
    split
    · rename_i q1
      split
      · rename_i q2; exact absurd ((beq_iff_eq.mp q1).trans (beq_iff_eq.mp q2).symm) h.1
      · exact ⟨Ne.symm hv', h.2⟩
    · split
      · exact ⟨hu', h.2⟩
      · exact h
  · obtain ⟨w', hw', e⟩ := List.mem_map.mp hw0
    have := x.mine w' hw'
    split at e <;> · subst e; exact this
theorem OwnD.new' (S : St c s) {O : Addr → Prop} : OwnD c O (s.heap.push { cls := .type "dict", data := .dict #[] }) s.heap.objs.size [] := by
  obtain ⟨ep, hd⟩ := (Heap.DictOf.new (knd := strKind c.prog c.w) s.heap).dictAt
  exact ⟨size_gt S, [], ep, hd, .nil⟩
/-- y = {} -/
theorem sx_newDict {y : Str} {p p' pos : Pos} {Q : Flow → Shared → Prop} (x : Sx c env b ρ ω s) (h : ∀ s' a, Sx c env b ρ (oren (("1", a, .dict []) :: ω) "1" y) s' → Q .next s') (hρ : ρ.lookup y = none := by rfl)
    (hw : HasW env y = true := by kernel_rfl) (h1 : noOwn ["1"] ω = true := by kernel_rfl) (hn : noOwn [y, "1"] ω = true := by kernel_rfl) (ha : anon y = false := by decide) :
    wpAny (model c.prog c.w) A (exec (.Assign [.Name y p] (.Dict [] [] p') pos) env) Q F0 s := by
  refine wpAny_Assign_Name (newDict_eval ?_) rfl
  have x1 : Sx c env b ρ (("1", s.heap.objs.size, .dict []) :: ω) { s with heap := s.heap.push { cls := .type "dict", data := .dict #[] } } := x.alloc (s' := { s with heap := s.heap.push { cls := .type "dict", data := .dict #[] } }) "1" (od := .dict []) (OwnD.new' x.st) rfl rfl rfl rfl h1
  refine sx_storeOwn x1 (nm := "1") (y := y) rfl (fun s' x' => h s' _ x') hρ rfl hw ?_
  refine List.all_eq_true.mpr fun w hw' => ?_
  rcases List.mem_cons.mp hw' with rfl | hw'
  · have : ("1" : Str) ≠ y := fun e => by subst e; cases ha
    simpa using this
  · have := noOwn.get hn hw'
    simp at this ⊢; exact this.1
/-- y[e1] = e -/
theorem sx_setDict {y : Str} {p1 p2 pos : Pos} {e e1 : Expr} {z : Str} {d : D} {a : Addr} {ds : List (Str × D)} {Q : Flow → Shared → Prop} (X : SxEv c env b k ρ ω e d) (Y : SxEv c env b k ρ ω e1 (.str z)) (R : Room k A) (x : Sx c env b ρ ω s)
    (hm : ω.lookup y = some (a, .dict ds)) (hz : ds.length ≤ 1000) (h : ∀ s', Sx c env b ρ (oset ω y (.dict (dput ds z d))) s' → Q .next s')
    (hy : Has env y = true := by kernel_rfl) (hs : swapsWith e (some (.Subscript (.Name y p1) e1 p2)) pos.line env = pure false := by rfl) (hd : (y == ("__debug__" : Str)) = false := by decide) (ha : anon y = false := by decide) :
    wpAny (model c.prog c.w) A (exec (.Assign [.Subscript (.Name y p1) e1 p2] e pos) env) Q F0 s := by
  have hm' := lookup_mem hm
  refine wpAny_Assign_Subscript (X A s _ R x fun v s₁ x₁ g₁ i => ?_) hs
  obtain ⟨lv, F, B, W⟩ := id x₁.ex
  refine load_name F hy ((W _ hm').1.resolve_left (by rw [ha]; nofun)) (Y A s₁ _ R x₁ fun iv s₂ x₂ g₂ j => ?_) hd
  unfold Is at j
  obtain ⟨t, rfl⟩ := j
  obtain ⟨lv2, F2, B2, W2⟩ := id x₂.ex
  obtain ⟨h1, kvs, ep, ho, kv⟩ := (W2 _ hm').2
  refine wpAny_setItem_pairs (isStr_key z t) ho.dictOf (fun h' hd hs => ?_) (by rw [kv.length]; exact Nat.le_trans hz (by decide))
  obtain ⟨ep', hd'⟩ := hd.dictAt
  refine h _ (x₂.set (s' := { s₂ with heap := h', toks := s₂.toks + 1 }) hm' hs rfl rfl ⟨h1, _, ep', hd', ?_⟩)
  exact (kv.put (i.grow g₂)).chg (SameBut.chg hs (.inr ⟨_, hm', rfl⟩))
/-- y[e1] += e on ints -/
theorem sx_augDict {y : Str} {p1 p2 pos : Pos} {e e1 : Expr} {z : Str} {m n : Int} {a : Addr} {ds : List (Str × D)} {Q : Flow → Shared → Prop} (X : SxEv c env b k ρ ω e (.int n)) (Y : SxEv c env b k ρ ω e1 (.str z)) (R : Room k A) (x : Sx c env b ρ ω s)
    (hm : ω.lookup y = some (a, .dict ds)) (hz : ds.length ≤ 1000) (hv : dget ds z = some (.int m)) (h : ∀ s', Sx c env b ρ (oset ω y (.dict (dput ds z (.int (m + n))))) s' → Q .next s')
    (hi : ∀ ov iv new, augStore e1 ov iv new = (do holding [new, ov, iv] (setItem ov iv new); release [new, ov, iv] []; pure .next) := by intros; rfl)
    (hy : Has env y = true := by kernel_rfl) (hd : (y == ("__debug__" : Str)) = false := by decide) (ha : anon y = false := by decide) :
    wpAny (model c.prog c.w) A (exec (.AugAssign (.Subscript (.Name y p1) e1 p2) .Add e pos) env) Q F0 s := by
  have hm' := lookup_mem hm
  rw [arm_exec_AugAssign_3]
  obtain ⟨lv, F, B, W⟩ := id x.ex
  refine wpAny_bind (wpAny_standAt (wpAny_bind (load_name F hy ((W _ hm').1.resolve_left (by rw [ha]; nofun)) (wpAny_bind (wpAny_holding (Y A s _ R x fun iv s₁ x₁ g₁ j => ?_))) hd)))
  unfold Is at j
  obtain ⟨t, rfl⟩ := j
  obtain ⟨lv1, F1, B1, W1⟩ := id x₁.ex
  obtain ⟨h1, kvs, ep, ho, kv⟩ := (W1 _ hm').2
  obtain ⟨v', e', zz⟩ := kv.find hv
  unfold Is at zz
  obtain ⟨t', rfl⟩ := zz
  refine wpAny_bind (wpAny_holding (wpAny_bind (wpAny_standAt (wpAny_bind (wpAny_getItem_of (isStr_key z t) ho.dictOf.mapOf e' ?_)))))
  have x₂ : Sx c env b ρ ω { s₁ with toks := s₁.toks + 1 } := x₁.go (x₁.st.tok _) (Grow.refl _)
  refine wpAny_bind (wpAny_holding (X A _ _ R x₂ fun v s₃ x₃ g₃ i => ?_))
  unfold Is at i
  obtain ⟨u, rfl⟩ := i
  refine wpAny_bind (wpAny_standAt (wpAny_operating (wpAny_iadd_int ?_)))
  have x₄ : Sx c env b ρ ω { s₃ with toks := s₃.toks + 1 } := x₃.go (x₃.st.tok _) (Grow.refl _)
  refine wpAny_bind (wpAny_standAt ?_)
  rw [hi]
  obtain ⟨lv4, F4, B4, W4⟩ := id x₄.ex
  obtain ⟨h1', kvs', ep', ho', kv'⟩ := (W4 _ hm').2
  refine wpAny_bind (wpAny_holding (wpAny_setItem_pairs (isStr_key z t) ho'.dictOf (fun h' hd hs => ?_) (by rw [kv'.length]; exact Nat.le_trans hz (by decide))))
  obtain ⟨ep'', hd'⟩ := hd.dictAt
  refine wpAny_bind (wpAny_release' (wpAny_pure (h _ (x₄.set (s' := { s₃ with heap := h', toks := s₃.toks + 1 + 1 }) hm' hs rfl rfl ⟨h1', _, ep'', hd', ?_⟩))))
  exact (kv'.put (d := .int (m + n)) (by unfold Is; exact ⟨_, rfl⟩)).chg (SameBut.chg hs (.inr ⟨_, hm', rfl⟩))
end
end Mine
end
section
open PySem PySem.W PyProof.Rows
set_option maxRecDepth 100000
set_option linter.unusedVariables false
namespace Mine
noncomputable def names2 (ω : OL) : List (Str × Addr) := ω.map fun w => (w.1, w.2.1)
theorem names2_mem {ω ω' : OL} (h : names2 ω' = names2 ω) {w : Str × Addr × OD} (hw : w ∈ ω') : ∃ w' ∈ ω, w'.1 = w.1 ∧ w'.2.1 = w.2.1 := by
  have : (w.1, w.2.1) ∈ names2 ω := h ▸ List.mem_map.mpr ⟨w, hw, rfl⟩
  obtain ⟨w', h1, h2⟩ := List.mem_map.mp this
  exact ⟨w', h1, congrArg (·.1) h2, congrArg (·.2) h2⟩
theorem names2_pw {ω ω' : OL} (h : names2 ω' = names2 ω) (nd : ω.Pairwise fun x y => x.1 ≠ y.1 ∧ x.2.1 ≠ y.2.1) : ω'.Pairwise fun x y => x.1 ≠ y.1 ∧ x.2.1 ≠ y.2.1 := by
  have k : (names2 ω).Pairwise fun x y => x.1 ≠ y.1 ∧ x.2 ≠ y.2 := by unfold names2; rw [List.pairwise_map]; exact nd
  rw [← h] at k
  unfold names2 at k; rw [List.pairwise_map] at k; exact k
section
variable {c : Cx} {env : Env} {b : Blk} {k : Nat} {ρ : List (Str × D)} {ω : OL} {A : Around} {s s' : Shared}
/-- for tgt in iter -/
theorem sx_for {tgt iter : Expr} {body : List Stmt} {pos : Pos} {items : List D} {xs : List Str} {σ : D → List (Str × D)} {Q : Flow → Shared → Prop} (ρi : Nat → List (Str × D)) (ωi : Nat → OL)
    (hI : ItO c (OX b.X ω) k env ρ iter tgt items) (R : Room k A) (x : Sx c env b ρ ω s) (h0 : Keeps ρ (ρi 0)) (e0 : ωi 0 = ω) (hω : ∀ i, names2 (ωi i) = names2 ω)
    (has : ∀ (i : Nat) d, items[i]? = some d → AsO c env tgt xs d (σ d) ∧ noOwn ((σ d).map (·.1)) ω = true)
    (turn : ∀ (i : Nat) d, items[i]? = some d → ∀ X Y hb s', Sx c env ⟨b.h₀, X, Y, hb⟩ (σ d ++ ρi i) (ωi i) s' →
      wpAny (model c.prog c.w) A (execs body env) (fun f s₃ => (f = .next ∨ f = .cont) ∧ Sx c env ⟨b.h₀, X, Y, hb⟩ (ρi (i + 1)) (ωi (i + 1)) s₃) F0 s')
    (last : ∀ s', Sx c env b (ρi items.length) (ωi items.length) s' → Q .next s')
    (hs : ∀ x, foldedSetIterable iter env x = pure x := by intro _; rfl) :
    wpAny (model c.prog c.w) A (exec (.For tgt iter body [] pos) env) Q F0 s := by
  subst e0
  obtain ⟨lv, F, B, W⟩ := id x.ex
  generalize hO : OX b.X (ωi 0) = O at *
  have oi : ∀ i W a, OX (AddO b.X W) (ωi i) a → AddO O W a := fun i W a q => by
    subst hO
    rcases q with q | ⟨w, hw, e⟩
    · exact q.imp (fun q => .inl q) id
    · obtain ⟨w', h1, _, h2⟩ := names2_mem (hω i) hw
      exact .inl (.inr ⟨w', h1, h2.trans e⟩)
  have io : ∀ i W a, AddO O W a → OX (AddO b.X W) (ωi i) a := fun i W a q => by
    subst hO
    rcases q with (q | ⟨w, hw, e⟩) | q
    · exact .inl (.inl q)
    · obtain ⟨w', h1, _, h2⟩ := names2_mem (hω i).symm hw
      exact .inr ⟨w', h1, h2.trans e⟩
    · exact .inl (.inr q)
  have ads : ∀ i w, w ∈ ωi i → ∃ w' ∈ ωi 0, w'.1 = w.1 ∧ w'.2.1 = w.2.1 := fun i w hw => names2_mem (hω i) hw
  have mine : ∀ i w, w ∈ ωi i → ¬ b.X w.2.1 ∧ b.h₀.objs.size ≤ w.2.1 ∧ b.may w.2.1 := fun i w hw => by
    obtain ⟨w', h1, _, h2⟩ := ads i w hw
    rw [← h2]; exact x.mine w' h1
  have inO : ∀ i w, w ∈ ωi i → O w.2.1 := fun i w hw => by
    subst hO
    obtain ⟨w', h1, _, h2⟩ := ads i w hw
    exact .inr ⟨w', h1, h2⟩
  refine st_for (fun W N i lv s => Bd c (AddO O W) lv s.heap (ρi i) ∧ OwnAll c (AddO O W) lv s.heap (ωi i) ∧ Chg b.may b.hb s.heap) hI R F B ?_ ?_ ?_ hs
  · intro W' N s' hN hW F' g
    have hsz : s.heap.objs.size ≤ W' := Nat.le_trans hN hW
    refine ⟨fun y d e => ?_, fun w hw => ⟨(W w hw).1, (((W w hw).2.up (Nat.le_refl _)).sub fun a (q : AddO O W' a) => q.imp id fun (e : a = W') => e ▸ hsz).grow g⟩, x.chg.trans g.chg⟩
    exact ((B.add hsz).go g) y d (h0.get e)
  · rintro W' N i d lv' s' v hN hW hd hmut ⟨s0, ⟨B0, W0, C0⟩, ch⟩ F' iv
    have hsz : s.heap.objs.size ≤ W' := Nat.le_trans hN hW
    have ne : ∀ a, O a → a ≠ W' := fun a q => (hmut a q).1
    have hW' : W' < s'.heap.objs.size := F'.own W' (.inr rfl)
    have mayW : b.may W' := .inr (Nat.le_trans x.chg.1 hsz)
    have x' : Sx c env ⟨b.h₀, AddO b.X W', fun a => FrameAddr env a ∨ ∃ w ∈ ωi 0, w.2.1 = a, s'.heap⟩ (ρi i) (ωi i) s' := by
      refine ⟨⟨lv', F'.owns (oi i W') fun a q => .inl (.inl (x.fr a q).1), (B0.chg (ch.sub fun a q => .inr q)).sub (oi i W'), fun w hw => ⟨(W0 w hw).1, ((W0 w hw).2.chg ch (fun a q => .inr q) (ne _ (inO i w hw))).sub (oi i W')⟩⟩, names2_pw (hω i) x.nd, fun w hw => ⟨fun q => ?_, (mine i w hw).2.1, .inl (.inr ?_)⟩, fun a q => ⟨.inl (x.fr a q).1, .inl (.inl q)⟩, Chg.refl _ _⟩
      · rcases q with q | q
        · exact (mine i w hw).1 q
        · exact ne _ (inO i w hw) q
      · obtain ⟨w', h1, _, h2⟩ := ads i w hw
        exact ⟨w', h1, h2⟩
    have hno : noOwn ((σ d).map (·.1)) (ωi i) = true := List.all_eq_true.mpr fun w hw => by
      obtain ⟨w', h1, h2, _⟩ := ads i w hw
      have := List.all_eq_true.mp (has i d hd).2 w' h1
      rw [h2] at this; exact this
    refine sx_bind (has i d hd).1 R.1 x' (iv.sub (oi i W')) (fun s₂ x₂ => ?_) hno
    refine wpAny_mono (turn i d hd _ _ _ s₂ x₂) (fun f s₃ q => ?_) fun _ _ f => f
    obtain ⟨hf, x₃⟩ := q
    have fin : ∃ lv₃, Fs c b.h₀ (AddO O W') env lv₃ s₃ ∧ (Bd c (AddO O W') lv₃ s₃.heap (ρi (i + 1)) ∧ OwnAll c (AddO O W') lv₃ s₃.heap (ωi (i + 1)) ∧ Chg b.may b.hb s₃.heap) ∧ Chg (Mut O N W') s'.heap s₃.heap := by
      obtain ⟨lv₃, F₃, B₃, W₃⟩ := x₃.ex
      have c3 := x₃.chg
      refine ⟨lv₃, F₃.owns (io _ W') (fun a q => .inl (F.fr a q)), ⟨B₃.sub (io _ W'), fun w hw => ⟨(W₃ w hw).1, (W₃ w hw).2.sub (io _ W')⟩, ?_⟩, ?_⟩
      · refine (C0.trans (ch.sub fun a q => q ▸ mayW)).trans (c3.sub fun a q => ?_)
        rcases q with (q | ⟨w, hw, e⟩) | q
        · exact (x.fr a q).2
        · exact e ▸ (x.mine w hw).2.2
        · exact .inr (Nat.le_trans x.chg.1 (Nat.le_trans hsz (Nat.le_trans (Nat.le_of_lt hW') q)))
      · refine c3.sub fun a q => ?_
        rcases q with (q | ⟨w, hw, e⟩) | q
        · exact hmut a (F.fr a q)
        · exact e ▸ hmut _ (inO 0 w hw)
        · exact ⟨Nat.ne_of_gt (Nat.lt_of_lt_of_le hW' q), .inr (Nat.le_trans hW (Nat.le_trans (Nat.le_of_lt hW') q))⟩
    rcases hf with rfl | rfl <;> exact fin
  · rintro W' N lv' s' hN hW ⟨s0, ⟨B0, W0, C0⟩, ch⟩ F'
    have hsz : s.heap.objs.size ≤ W' := Nat.le_trans hN hW
    have ne : ∀ a, O a → a ≠ W' := fun a q => by
      subst hO; exact Nat.ne_of_lt (Nat.lt_of_lt_of_le (F.own a q) hsz)
    have back : ∀ a, OX b.X (ωi items.length) a → AddO O W' a := fun a q => oi items.length W' a (q.imp (fun q => .inl q) id)
    refine last s' ⟨⟨lv', F'.owns back fun a q => .inl (x.fr a q).1, (B0.chg (ch.sub fun a q => .inr q)).sub back, fun w hw => ⟨(W0 w hw).1, ((W0 w hw).2.chg ch (fun a q => .inr q) (ne _ (inO _ w hw))).sub back⟩⟩, names2_pw (hω _) x.nd, mine _, x.fr, C0.trans (ch.sub fun a q => q ▸ .inr (Nat.le_trans x.chg.1 hsz))⟩

theorem sx_forName {y : Str} {p : Pos} {iter : Expr} {body : List Stmt} {pos : Pos} {items : List D} {Q : Flow → Shared → Prop} (ρi : Nat → List (Str × D)) (ωi : Nat → OL)
    (hI : ItO c (OX b.X ω) k env ρ iter (.Name y p) items) (R : Room k A) (x : Sx c env b ρ ω s) (h0 : Keeps ρ (ρi 0)) (e0 : ωi 0 = ω) (hω : ∀ i, names2 (ωi i) = names2 ω)
    (turn : ∀ (i : Nat) d, items[i]? = some d → ∀ X Y hb s', Sx c env ⟨b.h₀, X, Y, hb⟩ ((y, d) :: ρi i) (ωi i) s' →
      wpAny (model c.prog c.w) A (execs body env) (fun f s₃ => (f = .next ∨ f = .cont) ∧ Sx c env ⟨b.h₀, X, Y, hb⟩ (ρi (i + 1)) (ωi (i + 1)) s₃) F0 s')
    (last : ∀ s', Sx c env b (ρi items.length) (ωi items.length) s' → Q .next s')
    (hs : ∀ x, foldedSetIterable iter env x = pure x := by intro _; rfl) (hw : HasW env y = true := by kernel_rfl) (hn : noOwn [y] ω = true := by kernel_rfl) :
    wpAny (model c.prog c.w) A (exec (.For (.Name y p) iter body [] pos) env) Q F0 s :=
  sx_for (σ := fun d => [(y, d)]) (xs := [y]) ρi ωi hI R x h0 e0 hω (fun i d hd => ⟨as_name' hw, hn⟩) turn last hs
theorem sx_forItems {y z : Str} {p q r : Pos} {m : Nat} {iter : Expr} {body : List Stmt} {pos : Pos} {t : List (Str × D)} {Q : Flow → Shared → Prop} (ρi : Nat → List (Str × D)) (ωi : Nat → OL)
    (hI : ItO c (OX b.X ω) k env ρ iter (.Tuple [.Name y p, .Name z q] m r) (t.map fun q => .tuple [.str q.1, q.2])) (R : Room k A) (x : Sx c env b ρ ω s) (h0 : Keeps ρ (ρi 0)) (e0 : ωi 0 = ω) (hω : ∀ i, names2 (ωi i) = names2 ω)
    (turn : ∀ (i : Nat) u, t[i]? = some u → ∀ X Y hb s', Sx c env ⟨b.h₀, X, Y, hb⟩ ((y, .str u.1) :: (z, u.2) :: ρi i) (ωi i) s' →
      wpAny (model c.prog c.w) A (execs body env) (fun f s₃ => (f = .next ∨ f = .cont) ∧ Sx c env ⟨b.h₀, X, Y, hb⟩ (ρi (i + 1)) (ωi (i + 1)) s₃) F0 s')
    (last : ∀ s', Sx c env b (ρi t.length) (ωi t.length) s' → Q .next s')
    (hs : ∀ x, foldedSetIterable iter env x = pure x := by intro _; rfl) (hw : ([y, z].all (HasW env) && decide [y, z].Nodup) = true := by kernel_rfl) (hn : noOwn [y, z] ω = true := by kernel_rfl) :
    wpAny (model c.prog c.w) A (exec (.For (.Tuple [.Name y p, .Name z q] m r) iter body [] pos) env) Q F0 s := by
  refine sx_for (σ := fun d => match d with | .tuple [a, b] => [(y, a), (z, b)] | _ => []) (xs := [y, z]) ρi ωi hI R x h0 e0 hω (fun i d hd => ?_) (fun i d hd => ?_) (by rw [List.length_map]; exact last) hs
  · rw [List.getElem?_map, Option.map_eq_some_iff] at hd
    obtain ⟨u, hu, rfl⟩ := hd
    exact ⟨as_tuple' (.cons (.cons .nil)) rfl hw, hn⟩
  · rw [List.getElem?_map, Option.map_eq_some_iff] at hd
    obtain ⟨u, hu, rfl⟩ := hd
    exact turn i u hu
/-- the end of a turn -/
theorem sx_end {ρ' : List (Str × D)} {ω' : OL} (x : Sx c env b ρ ω s) (hk : Keeps ρ ρ') (e : ω' = ω) : wpAny (model c.prog c.w) A (execs [] env) (fun f s₃ => (f = .next ∨ f = .cont) ∧ Sx c env b ρ' ω' s₃) F0 s := by
  subst e
  exact wpAny_execs_nil ⟨.inl rfl, x.keep hk⟩
/-- a body that gives a datum -/
theorem fn_sx (H : c.Ok) {f : Addr} {fd : FuncData} {body : List Stmt} {xs : List Str} {ds : List D} {r : D} (Df : DefAt c f fd body xs) (hl : ds.length = xs.length)
    (h : ∀ (X : Addr → Prop) A s h₀, Room k A → Sx c (callEnvC fd h₀.objs.size f) ⟨h₀, X, fun _ => False, h₀⟩ (xs.zip ds) [] s →
      wpAny (model c.prog c.w) A (execs body (callEnvC fd h₀.objs.size f)) (fun fl s' => ∃ v, fl = .ret v ∧ St c s' ∧ Grow h₀ s'.heap ∧ Is c X s'.heap r v) F0 s) : FnO c (k + 1) f ds r :=
  fn_pure H Df hl fun O A s env lv h₀ he R F B => by
    subst he
    have e1 : ∀ a, OX O [] a → O a := fun a q => q.elim id fun ⟨w, hw, _⟩ => nomatch hw
    refine h O A s h₀ R ⟨⟨lv, F.owns e1 fun a q => .inl (F.fr a q), B.sub e1, fun w hw => nomatch hw⟩, List.Pairwise.nil, (fun w hw => nomatch hw), fun a q => ⟨F.fr a q, .inr (F.above a q)⟩, F.grow.chg⟩
/-- return e -/
theorem sx_ret {e : Expr} {pos : Pos} {rest : List Stmt} {d : D} (X : SxEv c env b k ρ ω e d) (R : Room k A) (x : Sx c env b ρ ω s) :
    wpAny (model c.prog c.w) A (execs (.Return (some e) pos :: rest) env) (fun fl s' => ∃ v, fl = .ret v ∧ St c s' ∧ Grow b.h₀ s'.heap ∧ Is c b.X s'.heap d v) F0 s :=
  st_seq (sx_return X R x fun v s' x' i => by
    obtain ⟨lv, F, _⟩ := x'.ex
    exact ⟨v, rfl, x'.st, F.grow, i.sub fun a q => .inl q⟩)
end
end Mine
end
section
open PySem PySem.W PyProof.Rows
set_option maxRecDepth 100000
set_option linter.unusedVariables false
namespace Mine
section
variable {c : Cx} {env : Env} {b : Blk} {k : Nat} {ρ : List (Str × D)} {ω : OL} {A : Around} {s s' : Shared}
theorem ns_chg {P : Addr → Prop} {h h' : Heap} {a : Addr} {m} (x : h.Ns a m) (g : Chg P h h') (ha : ¬ P a) : h'.Ns a m := by
  obtain ⟨o, es, ep, ho, hd, r⟩ := x
  exact ⟨o, es, ep, g.2 a o ha (fun f => by obtain ⟨_, vs, e⟩ := f; rw [hd] at e; cases e) ho, hd, r⟩
theorem sx_store' {y : Str} {v : Value} {d : D} {Q : Unit → Shared → Prop} {E : Value → Shared → Prop} (x : Sx c env b ρ ω s) (i : Is c (OX b.X ω) s.heap d v)
    (h : ∀ s', Sx c env b ((y, d) :: ρ) ω s' → Chg (FrameAddr env) s.heap s'.heap → Q () s') (hw : HasW env y = true := by kernel_rfl) (hn : noOwn [y] ω = true := by kernel_rfl) : wpAny (model c.prog c.w) A (storeName env y v) Q E s := by
  obtain ⟨lv, F, B, W⟩ := id x.ex
  refine st_store F (HasW.has hw) (HasW.nf hw) fun s' F' ch => h s' ⟨⟨_, F', fun z d' e => ?_, fun w hw' => ⟨?_, ?_⟩⟩, x.nd, x.mine, x.fr, x.chg.trans (ch.sub fun a q => (x.fr a q.frame).2)⟩ (ch.sub fun a q => q.frame)
  · rw [List.lookup_cons] at e
    cases q : z == y with
    | true => rw [q] at e; cases e; rw [beq_iff_eq.mp q]; exact ⟨v, by simp [upd], i.chg (ch.sub fun a q => F.fr a q.frame)⟩
    | false =>
      rw [q] at e
      obtain ⟨u, a, z'⟩ := B z d' e
      have : z ≠ y := by simpa using q
      exact ⟨u, by simp [upd, this, a], z'.chg (ch.sub fun a q => F.fr a q.frame)⟩
  · have : w.1 ≠ y := by simpa using noOwn.get hn hw'
    exact (W w hw').1.imp id fun q => by simp [upd, this, q]
  · exact (W w hw').2.chg ch (fun a q => F.fr a q.frame) fun q => x.frame_ne hw' q.frame
theorem Sx.more (x : Sx c env b ρ ω s) {C : Addr} (S : St c s') (g : Grow s.heap s'.heap) (hC : s.heap.objs.size ≤ C) (hC' : C < s'.heap.objs.size) : Sx c env ⟨b.h₀, AddO b.X C, b.Y, b.hb⟩ ρ ω s' := by
  obtain ⟨lv, F, B, W⟩ := id x.ex
  have up : ∀ z, OX (AddO b.X C) ω z → Up (OX b.X ω) s.heap.objs.size z := fun z q => by
    rcases q with (q | q) | q
    · exact .inl (.inl q)
    · have e : z = C := q
      subst e; exact .inr hC
    · exact .inl (.inr q)
  have F' := F.go S g
  refine ⟨⟨lv, ⟨F'.st, F'.es, fun z q => ?_, fun a q => .inl (.inl (x.fr a q).1), F'.frm, F'.grow, F'.above, F'.base⟩, ((B.up (Nat.le_refl _)).sub up).go g, fun w hw => ⟨(W w hw).1, (((W w hw).2.up (Nat.le_refl _)).sub up).grow g⟩⟩, x.nd, fun w hw => ⟨fun q => ?_, (x.mine w hw).2⟩, fun a q => ⟨.inl (x.fr a q).1, (x.fr a q).2⟩, x.chg.trans g.chg⟩
  · rcases q with (q | q) | q
    · exact F'.own z (.inl q)
    · have e : z = C := q
      subst e; exact hC'
    · exact F'.own z (.inr q)
  · rcases q with q | q
    · exact (x.mine w hw).1 q
    · have e : w.2.1 = C := q
      exact Nat.lt_irrefl _ (Nat.lt_of_lt_of_le (W w hw).2.lt (e ▸ hC))
theorem Sx.touch (x : Sx c env b ρ ω s) {C : Addr} (hX : b.X C) (nf : ¬ FrameAddr env C) (h0 : b.h₀.objs.size ≤ C) (hm : b.may C) (hs : Heap.SameBut C s.heap s'.heap) (hg : s'.gens = s.gens) (ho : s'.os = s.os) : Sx c env b ρ ω s' := by
  obtain ⟨lv, F, B, W⟩ := id x.ex
  have ch : Chg (fun z => z = C) s.heap s'.heap := SameBut.chg hs rfl
  exact ⟨⟨lv, F.same ⟨.inl hX, h0, nf⟩ hs hg ho, B.chg (ch.sub fun z e => e ▸ .inl hX), fun w hw => ⟨(W w hw).1, (W w hw).2.chg ch (fun z e => e ▸ .inl hX) fun e => (x.mine w hw).1 (e ▸ hX)⟩⟩, x.nd, x.mine, x.fr, x.chg.trans (ch.sub fun z e => e ▸ hm)⟩
theorem Sx.less {h₀ hb : Heap} {X X' Y : Addr → Prop} (x : Sx c env ⟨h₀, X', Y, hb⟩ ρ ω s) (hX : ∀ a, X a → X' a) (fr : ∀ a, FrameAddr env a → X a) : Sx c env ⟨h₀, X, Y, hb⟩ ρ ω s := by
  obtain ⟨lv, F, B, W⟩ := id x.ex
  have sub : ∀ a, OX X ω a → OX X' ω a := fun a q => q.imp (hX a) id
  exact ⟨⟨lv, F.owns sub fun a q => .inl (fr a q), B.sub sub, fun w hw => ⟨(W w hw).1, (W w hw).2.sub sub⟩⟩, x.nd, fun w hw => ⟨fun q => (x.mine w hw).1 (hX _ q), (x.mine w hw).2⟩, fun a q => ⟨fr a q, (x.fr a q).2⟩, x.chg⟩
/-- y = [.. for ..], the name plain -/
theorem sx_comp {y : Str} {p pos lpos : Pos} {elt tgt iter : Expr} {ifs : List Expr} {scope : Scope} {xs : List Str} {items : List D} {cond : D → Bool} {F : D → D} {σ : D → List (Str × D)} {Q : Flow → Shared → Prop}
    (L : LcO c (OX b.X ω) k env ρ elt tgt iter ifs scope xs items cond F σ) (R : Room k A) (x : Sx c env b ρ ω s) (h : ∀ s', Sx c env b ((y, .list ((items.filter cond).map F)) :: ρ) ω s' → Q .next s')
    (hs : swapsWith (.ListComp elt [⟨tgt, iter, ifs, 0⟩] scope lpos) (some (.Name y p)) pos.line env = pure true := by kernel_rfl) (hf : ∀ x, foldedSetIterable iter env x = pure x := by intro _; rfl) (hw : HasW env y = true := by kernel_rfl) (hn : noOwn [y] ω = true := by kernel_rfl) :
    wpAny (model c.prog c.w) A (exec (.Assign [.Name y p] (.ListComp elt [⟨tgt, iter, ifs, 0⟩] scope lpos) pos) env) Q F0 s := by
  rw [exec_Assign_Name_used y p _ pos hs]
  obtain ⟨lv, Fr, B, W⟩ := id x.ex
  refine wpAny_bind (wpAny_standAt (wpAny_bind (use_listcomp L R Fr.st (Fr.ok B) (fun v s₁ C S₁ g₁ hC hN i => ?_) hf)))
  obtain ⟨m, hN⟩ := hN
  have x1 := x.more S₁ g₁ hC hN.lt
  have nf : ¬ FrameAddr env C := fun q => Nat.lt_irrefl _ (Nat.lt_of_lt_of_le (Fr.own C (Fr.fr C q)) hC)
  refine assign_Name (sx_store' x1 (i.sub fun a q => ?_) (fun s₂ x2 ch => ⟨m, ns_chg hN ch nf, fun h' hs' => wpAny_pure (h _ ?_)⟩) hw hn)
  · rcases q with (q | q) | q
    · exact .inl (.inl q)
    · exact .inr q
    · exact .inl (.inr q)
  · refine (x2.touch (s' := { s₂ with heap := h' }) (.inr rfl) nf (Nat.le_trans Fr.grow.1 hC) (.inr (Nat.le_trans x.chg.1 hC)) hs' rfl rfl).less (fun a q => .inl q) fun a q => (x.fr a q).1
/-- y += e on ints -/
theorem sx_augName {y : Str} {p pos : Pos} {e : Expr} {m n : Int} {Q : Flow → Shared → Prop} (X : SxEv c env b k ρ ω e (.int n)) (R : Room k A) (x : Sx c env b ρ ω s) (hm : ρ.lookup y = some (.int m)) (h : ∀ s', Sx c env b ((y, .int (m + n)) :: ρ) ω s' → Q .next s')
    (hw : HasW env y = true := by kernel_rfl) (hn : noOwn [y] ω = true := by kernel_rfl) : wpAny (model c.prog c.w) A (exec (.AugAssign (.Name y p) .Add e pos) env) Q F0 s := by
  rw [arm_exec_AugAssign]
  obtain ⟨lv, F, B, W⟩ := id x.ex
  obtain ⟨v, hv, i⟩ := B y _ hm
  unfold Is at i
  obtain ⟨t, rfl⟩ := i
  refine wpAny_bind (wpAny_standAt (wpAny_bind (load_has F.es F.frm (HasW.has hw) hv (wpAny_bind (wpAny_holding (X A s _ R x fun v s₁ x₁ g₁ j => ?_))))))
  unfold Is at j
  obtain ⟨u, rfl⟩ := j
  refine wpAny_bind (wpAny_standAt (wpAny_bind (wpAny_operateT (wpAny_iadd_int ?_))))
  have x₄ : Sx c env b ρ ω { s₁ with toks := s₁.toks + 1 } := x₁.go (x₁.st.tok _) (Grow.refl _)
  exact wpAny_bind (wpAny_standAt (wpAny_bind (wpAny_bindName (sx_store x₄ (d := .int (m + n)) (by unfold Is; exact ⟨_, rfl⟩) (fun s' x' => wpAny_pure (h s' x')) hw hn))))
/-- y, z = e -/
theorem sx_unpack {elts : List Expr} {xs : List Str} {m : Nat} {tp pos : Pos} {e : Expr} {ds : List D} {Q : Flow → Shared → Prop} (X : SxEv c env b k ρ ω e (.tuple ds)) (R : Room k A) (x : Sx c env b ρ ω s) (hN : NamesOf elts xs) (hl : xs.length = ds.length)
    (h : ∀ s', Sx c env b (xs.zip ds ++ ρ) ω s' → Q .next s') (hw : (xs.all (HasW env) && decide xs.Nodup) = true := by kernel_rfl) (hn : noOwn xs ω = true := by kernel_rfl)
    (hs : swapsWithSole [.Tuple elts m tp] e pos.line env = pure false := by rfl) (hs' : swappedStores [.Tuple elts m tp] e env = pure none := by rfl) :
    wpAny (model c.prog c.w) A (exec (.Assign [.Tuple elts m tp] e pos) env) Q F0 s := by
  refine Assign_Tuple (X A s _ R x fun v s₁ x₁ g₁ i => sx_bind (as_tuple' hN hl hw) R.1 x₁ i (fun s' x' => h s' x') ?_) hs hs'
  rw [List.map_fst_zip (by omega)]; exact hn
/-- stores of names in an order -/
theorem sx_binds : ∀ (ys : List Str) (ds : List D) (vs : List Value) {ρ : List (Str × D)} {s : Shared} {Q : Unit → Shared → Prop} {E : Value → Shared → Prop} (x : Sx c env b ρ ω s) (i : IsAll c (OX b.X ω) s.heap ds vs) (hl : ys.length = ds.length)
    (h : ∀ s', Sx c env b ((ys.zip ds).reverse ++ ρ) ω s' → Q () s') (hw : ys.all (HasW env) = true) (hn : noOwn ys ω = true), wpAny (model c.prog c.w) A (assignInOrder (ys.map fun n => bindName env n) vs) Q E s
  | [], ds, vs, ρ, s, Q, E, x, i, hl, h, hw, hn => by
    cases ds with
    | nil => unfold IsAll at i; subst i; exact wpAny_pure (h s x)
    | cons d ds => cases hl
  | y :: ys, ds, vs, ρ, s, Q, E, x, i, hl, h, hw, hn => by
    cases ds with
    | nil => cases hl
    | cons d ds =>
      unfold IsAll at i
      obtain ⟨v, r, rfl, i1, i2⟩ := i
      rw [List.all_cons, Bool.and_eq_true] at hw
      have hn1 : noOwn [y] ω = true := List.all_eq_true.mpr fun w hw => by have := noOwn.get hn hw; simp at this ⊢; exact this.1
      have hn2 : noOwn ys ω = true := List.all_eq_true.mpr fun w hw => by have := noOwn.get hn hw; simp at this ⊢; exact this.2
      rw [List.map_cons]
      show wpAny _ A (holding r (bindName env y v) >>= fun _ => assignInOrder _ r) Q E s
      refine wpAny_bind (wpAny_holding (wpAny_bindName (sx_store' x i1 (fun s' x' ch => ?_) hw.1 hn1)))
      refine sx_binds ys ds r x' (i2.chg (ch.sub fun a q => .inl (x.fr a q).1)) (by simpa using hl) (fun s'' x'' => h s'' ?_) hw.2 hn2
      rw [List.zip_cons_cons, List.reverse_cons, List.append_assoc]; exact x''
/-- y, z = (e1, e2): the stores swapped -/
theorem sx_unpackS {elts : List Expr} {xs : List Str} {m : Nat} {tp pos : Pos} {e : Expr} {ds : List D} {Q : Flow → Shared → Prop} (X : SxEv c env b k ρ ω e (.tuple ds)) (R : Room k A) (x : Sx c env b ρ ω s) (hl : xs.length = ds.length)
    (h : ∀ s', Sx c env b ((xs.reverse.zip ds.reverse).reverse ++ ρ) ω s' → Q .next s') (hw : xs.reverse.all (HasW env) = true := by kernel_rfl) (hn : noOwn xs.reverse ω = true := by kernel_rfl)
    (hs : swapsWithSole [.Tuple elts m tp] e pos.line env = pure false := by rfl) (hs' : swappedStores [.Tuple elts m tp] e env = pure (some xs) := by rfl) :
    wpAny (model c.prog c.w) A (exec (.Assign [.Tuple elts m tp] e pos) env) Q F0 s := by
  refine Assign_Tuple_swapped (X A s _ R x fun v s₁ x₁ g₁ i => ?_) hs hs'
  unfold Is at i
  obtain ⟨a, vs, n, rfl, na, ho, r⟩ := i
  have hl' : vs.size = ds.length := by rw [← r.length]; simp
  have key : ∀ E, wpAny (model c.prog c.w) A (unpackItems (.ref a) xs.length none) (fun its s' => its = vs.toList ∧ ∃ h', s' = { s₁ with heap := h' } ∧ Heap.ExtBut s₁.heap.objs.size s₁.heap h') E s₁ := by
    intro E
    rw [hl, ← hl']
    exact wpAny_unpackItems_tuple R.1 ⟨_, ho, rfl, n, rfl⟩ fun h' hx => ⟨rfl, h', rfl, hx⟩
  refine wpAny_mono (wpAny_size (key F0)) (fun its s' x => ?_) fun _ _ f => f.1
  obtain ⟨⟨e9, h', e8, hx'⟩, hsz⟩ := x
  subst e9 e8
  have g : Grow s₁.heap h' := ⟨hsz, fun b o f e => hx' b o (Nat.ne_of_lt (Heap.lt_size e)) e⟩
  have S' : St c { s₁ with heap := h' } := x₁.st.keeps (fun b o e => hx' b o (Nat.ne_of_lt (Heap.lt_size e)) e) hsz rfl rfl
  exact sx_binds xs.reverse ds.reverse vs.toList.reverse (x₁.go (s' := { s₁ with heap := h' }) S' g) (r.grow g).reverse (by simpa using hl) (fun s' x' => h s' x') hw hn
end
end Mine
end
section
open PySem PySem.W PyProof.Rows
set_option maxRecDepth 100000
set_option linter.unusedVariables false
namespace Mine
noncomputable def pairF (ds : List D) : D → D
  | .int i => .list (cut ds (some (i - 1)) (some (i + 1)))
  | _ => .none
theorem rints_mem {a : Int} {n : Nat} {d : D} (h : d ∈ rints a n) : ∃ i : Nat, i < n ∧ d = .int (a + (i : Int)) := by
  obtain ⟨i, hi⟩ := List.mem_iff_getElem?.mp h
  exact ⟨i, rints_get hi⟩
theorem size_of {n : Nat} (h : n ≤ 1000) : n ≤ sizeLine := Nat.le_trans h (by decide)
theorem pairs_ok {c : Cx} (G : c.Good) {k : Nat} (ds : List D) (hz : ds.length ≤ 1000) : FnO c (k + 1) 138 [.list ds] (.list (((rints 1 ((ds.length : Int) - 1).toNat).filter fun _ => true).map (pairF ds))) :=
  fn_pure G.ok (def_pairs G) rfl fun O A s env lv h₀ he R F B => by
    subst he
    refine st_seq (st_return (ev_listcomp (lc_name ?src ?size ?test ?val)) R F B fun v s' S' g i => ⟨v, rfl, S', F.grow.trans g, i⟩)
    case src =>
      exact it_range2 G.ok ev_int (ev_len G.ok (ev_name (by kernel_rfl) rfl) (by rw [G.K]; kernel_rfl) (by kernel_rfl) (by omega)) (by rw [G.K]; kernel_rfl) (by kernel_rfl) (by decide) (by decide) (by omega) (by omega)
    case size => simp only [rints, List.length_map, List.length_range]; exact size_of (by omega)
    case test => exact fun O' C d hd => if_nil
    case val =>
      intro O' C d hd _
      obtain ⟨i, hi, rfl⟩ := rints_mem hd
      exact ev_slice (ev_name (by kernel_rfl) rfl) (ev_sub (ev_name (by kernel_rfl) rfl) ev_int) (ev_add (ev_name (by kernel_rfl) rfl) ev_int) (size_of hz)
end Mine
end
section
open PySem PySem.W PyProof.Rows
set_option maxRecDepth 100000
set_option linter.unusedVariables false
namespace Mine
section
variable {c : Cx} {h₀ : Heap} {O : Addr → Prop} {k : Nat} {env : Env} {lv : Str → Option Value} {ρ : List (Str × D)} {A : Around} {s : Shared}
theorem ev_isTuple (G : c.Good) {p p' pos : Pos} {e : Expr} {d : D} (X : EvO c O k env ρ e d) (hd : (∃ n, d = .int n) ∨ ∃ l, d = .tuple l) (hx : env.kindOf "isinstance" = some .globalImplicit) (hx' : env.kindOf "tuple" = some .globalImplicit)
    (hs : starEach [e, .Name "tuple" p'] env = (false, eval e env) :: (false, eval (.Name "tuple" p') env) :: [] := by rfl) : EvO c O k env ρ (.Call (.Name "isinstance" p) [e, .Name "tuple" p'] [] pos) (.bool (isTup d)) := fun A s R S V => by
  show wpAny _ A (do callWith pos (← eval (.Name "isinstance" p) env) [] (backTo pos (starEach [e, .Name "tuple" p'] env)) []) _ _ s
  refine wpAny_bind (fnv_builtin G.ok V.1 (by rw [G.K]; kernel_rfl) boot_isinstance (by decide) hx (by decide) A s _ _ S ?_)
  rw [hs]
  refine Calls.callWith_builtin rfl (Calls.evalArgs_plain (Calls.spliced_cons (X.use R S V fun v s₁ S₁ g i => Calls.spliced_cons (fnv_builtin G.ok V.1 (by rw [G.K]; kernel_rfl) boot_tuple' (by decide) hx' (by decide) A s₁ _ _ S₁ (Calls.spliced_nil ?_)))))
  show wpAny _ A (call (.builtin "isinstance") [v, .type "tuple"]) _ _ s₁
  rcases hd with ⟨n, rfl⟩ | ⟨l, rfl⟩
  · unfold Is at i
    obtain ⟨t, rfl⟩ := i
    exact IsiPair.int_tuple ⟨S₁.tok _, g, by unfold Is isTup; rfl⟩
  · unfold Is at i
    obtain ⟨a, vs, n, rfl, na, ho, r⟩ := i
    exact IsiPair.tuple_tuple ho rfl ⟨S₁, g, by unfold Is isTup; rfl⟩
end

theorem dput_length {α : Type} (l : List (Str × α)) (x : Str) (v : α) : (dput l x v).length ≤ l.length + 1 := by
  unfold dput; split <;> simp
end Mine
end
section
open PySem PySem.W PyProof.Rows
set_option maxRecDepth 100000
set_option linter.unusedVariables false
namespace Mine
abbrev Tab := List (Str × Int)
noncomputable def tabD (t : Tab) : List (Str × D) := t.map fun p => (p.1, .int p.2)
noncomputable def sumTab (t : Tab) : Int := (t.map (·.2)).sum
theorem sum_take_succ {l : List Int} {i : Nat} {n : Int} (h : l[i]? = some n) : (l.take (i + 1)).sum = (l.take i).sum + n := by
  rw [take_succ_of h, List.sum_append]; simp
theorem count_ok {c : Cx} (G : c.Good) {k : Nat} (t : Tab) : FnO c (k + 1) 49 [.dict (tabD t)] (.int (sumTab t)) :=
  fn_sx G.ok (def_count_calls G) rfl fun X A st h₀ R x => by
    refine sx_seq (sx_assign (EvO.sx ev_int) R x fun s1 x1 => ?_)
    refine sx_seq (sx_forName (fun i => [("nc", .int ((t.map (·.2)).take i).sum)]) (fun i => []) (it_values (ev_name (by kernel_rfl) rfl) _) R x1 ⟨rfl, trivial⟩ rfl (fun i => rfl) (fun i d hd X Y hb s2 x2 => ?_) fun s2 x2 => ?_)
    · obtain ⟨n, hn, rfl⟩ : ∃ n, (t.map (·.2))[i]? = some n ∧ d = .int n := by
        simp only [tabD, List.map_map, List.getElem?_map, Option.map_eq_some_iff] at hd ⊢
        obtain ⟨u, h1, h2⟩ := hd
        exact ⟨u.2, ⟨u, h1, rfl⟩, h2.symm⟩
      refine sx_seq (sx_augName (EvO.sx (ev_name (by kernel_rfl) rfl)) R x2 rfl fun s3 x3 => sx_end x3 ⟨?_, trivial⟩ rfl)
      rw [sum_take_succ hn]; rfl
    · refine sx_ret (EvO.sx (ev_name (by kernel_rfl) ?_)) R x2
      have e : (tabD t).length = (t.map (·.2)).length := by simp [tabD]
      rw [List.length_map, e, List.take_length]; rfl
/-! rows of a told table -/
structure Row where
  names : List Str
  come : Int
  work : Int
noncomputable def lst (l : List Str) : D := .list (strsD l)
noncomputable def pairsOf (l : List Str) : List (List Str) := (l.zip l.tail).map fun p => [p.1, p.2]
noncomputable def rowD (r : Row) : D := .tuple [lst r.names, .list ((pairsOf r.names).map lst), .int r.come, .int r.work]
theorem sums_ok {c : Cx} (G : c.Good) {k : Nat} (rows : List Row) (hz : rows.length ≤ 1000) : FnO c (k + 1) 167 [.list (rows.map rowD)] (.tuple [.int (rows.map (·.come)).sum, .int (rows.map (·.work)).sum]) :=
  fn_sx G.ok (def_sums G) rfl fun X A st h₀ R x => by
    have key : ∀ (j : Nat) (f : Row → Int) (F : D → D), (∀ r, F (rowD r) = .int (f r)) → ((rows.map rowD).filter fun _ => true).map F = intsD (rows.map f) := fun j f F h => by
      rw [List.filter_eq_self.mpr (fun _ _ => rfl), List.map_map]; unfold intsD; rw [List.map_map]
      exact List.map_congr_left fun r _ => h r
    refine sx_ret (EvO.sx (ev_tuple (evs_cons (ev_sum G ?a (by kernel_rfl)) (evs_cons (ev_sum G ?b (by kernel_rfl)) evs_nil)))) R x
    · rw [← key 2 (·.come) (fun d => match d with | .tuple [_, _, a, _] => a | _ => .none) fun _ => rfl]
      refine ev_listcomp (lc_name (it_list (ev_name (by kernel_rfl) rfl)) (size_of (by simpa using hz)) (fun O' C d hd => if_nil) fun O' C d hd _ => ?_)
      obtain ⟨r, hr, rfl⟩ := List.mem_map.mp hd
      exact ev_item_tuple (ev_name (by kernel_rfl) rfl) ev_int (by decide) (by decide) rfl rfl
    · rw [← key 3 (·.work) (fun d => match d with | .tuple [_, _, _, a] => a | _ => .none) fun _ => rfl]
      refine ev_listcomp (lc_name (it_list (ev_name (by kernel_rfl) rfl)) (size_of (by simpa using hz)) (fun O' C d hd => if_nil) fun O' C d hd _ => ?_)
      obtain ⟨r, hr, rfl⟩ := List.mem_map.mp hd
      exact ev_item_tuple (ev_name (by kernel_rfl) rfl) ev_int (by decide) (by decide) rfl rfl
end Mine
end
section
open PySem PySem.W PyProof.Rows
set_option maxRecDepth 100000
set_option linter.unusedVariables false
namespace Mine
theorem eqvAll_map {α : Type} [BEq α] {f : α → D} (h : ∀ x y, D.eqv (f x) (f y) = (x == y)) : ∀ l l' : List α, PyData.eqvAll (D.toPys (l.map f)) (D.toPys (l'.map f)) = (l == l')
  | [], [] => by simp [D.toPys, PyData.eqvAll]
  | [], y :: l' => by simp [D.toPys, PyData.eqvAll]
  | x :: l, [] => by simp [D.toPys, PyData.eqvAll]
  | x :: l, y :: l' => by
    have := eqvAll_map h l l'
    simp only [List.map_cons, D.toPys, PyData.eqvAll]
    rw [this]
    have e : PyData.eqv (f x).toPy (f y).toPy = (x == y) := h x y
    rw [e]; rfl
theorem eqv_str (a b : Str) : D.eqv (.str a) (.str b) = (a == b) := by simp [D.eqv, D.toPy, PyData.eqv]
theorem eqv_int (a b : Int) : D.eqv (.int a) (.int b) = (a == b) := by simp [D.eqv, D.toPy, PyData.eqv]
theorem eqv_list {α : Type} [BEq α] {f : α → D} (h : ∀ x y, D.eqv (f x) (f y) = (x == y)) (l l' : List α) : D.eqv (.list (l.map f)) (.list (l'.map f)) = (l == l') := by
  show PyData.eqv (D.toPy (.list _)) (D.toPy (.list _)) = _
  simp only [D.toPy, PyData.eqv]; exact eqvAll_map h l l'
theorem eqv_lst (a b : List Str) : D.eqv (lst a) (lst b) = (a == b) := eqv_list eqv_str a b
noncomputable def lsts (l : List (List Str)) : D := .list (l.map lst)
theorem eqv_lsts (a b : List (List Str)) : D.eqv (lsts a) (lsts b) = (a == b) := eqv_list eqv_lst a b
noncomputable def pairD (p : Str × Int) : D := .tuple [.str p.1, .int p.2]
theorem eqv_pairD (p q : Str × Int) : D.eqv (pairD p) (pairD q) = (p == q) := by
  have e : D.eqv (pairD p) (pairD q) = (p.1 == q.1 && (p.2 == q.2 && true)) := by simp [D.eqv, pairD, D.toPy, D.toPys, PyData.eqv, PyData.eqvAll]
  rw [e, Bool.and_true]; rfl
theorem eqv_pairs (a b : Tab) : D.eqv (.list (a.map pairD)) (.list (b.map pairD)) = (a == b) := eqv_list eqv_pairD a b
/-- texts that can be laid -/
noncomputable def TxtOk (s : Str) : Prop := PyData.strOk s = true
theorem ok_str {s : Str} {n : Nat} (h : TxtOk s) : D.ok n (.str s) = true := by unfold D.ok; exact h
theorem ok_lst {l : List Str} {n : Nat} (h : ∀ s ∈ l, TxtOk s) : D.ok (n + 1) (lst l) = true := by
  unfold lst; unfold D.ok; unfold strsD
  refine List.all_eq_true.mpr fun d hd => ?_
  obtain ⟨s, hs, rfl⟩ := List.mem_map.mp hd
  exact ok_str (h s hs)
theorem ok_lsts {l : List (List Str)} {n : Nat} (h : ∀ x ∈ l, ∀ s ∈ x, TxtOk s) : D.ok (n + 2) (lsts l) = true := by
  unfold lsts; unfold D.ok
  refine List.all_eq_true.mpr fun d hd => ?_
  obtain ⟨s, hs, rfl⟩ := List.mem_map.mp hd
  exact ok_lst (h s hs)
theorem ok_pairs {l : Tab} {n : Nat} (h : ∀ p ∈ l, TxtOk p.1) : D.ok (n + 2) (.list (l.map pairD)) = true := by
  unfold D.ok
  refine List.all_eq_true.mpr fun d hd => ?_
  obtain ⟨s, hs, rfl⟩ := List.mem_map.mp hd
  unfold pairD; unfold D.ok
  simp only [List.all_cons, List.all_nil, Bool.and_true, Bool.and_eq_true]
  exact ⟨ok_str (h s hs), by unfold D.ok; rfl⟩
theorem any_lst (l : List Str) (a : Str) : ((strsD l).any fun d => D.eqv d (.str a)) = l.contains a := by
  unfold strsD; rw [List.any_map]
  induction l with
  | nil => rfl
  | cons b l ih =>
    rw [List.any_cons, ih, List.contains_cons]
    simp only [Function.comp, eqv_str]
    rw [Bool.beq_comm]
theorem any_lsts (l : List (List Str)) (a : List Str) : ((l.map lst).any fun d => D.eqv d (lst a)) = l.contains a := by
  rw [List.any_map]
  induction l with
  | nil => rfl
  | cons b l ih =>
    rw [List.any_cons, ih, List.contains_cons]
    simp only [Function.comp, eqv_lst]
    rw [Bool.beq_comm]
section
variable {c : Cx} {O : Addr → Prop} {k : Nat}
theorem cm_eqStr {a b : Str} (ha : TxtOk a) (hb : TxtOk b) : CmO c O k .Eq (.str a) (.str b) (a == b) := eqv_str a b ▸ cm_eq (ok_str ha) (ok_str hb)
theorem cm_notInStr {a : Str} {l : List Str} (ha : TxtOk a) (hl : ∀ s ∈ l, TxtOk s) : CmO c O k .NotIn (.str a) (lst l) (!l.contains a) := any_lst l a ▸ cm_notIn (ok_str ha) (List.all_eq_true.mpr fun d hd => by obtain ⟨s, hs, rfl⟩ := List.mem_map.mp hd; exact ok_str (hl s hs))
theorem cm_inStr {a : Str} {l : List Str} (ha : TxtOk a) (hl : ∀ s ∈ l, TxtOk s) : CmO c O k .In (.str a) (lst l) (l.contains a) := any_lst l a ▸ cm_in (ok_str ha) (List.all_eq_true.mpr fun d hd => by obtain ⟨s, hs, rfl⟩ := List.mem_map.mp hd; exact ok_str (hl s hs))
theorem cm_notInLst {a : List Str} {l : List (List Str)} (ha : ∀ s ∈ a, TxtOk s) (hl : ∀ x ∈ l, ∀ s ∈ x, TxtOk s) : CmO c O k .NotIn (lst a) (lsts l) (!l.contains a) := any_lsts l a ▸ cm_notIn (ok_lst ha) (List.all_eq_true.mpr fun d hd => by obtain ⟨s, hs, rfl⟩ := List.mem_map.mp hd; exact ok_lst (hl s hs))
theorem cm_inLst {a : List Str} {l : List (List Str)} (ha : ∀ s ∈ a, TxtOk s) (hl : ∀ x ∈ l, ∀ s ∈ x, TxtOk s) : CmO c O k .In (lst a) (lsts l) (l.contains a) := any_lsts l a ▸ cm_in (ok_lst ha) (List.all_eq_true.mpr fun d hd => by obtain ⟨s, hs, rfl⟩ := List.mem_map.mp hd; exact ok_lst (hl s hs))
end
end Mine
end
section
open PySem PySem.W PyProof.Rows
set_option maxRecDepth 100000
set_option linter.unusedVariables false
namespace Mine
theorem clip_nat (n k : Nat) : clipAt n (k : Int) = min k n := by
  unfold clipAt
  rw [if_neg (Int.not_lt.mpr (Int.natCast_nonneg k)), Int.max_eq_right (Int.le_min.mpr ⟨Int.natCast_nonneg k, Int.natCast_nonneg n⟩)]
  rcases Nat.le_total k n with h | h
  · rw [Int.min_eq_left (Int.ofNat_le.mpr h), Nat.min_eq_left h]; rfl
  · rw [Int.min_eq_right (Int.ofNat_le.mpr h), Nat.min_eq_right h]; rfl
theorem clip_neg (n k : Nat) (h : 0 < k) : clipAt n (-(k : Int)) = n - k := by
  have hk : -(k : Int) < 0 := Int.neg_neg_of_pos (Int.natCast_pos.mpr h)
  unfold clipAt
  rw [if_pos hk, Int.min_eq_left (by omega), Int.add_comm, ← Int.sub_eq_add_neg]
  rcases Nat.le_total n k with h | h
  · rw [Int.max_eq_left (Int.sub_nonpos_of_le (Int.ofNat_le.mpr h)), Nat.sub_eq_zero_of_le h]; rfl
  · rw [Int.max_eq_right (Int.sub_nonneg.mpr (Int.ofNat_le.mpr h)), ← Int.ofNat_sub h]; rfl
theorem cut_to {α : Type} (l : List α) (k : Nat) : cut l none (some (k : Int)) = l.take k := by
  unfold cut; simp only [Option.elim, List.drop_zero, Nat.sub_zero, clip_nat]
  rw [List.take_eq_take_iff, Nat.min_assoc, Nat.min_self]
theorem cut_from_neg {α : Type} (l : List α) (k : Nat) (h : 0 < k) : cut l (some (-(k : Int))) none = l.drop (l.length - k) := by
  unfold cut; simp only [Option.elim, clip_neg _ _ h]
  rw [List.take_of_length_le (by rw [List.length_drop]; omega)]
theorem cut_to_neg {α : Type} (l : List α) (k : Nat) (h : 0 < k) : cut l none (some (-(k : Int))) = l.take (l.length - k) := by
  unfold cut; simp only [Option.elim, List.drop_zero, Nat.sub_zero, clip_neg _ _ h]
theorem cut_map {α β : Type} (f : α → β) (l : List α) (a b : Option Int) : cut (l.map f) a b = (cut l a b).map f := by
  unfold cut; rw [List.length_map, ← List.map_drop, ← List.map_take]

theorem EvO.as {c : Cx} {O : Addr → Prop} {k : Nat} {env : Env} {ρ : List (Str × D)} {e : Expr} {d d' : D} (X : EvO c O k env ρ e d) (h : d = d') : EvO c O k env ρ e d' := h ▸ X
theorem ItO.as {c : Cx} {O : Addr → Prop} {k : Nat} {env : Env} {ρ : List (Str × D)} {e t : Expr} {d d' : List D} (X : ItO c O k env ρ e t d) (h : d = d') : ItO c O k env ρ e t d' := h ▸ X
theorem TrO.as {c : Cx} {O : Addr → Prop} {k : Nat} {env : Env} {ρ : List (Str × D)} {e : Expr} {d d' : Bool} (X : TrO c O k env ρ e d) (h : d = d') : TrO c O k env ρ e d' := h ▸ X
noncomputable def txtAt (l : Tab) (k : Nat) : Str := (l.map (·.1)).getD k ""
noncomputable def tableP (l : Tab) : Tab := ((List.range l.length).filter fun k => !((l.map (·.1)).take k).contains (txtAt l k)).map fun k => (txtAt l k, ((l.filter fun p => p.1 == txtAt l k).map (·.2)).sum)
theorem filter_tt {α : Type} (l : List α) : l.filter (fun _ => true) = l := List.filter_eq_self.mpr fun _ _ => rfl
theorem txtAt_get {l : Tab} {k : Nat} (h : k < l.length) : (l.map (·.1))[k]? = some (txtAt l k) := by
  unfold txtAt; rw [List.getD_eq_getElem?_getD, List.getElem?_eq_getElem (by simpa using h)]; rfl
theorem txtAt_mem {l : Tab} {k : Nat} (h : k < l.length) : txtAt l k ∈ l.map (·.1) := List.mem_of_getElem? (txtAt_get h)
theorem range_mem {n : Nat} {d : D} (h : d ∈ rints 0 n) : ∃ i : Nat, i < n ∧ d = .int (i : Int) := by
  obtain ⟨i, hi, rfl⟩ := rints_mem h; exact ⟨i, hi, by rw [Int.zero_add]⟩
theorem table_ok {c : Cx} (G : c.Good) {k : Nat} (l : Tab) (hz : l.length ≤ 1000) (ht : ∀ p ∈ l, TxtOk p.1) : FnO c (k + 1) 162 [.list (l.map pairD)] (.list ((tableP l).map pairD)) :=
  fn_sx G.ok (def_table G) rfl fun X A st h₀ R x => by
    have htx : ∀ s ∈ l.map (·.1), TxtOk s := fun s hs => by obtain ⟨p, hp, rfl⟩ := List.mem_map.mp hs; exact ht p hp
    have e1 : ((l.map pairD).filter fun _ => true).map (fun d => match d with | D.tuple [a, _] => a | _ => .none) = strsD (l.map (·.1)) := by
      rw [filter_tt, List.map_map]; unfold strsD; rw [List.map_map]; exact List.map_congr_left fun p _ => rfl
    have go : ∀ s1, Sx c (callEnvC (fdOf c.w.params 162) h₀.objs.size 162) ⟨h₀, X, fun _ => False, h₀⟩ [("texts", lst (l.map (·.1))), ("pairs", .list (l.map pairD))] [] s1 →
        wpAny (model c.prog c.w) A (execs ((bodyOf c.w.params 162).drop 1) (callEnvC (fdOf c.w.params 162) h₀.objs.size 162)) (fun fl s' => ∃ v, fl = .ret v ∧ St c s' ∧ Grow h₀ s'.heap ∧ Is c X s'.heap (.list ((tableP l).map pairD)) v) F0 s1 := fun s1 x1 => by
      have e2 : ((rints 0 l.length).filter (fun d => match d with | D.int i => !((l.map (·.1)).take i.toNat).contains (txtAt l i.toNat) | _ => false)).map (fun d => match d with | D.int i => pairD (txtAt l i.toNat, ((l.filter fun p => p.1 == txtAt l i.toNat).map (·.2)).sum) | _ => .none) = (tableP l).map pairD := by
        unfold rints tableP
        rw [List.filter_map, List.map_map, List.map_map]
        have e3 : ((fun d => match d with | D.int i => !((l.map (·.1)).take i.toNat).contains (txtAt l i.toNat) | _ => false) ∘ fun (i : Nat) => D.int (0 + (i : Int))) = fun k => !((l.map (·.1)).take k).contains (txtAt l k) := by
          funext i; simp only [Function.comp, Int.zero_add, Int.toNat_natCast]
        rw [e3]
        refine List.map_congr_left fun i _ => ?_
        simp only [Function.comp, Int.zero_add, Int.toNat_natCast]
      rw [← e2]
      have hlen : (strsD (l.map (·.1))).length = l.length := by simp [strsD]
      have el : ((l.length : Int)).toNat = l.length := by omega
      refine sx_ret (EvO.sx (ev_listcomp (lc_name ?src ?size ?test ?val))) R x1
      case src => exact (it_range1 G.ok (ev_len G.ok (ev_name (by kernel_rfl) rfl) (by rw [G.K]; kernel_rfl) (by kernel_rfl) (by rw [hlen]; omega)) (by rw [G.K]; kernel_rfl) (by kernel_rfl) (by omega) (by rw [hlen]; omega)).as (by rw [hlen, el])
      case size => unfold rints; rw [List.length_map, List.length_range]; exact size_of hz
      case test =>
        intro O' C d hd
        obtain ⟨i, hi, rfl⟩ := range_mem hd
        refine if_one (tr_cmp (ev_item_list (ev_name (by kernel_rfl) rfl) (ev_name (by kernel_rfl) rfl) (by omega) (by omega) (d := .str (txtAt l i)) ?_) (b := lst ((l.map (·.1)).take i)) (EvO.as (ev_slice (a := none) (b := some (i : Int)) (ev_name (by kernel_rfl) rfl) trivial (ev_name (by kernel_rfl) rfl) (size_of (by rw [hlen]; exact hz))) ?_) (cm_notInStr ?_ ?_))
        · rw [Int.toNat_natCast]; unfold strsD; rw [List.getElem?_map, txtAt_get hi]; rfl
        · rw [cut_to]; unfold lst strsD; rw [List.map_take]
        · exact htx _ (txtAt_mem hi)
        · exact fun s hs => htx s (List.mem_of_mem_take hs)
      case val =>
        intro O' C d hd _
        obtain ⟨i, hi, rfl⟩ := range_mem hd
        have tx : ∀ {O'' : Addr → Prop} {env' : Env} {ρ' : List (Str × D)} {p p' p'' : Pos}, Has env' "texts" = true → Has env' "k" = true → ρ'.lookup ("texts" : Str) = some (lst (l.map (·.1))) → ρ'.lookup ("k" : Str) = some (D.int (i : Int)) → EvO c O'' k env' ρ' (.Subscript (.Name "texts" p) (.Name "k" p') p'') (.str (txtAt l i)) := fun h1 h2 h3 h4 =>
          ev_item_list (i := (i : Int)) (ev_name h1 h3) (ev_name h2 h4) (by omega) (by omega) (by rw [Int.toNat_natCast]; unfold strsD; rw [List.getElem?_map, txtAt_get hi]; rfl)
        refine ev_tuple (evs_cons (tx (by kernel_rfl) (by kernel_rfl) rfl rfl) (evs_cons (ev_sum G (EvO.as (ev_listcomp (lc_pair (cond := fun d => match d with | D.tuple [.str a, _] => a == txtAt l i | _ => false) (F := fun d => match d with | D.tuple [_, a] => a | _ => .none) (it_list (ev_name (by kernel_rfl) rfl)) (size_of (by simpa using hz)) (fun d hd => ?_) (fun O' C a b hd => ?_) fun O' C a b hd _ => ev_name (by kernel_rfl) rfl)) ?_) (by kernel_rfl)) evs_nil))
        · obtain ⟨p, hp, rfl⟩ := List.mem_map.mp hd
          exact ⟨_, _, rfl⟩
        · obtain ⟨p, hp, e⟩ := List.mem_map.mp hd
          cases e
          exact if_one (tr_cmp (ev_name (by kernel_rfl) rfl) (tx (by kernel_rfl) (by kernel_rfl) rfl rfl) (cm_eqStr (ht p hp) (htx _ (txtAt_mem hi))))
        · rw [List.filter_map, List.map_map]; unfold intsD; rw [List.map_map]; rfl
    refine sx_seq (sx_assign (EvO.sx (ev_listcomp (lc_pair (cond := fun _ => true) (F := fun d => match d with | D.tuple [a, _] => a | _ => .none) (it_list (ev_name (by kernel_rfl) rfl)) (size_of (by simpa using hz)) (fun d hd => ?_) (fun O' C a b hd => if_nil) fun O' C a b hd _ => ev_name (by kernel_rfl) rfl))) R x (fun s1 x1 => ?_) (by kernel_rfl))
    · obtain ⟨p, hp, rfl⟩ := List.mem_map.mp hd
      exact ⟨_, _, rfl⟩
    · rw [e1] at x1
      exact go s1 x1
end Mine
end
section
open PySem PySem.W PyProof.Rows
set_option maxRecDepth 100000
set_option linter.unusedVariables false
namespace Mine
section
variable {α : Type}
noncomputable def condOf (enc : α → D) (p : α → Bool) : D → Bool := fun d => @decide (∃ a, enc a = d ∧ p a = true) (Classical.propDecidable _)
noncomputable def valOf (enc : α → D) (G : α → D) : D → D := fun d => @dite _ (∃ a, enc a = d) (Classical.propDecidable _) (fun h => G h.choose) (fun _ => .none)
theorem condOf_enc {enc : α → D} (inj : ∀ a b, enc a = enc b → a = b) (p : α → Bool) (a : α) : condOf enc p (enc a) = p a := by
  unfold condOf
  cases h : p a with
  | true => exact @decide_eq_true _ (Classical.propDecidable _) ⟨a, rfl, h⟩
  | false => exact @decide_eq_false _ (Classical.propDecidable _) fun ⟨b, e, q⟩ => by rw [inj b a e, h] at q; cases q
theorem valOf_enc {enc : α → D} (inj : ∀ a b, enc a = enc b → a = b) (G : α → D) (a : α) : valOf enc G (enc a) = G a := by
  unfold valOf
  have h : ∃ b, enc b = enc a := ⟨a, rfl⟩
  rw [dif_pos h]; exact congrArg G (inj _ _ h.choose_spec)
theorem comp_enc {enc : α → D} (inj : ∀ a b, enc a = enc b → a = b) (p : α → Bool) (G : α → D) (l : List α) : ((l.map enc).filter (condOf enc p)).map (valOf enc G) = (l.filter p).map G := by
  rw [List.filter_map, List.map_map]
  have e : (condOf enc p ∘ enc) = p := funext fun a => condOf_enc inj p a
  rw [e]
  exact List.map_congr_left fun a _ => valOf_enc inj G a
end
section
variable {α : Type} {c : Cx} {O : Addr → Prop} {env : Env} {b : Blk} {k : Nat} {ρ : List (Str × D)} {ω : OL} {A : Around} {s s' : Shared}
theorem lc_enc {x : Str} {p : Pos} {elt iter : Expr} {ifs : List Expr} {scope : Scope} {enc : α → D} {l : List α} (cond : α → Bool) (G : α → D) (inj : ∀ a b, enc a = enc b → a = b)
    (src : ItO c O k env ρ iter (.Name x p) (l.map enc)) (size : l.length ≤ 1000)
    (test : ∀ O' C a, a ∈ l → IfO c O' k (compX scope env C) ((x, enc a) :: ρ) ifs (cond a))
    (val : ∀ O' C a, a ∈ l → cond a = true → EvO c O' k (compX scope env C) ((x, enc a) :: ρ) elt (G a))
    (ok : compOk scope env = true := by kernel_rfl) (hxs : [x].all (fun x => scope.names.lookup x == some .local || scope.names.lookup x == some .cell) = true := by kernel_rfl)
    (rho : ρ.all (fun p => scope.names.lookup p.1 != some .local && scope.names.lookup p.1 != some .cell) = true := by kernel_rfl)
    (has : ∀ C, Has (compX scope env C) x = true := by intro C; kernel_rfl) (nf : ∀ C, decide ((compX scope env C).kindOf x ≠ some .free) = true := by intro C; kernel_rfl) :
    LcO c O k env ρ elt (.Name x p) iter ifs scope [x] (l.map enc) (condOf enc cond) (valOf enc G) (fun d => [(x, d)]) :=
  lc_name src (size_of (by simpa using size)) (fun O' C d hd => by
      obtain ⟨a, ha, rfl⟩ := List.mem_map.mp hd
      rw [condOf_enc inj]; exact test O' C a ha) (fun O' C d hd hc => by
      obtain ⟨a, ha, rfl⟩ := List.mem_map.mp hd
      rw [condOf_enc inj] at hc
      rw [valOf_enc inj]; exact val O' C a ha hc) ok hxs rho has nf
theorem sx_compE {y x : Str} {py p pos lpos : Pos} {elt iter : Expr} {ifs : List Expr} {scope : Scope} {enc : α → D} {l : List α} (cond : α → Bool) (G : α → D) {Q : Flow → Shared → Prop} (inj : ∀ a b, enc a = enc b → a = b)
    (src : ItO c (OX b.X ω) k env ρ iter (.Name x p) (l.map enc)) (size : l.length ≤ 1000)
    (test : ∀ O' C a, a ∈ l → IfO c O' k (compX scope env C) ((x, enc a) :: ρ) ifs (cond a))
    (val : ∀ O' C a, a ∈ l → cond a = true → EvO c O' k (compX scope env C) ((x, enc a) :: ρ) elt (G a))
    (R : Room k A) (sx : Sx c env b ρ ω s) (h : ∀ s', Sx c env b ((y, .list ((l.filter cond).map G)) :: ρ) ω s' → Q .next s')
    (ok : compOk scope env = true := by kernel_rfl) (hxs : [x].all (fun x => scope.names.lookup x == some .local || scope.names.lookup x == some .cell) = true := by kernel_rfl)
    (rho : ρ.all (fun p => scope.names.lookup p.1 != some .local && scope.names.lookup p.1 != some .cell) = true := by kernel_rfl)
    (has : ∀ C, Has (compX scope env C) x = true := by intro C; kernel_rfl) (nf : ∀ C, decide ((compX scope env C).kindOf x ≠ some .free) = true := by intro C; kernel_rfl)
    (hs : swapsWith (.ListComp elt [⟨.Name x p, iter, ifs, 0⟩] scope lpos) (some (.Name y py)) pos.line env = pure true := by kernel_rfl) (hf : ∀ x, foldedSetIterable iter env x = pure x := by intro _; rfl) (hw : HasW env y = true := by kernel_rfl) (hn : noOwn [y] ω = true := by kernel_rfl) :
    wpAny (model c.prog c.w) A (exec (.Assign [.Name y py] (.ListComp elt [⟨.Name x p, iter, ifs, 0⟩] scope lpos) pos) env) Q F0 s :=
  sx_comp (lc_enc cond G inj src size test val ok hxs rho has nf) R sx (by rw [comp_enc inj cond G l]; exact h) hs hf hw hn
/-- a call of a def of the text -/
theorem ev_callD (G : c.Good) {x : Str} {p pos : Pos} {f : Addr} {fd : FuncData} {body : List Stmt} {xs : List Str} {e : Expr} {es : List Expr} {ds : List D} {r : D} (Df : DefAt c f fd body xs) (X : EvAll c O k env ρ pos (e :: es) ds) (h : FnO c k f ds r)
    (hg : nsIn c.K mainGlobals x = some (some (.ref f))) (hx : env.kindOf x = some .globalImplicit) (hd : (x == ("__debug__" : Str)) = false := by decide)
    (hs : starEach (e :: es) env = (false, eval e env) :: starEach es env := by rfl)
    (he : eval (.Call (.Name x p) (e :: es) [] pos) env = (do callWith pos (← eval (.Name x p) env) [] (backTo pos (starEach (e :: es) env)) []) := by rfl) : EvO c O k env ρ (.Call (.Name x p) (e :: es) [] pos) r := by
  obtain ⟨o, h1, h2⟩ := Df.at_
  exact ev_call_fn G.ok (fun ES => fnv_global G.ok ES hg hx hd) h1 h2 X h hs he
end
theorem dput_map {α : Type} (enc : α → D) (l : List (Str × α)) (x : Str) (v : α) : dput (l.map fun p => (p.1, enc p.2)) x (enc v) = (dput l x v).map fun p => (p.1, enc p.2) := by
  unfold dput
  rw [List.any_map]
  have e : ((fun kv : Str × D => decide (kv.1 = x)) ∘ fun p : Str × α => (p.1, enc p.2)) = fun kv => decide (kv.1 = x) := rfl
  rw [e]
  split
  · rw [List.map_map, List.map_map]; refine List.map_congr_left fun p _ => ?_
    simp only [Function.comp]; split <;> rfl
  · simp
theorem dget_map {α : Type} (enc : α → D) (l : List (Str × α)) (x : Str) : dget (l.map fun p => (p.1, enc p.2)) x = (dget l x).map enc := by
  unfold dget
  induction l with
  | nil => rfl
  | cons p l ih =>
    simp only [List.map_cons, List.find?_cons]
    cases decide (p.1 = x) with
    | true => rfl
    | false => exact ih
theorem strsD_inj : ∀ {a b : List Str}, strsD a = strsD b → a = b
  | [], [], _ => rfl
  | [], b :: l, h => by cases h
  | a :: l, [], h => by cases h
  | a :: l, b :: m, h => by
    unfold strsD at h
    rw [List.map_cons, List.map_cons] at h
    injection h with h1 h2
    injection h1 with h1
    rw [h1, strsD_inj h2]
theorem lst_inj {a b : List Str} (h : lst a = lst b) : a = b := by unfold lst at h; injection h with h; exact strsD_inj h
theorem rowD_inj (a b : Row) (h : rowD a = rowD b) : a = b := by
  obtain ⟨n, c, w⟩ := a
  obtain ⟨n', c', w'⟩ := b
  unfold rowD at h
  injection h with h
  injection h with h1 h
  injection h with h2 h
  injection h with h3 h
  injection h with h4 h
  injection h3 with h3
  injection h4 with h4
  have := lst_inj h1
  simp only at this h3 h4
  subst this h3 h4; rfl
theorem str_inj (a b : Str) (h : D.str a = D.str b) : a = b := by injection h
end Mine
end
section
open PySem PySem.W PyProof.Rows
set_option maxRecDepth 100000
set_option maxHeartbeats 4000000
set_option linter.unusedVariables false
namespace Mine
theorem pairsOf_get (l : List Str) (i : Nat) : (pairsOf l)[i]? = if h : i + 1 < l.length then some [l[i], l[i + 1]] else none := by
  unfold pairsOf
  rw [List.getElem?_map]
  split
  · rename_i h
    have : (l.zip l.tail)[i]? = some (l[i], l[i + 1]) := by
      rw [List.getElem?_eq_getElem (by simp; omega)]; simp
    rw [this]; rfl
  · rename_i h
    rw [List.getElem?_eq_none (by simp; omega)]; rfl
theorem pairs_eq (l : List Str) : ((rints 1 (((strsD l).length : Int) - 1).toNat).filter fun _ => true).map (pairF (strsD l)) = (pairsOf l).map lst := by
  rw [filter_tt]
  apply List.ext_getElem?
  intro i
  rw [List.getElem?_map, List.getElem?_map, pairsOf_get]
  unfold rints
  rw [List.getElem?_map]
  have hl : (strsD l).length = l.length := by simp [strsD]
  rw [hl]
  by_cases h : i + 1 < l.length
  · rw [List.getElem?_range (by omega), dif_pos h]
    simp only [Option.map_some]
    refine congrArg some ?_
    show D.list (cut (strsD l) (some (1 + (i : Int) - 1)) (some (1 + (i : Int) + 1))) = lst [l[i], l[i + 1]]
    have e1 : (1 : Int) + i - 1 = (i : Nat) := by rw [Int.add_comm]; exact Int.add_sub_cancel ..
    have e2 : (1 : Int) + i + 1 = ((i + 2 : Nat) : Int) := by rw [Int.add_comm 1, Int.add_assoc]; rfl
    rw [e1, e2]
    unfold cut lst
    simp only [Option.elim, clip_nat, hl]
    have e3 : min i l.length = i := Nat.min_eq_left (Nat.le_of_lt (Nat.lt_of_succ_lt h))
    have e4 : min (i + 2) l.length - i = 2 := by rw [Nat.min_eq_left h]; exact Nat.add_sub_cancel_left i 2
    rw [e3, e4]
    unfold strsD
    rw [← List.map_drop, ← List.map_take]
    have : (l.drop i).take 2 = [l[i], l[i + 1]] := by
      rw [List.drop_eq_getElem_cons (by omega), List.drop_eq_getElem_cons h]; rfl
    rw [this]
  · rw [dif_neg h, List.getElem?_eq_none (by simp; omega)]; rfl
theorem pairs_ok' {c : Cx} (G : c.Good) {k : Nat} (l : List Str) (hz : l.length ≤ 1000) : FnO c (k + 1) 138 [lst l] (lsts (pairsOf l)) := by
  have := pairs_ok (k := k) G (strsD l) (by simpa [strsD] using hz)
  rw [pairs_eq] at this
  exact this

abbrev Q4 := Int × Int × Int × Int
abbrev Entry := Q4 × List (Str × Q4)
noncomputable def q4D (q : Q4) : D := .tuple [.int q.1, .int q.2.1, .int q.2.2.1, .int q.2.2.2]
noncomputable def callersD (l : List (Str × Q4)) : List (Str × D) := l.map fun p => (p.1, q4D p.2)
noncomputable def entryD (e : Entry) : D := .tuple [.int e.1.1, .int e.1.2.1, .int e.1.2.2.1, .int e.1.2.2.2, .dict (callersD e.2)]
noncomputable def booksD (l : List (Str × Entry)) : List (Str × D) := l.map fun p => (p.1, entryD p.2)

/-! what is told -/
noncomputable def Row.pairs (r : Row) : List (List Str) := pairsOf r.names
noncomputable def rowOf (comings works : Tab) (path : Str) : Row := ⟨Txt.split path ";", (dget comings path).getD 0, (dget works path).getD 0⟩
noncomputable def sumC (l : List Row) : Int := (l.map (·.come)).sum
noncomputable def sumW (l : List Row) : Int := (l.map (·.work)).sum
noncomputable def calledP (mine : List Row) (caller name : Str) : List Row := mine.filter fun r => r.pairs.drop (r.pairs.length - 1) == [[caller, name]]
noncomputable def callerStep (rows mine : List Row) (name : Str) (acc : List (Str × Q4)) (caller : Str) : List (Str × Q4) :=
  let called := calledP mine caller name
  if called.isEmpty then acc else
    dput acc caller (sumC called, sumC (called.filter fun r => !(r.pairs.take (r.pairs.length - 1)).contains [caller, name]), sumW called, sumW (rows.filter fun r => r.pairs.contains [caller, name]))
noncomputable def mineP (rows : List Row) (name : Str) : List Row := rows.filter fun r => r.names.getLastD "" == name
noncomputable def toldStep (rows : List Row) (words : List Str) (acc : List (Str × Entry)) (name : Str) : List (Str × Entry) :=
  let mine := mineP rows name
  if mine.isEmpty then acc else
    dput acc name ((sumC (mine.filter fun r => !(r.names.take (r.names.length - 1)).contains name), sumC mine, sumW mine, sumW (rows.filter fun r => r.names.contains name)), words.foldl (callerStep rows mine name) [])
noncomputable def toldP (comings works : Tab) (words : List Str) : List (Str × Entry) := words.foldl (toldStep (comings.map fun p => rowOf comings works p.1) words) []

structure RowOk (r : Row) : Prop where
  ne : r.names ≠ []
  len : r.names.length ≤ 1000
  ok : ∀ s ∈ r.names, TxtOk s
theorem RowOk.pairs {r : Row} (h : RowOk r) : ∀ x ∈ r.pairs, ∀ s ∈ x, TxtOk s := fun x hx s hs => by
  obtain ⟨p, hp, rfl⟩ := List.mem_map.mp hx
  have h1 := (List.of_mem_zip hp).1
  have h2 := List.mem_of_mem_tail (List.of_mem_zip hp).2
  simp at hs
  rcases hs with rfl | rfl
  · exact h.ok _ h1
  · exact h.ok _ h2
theorem RowOk.plen {r : Row} (h : RowOk r) : r.pairs.length ≤ 1000 := by
  have : r.pairs.length ≤ r.names.length := by unfold Row.pairs pairsOf; simp
  exact Nat.le_trans this h.len
theorem ok_row {r : Row} (h : RowOk r) : D.ok 7 (rowD r) = true := by
  unfold rowD; unfold D.ok
  simp only [List.all_cons, List.all_nil, Bool.and_true, Bool.and_eq_true]
  exact ⟨ok_lst h.ok, ok_lsts h.pairs, by unfold D.ok; rfl, by unfold D.ok; rfl⟩
theorem eqv_nil (l : List D) : D.eqv (.list l) (.list []) = l.isEmpty := by cases l <;> simp [D.eqv, D.toPy, D.toPys, PyData.eqv, PyData.eqvAll]
section
variable {c : Cx} {O : Addr → Prop} {k : Nat} {env : Env} {ρ : List (Str × D)}
theorem cm_neRows {l : List Row} (h : ∀ r ∈ l, RowOk r) : CmO c O k .NotEq (.list (l.map rowD)) (.list []) (!l.isEmpty) := by
  have := cm_ne (c := c) (O := O) (k := k) (a := .list (l.map rowD)) (b := .list []) (by unfold D.ok; exact List.all_eq_true.mpr fun d hd => by obtain ⟨r, hr, rfl⟩ := List.mem_map.mp hd; exact ok_row (h r hr)) (by decide)
  rw [eqv_nil, List.isEmpty_map] at this
  exact this
/-- row[0] and row[1] -/
theorem ev_row0 {x : Str} {p p' p'' : Pos} {n : Nat} {r : Row} (hx : Has env x = true) (hd : ρ.lookup x = some (rowD r)) (hb : (x == ("__debug__" : Str)) = false := by decide) : EvO c O k env ρ (.Subscript (.Name x p) (.Constant (.int 0) n p') p'') (lst r.names) :=
  ev_item_tuple (ev_name hx hd hb) ev_int (by decide) (by decide) rfl rfl
theorem ev_row1 {x : Str} {p p' p'' : Pos} {n : Nat} {r : Row} (hx : Has env x = true) (hd : ρ.lookup x = some (rowD r)) (hb : (x == ("__debug__" : Str)) = false := by decide) : EvO c O k env ρ (.Subscript (.Name x p) (.Constant (.int 1) n p') p'') (lsts r.pairs) :=
  ev_item_tuple (ev_name hx hd hb) ev_int (by decide) (by decide) rfl rfl
theorem ev_pair2 {x y : Str} {p p' pos : Pos} {a b : Str} (hx : Has env x = true) (ha : ρ.lookup x = some (.str a)) (hy : Has env y = true) (hb : ρ.lookup y = some (.str b)) (hd : (x == ("__debug__" : Str)) = false := by decide) (hd' : (y == ("__debug__" : Str)) = false := by decide) : EvO c O k env ρ (.List [.Name x p, .Name y p'] pos) (lst [a, b]) :=
  (ev_list (ds := [.str a, .str b]) (evs_cons (ev_name hx ha hd) (evs_cons (ev_name hy hb hd') evs_nil)) : EvO c O k env ρ _ (.list [.str a, .str b]))
theorem ev_sumsC (G : c.Good) {x : Str} {p p1 p2 p3 p4 : Pos} {n : Nat} {l : List Row} (hz : l.length ≤ 1000) (hx : Has env x = true) (hd : ρ.lookup x = some (.list (l.map rowD))) (hg : env.kindOf "_law_sums" = some .globalImplicit) (hb : (x == ("__debug__" : Str)) = false := by decide) :
    EvO c O (k + 1) env ρ (.Subscript (.Call (.Name "_law_sums" p1) [.Name x p] [] p2) (.Constant (.int 0) n p3) p4) (.int (sumC l)) :=
  ev_item_tuple (ev_callD G (def_sums G) (evs_cons (ev_name hx hd hb) evs_nil) (sums_ok G l hz) (by rw [G.K]; kernel_rfl) hg) ev_int (by decide) (by decide) rfl rfl
theorem ev_sumsW (G : c.Good) {x : Str} {p p1 p2 p3 p4 : Pos} {n : Nat} {l : List Row} (hz : l.length ≤ 1000) (hx : Has env x = true) (hd : ρ.lookup x = some (.list (l.map rowD))) (hg : env.kindOf "_law_sums" = some .globalImplicit) (hb : (x == ("__debug__" : Str)) = false := by decide) :
    EvO c O (k + 1) env ρ (.Subscript (.Call (.Name "_law_sums" p1) [.Name x p] [] p2) (.Constant (.int 1) n p3) p4) (.int (sumW l)) :=
  ev_item_tuple (ev_callD G (def_sums G) (evs_cons (ev_name hx hd hb) evs_nil) (sums_ok G l hz) (by rw [G.K]; kernel_rfl) hg) ev_int (by decide) (by decide) rfl rfl
end

theorem cut_last {α : Type} (l : List α) : cut l (some (-1)) none = l.drop (l.length - 1) := cut_from_neg l 1 (by decide)
theorem cut_init {α : Type} (l : List α) : cut l none (some (-1)) = l.take (l.length - 1) := cut_to_neg l 1 (by decide)
theorem getLast_idx {l : List Str} (h : l ≠ []) : (strsD l)[((-1 : Int) + ((strsD l).length : Int)).toNat]? = some (.str (l.getLastD "")) := by
  have hl : 0 < l.length := List.length_pos_iff.mpr h
  have e : ((-1 : Int) + ((strsD l).length : Int)).toNat = l.length - 1 := by
    unfold strsD
    rw [List.length_map, Int.add_comm, ← Int.sub_eq_add_neg]; exact Int.toNat_sub l.length 1
  rw [e]; unfold strsD; rw [List.getElem?_map, ← List.getLast?_eq_getElem?, List.getLastD_eq_getLast?]
  cases q : l.getLast? with
  | none => rw [List.getLast?_eq_none_iff] at q; exact absurd q h
  | some x => rfl
theorem dget_mem {α : Type} {l : List (Str × α)} {p : Str × α} (h : p ∈ l) : ∃ v, dget l p.1 = some v := by
  unfold dget
  cases q : l.find? fun kv => kv.1 = p.1 with
  | some v => exact ⟨v.2, rfl⟩
  | none => rw [List.find?_eq_none] at q; exact absurd (decide_eq_true rfl) (q p h)
theorem tabD_get (t : Tab) (x : Str) : dget (tabD t) x = (dget t x).map D.int := dget_map D.int t x
theorem tabD_getD (t : Tab) (x : Str) : (dget (tabD t) x).getD (.int 0) = .int ((dget t x).getD 0) := by
  rw [tabD_get]; cases dget t x <;> rfl
theorem callersD_put (l : List (Str × Q4)) (x : Str) (q : Q4) : dput (callersD l) x (q4D q) = callersD (dput l x q) := dput_map q4D l x q
theorem booksD_put (l : List (Str × Entry)) (x : Str) (q : Entry) : dput (booksD l) x (entryD q) = booksD (dput l x q) := dput_map entryD l x q
theorem foldl_take_succ {α β : Type} {f : β → α → β} {b : β} {l : List α} {i : Nat} {a : α} (h : l[i]? = some a) : (l.take (i + 1)).foldl f b = f ((l.take i).foldl f b) a := by
  rw [take_succ_of h, List.foldl_append]; rfl
theorem fold_len {α β : Type} {f : List β → α → List β} (h : ∀ b a, (f b a).length ≤ b.length + 1) : ∀ (l : List α) (b : List β), (l.foldl f b).length ≤ b.length + l.length
  | [], b => by simp
  | a :: l, b => by have := fold_len h l (f b a); have := h b a; simp only [List.foldl_cons, List.length_cons]; omega
theorem callerStep_len (rows mine : List Row) (name : Str) (acc : List (Str × Q4)) (caller : Str) : (callerStep rows mine name acc caller).length ≤ acc.length + 1 := by
  unfold callerStep; simp only; split
  · omega
  · exact dput_length _ _ _
theorem toldStep_len (rows : List Row) (words : List Str) (acc : List (Str × Entry)) (name : Str) : (toldStep rows words acc name).length ≤ acc.length + 1 := by
  unfold toldStep; simp only; split
  · omega
  · exact dput_length _ _ _
theorem strs_get {l : List Str} {i : Nat} {d : D} (h : (strsD l)[i]? = some d) : ∃ x, l[i]? = some x ∧ d = .str x := by
  unfold strsD at h; rw [List.getElem?_map, Option.map_eq_some_iff] at h
  obtain ⟨x, h1, h2⟩ := h; exact ⟨x, h1, h2.symm⟩
theorem told_ok {c : Cx} (G : c.Good) {k : Nat} (comings works : Tab) (words : List Str) (hc : comings.length ≤ 1000) (hw : words.length ≤ 900) (hww : ∀ s ∈ words, TxtOk s) (hsz : ∀ p ∈ comings, p.1.length ≤ sizeLine ∧ (Builtin.Str.partsBetween p.1 (Builtin.Str.occurrences p.1 ";" 0 p.1.length (p.1.length + 1)) (Str.ofString ";").length).length ≤ sizeLine)
    (hr : ∀ p ∈ comings, RowOk (rowOf comings works p.1)) : FnO c (k + 2) 172 [.dict (tabD comings), .dict (tabD works), lst words] (.dict (booksD (toldP comings works words))) :=
  fn_sx G.ok (def_told G) rfl fun X A st h₀ R x => by
    have key : ((tabD comings).map fun p => D.str p.1) = (comings.map (·.1)).map D.str := by unfold tabD; rw [List.map_map, List.map_map]; rfl
    refine sx_seq (sx_compE (l := comings.map (·.1)) (enc := D.str) (fun _ => true) (fun p => rowD (rowOf comings works p)) str_inj (ItO.as (it_keys (ev_name (by kernel_rfl) rfl)) key) (by simpa using hc) (fun O' C a ha => if_nil) (fun O' C a ha _ => ?_) R x fun s1 x1 => ?_)
    · obtain ⟨p, hp, rfl⟩ := List.mem_map.mp ha
      obtain ⟨h1, h2⟩ := hsz p hp
      have hrow := hr p hp
      refine ev_tuple (evs_cons (ev_split (ev_name (by kernel_rfl) rfl) ev_str rfl h1 h2 _) (evs_cons (ev_callD G (def_pairs G) (evs_cons (ev_split (ev_name (by kernel_rfl) rfl) ev_str rfl h1 h2 _) evs_nil) (pairs_ok' G _ hrow.len) (by rw [G.K]; kernel_rfl) (by kernel_rfl)) (evs_cons (ev_item_dict (ev_name (by kernel_rfl) rfl) (ev_name (by kernel_rfl) rfl) ?_) (evs_cons (EvO.as (ev_get (ev_name (by kernel_rfl) rfl) (ev_name (by kernel_rfl) rfl) ev_int _) ?_) evs_nil))))
      · rw [tabD_get]
        obtain ⟨v, hv⟩ := dget_mem hp
        rw [hv]; unfold rowOf; rw [hv]; rfl
      · exact tabD_getD works p.1
    · generalize hrows : (comings.map fun p => rowOf comings works p.1) = rows
      have e1 : ((comings.map (·.1)).filter (fun _ => true)).map (fun p => rowD (rowOf comings works p)) = rows.map rowD := by rw [filter_tt, ← hrows, List.map_map, List.map_map]; rfl
      rw [e1] at x1
      have rok : ∀ r ∈ rows, RowOk r := fun r h => by rw [← hrows] at h; obtain ⟨p, hp, rfl⟩ := List.mem_map.mp h; exact hr p hp
      have rlen : rows.length ≤ 1000 := by rw [← hrows]; simpa using hc
      have sub : ∀ {l : List Row} (p : Row → Bool), l.length ≤ 1000 → (l.filter p).length ≤ 1000 := fun p h => Nat.le_trans (List.length_filter_le _ _) h
      have et : toldP comings works words = words.foldl (toldStep rows words) [] := by unfold toldP; rw [hrows]
      rw [et]
      refine sx_seq (sx_newDict x1 fun s2 a x2 => ?_)
      refine sx_seq (sx_forName (fun i => [("rows", .list (rows.map rowD)), ("words", lst words)]) (fun i => [("told", a, .dict (booksD ((words.take i).foldl (toldStep rows words) [])))]) (it_list (ev_name (by kernel_rfl) rfl)) R x2 ⟨rfl, rfl, trivial⟩ rfl (fun i => rfl) (fun i d hd X Y hb s3 x3 => ?_) fun s3 x3 => ?_)
      · obtain ⟨name, hn, rfl⟩ := strs_get hd
        have nok := hww name (List.mem_of_getElem? hn)
        refine sx_seq (sx_compE (l := rows) (enc := rowD) (fun r => r.names.getLastD "" == name) rowD rowD_inj (it_list (ev_name (by kernel_rfl) rfl)) rlen (fun O' C r hr => ?_) (fun O' C r hr _ => ev_name (by kernel_rfl) rfl) R x3 fun s4 x4 => ?_)
        · have rk := rok r hr
          have hl : ((strsD r.names).length : Int) = r.names.length := by simp [strsD]
          have hp := List.length_pos_iff.mpr rk.ne
          refine if_one (tr_cmp (ev_item_list_neg (ev_row0 (by kernel_rfl) rfl) (ev_neg ev_int) (by decide) (by rw [hl]; omega) (by decide) (getLast_idx rk.ne)) (ev_name (by kernel_rfl) rfl) (cm_eqStr ?_ nok))
          rw [List.getLastD_eq_getLast?, List.getLast?_eq_some_getLast rk.ne]
          exact rk.ok _ (List.getLast_mem rk.ne)
        · have e4 : rows.filter (fun r => r.names.getLastD "" == name) = mineP rows name := rfl
          rw [e4] at x4
          have mok : ∀ r ∈ mineP rows name, RowOk r := fun r h => rok r (List.mem_filter.mp h).1
          have mlen : (mineP rows name).length ≤ 1000 := sub _ rlen
          refine sx_seq (sx_newDict x4 fun s5 a2 x5 => ?_)
          refine sx_seq (sx_forName (fun i => [("name", .str name), ("mine", .list ((mineP rows name).map rowD)), ("rows", .list (rows.map rowD)), ("words", lst words)]) (fun j => [("callers", a2, .dict (callersD ((words.take j).foldl (callerStep rows (mineP rows name) name) []))), ("told", a, .dict (booksD ((words.take i).foldl (toldStep rows words) [])))]) (it_list (ev_name (by kernel_rfl) rfl)) R x5 ⟨rfl, rfl, rfl, rfl, trivial⟩ rfl (fun i => rfl) (fun j d hd X Y hb s6 x6 => ?_) fun s6 x6 => ?_)
          · obtain ⟨caller, hcl, rfl⟩ := strs_get hd
            have cok := hww caller (List.mem_of_getElem? hcl)
            have cn : ∀ s ∈ [caller, name], TxtOk s := fun s hs => by
              simp at hs
              rcases hs with rfl | rfl
              · exact cok
              · exact nok
            have clen : ((words.take j).foldl (callerStep rows (mineP rows name) name) []).length ≤ 1000 := by
              have := fold_len (callerStep_len rows (mineP rows name) name) (words.take j) []
              rw [List.length_take] at this; simp at this; omega
            refine sx_seq (sx_compE (l := mineP rows name) (enc := rowD) (fun r => r.pairs.drop (r.pairs.length - 1) == [[caller, name]]) rowD rowD_inj (it_list (ev_name (by kernel_rfl) rfl)) mlen (fun O' C r hr => ?_) (fun O' C r hr _ => ev_name (by kernel_rfl) rfl) R x6 fun s7 x7 => ?_)
            · have rk := mok r hr
              refine if_one (tr_cmp (EvO.as (d' := lsts (r.pairs.drop (r.pairs.length - 1))) (ev_slice (a := some (-1)) (b := none) (ev_row1 (by kernel_rfl) rfl) (ev_neg ev_int) trivial (size_of (by simpa using rk.plen))) ?_) (b := lsts [[caller, name]]) (ev_list (ds := [lst [caller, name]]) (evs_cons (ev_pair2 (by kernel_rfl) rfl (by kernel_rfl) rfl) evs_nil)) (eqv_lsts _ _ ▸ cm_eq (ok_lsts fun x hx => rk.pairs x (List.mem_of_mem_drop hx)) (ok_lsts fun x hx => ?_)))
              · rw [cut_map, cut_last]; rfl
              · simp at hx; subst hx; exact cn
            · have e7 : (mineP rows name).filter (fun r => r.pairs.drop (r.pairs.length - 1) == [[caller, name]]) = calledP (mineP rows name) caller name := rfl
              rw [e7] at x7
              have dok : ∀ r ∈ calledP (mineP rows name) caller name, RowOk r := fun r h => mok r (List.mem_filter.mp h).1
              have dlen : (calledP (mineP rows name) caller name).length ≤ 1000 := sub _ mlen
              refine sx_seq (sx_if (TrO.sx (tr_cmp (ev_name (by kernel_rfl) rfl) (ev_list evs_nil) (cm_neRows dok))) R x7 (fun hq s8 x8 => ?_) fun hq s8 x8 => ?_)
              · refine sx_seq (sx_compE (l := calledP (mineP rows name) caller name) (enc := rowD) (fun r => !(r.pairs.take (r.pairs.length - 1)).contains [caller, name]) rowD rowD_inj (it_list (ev_name (by kernel_rfl) rfl)) dlen (fun O' C r hr => ?_) (fun O' C r hr _ => ev_name (by kernel_rfl) rfl) R x8 fun s9 x9 => ?_)
                · have rk := dok r hr
                  refine if_one (tr_cmp (ev_pair2 (by kernel_rfl) rfl (by kernel_rfl) rfl) (EvO.as (d' := lsts (r.pairs.take (r.pairs.length - 1))) (ev_slice (a := none) (b := some (-1)) (ev_row1 (by kernel_rfl) rfl) trivial (ev_neg ev_int) (size_of (by simpa using rk.plen))) ?_) (cm_notInLst cn fun x hx => rk.pairs x (List.mem_of_mem_take hx)))
                  rw [cut_map, cut_init]; rfl
                · refine sx_seq (sx_compE (l := rows) (enc := rowD) (fun r => r.pairs.contains [caller, name]) rowD rowD_inj (it_list (ev_name (by kernel_rfl) rfl)) rlen (fun O' C r hr => ?_) (fun O' C r hr _ => ev_name (by kernel_rfl) rfl) R x9 fun s10 x10 => ?_)
                  · have rk := rok r hr
                    exact if_one (tr_cmp (ev_pair2 (by kernel_rfl) rfl (by kernel_rfl) rfl) (ev_row1 (by kernel_rfl) rfl) (cm_inLst cn rk.pairs))
                  · refine sx_seq (sx_setDict (d := q4D (sumC (calledP (mineP rows name) caller name), sumC ((calledP (mineP rows name) caller name).filter fun r => !(r.pairs.take (r.pairs.length - 1)).contains [caller, name]), sumW (calledP (mineP rows name) caller name), sumW (rows.filter fun r => r.pairs.contains [caller, name])))
                      (EvO.sx (ev_tuple (evs_cons (ev_sumsC G dlen (by kernel_rfl) rfl (by kernel_rfl)) (evs_cons (ev_sumsC G (sub _ dlen) (by kernel_rfl) rfl (by kernel_rfl)) (evs_cons (ev_sumsW G dlen (by kernel_rfl) rfl (by kernel_rfl)) (evs_cons (ev_sumsW G (sub _ rlen) (by kernel_rfl) rfl (by kernel_rfl)) evs_nil))))))
                      (EvO.sx (ev_name (by kernel_rfl) rfl)) R x10 rfl (by unfold callersD; simpa using clen) fun s11 x11 => wpAny_execs_nil (sx_end x11 ⟨rfl, rfl, rfl, rfl, trivial⟩ ?_))
                    rw [foldl_take_succ hcl, callersD_put]
                    have : (calledP (mineP rows name) caller name).isEmpty = false := by simpa using hq
                    conv => lhs; unfold callerStep
                    simp only [this, Bool.false_eq_true, if_false]; rfl
              · have : (calledP (mineP rows name) caller name).isEmpty = true := by simpa using hq
                refine wpAny_execs_nil (sx_end x8 ⟨rfl, rfl, rfl, rfl, trivial⟩ ?_)
                rw [foldl_take_succ hcl]
                conv => lhs; unfold callerStep
                simp only [this, if_true]; rfl
          · rw [show (strsD words).length = words.length by simp [strsD], List.take_length] at x6
            have x6' := x6.give "callers"
            have tlen : ((words.take i).foldl (toldStep rows words) []).length ≤ 1000 := by
              have := fold_len (toldStep_len rows words) (words.take i) []
              rw [List.length_take] at this; simp at this; omega
            refine sx_seq (sx_if (TrO.sx (tr_cmp (ev_name (by kernel_rfl) rfl) (ev_list evs_nil) (cm_neRows mok))) R x6' (fun hq s8 x8 => ?_) fun hq s8 x8 => ?_)
            · refine sx_seq (sx_compE (l := mineP rows name) (enc := rowD) (fun r => !(r.names.take (r.names.length - 1)).contains name) rowD rowD_inj (it_list (ev_name (by kernel_rfl) rfl)) mlen (fun O' C r hr => ?_) (fun O' C r hr _ => ev_name (by kernel_rfl) rfl) R x8 fun s9 x9 => ?_)
              · have rk := mok r hr
                refine if_one (tr_cmp (ev_name (by kernel_rfl) rfl) (EvO.as (d' := lst (r.names.take (r.names.length - 1))) (ev_slice (a := none) (b := some (-1)) (ev_row0 (by kernel_rfl) rfl) trivial (ev_neg ev_int) (size_of (by simpa [strsD] using rk.len))) ?_) (cm_notInStr nok fun x hx => rk.ok x (List.mem_of_mem_take hx)))
                unfold strsD; rw [cut_map, cut_init]; rfl
              · refine sx_seq (sx_compE (l := rows) (enc := rowD) (fun r => r.names.contains name) rowD rowD_inj (it_list (ev_name (by kernel_rfl) rfl)) rlen (fun O' C r hr => ?_) (fun O' C r hr _ => ev_name (by kernel_rfl) rfl) R x9 fun s10 x10 => ?_)
                · have rk := rok r hr
                  exact if_one (tr_cmp (ev_name (by kernel_rfl) rfl) (ev_row0 (by kernel_rfl) rfl) (cm_inStr nok rk.ok))
                · refine sx_seq (sx_setDict (d := entryD ((sumC ((mineP rows name).filter fun r => !(r.names.take (r.names.length - 1)).contains name), sumC (mineP rows name), sumW (mineP rows name), sumW (rows.filter fun r => r.names.contains name)), words.foldl (callerStep rows (mineP rows name) name) []))
                    (EvO.sx (ev_tuple (evs_cons (ev_sumsC G (sub _ mlen) (by kernel_rfl) rfl (by kernel_rfl)) (evs_cons (ev_sumsC G mlen (by kernel_rfl) rfl (by kernel_rfl)) (evs_cons (ev_sumsW G mlen (by kernel_rfl) rfl (by kernel_rfl)) (evs_cons (ev_sumsW G (sub _ rlen) (by kernel_rfl) rfl (by kernel_rfl)) (evs_cons (ev_name (by kernel_rfl) rfl) evs_nil)))))))
                    (EvO.sx (ev_name (by kernel_rfl) rfl)) R x10 rfl (by unfold booksD; simpa using tlen) fun s11 x11 => wpAny_execs_nil (sx_end x11 ⟨rfl, rfl, trivial⟩ ?_))
                  rw [foldl_take_succ hn, booksD_put]
                  have : (mineP rows name).isEmpty = false := by simpa using hq
                  conv => lhs; unfold toldStep
                  simp only [this, Bool.false_eq_true, if_false]; rfl
            · have : (mineP rows name).isEmpty = true := by simpa using hq
              refine wpAny_execs_nil (sx_end x8 ⟨rfl, rfl, trivial⟩ ?_)
              rw [foldl_take_succ hn]
              conv => lhs; unfold toldStep
              simp only [this, if_true]; rfl
      · rw [show (strsD words).length = words.length by simp [strsD], List.take_length] at x3
        exact sx_ret (EvO.sx (ev_name (by kernel_rfl) rfl)) R (x3.give "told")
end Mine
end
section
open PySem PySem.W PyProof.Rows
set_option maxRecDepth 100000
set_option linter.unusedVariables false
namespace Mine
section
variable {c : Cx} {env : Env} {b : Blk} {k : Nat} {ρ : List (Str × D)} {ω : OL} {A : Around} {s s' : Shared}
/-- y.append(e) -/
theorem sx_append {y : Str} {p apos pos epos : Pos} {e : Expr} {d : D} {a : Addr} {ds : List D} {pl : Sem Bool} {Q : Flow → Shared → Prop} (X : SxEv c env b k ρ ω e d) (R : Room k A) (x : Sx c env b ρ ω s)
    (hm : ω.lookup y = some (a, .list ds)) (hz : ds.length ≤ 1000) (h : ∀ s', Sx c env b ρ (oset ω y (.list (ds ++ [d]))) s' → Q .next s')
    (hy : Has env y = true := by kernel_rfl) (he : MethForm (.Name y p) "append" apos pos [e] env pl := by rfl) (hs : starEach [e] env = (false, eval e env) :: starEach [] env := by rfl)
    (hi : interactive env = false := by kernel_rfl) (hw : swapsWith (.Call (.Attribute (.Name y p) "append" apos) [e] [] pos) none epos.line env = pure false := by rfl) (hd : (y == ("__debug__" : Str)) = false := by decide) (ha : anon y = false := by decide) :
    wpAny (model c.prog c.w) A (exec (.Expr (.Call (.Attribute (.Name y p) "append" apos) [e] [] pos) epos) env) Q F0 s := by
  have hm' := lookup_mem hm
  obtain ⟨lv, F, B, W⟩ := id x.ex
  refine wpAny_Expr (MethodCall_ (pl := pl) (load_name F hy ((W _ hm').1.resolve_left (by rw [ha]; nofun)) ?_ hd) he) hi hw
  obtain ⟨vs, n, ho, r⟩ := (W _ hm').2
  refine Calls.getMethod_list_append ho rfl rfl ?_
  refine callWith_method1 ?_ hs rfl
  rw [hs]
  refine Calls.spliced_cons (X A s _ R x fun v s₁ x₁ g₁ i => Calls.spliced_nil ?_)
  obtain ⟨lv1, F1, B1, W1⟩ := id x₁.ex
  obtain ⟨vs1, n1, ho1, r1⟩ := (W1 _ hm').2
  refine append_exact ho1 (by rw [← Array.length_toList, r1.length]; exact size_of hz) fun h' n' ho' hs' => ?_
  refine h _ (x₁.set (s' := { s₁ with heap := h' }) hm' hs' rfl rfl ⟨_, n', ho', ?_⟩)
  rw [Array.toList_push]
  exact (r1.append (.single i)).chg (SameBut.chg hs' (.inr ⟨_, hm', rfl⟩))
/-- while -/
theorem sx_while {t : Expr} {body : List Stmt} {pos : Pos} {Q : Flow → Shared → Prop} (n : Nat) (ρi : Nat → List (Str × D)) (ωi : Nat → OL) (R : Room k A) (x : Sx c env b (ρi 0) (ωi 0) s)
    (test : ∀ i, i ≤ n → SxTr c env b k (ρi i) (ωi i) t (decide (i < n)))
    (turn : ∀ i, i < n → ∀ s', Sx c env b (ρi i) (ωi i) s' → wpAny (model c.prog c.w) A (execs body env) (fun f s₃ => (f = .next ∨ f = .cont) ∧ Sx c env b (ρi (i + 1)) (ωi (i + 1)) s₃) F0 s')
    (last : ∀ s', Sx c env b (ρi n) (ωi n) s' → Q .next s') : wpAny (model c.prog c.w) A (exec (.While t body [] pos) env) Q F0 s := by
  refine wpAny_While (codeAny_whileLoop (fun m s' => ∃ i, i ≤ n ∧ m = n - i ∧ Sx c env b (ρi i) (ωi i) s') (fun m s' hI => ?_) n ⟨0, Nat.zero_le _, rfl, x⟩)
  obtain ⟨i, hi, rfl, x'⟩ := hI
  have no : ∀ (e : Value) (s' : Shared), F0 e s' → notedBy (model c.prog c.w) A env (fun e s' => cameBackBy (model c.prog c.w) A env F0 e s') e s' := fun _ _ f => f.elim
  refine wpAny_mono (test i hi A s' _ R x' fun s₂ x₂ g₂ => ?_) (fun _ _ q => q) no
  by_cases hlt : i < n
  · rw [decide_eq_true hlt, if_pos rfl]
    refine wpAny_mono (turn i hlt s₂ x₂) (fun f s₃ q => ?_) no
    obtain ⟨hf, x₃⟩ := q
    rcases hf with rfl | rfl <;> exact ⟨n - (i + 1), by omega, i + 1, hlt, rfl, x₃⟩
  · have e : i = n := by omega
    subst e
    rw [decide_eq_false hlt]
    simp only [Bool.false_eq_true, if_false]
    exact wpAny_execs_nil (last s₂ x₂)
end
end Mine
end
section
open PySem PySem.W PyProof.Rows
set_option maxRecDepth 100000
set_option linter.unusedVariables false
namespace Mine
section
variable {prog : Program} {w : World} {A : Around} {E : Value → Shared → Prop} {s : Shared}
theorem setItem_last {l : Addr} {items : Array Value} {n : Nat} {t : Tok} {v : Value} {Q : Unit → Shared → Prop} (ho : s.heap.get? l = some { cls := .type "list", data := .seq items n }) (h1 : 0 < items.size)
    (hQ : ∀ h' n', h'.get? l = some { cls := .type "list", data := .seq (items.setIfInBounds (items.size - 1) v) n' } → Heap.SameBut l s.heap h' → Q () { s with heap := h' }) :
    wpAny (model prog w) A (setItem (.ref l) (.int (-1) t) v) Q E s := by
  have hl : s.heap.IsList l items := ⟨_, ho, rfl, n, rfl⟩
  unfold setItem
  try with_reducible refine wpAny_holding ?_
  first | refine wpAny_bind (wpAny_pure ?_) | skip
  refine wpAny_bind (wpAny_sequenceKey hl.typeIs (by decide) ?_)
  refine wpAny_bind (wpAny_callSpecial?_slot (name := Str.ofString "__setitem__") hl.typeIs slot_list_setitem
    (wpAny_call_entry slot_list_setitem hl.typeIs entry_list_setitem ?_ (args_list_setitem _ _ _)))
  show wpAny _ _ (Builtin.List.listSubscript? (.int (-1) t) >>= _) _ _ s
  refine wpAny_bind (wpAny_listSubscript_int (fitsIndex_neg (by decide) (by decide)) ?_)
  have hidx : seqIndex? (-1) items.size = some (items.size - 1) := by
    rw [seqIndex_neg (by decide) (by omega)]; exact congrArg some (by rw [Int.add_comm, ← Int.sub_eq_add_neg]; exact Int.toNat_sub items.size 1)
  have hx' : items[items.size - 1]? = some items[items.size - 1] := Array.getElem?_eq_getElem (by omega)
  show wpAny _ _ ((Builtin.List.listItems (.ref l) >>= fun xs => pure ((seqIndex? (-1) xs.size).bind fun i => xs[i]?.map (i, ·))) >>= _) _ _ s
  refine wpAny_bind (wpAny_bind ?_)
  show wpAny _ _ (seqItems? (.ref l) >>= _) _ _ s
  refine wpAny_bind (wpAny_seqItems ho rfl (wpAny_pure (wpAny_pure ?_)))
  rw [hidx]
  simp only [Option.bind_some, hx', Option.map_some]
  show wpAny _ _ (setSeqItemAt l (items.size - 1) v >>= _) _ _ s
  have key : ∃ n', Obj.mapSeq (·.setIfInBounds (items.size - 1) v) { cls := .type "list", data := .seq items n } = { cls := .type "list", data := .seq (items.setIfInBounds (items.size - 1) v) n' } := ⟨_, rfl⟩
  obtain ⟨n', key⟩ := key
  have hfin : (s.heap.update l (Obj.mapSeq (·.setIfInBounds (items.size - 1) v))).get? l = some { cls := .type "list", data := .seq (items.setIfInBounds (items.size - 1) v) n' } := by
    rw [Heap.get?_update_self _ ho (by rw [key]; rfl), key]
  refine wpAny_bind (wpAny_setSeqItemAt ho rfl ?_)
  first
    | exact wpAny_bind (wpAny_pure (wpAny_pure ⟨.none, rfl, wpAny_pure (hQ _ _ hfin (Heap.SameBut.update ..))⟩))
    | exact wpAny_pure ⟨.none, rfl, wpAny_pure (hQ _ _ hfin (Heap.SameBut.update ..))⟩
end
section
variable {c : Cx} {env : Env} {b : Blk} {k : Nat} {ρ : List (Str × D)} {ω : OL} {A : Around} {s s' : Shared}
theorem IsAll.last {O : Addr → Prop} {h : Heap} {ds : List D} {d d' : D} {vs : Array Value} {v : Value} (x : IsAll c O h (ds ++ [d]) vs.toList) (i : Is c O h d' v) : IsAll c O h (ds ++ [d']) (vs.setIfInBounds (vs.size - 1) v).toList := by
  have hl : vs.size = ds.length + 1 := by rw [← Array.length_toList, x.length]; simp
  have a1 := x.take ds.length
  rw [List.take_left'  rfl] at a1
  have e : (vs.setIfInBounds (vs.size - 1) v).toList = vs.toList.take ds.length ++ [v] := by
    rw [Array.toList_setIfInBounds, hl]
    have : vs.toList.length = ds.length + 1 := by simpa using hl
    generalize vs.toList = l at this
    rw [List.set_eq_take_append_cons_drop, if_pos (by omega), List.drop_eq_nil_of_le (by omega)]; rfl
  rw [e]; exact a1.append (.single i)
/-- y[-1] = e -/
theorem sx_setLast {y : Str} {p1 p2 p3 p4 pos : Pos} {m : Nat} {e : Expr} {d d' : D} {a : Addr} {ds : List D} {Q : Flow → Shared → Prop} (X : SxEv c env b k ρ ω e d') (R : Room k A) (x : Sx c env b ρ ω s)
    (hm : ω.lookup y = some (a, .list (ds ++ [d]))) (h : ∀ s', Sx c env b ρ (oset ω y (.list (ds ++ [d']))) s' → Q .next s')
    (hy : Has env y = true := by kernel_rfl) (hs : swapsWith e (some (.Subscript (.Name y p1) (.UnaryOp .USub (.Constant (.int 1) m p3) p4) p2)) pos.line env = pure false := by rfl) (hd : (y == ("__debug__" : Str)) = false := by decide) (ha : anon y = false := by decide) :
    wpAny (model c.prog c.w) A (exec (.Assign [.Subscript (.Name y p1) (.UnaryOp .USub (.Constant (.int 1) m p3) p4) p2] e pos) env) Q F0 s := by
  have hm' := lookup_mem hm
  refine wpAny_Assign_Subscript (X A s _ R x fun v s₁ x₁ g₁ i => ?_) hs
  obtain ⟨lv, F, B, W⟩ := id x₁.ex
  refine load_name F hy ((W _ hm').1.resolve_left (by rw [ha]; nofun)) (EvO.sx (ev_neg (k := k) ev_int) A s₁ _ R x₁ fun iv s₂ x₂ g₂ j => ?_) hd
  unfold Is at j
  obtain ⟨t, rfl⟩ := j
  obtain ⟨lv2, F2, B2, W2⟩ := id x₂.ex
  obtain ⟨vs, n, ho, r⟩ := (W2 _ hm').2
  refine setItem_last ho (by rw [← Array.length_toList, r.length]; simp) fun h' n' ho' hs' => ?_
  refine h _ (x₂.set (s' := { s₂ with heap := h' }) hm' hs' rfl rfl ⟨_, n', ho', ?_⟩)
  exact (r.last (i.grow g₂)).chg (SameBut.chg hs' (.inr ⟨_, hm', rfl⟩))
/-- y.pop() -/
theorem sx_pop {y : Str} {p apos pos : Pos} {d : D} {a : Addr} {ds : List D} {pl : Sem Bool} {Q : Value → Shared → Prop} (x : Sx c env b ρ ω s)
    (hm : ω.lookup y = some (a, .list (ds ++ [d]))) (hz : ds.length ≤ 900) (h : ∀ v s', Sx c env b ρ (oset ω y (.list ds)) s' → Is c (OX b.X (oset ω y (.list ds))) s'.heap d v → Q v s')
    (hy : Has env y = true := by kernel_rfl) (he : MethForm (.Name y p) "pop" apos pos [] env pl := by rfl) (hd : (y == ("__debug__" : Str)) = false := by decide) (ha : anon y = false := by decide) :
    wpAny (model c.prog c.w) A (eval (.Call (.Attribute (.Name y p) "pop" apos) [] [] pos) env) Q F0 s := by
  have hm' := lookup_mem hm
  obtain ⟨lv, F, B, W⟩ := id x.ex
  refine MethodCall_ (pl := pl) (load_name F hy ((W _ hm').1.resolve_left (by rw [ha]; nofun)) ?_ hd) he
  obtain ⟨vs, n, ho, r⟩ := (W _ hm').2
  have hl : vs.size = ds.length + 1 := by rw [← Array.length_toList, r.length]; simp
  refine PyProof.Rows.Copied.getMethod_pop_at ho rfl rfl (callWith_method0 ?_)
  obtain ⟨v, hv, i⟩ := r.get (i := ds.length) (d := d) (by simp)
  refine PyProof.Rows.Copied.pop_at ho (y := v) (by rw [hl, ← Array.getElem?_toList]; exact hv) (fun h' hs' ho' => ?_) (by rw [hl]; exact size_of (by omega))
  have ch : Chg (OX b.X ω) s.heap h' := SameBut.chg hs' (.inr ⟨_, hm', rfl⟩)
  refine h v _ (x.set (s' := { s with heap := h' }) hm' hs' rfl rfl ⟨_, _, ho', ?_⟩) ((i.chg ch).sub fun z => OX.eq_of (oset_ads ..))
  have a1 := r.take ds.length
  rw [List.take_left' rfl] at a1
  have e : vs.pop.toList = vs.toList.take ds.length := by
    rw [Array.toList_pop, List.dropLast_eq_take, Array.length_toList, hl]; rfl
  rw [e]; exact a1.chg ch
end
end Mine
end
section
open PySem PySem.W PyProof.Rows
set_option maxRecDepth 100000
set_option linter.unusedVariables false
namespace Mine
section
variable {prog : Program} {w : World} {A : Around} {E : Value → Shared → Prop} {s : Shared}
theorem nextOf_tuple_item {it t : Addr} {i : Nat} {items : Array Value} {x : Value} {Q : Value → Shared → Prop} (hit : s.heap.IsTupleIter it t i) (ht : s.heap.IsTuple t items) (hx : items[i]? = some x)
    (hQ : ∀ h', h'.IsTupleIter it t (i + 1) → Heap.SameBut it s.heap h' → Q x { s with heap := h' }) : wpAny (model prog w) A (Builtin.SmallTypes.nextOf (.ref it)) Q E s := by
  obtain ⟨o, ho, hc, hd⟩ := id hit
  obtain ⟨ol, hol, _, nl, hdl⟩ := ht
  unfold Builtin.SmallTypes.nextOf
  refine wpAny_bind (wpAny_callSpecial?_slot (name := Str.ofString "__next__") hit.typeIs F.slot_tuple_iterator_next (wpAny_call_entry F.slot_tuple_iterator_next hit.typeIs F.entry_tuple_iterator_next ?_ (F.args_tuple_iterator_next_1 _)))
  show wpAny _ _ (field (.ref it) 0 >>= _) _ _ s
  refine wpAny_bind (wpAny_field ho hd (x := .ref t) rfl ?_)
  show wpAny _ _ (if (Value.ref t == Value.none) = true then _ else _) _ _ s
  rw [if_neg (show ¬ ((Value.ref t == Value.none) = true) from Bool.false_ne_true)]
  show wpAny _ _ (field (.ref it) 1 >>= _) _ _ s
  refine wpAny_bind (wpAny_field ho hd (x := .int i 0) rfl ?_)
  show wpAny _ _ (seqItems? (.ref t) >>= _) _ _ s
  refine wpAny_bind (wpAny_seqItems hol hdl ?_)
  simp only [Int.toNat_natCast, hx]
  refine wpAny_bind (wpAny_setField ho hd (by simp) (wpAny_pure ⟨x, rfl, wpAny_pure (hQ _ ?_ (Heap.SameBut.update ..))⟩))
  exact ⟨_, Heap.get?_update_self _ ho (Obj.isFreed_of_fields (Obj.data_mapFields hd _)), (Obj.cls_mapFields ..).trans hc, by rw [Obj.data_mapFields hd]; simp [rawInt]⟩
theorem nextOf_tuple_end {it t : Addr} {i : Nat} {items : Array Value} {Q : Value → Shared → Prop} (hh : A.handled = none) (hit : s.heap.IsTupleIter it t i) (ht : s.heap.IsTuple t items) (hx : items[i]? = none)
    (hE : ∀ h' e, Heap.ExtBut it s.heap h' → (∃ o, h'.get? e = some o ∧ o.cls = .type "StopIteration") → E (.ref e) { s with heap := h' }) : wpAny (model prog w) A (Builtin.SmallTypes.nextOf (.ref it)) Q E s := by
  obtain ⟨o, ho, hc, hd⟩ := id hit
  obtain ⟨ol, hol, _, nl, hdl⟩ := ht
  unfold Builtin.SmallTypes.nextOf
  refine wpAny_bind (wpAny_callSpecial?_slot (name := Str.ofString "__next__") hit.typeIs F.slot_tuple_iterator_next (wpAny_call_entry F.slot_tuple_iterator_next hit.typeIs F.entry_tuple_iterator_next ?_ (F.args_tuple_iterator_next_1 _)))
  show wpAny _ _ (field (.ref it) 0 >>= _) _ _ s
  refine wpAny_bind (wpAny_field ho hd (x := .ref t) rfl ?_)
  show wpAny _ _ (if (Value.ref t == Value.none) = true then _ else _) _ _ s
  rw [if_neg (show ¬ ((Value.ref t == Value.none) = true) from Bool.false_ne_true)]
  show wpAny _ _ (field (.ref it) 1 >>= _) _ _ s
  refine wpAny_bind (wpAny_field ho hd (x := .int i 0) rfl ?_)
  show wpAny _ _ (seqItems? (.ref t) >>= _) _ _ s
  refine wpAny_bind (wpAny_seqItems hol hdl ?_)
  simp only [Int.toNat_natCast, hx]
  refine wpAny_bind (wpAny_rule (wpAny_bind (wpAny_setField ho hd (by simp) ?_)))
  show wpAny _ _ (newExc (.type "StopIteration") [] >>= _) _ _ _
  refine wpAny_bind ?_
  simp only [newExc, newTuple]
  refine wpAny_bind (wpAny_newObj_type ?_ (by size_fits))
  refine wpAny_bind (m := firstArgMember _ _) (wpAny_of_eq (a := Value.none) (by first | rfl | (simp only [firstArgMember]; rfl)) ?_)
  refine wpAny_newObj_type ?_ (by size_fits)
  simp only [raiseNew]
  refine wpAny_bind (wpAny_handled ?_)
  first | rw [show A.in1.handled = none from hh] | rw [hh]
  refine wpAny_bind (wpAny_pure (wpAny_throw ?_))
  exact hE _ _ (((Heap.SameBut.update ..).extBut.push _).push _) ⟨_, Heap.get?_push_size _ rfl, rfl⟩

theorem zipT_item {z TI TO i1 i2 l1 l2 : Addr} {k1 k2 : Nat} {xs ys : Array Value} {x y a b : Value} {Q : Value → Shared → Prop} (D : ZipApart z TI TO i1 i2 l1 l2)
    (hz : IsZip s.heap z TI TO .none) (hTI : IsPair s.heap TI (.ref i1) (.ref i2)) (hTO : IsPair s.heap TO a b)
    (h1 : s.heap.IsTupleIter i1 l1 k1) (h2 : s.heap.IsTupleIter i2 l2 k2) (hl1 : s.heap.IsTuple l1 xs) (hl2 : s.heap.IsTuple l2 ys) (hx : xs[k1]? = some x) (hy : ys[k2]? = some y)
    (hQ : ∀ h', IsZip h' z TI TO (rawInt s.heap.objs.size) → IsPair h' TO x y → h'.IsTupleIter i1 l1 (k1 + 1) → h'.IsTupleIter i2 l2 (k2 + 1) → IsPair h' s.heap.objs.size x y → h'.objs.size = s.heap.objs.size + 1 →
      (∀ c o, c ≠ z → c ≠ TO → c ≠ i1 → c ≠ i2 → s.heap.get? c = some o → h'.get? c = some o) → Q (.ref s.heap.objs.size) { s with heap := h' }) :
    wpAny (model prog w) A (Builtin.«zip.__next__» ⟨[.ref z], []⟩) (fun fin s' => ∃ v, fin = .done (.ret v) ∧ Q v s') E s := by
  show wpAny _ _ (field (.ref z) 2 >>= _) _ _ _
  refine wpAny_bind (wpAny_field hz rfl (x := .bool false) rfl ?_)
  show wpAny _ _ (field (.ref z) 3 >>= _) _ _ _
  refine wpAny_bind (wpAny_field hz rfl (x := .ref TI) rfl ?_)
  refine wpAny_bind (wpAny_seqItems hTI rfl ?_)
  show wpAny _ _ (Builtin.SmallTypes.ownedTupleIsFree (.ref z) >>= _) _ _ _
  refine wpAny_bind ?_
  unfold Builtin.SmallTypes.ownedTupleIsFree
  refine wpAny_bind (wpAny_field hz rfl (x := .none) rfl (wpAny_pure ?_))
  simp only [if_true]
  refine wpAny_bind (wpAny_rule ?_)
  refine wpAny_bind (wpAny_field hz rfl (x := .ref TO) rfl ?_)
  refine wpAny_bind (wpAny_setField_rec hz (by simp) fun h₁ hz₁ hs₁ => ?_)
  replace hz₁ : IsZip h₁ z TI TO .ellipsis := hz₁
  refine wpAny_bind ?_
  simp only [List.zipIdx_cons, List.zipIdx_nil, List.forIn_cons, List.forIn_nil]
  refine wpAny_bind (wpAny_bind (wpAny_onRaise ?_))
  show wpAny _ _ (Builtin.SmallTypes.nextOf (.ref i1) >>= _) _ _ _
  refine wpAny_bind (nextOf_tuple_item (h1.extBut hs₁.extBut D.i1z) (hl1.extBut hs₁.extBut D.l1z) hx fun h₂ h1₂ hs₂ => wpAny_pure ?_)
  have hTO₂ : IsPair h₂ TO a b := hs₂.extBut _ _ D.TOi1 (hs₁.extBut _ _ D.TOz hTO)
  refine wpAny_bind (wpAny_seqItems hTO₂ rfl ?_)
  refine wpAny_bind (wpAny_updateSeq_pair hTO₂ fun h₃ hTO₃ hs₃ => ?_)
  replace hTO₃ : IsPair h₃ TO x b := hTO₃
  refine wpAny_bind (wpAny_letGo (wpAny_pure ?_))
  refine wpAny_bind (wpAny_bind (wpAny_onRaise ?_))
  show wpAny _ _ (Builtin.SmallTypes.nextOf (.ref i2) >>= _) _ _ _
  refine wpAny_bind (nextOf_tuple_item (((h2.extBut hs₁.extBut D.i2z).extBut hs₂.extBut D.i12.symm).extBut hs₃.extBut D.TOi2.symm)
    (((hl2.extBut hs₁.extBut D.l2z).extBut hs₂.extBut D.l2i1).extBut hs₃.extBut D.l2TO) hy fun h₄ h2₄ hs₄ => wpAny_pure ?_)
  have hTO₄ : IsPair h₄ TO x b := hs₄.extBut _ _ D.TOi2 hTO₃
  refine wpAny_bind (wpAny_seqItems hTO₄ rfl ?_)
  refine wpAny_bind (wpAny_updateSeq_pair hTO₄ fun h₅ hTO₅ hs₅ => ?_)
  replace hTO₅ : IsPair h₅ TO x y := hTO₅
  refine wpAny_bind (wpAny_letGo (wpAny_pure (wpAny_pure ?_)))
  refine wpAny_bind (wpAny_seqItems hTO₅ rfl ?_)
  refine wpAny_bind (wpAny_newTuple ?_)
  have hsz : h₅.objs.size = s.heap.objs.size := by rw [hs₅.1, hs₄.1, hs₃.1, hs₂.1, hs₁.1]
  have hz₅ : IsZip h₅ z TI TO .ellipsis := hs₅.extBut _ _ D.TOz.symm (hs₄.extBut _ _ D.i2z.symm (hs₃.extBut _ _ D.TOz.symm (hs₂.extBut _ _ D.i1z.symm hz₁)))
  have hk₅ : ∀ c o, c ≠ z → c ≠ TO → c ≠ i1 → c ≠ i2 → s.heap.get? c = some o → h₅.get? c = some o := fun c o c1 c2 c3 c4 e =>
    hs₅.extBut _ _ c2 (hs₄.extBut _ _ c4 (hs₃.extBut _ _ c2 (hs₂.extBut _ _ c3 (hs₁.extBut _ _ c1 e))))
  have h1₅ : h₅.IsTupleIter i1 l1 (k1 + 1) := ((h1₂.extBut hs₃.extBut D.TOi1.symm).extBut hs₄.extBut D.i12).extBut hs₅.extBut D.TOi1.symm
  have h2₅ : h₅.IsTupleIter i2 l2 (k2 + 1) := h2₄.extBut hs₅.extBut D.TOi2.symm
  have hzlt : z < h₅.objs.size := Heap.lt_size hz₅
  show wpAny _ _ (Builtin.SmallTypes.ownedTupleHandOut (.ref z) (.ref h₅.objs.size) >>= _) _ _ _
  refine wpAny_bind ?_
  unfold Builtin.SmallTypes.ownedTupleHandOut
  have hz₆ : IsZip (h₅.push { cls := .type "tuple", data := .seq #[x, y] }) z TI TO .ellipsis := Heap.get?_push_of_some _ hz₅
  refine wpAny_bind (wpAny_setField_rec hz₆ (by simp) fun h₇ hz₇ hs₇ => ?_)
  replace hz₇ : IsZip h₇ z TI TO (rawInt h₅.objs.size) := hz₇
  refine wpAny_setField_rec hz₇ (by simp) fun h₈ hz₈ hs₈ => ?_
  replace hz₈ : IsZip h₈ z TI TO (rawInt h₅.objs.size) := hz₈
  have up : ∀ c o, c ≠ z → h₅.get? c = some o → h₈.get? c = some o := fun c o c1 e => hs₈.extBut _ _ c1 (hs₇.extBut _ _ c1 (Heap.get?_push_of_some _ e))
  have hT₈ : IsPair h₈ h₅.objs.size x y := hs₈.extBut _ _ (Nat.ne_of_gt hzlt) (hs₇.extBut _ _ (Nat.ne_of_gt hzlt) (Heap.get?_push_size _ rfl))
  have hz8 : h₈.objs.size = h₅.objs.size + 1 := by rw [hs₈.1, hs₇.1, Heap.size_push]
  rw [hsz] at hz₈ hT₈ hz8
  refine wpAny_pure ⟨_, rfl, ?_⟩
  show Q (.ref h₅.objs.size) _
  rw [hsz]
  exact hQ h₈ hz₈ (up _ _ D.TOz hTO₅) (h1₅.at fun o e => up _ o D.i1z e) (h2₅.at fun o e => up _ o D.i2z e) hT₈ hz8 fun c o c1 c2 c3 c4 e => up c o c1 (hk₅ c o c1 c2 c3 c4 e)

theorem zipT_end {z TI TO i1 i2 l1 l2 : Addr} {k1 : Nat} {xs : Array Value} {a b : Value} {Q : Fin → Shared → Prop} (hh : A.handled = none) (D : ZipApart z TI TO i1 i2 l1 l2)
    (hz : IsZip s.heap z TI TO .none) (hTI : IsPair s.heap TI (.ref i1) (.ref i2)) (hTO : IsPair s.heap TO a b)
    (h1 : s.heap.IsTupleIter i1 l1 k1) (hl1 : s.heap.IsTuple l1 xs) (hend : xs[k1]? = none)
    (hE : ∀ h' e, (∀ c o, c ≠ z → c ≠ TO → c ≠ i1 → c ≠ i2 → s.heap.get? c = some o → h'.get? c = some o) → (∃ o, h'.get? e = some o ∧ o.cls = .type "StopIteration") → E (.ref e) { s with heap := h' }) :
    wpAny (model prog w) A (Builtin.«zip.__next__» ⟨[.ref z], []⟩) Q E s := by
  show wpAny _ _ (field (.ref z) 2 >>= _) _ _ _
  refine wpAny_bind (wpAny_field hz rfl (x := .bool false) rfl ?_)
  show wpAny _ _ (field (.ref z) 3 >>= _) _ _ _
  refine wpAny_bind (wpAny_field hz rfl (x := .ref TI) rfl ?_)
  refine wpAny_bind (wpAny_seqItems hTI rfl ?_)
  show wpAny _ _ (Builtin.SmallTypes.ownedTupleIsFree (.ref z) >>= _) _ _ _
  refine wpAny_bind ?_
  unfold Builtin.SmallTypes.ownedTupleIsFree
  refine wpAny_bind (wpAny_field hz rfl (x := .none) rfl (wpAny_pure ?_))
  simp only [if_true]
  refine wpAny_bind (wpAny_rule ?_)
  refine wpAny_bind (wpAny_field hz rfl (x := .ref TO) rfl ?_)
  refine wpAny_bind (wpAny_setField_rec hz (by simp) fun h₁ hz₁ hs₁ => ?_)
  replace hz₁ : IsZip h₁ z TI TO .ellipsis := hz₁
  refine wpAny_bind ?_
  simp only [List.zipIdx_cons, List.zipIdx_nil, List.forIn_cons, List.forIn_nil]
  refine wpAny_bind (wpAny_bind (wpAny_onRaise ?_))
  show wpAny _ _ (Builtin.SmallTypes.nextOf (.ref i1) >>= _) _ _ _
  refine wpAny_bind (nextOf_tuple_end hh (h1.extBut hs₁.extBut D.i1z) (hl1.extBut hs₁.extBut D.l1z) hend fun h₂ e hs₂ he => ?_)
  obtain ⟨oe, hoe, hce⟩ := he
  have hz₂ : IsZip h₂ z TI TO .ellipsis := hs₂ _ _ D.i1z.symm hz₁
  have hez : e ≠ z := fun x => by subst x; rw [hz₂] at hoe; cases hoe; simp at hce
  exact wpAny_setField_rec hz₂ (by simp) fun h₃ _ hs₃ => hE h₃ e (fun c o c1 _ c3 _ x => hs₃.extBut _ _ c1 (hs₂ _ _ c3 (hs₁.extBut _ _ c1 x))) ⟨oe, hs₃.extBut _ _ hez hoe, hce⟩

theorem pyNext_zipT_item {z TI TO i1 i2 l1 l2 : Addr} {k1 k2 : Nat} {xs ys : Array Value} {x y a b : Value} {Q : Option Value → Shared → Prop} (D : ZipApart z TI TO i1 i2 l1 l2)
    (hz : IsZip s.heap z TI TO .none) (hTI : IsPair s.heap TI (.ref i1) (.ref i2)) (hTO : IsPair s.heap TO a b)
    (h1 : s.heap.IsTupleIter i1 l1 k1) (h2 : s.heap.IsTupleIter i2 l2 k2) (hl1 : s.heap.IsTuple l1 xs) (hl2 : s.heap.IsTuple l2 ys) (hx : xs[k1]? = some x) (hy : ys[k2]? = some y)
    (hQ : ∀ h', IsZip h' z TI TO (rawInt s.heap.objs.size) → IsPair h' TO x y → h'.IsTupleIter i1 l1 (k1 + 1) → h'.IsTupleIter i2 l2 (k2 + 1) → IsPair h' s.heap.objs.size x y → h'.objs.size = s.heap.objs.size + 1 →
      (∀ c o, c ≠ z → c ≠ TO → c ≠ i1 → c ≠ i2 → s.heap.get? c = some o → h'.get? c = some o) → Q (some (.ref s.heap.objs.size)) { s with heap := h' }) :
    wpAny (model prog w) A (pyNext (.ref z)) Q E s := by
  have hT : s.TypeIs (.ref z) "zip" := ⟨_, hz, rfl⟩
  unfold pyNext
  exact wpAny_bind (wpAny_attempt (wpAny_callSpecial?_slot (name := Str.ofString "__next__") hT F.slot_zip_next
    (wpAny_call_entry F.slot_zip_next hT F.entry_zip_next (zipT_item D hz hTI hTO h1 h2 hl1 hl2 hx hy fun h' a1 a2 a3 a4 a5 a6 a7 => wpAny_pure (hQ h' a1 a2 a3 a4 a5 a6 a7)) (F.args_zip_next_1 _))))
theorem pyNext_zipT_end {z TI TO i1 i2 l1 l2 : Addr} {k1 : Nat} {xs : Array Value} {a b : Value} {Q : Option Value → Shared → Prop} (hh : A.handled = none) (D : ZipApart z TI TO i1 i2 l1 l2)
    (hz : IsZip s.heap z TI TO .none) (hTI : IsPair s.heap TI (.ref i1) (.ref i2)) (hTO : IsPair s.heap TO a b) (h1 : s.heap.IsTupleIter i1 l1 k1) (hl1 : s.heap.IsTuple l1 xs) (hend : xs[k1]? = none)
    (hQ : ∀ h', (∀ c o, c ≠ z → c ≠ TO → c ≠ i1 → c ≠ i2 → s.heap.get? c = some o → h'.get? c = some o) → Q none { s with heap := h' }) : wpAny (model prog w) A (pyNext (.ref z)) Q E s := by
  have hT : s.TypeIs (.ref z) "zip" := ⟨_, hz, rfl⟩
  unfold pyNext
  refine wpAny_bind (wpAny_attempt (wpAny_callSpecial?_slot (name := Str.ofString "__next__") hT F.slot_zip_next
    (wpAny_call_entry F.slot_zip_next hT F.entry_zip_next (zipT_end hh D hz hTI hTO h1 hl1 hend fun h' e hk he => ?_) (F.args_zip_next_1 _))))
  obtain ⟨o, ho, hc⟩ := he
  refine wpAny_bind (wpAny_isInstance (T := "StopIteration") (b := true) ⟨o, ho, hc⟩ isSubtype_stop ?_)
  exact wpAny_pure (hQ _ hk)

abbrev zT1 (h : Heap) (l1 : Addr) : Heap := h.push { cls := .type "tuple_iterator", data := .fields #[.ref l1, .int 0 0] }
abbrev zT2 (h : Heap) (l1 l2 : Addr) : Heap := (zT1 h l1).push { cls := .type "tuple_iterator", data := .fields #[.ref l2, .int 0 0] }
abbrev zT3 (h : Heap) (l1 l2 : Addr) : Heap := (zT2 h l1 l2).push { cls := .type "tuple", data := .seq #[.ref h.objs.size, .ref (zT1 h l1).objs.size] }
abbrev zT4 (h : Heap) (l1 l2 : Addr) : Heap := (zT3 h l1 l2).push { cls := .type "tuple", data := .seq #[.none, .none] }
abbrev zT5 (h : Heap) (l1 l2 : Addr) : Heap := (zT4 h l1 l2).push { cls := .type "zip", data := .fields #[.none, .bool false, .bool false, .ref (zT2 h l1 l2).objs.size, .ref (zT3 h l1 l2).objs.size] }
theorem meets_zipT (l1 l2 : Addr) (xs ys : Array Value) :
    Meets (Builtin.«zip.__new__» ⟨[.type "zip", .ref l1, .ref l2], []⟩) (fun _ R s => s.heap.IsTuple l1 xs ∧ s.heap.IsTuple l2 ys ∧ R (.ok (.ret (.ref (zT4 s.heap l1 l2).objs.size))) { s with heap := zT5 s.heap l1 l2 }) :=
  .of_wp fun prog w A R s h => by
    obtain ⟨hp, g, d, tk, os⟩ := s; obtain ⟨hl1, hl2, h⟩ := h
    have hsub := sub_zip
    have hL1 : Heap.IsTuple (Shared.heap ⟨hp, g, d, tk, os⟩) l1 xs := hl1
    have hL2 : Heap.IsTuple (Shared.heap ⟨hp.push { cls := .type "tuple_iterator", data := .fields #[.ref l1, .int 0 0] }, g, d, tk, os⟩) l2 ys := by
      obtain ⟨o, ho, r⟩ := hl2; exact ⟨o, Heap.get?_push_of_some _ ho, r⟩
    wp_walk using wpAny_pyIter_tuple hL1, wpAny_pyIter_tuple hL2
    exact ⟨_, rfl, h⟩
theorem call_zipT {l1 l2 : Addr} {xs ys : Array Value} {Q : Value → Shared → Prop} (hl1 : s.heap.IsTuple l1 xs) (hl2 : s.heap.IsTuple l2 ys)
    (h : ∀ h', IsZip h' (s.heap.objs.size + 4) (s.heap.objs.size + 2) (s.heap.objs.size + 3) .none → IsPair h' (s.heap.objs.size + 2) (.ref s.heap.objs.size) (.ref (s.heap.objs.size + 1)) →
      IsPair h' (s.heap.objs.size + 3) .none .none → h'.IsTupleIter s.heap.objs.size l1 0 → h'.IsTupleIter (s.heap.objs.size + 1) l2 0 → h'.objs.size = s.heap.objs.size + 5 →
      (∀ c o, s.heap.get? c = some o → h'.get? c = some o) → Q (.ref (s.heap.objs.size + 4)) { s with heap := h' }) :
    wpAny (model prog w) A (call (.type "zip") [.ref l1, .ref l2]) Q E s := by
  refine callType_new F.called_zip (by decide) (F.typeCall_zip_2 _ _) (F.newCall_zip_2 _ _) (fun obj => F.args_object_init_3 obj _ _) F.entry_zip_new (meets_zipT l1 l2 xs ys) ⟨hl1, hl2, ?_⟩
  have z1 : (zT1 s.heap l1).objs.size = s.heap.objs.size + 1 := Heap.size_push ..
  have z2 : (zT2 s.heap l1 l2).objs.size = s.heap.objs.size + 2 := by rw [Heap.size_push, z1]
  have z3 : (zT3 s.heap l1 l2).objs.size = s.heap.objs.size + 3 := by rw [Heap.size_push, z2]
  have z4 : (zT4 s.heap l1 l2).objs.size = s.heap.objs.size + 4 := by rw [Heap.size_push, z3]
  have z5 : (zT5 s.heap l1 l2).objs.size = s.heap.objs.size + 5 := by rw [Heap.size_push, z4]
  have g5 : (zT5 s.heap l1 l2).get? (zT4 s.heap l1 l2).objs.size = some _ := Heap.get?_push_size _ rfl
  have g4 : (zT5 s.heap l1 l2).get? (zT3 s.heap l1 l2).objs.size = some _ := Heap.get?_push_of_some _ (Heap.get?_push_size _ rfl)
  have g3 : (zT5 s.heap l1 l2).get? (zT2 s.heap l1 l2).objs.size = some _ := Heap.get?_push_of_some _ (Heap.get?_push_of_some _ (Heap.get?_push_size _ rfl))
  have g2 : (zT5 s.heap l1 l2).get? (zT1 s.heap l1).objs.size = some _ := Heap.get?_push_of_some _ (Heap.get?_push_of_some _ (Heap.get?_push_of_some _ (Heap.get?_push_size _ rfl)))
  have g1 : (zT5 s.heap l1 l2).get? s.heap.objs.size = some _ := Heap.get?_push_of_some _ (Heap.get?_push_of_some _ (Heap.get?_push_of_some _ (Heap.get?_push_of_some _ (Heap.get?_push_size _ rfl))))
  show _ ∧ _
  rw [z2, z3, z4] at g5
  rw [z1, z2] at g3
  rw [z3] at g4
  rw [z1] at g2
  rw [z4]
  exact ⟨⟨_, g5, rfl⟩, h _ g5 g3 g4 ⟨_, g1, rfl, rfl⟩ ⟨_, g2, rfl, rfl⟩ z5 fun c o x => Heap.get?_push_of_some _ (Heap.get?_push_of_some _ (Heap.get?_push_of_some _ (Heap.get?_push_of_some _ (Heap.get?_push_of_some _ x))))⟩
end
theorem walks_zipT {prog : Program} {w : World} {A : Around} (hh : A.handled = none) (z TI TO i1 i2 l1 l2 : Addr) (D : ZipApart z TI TO i1 i2 l1 l2) (xs ys : Array Value) (hxy : xs.size = ys.size) :
    WalksU prog w A z [z, TI, TO, i1, i2, l1, l2] [z, TO, i1, i2] xs.size
      (fun i vals => ∃ x y, xs[i]? = some x ∧ ys[i]? = some y ∧ vals = #[x, y])
      (fun i h => IsZip h z TI TO .none ∧ IsPair h TI (.ref i1) (.ref i2) ∧ (∃ a b, IsPair h TO a b) ∧ h.IsTupleIter i1 l1 i ∧ h.IsTupleIter i2 l2 i ∧ h.IsTuple l1 xs ∧ h.IsTuple l2 ys)
      (fun i T h => IsZip h z TI TO (rawInt T) ∧ IsPair h TI (.ref i1) (.ref i2) ∧ (∃ a b, IsPair h TO a b) ∧ h.IsTupleIter i1 l1 (i + 1) ∧ h.IsTupleIter i2 l2 (i + 1) ∧ h.IsTuple l1 xs ∧ h.IsTuple l2 ys ∧ T ≠ z ∧ T ≠ TO ∧ T ≠ i1 ∧ T ≠ i2) where
  sub := fun c hc => by simp at hc ⊢; rcases hc with rfl | rfl | rfl | rfl <;> simp
  frame := fun i h h' hst hk => by
    obtain ⟨hz, hTI, ⟨a, b, hTO⟩, h1, h2, hl1, hl2⟩ := hst
    exact ⟨hk z (by simp) _ hz, hk TI (by simp) _ hTI, ⟨a, b, hk TO (by simp) _ hTO⟩, h1.at fun o e => hk i1 (by simp) o e, h2.at fun o e => hk i2 (by simp) o e,
      hl1.at fun o e => hk l1 (by simp) o e, hl2.at fun o e => hk l2 (by simp) o e⟩
  item := fun i s Q E hi hst hQ => by
    obtain ⟨hz, hTI, ⟨a, b, hTO⟩, h1, h2, hl1, hl2⟩ := hst
    have hiy : i < ys.size := hxy ▸ hi
    refine pyNext_zipT_item D hz hTI hTO h1 h2 hl1 hl2 (Array.getElem?_eq_getElem hi) (Array.getElem?_eq_getElem hiy) fun h' a1 a2 a3 a4 a5 a6 hk => ?_
    have lt : ∀ {c o}, s.heap.get? c = some o → s.heap.objs.size ≠ c := fun e => Nat.ne_of_gt (Heap.lt_size e)
    exact hQ s.heap.objs.size #[xs[i], ys[i]] h' s.toks ⟨_, _, Array.getElem?_eq_getElem hi, Array.getElem?_eq_getElem hiy, rfl⟩ ⟨_, a5, rfl, _, rfl⟩
      ⟨a1, hk _ _ D.TIz D.TITO D.TIi1 D.TIi2 hTI, ⟨_, _, a2⟩, a3, a4, hl1.at fun o e => hk _ o D.l1z D.l1TO D.l1i1 D.l1i2 e, hl2.at fun o e => hk _ o D.l2z D.l2TO D.l2i1 D.l2i2 e,
        lt hz, lt hTO, (by obtain ⟨_, e, _⟩ := h1; exact lt e), (by obtain ⟨_, e, _⟩ := h2; exact lt e)⟩
      fun c o hc e => hk c o (fun x => hc (by simp [x])) (fun x => hc (by simp [x])) (fun x => hc (by simp [x])) (fun x => hc (by simp [x])) e
  go := fun elts k pos i T s Q E hm hQ => by
    obtain ⟨hz, hTI, ⟨a, b, hTO⟩, h1, h2, hl1, hl2, _⟩ := hm
    refine wpAny_letOwnedTupleGo_zip hz fun h' hz' hs' => hQ h' ⟨hz', hs'.extBut _ _ D.TIz hTI, ⟨a, b, hs'.extBut _ _ D.TOz hTO⟩, h1.extBut hs'.extBut D.i1z, h2.extBut hs'.extBut D.i2z,
      hl1.extBut hs'.extBut D.l1z, hl2.extBut hs'.extBut D.l2z⟩ fun c o hc e => hs'.extBut _ _ (fun x => hc (by simp [x])) e
  apart := fun i T h hm hT => by
    obtain ⟨_, _, _, _, _, _, _, t1, t2, t3, t4⟩ := hm
    simp at hT
    rcases hT with rfl | rfl | rfl | rfl
    · exact t1 rfl
    · exact t2 rfl
    · exact t3 rfl
    · exact t4 rfl
  done := fun s Q E hst hQ => by
    obtain ⟨hz, hTI, ⟨a, b, hTO⟩, h1, h2, hl1, hl2⟩ := hst
    exact pyNext_zipT_end hh D hz hTI hTO h1 hl1 (Array.getElem?_eq_none (Nat.le_refl _)) fun h' hk => hQ h' s.toks fun c o hc e =>
      hk c o (fun x => hc (by simp [x])) (fun x => hc (by simp [x])) (fun x => hc (by simp [x])) (fun x => hc (by simp [x])) e
  self := fun i s Q E hst hQ => wpAny_pyIter_zip hst.1 hQ
end Mine
end
section
open PySem PySem.W PyProof.Rows
set_option maxRecDepth 100000
set_option linter.unusedVariables false
namespace Mine
/-- the code tables of the two generator expressions -/
structure Sites (c : Cx) : Prop where
  tab : ∀ x ∈ c.sites, (∃ ps, c.hB.TableAt x.1 x.2 ps) ∧ x.2 ≠ cStatics
  nd : ∀ x ∈ c.sites, ∀ y ∈ c.sites, x.2 = y.2 → x = y
  a41 : ∃ P, (41, P) ∈ c.sites
  a102 : ∃ P, (102, P) ∈ c.sites
section
variable {c : Cx} {O : Addr → Prop} {k : Nat} {env : Env} {ρ : List (Str × D)} {A : Around} {s : Shared}
theorem table_frail {h : Heap} {a P : Addr} {ps : Array Value} (t : h.TableAt a P ps) {o : Obj} (e : h.get? P = some o) : Frail o := by
  have := t.2.symm.trans e
  cases this; exact ⟨rfl, _, rfl⟩
theorem gen_code {env : Env} {pos : Pos} {q : Str} {scope : Scope} {cA P : Addr} {Q : Value → Shared → Prop} {E : Value → Shared → Prop} (SS : Sites c) (hm : (cA, P) ∈ c.sites) (hc : env.code = .ref cA) (S : St c s)
    (h : ∀ c' s', St c s' → Grow s.heap s'.heap → (∀ b o, c.hB.objs.size ≤ b → s.heap.get? b = some o → s'.heap.get? b = some o) → s.heap.objs.size ≤ s'.heap.objs.size → Q c' s') : wpAny (model c.prog c.w) A (genexprCode env pos q scope) Q E s := by
  obtain ⟨lP, ps, ic, ta, lc⟩ := S.tabs _ hm
  cases hf : codeAmong pos ps.toList with
  | some c' => exact wpAny_genexprCode_hit hc ic hf (h c' s S (Grow.refl _) (fun _ _ _ e => e) (Nat.le_refl _))
  | none =>
    refine wpAny_genexprCodeX hc ic ta hf fun c' h' tk hx h1 h2 hcode hrec htab _ => ?_
    have hz : s.heap.objs.size ≤ h'.objs.size := Nat.le_of_lt (Nat.lt_of_le_of_lt h1 h2)
    obtain ⟨⟨ps₀, t₀⟩, nP⟩ := SS.tab _ hm
    have g : Grow s.heap h' := ⟨hz, fun b o f e => by
      by_cases q : b = P
      · subst q; exact (f (table_frail ta e)).elim
      · exact hx b o q e⟩
    refine h _ _ ⟨S.low, Nat.le_trans S.n hz, S.old.step_table t₀ ta htab hx nP, S.grow.trans g, S.bare, S.os, fun x hx' => ?_⟩ g (fun b o lb e => hx b o (Nat.ne_of_gt (Nat.lt_of_lt_of_le lP lb)) e) hz
    by_cases q : x.2 = P
    · have := SS.nd _ hx' _ hm q
      subst this
      exact ⟨lP, _, hcode, htab, lc⟩
    · obtain ⟨lx, ps', ic', ta', lc'⟩ := S.tabs _ hx'
      have nc : x.1 ≠ P := fun e => by
        obtain ⟨⟨o, vs, e1, e2, _⟩, _⟩ := ta'
        rw [e] at e1
        have := table_frail ta e1
        rw [this.1] at e2; cases e2
      exact ⟨lx, ps', ic'.extBut hx nc q, ta'.extBut hx nc q, lc'⟩
theorem St.noLimit (H : c.Ok) (S : St c s) : s.heap.NoLimit := by
  obtain ⟨p', loose, mean, mg, mb, T⟩ := H.top
  obtain ⟨mc, hn, e⟩ := T.nolimit
  exact ⟨mc, ns_grow hn S.grow, e⟩
theorem gen_builtins {env : Env} {Q : Addr → Shared → Prop} {E : Value → Shared → Prop} (H : c.Ok) (hg : env.globals = mainGlobals) (hb : env.builtins = builtinsNs) (S : St c s) (h : Q builtinsNs s) : wpAny (model c.prog c.w) A (builtinsFor env.globals env.builtins) Q E s := by
  obtain ⟨p', loose, mean, mg, mb, T⟩ := H.top
  obtain ⟨bm, ob, h1, h2, h3, h4, h5, h6⟩ := T.bmain
  refine wpAny_builtinsFor (m := mg) (bm := bm) (o := ob) (by rw [hg]; exact ns_grow T.g S.grow) h1 h2 (S.grow.2 _ _ (not_frail_cls (by rw [h4]; nofun)) h3) h4 h5 h6 h
theorem isAll_of {h : Heap} : ∀ {ds : List D} {vs : List Value}, vs.length = ds.length → (∀ (i : Nat) d v, ds[i]? = some d → vs[i]? = some v → Is c O h d v) → IsAll c O h ds vs
  | [], [], _, _ => .nil
  | [], v :: vs, hl, _ => by cases hl
  | d :: ds, [], hl, _ => by cases hl
  | d :: ds, v :: vs, hl, hp => .cons (hp 0 d v rfl rfl) (isAll_of (by simpa using hl) fun i d' v' e1 e2 => hp (i + 1) d' v' (by simpa using e1) (by simpa using e2))
/-- a generator expression over pairs, made -/
theorem gen_make (H : c.Ok) (SS : Sites c) {cA P : Addr} (hm : (cA, P) ∈ c.sites) (hc : env.code = .ref cA) {elt iter : Expr} {xa xb : Str} {pa pb pt : Pos} {kt : Nat} {scope : Scope} {cl : List (Str × Addr)} {pos : Pos} {Q : Value → Shared → Prop} {E : Value → Shared → Prop}
    (R : Room k A) (hk : 1 ≤ k) (S : St c s) (ES : EnvS c env) (n : Nat) (F : Nat → Value → Prop)
    (hclos : closureFor scope env = pure cl) (h0 : scope.names.lookup (".0" : Str) = some NameKind.local) (hxa : scope.names.lookup xa = some .local) (hxb : scope.names.lookup xb = some .local)
    (hsc : (!scope.isCoroutine && scope.kind == .function && scope.names.all (fun y => y.2 != .cell) && decide (xa ≠ xb)) = true)
    (h : wpAny (model c.prog c.w) A (eval iter env) (fun xv s₁ => wpAny (model c.prog c.w) A (pyIter xv) (fun it s₂ => St c s₂ ∧ Grow s.heap s₂.heap ∧
        ∃ I fp wr Pt St₀ Mid, it = .ref I ∧ (∀ A' : Around, A'.handled = none → WalksU c.prog c.w A' I fp wr n Pt St₀ Mid) ∧ (∀ i vals, Pt i vals → ∃ va vb, vals = #[va, vb]) ∧ St₀ 0 s₂.heap ∧ (∀ b ∈ fp, ∃ o, s₂.heap.get? b = some o ∧ ¬ Frail o) ∧ (∀ b ∈ wr, s.heap.objs.size ≤ b) ∧
          (∀ (C : Addr) (code : Value) (A' : Around) E' i va vb (t : Shared) m₂, A'.handled = none → A'.depth ≤ A.depth + 1 → A'.units ≤ A.units + 8 → Pt i #[va, vb] → t.heap.Ns C m₂ → m₂ xa = some va → m₂ xb = some vb → Grow c.hB t.heap →
            wpAny (model c.prog c.w) A' (eval elt (genEnv scope cl C code builtinsNs env)) (fun y t' => F i y ∧ PySem.Keeps t t') E' t)) E s₁) E s)
    (hQ : ∀ a s', St c s' → Grow s.heap s'.heap → (∃ K, s.heap.objs.size ≤ K + 1 ∧ Gen c.prog c.w A K a n F s') → s.heap.objs.size ≤ a → Q (.ref a) s')
    (hs : ∀ x, genFold iter env x = pure x := by intro _; rfl) :
    wpAny (model c.prog c.w) A (eval (.GeneratorExp elt [⟨.Tuple [.Name xa pa, .Name xb pb] kt pt, iter, [], 0⟩] scope pos) env) Q E s := by
  simp only [Bool.and_eq_true, Bool.not_eq_true', beq_iff_eq, decide_eq_true_eq] at hsc
  obtain ⟨⟨⟨hco, hkind⟩, hcell⟩, hab⟩ := hsc
  have hcell' : ∀ y ∈ scope.names, y.2 ≠ .cell := fun y hy => by
    have := List.all_eq_true.mp hcell y hy
    simpa using this
  refine wpAny_GeneratorExp_walksQTD R.1 hco hclos hcell' h0 hxa hxb hab hkind R.depth (wpAny_mono h (fun xv s₁ h₁ => wpAny_mono h₁ (fun it s₂ h₂ => ?_) fun _ _ e => e) fun _ _ e => e) hs
  obtain ⟨S₂, g₂, I, fp, wr, Pt, St₀, Mid, rfl, W, hsz, hst, hfp, hwr, helt⟩ := h₂
  refine ⟨S₂.noLimit H, gen_code SS hm hc S₂ fun code s₃ S₃ g₃ k₃ z₃ => gen_builtins H ES.glob ES.bi S₃ ?_⟩
  have W0 := W A R.1
  refine ⟨I, fp, wr, n, Pt, St₀, Mid, fun _ => true, F, rfl, W, hsz, W0.frame 0 _ _ hst (fun b hb o e => let ⟨o', e', f⟩ := hfp b hb; g₃.2 b o (by rw [e'] at e; cases e; exact f) e), fun b hb => Nat.lt_of_lt_of_le (let ⟨o', e', f⟩ := hfp b hb; Heap.lt_size e') z₃, S₃.noLimit H, fun q => ?_, fun href hh => ⟨?_, ?_⟩, ?_⟩
  · have := hwr _ q
    have h3 : 3 ≤ s.heap.objs.size := Nat.le_trans S.low S.grow.1
    exact absurd (Nat.le_trans h3 this) (by decide)
  · intro A' E' i va vb t m₂ _ _ _ _ _ _ _ _
    exact wpAny_pure ⟨rfl, t.heap, t.toks, rfl, fun _ _ e => e⟩
  · intro A' E' i va vb t m₂ h1 h2 h3 h4 _ h5 h6 h7 h8
    refine helt _ code A' E' i va vb t m₂ h1 h2 h3 h4 h5 h6 h7 ⟨?_, fun b o f e => h8 b (List.mem_range.mpr (Nat.lt_of_lt_of_le (Heap.lt_size e) S₃.grow.1)) (fun q => ?_) o (hh b o (S₃.grow.2 b o f e))⟩
    · have a1 : s₃.heap.objs.size ≤ t.heap.objs.size := Nat.le_of_lt (by obtain ⟨o, _, _, ho, _⟩ := h5; exact Heap.lt_size ho)
      exact Nat.le_trans S₃.grow.1 a1
    · exact Nat.lt_irrefl _ (Nat.lt_of_lt_of_le (Heap.lt_size e) (Nat.le_trans S.grow.1 (hwr b q)))
  · intro a h₅ tk gs hgb hag hsz₅ hk₅ Wg hat
    have hz : s₃.heap.objs.size ≤ h₅.objs.size := by rw [hsz₅]; exact Nat.le_succ_of_le (Nat.le_of_lt hag)
    have S₅ : St c { s₃ with gens := s₃.gens.push gs, toks := tk, heap := h₅ } := S₃.step (fun b o _ e => hk₅ b o e) hz (S₃.bare.push hgb) rfl
    have g₅ : Grow s₃.heap h₅ := ⟨hz, fun b o _ e => hk₅ b o e⟩
    have sz : s.heap.objs.size ≤ s₃.heap.objs.size := Nat.le_trans g₂.1 z₃
    have ep : (passing (fun _ => true) n 0) = List.range n := by unfold passing; rw [List.drop_zero, List.filter_eq_self.mpr fun _ _ => rfl]
    refine hQ a _ S₅ ((g₂.trans g₃).trans g₅) ⟨s.heap.objs.size - 1, by omega, ?_⟩ (Nat.le_trans sz (Nat.le_of_lt hag))
    rw [ep] at Wg
    have W' : WalksS c.prog c.w A.in4 a (a :: s₃.heap.objs.size :: List.range s₃.heap.objs.size) (s₃.heap.objs.size :: wr) (GenOnlyQ s₃.gens.size) n F (GenAt c.prog c.w A.in4 a s₃.gens.size s₃.heap.objs.size (List.range s₃.heap.objs.size) wr (fun _ => true) n F) := by
      rw [List.length_range] at Wg
      refine { Wg with item := fun i s0 Q0 E0 hi st hq => Wg.item i s0 Q0 E0 hi st fun v s' hp st' mv => hq v s' ?_ st' mv }
      obtain ⟨j, hj, hf⟩ := hp
      rw [List.getElem?_range hi] at hj; cases hj; exact hf
    refine ⟨_, _, _, _, W', hat, fun i s' st => st.1.typeIs, List.mem_cons_self, ?_, ?_⟩
    · intro b hb
      show b < h₅.objs.size
      rw [hsz₅]
      rcases List.mem_cons.mp hb with rfl | hb
      · exact Nat.lt_succ_self _
      · rcases List.mem_cons.mp hb with rfl | hb
        · exact Nat.lt_succ_of_lt hag
        · exact Nat.lt_succ_of_lt (Nat.lt_trans (List.mem_range.mp hb) hag)
    · intro b hb
      have h3 : 3 ≤ s.heap.objs.size := Nat.le_trans S.low S.grow.1
      rcases List.mem_cons.mp hb with rfl | hb
      · exact Nat.lt_of_lt_of_le (Nat.sub_lt (Nat.lt_of_lt_of_le (by decide) h3) (by decide)) sz
      · exact Nat.lt_of_lt_of_le (Nat.sub_lt (Nat.lt_of_lt_of_le (by decide) h3) (by decide)) (hwr b hb)
theorem St.moved {s' : Shared} {wr : List Addr} {g : Nat} {N : Nat} (S : St c s) (hN : c.hB.objs.size ≤ N) (hwr : ∀ b ∈ wr, N ≤ b) (m : Moved wr (GenOnlyQ g) s s') (hz : s.heap.objs.size ≤ s'.heap.objs.size) : St c s' :=
  S.step (fun b o lb e => m.heap b o (fun q => Nat.lt_irrefl _ (Nat.lt_of_lt_of_le lb (Nat.le_trans hN (hwr b q)))) e) hz (S.bare.moved m.gens) m.os
end
end Mine
end
section
open PySem PySem.W PyProof.Rows
set_option maxRecDepth 100000
set_option linter.unusedVariables false
namespace Mine
theorem zipApart_new {N l1 l2 : Nat} (h1 : l1 < N) (h2 : l2 < N) : ZipApart (N + 4) (N + 2) (N + 3) N (N + 1) l1 l2 := by
  constructor <;> (intro e; have e' : (_ : Nat) = _ := e; omega)
section
variable {c : Cx} {O : Addr → Prop} {k : Nat} {env : Env} {ρ : List (Str × D)} {A : Around} {s : Shared}
theorem ints_at {h : Heap} {as : List Int} {vs : List Value} (i : IsAll c O h (intsD as) vs) {j : Nat} {v : Value} (e : vs[j]? = some v) : ∃ a t, as[j]? = some a ∧ v = .int a t := by
  obtain ⟨d, h1, h2⟩ := i.get' e
  unfold intsD at h1
  rw [List.getElem?_map, Option.map_eq_some_iff] at h1
  obtain ⟨a, h3, rfl⟩ := h1
  unfold Is at h2
  obtain ⟨t, rfl⟩ := h2
  exact ⟨a, t, h3, rfl⟩
theorem intsD_length (as : List Int) : (intsD as).length = as.length := by simp [intsD]
noncomputable def zipF (as bs : List Int) (j : Nat) (y : Value) : Prop := ∃ a b t, as[j]? = some a ∧ bs[j]? = some b ∧ y = .int (a + b) t
/-- tuple(i + j for i, j in zip(e1, e2)) -/
theorem ev_zipAdd (G : c.Good) (SS : Sites c) {cA P : Addr} (hm : (cA, P) ∈ c.sites) (hc : env.code = .ref cA) {e1 e2 : Expr} {as bs : List Int} {p pos zp zpos pi pj qi qj bp pt gp : Pos} {kt : Nat} {scope : Scope}
    (X : EvO c O (k + 1) env ρ e1 (.tuple (intsD as))) (Y : EvO c O (k + 1) env ρ e2 (.tuple (intsD bs))) (hl : as.length = bs.length) (hz : as.length ≤ 1000)
    (hx : env.kindOf "tuple" = some .globalImplicit) (hx' : env.kindOf "zip" = some .globalImplicit)
    (hclos : closureFor scope env = pure []) (h0 : scope.names.lookup (".0" : Str) = some NameKind.local) (hxa : scope.names.lookup ("i" : Str) = some .local) (hxb : scope.names.lookup ("j" : Str) = some .local)
    (hsc : (!scope.isCoroutine && scope.kind == .function && scope.names.all (fun y => y.2 != .cell) && decide (("i" : Str) ≠ "j")) = true)
    (hs : starEach [e1, e2] env = (false, eval e1 env) :: starEach [e2] env := by rfl) (hs' : starEach [e2] env = (false, eval e2 env) :: starEach [] env := by rfl) :
    EvO c O (k + 1) env ρ (.Call (.Name "tuple" p) [.GeneratorExp (.BinOp (.Name "i" pi) .Add (.Name "j" pj) bp) [⟨.Tuple [.Name "i" qi, .Name "j" qj] kt pt, .Call (.Name "zip" zp) [e1, e2] [] zpos, [], 0⟩] scope gp] [] pos)
      (.tuple (intsD (List.zipWith (· + ·) as bs))) := fun A s R S V => by
  show wpAny _ A (do callWith pos (← eval (.Name "tuple" p) env) [] (backTo pos (starEach [_] env)) []) _ _ s
  refine wpAny_bind (fnv_builtin G.ok V.1 (by rw [G.K]; kernel_rfl) boot_tuple' (by decide) hx (by decide) A s _ _ S ?_)
  refine callWith_type1 (Calls.spliced_cons (gen_make G.ok SS hm hc R (Nat.succ_le_succ (Nat.zero_le _)) S V.1 as.length (zipF as bs) hclos h0 hxa hxb hsc ?src ?fin))
  case src =>
    show wpAny _ A (do callWith zpos (← eval (.Name "zip" zp) env) [] (backTo zpos (starEach [e1, e2] env)) []) _ _ s
    refine wpAny_bind (fnv_builtin G.ok V.1 (by rw [G.K]; kernel_rfl) boot_zip (by decide) hx' (by decide) A s _ _ S ?_)
    refine callWith_type1 ?_ hs (by rw [hs']; rfl)
    rw [hs, hs']
    refine Calls.spliced_cons (X.use R S V fun v1 s1 S1 g1 i1 => Calls.spliced_cons (Y.use R S1 (V.grow g1) fun v2 s2 S2 g2 i2 => Calls.spliced_nil ?_))
    replace i1 := i1.grow g2
    unfold Is at i1 i2
    obtain ⟨l1, xs, n1, rfl, na1, ho1, r1⟩ := i1
    obtain ⟨l2, ys, n2, rfl, na2, ho2, r2⟩ := i2
    have lx : xs.size = as.length := by rw [← Array.length_toList, r1.length, intsD_length]
    have ly : ys.size = bs.length := by rw [← Array.length_toList, r2.length, intsD_length]
    have t1 : s2.heap.IsTuple l1 xs := ⟨_, ho1, rfl, n1, rfl⟩
    have t2 : s2.heap.IsTuple l2 ys := ⟨_, ho2, rfl, n2, rfl⟩
    refine call_zipT t1 t2 fun h' hz hTI hTO hi1 hi2 hsz hk => wpAny_pyIter_zip (f0 := .none) hz ?_
    have lt1 := Heap.lt_size ho1
    have lt2 := Heap.lt_size ho2
    have gg : Grow s2.heap h' := ⟨by rw [hsz]; exact Nat.le_add_right _ _, fun b o _ e => hk b o e⟩
    have low : s.heap.objs.size ≤ s2.heap.objs.size := Nat.le_trans g1.1 g2.1
    have W := fun A' (hA : Around.handled A' = none) => walks_zipT (prog := c.prog) (w := c.w) hA (s2.heap.objs.size + 4) (s2.heap.objs.size + 2) (s2.heap.objs.size + 3) s2.heap.objs.size (s2.heap.objs.size + 1) l1 l2 (zipApart_new lt1 lt2) xs ys (by rw [lx, ly, hl])
    rw [← lx]
    refine ⟨S2.keeps (fun b o e => hk b o e) gg.1 rfl rfl, (g1.trans g2).trans gg, _, _, _, _, _, _, rfl, W, fun i vals h => let ⟨x, y, _, _, e⟩ := h; ⟨x, y, e⟩, ⟨hz, hTI, ⟨_, _, hTO⟩, hi1, hi2, t1.at fun o e => hk _ o e, t2.at fun o e => hk _ o e⟩, fun b hb => ?_, fun b hb => ?_, ?_⟩
    · simp only [List.mem_cons, List.not_mem_nil, or_false] at hb
      rcases hb with rfl | rfl | rfl | rfl | rfl | rfl | rfl
      · exact ⟨_, hz, not_frail_cls nofun⟩
      · exact ⟨_, hTI, not_frail_cls nofun⟩
      · exact ⟨_, hTO, not_frail_cls nofun⟩
      · obtain ⟨o, ho, hcl, _⟩ := hi1; exact ⟨o, ho, not_frail_cls (by rw [hcl]; nofun)⟩
      · obtain ⟨o, ho, hcl, _⟩ := hi2; exact ⟨o, ho, not_frail_cls (by rw [hcl]; nofun)⟩
      · exact ⟨_, hk _ _ ho1, not_frail_cls nofun⟩
      · exact ⟨_, hk _ _ ho2, not_frail_cls nofun⟩
    · simp only [List.mem_cons, List.not_mem_nil, or_false] at hb
      rcases hb with rfl | rfl | rfl | rfl
      · exact Nat.le_trans low (Nat.le_add_right _ _)
      · exact Nat.le_trans low (Nat.le_add_right _ _)
      · exact low
      · exact Nat.le_trans low (Nat.le_add_right _ _)
    · rintro C code A' E' i va vb t m₂ hA hD hU ⟨x, y, hx, hy, e⟩ hn ha hb hg
      injection e with e
      injection e with e1 e
      injection e with e2 e
      subst e1 e2
      rw [← Array.getElem?_toList] at hx hy
      obtain ⟨a, u1, h1, rfl⟩ := ints_at r1 hx
      obtain ⟨b, u2, h2, rfl⟩ := ints_at r2 hy
      have kd : ∀ x : Str, scope.names.lookup x = some .local → (genEnv scope [] C code builtinsNs env).kindOf x = some .local := fun x h => h
      have ks : (genEnv scope [] C code builtinsNs env).scope.kind = .function := by
        simp only [Bool.and_eq_true, beq_iff_eq] at hsc; exact hsc.1.1.2
      refine wpAny_BinOp (wpAny_Name (wpAny_loadName_local ks (kd _ hxa) hn ha (wpAny_Name (wpAny_loadName_local ks (kd _ hxb) hn hb (wpAny_add_int ?_)))))
      exact ⟨⟨a, b, _, h1, h2, rfl⟩, t.heap, _, rfl, fun _ _ e => e⟩
  case fin =>
    intro a s5 S5 g5 hG ha
    obtain ⟨K, hK, fp, wr, g, St5, W, st, hT, hI, hfp, hwr⟩ := hG
    refine Calls.spliced_nil ?_
    have W3 : WalksS c.prog c.w A.in1.in1.in1 a fp wr (GenOnlyQ g) as.length (zipF as bs) St5 := W.in4_3
    refine wpAny_mono (wpAny_size (call_tuple_gen (Q := fun v s'' => ∃ s' acc, Moved wr (GenOnlyQ g) s5 s' ∧ ItemsOf (zipF as bs) acc as.length ∧ v = .ref s'.heap.objs.size ∧ s'' = { s' with heap := s'.heap.push { cls := .type "tuple", data := .seq acc } }) (E := F0) W3 hT st hfp hI (fun s' acc m it => ⟨s', acc, m, it, rfl, rfl⟩) (size_of hz))) (fun v s'' q => ?_) fun _ _ f => f.1
    obtain ⟨⟨s', acc, m, it, rfl, e⟩, hsz⟩ := q
    have m' : Moved wr (GenOnlyQ g) s5 s'' := by rw [e]; exact m.then_heap (Nat.le_refl _) fun b o _ e => Heap.get?_push_of_some _ e
    have hwr' : ∀ b ∈ wr, s.heap.objs.size ≤ b := fun b hb => Nat.le_trans hK (hwr b hb)
    have S'' : St c s'' := S5.moved S.grow.1 hwr' m' hsz
    refine ⟨S'', ⟨Nat.le_trans g5.1 hsz, fun b o f x => m'.heap b o (fun q => Nat.lt_irrefl _ (Nat.lt_of_lt_of_le (Heap.lt_size x) (hwr' b q))) (g5.2 b o f x)⟩, ?_⟩
    have at_ : s''.heap.get? s'.heap.objs.size = some { cls := .type "tuple", data := .seq acc } := by rw [e]; exact Heap.get?_push_size _ rfl
    unfold Is
    refine ⟨_, acc, 0, rfl, fun q => ?_, at_, isAll_of ?_ fun i d v h1 h2 => ?_⟩
    · have hlt := V.2.1 _ q
      have h1 := Nat.lt_of_le_of_lt ha (hfp a hI)
      have h2 : s''.heap.objs.size = s'.heap.objs.size + 1 := by rw [e]; exact Heap.size_push ..
      exact Nat.lt_irrefl _ (Nat.lt_of_lt_of_le hlt (Nat.le_of_lt_succ (Nat.lt_of_lt_of_le h1 (Nat.le_trans hsz (Nat.le_of_eq h2)))))
    · rw [Array.length_toList, it.1, intsD_length, List.length_zipWith, ← hl, Nat.min_self]
    · rw [Array.getElem?_toList] at h2
      obtain ⟨x, y, t, h3, h4, rfl⟩ := it.2 i v h2
      unfold intsD at h1
      rw [List.getElem?_map, List.getElem?_zipWith, h3, h4] at h1
      cases h1
      unfold Is; exact ⟨_, rfl⟩
end
end Mine
end
section
open PySem PySem.W PyProof.Rows
set_option maxRecDepth 100000
set_option linter.unusedVariables false
namespace Mine
mutual
noncomputable def D.old : D → D
  | .none => .none
  | .bool b => .bool b
  | .int i => .int i
  | .str s => .str s
  | .list l => .list (D.olds l)
  | .tuple l => .tuple (D.olds l)
  | .dict l => .dict (D.oldKv l)
  | .ndict l => .dict (D.oldKv l)
  | .any P => .any P
  | .pile l => .pile (D.olds l)
noncomputable def D.olds : List D → List D
  | [] => []
  | d :: r => d.old :: D.olds r
noncomputable def D.oldKv : List (Str × D) → List (Str × D)
  | [] => []
  | (k, d) :: r => (k, d.old) :: D.oldKv r
end
theorem oldKv_map : ∀ l : List (Str × D), D.oldKv l = l.map fun p => (p.1, p.2.old)
  | [] => by simp [D.oldKv]
  | (k, d) :: r => by simp [D.oldKv, oldKv_map r]
section
variable {c : Cx} {O : Addr → Prop} {h : Heap}
mutual
theorem Is.old : ∀ (d : D) (v : Value), Is c O h d v → Is c O h d.old v
  | .none, v, x => by unfold D.old; exact x
  | .bool b, v, x => by unfold D.old; exact x
  | .int b, v, x => by unfold D.old; exact x
  | .str b, v, x => by unfold D.old; exact x
  | .any b, v, x => by unfold D.old; exact x
  | .pile ds, v, x => by
    unfold D.old; unfold Is at *
    obtain ⟨a, d, o, vs, n, e, na, ho, h1, r⟩ := x
    exact ⟨a, d, o, vs, n, e, na, ho, h1, IsAll.old ds _ r⟩
  | .list ds, v, x => by
    unfold D.old; unfold Is at *
    obtain ⟨a, vs, n, e, na, ho, r⟩ := x
    exact ⟨a, vs, n, e, na, ho, IsAll.old ds _ r⟩
  | .tuple ds, v, x => by
    unfold D.old; unfold Is at *
    obtain ⟨a, vs, n, e, na, ho, r⟩ := x
    exact ⟨a, vs, n, e, na, ho, IsAll.old ds _ r⟩
  | .dict ds, v, x => by
    unfold D.old; unfold Is at *
    obtain ⟨a, kvs, ep, e, na, ho, r⟩ := x
    exact ⟨a, kvs, ep, e, na, ho, IsKv.old ds _ r⟩
  | .ndict ds, v, x => by
    unfold D.old; unfold Is at *
    obtain ⟨a, kvs, ep, e, na, ho, r⟩ := x
    exact ⟨a, kvs, ep, e, ⟨na.1.1, na.2⟩, ho, IsKv.old ds _ r⟩
theorem IsAll.old : ∀ (ds : List D) (vs : List Value), IsAll c O h ds vs → IsAll c O h (D.olds ds) vs
  | [], vs, x => by unfold D.olds; exact x
  | d :: ds, vs, x => by
    unfold D.olds; unfold IsAll at *
    obtain ⟨v, r, e, a, b⟩ := x
    exact ⟨v, r, e, Is.old d v a, IsAll.old ds r b⟩
theorem IsKv.old : ∀ (ds : List (Str × D)) (vs : List (Str × Value)), IsKv c O h ds vs → IsKv c O h (D.oldKv ds) vs
  | [], vs, x => by unfold D.oldKv; exact x
  | (k, d) :: ds, vs, x => by
    unfold D.oldKv; unfold IsKv at *
    obtain ⟨v, r, e, a, b⟩ := x
    exact ⟨v, r, e, Is.old d v a, IsKv.old ds r b⟩
end
end
section
variable {c : Cx} {O : Addr → Prop} {k : Nat} {env : Env} {ρ : List (Str × D)} {A : Around} {s : Shared} {b : Blk} {ω : OL}
theorem EvO.old {e : Expr} {d : D} (X : EvO c O k env ρ e d) : EvO c O k env ρ e d.old := fun A s R S V => wpAny_mono (X A s R S V) (fun v s' q => ⟨q.1, q.2.1, Is.old _ _ q.2.2⟩) fun _ _ f => f
theorem EvO.old' {e : Expr} {d d' : D} (X : EvO c O k env ρ e d) (h : d.old = d') : EvO c O k env ρ e d' := h ▸ X.old
/-- an owned dict becomes a datum that is new -/
theorem Sx.giveN (x : Sx c env b ρ ω s) (hn : c.n ≤ b.h₀.objs.size) (y : Str) {a : Addr} {l : List (Str × D)} (hm : ω.lookup y = some (a, .dict l) := by rfl) (ha : anon y = false := by decide) : Sx c env b ((y, .ndict l) :: ρ) (odel ω y) s := by
  obtain ⟨lv, F, B, W⟩ := id x.ex
  have hm' := lookup_mem hm
  have sub1 : ∀ z, OX b.X (odel ω y) z → OX b.X ω z := fun z q => q.imp id fun ⟨w, hw, e⟩ => ⟨w, (List.mem_filter.mp hw).1, e⟩
  have na : ¬ OX b.X (odel ω y) a := fun q => by
    rcases q with q | ⟨w, hw, e⟩
    · exact (x.mine _ hm').1 q
    · obtain ⟨h1, h2⟩ := List.mem_filter.mp hw
      have e' := nd_uniq x.nd h1 hm' (.inr e)
      subst e'
      simp at h2
  refine ⟨⟨lv, F.owns sub1 x.fr', fun z d' e => ?_, fun w hw => ?_⟩, x.nd.filter _, fun w hw => x.mine w (List.mem_filter.mp hw).1, x.fr, x.chg⟩
  · rw [List.lookup_cons] at e
    cases q : z == y with
    | true =>
      rw [q] at e; cases e; rw [beq_iff_eq.mp q]
      obtain ⟨h1, kvs, ep, ho, kv⟩ := (W _ hm').2
      exact ⟨_, (W _ hm').1.resolve_left (by rw [ha]; nofun), by unfold Is; exact ⟨a, kvs, ep, rfl, ⟨⟨h1, Nat.le_trans hn (x.mine _ hm').2.1⟩, na⟩, ho, kv.sub sub1⟩⟩
    | false =>
      rw [q] at e
      obtain ⟨v, e1, i⟩ := B z d' e
      exact ⟨v, e1, i.sub sub1⟩
  · have := W w (List.mem_filter.mp hw).1
    exact ⟨this.1, this.2.sub sub1⟩
/-- a body that gives a datum; what is new in it -/
theorem fn_sxN (H : c.Ok) {f : Addr} {fd : FuncData} {body : List Stmt} {xs : List Str} {ds : List D} {r : D} (Df : DefAt c f fd body xs) (hl : ds.length = xs.length)
    (h : ∀ (X : Addr → Prop) A s h₀, c.n ≤ h₀.objs.size → Room k A → Sx c (callEnvC fd h₀.objs.size f) ⟨h₀, X, fun _ => False, h₀⟩ (xs.zip ds) [] s →
      wpAny (model c.prog c.w) A (execs body (callEnvC fd h₀.objs.size f)) (fun fl s' => ∃ v, fl = .ret v ∧ St c s' ∧ Grow h₀ s'.heap ∧ Is c X s'.heap r v) F0 s) : FnO c (k + 1) f ds r := fun O A s vs R S ow i => by
  refine fn_enter H Df R S ow (by rw [i.length, hl]) fun s₁ env lv he R' F hb hk => ?_
  subst he
  generalize he : callEnvC fd s.heap.objs.size f = env at *
  have B : Bd c (Fo O env) lv s₁.heap (xs.zip ds) := fun x d e => by
    obtain ⟨v, m, z⟩ := zip_get i e
    refine ⟨v, hb x v m, ?_⟩
    exact Is.mono (fun a q => q.imp id fun q => F.above a q) (fun b o _ f e => hk b o e) _ _ (Is.up (Nat.le_refl _) _ _ z)
  have e1 : ∀ a, OX (Fo O env) [] a → Fo O env a := fun a q => q.elim id fun ⟨w, hw, _⟩ => nomatch hw
  have hh := h (Fo O env) (A.deeper env) s₁ s.heap S.n R' (by rw [he]; exact ⟨⟨lv, F.owns e1 fun a q => .inl (F.fr a q), B.sub e1, fun w hw => nomatch hw⟩, List.Pairwise.nil, (fun w hw => nomatch hw), fun a q => ⟨F.fr a q, .inr (F.above a q)⟩, F.grow.chg⟩)
  rw [he] at hh
  refine wpAny_mono hh (fun fl s' q => ?_) fun _ _ f => f
  obtain ⟨v, rfl, S', g, z⟩ := q
  exact ⟨S', g, z.sub fun a q => .inl q⟩
end
end Mine
end
section
open PySem PySem.W PyProof.Rows
set_option maxRecDepth 100000
set_option linter.unusedVariables false
namespace Mine
section
variable {α : Type}
noncomputable def addStepG (f : α → α → α) (acc : List (Str × α)) (p : Str × α) : List (Str × α) := match dget acc p.1 with
  | some old => dput acc p.1 (f old p.2)
  | none => dput acc p.1 p.2
noncomputable def putAllG (l : List (Str × α)) : List (Str × α) := l.foldl (fun acc p => dput acc p.1 p.2) []
noncomputable def addG (f : α → α → α) (t s : List (Str × α)) : List (Str × α) := s.foldl (addStepG f) (putAllG t)
theorem putAllG_succ {t : List (Str × α)} {i : Nat} {p : Str × α} (h : t[i]? = some p) : putAllG (t.take (i + 1)) = dput (putAllG (t.take i)) p.1 p.2 := foldl_take_succ h
theorem addG_succ {f : α → α → α} {t s : List (Str × α)} {i : Nat} {p : Str × α} (h : s[i]? = some p) : addG f t (s.take (i + 1)) = addStepG f (addG f t (s.take i)) p := foldl_take_succ h
theorem putAllG_length (t : List (Str × α)) : (putAllG t).length ≤ t.length := by
  have := fold_len (f := fun (acc : List (Str × α)) (p : Str × α) => dput acc p.1 p.2) (fun b a => dput_length b a.1 a.2) t []
  simpa [putAllG] using this
theorem addG_length (f : α → α → α) (t s : List (Str × α)) : (addG f t s).length ≤ t.length + s.length := by
  have := fold_len (f := addStepG f) (fun b a => by unfold addStepG; split <;> exact dput_length _ _ _) s (putAllG t)
  have := putAllG_length t
  unfold addG; omega
end
noncomputable def encD {α : Type} (enc : α → D) (l : List (Str × α)) : List (Str × D) := l.map fun p => (p.1, enc p.2)
theorem encD_put {α : Type} (enc : α → D) (l : List (Str × α)) (x : Str) (v : α) : dput (encD enc l) x (enc v) = encD enc (dput l x v) := dput_map enc l x v
theorem encD_get {α : Type} (enc : α → D) (l : List (Str × α)) (x : Str) : dget (encD enc l) x = (dget l x).map enc := dget_map enc l x
theorem encD_at {α : Type} {enc : α → D} {l : List (Str × α)} {i : Nat} {u : Str × D} (h : (encD enc l)[i]? = some u) : ∃ p, l[i]? = some p ∧ u = (p.1, enc p.2) := by
  unfold encD at h; rw [List.getElem?_map, Option.map_eq_some_iff] at h
  obtain ⟨p, h1, h2⟩ := h; exact ⟨p, h1, h2.symm⟩
theorem encD_length {α : Type} (enc : α → D) (l : List (Str × α)) : (encD enc l).length = l.length := by simp [encD]
noncomputable def iadd (old new : Int) : Int := old + new
noncomputable def qadd (old new : Q4) : Q4 := (new.1 + old.1, new.2.1 + old.2.1, new.2.2.1 + old.2.2.1, new.2.2.2 + old.2.2.2)
/-- add_callers on ints -/
theorem addT_ok {c : Cx} (G : c.Good) {k : Nat} (t s : Tab) (ht : t.length ≤ 400) (hs : s.length ≤ 400) : FnO c (k + 1) 42 [.dict (tabD t), .dict (tabD s)] (.ndict (tabD (addG iadd t s))) :=
  fn_sxN G.ok (def_add_callers G) rfl fun X A st h₀ hn R x => by
    have et : ∀ l : Tab, tabD l = encD D.int l := fun _ => rfl
    simp only [et] at x ⊢
    refine sx_seq (sx_newDict x fun s1 a x1 => ?_)
    refine sx_seq (sx_forItems (t := encD D.int t) (fun i => [("target", .dict (encD D.int t)), ("source", .dict (encD D.int s))]) (fun i => [("new_callers", a, .dict (encD D.int (putAllG (t.take i))))])
      (it_items (ev_name (by kernel_rfl) rfl) _) R x1 ⟨rfl, rfl, trivial⟩ rfl (fun i => rfl) (fun i u hu X Y hb s2 x2 => ?_) fun s2 x2 => ?_)
    · obtain ⟨p, hp, rfl⟩ := encD_at hu
      refine sx_seq (sx_setDict (EvO.sx (ev_name (by kernel_rfl) rfl)) (EvO.sx (ev_name (by kernel_rfl) rfl)) R x2 rfl ?_ fun s3 x3 => sx_end x3 ⟨rfl, rfl, trivial⟩ ?_)
      · have := putAllG_length (t.take i); rw [List.length_take] at this; rw [encD_length]; omega
      · rw [putAllG_succ hp, ← encD_put]; rfl
    · rw [encD_length, List.take_length] at x2
      refine sx_seq (sx_forItems (t := encD D.int s) (fun i => [("source", .dict (encD D.int s))]) (fun i => [("new_callers", a, .dict (encD D.int (addG iadd t (s.take i))))])
        (it_items (ev_name (by kernel_rfl) rfl) _) R x2 ⟨rfl, trivial⟩ rfl (fun i => rfl) (fun i u hu X Y hb s3 x3 => ?_) fun s3 x3 => ?_)
      · obtain ⟨p, hp, rfl⟩ := encD_at hu
        have hz : (encD D.int (addG iadd t (s.take i))).length ≤ 1000 := by have := addG_length iadd t (s.take i); rw [List.length_take] at this; rw [encD_length]; omega
        refine sx_seq (sx_if (TrO.sxl (tr_cmp (ev_name (by kernel_rfl) rfl) (ev_name (by kernel_rfl) rfl) cm_inDict)) R x3 (fun hq s4 x4 => ?_) fun hq s4 x4 => ?_)
        · rw [encD_get, Option.isSome_map] at hq
          obtain ⟨o, ho⟩ := Option.isSome_iff_exists.mp hq
          refine sx_seq (sx_if (TrO.sx (tr_ev (ev_isTuple G (ev_name (by kernel_rfl) rfl) (.inl ⟨_, rfl⟩) (by kernel_rfl) (by kernel_rfl)))) R x4 (fun hq s5 x5 => ?_) fun hq s5 x5 => ?_)
          · cases hq
          · refine sx_seq (sx_augDict (EvO.sx (ev_name (by kernel_rfl) rfl)) (EvO.sx (ev_name (by kernel_rfl) rfl)) R x5 rfl hz (by rw [encD_get, ho]; rfl) fun s6 x6 => wpAny_execs_nil (wpAny_execs_nil (sx_end x6 ⟨rfl, trivial⟩ ?_)))
            rw [addG_succ hp]; unfold addStepG; rw [ho]; show _ = [_]; rw [← encD_put]; rfl
        · have ho : dget (addG iadd t (s.take i)) p.1 = none := by rw [encD_get, Option.isSome_map] at hq; simpa using hq
          refine sx_seq (sx_setDict (EvO.sx (ev_name (by kernel_rfl) rfl)) (EvO.sx (ev_name (by kernel_rfl) rfl)) R x4 rfl hz fun s5 x5 => wpAny_execs_nil (sx_end x5 ⟨rfl, trivial⟩ ?_))
          rw [addG_succ hp]; unfold addStepG; rw [ho]; show _ = [_]; rw [← encD_put]; rfl
      · rw [encD_length, List.take_length] at x3
        exact sx_ret (EvO.sx (ev_name (by kernel_rfl) rfl)) R (x3.giveN hn "new_callers")
/-- add_callers on rows of four ints -/
theorem addQ_ok {c : Cx} (G : c.Good) (SS : Sites c) {k : Nat} (t s : List (Str × Q4)) (ht : t.length ≤ 400) (hs : s.length ≤ 400) : FnO c (k + 2) 42 [.dict (callersD t), .dict (callersD s)] (.ndict (callersD (addG qadd t s))) :=
  fn_sxN G.ok (def_add_callers G) rfl fun X A st h₀ hn R x => by
    obtain ⟨P, hP⟩ := SS.a41
    have et : ∀ l, callersD l = encD q4D l := fun _ => rfl
    simp only [et] at x ⊢
    refine sx_seq (sx_newDict x fun s1 a x1 => ?_)
    refine sx_seq (sx_forItems (t := encD q4D t) (fun i => [("target", .dict (encD q4D t)), ("source", .dict (encD q4D s))]) (fun i => [("new_callers", a, .dict (encD q4D (putAllG (t.take i))))])
      (it_items (ev_name (by kernel_rfl) rfl) _) R x1 ⟨rfl, rfl, trivial⟩ rfl (fun i => rfl) (fun i u hu X Y hb s2 x2 => ?_) fun s2 x2 => ?_)
    · obtain ⟨p, hp, rfl⟩ := encD_at hu
      refine sx_seq (sx_setDict (EvO.sx (ev_name (by kernel_rfl) rfl)) (EvO.sx (ev_name (by kernel_rfl) rfl)) R x2 rfl ?_ fun s3 x3 => sx_end x3 ⟨rfl, rfl, trivial⟩ ?_)
      · have := putAllG_length (t.take i); rw [List.length_take] at this; rw [encD_length]; omega
      · rw [putAllG_succ hp, ← encD_put]; rfl
    · rw [encD_length, List.take_length] at x2
      refine sx_seq (sx_forItems (t := encD q4D s) (fun i => [("source", .dict (encD q4D s))]) (fun i => [("new_callers", a, .dict (encD q4D (addG qadd t (s.take i))))])
        (it_items (ev_name (by kernel_rfl) rfl) _) R x2 ⟨rfl, trivial⟩ rfl (fun i => rfl) (fun i u hu X Y hb s3 x3 => ?_) fun s3 x3 => ?_)
      · obtain ⟨p, hp, rfl⟩ := encD_at hu
        have hz : (encD q4D (addG qadd t (s.take i))).length ≤ 1000 := by have := addG_length qadd t (s.take i); rw [List.length_take] at this; rw [encD_length]; omega
        refine sx_seq (sx_if (TrO.sxl (tr_cmp (ev_name (by kernel_rfl) rfl) (ev_name (by kernel_rfl) rfl) cm_inDict)) R x3 (fun hq s4 x4 => ?_) fun hq s4 x4 => ?_)
        · rw [encD_get, Option.isSome_map] at hq
          obtain ⟨o, ho⟩ := Option.isSome_iff_exists.mp hq
          refine sx_seq (sx_if (TrO.sx (tr_ev (ev_isTuple G (ev_name (by kernel_rfl) rfl) (.inr ⟨_, rfl⟩) (by kernel_rfl) (by kernel_rfl)))) R x4 (fun hq s5 x5 => ?_) fun hq s5 x5 => ?_)
          · refine sx_seq (sx_setDict (d := q4D (qadd o p.2)) (EvO.sxl (EvO.as (ev_zipAdd G SS hP (by kernel_rfl) (as := [p.2.1, p.2.2.1, p.2.2.2.1, p.2.2.2.2]) (bs := [o.1, o.2.1, o.2.2.1, o.2.2.2]) (ev_name (by kernel_rfl) rfl) (ev_item_dict (ev_name (by kernel_rfl) rfl) (ev_name (by kernel_rfl) rfl) (by rw [encD_get, ho]; rfl)) rfl (by simp) (by kernel_rfl) (by kernel_rfl) (by kernel_rfl) (by kernel_rfl) (by kernel_rfl) (by kernel_rfl) (by kernel_rfl)) rfl) rfl)
              (EvO.sx (ev_name (by kernel_rfl) rfl)) R x5 rfl hz fun s6 x6 => wpAny_execs_nil (wpAny_execs_nil (sx_end x6 ⟨rfl, trivial⟩ ?_)))
            rw [addG_succ hp]; unfold addStepG; rw [ho]; show _ = [_]; rw [← encD_put]; rfl
          · cases hq
        · have ho : dget (addG qadd t (s.take i)) p.1 = none := by rw [encD_get, Option.isSome_map] at hq; simpa using hq
          refine sx_seq (sx_setDict (EvO.sx (ev_name (by kernel_rfl) rfl)) (EvO.sx (ev_name (by kernel_rfl) rfl)) R x4 rfl hz fun s5 x5 => wpAny_execs_nil (sx_end x5 ⟨rfl, trivial⟩ ?_))
          rw [addG_succ hp]; unfold addStepG; rw [ho]; show _ = [_]; rw [← encD_put]; rfl
      · rw [encD_length, List.take_length] at x3
        exact sx_ret (EvO.sx (ev_name (by kernel_rfl) rfl)) R (x3.giveN hn "new_callers")
end Mine
end
section
open PySem PySem.W PyProof.Rows
set_option maxRecDepth 100000
set_option linter.unusedVariables false
namespace Mine
noncomputable def entryN (e : Entry) : D := .tuple [.int e.1.1, .int e.1.2.1, .int e.1.2.2.1, .int e.1.2.2.2, .ndict (callersD e.2)]
noncomputable def stat (old new : Entry) : Entry := (qadd old.1 new.1, addG qadd old.2 new.2)
noncomputable def entryDs (e : Entry) : List D := [.int e.1.1, .int e.1.2.1, .int e.1.2.2.1, .int e.1.2.2.2, .dict (callersD e.2)]
theorem stats_ok {c : Cx} (G : c.Good) (SS : Sites c) {k : Nat} (old new : Entry) (ho : old.2.length ≤ 400) (hn : new.2.length ≤ 400) : FnO c (k + 3) 35 [entryD old, entryD new] (entryN (stat old new)) :=
  fn_sx G.ok (def_add_func_stats G) rfl fun X A st h₀ R x => by
    refine sx_seq (sx_unpack (ds := entryDs new) (EvO.sx (ev_name (by kernel_rfl) rfl)) R x (.cons (.cons (.cons (.cons (.cons .nil))))) rfl fun s1 x1 => ?_)
    refine sx_seq (sx_unpack (ds := entryDs old) (EvO.sx (ev_name (by kernel_rfl) rfl)) R x1 (.cons (.cons (.cons (.cons (.cons .nil))))) rfl fun s2 x2 => ?_)
    refine sx_ret (EvO.sx (ev_tuple (evs_cons (ev_add (ev_name (by kernel_rfl) rfl) (ev_name (by kernel_rfl) rfl)) (evs_cons (ev_add (ev_name (by kernel_rfl) rfl) (ev_name (by kernel_rfl) rfl)) (evs_cons (ev_add (ev_name (by kernel_rfl) rfl) (ev_name (by kernel_rfl) rfl)) (evs_cons (ev_add (ev_name (by kernel_rfl) rfl) (ev_name (by kernel_rfl) rfl)) (evs_cons (ev_callD G (def_add_callers G) (evs_cons (ev_name (by kernel_rfl) rfl) (evs_cons (ev_name (by kernel_rfl) rfl) evs_nil)) (addQ_ok G SS old.2 new.2 ho hn) (by rw [G.K]; kernel_rfl) (by kernel_rfl)) evs_nil))))))) R x2
end Mine
end
section
open PySem PySem.W PyProof.Rows
set_option maxRecDepth 100000
set_option linter.unusedVariables false
namespace Mine
section
variable {c : Cx} {env : Env} {b : Blk} {k : Nat} {ρ : List (Str × D)} {ω : OL} {A : Around} {s s' : Shared}
/-- [..] made as a thing of the frame's own -/
theorem sx_evNewList {es : List Expr} {pos : Pos} {ds : List D} (nm : Str) {Q : Value → Shared → Prop} (X : EvAll c (OX b.X ω) k env ρ pos es ds) (R : Room k A) (x : Sx c env b ρ ω s) (hz : ds.length ≤ 1000)
    (h : ∀ s' a, Sx c env b ρ ((nm, a, .list ds) :: ω) s' → Q (.ref a) s') (hnm : anon nm = true := by decide) (hn : noOwn [nm] ω = true := by kernel_rfl) : wpAny (model c.prog c.w) A (eval (.List es pos) env) Q F0 s := by
  obtain ⟨lv, F, B, W⟩ := id x.ex
  refine List_ (X.use R F.st (F.ok B) fun vs s' S' g i => wpAny_newList ?_ (by rw [i.length]; exact size_of hz))
  have x' := x.go S' g
  refine h _ _ (x'.alloc (s' := { s' with heap := s'.heap.push { cls := .type "list", data := .seq vs.toArray } }) nm (od := .list ds) ⟨vs.toArray, 0, Heap.get?_push_size _ rfl, ?_⟩ rfl rfl rfl hnm hn)
  simpa using (IsAll.up (Nat.le_refl _) _ _ i).grow (Grow.push _ _)
theorem sx_evNewDict {pos : Pos} (nm : Str) {Q : Value → Shared → Prop} {E : Value → Shared → Prop} (x : Sx c env b ρ ω s)
    (h : ∀ s' a, Sx c env b ρ ((nm, a, .dict []) :: ω) s' → Q (.ref a) s') (hnm : anon nm = true := by decide) (hn : noOwn [nm] ω = true := by kernel_rfl) : wpAny (model c.prog c.w) A (eval (.Dict [] [] pos) env) Q E s :=
  newDict_eval (h _ _ (x.alloc (s' := { s with heap := s.heap.push { cls := .type "dict", data := .dict #[] } }) nm (od := .dict []) (OwnD.new' x.st) rfl rfl rfl hnm hn))
/-- y, z = [..], [..] : the stores swapped -/
theorem sx_twoLists {y z : Str} {py pz tp pos tpos p1 p2 : Pos} {m m' : Nat} {es1 es2 : List Expr} {ds1 ds2 : List D} {Q : Flow → Shared → Prop} (X1 : EvAll c (OX b.X []) k env ρ p1 es1 ds1) (X2 : ∀ O, EvAll c O k env ρ p2 es2 ds2)
    (R : Room k A) (x : Sx c env b ρ [] s) (h1 : ds1.length ≤ 1000) (h2 : ds2.length ≤ 1000)
    (h : ∀ s' a1 a2, Sx c env b ρ [(z, a2, .list ds2), (y, a1, .list ds1)] s' → Q .next s')
    (hyz : (!(z == y) && !(y == "1") && !(y == "2") && !(z == "1") && !(z == "2")) = true := by kernel_rfl) (hρ : ρ.lookup y = none := by rfl) (hρ' : ρ.lookup z = none := by rfl) (hw : HasW env y = true := by kernel_rfl) (hw' : HasW env z = true := by kernel_rfl)
    (hs : swapsWithSole [.Tuple [.Name y py, .Name z pz] m tp] (.Tuple [.List es1 p1, .List es2 p2] m' tpos) pos.line env = pure false := by rfl) (hs' : swappedStores [.Tuple [.Name y py, .Name z pz] m tp] (.Tuple [.List es1 p1, .List es2 p2] m' tpos) env = pure (some [y, z]) := by rfl) :
    wpAny (model c.prog c.w) A (exec (.Assign [.Tuple [.Name y py, .Name z pz] m tp] (.Tuple [.List es1 p1, .List es2 p2] m' tpos) pos) env) Q F0 s := by
  simp only [Bool.and_eq_true, Bool.not_eq_true', beq_eq_false_iff_ne, ne_eq] at hyz
  obtain ⟨⟨⟨⟨e1, e2⟩, e3⟩, e4⟩, e5⟩ := hyz
  refine Assign_Tuple_swapped (Tuple_ ?_) hs hs'
  show wpAny _ A (spliced ((false, eval (.List es1 p1) env) :: (false, eval (.List es2 p2) env) :: [])) _ _ s
  refine Calls.spliced_cons (sx_evNewList "1" X1 R x h1 fun s1 a1 x1 => Calls.spliced_cons (sx_evNewList "2" (X2 _) R x1 h2 (fun s2 a2 x2 => Calls.spliced_nil (wpAny_newTuple ?_)) (by decide) (by kernel_rfl)) )
  have x3 : Sx c env b ρ [("2", a2, .list ds2), ("1", a1, .list ds1)] { s2 with heap := s2.heap.push { cls := .type "tuple", data := .seq #[.ref a1, .ref a2] } } := x2.go (x2.st.push _ rfl rfl) (Grow.push _ _)
  have ho : (s2.heap.push { cls := .type "tuple", data := .seq #[.ref a1, .ref a2] }).get? s2.heap.objs.size = some { cls := .type "tuple", data := .seq #[.ref a1, .ref a2] } := Heap.get?_push_size _ rfl
  have key : ∀ E, wpAny (model c.prog c.w) A (unpackItems (.ref s2.heap.objs.size) 2 none) (fun its s' => its = [.ref a1, .ref a2] ∧ ∃ h', s' = { s2 with heap := h' } ∧ Heap.ExtBut (s2.heap.push { cls := .type "tuple", data := .seq #[.ref a1, .ref a2] }).objs.size (s2.heap.push { cls := .type "tuple", data := .seq #[.ref a1, .ref a2] }) h') E { s2 with heap := s2.heap.push { cls := .type "tuple", data := .seq #[.ref a1, .ref a2] } } := fun E =>
    wpAny_unpackItems_tuple (items := #[.ref a1, .ref a2]) R.1 ⟨_, ho, rfl, 0, rfl⟩ fun h' hx => ⟨rfl, h', rfl, hx⟩
  refine wpAny_mono (wpAny_size (key F0)) (fun its s' q => ?_) fun _ _ f => f.1
  obtain ⟨⟨e9, h', e8, hx'⟩, hsz⟩ := q
  subst e9 e8
  have g : Grow (s2.heap.push { cls := .type "tuple", data := .seq #[.ref a1, .ref a2] }) h' := ⟨hsz, fun b o f e => hx' b o (Nat.ne_of_lt (Heap.lt_size e)) e⟩
  have x4 := x3.go (s' := { s2 with heap := h' }) (x3.st.keeps (fun b o e => hx' b o (Nat.ne_of_lt (Heap.lt_size e)) e) hsz rfl rfl) g
  show wpAny _ A (holding [.ref a1] (bindName env z (.ref a2)) >>= fun _ => (holding [] (bindName env y (.ref a1)) >>= fun _ => pure ())) _ _ _
  have n1 : noOwn [z] [("2", a2, OD.list ds2), ("1", a1, OD.list ds1)] = true := by simp [noOwn, Ne.symm e4, Ne.symm e5]
  have r1 : oren [("2", a2, OD.list ds2), ("1", a1, OD.list ds1)] "2" z = [(z, a2, OD.list ds2), ("1", a1, OD.list ds1)] := rfl
  refine wpAny_bind (wpAny_holding (wpAny_bindName (sx_storeOwn x4 (nm := "2") rfl (fun s5 x5 => ?_) hρ' (by decide) hw' n1)))
  rw [r1] at x5
  have n2 : noOwn [y] [(z, a2, OD.list ds2), ("1", a1, OD.list ds1)] = true := by simp [noOwn, Ne.symm e2, e1]
  have l2 : List.lookup ("1" : Str) [(z, a2, OD.list ds2), ("1", a1, OD.list ds1)] = some (a1, OD.list ds1) := by
    rw [List.lookup_cons]
    have : (("1" : Str) == z) = false := by simpa using Ne.symm e4
    rw [this]; rfl
  have r2 : oren [(z, a2, OD.list ds2), ("1", a1, OD.list ds1)] "1" y = [(z, a2, OD.list ds2), (y, a1, OD.list ds1)] := by simp [oren, e4]
  refine wpAny_bind (wpAny_holding (wpAny_bindName (sx_storeOwn x5 (nm := "1") l2 (fun s6 x6 => ?_) hρ (by decide) hw n2)))
  rw [r2] at x6
  exact wpAny_pure (h _ _ _ x6)
end
end Mine
end
section
open PySem PySem.W PyProof.Rows
set_option maxRecDepth 100000
set_option linter.unusedVariables false
set_option maxHeartbeats 4000000
namespace Mine
noncomputable def joinP (now : List Str) : Str := Txt.join ";" now
noncomputable def keepOf (len : Nat) (n : Int) : Nat := (max 1 ((len : Int) - n.fmod 3)).toNat
noncomputable def pickOf (n : Int) : Nat := ((n.fdiv 3).fmod 5).toNat
theorem keepOf_eq (len : Nat) (n : Int) : ((keepOf len n : Nat) : Int) = max 1 ((len : Int) - n.fmod 3) := Int.toNat_of_nonneg (Int.le_trans (by decide) (Int.le_max_left ..))
theorem pickOf_eq (n : Int) : ((pickOf n : Nat) : Int) = (n.fdiv 3).fmod 5 := by
  unfold pickOf
  have := Int.fmod_nonneg_of_pos (n.fdiv 3) (b := 5) (by decide)
  omega
structure LSt where
  now : List Str
  come : Tab
  worked : Tab
noncomputable def pushed (words : List Str) (now : List Str) (n : Int) : List Str := now.take (keepOf now.length n) ++ [words.getD (pickOf n) ""]
noncomputable def stepL (words : List Str) (st : LSt) (n : Int) : LSt :=
  if pickOf n < 4 then ⟨pushed words st.now n, st.come ++ [(joinP (pushed words st.now n), 1)], st.worked ++ [(joinP st.now, n)]⟩
  else ⟨st.now.take (keepOf st.now.length n), st.come, st.worked ++ [(joinP st.now, n)]⟩
noncomputable def initL (words : List Str) : LSt := ⟨[words.getD 0 ""], [(joinP [words.getD 0 ""], 1)], []⟩
noncomputable def listsP (words : List Str) (ns : List Int) : LSt := ns.foldl (stepL words) (initL words)
theorem getD_mem {l : List Str} {i : Nat} (h : i < l.length) : l.getD i "" ∈ l := by
  rw [List.getD_eq_getElem?_getD, List.getElem?_eq_getElem h]; exact List.getElem_mem h
structure LInv (words : List Str) (i : Nat) (st : LSt) : Prop where
  len : st.now.length ≤ i + 1
  sub : ∀ x ∈ st.now, x ∈ words
  come : st.come.length ≤ i + 1
  worked : st.worked.length ≤ i
theorem pushed_sub {words now : List Str} {n : Int} (h : ∀ x ∈ now, x ∈ words) (hp : pickOf n < words.length) : ∀ x ∈ pushed words now n, x ∈ words := fun x hx => by
  unfold pushed at hx
  rcases List.mem_append.mp hx with q | q
  · exact h x (List.mem_of_mem_take q)
  · rw [List.mem_singleton.mp q]; exact getD_mem hp
theorem pushed_len {words now : List Str} {n : Int} : (pushed words now n).length ≤ now.length + 1 := by
  unfold pushed; rw [List.length_append, List.length_take]; simp; omega
theorem stepL_inv {words : List Str} {i : Nat} {st : LSt} {n : Int} (hw : 4 ≤ words.length) (h : LInv words i st) : LInv words (i + 1) (stepL words st n) := by
  unfold stepL
  split
  · rename_i hp
    refine ⟨Nat.le_trans pushed_len (Nat.succ_le_succ h.len), pushed_sub h.sub (by omega), ?_, ?_⟩
    · have := h.come; simp; omega
    · have := h.worked; simp; omega
  · refine ⟨?_, fun x hx => h.sub x (List.mem_of_mem_take hx), Nat.le_succ_of_le h.come, ?_⟩
    · have := h.len; simp only [List.length_take]; omega
    · have := h.worked; simp; omega
theorem foldl_inv {α β : Type} {f : β → α → β} {P : Nat → β → Prop} (h : ∀ i b a, P i b → P (i + 1) (f b a)) : ∀ (l : List α) (i : Nat) (b : β), P i b → P (i + l.length) (l.foldl f b)
  | [], i, b, hb => hb
  | a :: l, i, b, hb => by
    have := foldl_inv h l (i + 1) (f b a) (h i b a hb)
    rw [List.length_cons, List.foldl_cons]
    have e : i + 1 + l.length = i + (l.length + 1) := by omega
    rw [← e]; exact this
theorem initL_inv {words : List Str} (hw : 4 ≤ words.length) : LInv words 0 (initL words) := ⟨by simp [initL], fun x hx => by
  unfold initL at hx; rw [List.mem_singleton.mp hx]; exact getD_mem (by omega), by simp [initL], by simp [initL]⟩
theorem listsP_inv {words : List Str} (hw : 4 ≤ words.length) (ns : List Int) : LInv words ns.length (listsP words ns) := by
  have := foldl_inv (P := LInv words) (f := stepL words) (fun i b a h => stepL_inv hw h) ns 0 _ (initL_inv hw)
  rw [Nat.zero_add] at this; exact this
theorem str_at {l : List Str} {j : Nat} (h : j < l.length) : (strsD l)[j]? = some (.str (l.getD j "")) := by
  unfold strsD; rw [List.getElem?_map, List.getD_eq_getElem?_getD, List.getElem?_eq_getElem h]; rfl
noncomputable def tabL (t : Tab) : List D := t.map pairD
/-- texts that can be joined -/
noncomputable def Joins (words : List Str) (m : Nat) : Prop := ∀ l : List Str, l.length ≤ m → (∀ x ∈ l, x ∈ words) → JoinOk ";" l = true
section
variable {c : Cx} {O : Addr → Prop} {k : Nat} {env : Env} {ρ : List (Str × D)}
theorem ev_entry {x : Str} {p p1 p2 p3 pos : Pos} {m m' : Nat} {e : Expr} {l : List Str} {d : D} (hx : Has env x = true) (hd : ρ.lookup x = some (lst l)) (hj : JoinOk ";" l = true) (Y : EvO c O k env ρ e d) (pl : Sem Bool) (hb : (x == ("__debug__" : Str)) = false := by decide)
    (hs : starEach [.Name x p] env = (false, eval (.Name x p) env) :: starEach [] env := by rfl) (he : MethForm (.Constant (.str ";") m p1) "join" p2 p3 [.Name x p] env pl := by rfl)
    (hs2 : starEach [.Call (.Attribute (.Constant (.str ";") m p1) "join" p2) [.Name x p] [] p3, e] env = (false, eval (.Call (.Attribute (.Constant (.str ";") m p1) "join" p2) [.Name x p] [] p3) env) :: starEach [e] env := by rfl) (hs3 : starEach [e] env = (false, eval e env) :: starEach [] env := by rfl) :
    EvO c O k env ρ (.Tuple [.Call (.Attribute (.Constant (.str ";") m p1) "join" p2) [.Name x p] [] p3, e] m' pos) (.tuple [.str (joinP l), d]) :=
  ev_tuple (evs_cons (ev_join ev_str (ev_name hx hd hb) hj pl he hs) (evs_cons Y evs_nil hs3) hs2)
end
theorem lists_ok {c : Cx} (G : c.Good) {k : Nat} (ns : List Int) (words : List Str) (hw : 4 ≤ words.length) (hw' : words.length ≤ 900) (hz : ns.length ≤ 300) (hj : Joins words (ns.length + 1)) :
    FnO c (k + 1) 157 [.list (intsD ns), lst words] (.tuple [.list (tabL (listsP words ns).come), .list (tabL (listsP words ns).worked)]) :=
  fn_sx G.ok (def_lists G) rfl fun X A st h₀ R x => by
    have hl : (strsD words).length = words.length := by simp [strsD]
    refine sx_seq (sx_assign (d := lst (initL words).now) (EvO.sx (EvO.as (ev_list (ds := [.str (words.getD 0 "")]) (evs_cons (ev_item_list (ev_name (by kernel_rfl) rfl) ev_int (by decide) (by decide) (str_at (by omega))) evs_nil)) rfl)) R x fun s1 x1 => ?_)
    have j1 : JoinOk ";" (initL words).now = true := hj _ (by simp [initL]) (initL_inv hw).sub
    refine sx_seq ?_
    refine @sx_twoLists c (callEnvC (fdOf c.w.params 157) h₀.objs.size 157) ⟨h₀, X, fun _ => False, h₀⟩ k _ A s1 "come" "worked" _ _ _ _ _ _ _ _ _ _ _ [.tuple [.str (joinP (initL words).now), .int 1]] [] _ ?X1 (fun O => evs_nil) R x1 (by simp) (by simp) ?go ?a1 ?a2 ?a3 ?a4 ?a5 ?a6 ?a7
    case a1 => kernel_rfl
    case a2 => rfl
    case a3 => rfl
    case a4 => kernel_rfl
    case a5 => kernel_rfl
    case a6 => kernel_rfl
    case a7 => kernel_rfl
    case X1 => exact evs_cons (ev_entry (by kernel_rfl) rfl j1 ev_int _) evs_nil
    intro s2 a1 a2 x2
    refine sx_seq (sx_forName (fun i => [("now", lst ((ns.take i).foldl (stepL words) (initL words)).now), ("words", lst words)]) (fun i => [("worked", a2, .list (tabL ((ns.take i).foldl (stepL words) (initL words)).worked)), ("come", a1, .list (tabL ((ns.take i).foldl (stepL words) (initL words)).come))])
      (it_list (ev_name (by kernel_rfl) rfl)) R x2 ⟨rfl, rfl, trivial⟩ rfl (fun i => rfl) (fun i d hd Xx Y hb s3 x3 => ?_) fun s3 x3 => ?_)
    · obtain ⟨n, hn, rfl⟩ : ∃ n, ns[i]? = some n ∧ d = .int n := by
        unfold intsD at hd; rw [List.getElem?_map, Option.map_eq_some_iff] at hd
        obtain ⟨n, h1, h2⟩ := hd; exact ⟨n, h1, h2.symm⟩
      have hi : i < ns.length := Nat.lt_of_not_le fun hc => by
        rw [List.getElem?_eq_none hc] at hn; cases hn
      have inv : LInv words i ((ns.take i).foldl (stepL words) (initL words)) := by
        have := listsP_inv hw (ns.take i)
        rw [List.length_take, Nat.min_eq_left (Nat.le_of_lt hi)] at this; exact this
      rw [foldl_take_succ hn] 
      generalize hst : (ns.take i).foldl (stepL words) (initL words) = st at *
      have nl : st.now.length ≤ 301 := by have := inv.len; omega
      have jn : JoinOk ";" st.now = true := hj _ (by have := inv.len; omega) inv.sub
      refine sx_seq (sx_append (EvO.sx (ev_entry (by kernel_rfl) rfl jn (ev_name (by kernel_rfl) rfl) _)) R x3 rfl (by have := inv.worked; simp [tabL]; omega) (fun s4 x4 => ?_))
      have ecut : D.list (cut (strsD st.now) none (some (max 1 (((strsD st.now).length : Int) - n.fmod 3)))) = lst (st.now.take (keepOf st.now.length n)) := by
        have e : ((strsD st.now).length : Int) = st.now.length := by simp [strsD]
        rw [e, ← keepOf_eq, cut_to]; unfold lst strsD; rw [List.map_take]
      refine sx_seq (sx_assign (d := lst (st.now.take (keepOf st.now.length n))) (EvO.sx (EvO.as (ev_slice (a := none) (b := some (max 1 (((strsD st.now).length : Int) - n.fmod 3))) (ev_name (by kernel_rfl) rfl) trivial
        (ev_max G ev_int (ev_sub (ev_len G.ok (ev_name (by kernel_rfl) rfl) (by rw [G.K]; kernel_rfl) (by kernel_rfl) (by simp [strsD]; omega)) (ev_mod (ev_name (by kernel_rfl) rfl) ev_int (by decide))) (by kernel_rfl)) (size_of (by simp [strsD]; omega))) ecut)) R x4 (fun s5 x5 => ?_))
      refine sx_seq (sx_if (TrO.sx (tr_cmp (ev_mod (ev_fdiv (ev_name (by kernel_rfl) rfl) ev_int (by decide) (by decide)) ev_int (by decide)) ev_int cm_lt)) R x5 (fun hq s6 x6 => ?_) fun hq s6 x6 => ?_)
      · have hp : pickOf n < 4 := by
          have := of_decide_eq_true hq
          have := pickOf_eq n
          omega
        have inv' := stepL_inv (n := n) hw inv
        have e' : stepL words st n = ⟨pushed words st.now n, st.come ++ [(joinP (pushed words st.now n), 1)], st.worked ++ [(joinP st.now, n)]⟩ := by unfold stepL; rw [if_pos hp]
        rw [e'] at inv' ⊢
        have jn' : JoinOk ";" (pushed words st.now n) = true := hj _ (by have := inv'.len; simp only at this; omega) inv'.sub
        refine sx_seq (sx_assign (d := lst (pushed words st.now n)) (EvO.sx (EvO.as (ev_addList (ev_name (by kernel_rfl) rfl) (ev_list (evs_cons (ev_item_list (ev_name (by kernel_rfl) rfl) (ev_mod (ev_fdiv (ev_name (by kernel_rfl) rfl) ev_int (by decide) (by decide)) ev_int (by decide)) (by rw [← pickOf_eq]; omega) (by rw [← pickOf_eq]; omega) (d := .str (words.getD (pickOf n) "")) (str_at (by unfold pickOf at hp; omega))) evs_nil)) (size_of (by simp [strsD]; omega))) ?_)) R x6 (fun s7 x7 => ?_))
        · unfold pushed lst; simp [strsD]
        · refine sx_seq (sx_append (EvO.sx (ev_entry (by kernel_rfl) rfl jn' ev_int _)) R x7 rfl (by have := inv.come; simp [tabL]; omega) (fun s8 x8 => wpAny_execs_nil (sx_end x8 ⟨rfl, rfl, trivial⟩ ?_)))
          simp only [tabL, List.map_append]; rfl
      · have hp : ¬ pickOf n < 4 := by
          have := of_decide_eq_false hq
          have := pickOf_eq n
          omega
        have e' : stepL words st n = ⟨st.now.take (keepOf st.now.length n), st.come, st.worked ++ [(joinP st.now, n)]⟩ := by unfold stepL; rw [if_neg hp]
        rw [e']
        refine wpAny_execs_nil (sx_end x6 ⟨rfl, rfl, trivial⟩ ?_)
        simp only [tabL, List.map_append]; rfl
    · have e : (intsD ns).length = ns.length := intsD_length ns
      rw [e, List.take_length] at x3
      have x3' := (x3.give "come").give "worked"
      exact sx_ret (EvO.sx (ev_tuple (evs_cons (ev_name (by kernel_rfl) rfl) (evs_cons (ev_name (by kernel_rfl) rfl) evs_nil)))) R x3'
end Mine
end
section
open PySem PySem.W PyProof.Rows
set_option maxRecDepth 100000
set_option linter.unusedVariables false
namespace Mine
section
variable {c : Cx} {env : Env} {b : Blk} {k : Nat} {ρ : List (Str × D)} {ω : OL} {A : Around} {s s' : Shared} {O : Addr → Prop}
theorem Frm.chg {lv : Str → Option Value} {h h' : Heap} {P : Addr → Prop} (F : Frm env lv h) (g : Chg P h h') (hP : ∀ a, FrameAddr env a → ¬ P a) : Frm env lv h' := by
  refine ⟨let ⟨m, a, b⟩ := F.ns; ⟨m, ns_chg a g (hP _ (.inl rfl)), b⟩, fun x cl n e => ?_⟩
  obtain ⟨o, ho, hd⟩ := F.cell x cl n e
  exact ⟨o, g.2 cl o (hP cl (.inr ⟨x, mem_of_lookup e⟩)) (fun f => by obtain ⟨_, vs, e⟩ := f; rw [hd] at e; cases e) ho, hd⟩
/-- the owned things changed by a call -/
theorem Sx.put (x : Sx c env b ρ ω s) {ω' : OL} (hn : names2 ω' = names2 ω) (S' : St c s') (g : Chg (fun z => (∃ w ∈ ω, w.2.1 = z) ∨ s.heap.objs.size ≤ z) s.heap s'.heap) (h : ∀ w ∈ ω', OwnX c (OX b.X ω) s'.heap w.2.1 w.2.2) : Sx c env b ρ ω' s' := by
  obtain ⟨lv, F, B, W⟩ := id x.ex
  have oo : ∀ z, OX b.X ω' z → OX b.X ω z := fun z q => by
    rcases q with q | ⟨w, hw, e⟩
    · exact .inl q
    · obtain ⟨w', h1, _, h3⟩ := names2_mem hn hw
      exact .inr ⟨w', h1, h3.trans e⟩
  have sub : ∀ z, ((∃ w ∈ ω, w.2.1 = z) ∨ s.heap.objs.size ≤ z) → Up (OX b.X ω) s.heap.objs.size z := fun z q => q.imp .inr id
  refine ⟨⟨lv, ⟨S', F.es, fun a q => Nat.lt_of_lt_of_le (F.own a (oo a q)) g.1, fun a q => .inl (x.fr a q).1, F.frm.chg g fun a q z => ?_, ⟨Nat.le_trans F.grow.1 g.1, fun a o f e => g.2 a o (fun z => ?_) f (F.grow.2 a o f e)⟩, F.above, F.base⟩, fun y d e => ?_, fun w hw => ?_⟩, names2_pw hn x.nd, fun w hw => ?_, x.fr, x.chg.trans (g.sub fun a q => ?_)⟩
  · rcases z with ⟨w, hw, e⟩ | z
    · exact x.frame_ne hw (e ▸ q)
    · exact Nat.lt_irrefl _ (Nat.lt_of_lt_of_le (F.own a (F.fr a q)) z)
  · rcases z with ⟨w, hw, e'⟩ | z
    · exact Nat.lt_irrefl _ (Nat.lt_of_lt_of_le (Heap.lt_size e) (e' ▸ (x.mine w hw).2.1))
    · exact Nat.lt_irrefl _ (Nat.lt_of_lt_of_le (Heap.lt_size e) (Nat.le_trans F.grow.1 z))
  · obtain ⟨v, e1, i⟩ := B y d e
    exact ⟨v, e1, ((Is.up (Nat.le_refl _) _ _ i).chg (g.sub sub)).sub fun a q => .inl (oo a q)⟩
  · obtain ⟨w', h1, h2, h3⟩ := names2_mem hn hw
    refine ⟨?_, (h w hw).sub oo⟩
    have := (W w' h1).1
    rw [h2, h3] at this; exact this
  · obtain ⟨w', h1, h2, h3⟩ := names2_mem hn hw
    have := x.mine w' h1
    rw [h3] at this; exact this
  · rcases q with ⟨w, hw, e⟩ | q
    · exact e ▸ (x.mine w hw).2.2
    · exact .inr (Nat.le_trans x.chg.1 q)
theorem ownKeep {h h' : Heap} {a : Addr} {od : OD} {P : Addr → Prop} (x : OwnX c O h a od) (g : Chg P h h') (hP : ∀ a, P a → O a ∨ h.objs.size ≤ a) (ha : ¬ P a) : OwnX c O h' a od :=
  ((x.up (Nat.le_refl _)).chg g hP ha).sub fun a q => .inl q
noncomputable def Enters (c : Cx) (f : Addr) (fd : FuncData) (body : List Stmt) (xs : List Str) : Prop :=
  ∀ {vs : List Value} {k : Nat} {A : Around} {s : Shared} {O : Addr → Prop} {Q : Value → Shared → Prop}, Room (k + 1) A → St c s → Own O s.heap → vs.length = xs.length →
    (∀ s₁ env lv, env = callEnvC fd s.heap.objs.size f → Room k (A.deeper env) → Fs c s.heap (Fo O env) env lv s₁ → (∀ x v, (x, v) ∈ xs.zip vs → lv x = some v) → (∀ b o, s.heap.get? b = some o → s₁.heap.get? b = some o) →
      wpAny (model c.prog c.w) (A.deeper env) (execs body env) (fun fl s' => Q (match fl with | .ret v => v | _ => .none) s') F0 s₁) →
    wpAny (model c.prog c.w) A (call (.ref f) vs) Q F0 s
theorem DefAt.enters {f : Addr} {fd : FuncData} {body : List Stmt} {xs : List Str} (Df : DefAt c f fd body xs) (H : c.Ok) : Enters c f fd body xs := fun R S ow hl h => fn_enter H Df R S ow hl h
/-- a def is entered with things of the caller's -/
theorem fn_enterX {f : Addr} {fd : FuncData} {body : List Stmt} {xs : List Str} {vs : List Value} {Q : Value → Shared → Prop} (En : Enters c f fd body xs)
    (R : Room (k + 1) A) (S : St c s) (ow : Own O s.heap) (hl : vs.length = xs.length)
    (hρ : ∀ x d, ρ.lookup x = some d → ∃ v, (x, v) ∈ xs.zip vs ∧ Is c O s.heap d v)
    (hω : ∀ w ∈ ω, (w.1, Value.ref w.2.1) ∈ xs.zip vs ∧ O w.2.1 ∧ c.hB.objs.size ≤ w.2.1 ∧ OwnX c O s.heap w.2.1 w.2.2)
    (nd : ω.Pairwise fun x y => x.1 ≠ y.1 ∧ x.2.1 ≠ y.2.1)
    (h : ∀ X s₁, (∀ a, O a → OX X ω a) → Room k (A.deeper (callEnvC fd s.heap.objs.size f)) → Sx c (callEnvC fd s.heap.objs.size f) ⟨c.hB, X, fun z => ∃ w ∈ ω, w.2.1 = z, s.heap⟩ ρ ω s₁ →
      wpAny (model c.prog c.w) (A.deeper (callEnvC fd s.heap.objs.size f)) (execs body (callEnvC fd s.heap.objs.size f)) (fun fl s' => Q (match fl with | .ret v => v | _ => .none) s') F0 s₁) :
    wpAny (model c.prog c.w) A (call (.ref f) vs) Q F0 s := by
  refine En R S ow hl fun s₁ env lv he R' F hb hk => ?_
  subst he
  generalize he : callEnvC fd s.heap.objs.size f = env at *
  have hh := h (fun b => (O b ∧ ¬ ∃ w ∈ ω, w.2.1 = b) ∨ FrameAddr env b) s₁ (fun a q => by
    by_cases z : ∃ w ∈ ω, w.2.1 = a
    · exact .inr z
    · exact .inl (.inl ⟨q, z⟩)) R'
  have fo : ∀ a, OX (fun b => (O b ∧ ¬ ∃ w ∈ ω, w.2.1 = b) ∨ FrameAddr env b) ω a → Fo O env a := fun a q => by
    rcases q with (q | q) | ⟨w, hw, e⟩
    · exact .inl q.1
    · exact .inr q
    · exact .inl (e ▸ (hω w hw).2.1)
  have up : ∀ a, OX (fun b => (O b ∧ ¬ ∃ w ∈ ω, w.2.1 = b) ∨ FrameAddr env b) ω a → Up O s.heap.objs.size a := fun a q => (fo a q).imp id fun q => F.above a q
  refine hh ⟨⟨lv, ⟨F.st, F.es, fun a q => F.own a (fo a q), fun a q => .inl (.inr q), F.frm, F.st.grow, fun a q => Nat.le_trans S.grow.1 (F.above a q), Nat.le_refl _⟩, fun x d e => ?_, fun w hw => ?_⟩, nd, fun w hw => ?_, fun a q => ⟨.inr q, .inr (F.above a q)⟩, F.grow.chg⟩
  · obtain ⟨v, m, i⟩ := hρ x d e
    exact ⟨v, hb x v m, ((Is.up (Nat.le_refl _) _ _ i).sub up).grow F.grow⟩
  · obtain ⟨m, o, _, own⟩ := hω w hw
    exact ⟨.inr (hb _ _ m), ((own.up (Nat.le_refl _)).sub up).grow F.grow⟩
  · obtain ⟨m, o, lo, own⟩ := hω w hw
    refine ⟨fun q => ?_, lo, .inl ⟨w, hw, rfl⟩⟩
    rcases q with q | q
    · exact q.2 ⟨w, hw, rfl⟩
    · exact Nat.lt_irrefl _ (Nat.lt_of_lt_of_le (ow _ o) (F.above _ q))
end
end Mine
end
section
open PySem PySem.W PyProof.Rows
set_option maxRecDepth 100000
set_option linter.unusedVariables false
namespace Mine
noncomputable def frailB (o : Obj) : Bool := match o.data with
  | .fields _ => o.cls == .none
  | _ => false
theorem frailB_of {o : Obj} (h : frailB o = false) : ¬ Frail o := fun ⟨h1, vs, h2⟩ => by
  unfold frailB at h; rw [h2, h1] at h; cases h
noncomputable def noFrail : Frag → Bool
  | [] => true
  | p :: r => !frailB p.2 && noFrail r
theorem noFrail_get : ∀ {K : Frag}, noFrail K = true → ∀ {a : Addr} {o : Obj}, K.lookup a = some o → ¬ Frail o
  | [], _, a, o, e => by cases e
  | p :: r, h, a, o, e => by
    unfold noFrail at h
    rw [Bool.and_eq_true] at h
    rw [List.lookup_cons] at e
    cases q : a == p.1 with
    | true => rw [q] at e; cases e; exact frailB_of (by simpa using h.1)
    | false => rw [q] at e; exact noFrail_get h.2 e
theorem inK_all {c : Cx} (G : c.Good) {s : Shared} (S : St c s) : c.K.In s.heap := fun a o e => S.inK G.ok e (noFrail_get (K := c.K) (by rw [G.K]; kernel_rfl) e)
structure PAt (s : Shared) (a d : Addr) (o : Obj) (vs : Array Value) (n : Nat) : Prop where
  at_ : s.heap.get? a = some { cls := .ref 129, dict := some d, data := .seq vs n }
  dict : s.heap.get? d = some o
  ok : PDict o
section
variable {c : Cx} {A : Around} {s : Shared} {a d : Addr} {o : Obj} {vs : Array Value} {n : Nat} {E : Value → Shared → Prop}
theorem PAt.inst (P : PAt s a d o vs n) : InstAt s.heap a { cls := .ref 129, dict := some d, data := .seq vs n } 129 (some o) := ⟨P.at_, rfl, rfl, P.dict⟩
theorem PAt.list (P : PAt s a d o vs n) (G : c.Good) (S : St c s) : Looks (model c.prog c.w) s.heap (isInstance (.ref a) (.type "list")) true :=
  P.inst.type.andThen (looks_mroIn (inK_all G S) (by rw [G.K]; kernel_rfl))
theorem check_list {M : Model} {i nm : String} {self : Value} {rest : List Value} {Q : Unit → Shared → Prop}
    (hk : builtinKind i = some .slot ∨ builtinKind i = some .method) (hs : splitId i = some ("list", nm)) (hi : Looks M s.heap (isInstance self (.type "list")) true) (ha : argsOk i ⟨self :: rest, []⟩) (q : Q () s) :
    wpAny M A (checkBuiltinCall i ⟨self :: rest, []⟩) Q E s := by
  rcases hk with hk | hk
  all_goals
    simp only [checkBuiltinCall, hk, hs]
    refine wpAny_bind (hi.here ?_)
    simp only [Bool.not_true, Bool.false_eq_true, if_false]
    cases hsig : Manifest.signature? i with
    | none => exact wpAny_pure q
    | some sig =>
      simp only [argsOk, hsig] at ha
      have h2 : Bind.checkArgs i sig ⟨self :: rest, []⟩ = pure () := ha
      show wpAny M A (Bind.checkArgs i sig ⟨self :: rest, []⟩) Q E s
      rw [h2]; exact wpAny_pure q
theorem call_pile {id nm : String} {b : Builtin} {rest : List Value} {Q : Value → Shared → Prop} (P : PAt s a d o vs n) (G : c.Good) (S : St c s) (hk : builtinKind id = some .slot ∨ builtinKind id = some .method) (hs : splitId id = some ("list", nm)) (hp : plainId id = true)
    (hb : entryFor table id = some b) (ha : argsOk id ⟨.ref a :: rest, []⟩) (hc : wpAny (model c.prog c.w) A.in1 (b ⟨.ref a :: rest, []⟩) (fun fin s' => ∃ v, fin = .done (.ret v) ∧ Q v s') E s) :
    wpAny (model c.prog c.w) A (call (.builtin id) (.ref a :: rest)) Q E s := by
  refine wpAny_call (codeAny_call_builtin hp hb (check_list hk hs (P.list G S) ha (wpAny_mono hc (fun fin s' h' => ?_) fun _ _ h' => h')))
  obtain ⟨v, rfl, hv⟩ := h'; exact hv
noncomputable def kindOk (t : Value) : Bool := t == .type "function" || t == .type "method_descriptor" || t == .type "wrapper_descriptor"
theorem pile_method {name : Str} {f t : Value} {pl : Sem Bool} {Q : Value × List Value → Shared → Prop} (P : PAt s a d o vs n) (G : c.Good) (S : St c s) (hn : name ∈ pnames) (hf : findIn c.K (.ref 129) name = some (some f)) (ht : typeIn c.K f = some t) (hk : kindOk t = true)
    (h : Q (f, [.ref a]) s) : wpAny (model c.prog c.w) A (getMethod (.ref a) name pl) Q E s := by
  have X := inK_all G S
  have I := P.inst
  unfold getMethod specialOf
  refine wpAny_bind (wpAny_bind (I.type.here ((looks_findIn X (r := some (.builtin "list.__getattribute__")) (by rw [G.K]; kernel_rfl)).here ?_)))
  dsimp only
  rw [if_neg (by decide +kernel)]
  refine wpAny_bind (wpAny_bind (I.type.here ((looks_findIn X (r := none) (by rw [G.K]; kernel_rfl)).here ?_)))
  refine wpAny_bind (wpAny_bind (I.type.here ((looks_findIn X hf).here (wpAny_bind ((looks_typeIn X ht).here ?_)))))
  rw [if_neg (by
    unfold kindOk at hk
    intro q
    simp only [Bool.and_eq_true, bne_iff_ne, ne_eq, Bool.or_eq_true, beq_iff_eq] at q hk
    rcases hk with (hk | hk) | hk
    · exact q.1.1 hk
    · exact q.1.2 hk
    · exact q.2 hk)]
  refine wpAny_bind (wpAny_loadPart I.at_ (wpAny_bind (wpAny_bind (wpAny_loadPart P.dict ?_))))
  rw [nsLook_of (P.ok.2 name hn)]
  exact wpAny_pure (wpAny_bind (wpAny_rule (wpAny_pure h)))
theorem pile_special {name : Str} {id : String} {rest : List Value} {Q : Option Value → Shared → Prop} (P : PAt s a d o vs n) (G : c.Good) (S : St c s) (hf : findIn c.K (.ref 129) name = some (some (.builtin id))) (hb : bindSpecial (.builtin id) (.ref a) = pure (.builtin id, [.ref a]))
    (h : wpAny (model c.prog c.w) A (call (.builtin id) (.ref a :: rest)) (fun v => Q (some v)) E s) : wpAny (model c.prog c.w) A (callSpecial? (.ref a) name rest) Q E s := by
  have X := inK_all G S
  refine wpAny_bind (wpAny_bind (P.inst.type.here ((looks_findIn X hf).here (wpAny_holding ?_))))
  rw [hb]
  exact wpAny_bind (wpAny_pure (wpAny_bind (wpAny_mono h (fun _ _ z => wpAny_pure z) fun _ _ z => z)))
/-- pile.append(x), the built-in -/
theorem pile_append {x : Value} {Q : Value → Shared → Prop} (P : PAt s a d o vs n) (G : c.Good) (S : St c s) (hz : vs.size ≤ sizeLine)
    (hQ : ∀ h' n', h'.get? a = some { cls := .ref 129, dict := some d, data := .seq (vs.push x) n' } → Heap.SameBut a s.heap h' → Q .none { s with heap := h' }) :
    wpAny (model c.prog c.w) A (call (.builtin "list.append") [.ref a, x]) Q E s := by
  have ho := P.at_
  refine call_pile P G S (.inr (by decide +kernel)) (by decide +kernel : _ = some (_, "append")) (by decide +kernel) PySem.entry_list_append (PySem.args_list_append _ _) ?_
  show wpAny _ _ (updateSeq a (·.push x) >>= fun _ => ret .none) _ _ s
  refine wpAny_bind ?_
  exact wpAny_updateSeq ho rfl (wpAny_pure ⟨.none, rfl, hQ _ _ (Heap.get?_update_self _ ho rfl) (Heap.SameBut.update ..)⟩)
theorem specialIf_of {M : Model} {self : Value} {name : Str} {id : String} {refuse : Sem Value} {Q : Option Value → Shared → Prop} (L : Looks M s.heap (specialOf self name) (some (.builtin id))) (hb : bindSpecial (.builtin id) self = pure (.builtin id, [self]))
    (hc : wpAny M A (call (.builtin id) [self]) (fun v => Q (some v)) E s) : wpAny M A (callSpecialIfBoundUnlessNone? self name refuse) Q E s := by
  simp only [callSpecialIfBoundUnlessNone?, bindSpecialIfBound?]
  refine wpAny_holding (wpAny_bind (wpAny_bind (L.here ?_)))
  simp only [hb]
  refine wpAny_bind (wpAny_askSetting (wpAny_ite ?_))
  have fin : wpAny M A (if (Value.builtin id == Value.none) = true then (refuse >>= fun v => pure (some v)) else (call (.builtin id) [self] >>= fun v => pure (some v))) Q E s := by
    simp only [builtin_beq_none, Bool.false_eq_true, if_false]
    exact wpAny_bind (wpAny_mono hc (fun v s' h' => wpAny_pure h') fun _ _ h' => h')
  split
  · exact wpAny_bind (wpAny_pure (wpAny_pure fin))
  · exact wpAny_tryCatch (wpAny_bind (wpAny_pure (wpAny_pure fin)))
/-- its iterator -/
theorem pile_iter {Q : Value → Shared → Prop} (P : PAt s a d o vs n) (G : c.Good) (S : St c s) (hQ : Q (.ref s.heap.objs.size) { s with heap := s.heap.push { cls := .type "list_iterator", data := .fields #[.ref a, .int 0 0] } }) :
    wpAny (model c.prog c.w) A (pyIter (.ref a)) Q E s := by
  have X := inK_all G S
  have L : Looks (model c.prog c.w) s.heap (specialOf (.ref a) "__iter__") (some (.builtin "list.__iter__")) := P.inst.type.andThen (looks_findIn X (by rw [G.K]; kernel_rfl))
  unfold pyIter
  refine wpAny_bind (L.here ?_)
  show wpAny _ A (callSpecialIfBoundUnlessNone? (.ref a) "__iter__" _ >>= _) Q E s
  refine wpAny_bind (specialIf_of L (PySem.slot_list_iter.bind _) ?_)
  refine call_pile P G S (.inl (by decide +kernel)) (by decide +kernel : _ = some (_, "__iter__")) (by decide +kernel) PySem.entry_list_iter (PySem.args_list_iter _) ?_
  show wpAny _ _ (do ret (← newFields "list_iterator" [.ref a, rawInt 0])) _ _ s
  refine wpAny_bind (wpAny_newObj_type (wpAny_pure ⟨_, rfl, ?_⟩))
  exact wpAny_bind (wpAny_specialOf (T := "list_iterator") ⟨_, Heap.get?_push_size _ rfl, rfl⟩ slot_listiter_next.lookup (wpAny_pure hQ))
theorem pile_key {M : Model} {key : Value} {name : Str} {Q : Value → Shared → Prop} (P : PAt s a d o vs n) (G : c.Good) (S : St c s) (h : Q key s) : wpAny (model c.prog c.w) A (sequenceKey (.ref a) key name) Q E s := by
  have X := inK_all G S
  unfold sequenceKey
  refine wpAny_bind (P.inst.type.here ?_)
  dsimp only
  have hsub : Looks (model c.prog c.w) s.heap (isSubtype (.ref 129) (.type "collections.deque")) false := looks_mroIn X (by rw [G.K]; kernel_rfl)
  have hany : wpAny (model c.prog c.w) A (seqItemTypes.anyM fun n => isSubtype (.ref 129) (.type n)) (fun r s' => r = false ∧ s' = s) E s := by
    show wpAny _ A (List.anyM _ ["collections.deque"]) _ _ _
    simp only [List.anyM]
    exact wpAny_bind (hsub.here (wpAny_pure ⟨rfl, rfl⟩))
  refine wpAny_bind (wpAny_mono hany (fun r s' q => ?_) fun _ _ f => f)
  obtain ⟨rfl, rfl⟩ := q
  simp only [Bool.not_false, if_true]
  exact wpAny_pure h
/-- pile[i:] -/
theorem pile_getSlice {sl : Addr} {vl vu : Value} {lo hi : Option Int} {Q : Value → Shared → Prop} (P : PAt s a d o vs n) (G : c.Good) (S : St c s) (hs : s.heap.IsSliceOf sl vl vu .none) (pl : IsPart vl lo) (pu : IsPart vu hi) (hsz : vs.size ≤ sizeLine)
    (h : Q (.ref s.heap.objs.size) { s with heap := s.heap.push { cls := .type "list", data := .seq (slicePick vs lo hi none) } }) : wpAny (model c.prog c.w) A (getItem (.ref a) (.ref sl)) Q E s := by
  have ho := P.at_
  obtain ⟨os, hos, hcs, hds⟩ := id hs
  have hTs : s.TypeIs (.ref sl) "slice" := ⟨os, hos, hcs⟩
  unfold getItem
  try with_reducible refine wpAny_holding ?_
  first | refine wpAny_bind (wpAny_pure ?_) | skip
  refine wpAny_bind (pile_key (M := model c.prog c.w) P G S ?_)
  refine wpAny_bind (pile_special (id := "list.__getitem__") P G S (by rw [G.K]; kernel_rfl) (PySem.slot_list_getitem.bind _) (call_pile P G S (.inr (by decide +kernel)) (by decide +kernel : _ = some (_, "__getitem__")) (by decide +kernel) PySem.entry_list_getitem (PySem.args_list_getitem _ _) ?_))
  show wpAny _ _ (Builtin.List.listSubscript? (.ref sl) >>= _) _ _ s
  refine wpAny_bind ?_
  unfold Builtin.List.listSubscript?
  refine wpAny_bind (wpAny_specialOf hTs slice_no_index ?_)
  simp only [Option.isNone_none, if_true]
  refine wpAny_pure ?_
  show wpAny _ _ (typeOf (.ref sl) >>= _) _ _ s
  refine wpAny_bind (wpAny_typeOf hTs ?_)
  rw [if_neg (by decide)]
  rw [listSliceParts_eq]
  refine wpAny_bind (wpAny_bind (wpAny_field hos hds (x := .none) rfl (wpAny_bind (wpAny_listPart .none ?_))))
  rw [if_neg (by exact Bool.false_ne_true)]
  refine wpAny_bind (wpAny_field hos hds (x := vl) rfl (wpAny_bind (wpAny_listPart pl ?_)))
  refine wpAny_bind (wpAny_field hos hds (x := vu) rfl (wpAny_bind (wpAny_listPart pu (wpAny_pure ?_))))
  refine wpAny_bind (m := Builtin.List.listItems (.ref a)) ?_
  unfold Builtin.List.listItems
  refine wpAny_bind (wpAny_seqItems ho rfl (wpAny_pure ?_))
  refine wpAny_bind (wpAny_of_eq (sliceIndices_raw lo hi none vs.size (by simp)) ?_)
  exact wpAny_bind (wpAny_newObj_type (wpAny_pure ⟨_, rfl, wpAny_pure h⟩) (Nat.le_trans (slicePick_size_le vs lo hi none) hsz))

/-- pile[k:] = [] -/
theorem pile_setSlice {sl nl : Addr} {vl : Value} {k m : Nat} {Q : Unit → Shared → Prop} (P : PAt s a d o vs n) (G : c.Good) (S : St c s) (hs : s.heap.IsSliceOf sl vl .none .none) (pl : IsPart vl (some (k : Int))) (hn : s.heap.get? nl = some { cls := .type "list", data := .seq #[] m }) (hsz : vs.size ≤ 1000)
    (hQ : ∀ h' n', h'.get? a = some { cls := .ref 129, dict := some d, data := .seq (vs.toList.take k).toArray n' } → Heap.SameBut a s.heap h' → Q () { s with heap := h' }) : wpAny (model c.prog c.w) A (setItem (.ref a) (.ref sl) (.ref nl)) Q E s := by
  have ho := P.at_
  obtain ⟨os, hos, hcs, hds⟩ := id hs
  have hTs : s.TypeIs (.ref sl) "slice" := ⟨os, hos, hcs⟩
  have hTn : s.TypeIs (.ref nl) "list" := ⟨_, hn, rfl⟩
  have hne : ¬ ((a == nl) = true) := by
    intro q
    have := beq_iff_eq.mp q
    subst this
    rw [ho] at hn; cases hn
  have hb : sliceBounds (some (k : Int)) none none vs.size = (((min k vs.size : Nat) : Int), (vs.size : Int), 1) := by
    unfold sliceBounds
    simp only [Option.getD_none, gt_iff_lt, Int.zero_lt_one, if_true]
    rw [if_neg (by omega)]
    congr 1; omega
  have hv : vs.extract 0 (min k vs.size) ++ #[] ++ vs.extract vs.size vs.size = (vs.toList.take k).toArray := by
    apply Array.toList_inj.mp
    simp only [Array.toList_append, Array.toList_extract, List.extract_eq_take_drop, List.drop_zero, Nat.sub_zero, Nat.sub_self, List.take_zero, List.append_nil]
    rw [List.take_eq_take_iff]; simp
  unfold setItem
  try with_reducible refine wpAny_holding ?_
  first | refine wpAny_bind (wpAny_pure ?_) | skip
  refine wpAny_bind (pile_key (M := model c.prog c.w) P G S ?_)
  refine wpAny_bind (pile_special (id := "list.__setitem__") P G S (by rw [G.K]; kernel_rfl) (PySem.slot_list_setitem.bind _) (call_pile P G S (.inl (by decide +kernel)) (by decide +kernel : _ = some (_, "__setitem__")) (by decide +kernel) PySem.entry_list_setitem (PySem.args_list_setitem _ _ _) ?_))
  show wpAny _ _ (Builtin.List.listSubscript? (.ref sl) >>= _) _ _ s
  refine wpAny_bind ?_
  unfold Builtin.List.listSubscript?
  refine wpAny_bind (wpAny_specialOf hTs slice_no_index ?_)
  simp only [Option.isNone_none, if_true]
  refine wpAny_pure ?_
  show wpAny _ _ (typeOf (.ref sl) >>= _) _ _ s
  refine wpAny_bind (wpAny_typeOf hTs ?_)
  rw [if_neg (by decide)]
  rw [listSliceParts_eq]
  refine wpAny_bind (wpAny_bind (wpAny_field hos hds (x := .none) rfl (wpAny_bind (wpAny_listPart .none ?_))))
  rw [if_neg (by exact Bool.false_ne_true)]
  refine wpAny_bind (wpAny_field hos hds (x := vl) rfl (wpAny_bind (wpAny_listPart pl ?_)))
  refine wpAny_bind (wpAny_field hos hds (x := .none) rfl (wpAny_bind (wpAny_listPart .none (wpAny_pure ?_))))
  rw [if_neg (show ¬ (Builtin.List.listSameRef (.ref a) (.ref nl) = true) from hne)]
  refine wpAny_bind ?_
  unfold Builtin.List.listAllItems
  refine wpAny_bind (wpAny_typeOf hTn ?_)
  rw [if_pos (by decide)]
  unfold Builtin.List.listItems
  refine wpAny_bind (wpAny_seqItems hn rfl (wpAny_pure ?_))
  refine wpAny_bind (wpAny_bind (wpAny_seqItems ho rfl (wpAny_pure ?_)))
  refine wpAny_bind (wpAny_of_eq (sliceIndices_raw (some (k : Int)) none none vs.size (by simp)) ?_)
  rw [hb]
  rw [if_pos (by rfl)]
  refine wpAny_bind (wpAny_rule ?_)
  rw [if_neg (show ¬ (Builtin.List.listTooLong (vs.size + (#[] : Array Value).size) = true) by
    unfold Builtin.List.listTooLong; simp only [List.size_toArray, List.length_nil, Nat.add_zero, decide_eq_true_eq, gt_iff_lt, Nat.not_lt]; exact size_of hsz)]
  have hfx : ∀ l : Array Value, l = vs → l.extract 0 (((min k vs.size : Nat) : Int)).toNat ++ #[] ++ l.extract (max ((min k vs.size : Nat) : Int) (vs.size : Int)).toNat = (vs.toList.take k).toArray := fun l e => by
    subst e
    have e1 : (max ((min k l.size : Nat) : Int) (l.size : Int)).toNat = l.size := by rw [Int.max_eq_right (Int.ofNat_le.mpr (Nat.min_le_right ..))]; rfl
    rw [e1, Int.toNat_natCast]; exact hv
  show wpAny _ _ (updateSeq a (fun xs => xs.extract 0 (((min k vs.size : Nat) : Int)).toNat ++ #[] ++ xs.extract (max ((min k vs.size : Nat) : Int) (vs.size : Int)).toNat) >>= _) _ _ _
  refine wpAny_bind (wpAny_updateSeq ho rfl ?_ (size_of hsz) ?_)
  · refine wpAny_bind (wpAny_letGo (wpAny_pure ⟨.none, rfl, wpAny_pure (hQ _ (if ((vs.toList.take k).toArray.size == vs.size) = true then n else n + 1) ?_ (Heap.SameBut.update ..))⟩))
    rw [Heap.get?_update_self _ ho (by rfl)]
    unfold Obj.mapSeq
    simp only [hfx vs rfl]
  · rw [hfx vs rfl]; simp only [List.size_toArray, List.length_take, Array.length_toList]; exact Nat.le_succ_of_le (size_of (by omega))
end
end Mine
end
section
open PySem PySem.W PyProof.Rows
set_option maxRecDepth 100000
set_option linter.unusedVariables false
namespace Mine
theorem def_push {c : Cx} (G : c.Good) : DefAt c 73 (fdOf c.w.params 73) (bodyOf c.w.params 73) ["self", "fws", "string"] where
  at_ := ⟨objOf c.w.params 73, by rw [G.K]; kernel_rfl, by kernel_rfl⟩
  body := by kernel_rfl
  clo := by kernel_rfl
  code := by rw [G.K]; kernel_rfl
  glob := by kernel_rfl
  bi := by kernel_rfl
  kind := by kernel_rfl
  co := by kernel_rfl
  gen := by kernel_rfl
  bind := all3 fun a b c => by kernel_rfl
  names := by kernel_rfl
  nodup := by decide
  scope := by kernel_rfl
theorem codeAny_call_cellsB {prog : Program} {w : World} {A : Around} {s : Shared} {R : Result → Shared → Prop} {a : Addr} {o : Obj} {fd : FuncData} {body : List Stmt} {vals : List Value} {binds : List (Str × Value)}
    (hroom : A.depth < recursionLimit) (ho : s.heap.get? a = some o) (hdata : o.data = .func fd) (hlim : s.heap.NoLimit) (hcd : s.heap.CodeRec fd.code fd.qualname)
    (hbody : fd.body = .stmts body) (hbind : BindsTo s fd ⟨vals, []⟩ binds) (hclo : fd.closure = [])
    (hkind : ∀ x ∈ binds, fd.scope.names.lookup x.1 = some .local ∨ (fd.scope.names.lookup x.1 = some .cell ∧ ((cellsFrom (s.heap.objs.size + 1) fd.scope.names []).lookup x.1).isSome = true))
    (h : ∀ s₁, InCallC s (callEnvC fd s.heap.objs.size a).locals (bindL (callEnvC fd s.heap.objs.size a).kindOf binds fun _ => none) (callEnvC fd s.heap.objs.size a).cells
        (bindC (callEnvC fd s.heap.objs.size a).kindOf binds fun _ => none) s₁ →
      wpAny (model prog w) (A.deeper (callEnvC fd s.heap.objs.size a)) (execs body (callEnvC fd s.heap.objs.size a)) (fun f s' => R (.ok (.ret (match f with | .ret v => v | _ => .none))) s')
        (fun e s' => wpAny (model prog w) (A.deeper (callEnvC fd s.heap.objs.size a)) (leaving (callEnvC fd s.heap.objs.size a) e) (fun _ s'' => R (.error e) s'') (fun e' s'' => R (.error e') s'') s') s₁)
    (hco : fd.scope.isCoroutine = false) (hgen : fd.scope.isGenerator = false) (hk : fd.scope.kind = .function) :
    codeAny (model prog w) A (.call (.ref a) ⟨vals, []⟩) R s := by
  refine codeAny_call_function hroom ho hdata hco hgen hbody hcd (hbind _ _ _ _ ?_)
  rw [hclo]
  refine wpAny_newFunctionEnv_cells hk hkind fun env he s' x => ?_
  subst he
  exact ⟨hlim.keeps x.toInCall.keep, codeAny_func (h s' x)⟩
structure DefB (c : Cx) (f : Addr) (fd : FuncData) (body : List Stmt) (xs : List Str) : Prop where
  at_ : ∃ o, c.K.lookup f = some o ∧ o.data = .func fd
  body : fd.body = .stmts body
  clo : fd.closure = []
  code : codeK c.K fd.code fd.qualname = true
  glob : fd.globals = mainGlobals
  bi : fd.builtins = builtinsNs
  kind : fd.scope.kind = .function
  co : fd.scope.isCoroutine = false
  gen : fd.scope.isGenerator = false
  bind : ∀ (vs : List Value) (s : Shared), vs.length = xs.length → St c s → BindsTo s fd ⟨vs, []⟩ (xs.zip vs)
  names : xs.all (fun x => fd.scope.names.lookup x == some .local || fd.scope.names.lookup x == some .cell) = true
  nodup : xs.Nodup
  scope : decide ((fd.scope.names.map (·.1)).Nodup) = true

theorem fn_enterB {c : Cx} (H : c.Ok) {f : Addr} {fd : FuncData} {body : List Stmt} {xs : List Str} {vs : List Value} {k : Nat} {A : Around} {s : Shared} {O : Addr → Prop} {Q : Value → Shared → Prop} (D : DefB c f fd body xs)
    (R : Room (k + 1) A) (S : St c s) (ow : Own O s.heap) (hl : vs.length = xs.length)
    (h : ∀ s₁ env lv, env = callEnvC fd s.heap.objs.size f → Room k (A.deeper env) → Fs c s.heap (Fo O env) env lv s₁ → (∀ x v, (x, v) ∈ xs.zip vs → lv x = some v) → (∀ b o, s.heap.get? b = some o → s₁.heap.get? b = some o) →
      wpAny (model c.prog c.w) (A.deeper env) (execs body env) (fun fl s' => Q (match fl with | .ret v => v | _ => .none) s') F0 s₁) :
    wpAny (model c.prog c.w) A (call (.ref f) vs) Q F0 s := by
  obtain ⟨o, hK, ho⟩ := D.at_
  obtain ⟨p', loose, mean, mg, mb, T⟩ := H.top
  have nl : s.heap.NoLimit := by
    obtain ⟨mc, hn, e⟩ := T.nolimit
    exact ⟨mc, ns_grow hn S.grow, e⟩
  have nod : ((xs.zip vs).map (·.1)).Nodup := by
    rw [List.map_fst_zip (by omega)]; exact D.nodup
  refine wpAny_call (codeAny_call_cellsB (o := o) (fd := fd) (body := body) (binds := xs.zip vs) R.depth (S.inK H hK (fun q => by obtain ⟨_, w, e⟩ := q; rw [ho] at e; cases e)) ho nl (codeK_rec H S D.code) D.body (D.bind vs s hl S) D.clo ?_ (fun s₁ X => ?_) D.co D.gen D.kind)
  · intro x hx
    have hm : x.1 ∈ xs := (List.of_mem_zip hx).1
    have := List.all_eq_true.mp D.names x.1 hm
    rw [Bool.or_eq_true] at this
    rcases this with q | q
    · exact .inl (by simpa using q)
    · refine .inr ⟨by simpa using q, ?_⟩
      exact cellsFrom_some _ _ _ (.inl (by simpa using q))
  · have hb : c.hB.objs.size ≤ s.heap.objs.size := S.grow.1
    obtain ⟨h₁, tk, rfl, hk⟩ := X.done
    have hsz : s.heap.objs.size ≤ h₁.objs.size := Nat.le_of_lt (Nat.lt_of_le_of_lt X.toInCall.fresh X.toInCall.ns.lt)
    have fr : ∀ b, FrameAddr (callEnvC fd s.heap.objs.size f) b → s.heap.objs.size ≤ b ∧ b < h₁.objs.size := fun b q => by
      rcases q with rfl | ⟨n, q⟩
      · exact ⟨X.toInCall.fresh, X.toInCall.ns.lt⟩
      · refine ⟨Nat.le_trans X.toInCall.fresh (Nat.le_of_lt (X.above n b q)), ?_⟩
        exact (X.cell n b (lookup_pair (cellsFrom_npairs _ _ [] (of_decide_eq_true D.scope) List.Pairwise.nil (fun _ hp => nomatch hp)) q)).lt
    have F : Fs c s.heap (Fo O (callEnvC fd s.heap.objs.size f)) (callEnvC fd s.heap.objs.size f) (lvOf (callEnvC fd s.heap.objs.size f).kindOf (xs.zip vs)) { s with heap := h₁, toks := tk } := by
      refine ⟨S.keeps hk hsz rfl rfl, ⟨D.kind, D.glob, D.bi, ?_, X.apart, fun n cl q => ⟨Nat.ne_of_gt (X.above n cl q), ?_⟩⟩, fun a q => ?_, fun b q => .inr q, ⟨⟨_, X.toInCall.ns, fun x hx => by unfold lvOf; rw [if_pos hx]⟩, fun x cl hx e => ?_⟩, ⟨hsz, fun b o _ e => hk b o e⟩, fun b q => (fr b q).1, hb⟩
      · exact Nat.le_trans hb X.toInCall.fresh
      · exact Nat.le_trans hb (Nat.le_trans X.toInCall.fresh (Nat.le_of_lt (X.above n cl q)))
      · rcases q with q | q
        · exact Nat.lt_of_lt_of_le (ow a q) hsz
        · exact (fr a q).2
      · have := X.cell x cl e
        unfold lvOf; rw [if_neg hx]; exact this
    refine wpAny_mono (h _ _ _ rfl (R.deeper _) F (fun x v hm => lvOf_get _ _ _ x v nod hm) hk) (fun fl s' q => q) fun _ _ f => f.elim
theorem def_popFrom {c : Cx} (G : c.Good) : DefB c 81 (fdOf c.w.params 81) (bodyOf c.w.params 81) ["self", "i"] where
  at_ := ⟨objOf c.w.params 81, by rw [G.K]; kernel_rfl, by kernel_rfl⟩
  body := by kernel_rfl
  clo := by kernel_rfl
  code := by rw [G.K]; kernel_rfl
  glob := by kernel_rfl
  bi := by kernel_rfl
  kind := by kernel_rfl
  co := by kernel_rfl
  gen := by kernel_rfl
  bind := fun vs s h S => by
    match vs, h with
    | [a, b], _ => exact kp_binds (inK_all G S) (by intro S; rw [G.K]; kernel_rfl)
  names := by kernel_rfl
  nodup := by decide
  scope := by kernel_rfl
section
variable {c : Cx} {env : Env} {b : Blk} {k : Nat} {ρ : List (Str × D)} {ω : OL} {A : Around} {s s' : Shared} {O : Addr → Prop}
theorem PAt.ne {a d : Addr} {o : Obj} {vs : Array Value} {n : Nat} (P : PAt s a d o vs n) : d ≠ a := fun e => by
  have h1 := P.dict
  rw [e, P.at_] at h1
  cases h1
  have := P.ok.1
  cases this
/-- y.append(e) on a pile -/
theorem sx_pAppend {y : Str} {p apos pos epos : Pos} {e : Expr} {d : D} {a : Addr} {ds : List D} {pl : Sem Bool} {Q : Flow → Shared → Prop} (G : c.Good) (X : SxEv c env b k ρ ω e d) (R : Room k A) (x : Sx c env b ρ ω s)
    (hm : ω.lookup y = some (a, .pile ds)) (hz : ds.length ≤ 1000) (h : ∀ s', Sx c env b ρ (oset ω y (.pile (ds ++ [d]))) s' → Q .next s')
    (hy : Has env y = true := by kernel_rfl) (he : MethForm (.Name y p) "append" apos pos [e] env pl := by rfl) (hs : starEach [e] env = (false, eval e env) :: starEach [] env := by rfl)
    (hi : interactive env = false := by kernel_rfl) (hw : swapsWith (.Call (.Attribute (.Name y p) "append" apos) [e] [] pos) none epos.line env = pure false := by rfl) (hd : (y == ("__debug__" : Str)) = false := by decide) (ha : anon y = false := by decide) :
    wpAny (model c.prog c.w) A (exec (.Expr (.Call (.Attribute (.Name y p) "append" apos) [e] [] pos) epos) env) Q F0 s := by
  have hm' := lookup_mem hm
  obtain ⟨lv, F, B, W⟩ := id x.ex
  refine wpAny_Expr (MethodCall_ (pl := pl) (load_name F hy ((W _ hm').1.resolve_left (by rw [ha]; nofun)) ?_ hd) he) hi hw
  obtain ⟨dd, o, vs, n, ho, ⟨h1, h2, h3⟩, r⟩ := (W _ hm').2
  refine pile_method (t := .type "method_descriptor") (f := .builtin "list.append") ⟨ho, h1, h3⟩ G F.st (by decide) (by rw [G.K]; kernel_rfl) (by rw [G.K]; kernel_rfl) (by decide) ?_
  refine callWith_method1 ?_ hs rfl
  rw [hs]
  refine Calls.spliced_cons (X A s _ R x fun v s₁ x₁ g₁ i => Calls.spliced_nil ?_)
  obtain ⟨lv1, F1, B1, W1⟩ := id x₁.ex
  obtain ⟨dd1, o1, vs1, n1, ho1, ⟨k1, k2, k3⟩, r1⟩ := (W1 _ hm').2
  have P1 : PAt s₁ a dd1 o1 vs1 n1 := ⟨ho1, k1, k3⟩
  refine pile_append P1 G F1.st (by rw [← Array.length_toList, r1.length]; exact size_of hz) fun h' n' ho' hs' => ?_
  refine h _ (x₁.set (s' := { s₁ with heap := h' }) hm' hs' rfl rfl ⟨dd1, o1, _, n', ho', ⟨(hs'.2 _ P1.ne).trans k1, k2, k3⟩, ?_⟩)
  rw [Array.toList_push]
  exact (r1.append (.single i)).chg (SameBut.chg hs' (.inr ⟨_, hm', rfl⟩))
theorem push_ok (G : c.Good) {a : Addr} {ds : List D} {m w : Str} {v1 v2 : Value} (R : Room (k + 1) A) (S : St c s) (ow : Own O s.heap) (ha : O a) (hl : c.hB.objs.size ≤ a) (P : OwnP c O s.heap a ds) (hz : ds.length ≤ 1000)
    (i1 : Is c O s.heap (.str m) v1) (i2 : Is c O s.heap (.str w) v2) :
    wpAny (model c.prog c.w) A (call (.ref 73) [.ref a, v1, v2]) (fun v s' => v = .none ∧ St c s' ∧ Chg (fun z => z = a ∨ s.heap.objs.size ≤ z) s.heap s'.heap ∧ OwnP c O s'.heap a (ds ++ [.tuple [.str m, .str w]])) F0 s := by
  refine fn_enterX (ρ := [("fws", .str m), ("string", .str w)]) (ω := [("self", a, .pile ds)]) ((def_push G).enters G.ok) R S ow rfl (fun x d e => ?_) (fun w hw => ?_) (List.pairwise_singleton _ _) fun X s₁ hO R' x => ?_
  · rw [List.lookup_cons] at e
    cases q : x == ("fws" : Str) with
    | true => rw [q] at e; cases e; rw [beq_iff_eq.mp q]; exact ⟨v1, by simp, i1⟩
    | false =>
      rw [q] at e
      simp only at e
      rw [List.lookup_cons] at e
      cases q' : x == ("string" : Str) with
      | true => rw [q'] at e; cases e; rw [beq_iff_eq.mp q']; exact ⟨v2, by simp, i2⟩
      | false => rw [q'] at e; cases e
  · rw [List.mem_singleton.mp hw]
    exact ⟨by simp, ha, hl, P⟩
  · refine sx_seq (sx_pAppend (d := .tuple [.str m, .str w]) G (EvO.sx (ev_tuple (ds := [.str m, .str w]) (evs_cons (ev_name (by kernel_rfl) rfl) (evs_cons (ev_name (by kernel_rfl) rfl) evs_nil)))) R' x rfl hz fun s2 x2 => wpAny_execs_nil ?_)
    have e : oset [("self", a, OD.pile ds)] "self" (.pile (ds ++ [.tuple [.str m, .str w]])) = ([("self", a, OD.pile (ds ++ [.tuple [.str m, .str w]]))] : OL) := rfl
    rw [e] at x2
    obtain ⟨lv, F, B, W⟩ := id x2.ex
    refine ⟨rfl, F.st, x2.chg.sub fun z q => ?_, ((W _ (List.mem_singleton.mpr rfl)).2.sub fun b q => OX.eq_of (ω' := [("self", a, OD.pile ds)]) (ω := [("self", a, OD.pile (ds ++ [.tuple [.str m, .str w]]))]) rfl (hO b q) : OwnX c O s2.heap a (.pile _))⟩
    rcases q with ⟨w, hw, e⟩ | q
    · rw [List.mem_singleton.mp hw] at e; exact .inl e.symm
    · exact .inr q

theorem SxEv.as {e : Expr} {d d' : D} (X : SxEv c env b k ρ ω e d) (h : d = d') : SxEv c env b k ρ ω e d' := h ▸ X
/-- y[i:] of a pile -/
theorem sxev_pSlice {y : Str} {p1 p2 p3 : Pos} {e : Expr} {i : Int} {a : Addr} {ds : List D} (G : c.Good) (Y : SxEv c env b k ρ ω e (.int i)) (hm : ω.lookup y = some (a, .pile ds)) (hz : ds.length ≤ 1000)
    (hy : Has env y = true := by kernel_rfl) (hd : (y == ("__debug__" : Str)) = false := by decide) (ha : anon y = false := by decide) :
    SxEv c env b k ρ ω (.Subscript (.Name y p1) (.Slice (some e) none none p2) p3) (.list (cut ds (some i) none)) := fun A s Q R x h => by
  have hm' := lookup_mem hm
  obtain ⟨lv, F, B, W⟩ := id x.ex
  refine Subscript_ (load_name F hy ((W _ hm').1.resolve_left (by rw [ha]; nofun)) (wpAny_Slice (Y A s _ R x fun l s₁ x₁ g₁ pl => wpAny_pure (wpAny_pure ?_))) hd)
  unfold Is at pl
  obtain ⟨t, rfl⟩ := pl
  obtain ⟨lv1, F1, B1, W1⟩ := id x₁.ex
  obtain ⟨dd, o, vs, n, ho, ⟨h1, h2, h3⟩, r⟩ := (W1 _ hm').2
  have P1 : PAt s₁ a dd o vs n := ⟨ho, h1, h3⟩
  have gp := Grow.push s₁.heap { cls := .type "slice", data := .fields #[.int i t, .none, .none] }
  have x₂ := x₁.go (s' := { s₁ with heap := s₁.heap.push { cls := .type "slice", data := .fields #[.int i t, .none, .none] } }) (x₁.st.push _ rfl rfl) gp
  have P2 : PAt { s₁ with heap := s₁.heap.push { cls := .type "slice", data := .fields #[.int i t, .none, .none] } } a dd o vs n := ⟨Heap.get?_push_of_some _ ho, Heap.get?_push_of_some _ h1, h3⟩
  have hl : vs.size = ds.length := by rw [← r.length]; simp
  unfold subscriptTail getitemInPython
  refine wpAny_bind (wpAny_bind (wpAny_bind (P2.inst.type.here ((looks_findIn (inK_all G x₂.st) (r := some (.builtin "list.__getitem__")) (by rw [G.K]; kernel_rfl)).here ?_))))
  refine wpAny_pure ?_
  show wpAny _ A (operate [.ref s₁.heap.objs.size, .ref a] (getItem (.ref a) (.ref s₁.heap.objs.size)) >>= _) _ _ _
  refine wpAny_bind (wpAny_operateT (pile_getSlice P2 G x₂.st (Heap.IsSliceOf.new ..) (.int i t) .none (by rw [hl]; exact size_of hz) ?_))
  refine wpAny_bind (wpAny_letTemporaryGo (wpAny_pure ?_))
  obtain ⟨lv2, F2, B2, W2⟩ := id x₂.ex
  have r' := (r.grow gp).drop (clipAt ds.length i) |>.take (ds.length - clipAt ds.length i)
  have z := Is.newList x₂.st F2.own r'
  rw [slicePick_plain, hl]
  exact h _ _ (x₂.go z.1 z.2.1) ((g₁.trans gp).trans z.2.1) z.2.2
/-- y[i:] = [] of a pile -/
theorem sx_pSetSlice {y : Str} {p1 p2 p3 p4 pos : Pos} {e : Expr} {i : Nat} {a : Addr} {ds : List D} {Q : Flow → Shared → Prop} (G : c.Good) (Y : SxEv c env b k ρ ω e (.int i)) (R : Room k A) (x : Sx c env b ρ ω s) (hm : ω.lookup y = some (a, .pile ds)) (hz : ds.length ≤ 1000)
    (h : ∀ s', Sx c env b ρ (oset ω y (.pile (ds.take i))) s' → Q .next s')
    (hy : Has env y = true := by kernel_rfl) (hs : swapsWith (.List [] p4) (some (.Subscript (.Name y p1) (.Slice (some e) none none p2) p3)) pos.line env = pure false := by rfl) (hd : (y == ("__debug__" : Str)) = false := by decide) (ha : anon y = false := by decide) :
    wpAny (model c.prog c.w) A (exec (.Assign [.Subscript (.Name y p1) (.Slice (some e) none none p2) p3] (.List [] p4) pos) env) Q F0 s := by
  have hm' := lookup_mem hm
  refine wpAny_Assign_Subscript (List_ (Calls.spliced_nil (wpAny_newList ?_ (by decide)))) hs
  have hnl : (s.heap.push { cls := .type "list", data := .seq #[] }).get? s.heap.objs.size = some { cls := .type "list", data := .seq #[] } := Heap.get?_push_size _ rfl
  have x₀ := x.go (s' := { s with heap := s.heap.push { cls := .type "list", data := .seq #[] } }) (x.st.push _ rfl rfl) (Grow.push _ _)
  obtain ⟨lv, F, B, W⟩ := id x₀.ex
  refine load_name F hy ((W _ hm').1.resolve_left (by rw [ha]; nofun)) (wpAny_Slice (Y A _ _ R x₀ fun l s₁ x₁ g₁ pl => wpAny_pure (wpAny_pure ?_))) hd
  unfold Is at pl
  obtain ⟨t, rfl⟩ := pl
  obtain ⟨lv1, F1, B1, W1⟩ := id x₁.ex
  obtain ⟨dd, o, vs, n, ho, ⟨h1, h2, h3⟩, r⟩ := (W1 _ hm').2
  have gp := Grow.push s₁.heap { cls := .type "slice", data := .fields #[.int (i : Int) t, .none, .none] }
  have x₂ := x₁.go (s' := { s₁ with heap := s₁.heap.push { cls := .type "slice", data := .fields #[.int (i : Int) t, .none, .none] } }) (x₁.st.push _ rfl rfl) gp
  have P2 : PAt { s₁ with heap := s₁.heap.push { cls := .type "slice", data := .fields #[.int (i : Int) t, .none, .none] } } a dd o vs n := ⟨Heap.get?_push_of_some _ ho, Heap.get?_push_of_some _ h1, h3⟩
  have hl : vs.size = ds.length := by rw [← r.length]; simp
  refine pile_setSlice (m := 0) P2 G x₂.st (Heap.IsSliceOf.new ..) (.int _ t) (gp.2 _ _ (not_frail_cls nofun) (g₁.2 _ _ (not_frail_cls nofun) hnl)) (by rw [hl]; exact hz) fun h' n' ho' hs' => ?_
  refine h _ (x₂.set (s' := { s₁ with heap := h' }) hm' hs' rfl rfl ⟨dd, o, _, n', ho', ⟨(hs'.2 _ P2.ne).trans P2.dict, h2, h3⟩, ?_⟩)
  exact ((r.grow gp).take i).chg (SameBut.chg hs' (.inr ⟨_, hm', rfl⟩))
theorem popFrom_ok (G : c.Good) {a : Addr} {ds : List D} {i : Nat} {v1 : Value} (R : Room (k + 1) A) (S : St c s) (ow : Own O s.heap) (ha : O a) (hl : c.hB.objs.size ≤ a) (P : OwnP c O s.heap a ds) (hz : ds.length ≤ 1000)
    (i1 : Is c O s.heap (.int i) v1) :
    wpAny (model c.prog c.w) A (call (.ref 81) [.ref a, v1]) (fun v s' => St c s' ∧ Chg (fun z => z = a ∨ s.heap.objs.size ≤ z) s.heap s'.heap ∧ OwnP c O s'.heap a (ds.take i) ∧ Is c O s'.heap (.list (ds.drop i)) v) F0 s := by
  refine fn_enterX (ρ := [("i", .int i)]) (ω := [("self", a, .pile ds)]) (fun R S ow hl h => fn_enterB G.ok (def_popFrom G) R S ow hl h) R S ow rfl (fun x d e => ?_) (fun w hw => ?_) (List.pairwise_singleton _ _) fun X s₁ hO R' x => ?_
  · rw [List.lookup_cons] at e
    cases q : x == ("i" : Str) with
    | true => rw [q] at e; cases e; rw [beq_iff_eq.mp q]; exact ⟨v1, by simp, i1⟩
    | false => rw [q] at e; cases e
  · rw [List.mem_singleton.mp hw]
    exact ⟨by simp, ha, hl, P⟩
  · have hcut : D.list (cut ds (some (i : Int)) none) = .list (ds.drop i) := by
      unfold cut
      simp only [Option.elim, clip_nat]
      rw [List.take_of_length_le (by rw [List.length_drop]; exact Nat.le_refl _)]
      congr 1
      by_cases h : i ≤ ds.length
      · rw [Nat.min_eq_left h]
      · rw [Nat.min_eq_right (by omega), List.drop_length, List.drop_eq_nil_of_le (by omega)]
    refine sx_seq (sx_assign (SxEv.as (sxev_pSlice G (EvO.sx (ev_name (by kernel_rfl) rfl)) rfl hz) hcut) R' x fun s2 x2 => ?_)
    refine sx_seq (sx_pSetSlice G (EvO.sx (ev_name (by kernel_rfl) rfl)) R' x2 rfl hz fun s3 x3 => ?_)
    have e : oset [("self", a, OD.pile ds)] "self" (.pile (ds.take i)) = ([("self", a, OD.pile (ds.take i))] : OL) := rfl
    rw [e] at x3
    refine st_seq (sx_return (EvO.sx (ev_name (by kernel_rfl) rfl)) R' x3 fun v s4 x4 iv => ?_)
    obtain ⟨lv, F, B, W⟩ := id x4.ex
    refine ⟨F.st, x4.chg.sub fun z q => ?_, ((W _ (List.mem_singleton.mpr rfl)).2.sub fun b q => OX.eq_of (ω' := [("self", a, OD.pile ds)]) (ω := [("self", a, OD.pile (ds.take i))]) rfl (hO b q) : OwnX c O s4.heap a (.pile _)), iv.sub fun b q => OX.eq_of (ω' := [("self", a, OD.pile ds)]) (ω := [("self", a, OD.pile (ds.take i))]) rfl (hO b q)⟩
    rcases q with ⟨w, hw, e⟩ | q
    · rw [List.mem_singleton.mp hw] at e; exact .inl e.symm
    · exact .inr q
end
end Mine
end
section
open PySem PySem.W PyProof.Rows
set_option maxRecDepth 100000
set_option linter.unusedVariables false
namespace Mine
/-- an object that bears items in a row -/
noncomputable def IsSeq (h : Heap) (l : Addr) (C : Value) (d : Option Addr) (items : Array Value) : Prop := ∃ n, h.get? l = some { cls := C, dict := d, data := .seq items n }
section
variable {prog : Program} {w : World} {A : Around} {E : Value → Shared → Prop} {s : Shared}
theorem seqNext_item {it l : Addr} {C : Value} {d : Option Addr} {i : Nat} {items : Array Value} {x : Value} {Q : Option Value → Shared → Prop} (hit : s.heap.IsListIter it l i)
    (hl : IsSeq s.heap l C d items) (hx : items[i]? = some x)
    (hQ : ∀ h', h'.IsListIter it l (i + 1) → Heap.SameBut it s.heap h' → Q (some x) { s with heap := h' }) :
    wpAny (model prog w) A (pyNext (.ref it)) Q E s := by
  obtain ⟨o, ho, hc, hd⟩ := id hit
  obtain ⟨nl, hol⟩ := hl
  unfold pyNext
  refine wpAny_bind (wpAny_attempt (wpAny_callSpecial?_slot (name := Str.ofString "__next__") hit.typeIs slot_listiter_next
    (wpAny_call_entry slot_listiter_next hit.typeIs entry_listiter_next ?_ (args_listiter_next _))))
  show wpAny _ _ (field (.ref it) 0 >>= _) _ _ s
  refine wpAny_bind (wpAny_field ho hd (x := .ref l) rfl ?_)
  show wpAny _ _ (if (Value.ref l == Value.none) = true then _ else _) _ _ s
  rw [if_neg (show ¬ ((Value.ref l == Value.none) = true) from Bool.false_ne_true)]
  show wpAny _ _ (field (.ref it) 1 >>= _) _ _ s
  refine wpAny_bind (wpAny_field ho hd (x := .int i 0) rfl ?_)
  show wpAny _ _ (seqItems? (.ref l) >>= _) _ _ s
  refine wpAny_bind (wpAny_seqItems hol rfl ?_)
  simp only [Int.toNat_natCast, hx]
  refine wpAny_bind (wpAny_setField ho hd (by simp) (wpAny_pure ⟨x, rfl, wpAny_pure (hQ _ ?_ (Heap.SameBut.update ..))⟩))
  exact ⟨_, Heap.get?_update_self _ ho (Obj.isFreed_of_fields (Obj.data_mapFields hd _)), (Obj.cls_mapFields ..).trans hc, by
    rw [Obj.data_mapFields hd]; simp [rawInt]⟩
theorem seqNext_end {it l : Addr} {C : Value} {d : Option Addr} {i : Nat} {items : Array Value} {Q : Option Value → Shared → Prop} (hh : A.handled = none)
    (hit : s.heap.IsListIter it l i) (hl : IsSeq s.heap l C d items) (hx : items[i]? = none)
    (hQ : ∀ h', Heap.ExtBut it s.heap h' → Q none { s with heap := h' }) : wpAny (model prog w) A (pyNext (.ref it)) Q E s := by
  obtain ⟨o, ho, hc, hd⟩ := id hit
  obtain ⟨nl, hol⟩ := hl
  unfold pyNext
  refine wpAny_bind (wpAny_attempt (wpAny_callSpecial?_slot (name := Str.ofString "__next__") hit.typeIs slot_listiter_next
    (wpAny_call_entry slot_listiter_next hit.typeIs entry_listiter_next ?_ (args_listiter_next _))))
  show wpAny _ _ (field (.ref it) 0 >>= _) _ _ s
  refine wpAny_bind (wpAny_field ho hd (x := .ref l) rfl ?_)
  show wpAny _ _ (if (Value.ref l == Value.none) = true then _ else _) _ _ s
  rw [if_neg (show ¬ ((Value.ref l == Value.none) = true) from Bool.false_ne_true)]
  show wpAny _ _ (field (.ref it) 1 >>= _) _ _ s
  refine wpAny_bind (wpAny_field ho hd (x := .int i 0) rfl ?_)
  show wpAny _ _ (seqItems? (.ref l) >>= _) _ _ s
  refine wpAny_bind (wpAny_seqItems hol rfl ?_)
  simp only [Int.toNat_natCast, hx]
  refine wpAny_bind (wpAny_rule (wpAny_bind (wpAny_setField ho hd (by simp) ?_)))
  show wpAny _ _ (newExc (.type "StopIteration") [] >>= _) _ _ _
  refine wpAny_bind ?_
  simp only [newExc, newTuple]
  refine wpAny_bind (wpAny_newObj_type ?_ (by size_fits))
  refine wpAny_bind (m := firstArgMember _ _) (wpAny_of_eq (a := Value.none) (by first | rfl | (simp only [firstArgMember]; rfl)) ?_)
  refine wpAny_newObj_type ?_ (by size_fits)
  simp only [raiseNew]
  refine wpAny_bind (wpAny_handled ?_)
  rw [show A.in1.handled = none from hh]
  refine wpAny_bind (wpAny_pure (wpAny_throw ?_))
  refine wpAny_bind (wpAny_isInstance (T := "StopIteration") (b := true) ⟨_, Heap.get?_push_size _ rfl, rfl⟩ isSubtype_stop ?_)
  exact wpAny_pure (hQ _ (((Heap.SameBut.update ..).extBut.push _).push _))
end
section
variable {c : Cx} {O : Addr → Prop} {k : Nat} {env : Env} {ρ : List (Str × D)} {A : Around} {s : Shared}
theorem wk_pile {tgt : Expr} {N : Nat} {l W : Addr} {vs : Array Value} {d : Addr} {items : List D} (hW : N ≤ W) (hl : l < N) (hO : ¬ O l) :
    Wk c O tgt N W items (fun i h => h.IsListIter W l i ∧ IsSeq h l (.ref 129) (some d) vs ∧ IsAll c (Up O N) h items vs.toList) where
  new := hW
  live := fun i h x => let ⟨o, ho, _⟩ := x.1; Heap.lt_size ho
  frame := fun i h h' x hk => by
    obtain ⟨⟨o, ho, hc, hd⟩, ⟨n, hl'⟩, r⟩ := x
    exact ⟨⟨o, hk W o (.inr rfl) (not_frail_cls (by rw [hc]; nofun)) ho, hc, hd⟩, ⟨n, hk l _ (.inl ⟨hO, hl⟩) (not_frail_cls nofun) hl'⟩, IsAll.mono (fun _ q => q) (fun b o nb f e => hk b o (.inl (notO_of nb)) f e) _ _ r⟩
  item := fun A i d' s O' Q E hh hd x hO' ow hQ => by
    obtain ⟨hit, hl', r⟩ := x
    obtain ⟨v, hv, y⟩ := r.get hd
    refine seqNext_item hit hl' (by simpa using hv) fun h' hit' hs => ?_
    obtain ⟨o, ho, hc, hdt⟩ := hit'
    refine letOwned_other (T := "list_iterator") ho hc (by decide) ?_
    have hlW : l ≠ W := Nat.ne_of_lt (Nat.lt_of_lt_of_le hl hW)
    have kk : ∀ b o, ¬ Up O N b → ¬ Frail o → s.heap.get? b = some o → h'.get? b = some o := fun b o nb f e => (hs.2 b (Nat.ne_of_lt (Nat.lt_of_lt_of_le (notO_of nb).2 hW))).trans e
    obtain ⟨n, hl'⟩ := hl'
    exact hQ v h' _ (Is.mono (fun a q => hO' a q) kk _ _ y) ⟨⟨o, ho, hc, hdt⟩, ⟨n, (hs.2 l hlW).trans hl'⟩, IsAll.mono (fun _ q => q) kk _ _ r⟩ hs.extBut (Nat.le_of_eq hs.1.symm)
  done := fun A s Q E hh x hQ => by
    obtain ⟨hit, hl', r⟩ := x
    have hz : vs.toList[items.length]? = none := by rw [List.getElem?_eq_none_iff, r.length]; exact Nat.le_refl _
    have key : ∀ E, wpAny (model c.prog c.w) A (pyNext (.ref W)) (fun r s₁ => r = none ∧ ∃ h', s₁ = { s with heap := h' } ∧ Heap.ExtBut W s.heap h') E s := fun E =>
      seqNext_end hh hit hl' (by simpa using hz) fun h' hx => ⟨rfl, h', rfl, hx⟩
    refine wpAny_mono (wpAny_size (key E)) (fun r s₁ y => ?_) fun _ _ f => f.1
    obtain ⟨⟨e1, h', e2, hx⟩, hsz⟩ := y
    subst e1 e2
    exact ⟨rfl, hQ h' _ hx hsz⟩
  self := fun A i s Q E x hQ => wpAny_pyIter_listiter x.1 hQ
theorem it_pile (G : c.Good) {e tgt : Expr} {ds : List D} (X : EvO c O k env ρ e (.pile ds)) : ItO c O k env ρ e tgt ds := fun A s R S V =>
  X.use R S V fun v s₁ S₁ g₁ i => by
    have up := Is.up (Nat.le_refl _) _ _ i
    unfold Is at up
    obtain ⟨a, d, o, vs, n, rfl, na, ho, ⟨h1, h2, h3⟩, r⟩ := up
    have P : PAt s₁ a d o vs n := ⟨ho, h1, h3⟩
    refine pile_iter P G S₁ ?_
    have gp := Grow.push s₁.heap { cls := .type "list_iterator", data := .fields #[.ref a, .int 0 0] }
    refine ⟨S₁.push _ rfl rfl, g₁.trans gp, s₁.heap.objs.size, s₁.heap.objs.size, _, rfl, g₁.1, ?_, wk_pile (vs := vs) (d := d) (Nat.le_refl _) (Heap.lt_size ho) (notO_of na).1⟩
    exact ⟨⟨_, Heap.get?_push_size _ rfl, rfl, rfl⟩, ⟨n, Heap.get?_push_of_some _ ho⟩, r.grow gp⟩
end
end Mine
end
section
open PySem PySem.W PyProof.Rows
set_option maxRecDepth 100000
set_option linter.unusedVariables false
namespace Mine
theorem def_str {c : Cx} (G : c.Good) : DefAt c 103 (fdOf c.w.params 103) (bodyOf c.w.params 103) ["self"] where
  at_ := ⟨objOf c.w.params 103, by rw [G.K]; kernel_rfl, by kernel_rfl⟩
  body := by kernel_rfl
  clo := by kernel_rfl
  code := by rw [G.K]; kernel_rfl
  glob := by kernel_rfl
  bi := by kernel_rfl
  kind := by kernel_rfl
  co := by kernel_rfl
  gen := by kernel_rfl
  bind := all1 fun a => by kernel_rfl
  names := by kernel_rfl
  nodup := by decide
  scope := by kernel_rfl
abbrev Mark := Str × Str
noncomputable def markD (p : Mark) : D := .tuple [.str p.1, .str p.2]
noncomputable def marksD (l : List Mark) : List D := l.map markD
noncomputable def markText (p : Mark) : Str := Txt.join "" [p.1, p.2]
noncomputable def pileText (l : List Mark) : Str := Txt.join "" (l.map markText)
noncomputable def tokE (P : Params) : Tok := match nsIn (KM P) mainGlobals "EMPTYSTRING" with
  | some (some (.str _ t)) => t
  | _ => 0
theorem empty_at (P : Params) : nsIn (KM P) mainGlobals "EMPTYSTRING" = some (some (.str "" (tokE P))) := by kernel_rfl
section
variable {c : Cx} {O : Addr → Prop} {k : Nat} {env : Env} {ρ : List (Str × D)} {A : Around} {s : Shared}
theorem joinTuple {prog : Program} {w : World} {E : Value → Shared → Prop} {x : Str} {t : Tok} {D : Addr} {n : Nat} {l : List (Str × Tok)} {texts : List Str} {Q : Value → Shared → Prop} (hl : s.heap.get? D = some { cls := .type "tuple", data := .seq (strValues l).toArray n }) (ht : l.map (·.1) = texts) (hok : JoinOk x texts = true)
    (hq : ∀ t' k, Q (.str (Txt.join x texts) t') { s with toks := k }) : wpAny (model prog w) A (call (.builtin "str.join") [.str x t, .ref D]) Q E s := by
  subst ht
  unfold JoinOk at hok
  rw [Bool.not_eq_true'] at hok
  exact call_meets F.slot_str_join (typeIs_str _ _ _) F.entry_str_join (F.args_str_join_2 _ _) (meets_str_join_tuple x t D l hok) ⟨⟨_, n, hl, rfl, rfl⟩, post_join l ⟨joinFit_length hok, hq⟩⟩
noncomputable def tupAddr (vs : Array Value) (j : Nat) : Addr := match vs[j]? with
  | some (.ref a) => a
  | _ => 0
noncomputable def tupVals (h : Heap) (a : Addr) : Array Value := match h.get? a with
  | some ⟨_, _, .seq xs _, _⟩ => xs
  | _ => #[]
theorem IsAll.two' {h : Heap} {d d' : D} {vs : List Value} (i : IsAll c O h [d, d'] vs) : ∃ v v', vs = [v, v'] ∧ Is c O h d v ∧ Is c O h d' v' := by
  unfold IsAll at i
  obtain ⟨v, r, rfl, a, b⟩ := i
  unfold IsAll at b
  obtain ⟨v', r', rfl, a', b'⟩ := b
  unfold IsAll at b'
  subst b'
  exact ⟨v, v', rfl, a, a'⟩
theorem marks_at {h : Heap} {l : List Mark} {vs : Array Value} (i : IsAll c O h (marksD l) vs.toList) {j : Nat} (hj : j < vs.size) : ∃ p n t u, l[j]? = some p ∧ vs[j]? = some (.ref (tupAddr vs j)) ∧ h.get? (tupAddr vs j) = some { cls := .type "tuple", data := .seq #[.str p.1 t, .str p.2 u] n } := by
  have e : vs.toList[j]? = some vs[j] := by simp [hj]
  obtain ⟨d, h1, h2⟩ := i.get' e
  unfold marksD at h1
  rw [List.getElem?_map, Option.map_eq_some_iff] at h1
  obtain ⟨p, h3, rfl⟩ := h1
  unfold markD at h2
  unfold Is at h2
  obtain ⟨a, ws, n, hv, na, ho, r⟩ := h2
  obtain ⟨v1, v2, e1, i1, i2⟩ := IsAll.two' r
  unfold Is at i1 i2
  obtain ⟨t, rfl⟩ := i1
  obtain ⟨u, rfl⟩ := i2
  have ev : vs[j]? = some (.ref a) := by rw [← hv]; simp [hj]
  have ea : tupAddr vs j = a := by unfold tupAddr; rw [ev]
  refine ⟨p, n, t, u, h3, ea ▸ ev, ?_⟩
  rw [ea, ho]
  have : ws = #[.str p.1 t, .str p.2 u] := by apply Array.ext'; rw [e1]
  rw [this]

theorem walks_pile {prog : Program} {w : World} {A : Around} (hh : A.handled = none) (I ax d : Addr) (hne : ax ≠ I) (items : Array Value) (Ts : Nat → Addr) (vals : Nat → Array Value)
    (hit : ∀ j, j < items.size → items[j]? = some (.ref (Ts j))) (hTI : ∀ j, j < items.size → Ts j ≠ I) :
    WalksU prog w A I (I :: ax :: (List.range items.size).map Ts) [I] items.size (fun j v => j < items.size ∧ v = vals j)
      (fun j h => h.IsListIter I ax j ∧ IsSeq h ax (.ref 129) (some d) items ∧ ∀ k, k < items.size → h.IsTuple (Ts k) (vals k))
      (fun j T h => (j < items.size ∧ T = Ts j) ∧ h.IsListIter I ax (j + 1) ∧ IsSeq h ax (.ref 129) (some d) items ∧ ∀ k, k < items.size → h.IsTuple (Ts k) (vals k)) where
  sub := fun b hb => by simp at hb; simp [hb]
  frame := fun _ _ _ st hk => ⟨st.1.at fun o e => hk I (by simp) o e, let ⟨n, e⟩ := st.2.1; ⟨n, hk ax (by simp) _ e⟩,
    fun k hk' => (st.2.2 k hk').at fun o e => hk (Ts k) (List.mem_cons_of_mem _ (List.mem_cons_of_mem _ (List.mem_map.mpr ⟨k, List.mem_range.mpr hk', rfl⟩))) o e⟩
  item := fun i s Q E hi st hQ => by
    refine seqNext_item st.1 st.2.1 (x := .ref (Ts i)) (hit i hi) fun h' hit' hs' => ?_
    have tup : ∀ k, k < items.size → h'.IsTuple (Ts k) (vals k) := fun k hk' => (st.2.2 k hk').extBut hs'.extBut (hTI k hk')
    exact hQ (Ts i) (vals i) h' s.toks ⟨hi, rfl⟩ (tup i hi) ⟨⟨hi, rfl⟩, hit', (let ⟨n, e⟩ := st.2.1; ⟨n, hs'.extBut _ _ hne e⟩), tup⟩ fun b o hb e => hs'.extBut b o (fun h => hb (by simp [h])) e
  go := fun _ _ _ _ _ s Q _ hm hQ => wpAny_letOwnedTupleGo_listiter hm.2.1 (hQ s.heap hm.2 fun _ _ _ e => e)
  apart := fun j T _ hm hmem => by
    rcases List.mem_cons.mp hmem with e | e
    · exact hTI j hm.1.1 (hm.1.2 ▸ e)
    · cases e
  done := fun s Q E st hQ => seqNext_end hh st.1 st.2.1 (by simp) fun h' he' => hQ h' s.toks fun b o hb e => he' b o (fun h => hb (by simp [h])) e
  self := fun _ _ _ _ st hQ => wpAny_pyIter_listiter st.1 hQ
/-- EMPTYSTRING.join((EMPTYSTRING.join((fws, part)) for fws, part in self)) -/
theorem ev_joinGen (G : c.Good) (SS : Sites c) {cA P : Addr} (hm : (cA, P) ∈ c.sites) (hc : env.code = .ref cA) {l : List Mark} {p0 p1 ap ap1 sp pos cp tp gp pt q1 q2 q3 q4 : Pos} {m kt : Nat} {scope : Scope} {pl : Sem Bool} {pl1 : Addr → Value → Sem Bool}
    (X : EvO c O (k + 1) env ρ (.Name "self" sp) (.pile (marksD l))) (hz : l.length ≤ 1000) (hj : JoinOk "" (l.map markText) = true) (hj1 : ∀ p ∈ l, JoinOk "" [p.1, p.2] = true)
    (hx : env.kindOf "EMPTYSTRING" = some .globalImplicit) (hx1 : scope.names.lookup ("EMPTYSTRING" : Str) = some .globalImplicit)
    (hclos : closureFor scope env = pure []) (h0 : scope.names.lookup (".0" : Str) = some NameKind.local) (hxa : scope.names.lookup ("fws" : Str) = some .local) (hxb : scope.names.lookup ("part" : Str) = some .local)
    (hsc : (!scope.isCoroutine && scope.kind == .function && scope.names.all (fun y => y.2 != .cell) && decide (("fws" : Str) ≠ "part")) = true)
    (he1 : ∀ C code, MethForm (.Name "EMPTYSTRING" p1) "join" ap1 cp [.Tuple [.Name "fws" q1, .Name "part" q2] m tp] (genEnv scope [] C code builtinsNs env) (pl1 C code))
    (he : MethForm (.Name "EMPTYSTRING" p0) "join" ap pos [.GeneratorExp (.Call (.Attribute (.Name "EMPTYSTRING" p1) "join" ap1) [.Tuple [.Name "fws" q1, .Name "part" q2] m tp] [] cp) [⟨.Tuple [.Name "fws" q3, .Name "part" q4] kt pt, .Name "self" sp, [], 0⟩] scope gp] env pl) :
    EvO c O (k + 1) env ρ (.Call (.Attribute (.Name "EMPTYSTRING" p0) "join" ap) [.GeneratorExp (.Call (.Attribute (.Name "EMPTYSTRING" p1) "join" ap1) [.Tuple [.Name "fws" q1, .Name "part" q2] m tp] [] cp) [⟨.Tuple [.Name "fws" q3, .Name "part" q4] kt pt, .Name "self" sp, [], 0⟩] scope gp] [] pos) (.str (pileText l)) := fun A s R S V => by
  have gm : ∀ {x : Str} {t : Tok} {plx : Sem Bool} {A : Around} {s : Shared} {Q : Value × List Value → Shared → Prop} {E : Value → Shared → Prop}, Q (.builtin "str.join", [.str x t]) s → wpAny (model c.prog c.w) A (getMethod (.str x t) "join" plx) Q E s := fun q =>
    getMethod_builtin (typeIs_str _ _ _) F.plainAttrs_str F.slot_str_join F.type_str_join (fun _ e => nomatch e) q
  refine MethodCall_ (pl := pl) (fnv_global G.ok V.1 (by rw [G.K]; exact empty_at _) hx (by decide) A s _ _ S (gm ?_)) he
  refine callWith_method1 (Calls.spliced_cons (gen_make G.ok SS hm hc R (Nat.succ_le_succ (Nat.zero_le _)) S V.1 l.length (fun j y => ∃ p t, l[j]? = some p ∧ y = .str (markText p) t) hclos h0 hxa hxb hsc ?src ?fin)) rfl rfl
  case src =>
    refine X.use R S V fun v s1 S1 g1 i => ?_
    have i' := i
    unfold Is at i'
    obtain ⟨a, d, o, vs, n, rfl, na, ho, ⟨h1, h2, h3⟩, r⟩ := i'
    have hl : vs.size = l.length := by rw [← Array.length_toList, r.length]; simp [marksD]
    refine pile_iter ⟨ho, h1, h3⟩ G S1 ?_
    have gp' := Grow.push s1.heap { cls := .type "list_iterator", data := .fields #[.ref a, .int 0 0] }
    have lta := Heap.lt_size ho
    have hne : a ≠ s1.heap.objs.size := Nat.ne_of_lt lta
    have mk : ∀ j, j < vs.size → ∃ p n t u, l[j]? = some p ∧ vs[j]? = some (.ref (tupAddr vs j)) ∧ s1.heap.get? (tupAddr vs j) = some { cls := .type "tuple", data := .seq #[.str p.1 t, .str p.2 u] n } := fun j hj => marks_at r hj
    have tv : ∀ j, j < vs.size → (s1.heap.push { cls := .type "list_iterator", data := .fields #[.ref a, .int 0 0] }).IsTuple (tupAddr vs j) (tupVals s1.heap (tupAddr vs j)) := fun j hj => by
      obtain ⟨p, n, t, u, _, _, e⟩ := mk j hj
      have : tupVals s1.heap (tupAddr vs j) = #[.str p.1 t, .str p.2 u] := by unfold tupVals; rw [e]
      rw [this]
      exact ⟨_, Heap.get?_push_of_some _ e, rfl, n, rfl⟩
    have W := fun A' (hA : Around.handled A' = none) => walks_pile (prog := c.prog) (w := c.w) hA s1.heap.objs.size a d hne vs (tupAddr vs) (fun j => tupVals s1.heap (tupAddr vs j)) (fun j hj => let ⟨_, _, _, _, _, e, _⟩ := mk j hj; e) (fun j hj => by
      obtain ⟨p, n, t, u, _, _, e⟩ := mk j hj
      exact Nat.ne_of_lt (Heap.lt_size e))
    rw [← hl]
    refine ⟨S1.push _ rfl rfl, g1.trans gp', _, _, _, _, _, _, rfl, W, ?_, ⟨⟨_, Heap.get?_push_size _ rfl, rfl, rfl⟩, ⟨n, Heap.get?_push_of_some _ ho⟩, tv⟩, fun b hb => ?_, fun b hb => ?_, ?_⟩
    · rintro j vals ⟨hj, rfl⟩
      obtain ⟨p, n, t, u, _, _, e⟩ := mk j hj
      exact ⟨.str p.1 t, .str p.2 u, by unfold tupVals; rw [e]⟩
    · rcases List.mem_cons.mp hb with rfl | hb
      · exact ⟨_, Heap.get?_push_size _ rfl, not_frail_cls nofun⟩
      · rcases List.mem_cons.mp hb with rfl | hb
        · exact ⟨_, Heap.get?_push_of_some _ ho, not_frail_cls nofun⟩
        · obtain ⟨j, hj, rfl⟩ := List.mem_map.mp hb
          obtain ⟨p, n, t, u, _, _, e⟩ := mk j (List.mem_range.mp hj)
          exact ⟨_, Heap.get?_push_of_some _ e, not_frail_cls nofun⟩
    · rw [List.mem_singleton.mp hb]; exact g1.1
    · rintro C code A' E' j va vb t m₂ hA hD hU ⟨hj, ev⟩ hn hma hmb hg
      obtain ⟨p, n, u1, u2, e1, _, e2⟩ := mk j hj
      have ev' : tupVals s1.heap (tupAddr vs j) = #[.str p.1 u1, .str p.2 u2] := by unfold tupVals; rw [e2]
      rw [ev'] at ev
      injection ev with ev
      injection ev with ea ev
      injection ev with eb ev
      subst ea eb
      have hp := List.mem_of_getElem? e1
      have ks : (genEnv scope [] C code builtinsNs env).scope.kind = .function := by
        simp only [Bool.and_eq_true, beq_iff_eq] at hsc; exact hsc.1.1.2
      obtain ⟨p', loose, mean, mg, mb, T⟩ := G.ok.top
      have hemp : nsIn c.K mainGlobals "EMPTYSTRING" = some (some (.str "" (tokE c.w.params))) := by rw [G.K]; exact empty_at _
      refine MethodCall_ (pl := pl1 C code) (Calls.Name_function_global ks hx1 (Calls.loadGlobal_global (env := genEnv scope [] C code builtinsNs env) (by show t.heap.Ns env.globals mg; rw [V.1.glob]; exact ns_grow T.g hg) (mg_of G.ok.inB T.g hemp) (gm ?_)) (by decide)) (he1 C code)
      refine callWith_method1 (Calls.spliced_cons (Tuple_ (k := m) ?_)) rfl rfl
      show wpAny _ A' (spliced ((false, eval (.Name "fws" q1) _) :: (false, eval (.Name "part" q2) _) :: [])) _ _ t
      refine Calls.spliced_cons (wpAny_Name (wpAny_loadName_local ks hxa hn hma (Calls.spliced_cons (wpAny_Name (wpAny_loadName_local ks hxb hn hmb (Calls.spliced_nil (wpAny_newTuple (Calls.spliced_nil ?_))))))))
      refine joinTuple (l := [(p.1, u1), (p.2, u2)]) (n := 0) (Heap.get?_push_size _ rfl) rfl (hj1 p hp) fun t' tk => ?_
      exact ⟨⟨p, t', e1, rfl⟩, _, tk, rfl, fun b o e => Heap.get?_push_of_some _ e⟩
  case fin =>
    intro a s5 S5 g5 hG ha
    obtain ⟨K, hK, fp, wr, g, St5, W, st, hT, hI, hfp, hwr⟩ := hG
    refine Calls.spliced_nil ?_
    have hwr' : ∀ b ∈ wr, s.heap.objs.size ≤ b := fun b hb => Nat.le_trans hK (hwr b hb)
    refine wpAny_mono (wpAny_size (SC.joinGen (Q := fun v s'' => ∃ s' t', Moved wr (GenOnlyQ g) s5 s' ∧ v = .str (pileText l) t' ∧ ∃ tk, s'' = { s' with toks := tk }) (E := F0) (W.of_in1.of_in1) hT st hfp hI (fun j v hp => ?_) (fun s' xs mv it => ?_) (size_of hz))) (fun v s'' q => ?_) fun _ _ f => f.1
    · obtain ⟨p, t, _, e⟩ := hp; exact ⟨_, t, e⟩
    · have ex : xs.map (·.1) = l.map markText := by
        have hlen : xs.length = l.length := by have := it.1; simpa [strValues] using this
        apply List.ext_getElem?
        intro j
        rw [List.getElem?_map, List.getElem?_map]
        by_cases hj' : j < l.length
        · have hx' : xs[j]? = some xs[j] := List.getElem?_eq_getElem (by omega)
          obtain ⟨p, t, e1, e2⟩ := it.2 j (.str (xs[j]'(by omega)).1 (xs[j]'(by omega)).2) (by simp [strValues, hlen, hj'])
          rw [hx', e1]
          injection e2 with e2 _
          simp [e2]
        · rw [List.getElem?_eq_none (by omega), List.getElem?_eq_none (by omega)]; rfl
      rw [ex]
      exact ⟨hj, fun t' tk => ⟨s', t', mv, rfl, tk, rfl⟩⟩
    · obtain ⟨⟨s', t', mv, rfl, tk, e⟩, hsz⟩ := q
      subst e
      refine ⟨S5.step (fun b o lb e => mv.heap b o (fun q => Nat.lt_irrefl _ (Nat.lt_of_lt_of_le lb (Nat.le_trans S.grow.1 (hwr' b q)))) e) hsz (S5.bare.moved mv.gens) mv.os, ⟨Nat.le_trans g5.1 hsz, fun b o f x => mv.heap b o (fun q => Nat.lt_irrefl _ (Nat.lt_of_lt_of_le (Heap.lt_size x) (hwr' b q))) (g5.2 b o f x)⟩, ?_⟩
      unfold Is; exact ⟨t', rfl⟩
theorem str_ok {c : Cx} (G : c.Good) (SS : Sites c) {k : Nat} (l : List Mark) (hz : l.length ≤ 1000) (hj : JoinOk "" (l.map markText) = true) (hj1 : ∀ p ∈ l, JoinOk "" [p.1, p.2] = true) : FnO c (k + 2) 103 [.pile (marksD l)] (.str (pileText l)) :=
  fn_sx G.ok (def_str G) rfl fun X A st h₀ R x => by
    obtain ⟨P, hP⟩ := SS.a102
    exact sx_ret (EvO.sx (ev_joinGen G SS hP (by kernel_rfl) (ev_name (by kernel_rfl) rfl) hz hj hj1 (by kernel_rfl) (by kernel_rfl) (by kernel_rfl) (by kernel_rfl) (by kernel_rfl) (by kernel_rfl) (by kernel_rfl) (fun C code => by rfl) (by rfl))) R x
/-- str(pile) -/
theorem ev_strPile (G : c.Good) (SS : Sites c) {e : Expr} {l : List Mark} {p pos : Pos} (X : EvO c O (k + 4) env ρ e (.pile (marksD l))) (hz : l.length ≤ 1000) (hj : JoinOk "" (l.map markText) = true) (hj1 : ∀ p ∈ l, JoinOk "" [p.1, p.2] = true)
    (hx : env.kindOf "str" = some .globalImplicit) (hs : starEach [e] env = (false, eval e env) :: starEach [] env := by rfl) : EvO c O (k + 4) env ρ (.Call (.Name "str" p) [e] [] pos) (.str (pileText l)) := by
  refine ev_call_type (T := "str") (ds := [.pile (marksD l)]) (fun ES => fnv_builtin G.ok ES (by rw [G.K]; kernel_rfl) (by decide +kernel) (by decide) hx) (evs_cons X evs_nil hs) (fun A s vs R S ow i => ?_) hs rfl (by rw [hs]; rfl)
  obtain ⟨v, rfl, i1⟩ := IsAll.one i
  have i2 := i1
  unfold Is at i2
  obtain ⟨a, d, o, vs, n, rfl, na, ho, ⟨h1, h2, h3⟩, r⟩ := i2
  have P : PAt s a d o vs n := ⟨ho, h1, h3⟩
  refine kso_call (K := c.K) (C := 129) (f := 103) (by have := R.2.2; show A.units + 1 + 1 < cLine; unfold cLine; omega) (inK_all G S) P.inst (by rw [G.K]; kernel_rfl) (by rw [G.K]; kernel_rfl) ?_
  refine wpAny_mono (str_ok G SS (k := k) l hz hj hj1 O A.in1.in1 s [.ref a] (Room.in1 (Room.in1 R)) S ow (.single i1)) (fun v s' q => ?_) fun _ _ f => f.elim
  have q3 := q.2.2
  unfold Is at q3
  obtain ⟨t, rfl⟩ := q3
  exact ⟨q.1, q.2.1, by unfold Is; exact ⟨t, rfl⟩⟩
end
end Mine
end
section
open PySem PySem.W PyProof.Rows
set_option maxRecDepth 100000
set_option linter.unusedVariables false
namespace Mine
section
variable {prog : Program} {w : World} {A : Around} {E : Value → Shared → Prop} {h : Heap} {g : Array GenState} {d : Drawn} {t : Nat} {os : OsState}
theorem slot_wd_get : Slot "wrapper_descriptor" "__get__" "wrapper_descriptor.__get__" := .of (owner := "wrapper_descriptor") (n := "__get__") (by rw [typeLookup_type, builtinLookup_eq_fast]; kernel_rfl) (by decide +kernel) (by decide +kernel) (by decide +kernel)
  (by first | exact .inl (by decide +kernel) | exact .inr (by decide +kernel)) (by rw [isSubtype_type]; kernel_rfl)
theorem entry_wd_get : entryFor table "wrapper_descriptor.__get__" = some Builtin.«wrapper_descriptor.__get__» := entryFor_of_tree (by kernel_rfl)
theorem args_wd_get (a b c : Value) : argsOk "wrapper_descriptor.__get__" ⟨[a, b, c], []⟩ := by unfold argsOk; kernel_rfl
theorem wd_get {id : String} {x C : Addr} {Q : Fin → Shared → Prop} (hid : id = "list.__len__" ∨ id = "list.__init__") (hi : Looks (model prog w) h (isInstance (.ref x) (.type "list")) true)
    (hq : Q (.done (.ret (.ref h.objs.size))) ⟨h.push { cls := .type "method-wrapper", data := .fields #[.builtin id, .ref x] }, g, d, t, os⟩) :
    wpAny (model prog w) A (Builtin.«wrapper_descriptor.__get__» ⟨[.builtin id, .ref x, .ref C], []⟩) Q E ⟨h, g, d, t, os⟩ := by
  rcases hid with rfl | rfl
  all_goals
    unfold Builtin.«wrapper_descriptor.__get__»
    refine wpAny_bind (wpAny_pure ?_)
    refine wpAny_bind ?_
    show wpAny _ _ (isInstance (.ref x) (.type "list") >>= _) _ _ _
    refine wpAny_bind (hi.here ?_)
    refine wpAny_pure ?_
    exact wpAny_bind (wpAny_newObj_type (wpAny_pure hq))

theorem super_ga_b {so D x C : Addr} {id : String} {l₀ l : List Value} {K : Frag} {name : Str} {tk : Tok} {Q : Fin → Shared → Prop} (hid : id = "list.__len__" ∨ id = "list.__init__")
    (hso : h.get? so = some { cls := .type "super", dict := none, data := .fields #[.ref D, .ref x, .ref C], slots := #[] }) (hno : Looks (model prog w) h (opaqueClassAbove (.ref C)) none)
    (hC : Looks (model prog w) h (mroOf (.ref C)) l₀) (hl : (l₀.dropWhile (· != .ref D)).drop 1 = l) (X : K.In h)
    (hf : alongIn K name l = some (some (.builtin id))) (hxC : x ≠ C) (hn : (name == ("__class__" : Str)) = false) (hi : Looks (model prog w) h (isInstance (.ref x) (.type "list")) true)
    (hq : Q (.done (.ret (.ref h.objs.size))) ⟨h.push { cls := .type "method-wrapper", data := .fields #[.builtin id, .ref x] }, g, d, t, os⟩) :
    wpAny (model prog w) A (Builtin.«super.__getattribute__» ⟨[.ref so, .str name tk], []⟩) Q E ⟨h, g, d, t, os⟩ := by
  have hlk := slot_wd_get.lookup
  have hne : (Value.ref x == Value.ref C) = false := by simp [hxC]
  have hty : typeOf (.builtin id) = pure (.type "wrapper_descriptor") := by
    rcases hid with rfl | rfl
    · show builtinType _ = _; rw [builtinType_eq_fast]; kernel_rfl
    · show builtinType _ = _; rw [builtinType_eq_fast]; kernel_rfl
  have hT : (⟨h, g, d, t, os⟩ : Shared).TypeIs (.builtin id) "wrapper_descriptor" := hty
  have hdt : ({ cls := .type "super", dict := none, data := .fields #[.ref D, .ref x, .ref C], slots := #[] } : Obj).data = .fields #[.ref D, .ref x, .ref C] := rfl
  have f0 : (#[.ref D, .ref x, .ref C] : Array Value)[0]? = some (.ref D) := rfl
  have f1 : (#[.ref D, .ref x, .ref C] : Array Value)[1]? = some (.ref x) := rfl
  have f2 : (#[.ref D, .ref x, .ref C] : Array Value)[2]? = some (.ref C) := rfl
  unfold Builtin.«super.__getattribute__»
  repeat (first
    | (with_reducible refine wpAny_field hso hdt f0 ?_) | (with_reducible refine wpAny_field hso hdt f1 ?_) | (with_reducible refine wpAny_field hso hdt f2 ?_)
    | (with_reducible refine ks_wpAny_notOpaque hno ?_)
    | (with_reducible refine Looks.at hC ?_; rw [hl])
    | (refine ks_forIn_along X (fun _ _ => rfl) rfl ?_ hf)
    | (with_reducible refine wpAny_typeOf hT ?_)
    | (with_reducible refine wpAny_call_entry slot_wd_get hT entry_wd_get (wd_get hid hi ?_) (args_wd_get _ _ _))
    | (with_reducible refine ⟨_, rfl, ?_⟩)
    | (simp only [hn, hne, Bool.or_false, Bool.false_eq_true, if_false])
    | wp_step
    | dsimp only)
  all_goals exact hq
theorem getMethod_super_b {so D x C : Addr} {id : String} {l₀ l : List Value} {K : Frag} {name : Str} {pl : Sem Bool} {Q : Value × List Value → Shared → Prop} (hid : id = "list.__len__" ∨ id = "list.__init__")
    (hso : h.get? so = some { cls := .type "super", dict := none, data := .fields #[.ref D, .ref x, .ref C], slots := #[] }) (hno : Looks (model prog w) h (opaqueClassAbove (.ref C)) none)
    (hC : Looks (model prog w) h (mroOf (.ref C)) l₀) (hl : (l₀.dropWhile (· != .ref D)).drop 1 = l) (X : K.In h)
    (hf : alongIn K name l = some (some (.builtin id))) (hxC : x ≠ C) (hn : (name == ("__class__" : Str)) = false) (hi : Looks (model prog w) h (isInstance (.ref x) (.type "list")) true)
    (hq : Q (.ref h.objs.size, []) ⟨h.push { cls := .type "method-wrapper", data := .fields #[.builtin id, .ref x] }, g, d, t + 1, os⟩) :
    wpAny (model prog w) A (getMethod (.ref so) name pl) Q E ⟨h, g, d, t, os⟩ := by
  have hlk := F.ks_slot_super_ga.lookup
  have hcan := F.ks_canon_super_ga
  have hT : ∀ t', (⟨h, g, d, t', os⟩ : Shared).TypeIs (.ref so) "super" := fun _ => ⟨_, hso, rfl⟩
  unfold getMethod
  refine wpAny_bind (wpAny_specialOf (hT _) hlk ?_)
  show wpAny _ _ (if (Manifest.canonical "super.__getattribute__" != "object.__getattribute__") = true then _ else _) _ _ _
  rw [if_pos hcan]
  unfold getAttr getAttrBy
  refine wpAny_bind (wpAny_bind (wpAny_mkText (wpAny_holding (wpAny_bind (wpAny_typeOf (hT _) (wpAny_bind (wpAny_of_eq hlk ?_)))))))
  show wpAny _ _ (getAttrByItsOwn (.ref so) (.str name t) (.type "super") (.builtin "super.__getattribute__") true false) _ _ _
  unfold getAttrByItsOwn hookBefore callGetattribute boundAndCalled
  refine wpAny_bind (wpAny_of_eq (show (if onTheHeap (.type "super") then typeLookup (.type "super") "__getattr__" else pure none) = pure none from rfl) ?_)
  refine wpAny_bind (wpAny_attempt (wpAny_holding ?_))
  show wpAny _ _ (bindSpecial (.builtin "super.__getattribute__") (.ref so) >>= _) _ _ _
  refine wpAny_bind (wpAny_of_eq (F.ks_slot_super_ga.bind _) ?_)
  refine wpAny_mono (Q := fun v s' => v = .ref h.objs.size ∧ s' = ⟨h.push { cls := .type "method-wrapper", data := .fields #[.builtin id, .ref x] }, g, d, t + 1, os⟩) (E := fun _ _ => False)
    (wpAny_call_entry F.ks_slot_super_ga (hT _) F.ks_entry_super_ga (super_ga_b hid hso hno hC hl X hf hxC hn hi ⟨_, rfl, rfl, rfl⟩) (F.ks_gaArgs_super _ _)) (fun v s' hv => ?_) fun _ _ z => z.elim
  obtain ⟨rfl, rfl⟩ := hv
  exact wpAny_pure (wpAny_pure hq)

abbrev mwObj (id : String) (x : Addr) : Obj := { cls := .type "method-wrapper", data := .fields #[.builtin id, .ref x] }
theorem bound_len (x : Addr) : checkBoundCall "list.__len__" ⟨[.ref x], []⟩ = pure () := by kernel_rfl
theorem bound_init (x : Addr) : checkBoundCall "list.__init__" ⟨[.ref x], []⟩ = pure () := by kernel_rfl
theorem mw_call {s : Shared} {q x : Addr} {id : String} {b : Builtin} {Q : Value → Shared → Prop} (ho : s.heap.get? q = some (mwObj id x)) (hb : checkBoundCall id ⟨[.ref x], []⟩ = pure ()) (hp : plainId id = true) (he : entryFor table id = some b)
    (h : wpAny (model prog w) A.in1 (b ⟨[.ref x], []⟩) (fun fin s' => ∃ v, fin = .done (.ret v) ∧ Q v s') E s) : wpAny (model prog w) A (call (.ref q) []) Q E s := by
  refine wpAny_call (codeAny_of_tree ?_)
  show wpAny _ _ (callAny (.ref q) ⟨[], []⟩) _ _ _
  unfold callAny
  refine wpAny_bind (wpAny_load ho ?_)
  simp only [show (Value.type "method-wrapper" == Value.type "method" || Value.type "method-wrapper" == Value.type "builtin_function_or_method" || Value.type "method-wrapper" == Value.type "method-wrapper") = true by decide, if_true]
  refine KFB.if_so (by decide) ?_
  refine wpAny_bind (wpAny_of_eq (a := ()) hb ?_)
  refine wpAny_bind (wpAny_pure (wpAny_pure ?_))
  refine ⟨plainId_quiet hp _, codeAny_builtin he ?_⟩
  rw [Around.under_plainId hp _]
  refine wpAny_mono h (fun fin s' q => ?_) fun _ _ f => f
  obtain ⟨v, rfl, hv⟩ := q; exact hv
theorem mw_callWith {s : Shared} {pos : Pos} {q x : Addr} {id : String} {env : Env} {Q : Value → Shared → Prop} (ho : s.heap.get? q = some (mwObj id x)) (h : wpAny (model prog w) A (call (.ref q) []) Q E s) :
    wpAny (model prog w) A (callWith pos (.ref q) [] (backTo pos (starEach [] env)) []) Q E s := by
  unfold callWith
  refine wpAny_bind (wpAny_holding (evalArgs_nil3 (wpAny_bind (wpAny_standAt ?_))))
  refine wpAny_bind (m := keeperOf (.ref q)) ?_
  unfold keeperOf
  refine wpAny_bind (wpAny_load ho ?_)
  simp only [show (Value.type "method-wrapper" != Value.type "method") = true by decide, show (Value.type "method-wrapper" == Value.type "builtin_function_or_method" || Value.type "method-wrapper" == Value.type "method-wrapper") = true by decide, if_true]
  refine wpAny_pure ?_
  exact wpAny_bind (wpAny_mono h (fun r s₂ hr => wpAny_bind (wpAny_holding (wpAny_point (wpAny_pure hr)))) fun _ _ x => x)
end
end Mine
end
section
open PySem PySem.W PyProof.Rows
set_option maxRecDepth 100000
set_option linter.unusedVariables false
namespace Mine
structure Cx.Full (c : Cx) : Prop where
  G : c.Good
  SS : Sites c
  prog : c.prog = PySem.Challenge.rw_pk0042_01.row.prog
noncomputable def arOf (P : Params) (f : Addr) : Arg := ((fdOf P f).params.args.head?).getD default
noncomputable def ccOf (P : Params) (f : Addr) : Addr := ((fdOf P f).closure.lookup ("__class__" : Str)).getD 0
noncomputable def codeOf (P : Params) (f : Addr) : Addr := match (fdOf P f).code with
  | .ref a => a
  | _ => 0
noncomputable def fieldsAt (P : Params) (a : Addr) : Array Value := match (objOf P a).data with
  | .fields vs => vs
  | _ => #[]
noncomputable def fileOf (P : Params) (a : Addr) : Str × Tok := match (fieldsAt P a)[2]? with
  | some (Value.str f t) => (f, t)
  | _ => ("", 0)
noncomputable def clsOf (P : Params) (a : Addr) : ClassData := match (objOf P a).data with
  | .cls cd => cd
  | _ => default
/-- super(), in a method of the class at 129 -/
structure SupFn (c : Cx) (f : Addr) : Prop where
  at_ : c.K.lookup f = some (objOf c.w.params f) ∧ (objOf c.w.params f).data = .func (fdOf c.w.params f)
  body : (fdOf c.w.params f).body = .stmts (bodyOf c.w.params f)
  code : codeK c.K (fdOf c.w.params f).code (fdOf c.w.params f).qualname = true
  kind : (fdOf c.w.params f).scope.kind = .function
  co : (fdOf c.w.params f).scope.isCoroutine = false
  gen : (fdOf c.w.params f).scope.isGenerator = false
  glob : (fdOf c.w.params f).globals = mainGlobals
  bi : (fdOf c.w.params f).builtins = builtinsNs
  cells : (fdOf c.w.params f).scope.names.all (fun y => y.2 != .cell) = true
  super : (fdOf c.w.params f).scope.names.lookup ("super" : Str) = some .globalImplicit
  cls : (fdOf c.w.params f).scope.names.lookup ("__class__" : Str) = some .free
  self : (fdOf c.w.params f).scope.names.lookup ("self" : Str) = some .local
  arg : ((fdOf c.w.params f).params.posonlyargs ++ (fdOf c.w.params f).params.args).head? = some (arOf c.w.params f) ∧ (arOf c.w.params f).arg = "self"
  clo : (fdOf c.w.params f).closure.lookup ("__class__" : Str) = some (ccOf c.w.params f)
  cell : c.K.lookup (ccOf c.w.params f) = some (objOf c.w.params (ccOf c.w.params f)) ∧ (objOf c.w.params (ccOf c.w.params f)).data = .cell (some (.ref 129))
  cd : (fdOf c.w.params f).code = .ref (codeOf c.w.params f)
  cdat : c.K.lookup (codeOf c.w.params f) = some (objOf c.w.params (codeOf c.w.params f)) ∧ (objOf c.w.params (codeOf c.w.params f)).data = .fields (fieldsAt c.w.params (codeOf c.w.params f))
  file : (fieldsAt c.w.params (codeOf c.w.params f))[2]? = some (.str (fileOf c.w.params (codeOf c.w.params f)).1 (fileOf c.w.params (codeOf c.w.params f)).2)
  same : ((PySem.Challenge.rw_pk0042_01.row.prog.main.file : Str) == (fileOf c.w.params (codeOf c.w.params f)).1) = true
theorem sup_part {c : Cx} (G : c.Good) : SupFn c 126 where
  at_ := ⟨by rw [G.K]; kernel_rfl, by kernel_rfl⟩
  body := by kernel_rfl
  code := by rw [G.K]; kernel_rfl
  kind := by kernel_rfl
  co := by kernel_rfl
  gen := by kernel_rfl
  glob := by kernel_rfl
  bi := by kernel_rfl
  cells := by kernel_rfl
  super := by kernel_rfl
  cls := by kernel_rfl
  self := by kernel_rfl
  arg := ⟨by kernel_rfl, by kernel_rfl⟩
  clo := by kernel_rfl
  cell := ⟨by rw [G.K]; kernel_rfl, by kernel_rfl⟩
  cd := by kernel_rfl
  cdat := ⟨by rw [G.K]; kernel_rfl, by kernel_rfl⟩
  file := by kernel_rfl
  same := by kernel_rfl
theorem sup_init {c : Cx} (G : c.Good) : SupFn c 66 where
  at_ := ⟨by rw [G.K]; kernel_rfl, by kernel_rfl⟩
  body := by kernel_rfl
  code := by rw [G.K]; kernel_rfl
  kind := by kernel_rfl
  co := by kernel_rfl
  gen := by kernel_rfl
  glob := by kernel_rfl
  bi := by kernel_rfl
  cells := by kernel_rfl
  super := by kernel_rfl
  cls := by kernel_rfl
  self := by kernel_rfl
  arg := ⟨by kernel_rfl, by kernel_rfl⟩
  clo := by kernel_rfl
  cell := ⟨by rw [G.K]; kernel_rfl, by kernel_rfl⟩
  cd := by kernel_rfl
  cdat := ⟨by rw [G.K]; kernel_rfl, by kernel_rfl⟩
  file := by kernel_rfl
  same := by kernel_rfl

section
variable {c : Cx} {A : Around} {E : Value → Shared → Prop} {s : Shared} {f L a d : Addr} {o : Obj} {vs : Array Value} {n : Nat} {m : Str → Option Value}
theorem size_of_keep {h h' : Heap} {o : Obj} (e : h'.get? h.objs.size = some o) : h.objs.size ≤ h'.objs.size := Nat.le_of_lt (Heap.lt_size e)
theorem sup_base (Fu : c.Full) (D : SupFn c f) (S : St c s) (P : PAt s a d o vs n) (hn : s.heap.Ns L m) (hm : m "self" = some (.ref a)) {body : List Stmt} {p0 p1 : Pos} {attr : Str} {whole : Sem Value} {Q : Value → Shared → Prop} (hat : (attr == ("__class__" : Str)) = false)
    (h : ∀ h', (∀ b o, s.heap.get? b = some o → h'.get? b = some o) → h'.get? s.heap.objs.size = some { cls := .type "super", dict := none, data := .fields #[.ref 129, .ref a, .ref 129], slots := #[] } → Q (.ref s.heap.objs.size) { s with heap := h' }) :
    _root_.PySem.wpAt (model c.prog c.w) A (.func body (callEnv (fdOf c.w.params f) L f)) (attributeBase (.Call (.Name "super" p0) [] [] p1) attr (callEnv (fdOf c.w.params f) L f) whole) Q E s := by
  have X := inK_all Fu.G S
  obtain ⟨p', loose, mean, mg, mb, T⟩ := Fu.G.ok.top
  have hclsK : c.K.lookup 129 = some (objOf c.w.params 129) := by rw [Fu.G.K]; kernel_rfl
  have hcls : s.heap.get? 129 = some (objOf c.w.params 129) := X _ _ hclsK
  have hcd : (objOf c.w.params 129).data = .cls (clsOf c.w.params 129) := by kernel_rfl
  refine ks_wpAt_super_base (env := callEnv (fdOf c.w.params f) L f) D.super D.cls hat rfl (X _ _ D.at_.1) D.at_.2 D.arg.1 D.cd (X _ _ D.cdat.1) D.cdat.2 D.file (by rw [Fu.prog]; exact D.same) (by rw [Fu.prog]; kernel_rfl) ?_
  have hg : s.heap.Ns (callEnv (fdOf c.w.params f) L f).globals mg := by show s.heap.Ns (fdOf c.w.params f).globals mg; rw [D.glob]; exact ns_grow T.g S.grow
  have hb : s.heap.Ns (callEnv (fdOf c.w.params f) L f).builtins mb := by show s.heap.Ns (fdOf c.w.params f).builtins mb; rw [D.bi]; exact ns_grow T.b S.grow
  have hnone : mg ("super" : Str) = none := mg_none_of Fu.G.ok.inB T.g (by rw [Fu.G.K]; kernel_rfl)
  have hsome : mb ("super" : Str) = some (.type "super") := (T.builtins "super" (by decide +kernel)).trans (by decide +kernel)
  refine ks_loadName_global D.kind D.super (PySem.Calls.loadGlobal_builtin (env := callEnv (fdOf c.w.params f) L f) hg hnone hb hsome ⟨rfl, ?_⟩)
  refine wpAny_loadName_free D.kind D.cls D.clo ⟨_, X _ _ D.cell.1, D.cell.2⟩ ?_
  rw [D.arg.2]
  refine wpAny_loadName_local D.kind D.self hn hm ?_
  obtain ⟨hh, g, dr, t, os⟩ := s
  refine ks_wpAny_isType_cls hcls hcd ⟨rfl, ?_⟩
  exact ks_wpAny_call_super hcls hcd P.at_ rfl (fun c e => by cases e) (looks_mroIn X (by rw [Fu.G.K]; kernel_rfl)) fun h' e k => h h' k e
theorem sup_method (Fu : c.Full) (S : St c s) {so : Addr} {id : String} {name : Str} {pl : Sem Bool} {Q : Value × List Value → Shared → Prop} (P : PAt s a d o vs n) (hid : id = "list.__len__" ∨ id = "list.__init__") (hf : alongIn c.K name [.type "list", .type "object"] = some (some (.builtin id))) (hn : (name == ("__class__" : Str)) = false)
    (hso : s.heap.get? so = some { cls := .type "super", dict := none, data := .fields #[.ref 129, .ref a, .ref 129], slots := #[] })
    (h : ∀ h', (∀ b o, s.heap.get? b = some o → h'.get? b = some o) → h'.get? s.heap.objs.size = some (mwObj id a) → Q (.ref s.heap.objs.size, []) { s with heap := h', toks := s.toks + 1 }) : wpAny (model c.prog c.w) A (getMethod (.ref so) name pl) Q E s := by
  have X := inK_all Fu.G S
  have Li := P.list Fu.G S
  have hne : a ≠ 129 := fun e => by
    subst e
    have h1 : s.heap.get? 129 = some (objOf c.w.params 129) := X _ _ (by rw [Fu.G.K]; kernel_rfl)
    have h2 : (objOf c.w.params 129).data = .cls (clsOf c.w.params 129) := by kernel_rfl
    rw [P.at_] at h1
    have := Option.some.inj h1
    rw [← this] at h2; cases h2
  have hC : Looks (model c.prog c.w) s.heap (mroOf (.ref 129)) [.ref 129, .type "list", .type "object"] := by
    have hc : clsIn c.K 129 = some (clsOf c.w.params 129) := by rw [Fu.G.K]; kernel_rfl
    have hm : (clsOf c.w.params 129).mro = [.ref 129, .type "list", .type "object"] := by kernel_rfl
    rw [← hm]
    exact fun A Q E s k q => wpAny_bind ((looks_clsIn X hc) A _ E s k (wpAny_pure q))
  obtain ⟨hh, g, dr, t, os⟩ := s
  exact getMethod_super_b hid hso (looks_opaque X (by rw [Fu.G.K]; kernel_rfl)) hC rfl X hf hne hn Li (h _ (fun b o e => Heap.get?_push_of_some _ e) (Heap.get?_push_size _ rfl))
end
end Mine
end
section
open PySem PySem.W PyProof.Rows
set_option maxRecDepth 100000
set_option linter.unusedVariables false
namespace Mine
open Builtin Builtin.ObjectAttr
structure PMakes (M : Model) (h : Heap) : Prop where
  obj : ∃ oc od cd sl, h.get? 129 = some ⟨oc, od, .cls cd, sl⟩ ∧ cd.hasDel = false ∧ cd.mro.isEmpty = false
  made : Looks M h (Bind.madeBy (.ref 129)) (some "list.__new__")
  base : Looks M h (Bind.staticBase (.ref 129)) (.ref 129)
  self : Looks M h (isSubtype (.ref 129) (.ref 129)) true
  top : Looks M h (isSubtype (.ref 129) (.type "list")) true
  call : Looks M h (specialOf (.ref 129) "__call__") (some (.builtin "type.__call__"))
  typ : Looks M h (isInstance (.ref 129) (.type "type")) true
  cls : Looks M h (isType (.ref 129)) true
theorem pmakes {c : Cx} (G : c.Good) {h : Heap} (X : c.K.In h) : PMakes (model c.prog c.w) h := by
  have ho : c.K.lookup 129 = some (objOf c.w.params 129) := by rw [G.K]; kernel_rfl
  have hd : (objOf c.w.params 129).data = .cls (clsOf c.w.params 129) := by kernel_rfl
  have hs : ((objOf c.w.params 129).slots.toList[4]?).join = some (.builtin "list.__new__") := by kernel_rfl
  have hc : clsIn c.K 129 = some (clsOf c.w.params 129) := by rw [G.K]; kernel_rfl
  have hmro : (clsOf c.w.params 129).mro = [.ref 129, .type "list", .type "object"] := by kernel_rfl
  have hdel : (clsOf c.w.params 129).hasDel = false := by kernel_rfl
  generalize objOf c.w.params 129 = o at *
  generalize clsOf c.w.params 129 = cd at *
  obtain ⟨oc, od, dt, sl⟩ := o
  simp only at hd hs
  subst hd
  have hm : Looks (model c.prog c.w) h (mroOf (.ref 129)) cd.mro := (looks_clsIn X hc).andThen .now
  have made : Looks (model c.prog c.w) h (Bind.madeBy (.ref 129)) (some "list.__new__") := by
    intro A Q E s k q
    unfold Bind.madeBy
    refine wpAny_bind (hm A _ E s k ?_)
    rw [hmro, List.forIn_cons]
    refine wpAny_bind (wpAny_bind (wpAny_bind (wpAny_bind (wpAny_loadPart (k _ _ (X _ _ ho)) (wpAny_pure ?_)))))
    dsimp only
    rw [← Array.getElem?_toList, hs]
    exact wpAny_pure (wpAny_pure (wpAny_pure q))
  refine ⟨⟨oc, od, cd, sl, X _ _ ho, hdel, by rw [hmro]; rfl⟩, made, ?_, looks_mroIn X ?_, looks_mroIn X ?_, looks_specialIn X (by rw [G.K]; kernel_rfl), looks_instIn X (by rw [G.K]; kernel_rfl), ?_⟩
  · intro A Q E s k q
    unfold Bind.staticBase
    refine wpAny_bind (hm A _ E s k ?_)
    rw [hmro, List.forIn_cons]
    exact wpAny_bind (wpAny_bind (wpAny_bind (made A _ E s k (wpAny_pure (wpAny_pure (wpAny_pure q))))))
  · rw [G.K]; kernel_rfl
  · rw [G.K]; kernel_rfl
  · intro A Q E s k q
    unfold isType loadHead
    exact wpAny_bind (wpAny_loadPart (k _ _ (X _ _ ho)) (wpAny_pure q))
abbrev pileObj (d : Addr) : Obj := { cls := .ref 129, dict := some d, data := .seq #[] }
theorem ln_kind : builtinKind "list.__new__" = some .builtinFn := by decide +kernel
theorem ln_split : splitId "list.__new__" = some ("list", "__new__") := by decide +kernel
section
variable {prog : Program} {w : World} {A : Around} {R : Result → Shared → Prop} {h : Heap} {g : Array GenState} {d : Drawn} {t : Nat} {os : OsState}
theorem new_pile (Y : PMakes (model prog w) h)
    (hq : R (.ok (.ret (.ref (h.objs.size + 1)))) ⟨(h.push emptyDict).push (pileObj h.objs.size), g, d, t, os⟩) :
    codeAny (model prog w) A (.call (.builtin "list.__new__") ⟨[.ref 129], []⟩) R ⟨h, g, d, t, os⟩ := by
  obtain ⟨⟨oc, od, cd, sl, hC, e2, e4⟩, made, base, self, top, call, typ, cls⟩ := Y
  refine codeAny_of_tree ?_
  show wpAny _ A.in1 (do checkBuiltinCall "list.__new__" ⟨[.ref 129], []⟩; again (.builtin "list.__new__" ⟨[.ref 129], []⟩)) _ _ _
  refine wpAny_bind ?_
  simp only [checkBuiltinCall, ln_kind, ln_split]
  repeat (first | simp only [beq_self_eq_true, bne_self_eq_false, Bool.not_true, Bool.false_eq_true, if_false, if_true] | with_reducible refine Looks.at cls ?_ | with_reducible refine Looks.at top ?_ | with_reducible refine Looks.at base ?_ | with_reducible refine Looks.at made ?_ | lk)
  refine ⟨plainId_quiet F.plain_list_new _, codeAny_builtin_stack F.entry_list_new rfl fun p st => ?_⟩
  rw [Around.under_plainId F.plain_list_new _]
  have hown := PySem.owner_list_new
  simp only [hown]
  have hC' := Heap.get?_push_of_some (pileObj h.objs.size) (Heap.get?_push_of_some emptyDict hC)
  repeat (first | simp only [beq_self_eq_true, bne_self_eq_false, Bool.not_true, Bool.false_eq_true, if_false, if_true] | with_reducible refine Looks.at cls ?_ | with_reducible refine Looks.at top ?_ | lk)
  rw [if_neg (by rw [e2]; decide)]
  refine wpAny_pure (wpAny_pure ?_)
  show R _ _
  rw [Heap.size_push]
  exact hq
theorem make_pile {init : Value} (Y : PMakes (model prog w) h) (hi : Looks (model prog w) h (typeLookup (.ref 129) "__init__") (some init))
    (hb : ∀ self, Looks (model prog w) h (bindSpecial init self) (init, [self]))
    (hq : codeAny (model prog w) (A.under (.builtin "type.__call__" ⟨[.ref 129], []⟩)) (.call init ⟨[.ref (h.objs.size + 1)], []⟩) (InitBack (h.objs.size + 1) R) ⟨(h.push emptyDict).push (pileObj h.objs.size), g, d, t, os⟩) :
    codeAny (model prog w) A (.call (.ref 129) ⟨[], []⟩) R ⟨h, g, d, t, os⟩ := by
  have Y' := Y
  obtain ⟨⟨oc, od, cd, sl, hC, e2, e4⟩, made, base, self, top, call, typ, cls⟩ := Y
  refine codeAny_of_tree ?_
  show wpAny _ _ (callAny (.ref 129) _) _ _ _
  refine nd_load hC ?_
  show wpAny _ _ (callAny.viaDunder (.ref 129) _) _ _ _
  unfold callAny.viaDunder
  refine wpAny_bind (call.at ?_)
  dsimp only
  rw [tc_bind]
  refine wpAny_bind (wpAny_pure (wpAny_bind (wpAny_pure ?_)))
  refine wpAny_pure (a := Fin.again (.call (.builtin "type.__call__") ⟨[.ref 129], []⟩)) (And.intro rfl ?_)
  refine codeAny_call_builtin_at (Code.quiet_builtin _ (by decide +kernel)) entry_typeCall (check_slot tc_kind tc_split typ (tc_args _ _ _) ?_)
  unfold Builtin.«type.__call__»
  have hm : Looks (model prog w) h (mroOf (.ref 129)) cd.mro := ((Looks.ld (part := none) hC).andThen .now).andThen .now
  repeat (first | simp only [e4, Bool.false_eq_true, if_false] | with_reducible refine wpAny_call ?_ | lk)
  refine new_pile Y' ?_
  have k : ∀ b o, h.get? b = some o → ((h.push emptyDict).push (pileObj h.objs.size)).get? b = some o := fun b o e => Heap.get?_push_of_some _ (Heap.get?_push_of_some _ e)
  have hx : ((h.push emptyDict).push (pileObj h.objs.size)).get? (h.objs.size + 1) = some (pileObj h.objs.size) := by heap_get
  have t1 : Looks (model prog w) ((h.push emptyDict).push (pileObj h.objs.size)) (typeOf (.ref (h.objs.size + 1))) (.ref 129) := (Looks.ld hx).andThen .now
  have s1 := self.keeps k
  have i1 := hi.keeps k
  have b1 := (hb (.ref (h.objs.size + 1))).keeps k
  unfold isInstance callSpecial? specialOf
  repeat (first | with_reducible refine wpAny_call ?_ | lk)
  refine codeAny_mono hq fun r s' z => ?_
  rcases r with e | (v | _ | _ | _) <;> first | exact z | exact z.elim | skip
  obtain ⟨rfl, z⟩ := z
  exact wpAny_pure (wpAny_pure z)
end
end Mine
end
section
open PySem PySem.W PyProof.Rows
set_option maxRecDepth 100000
set_option linter.unusedVariables false
set_option maxHeartbeats 4000000
namespace Mine
open Builtin Builtin.ObjectAttr
example (A : Around) : (A.under (.builtin "type.__call__" ⟨[.ref 129], []⟩)).depth = A.depth + 1 := rfl
example (A : Around) : (A.under (.builtin "type.__call__" ⟨[.ref 129], []⟩)).handled = A.handled := rfl
example (A : Around) : (A.under (.builtin "type.__call__" ⟨[.ref 129], []⟩)).units = A.units + 1 := rfl
noncomputable def initDict (P : Params) (tk : Tok) (v : Value) : Obj := Obj.putName "_initial_size" (PyData.keyHash P "_initial_size") (.str "_initial_size" tk) v emptyDict
theorem initDict_data (P : Params) (tk : Tok) (v : Value) : ∃ e n, initDict P tk v = { cls := .type "dict", data := .dict #[e] n } ∧ e.key = .str "_initial_size" tk := ⟨_, _, rfl, rfl⟩
theorem initDict_ok (P : Params) (tk : Tok) (v : Value) : PDict (initDict P tk v) := by
  obtain ⟨e, n, h1, h2⟩ := initDict_data P tk v
  rw [h1]
  refine ⟨rfl, fun x hx => ?_⟩
  unfold lookIn
  have hk : e.key.isStr x = false := by
    rw [h2]
    unfold pnames at hx
    simp at hx
    rcases hx with rfl | rfl | rfl | rfl <;> rfl
  have hr : e.refKey = false := by unfold DictEntry.refKey; rw [h2]
  simp [hk, hr]

theorem room_make {k : Nat} {A : Around} (R : Room (k + 1) A) : Room k (A.under (.builtin "type.__call__" ⟨[.ref 129], []⟩)) := ⟨R.1, by have := R.2.1; show A.depth + 1 + k < 900; omega, by have := R.2.2; show A.units + 1 + 16 * k < 9000; omega⟩
section
variable {c : Cx} {A : Around} {E : Value → Shared → Prop} {s : Shared} {a d : Addr} {o : Obj} {vs : Array Value} {n : Nat}
theorem setattr_core (G : c.Good) (S : St c s) (P : PAt s a d emptyDict vs n) {v : Value} {tk : Tok} {Q : Value → Shared → Prop}
    (h : ∀ h' tk, (∃ o, h'.get? d = some o ∧ PDict o) → Heap.SameBut d s.heap h' → Q .none { s with heap := h', toks := tk }) : wpAny (model c.prog c.w) A (call (.builtin "object.__setattr__") [.ref a, .str "_initial_size" tk, v]) Q E s := by
  have X := inK_all G S
  have SF := PySem.F.store_object
  have sub : Looks (model c.prog c.w) s.heap (isInstance (.ref a) (.type "object")) true := P.inst.type.andThen (looks_mroIn X (by rw [G.K]; kernel_rfl))
  refine wpAny_call ?_
  refine codeAny_call_builtin SF.slot.plain SF.entry (@check_slot (model c.prog c.w) _ _ s "object.__setattr__" "object" "__setattr__" (.ref a) [.str "_initial_size" tk, v] [] _ SF.kind SF.split sub (SF.args (.ref a) (.str "_initial_size" tk) v) ?_)
  have hc : clsIn c.K 129 = some (clsOf c.w.params 129) := by rw [G.K]; kernel_rfl
  have hmro : (clsOf c.w.params 129).mro = [.ref 129, .type "list", .type "object"] := by kernel_rfl
  have hhas : (clsOf c.w.params 129).hasDict = true := by kernel_rfl
  have hm : Looks (model c.prog c.w) s.heap (mroOf (.ref 129)) (clsOf c.w.params 129).mro := (looks_clsIn X hc).andThen .now
  have hloop : refuseLoop (.ref a) "__setattr__" [.ref 129, .type "list", .type "object"] = pure () := by rw [refuseLoop_ref]; kernel_rfl
  rw [osa_eq, refuse_eq]
  refine wpAny_bind (wpAny_bind (P.inst.type.here (wpAny_bind (hm.here ?_))))
  rw [hmro, hloop]
  refine wpAny_pure (wpAny_bind (P.inst.type.here (wpAny_bind ((looks_findIn X (r := none) (by rw [G.K]; kernel_rfl)).here (wpAny_bind (wpAny_pure ?_))))))
  have D := P.dict
  refine wpAny_bind (wpAny_pure (wpAny_bind (wpAny_bind (wpAny_loadPart P.at_ (wpAny_bind ((looks_clsIn X hc).here ?_))))))
  rw [hhas]
  refine wpAny_pure (a := some d) (wpAny_bind (wpAny_pure (wpAny_bind ?_)))
  unfold nsSet
  refine wpAny_bind (wpAny_bind (wpAny_askSetting (wpAny_pure (wpAny_bind (wpAny_mkText (wpAny_bind (wpAny_loadPart D ?_)))))))
  dsimp only
  have c0 : (!(#[] : Array DictEntry).any (·.key.isStr "_initial_size") && (#[] : Array DictEntry).any (·.refKey)) = false := by simp
  rw [aRefKeyMayBeTheName_at, c0]
  refine wpAny_updatePart D ?_
  have D' : (s.heap.update d (Obj.putName "_initial_size" (PyData.keyHash c.w.params "_initial_size") (.str "_initial_size" s.toks) v)).get? d = some (initDict c.w.params s.toks v) := by
    rw [Heap.get?_update_self _ D (by rfl)]; rfl
  refine wpAny_bind (wpAny_lookBehind D' (by
    obtain ⟨e, n, h1, h2⟩ := initDict_data c.w.params s.toks v
    rw [h1]; exact pastItsLine_dict (by rw [sizeLine_eq]; simp)) ?_)
  exact wpAny_pure (h _ _ ⟨_, D', initDict_ok _ _ _⟩ (Heap.SameBut.update ..))
theorem setattr_pile (G : c.Good) (S : St c s) (P : PAt s a d emptyDict vs n) {v : Value} {Q : Unit → Shared → Prop}
    (h : ∀ h' tk, (∃ o, h'.get? d = some o ∧ PDict o) → Heap.SameBut d s.heap h' → Q () { s with heap := h', toks := tk }) : wpAny (model c.prog c.w) A (setAttr (.ref a) "_initial_size" v) Q E s := by
  unfold setAttr
  refine wpAny_bind (wpAny_mkText ?_)
  have S1 : St c { s with toks := s.toks + 1 } := S.tok _
  have P1 : PAt { s with toks := s.toks + 1 } a d emptyDict vs n := ⟨P.at_, P.dict, P.ok⟩
  refine wpAny_bind (pile_special (id := "object.__setattr__") P1 G S1 (by rw [G.K]; kernel_rfl) (PySem.F.store_object.slot.bind _) ?_)
  exact setattr_core G S1 P1 fun h' tk ho hs => wpAny_pure (h h' tk ho hs)

theorem init_body {Q : Value → Shared → Prop} (P : PAt s a d o #[] n) (hQ : ∀ h' n', h'.get? a = some { cls := .ref 129, dict := some d, data := .seq #[] n' } → Heap.SameBut a s.heap h' → Q .none { s with heap := h' }) :
    wpAny (model c.prog c.w) A (Builtin.«list.__init__» ⟨[.ref a], []⟩) (fun fin s' => ∃ v, fin = .done (.ret v) ∧ Q v s') E s := by
  have ho := P.at_
  show wpAny _ _ (Builtin.List.listItems (.ref a) >>= fun old => updateSeq a (fun _ => #[]) >>= fun _ => letGo old.toList.reverse >>= fun _ => ret .none) _ _ s
  unfold Builtin.List.listItems
  refine wpAny_bind (wpAny_bind (wpAny_seqItems ho rfl (wpAny_pure ?_)))
  refine wpAny_bind (wpAny_updateSeq ho rfl ?_)
  exact wpAny_bind (wpAny_letGo (wpAny_pure ⟨.none, rfl, hQ _ _ (Heap.get?_update_self _ ho rfl) (Heap.SameBut.update ..)⟩))
theorem len_body {Q : Value → Shared → Prop} (P : PAt s a d o vs n) (hQ : ∀ t, Q (.int vs.size t) { s with toks := s.toks + 1 }) :
    wpAny (model c.prog c.w) A (Builtin.«list.__len__» ⟨[.ref a], []⟩) (fun fin s' => ∃ v, fin = .done (.ret v) ∧ Q v s') E s := by
  have ho := P.at_
  show wpAny _ _ (do retInt (← seqSize a)) _ _ s
  unfold seqSize
  refine wpAny_bind (wpAny_bind (wpAny_load ho ?_))
  exact wpAny_pure (wpAny_bind (wpAny_mkInt (wpAny_pure ⟨_, rfl, hQ _⟩)))
noncomputable def dfltOf (P : Params) (f : Addr) : Value := match (fdOf P f).defaults with
  | .ref a => (match (objOf P a).data with
    | .seq xs _ => xs.getD 0 .none
    | _ => .none)
  | _ => .none
theorem init_binds (G : c.Good) (S : St c s) : BindsTo s (fdOf c.w.params 66) ⟨[.ref a], []⟩ [("self", .ref a), ("initial_size", dfltOf c.w.params 66)] :=
  kp_binds (inK_all G S) (by intro S; rw [G.K]; kernel_rfl)
theorem init_code (Fu : c.Full) {R : Result → Shared → Prop} (hroom : A.depth < recursionLimit) (S : St c s) (P : PAt s a d emptyDict #[] n) (hlo : c.hB.objs.size ≤ a ∧ c.hB.objs.size ≤ d)
    (hR : ∀ s', St c s' → (∃ o n', PAt s' a d o #[] n') → Chg (fun z => z = a ∨ z = d ∨ s.heap.objs.size ≤ z) s.heap s'.heap → R (.ok (.ret .none)) s') : codeAny (model c.prog c.w) A (.call (.ref 66) ⟨[.ref a], []⟩) R s := by
  have D := sup_init Fu.G
  have X := inK_all Fu.G S
  refine ks_codeAny_call_defAt (o := objOf c.w.params 66) (fd := fdOf c.w.params 66) (body := bodyOf c.w.params 66) (binds := [("self", .ref a), ("initial_size", dfltOf c.w.params 66)]) hroom (X _ _ D.at_.1) D.at_.2 (S.noLimit Fu.G.ok) (codeK_rec Fu.G.ok S D.code) D.body (init_binds Fu.G S) (fun x hx => by
    have := List.all_eq_true.mp D.cells x hx; simpa using this) (fun x hx => ?_) (fun h₀ hns hk => ?_) D.co D.gen D.kind
  · simp at hx
    rcases hx with rfl | rfl
    · exact D.self
    · kernel_rfl
  · have hz : s.heap.objs.size ≤ h₀.objs.size := Nat.le_of_lt hns.lt
    have S1 : St c { s with heap := h₀, toks := s.toks + 2 } := S.keeps hk hz rfl rfl
    have P1 : PAt { s with heap := h₀, toks := s.toks + 2 } a d emptyDict #[] n := ⟨hk _ _ P.at_, hk _ _ P.dict, P.ok⟩
    have lta : a < s.heap.objs.size := Heap.lt_size P.at_
    have ltd : d < s.heap.objs.size := Heap.lt_size P.dict
    have g1 : Chg (fun z => z = a ∨ z = d ∨ s.heap.objs.size ≤ z) s.heap h₀ := ⟨hz, fun b o _ _ e => hk b o e⟩
    refine ks_wpAt_execs_cons (ks_wpAt_Assign_Attr (wpAt_of_wpAny (wpAny_Name (wpAny_loadName_local D.kind (by kernel_rfl) hns rfl ?_))))
    refine wpAny_Name (wpAny_loadName_local D.kind D.self hns rfl ?_)
    refine setattr_pile Fu.G S1 P1 fun h2 tk ho hs => ?_
    obtain ⟨od, ho, hod⟩ := ho
    have S2 : St c { s with heap := h2, toks := tk } := S1.same (s' := { s with heap := h2, toks := tk }) hlo.2 hs rfl rfl
    have P2 : PAt { s with heap := h2, toks := tk } a d od #[] n := ⟨(hs.2 a (Ne.symm P.ne)).trans P1.at_, ho, hod⟩
    have g2 := g1.trans (SameBut.chg (P := fun z => z = a ∨ z = d ∨ s.heap.objs.size ≤ z) hs (.inr (.inl rfl)))
    have hn2 : h2.Ns s.heap.objs.size _ := hns.sameBut hs (Nat.ne_of_gt ltd)
    refine ks_wpAt_execs_cons (ks_wpAt_Expr_any (ks_wpAt_MethodCall (sup_base Fu D S2 P2 hn2 rfl (by decide) fun h3 hk3 hso => ?_)))
    have S3 : St c { s with heap := h3, toks := tk } := S2.keeps (s' := { s with heap := h3, toks := tk }) hk3 (size_of_keep hso) rfl rfl
    have P3 : PAt { s with heap := h3, toks := tk } a d od #[] n := ⟨hk3 _ _ P2.at_, hk3 _ _ P2.dict, hod⟩
    have g3 := g2.trans (⟨size_of_keep hso, fun b o _ _ e => hk3 b o e⟩ : Chg (fun z => z = a ∨ z = d ∨ s.heap.objs.size ≤ z) h2 h3)
    refine sup_method (id := "list.__init__") Fu S3 P3 (.inr rfl) (by rw [Fu.G.K]; kernel_rfl) (by decide) hso fun h4 hk4 hmw => mw_callWith hmw (mw_call hmw (bound_init _) (by decide +kernel) F.entry_list_init ?_)
    have S4 : St c { s with heap := h4, toks := tk + 1 } := S3.keeps (s' := { s with heap := h4, toks := tk + 1 }) hk4 (size_of_keep hmw) rfl rfl
    have P4 : PAt { s with heap := h4, toks := tk + 1 } a d od #[] n := ⟨hk4 _ _ P3.at_, hk4 _ _ P3.dict, hod⟩
    have g4 := g3.trans (⟨size_of_keep hmw, fun b o _ _ e => hk4 b o e⟩ : Chg (fun z => z = a ∨ z = d ∨ s.heap.objs.size ≤ z) h3 h4)
    refine init_body P4 fun h5 n5 hx5 hs5 => ?_
    have S5 : St c { s with heap := h5, toks := tk + 1 } := S4.same (s' := { s with heap := h5, toks := tk + 1 }) hlo.1 hs5 rfl rfl
    refine wpAt_of_wpAny (wpAny_execs_nil (hR _ S5 ⟨od, n5, hx5, (hs5.2 d P.ne).trans P4.dict, hod⟩ (g4.trans (SameBut.chg hs5 (.inl rfl)))))

theorem part_bind (P : Params) (v : Value) : bindArgs (fdOf P 126) ⟨[v], []⟩ = pure ((["self"] : List Str).zip [v]) := by kernel_rfl
theorem part_binds {c : Cx} {s : Shared} {v : Value} : BindsTo s (fdOf c.w.params 126) ⟨[v], []⟩ ((["self"] : List Str).zip [v]) := by
  intro M A E Q hq
  rw [part_bind]
  exact wpAny_pure hq
theorem part_code (Fu : c.Full) {R : Result → Shared → Prop} (hroom : A.depth < recursionLimit) (S : St c s) (P : PAt s a d o vs n)
    (hQ : ∀ s' t, St c s' → (∀ b o, s.heap.get? b = some o → s'.heap.get? b = some o) → s.heap.objs.size ≤ s'.heap.objs.size → R (.ok (.ret (.int vs.size t))) s') : codeAny (model c.prog c.w) A (.call (.ref 126) ⟨[.ref a], []⟩) R s := by
  have D := sup_part Fu.G
  have X := inK_all Fu.G S
  refine ks_codeAny_call_defAt (o := objOf c.w.params 126) (fd := fdOf c.w.params 126) (body := bodyOf c.w.params 126) (binds := (["self"] : List Str).zip [.ref a]) hroom (X _ _ D.at_.1) D.at_.2 (S.noLimit Fu.G.ok) (codeK_rec Fu.G.ok S D.code) D.body part_binds (fun x hx => by
    have := List.all_eq_true.mp D.cells x hx; simpa using this) (fun x hx => ?_) (fun h₀ hns hk => ?_) D.co D.gen D.kind
  · simp at hx
    subst hx; exact D.self
  · have hz : s.heap.objs.size ≤ h₀.objs.size := Nat.le_of_lt hns.lt
    have S1 : St c { s with heap := h₀, toks := s.toks + 1 } := S.keeps hk hz rfl rfl
    have P1 : PAt { s with heap := h₀, toks := s.toks + 1 } a d o vs n := ⟨hk _ _ P.at_, hk _ _ P.dict, P.ok⟩
    refine ks_wpAt_execs_cons (ks_wpAt_Return_some (ks_wpAt_MethodCall (sup_base Fu D S1 P1 hns rfl (by decide) fun h3 hk3 hso => ?_)))
    have S3 : St c { s with heap := h3, toks := s.toks + 1 } := S1.keeps (s' := { s with heap := h3, toks := s.toks + 1 }) hk3 (size_of_keep hso) rfl rfl
    have P3 : PAt { s with heap := h3, toks := s.toks + 1 } a d o vs n := ⟨hk3 _ _ P1.at_, hk3 _ _ P1.dict, P.ok⟩
    refine sup_method (id := "list.__len__") Fu S3 P3 (.inl rfl) (by rw [Fu.G.K]; kernel_rfl) (by decide) hso fun h4 hk4 hmw => mw_callWith hmw (mw_call hmw (bound_len _) (by decide +kernel) PySem.entry_list_len ?_)
    have S4 : St c { s with heap := h4, toks := s.toks + 1 + 1 } := S3.keeps (s' := { s with heap := h4, toks := s.toks + 1 + 1 }) hk4 (size_of_keep hmw) rfl rfl
    have P4 : PAt { s with heap := h4, toks := s.toks + 1 + 1 } a d o vs n := ⟨hk4 _ _ P3.at_, hk4 _ _ P3.dict, P.ok⟩
    exact len_body P4 fun t => hQ _ t (S4.tok _) (fun b o e => hk4 b o (hk3 b o (hk b o e))) (Nat.le_trans hz (Nat.le_trans (size_of_keep hso) (size_of_keep hmw)))
theorem part_ok (Fu : c.Full) {k : Nat} (R : Room (k + 1) A) (S : St c s) (P : PAt s a d o vs n) {Q : Value → Shared → Prop}
    (hQ : ∀ s' t, St c s' → (∀ b o, s.heap.get? b = some o → s'.heap.get? b = some o) → s.heap.objs.size ≤ s'.heap.objs.size → Q (.int vs.size t) s') : wpAny (model c.prog c.w) A (call (.ref 126) [.ref a]) Q F0 s :=
  wpAny_call (part_code Fu R.depth S P hQ)
/-- pile.part_count() -/
theorem ev_partCount (Fu : c.Full) {O : Addr → Prop} {k : Nat} {env : Env} {ρ : List (Str × D)} {e : Expr} {ds : List D} {apos pos : Pos} {pl : Sem Bool} (X : EvO c O (k + 1) env ρ e (.pile ds)) (he : MethForm e "part_count" apos pos [] env pl) :
    EvO c O (k + 1) env ρ (.Call (.Attribute e "part_count" apos) [] [] pos) (.int ds.length) := fun A s R S V => by
  refine MethodCall_ (pl := pl) (X.use R S V fun v s1 S1 g1 i => ?_) he
  unfold Is at i
  obtain ⟨a, d, o, vs, n, rfl, na, ho, ⟨h1, h2, h3⟩, r⟩ := i
  have P : PAt s1 a d o vs n := ⟨ho, h1, h3⟩
  refine pile_method (t := .type "function") (f := .ref 126) P Fu.G S1 (by decide) (by rw [Fu.G.K]; kernel_rfl) (by rw [Fu.G.K]; kernel_rfl) (by decide) ?_
  refine PySem.Calls.callWith_function (o := objOf c.w.params 126) (fd := fdOf c.w.params 126) (evalArgs_nil3 ⟨⟨inK_all Fu.G S1 _ _ (sup_part Fu.G).at_.1, (sup_part Fu.G).at_.2⟩, ?_⟩)
  have hl : vs.size = ds.length := by rw [← r.length]; simp
  refine part_ok Fu R S1 P fun s' t S' hk hz => ⟨S', g1.trans ⟨hz, fun b o _ e => hk b o e⟩, ?_⟩
  unfold Is; rw [hl]; exact ⟨t, rfl⟩
end
end Mine
end
section
open PySem PySem.W PyProof.Rows
set_option maxRecDepth 100000
set_option linter.unusedVariables false
namespace Mine
section
variable {c : Cx} {env : Env} {b : Blk} {k : Nat} {ρ : List (Str × D)} {ω : OL} {A : Around} {s s' : Shared}
/-- a new thing that a call has made -/
theorem Sx.adopt (x : Sx c env b ρ ω s) (S' : St c s') (g : Grow s.heap s'.heap) {a : Addr} {od : OD} (nm : Str) (ha : s.heap.objs.size ≤ a) (h : OwnX c (OX b.X ((nm, a, od) :: ω)) s'.heap a od)
    (hnm : anon nm = true := by decide) (hn : noOwn [nm] ω = true := by kernel_rfl) : Sx c env b ρ ((nm, a, od) :: ω) s' := by
  obtain ⟨lv, F, B, W⟩ := id x.ex
  have up : ∀ z, OX b.X ((nm, a, od) :: ω) z → Up (OX b.X ω) s.heap.objs.size z := fun z q => by
    rcases q with q | ⟨w, hw, e⟩
    · exact .inl (.inl q)
    · rcases List.mem_cons.mp hw with rfl | hw
      · exact .inr (e ▸ ha)
      · exact .inl (.inr ⟨w, hw, e⟩)
  have F' := F.go S' g
  refine ⟨⟨lv, ⟨S', F'.es, fun z q => ?_, x.fr', F'.frm, F'.grow, F'.above, F'.base⟩, ((B.up (Nat.le_refl _)).sub up).go g, fun w hw => ?_⟩, List.pairwise_cons.mpr ⟨fun w hw => ⟨fun q => ?_, fun q => ?_⟩, x.nd⟩, fun w hw => ?_, x.fr, x.chg.trans g.chg⟩
  · rcases id q with q' | ⟨w, hw, rfl⟩
    · exact F'.own _ (.inl q')
    · rcases List.mem_cons.mp hw with rfl | hw
      · exact h.lt
      · exact F'.own _ (.inr ⟨w, hw, rfl⟩)
  · rcases List.mem_cons.mp hw with rfl | hw
    · exact ⟨.inl hnm, h⟩
    · exact ⟨(W w hw).1, (((W w hw).2.up (Nat.le_refl _)).sub up).grow g⟩
  · exact noOwn.get hn hw (by simp [← q])
  · have := (W w hw).2.lt
    have q' : a = w.2.1 := q
    exact Nat.lt_irrefl _ (Nat.lt_of_lt_of_le this (q' ▸ ha))
  · rcases List.mem_cons.mp hw with rfl | hw
    · exact ⟨fun q => Nat.lt_irrefl _ (Nat.lt_of_lt_of_le (F.own _ (.inl q)) ha), Nat.le_trans F.grow.1 ha, .inr (Nat.le_trans x.chg.1 ha)⟩
    · exact x.mine w hw
theorem emptyDict_ok : PDict emptyDict := ⟨rfl, fun x hx => rfl⟩
theorem new_at {h : Heap} : ((h.push emptyDict).push (pileObj h.objs.size)).get? (h.objs.size + 1) = some (pileObj h.objs.size) := by heap_get
theorem new_dict {h : Heap} : ((h.push emptyDict).push (pileObj h.objs.size)).get? h.objs.size = some emptyDict := Heap.get?_push_of_some _ (Heap.get?_push_size _ rfl)
/-- _Accumulator() -/
theorem sx_evNewPile (Fu : c.Full) {p pos : Pos} (nm : Str) {Q : Value → Shared → Prop} (R : Room (k + 2) A) (x : Sx c env b ρ ω s) (hx : env.kindOf "_Accumulator" = some .globalImplicit)
    (h : ∀ s' a, Sx c env b ρ ((nm, a, .pile []) :: ω) s' → Q (.ref a) s') (hnm : anon nm = true := by decide) (hn : noOwn [nm] ω = true := by kernel_rfl) : wpAny (model c.prog c.w) A (eval (.Call (.Name "_Accumulator" p) [] [] pos) env) Q F0 s := by
  have S := x.st
  have X := inK_all Fu.G S
  obtain ⟨lv, F, B, W⟩ := id x.ex
  show wpAny _ A (do callWith pos (← eval (.Name "_Accumulator" p) env) [] (backTo pos (starEach [] env)) []) _ _ s
  refine wpAny_bind (fnv_global Fu.G.ok F.es (v := .ref 129) (by rw [Fu.G.K]; kernel_rfl) hx (by decide) A s _ _ S ?_)
  have hcls : s.heap.get? 129 = some (objOf c.w.params 129) := X _ _ (by rw [Fu.G.K]; kernel_rfl)
  have hcd : (objOf c.w.params 129).data = .cls (clsOf c.w.params 129) := by kernel_rfl
  have Y := pmakes Fu.G X
  unfold callWith
  refine wpAny_bind (wpAny_holding (evalArgs_nil3 (wpAny_bind (wpAny_standAt ?_))))
  refine wpAny_bind (m := keeperOf (.ref 129)) ?_
  unfold keeperOf
  refine wpAny_bind (wpAny_load hcls ?_)
  rw [hcd]
  refine wpAny_bind (Y.call.here ?_)
  refine wpAny_pure ?_
  rw [if_pos (by rfl)]
  show wpAny _ _ (call (.ref 129) [] >>= fun r => do holding [r] point; pure r) _ _ _
  have tail : ∀ {t : Sem Value} {s₁ : Shared} {Q : Value → Shared → Prop} {E : Value → Shared → Prop}, wpAny (model c.prog c.w) A t Q E s₁ → wpAny (model c.prog c.w) A (t >>= fun r => holding [r] point >>= fun _ => pure r) Q E s₁ := fun h =>
    wpAny_bind (wpAny_mono h (fun r s₂ hr => wpAny_bind (wpAny_holding (wpAny_point (wpAny_pure hr)))) fun _ _ x => x)
  refine tail (wpAny_call ?_)
  obtain ⟨hh, g, dr, t, os⟩ := s
  refine make_pile Y (init := .ref 66) (looks_findIn X (by rw [Fu.G.K]; kernel_rfl)) (fun self => bind_fn X self (by rw [Fu.G.K]; kernel_rfl)) ?_
  have g2 : Grow hh ((hh.push emptyDict).push (pileObj hh.objs.size)) := (Grow.push _ _).trans (Grow.push _ _)
  have S2 : St c ⟨(hh.push emptyDict).push (pileObj hh.objs.size), g, dr, t, os⟩ := S.keeps (s' := ⟨(hh.push emptyDict).push (pileObj hh.objs.size), g, dr, t, os⟩) (fun b o e => Heap.get?_push_of_some _ (Heap.get?_push_of_some _ e)) g2.1 rfl rfl
  have P2 : PAt ⟨(hh.push emptyDict).push (pileObj hh.objs.size), g, dr, t, os⟩ (hh.objs.size + 1) hh.objs.size emptyDict #[] 0 := ⟨new_at, new_dict, emptyDict_ok⟩
  have lb : c.hB.objs.size ≤ hh.objs.size := S.grow.1
  refine init_code Fu (room_make (k := k + 1) R).depth S2 P2 ⟨Nat.le_succ_of_le lb, lb⟩ fun s' S' hP ch => ?_
  obtain ⟨o, n', P'⟩ := hP
  have gg : Grow hh s'.heap := by
    have c1 : Chg (fun z => hh.objs.size ≤ z) hh s'.heap := g2.chg.trans (ch.sub fun z q => by
      rcases q with rfl | rfl | q
      · exact Nat.le_succ _
      · exact Nat.le_refl _
      · exact Nat.le_trans g2.1 q)
    exact c1.grow fun a q => q
  refine ⟨rfl, h s' (hh.objs.size + 1) (x.adopt S' gg nm (Nat.le_succ _) ⟨hh.objs.size, o, #[], n', P'.at_, ⟨P'.dict, fun q => ?_, P'.ok⟩, .nil⟩ hnm hn)⟩
  rcases q with q | ⟨w, hw, e⟩
  · exact Nat.lt_irrefl _ (F.own _ (.inl q))
  · rcases List.mem_cons.mp hw with rfl | hw
    · exact absurd e (Nat.ne_of_gt (Nat.lt_succ_self _))
    · exact Nat.lt_irrefl _ (F.own _ (.inr ⟨w, hw, e⟩))
end
end Mine
end
section
open PySem PySem.W PyProof.Rows
set_option maxRecDepth 100000
set_option linter.unusedVariables false
namespace Mine
section
variable {c : Cx} {O : Addr → Prop} {k : Nat} {env : Env} {ρ : List (Str × D)} {A : Around} {s : Shared}
structure LcB (c : Cx) (O : Addr → Prop) (k : Nat) (env : Env) (ρ : List (Str × D)) (elt tgt : Expr) (ifs : List Expr) (scope : Scope) (xs : List Str) (items : List D) (cond : D → Bool) (F : D → D) (σ : D → List (Str × D)) : Prop where
  ok : compOk scope env = true
  hxs : xs.all (fun x => scope.names.lookup x == some .local || scope.names.lookup x == some .cell) = true
  rho : ρ.all (fun p => scope.names.lookup p.1 != some .local && scope.names.lookup p.1 != some .cell) = true
  size : items.length ≤ sizeLine
  bind : ∀ C d, d ∈ items → AsO c (compX scope env C) tgt xs d (σ d)
  test : ∀ O' C d, d ∈ items → IfO c O' k (compX scope env C) (σ d ++ ρ) ifs (cond d)
  val : ∀ O' C d, d ∈ items → cond d = true → EvO c O' k (compX scope env C) (σ d ++ ρ) elt (F d)
  keys : ∀ d ∈ items, ∀ x, x ∉ xs → (σ d).lookup x = none
theorem comp_run1 {elt tgt iter : Expr} {ifs : List Expr} {scope : Scope} {pos : Pos} {xs : List Str} {items : List D} {cond : D → Bool} {F : D → D} {σ : D → List (Str × D)}
    (L : LcB c O k env ρ elt tgt ifs scope xs items cond F σ) (Rm : Room k A) (S : St c s) (V : EnvOk c O env ρ s.heap) {x : Value}
    (hsrc : wpAny (model c.prog c.w) A (pyIter x) (fun it s₂ => St c s₂ ∧ Grow s.heap s₂.heap ∧ ∃ N W J, it = .ref W ∧ s.heap.objs.size ≤ N ∧ J 0 s₂.heap ∧ Wk c O tgt N W items J) F0 s) :
    wpAny (model c.prog c.w) A (pyIter x) (fun it s₂ => wpAny (model c.prog c.w) A (newList []) (fun acc s₃ =>
      wpAny (model c.prog c.w) A (newFunctionEnv scope env.globals (clOf env scope.names []) [] env.qual none .none (some env)) (fun cenv s₄ =>
        codeAny (model c.prog c.w) A (.compStart (.ListComp elt [⟨tgt, iter, ifs, 0⟩] scope pos) 0 it acc { cenv with scope := relabel scope env })
          (LcPost c O s ((items.filter cond).map F) acc cenv.locals) s₄) F0 s₃) F0 s₂) F0 s := by
  obtain ⟨ES, ow, fr, lv, Fm, hr⟩ := id V
  have CF := compOk_facts L.ok
  refine wpAny_mono hsrc (fun it s₂ h₂ => ?_) fun _ _ f => f
  obtain ⟨S₂, g₂, N, W, J, rfl, hN, j0, wk⟩ := h₂
  have hWs := wk.live 0 _ j0
  refine wpAny_newList (wpAny_mono (E := F0) (comp_newEnv (Q := fun cenv s₄ => cenv = { scope := scope, locals := s₂.heap.objs.size + 1, globals := env.globals, cells := cellsFrom (s₂.heap.objs.size + 1 + 1) scope.names (clOf env scope.names []), qual := env.qual, func := none, code := env.code, frame := env.frame, builtins := env.builtins } ∧
      s₄ = { s₂ with heap := pushCells ((s₂.heap.push { cls := .type "list", data := .seq #[] }).push { cls := .type "dict", data := .dict #[] }) scope.names }) ?_) (fun cenv s₄ q => ?_) fun _ _ f => f) (by simp)
  · rw [show ({ s₂ with heap := s₂.heap.push { cls := .type "list", data := .seq (List.toArray []) } } : Shared).heap.objs.size = s₂.heap.objs.size + 1 from Heap.size_push ..]
    exact ⟨rfl, rfl⟩
  obtain ⟨rfl, rfl⟩ := q
  show codeAny (model c.prog c.w) A (.compStart _ 0 (.ref W) (.ref s₂.heap.objs.size) (compX scope env (s₂.heap.objs.size + 1))) (LcPost c O s ((items.filter cond).map F) (.ref s₂.heap.objs.size) (s₂.heap.objs.size + 1)) _
  -- the heap at the loop's start
  have gD := Grow.push s₂.heap { cls := .type "list", data := .seq #[] }
  have kp : ∀ b o, s₂.heap.get? b = some o → (pushCells ((s₂.heap.push { cls := .type "list", data := .seq #[] }).push { cls := .type "dict", data := .dict #[] }) scope.names).get? b = some o :=
    fun b o e => pushCells_keeps _ _ _ _ (Heap.get?_push_of_some _ (Heap.get?_push_of_some _ e))
  have z1 : (s₂.heap.push { cls := .type "list", data := .seq #[] }).objs.size = s₂.heap.objs.size + 1 := Heap.size_push ..
  have z2 : ((s₂.heap.push { cls := .type "list", data := .seq #[] }).push { cls := .type "dict", data := .dict #[] }).objs.size = s₂.heap.objs.size + 1 + 1 := by rw [Heap.size_push, z1]
  have z3 := pushCells_size scope.names ((s₂.heap.push { cls := .type "list", data := .seq #[] }).push { cls := .type "dict", data := .dict #[] })
  rw [z2] at z3
  have gk : Grow s₂.heap (pushCells ((s₂.heap.push { cls := .type "list", data := .seq #[] }).push { cls := .type "dict", data := .dict #[] }) scope.names) := ⟨by omega, fun b o _ e => kp b o e⟩
  have g₄ := g₂.trans gk
  have hs2 : s.heap.objs.size ≤ s₂.heap.objs.size := g₂.1
  have Fm₃ : Frm env lv (s₂.heap.push { cls := .type "list", data := .seq #[] }) := (Fm.grow g₂).grow gD
  have FmX := compX_Frm CF Fm₃
  rw [z1] at FmX
  have inv : CompInv c O scope env xs lv items cond F J s (pushCells ((s₂.heap.push { cls := .type "list", data := .seq #[] }).push { cls := .type "dict", data := .dict #[] }) scope.names).objs.size W s₂.heap.objs.size (s₂.heap.objs.size + 1) 0
      { s₂ with heap := pushCells ((s₂.heap.push { cls := .type "list", data := .seq #[] }).push { cls := .type "dict", data := .dict #[] }) scope.names } := by
    refine ⟨S₂.keeps kp gk.1 rfl rfl, g₄, Nat.le_refl _, wk.frame _ _ _ j0 fun b o _ _ e => kp b o e, ⟨#[], 0, pushCells_keeps _ _ _ _ (Heap.get?_push_of_some _ (Heap.get?_push_size _ rfl)), ?_⟩, ⟨lvIn scope lv, FmX, fun _ _ => rfl⟩⟩
    simp only [List.take_zero, List.filter_nil, List.map_nil]
    exact .nil
  have hZ : ∀ b, FrameAddr (compX scope env (s₂.heap.objs.size + 1)) b → ¬ O b → b < (pushCells ((s₂.heap.push { cls := .type "list", data := .seq #[] }).push { cls := .type "dict", data := .dict #[] }) scope.names).objs.size := fun b q nb => by
    rcases q with rfl | ⟨n, q⟩
    · exact z3
    · have q' : (n, b) ∈ cellsFrom ((s₂.heap.push { cls := .type "list", data := .seq #[] }).push { cls := .type "dict", data := .dict #[] }).objs.size scope.names (clOf env scope.names []) := by rw [z2]; exact q
      rcases pushCells_cells _ _ _ _ q' with y | y
      · exact absurd (fr b (.inr ⟨n, mem_of_lookup (cl_in CF y).1⟩)) nb
      · exact y.lt
  have loop := comp_loop (pos := pos) (iter := iter) (R := LcPost c O s ((items.filter cond).map F) (.ref s₂.heap.objs.size) (s₂.heap.objs.size + 1)) L.ok L.hxs L.rho L.size L.bind L.test L.val L.keys Rm S ES ow fr hr hN wk hWs (Nat.lt_succ_self _) hZ z3
    (fun s' I h' tk hx hsz => by
      have hW := wk.new
      have hsW : s.heap.objs.size ≤ W := Nat.le_trans hN hW
      refine ⟨rfl, I.st.ext (Nat.le_trans S.grow.1 hsW) hx hsz rfl rfl, ⟨Nat.le_trans I.grow.1 hsz, fun b o f e => hx b o (Nat.ne_of_lt (Nat.lt_of_lt_of_le (Heap.lt_size e) hsW)) (I.grow.2 b o f e)⟩, Nat.le_trans hs2 (Nat.le_succ _), ?_, ?_⟩
      · obtain ⟨lv', Fm', _⟩ := I.frm
        obtain ⟨m, ⟨o, es, ep, ho, r⟩, _⟩ := Fm'.ns
        exact ⟨m, o, es, ep, hx _ _ (Nat.ne_of_gt (Nat.lt_succ_of_lt hWs)) ho, r⟩
      · obtain ⟨vs, nn, ho, hv⟩ := I.acc
        rw [List.take_length] at hv
        unfold Is
        refine ⟨s₂.heap.objs.size, vs, nn, rfl, fun q => ?_, hx _ _ (Nat.ne_of_gt hWs) ho, ?_⟩
        · rcases q with q | q
          · exact Nat.lt_irrefl _ (Nat.lt_of_lt_of_le (ow _ q) hs2)
          · exact Nat.ne_of_lt (Nat.lt_succ_self _) q
        · refine IsAll.mono (fun a q => ?_) (fun b o nb f e => hx b o (fun z => nb (.inr (.inl z))) e) _ _ hv
          rcases q with q | rfl
          · exact .inl q
          · exact .inr (.inr (.inr (.inl rfl))))
    _ inv
  refine codeAny_compStart_list loop ?_
  exact wk.self A 0 _ _ _ inv.it loop

theorem it_listV {tgt : Expr} {ds : List D} {v : Value} (S : St c s) (i : Is c O s.heap (.list ds) v) : wpAny (model c.prog c.w) A (pyIter v) (fun it s₂ => St c s₂ ∧ Grow s.heap s₂.heap ∧ ∃ N W J, it = .ref W ∧ s.heap.objs.size ≤ N ∧ J 0 s₂.heap ∧ Wk c O tgt N W ds J) F0 s := by
  have up := Is.up (Nat.le_refl _) _ _ i
  unfold Is at up
  obtain ⟨a, vs, n, rfl, na, ho, r⟩ := up
  refine wpAny_pyIter_list ⟨_, ho, rfl, n, rfl⟩ ?_
  have gp := Grow.push s.heap { cls := .type "list_iterator", data := .fields #[.ref a, .int 0 0] }
  refine ⟨S.push _ rfl rfl, gp, s.heap.objs.size, s.heap.objs.size, _, rfl, Nat.le_refl _, ?_, wk_list (vs := vs) (n := n) (Nat.le_refl _) (Heap.lt_size ho) (notO_of na).1⟩
  exact ⟨⟨_, Heap.get?_push_size _ rfl, rfl, rfl⟩, Heap.get?_push_of_some _ ho, r.grow gp⟩
end
section
variable {c : Cx} {env : Env} {b : Blk} {k : Nat} {ρ : List (Str × D)} {ω ω' : OL} {A : Around} {s s' : Shared}
/-- y = [.. for ..], what is gone through being made by a call that changes things -/
theorem sx_compX {y : Str} {p pos lpos : Pos} {elt tgt iter : Expr} {ifs : List Expr} {scope : Scope} {xs : List Str} {items : List D} {cond : D → Bool} {F : D → D} {σ : D → List (Str × D)} {Q : Flow → Shared → Prop}
    (hI : ∀ Q : Value → Shared → Prop, (∀ v s', Sx c env b ρ ω' s' → Is c (OX b.X ω') s'.heap (.list items) v → Q v s') → wpAny (model c.prog c.w) A (eval iter env) Q F0 s)
    (L : LcB c (OX b.X ω') k env ρ elt tgt ifs scope xs items cond F σ) (R : Room k A) (h : ∀ s', Sx c env b ((y, .list ((items.filter cond).map F)) :: ρ) ω' s' → Q .next s')
    (hs : swapsWith (.ListComp elt [⟨tgt, iter, ifs, 0⟩] scope lpos) (some (.Name y p)) pos.line env = pure true := by kernel_rfl) (hf : ∀ x, foldedSetIterable iter env x = pure x := by intro _; rfl) (hw : HasW env y = true := by kernel_rfl) (hn : noOwn [y] ω' = true := by kernel_rfl) :
    wpAny (model c.prog c.w) A (exec (.Assign [.Name y p] (.ListComp elt [⟨tgt, iter, ifs, 0⟩] scope lpos) pos) env) Q F0 s := by
  have CF := compOk_facts L.ok
  rw [exec_Assign_Name_used y p _ pos hs]
  refine wpAny_bind (wpAny_standAt (wpAny_bind ?_))
  rw [arm_evalThenUse_ListComp]
  refine wpAny_bind (wpAny_comprehension_free (g := ⟨tgt, iter, ifs, 0⟩) (gs := []) rfl hf (closureFor_clOf scope env fun x hx hf => (CF.free x hx hf).1) CF.kind (fun x hx hl => lookup_nodup CF.nodup (hl ▸ hx)) ?_)
  refine hI _ fun v s₁ x i => ?_
  obtain ⟨lv, Fr, B, W⟩ := id x.ex
  refine wpAny_mono (comp_run1 (iter := iter) (pos := lpos) L R Fr.st (Fr.ok B) (it_listV Fr.st i)) (fun it s₂ h₂ => wpAny_mono h₂ (fun acc s₃ h₃ => wpAny_mono h₃ (fun cenv s₄ h₄ => codeAny_mono h₄ fun r s' q => ?_) fun _ _ f => f.elim) fun _ _ f => f.elim) fun _ _ f => f.elim
  obtain ⟨rfl, S₁, g₁, hC, hN, i₁⟩ := q
  generalize cenv.locals = C at *
  obtain ⟨m, hN⟩ := hN
  have x1 := x.more S₁ g₁ hC hN.lt
  have nf : ¬ FrameAddr env C := fun q => Nat.lt_irrefl _ (Nat.lt_of_lt_of_le (Fr.own C (Fr.fr C q)) hC)
  refine wpAny_mono (assign_Name (sx_store' (Q := fun _ s₂ => ∃ m, s₂.heap.Ns C m ∧ ∀ h', Heap.SameBut C s₂.heap h' → Q .next { s₂ with heap := h' }) x1 (i₁.sub fun a q => ?_) (fun s₂ x2 ch => ⟨m, ns_chg hN ch nf, fun h' hs' => h _ ?_⟩) hw hn)) (fun _ s'' q => let ⟨m, a, b⟩ := q; ⟨m, a, fun h' hs' => wpAny_pure (wpAny_pure (b h' hs'))⟩) fun _ _ e => e
  · rcases q with (q | q) | q
    · exact .inl (.inl q)
    · exact .inr q
    · exact .inl (.inr q)
  · refine (x2.touch (s' := { s₂ with heap := h' }) (.inr rfl) nf (Nat.le_trans Fr.grow.1 hC) (.inr (Nat.le_trans x.chg.1 hC)) hs' rfl rfl).less (fun a q => .inl q) fun a q => (x.fr a q).1
end
end Mine
end
section
open PySem PySem.W PyProof.Rows
set_option maxRecDepth 100000
set_option linter.unusedVariables false
namespace Mine
section
variable {c : Cx} {env : Env} {b : Blk} {k : Nat} {ρ : List (Str × D)} {ω : OL} {A : Around} {s s' : Shared}
theorem oset_names2 (ω : OL) (y : Str) (od : OD) : names2 (oset ω y od) = names2 ω := by
  unfold names2 oset
  rw [List.map_map]
  refine List.map_congr_left fun w _ => ?_
  simp only [Function.comp]; split <;> rfl
/-- a call has changed one owned thing -/
theorem Sx.set1 (x : Sx c env b ρ ω s) {y : Str} {a : Addr} {od od' : OD} (hm : (y, a, od) ∈ ω) (S' : St c s') (g : Chg (fun z => z = a ∨ s.heap.objs.size ≤ z) s.heap s'.heap) (hn : OwnX c (OX b.X ω) s'.heap a od') : Sx c env b ρ (oset ω y od') s' := by
  obtain ⟨lv, F, B, W⟩ := id x.ex
  refine x.put (oset_names2 ω y od') S' (g.sub fun z q => q.imp (fun e => ⟨_, hm, e.symm⟩) id) fun w hw => ?_
  obtain ⟨w', hw', e⟩ := List.mem_map.mp hw
  by_cases q : w'.1 == y
  · rw [if_pos q] at e; subst e
    have e' := nd_uniq x.nd hw' hm (.inl (beq_iff_eq.mp q))
    subst e'
    exact hn
  · rw [if_neg q] at e; subst e
    refine ownKeep (W _ hw').2 g (fun z q => q.imp (fun e => by have e' : z = a := e; subst e'; exact .inr ⟨_, hm, rfl⟩) id) fun z => ?_
    rcases z with z | z
    · have e' := nd_uniq x.nd hw' hm (.inr z)
      subst e'
      exact q (beq_iff_eq.mpr rfl)
    · exact Nat.lt_irrefl _ (Nat.lt_of_lt_of_le (W _ hw').2.lt z)
theorem Sx.lowOf (x : Sx c env b ρ ω s) {w : Str × Addr × OD} (hw : w ∈ ω) : c.hB.objs.size ≤ w.2.1 := by
  obtain ⟨lv, F, B, W⟩ := id x.ex
  exact Nat.le_trans F.base (x.mine w hw).2.1
/-- y.pop_from(e) -/
theorem sx_popFrom (G : c.Good) {y : Str} {p apos pos : Pos} {e : Expr} {i : Nat} {a : Addr} {ds : List D} {pl : Sem Bool} {Q : Value → Shared → Prop} (Y : SxEv c env b (k + 1) ρ ω e (.int i)) (R : Room (k + 1) A) (x : Sx c env b ρ ω s)
    (hm : ω.lookup y = some (a, .pile ds)) (hz : ds.length ≤ 1000) (h : ∀ v s', Sx c env b ρ (oset ω y (.pile (ds.take i))) s' → Is c (OX b.X (oset ω y (.pile (ds.take i)))) s'.heap (.list (ds.drop i)) v → Q v s')
    (hy : Has env y = true := by kernel_rfl) (he : MethForm (.Name y p) "pop_from" apos pos [e] env pl := by rfl) (hs : starEach [e] env = (false, eval e env) :: starEach [] env := by rfl) (hd : (y == ("__debug__" : Str)) = false := by decide) (ha : anon y = false := by decide) :
    wpAny (model c.prog c.w) A (eval (.Call (.Attribute (.Name y p) "pop_from" apos) [e] [] pos) env) Q F0 s := by
  have hm' := lookup_mem hm
  obtain ⟨lv, F, B, W⟩ := id x.ex
  refine MethodCall_ (pl := pl) (load_name F hy ((W _ hm').1.resolve_left (by rw [ha]; nofun)) ?_ hd) he
  obtain ⟨dd, o, vs, n, ho, ⟨h1, h2, h3⟩, r⟩ := (W _ hm').2
  refine pile_method (t := .type "function") (f := .ref 81) ⟨ho, h1, h3⟩ G F.st (by decide) (by rw [G.K]; kernel_rfl) (by rw [G.K]; kernel_rfl) (by decide) ?_
  rw [hs]
  refine PySem.Calls.callWith_function (o := objOf c.w.params 81) (fd := fdOf c.w.params 81) (PySem.Calls.evalArgs_plain (Calls.spliced_cons (Y A s _ R x fun v s₁ x₁ g₁ i₁ => Calls.spliced_nil ⟨⟨inK_all G x₁.st _ _ (by rw [G.K]; kernel_rfl), by kernel_rfl⟩, ?_⟩)))
  obtain ⟨lv1, F1, B1, W1⟩ := id x₁.ex
  refine wpAny_mono (popFrom_ok (O := OX b.X ω) G R F1.st F1.own (.inr ⟨_, hm', rfl⟩) (x₁.lowOf hm') (W1 _ hm').2 hz i₁) (fun v2 s2 q => ?_) fun _ _ f => f
  obtain ⟨S2, ch, P2, i2⟩ := q
  exact h v2 s2 (x₁.set1 hm' S2 ch (od' := .pile (ds.take i)) P2) (i2.sub fun z => OX.eq_of (oset_ads ..))
/-- x = y.pop() -/
theorem sx_assignPop {x' y : Str} {px p apos pos epos : Pos} {d : D} {a : Addr} {ds : List D} {pl : Sem Bool} {Q : Flow → Shared → Prop} (x : Sx c env b ρ ω s)
    (hm : ω.lookup y = some (a, .list (ds ++ [d]))) (hz : ds.length ≤ 900) (h : ∀ s', Sx c env b ((x', d) :: ρ) (oset ω y (.list ds)) s' → Q .next s')
    (hy : Has env y = true := by kernel_rfl) (he : MethForm (.Name y p) "pop" apos pos [] env pl := by rfl) (hsw : swapsWith (.Call (.Attribute (.Name y p) "pop" apos) [] [] pos) (some (.Name x' px)) epos.line env = pure false := by rfl) (hd : (y == ("__debug__" : Str)) = false := by decide) (ha : anon y = false := by decide)
    (hw : HasW env x' = true := by kernel_rfl) (hn : noOwn [x'] (oset ω y (.list ds)) = true := by kernel_rfl) :
    wpAny (model c.prog c.w) A (exec (.Assign [.Name x' px] (.Call (.Attribute (.Name y p) "pop" apos) [] [] pos) epos) env) Q F0 s :=
  wpAny_Assign_Name (sx_pop x hm hz (fun v s' x1 i => sx_store x1 i h hw hn) hy he hd ha) hsw
/-- u, v = y.pop() -/
theorem sx_unpackPop {y : Str} {elts : List Expr} {xs : List Str} {m : Nat} {tp p apos pos epos : Pos} {es : List D} {a : Addr} {ds : List D} {pl : Sem Bool} {Q : Flow → Shared → Prop} (hh : A.handled = none) (x : Sx c env b ρ ω s)
    (hm : ω.lookup y = some (a, .list (ds ++ [.tuple es]))) (hz : ds.length ≤ 900) (hN : NamesOf elts xs) (hl : xs.length = es.length) (h : ∀ s', Sx c env b (xs.zip es ++ ρ) (oset ω y (.list ds)) s' → Q .next s')
    (hy : Has env y = true := by kernel_rfl) (he : MethForm (.Name y p) "pop" apos pos [] env pl := by rfl) (hsw : swapsWithSole [.Tuple elts m tp] (.Call (.Attribute (.Name y p) "pop" apos) [] [] pos) epos.line env = pure false := by rfl)
    (hsw' : swappedStores [.Tuple elts m tp] (.Call (.Attribute (.Name y p) "pop" apos) [] [] pos) env = pure none := by rfl) (hd : (y == ("__debug__" : Str)) = false := by decide) (ha : anon y = false := by decide)
    (hw : (xs.all (HasW env) && decide xs.Nodup) = true := by kernel_rfl) (hn : noOwn xs (oset ω y (.list ds)) = true := by kernel_rfl) :
    wpAny (model c.prog c.w) A (exec (.Assign [.Tuple elts m tp] (.Call (.Attribute (.Name y p) "pop" apos) [] [] pos) epos) env) Q F0 s := by
  refine Assign_Tuple (sx_pop x hm hz (fun v s' x1 i => sx_bind (as_tuple' hN hl hw) hh x1 i (fun s' x' => h s' x') ?_) hy he hd ha) hsw hsw'
  rw [List.map_fst_zip (by omega)]; exact hn
/-- y.get(e1, e2) of an owned dict -/
theorem sxev_getOwn {y : Str} {p apos pos : Pos} {e1 e2 : Expr} {z : Str} {d : D} {a : Addr} {ds : List (Str × D)} (pl : Sem Bool) (Y : SxEv c env b k ρ ω e1 (.str z)) (Z : SxEv c env b k ρ ω e2 d) (hm : ω.lookup y = some (a, .dict ds))
    (hy : Has env y = true := by kernel_rfl) (he : MethForm (.Name y p) "get" apos pos [e1, e2] env pl := by rfl) (hs : starEach [e1, e2] env = (false, eval e1 env) :: starEach [e2] env := by rfl) (hs' : starEach [e2] env = (false, eval e2 env) :: starEach [] env := by rfl)
    (hd : (y == ("__debug__" : Str)) = false := by decide) (ha : anon y = false := by decide) :
    SxEv c env b k ρ ω (.Call (.Attribute (.Name y p) "get" apos) [e1, e2] [] pos) ((dget ds z).getD d) := fun A s Q R x h => by
  have hm' := lookup_mem hm
  obtain ⟨lv, F, B, W⟩ := id x.ex
  refine MethodCall_ (pl := pl) (load_name F hy ((W _ hm').1.resolve_left (by rw [ha]; nofun)) ?_ hd) he
  obtain ⟨h1, kvs, ep, ho, kv⟩ := (W _ hm').2
  refine dict_method ho PySem.F.slot_dict_get PySem.F.type_dict_get (callWith_method1 ?_ hs (by rw [hs']; rfl))
  rw [hs, hs']
  refine Calls.spliced_cons (Y A s _ R x fun v1 s₁ x₁ g₁ i₁ => Calls.spliced_cons (Z A s₁ _ R x₁ fun v2 s₂ x₂ g₂ i₂ => Calls.spliced_nil ?_))
  replace i₁ := i₁.grow g₂
  unfold Is at i₁
  obtain ⟨t, rfl⟩ := i₁
  obtain ⟨lv2, F2, B2, W2⟩ := id x₂.ex
  obtain ⟨q1, kvs2, ep2, ho2, kv2⟩ := (W2 _ hm').2
  refine call_meetsIn PySem.F.slot_dict_get ho2.dictOf.typeIs PySem.F.entry_dict_get (PySem.F.args_dict_get_3 _ _ _) (meets_dict_get_default (strKind c.prog c.w) a (isStr_key z t) (not_modules q1) v2) ⟨_, ho2.dictOf.mapOf, ?_⟩
  refine h _ _ (x₂.go (x₂.st.tok _) (Grow.refl _)) (g₁.trans g₂) ?_
  cases e : dget ds z with
  | none => rw [kv2.miss e]; exact i₂
  | some d' => obtain ⟨v', e', zz⟩ := kv2.find e; rw [e']; exact zz
theorem strs_any {O O' : Addr → Prop} {h h' : Heap} : ∀ {l : List Str} {vs : List Value}, IsAll c O h (strsD l) vs → IsAll c O' h' (strsD l) vs
  | [], vs, i => by unfold strsD at *; rw [List.map_nil] at *; unfold IsAll at *; exact i
  | x :: l, vs, i => by
    unfold strsD at *
    rw [List.map_cons] at *
    unfold IsAll at i
    obtain ⟨v, r, rfl, a, b⟩ := i
    refine .cons ?_ (strs_any (l := l) b)
    unfold Is at *; exact a
/-- y = e1 + e2, two lists of texts: the sum is the frame's own -/
theorem sx_ownAdd {y : Str} {p bpos pos : Pos} {e1 e2 : Expr} {l1 l2 : List Str} {Q : Flow → Shared → Prop} (X : EvO c b.X k env (lend ω ++ ρ) e1 (lst l1)) (Y : EvO c b.X k env (lend ω ++ ρ) e2 (lst l2)) (R : Room k A) (x : Sx c env b ρ ω s) (hz : l1.length + l2.length ≤ 1000)
    (h : ∀ s' a, Sx c env b ρ (oren (("1", a, .list (strsD (l1 ++ l2))) :: ω) "1" y) s' → Q .next s') (hρ : ρ.lookup y = none := by rfl)
    (hw : HasW env y = true := by kernel_rfl) (h1 : noOwn ["1"] ω = true := by kernel_rfl) (hn : noOwn [y, "1"] ω = true := by kernel_rfl) (ha : anon y = false := by decide) (hs : swapsWith (.BinOp e1 .Add e2 bpos) (some (.Name y p)) pos.line env = pure false := by rfl) :
    wpAny (model c.prog c.w) A (exec (.Assign [.Name y p] (.BinOp e1 .Add e2 bpos) pos) env) Q F0 s := by
  refine wpAny_Assign_Name (wpAny_BinOp (X.use R x.st x.lent fun v s₁ S₁ g₁ i => ?_)) hs
  have x₁ := x.go S₁ g₁
  refine Y.use R S₁ x₁.lent fun v' s₂ S₂ g₂ j => ?_
  have x₂ := x₁.go S₂ g₂
  replace i := i.grow g₂
  unfold lst at i j
  unfold Is at i j
  obtain ⟨a1, vs, n, rfl, na, ho, r⟩ := i
  obtain ⟨a2, ws, m, rfl, nb, hq, r'⟩ := j
  have e1 : vs.size = l1.length := by rw [← Array.length_toList, r.length]; simp [strsD]
  have e2 : ws.size = l2.length := by rw [← Array.length_toList, r'.length]; simp [strsD]
  refine P.add_list (show IsL _ _ _ _ from ho) (show IsL _ _ _ _ from hq) ?_ (by have := size_of hz; omega)
  have hall : ∀ O h, IsAll c O h (strsD (l1 ++ l2)) (vs ++ ws).toList := fun O h => by
    unfold strsD
    rw [List.map_append, Array.toList_append]
    exact IsAll.append (strs_any (l := l1) r) (strs_any (l := l2) r')
  have x3 : Sx c env b ρ (("1", s₂.heap.objs.size, .list (strsD (l1 ++ l2))) :: ω) { s₂ with heap := s₂.heap.push { cls := .type "list", data := .seq (vs ++ ws) } } :=
    x₂.alloc (s' := { s₂ with heap := s₂.heap.push { cls := .type "list", data := .seq (vs ++ ws) } }) "1" (od := .list (strsD (l1 ++ l2))) ⟨vs ++ ws, 0, Heap.get?_push_size _ rfl, hall _ _⟩ rfl rfl rfl rfl h1
  refine sx_storeOwn x3 (nm := "1") (y := y) rfl (fun s' x' => h s' _ x') hρ rfl hw ?_
  refine List.all_eq_true.mpr fun w hw' => ?_
  rcases List.mem_cons.mp hw' with rfl | hw'
  · have : ("1" : Str) ≠ y := fun e => by subst e; cases ha
    simpa using this
  · have := noOwn.get hn hw'
    simp at this ⊢; exact this.1
end
end Mine
end
section
open PySem PySem.W PyProof.Rows
set_option maxRecDepth 100000
set_option linter.unusedVariables false
namespace Mine
section
variable {c : Cx} {O : Addr → Prop} {k : Nat} {env : Env} {ρ : List (Str × D)} {A : Around} {s : Shared}
theorem lcb_pair {x y : Str} {p q r : Pos} {n : Nat} {elt : Expr} {ifs : List Expr} {scope : Scope} {items : List D} {cond : D → Bool} {F : D → D}
    (size : items.length ≤ sizeLine) (two : ∀ d ∈ items, ∃ a b, d = .tuple [a, b])
    (test : ∀ O' C a b, .tuple [a, b] ∈ items → IfO c O' k (compX scope env C) ((x, a) :: (y, b) :: ρ) ifs (cond (.tuple [a, b])))
    (val : ∀ O' C a b, .tuple [a, b] ∈ items → cond (.tuple [a, b]) = true → EvO c O' k (compX scope env C) ((x, a) :: (y, b) :: ρ) elt (F (.tuple [a, b])))
    (ok : compOk scope env = true := by kernel_rfl) (hxs : [x, y].all (fun x => scope.names.lookup x == some .local || scope.names.lookup x == some .cell) = true := by kernel_rfl)
    (rho : ρ.all (fun p => scope.names.lookup p.1 != some .local && scope.names.lookup p.1 != some .cell) = true := by kernel_rfl)
    (has : ∀ C, [x, y].all (fun x => Has (compX scope env C) x && decide ((compX scope env C).kindOf x ≠ some .free)) = true := by intro C; kernel_rfl) (nd : decide ([x, y].Nodup) = true := by kernel_rfl) :
    LcB c O k env ρ elt (.Tuple [.Name x p, .Name y q] n r) ifs scope [x, y] items cond F (pairSig x y) where
  ok := ok
  hxs := hxs
  rho := rho
  size := size
  bind := fun C d hd => by
    obtain ⟨a, b, rfl⟩ := two d hd
    exact as_tuple (ds := [a, b]) (.cons (.cons .nil)) rfl (fun z hz => by
      have := List.all_eq_true.mp (has C) z hz
      rw [Bool.and_eq_true] at this
      exact ⟨this.1, of_decide_eq_true this.2⟩) (of_decide_eq_true nd)
  test := fun O' C d hd => by
    obtain ⟨a, b, rfl⟩ := two d hd
    exact test O' C a b hd
  val := fun O' C d hd hc => by
    obtain ⟨a, b, rfl⟩ := two d hd
    exact val O' C a b hd hc
  keys := fun d hd z hz => by
    obtain ⟨a, b, rfl⟩ := two d hd
    exact zip_lookup_none (ds := [a, b]) hz
end
/-! the model of _law_end: a stack of frames, the top first -/
abbrev Fr := Str × Int × Int
abbrev Books := List (Str × Entry)
noncomputable def namesS (st : List Fr) : List Str := (st.map (·.1)).reverse
noncomputable def frameD (f : Fr) : D := .tuple [.int f.2.1, .int f.2.2]
noncomputable def framesD (st : List Fr) : List D := (st.map frameD).reverse
noncomputable def zeroE : Entry := ((0, 0, 0, 0), [])
noncomputable def b2i (b : Bool) : Int := if b then 1 else 0
noncomputable def callersS (f : Fr) : List Fr → List (Str × Q4)
  | [] => []
  | g :: r => [(g.1, (1, b2i (!(pairsOf (namesS (g :: r))).contains [g.1, f.1]), f.2.1, f.2.2 * b2i (!(pairsOf (namesS (g :: r))).contains [g.1, f.1])))]
noncomputable def bump (w : Int) : List Fr → List Fr
  | [] => []
  | g :: r => (g.1, g.2.1, g.2.2 + w) :: r
noncomputable def newE (f : Fr) (r : List Fr) : Entry := ((b2i (!(namesS r).contains f.1), 1, f.2.1, f.2.2 * b2i (!(namesS r).contains f.1)), callersS f r)
noncomputable def endTurn : List Fr × Books → List Fr × Books
  | ([], bk) => ([], bk)
  | (f :: r, bk) => (bump f.2.2 r, dput bk f.1 (stat ((dget bk f.1).getD zeroE) (newE f r)))
noncomputable def endN : Nat → List Fr × Books → List Fr × Books
  | 0, e => e
  | n + 1, e => endTurn (endN n e)
theorem bump_names (w : Int) (r : List Fr) : (bump w r).map (·.1) = r.map (·.1) := by cases r <;> rfl
theorem endTurn_names (e : List Fr × Books) : (endTurn e).1.map (·.1) = (e.1.map (·.1)).drop 1 := by
  obtain ⟨st, bk⟩ := e
  cases st with
  | nil => rfl
  | cons f r => simp only [endTurn, bump_names, List.map_cons, List.drop_succ_cons, List.drop_zero]
theorem endN_names (e : List Fr × Books) : ∀ n, (endN n e).1.map (·.1) = (e.1.map (·.1)).drop n
  | 0 => rfl
  | n + 1 => by rw [endN, endTurn_names, endN_names e n, List.drop_drop]
theorem endN_length (e : List Fr × Books) (n : Nat) : (endN n e).1.length = e.1.length - n := by
  have := congrArg List.length (endN_names e n)
  simpa using this
/-- the books' bounds -/
noncomputable def BkOk (m : Nat) (bk : Books) : Prop := bk.length ≤ m ∧ ∀ p ∈ bk, p.2.2.length ≤ m
theorem dget_memv {α : Type} : ∀ {l : List (Str × α)} {x : Str} {v : α}, dget l x = some v → (x, v) ∈ l
  | p :: l, x, v, h => by
    unfold dget at h
    rw [List.find?_cons] at h
    by_cases q : p.1 = x
    · simp [q] at h; subst h; subst q; exact List.mem_cons_self
    · simp [q] at h
      obtain ⟨a, h⟩ := h
      exact List.mem_cons_of_mem _ (dget_memv (by unfold dget; rw [h]; rfl))
theorem dput_mem {α : Type} {l : List (Str × α)} {x : Str} {v : α} {p : Str × α} (h : p ∈ dput l x v) : p ∈ l ∨ p.2 = v := by
  unfold dput at h
  split at h
  · obtain ⟨q, hq, e⟩ := List.mem_map.mp h
    split at e
    · subst e; exact .inr rfl
    · subst e; exact .inl hq
  · rcases List.mem_append.mp h with h | h
    · exact .inl h
    · rw [List.mem_singleton.mp h]; exact .inr rfl
theorem callersS_length (f : Fr) (r : List Fr) : (callersS f r).length ≤ 1 := by cases r <;> simp [callersS]
theorem old_length {m : Nat} {bk : Books} (h : BkOk m bk) (x : Str) : ((dget bk x).getD zeroE).2.length ≤ m := by
  cases e : dget bk x with
  | none => exact Nat.zero_le _
  | some v => exact h.2 _ (dget_memv e)
theorem endTurn_ok {m : Nat} {e : List Fr × Books} (h : BkOk m e.2) : BkOk (m + 1) (endTurn e).2 := by
  obtain ⟨st, bk⟩ := e
  cases st with
  | nil => exact ⟨Nat.le_succ_of_le h.1, fun p hp => Nat.le_succ_of_le (h.2 p hp)⟩
  | cons f r =>
    refine ⟨Nat.le_trans (dput_length _ _ _) (Nat.succ_le_succ h.1), fun p hp => ?_⟩
    rcases dput_mem hp with q | q
    · exact Nat.le_succ_of_le (h.2 p q)
    · rw [q]
      have h1 := addG_length qadd ((dget bk f.1).getD zeroE).2 (newE f r).2
      have h2 : ((dget bk f.1).getD zeroE).2.length ≤ m := old_length (bk := bk) h f.1
      have h3 := callersS_length f r
      show (addG qadd _ _).length ≤ _
      have h4 : (newE f r).2.length ≤ 1 := h3
      omega
theorem endN_ok {m : Nat} {e : List Fr × Books} (h : BkOk m e.2) : ∀ n, BkOk (m + n) (endN n e).2
  | 0 => h
  | n + 1 => endTurn_ok (endN_ok h n)
end Mine
end
section
open PySem PySem.W PyProof.Rows
set_option maxRecDepth 100000
set_option linter.unusedVariables false
namespace Mine
noncomputable def sndOf : D → D
  | .tuple [_, a] => a
  | _ => .none
theorem marks_words {l : List Mark} : ((marksD l).filter fun _ => true).map sndOf = strsD (l.map (·.2)) := by
  rw [filter_tt]; unfold marksD strsD; rw [List.map_map, List.map_map]; rfl
theorem marksD_two {l : List Mark} : ∀ d ∈ marksD l, ∃ a b, d = .tuple [a, b] := fun d hd => by
  obtain ⟨p, _, rfl⟩ := List.mem_map.mp hd; exact ⟨_, _, rfl⟩
theorem marksD_take (l : List Mark) (n : Nat) : (marksD l).take n = marksD (l.take n) := by unfold marksD; rw [List.map_take]
theorem marksD_drop (l : List Mark) (n : Nat) : (marksD l).drop n = marksD (l.drop n) := by unfold marksD; rw [List.map_drop]
theorem marksD_length (l : List Mark) : (marksD l).length = l.length := by unfold marksD; rw [List.length_map]
theorem namesS_cons (f : Fr) (r : List Fr) : namesS (f :: r) = namesS r ++ [f.1] := by unfold namesS; rw [List.map_cons, List.reverse_cons]
theorem framesD_cons (f : Fr) (r : List Fr) : framesD (f :: r) = framesD r ++ [frameD f] := by unfold framesD; rw [List.map_cons, List.reverse_cons]
theorem namesS_length (r : List Fr) : (namesS r).length = r.length := by unfold namesS; simp
theorem strsD_append (a b : List Str) : strsD (a ++ b) = strsD a ++ strsD b := by unfold strsD; rw [List.map_append]
theorem namesS_bump (w : Int) (r : List Fr) : namesS (bump w r) = namesS r := by unfold namesS; rw [bump_names]
theorem namesS_mem {f : Str} {r : List Fr} (h : f ∈ namesS r) : ∃ g ∈ r, g.1 = f := by
  unfold namesS at h; rw [List.mem_reverse] at h; exact List.mem_map.mp h |>.imp fun g h => h
theorem last_cons (g : Fr) (r : List Fr) : (strsD (namesS (g :: r)))[((-1 : Int) + ((strsD (namesS (g :: r))).length : Int)).toNat]? = some (.str g.1) := by
  have h : namesS (g :: r) ≠ [] := by rw [namesS_cons]; simp
  rw [getLast_idx h, namesS_cons]; simp
theorem lastF_cons (g : Fr) (r : List Fr) : (framesD (g :: r))[((-1 : Int) + ((framesD (g :: r)).length : Int)).toNat]? = some (frameD g) := by
  rw [framesD_cons]
  have : ((-1 : Int) + ((framesD r ++ [frameD g]).length : Int)).toNat = (framesD r).length := by simp; omega
  rw [this]; simp
theorem framesD_length (r : List Fr) : (framesD r).length = r.length := by unfold framesD; simp
theorem strsD_length (l : List Str) : (strsD l).length = l.length := by unfold strsD; simp
theorem entryN_old (e : Entry) : (entryN e).old = entryD e := by
  have h : D.oldKv (callersD e.2) = callersD e.2 := by
    rw [oldKv_map]; unfold callersD; rw [List.map_map]; exact List.map_congr_left fun p _ => rfl
  unfold entryN entryD
  simp only [D.old, D.olds, h]
theorem books_getD (B : Books) (x : Str) : (dget (booksD B) x).getD (.tuple [.int 0, .int 0, .int 0, .int 0, .dict []]) = entryD ((dget B x).getD zeroE) := by
  unfold booksD
  rw [dget_map]
  cases dget B x <;> rfl
theorem cm_neStrs {c : Cx} {O : Addr → Prop} {k : Nat} {l : List Str} (h : ∀ s ∈ l, TxtOk s) : CmO c O k .NotEq (lst l) (.list []) (!l.isEmpty) := by
  have := cm_ne (c := c) (O := O) (k := k) (a := lst l) (b := .list []) (ok_lst h) (by decide)
  unfold lst at this
  rw [eqv_nil] at this
  unfold strsD at this
  rw [List.isEmpty_map] at this
  exact this
theorem mulOk (a : Int) (b : Bool) : IntMulOk a (b2i b) := IntMulOk.of_right (by cases b <;> decide)
end Mine
end
section
open PySem PySem.W PyProof.Rows
set_option maxRecDepth 100000
set_option linter.unusedVariables false
set_option maxHeartbeats 4000000
namespace Mine
theorem pairsOf_mem {l : List Str} {x : List Str} {s : Str} (hx : x ∈ pairsOf l) (hs : s ∈ x) : s ∈ l := by
  obtain ⟨p, hp, rfl⟩ := List.mem_map.mp hx
  have h1 := (List.of_mem_zip hp).1
  have h2 := List.mem_of_mem_tail (List.of_mem_zip hp).2
  simp at hs
  rcases hs with rfl | rfl
  · exact h1
  · exact h2
noncomputable abbrev endOL (pa fa ba : Addr) (ms : List Mark) (e : List Fr × Books) : OL := [("pile", pa, .pile (marksD ms)), ("frames", fa, .list (framesD e.1)), ("books", ba, .dict (booksD e.2))]
theorem end_ok {c : Cx} (Fu : c.Full) {k : Nat} {A : Around} {s : Shared} {O : Addr → Prop} {pa fa ba : Addr} {ms : List Mark} {st : List Fr} {bk : Books} {keep m : Nat} {v1 : Value} (R : Room (k + 4) A) (S : St c s) (ow : Own O s.heap)
    (hω : ∀ w ∈ endOL pa fa ba ms (st, bk), O w.2.1 ∧ c.hB.objs.size ≤ w.2.1 ∧ OwnX c O s.heap w.2.1 w.2.2) (ne : pa ≠ fa ∧ pa ≠ ba ∧ fa ≠ ba)
    (i1 : Is c O s.heap (.int keep) v1) (hk : keep ≤ ms.length) (hm : ms.map (·.2) = namesS st) (hz : st.length ≤ 100) (hb : BkOk 200 bk) (ht : ∀ f ∈ st, TxtOk f.1) :
    wpAny (model c.prog c.w) A (call (.ref 143) [.ref pa, v1, .ref fa, .ref ba]) (fun v s' => v = .none ∧ St c s' ∧ Chg (fun z => (∃ w ∈ endOL pa fa ba ms (st, bk), w.2.1 = z) ∨ s.heap.objs.size ≤ z) s.heap s'.heap ∧
      ∀ w ∈ endOL pa fa ba (ms.take keep) (endN (st.length - keep) (st, bk)), OwnX c O s'.heap w.2.1 w.2.2) F0 s := by
  have G := Fu.G
  have hml : ms.length = st.length := by rw [← namesS_length st, ← hm, List.length_map]
  refine fn_enterX (ρ := [("keep", .int keep)]) (ω := endOL pa fa ba ms (st, bk)) ((def_end G).enters G.ok) R S ow rfl (fun x d e => ?_) (fun w hw => ?_) ?_ fun X s₁ hO R' x => ?_
  · rw [List.lookup_cons] at e
    cases q : x == ("keep" : Str) with
    | true => rw [q] at e; cases e; rw [beq_iff_eq.mp q]; exact ⟨v1, by simp, i1⟩
    | false => rw [q] at e; cases e
  · refine ⟨?_, hω w hw⟩
    rcases List.mem_cons.mp hw with rfl | hw
    · exact List.mem_cons_self
    rcases List.mem_cons.mp hw with rfl | hw
    · exact .tail _ (.tail _ List.mem_cons_self)
    rw [List.mem_singleton.mp hw]
    exact .tail _ (.tail _ (.tail _ List.mem_cons_self))
  · refine .cons (fun w hw => ?_) (.cons (fun w hw => ?_) (List.pairwise_singleton _ _))
    · rcases List.mem_cons.mp hw with rfl | hw
      · exact ⟨(by decide : ("pile" : Str) ≠ "frames"), ne.1⟩
      rw [List.mem_singleton.mp hw]
      exact ⟨(by decide : ("pile" : Str) ≠ "books"), ne.2.1⟩
    · rw [List.mem_singleton.mp hw]
      exact ⟨(by decide : ("frames" : Str) ≠ "books"), ne.2.2⟩
  · refine sx_seq (sx_compX (items := (marksD ms).drop keep) (cond := fun _ => true) (F := sndOf) (ω' := endOL pa fa ba (ms.take keep) (st, bk)) (fun Q h => sx_popFrom G (EvO.sx (ev_name (by kernel_rfl) rfl)) R' x rfl (by rw [marksD_length]; omega) fun v s' x' i => h v s' (by rw [marksD_take] at x'; exact x') (by rw [marksD_take] at i; exact i)) (lcb_pair ?_ ?_ (fun O' C a b hd => if_nil) (fun O' C a b hd _ => ev_name (by kernel_rfl) rfl)) R' fun s2 x2 => ?_)
    · refine size_of ?_
      rw [List.length_drop, marksD_length]; omega
    · rw [marksD_drop]; exact marksD_two
    rw [marksD_drop, marks_words] at x2
    refine sx_seq (sx_ownAdd (l1 := (ms.take keep).map (·.2)) (l2 := (ms.drop keep).map (·.2)) (EvO.as (ev_listcomp (lc_pair (cond := fun _ => true) (F := sndOf) (it_pile G (ev_name (by kernel_rfl) rfl)) ?_ marksD_two (fun O' C a b hd => if_nil) (fun O' C a b hd _ => ev_name (by kernel_rfl) rfl))) ?_) (ev_name (by kernel_rfl) rfl) R' x2 ?_ fun s3 na x3 => ?_)
    · refine size_of ?_
      rw [marksD_length, List.length_take]; omega
    · rw [marks_words]; rfl
    · rw [List.length_map, List.length_map, List.length_take, List.length_drop]; omega
    have e3 : (ms.take keep).map (·.2) ++ (ms.drop keep).map (·.2) = namesS st := by rw [← List.map_append, List.take_append_drop, hm]
    rw [e3] at x3
    have x3 := x3.keep (ρ' := [("keep", .int keep)]) ⟨rfl, trivial⟩
    refine sx_seq (sx_while (st.length - keep) (fun _ => [("keep", .int keep)]) (fun i => ("names", na, .list (strsD (namesS (endN i (st, bk)).1))) :: endOL pa fa ba (ms.take keep) (endN i (st, bk))) R' x3 (fun i hi => ?_) (fun i hi s4 x4 => ?_) fun s4 x4 => ?_)
    · refine TrO.sxl (TrO.as (tr_cmp (ev_len G.ok (ev_name (by kernel_rfl) rfl) (by rw [G.K]; kernel_rfl) (by kernel_rfl) ?_) (ev_name (by kernel_rfl) rfl) cm_gt) ?_)
      · have := endN_length (st, bk) i
        rw [strsD_length, namesS_length]; simp only at this; omega
      · have := endN_length (st, bk) i
        rw [strsD_length, namesS_length, this]
        simp only
        exact decide_eq_decide.mpr (Int.ofNat_lt.trans (Nat.lt_sub_iff_add_lt.trans Nat.lt_sub_iff_add_lt'.symm))
    · have hbn := endN_ok (e := (st, bk)) hb i
      have hln := endN_length (st, bk) i
      have hnm := endN_names (st, bk) i
      refine wpAny_mono (Q := fun (fl : Flow) s' => (fl = .next ∨ fl = .cont) ∧ Sx c (callEnvC (fdOf c.w.params 143) s.heap.objs.size 143) ⟨c.hB, X, fun z => ∃ w ∈ endOL pa fa ba ms (st, bk), w.2.1 = z, s.heap⟩ [("keep", .int keep)] (("names", na, OD.list (strsD (namesS (endTurn (endN i (st, bk))).1))) :: endOL pa fa ba (ms.take keep) (endTurn (endN i (st, bk)))) s') ?_ (fun _ _ h => h) fun _ _ h => h
      generalize endN i (st, bk) = E at *
      obtain ⟨L, B⟩ := E
      have htx : ∀ g ∈ L, TxtOk g.1 := fun g hg => by
        have : g.1 ∈ (st.map (·.1)).drop i := hnm ▸ List.mem_map.mpr ⟨g, hg, rfl⟩
        obtain ⟨g', hg', e⟩ := List.mem_map.mp (List.mem_of_mem_drop this)
        rw [← e]; exact ht g' hg'
      simp only at hbn hln
      cases L with
      | nil => simp at hln; omega
      | cons f r =>
        have hrl : r.length ≤ 100 := by rw [List.length_cons] at hln; omega
        have e4 : ((("names" : Str), na, OD.list (strsD (namesS (f :: r)))) :: endOL pa fa ba (ms.take keep) (f :: r, B)) = ([("names", na, .list (strsD (namesS r) ++ [.str f.1])), ("pile", pa, .pile (marksD (ms.take keep))), ("frames", fa, .list (framesD r ++ [frameD f])), ("books", ba, .dict (booksD B))] : OL) := by
          simp only [endOL, namesS_cons, strsD_append, framesD_cons]; rfl
        rw [e4] at x4
        have tf : TxtOk f.1 := htx f List.mem_cons_self
        have tr : ∀ x ∈ namesS r, TxtOk x := fun x hx => by
          obtain ⟨g, hg, rfl⟩ := namesS_mem hx
          exact htx g (List.mem_cons_of_mem _ hg)
        refine sx_seq (sx_assignPop x4 rfl (by rw [strsD_length, namesS_length]; omega) fun s5 x5 => ?_)
        refine sx_seq (sx_unpackPop (es := [.int f.2.1, .int f.2.2]) R'.1 x5 rfl (by rw [framesD_length]; omega) (.cons (.cons .nil)) rfl fun s6 x6 => ?_)
        refine sx_seq (sx_newDict x6 fun s7 ca x7 => ?_)
        refine sx_seq (wpAny_mono (Q := fun fl s' => fl = .next ∧ Sx c (callEnvC (fdOf c.w.params 143) s.heap.objs.size 143) ⟨c.hB, X, fun z => ∃ w ∈ endOL pa fa ba ms (st, bk), w.2.1 = z, s.heap⟩ [("own", .int f.2.1), ("whole", .int f.2.2), ("name", .str f.1), ("keep", .int keep)] [("callers", ca, .dict (callersD (callersS f r))), ("names", na, .list (strsD (namesS r))), ("pile", pa, .pile (marksD (ms.take keep))), ("frames", fa, .list (framesD (bump f.2.2 r))), ("books", ba, .dict (booksD B))] s') ?_ (fun fl s8 q => ?_) fun _ _ h => h)
        · cases r with
          | nil => 
            refine sx_if (TrO.sxl (tr_cmp (ev_name (by kernel_rfl) rfl) (ev_list evs_nil) (cm_neStrs tr))) R' x7 (fun hq s8 x8 => ?_) fun hq s8 x8 => ?_
            · cases hq
            · exact wpAny_execs_nil ⟨rfl, x8⟩
          | cons g r =>
            refine sx_if (TrO.sxl (tr_cmp (ev_name (by kernel_rfl) rfl) (ev_list evs_nil) (cm_neStrs tr))) R' x7 (fun hq s8 x8 => ?_) fun hq s8 x8 => ?_
            · have trg : ∀ s ∈ [g.1, f.1], TxtOk s := fun s hs => by
                simp at hs
                rcases hs with rfl | rfl
                · exact htx g (.tail _ List.mem_cons_self)
                · exact tf
              have hlen : ((strsD (namesS (g :: r))).length : Int) = r.length + 1 := by rw [strsD_length, namesS_length]; simp
              have hlenF : ((framesD (g :: r)).length : Int) = r.length + 1 := by rw [framesD_length]; simp
              refine sx_seq (sx_assign (d := .int (b2i (!(pairsOf (namesS (g :: r))).contains [g.1, f.1]))) (EvO.sxl (ev_intBool G (ev_cmp (ev_list (ds := [.str g.1, .str f.1]) (evs_cons (ev_item_list_neg (ds := strsD (namesS (g :: r))) (ev_name (by kernel_rfl) rfl) (ev_neg ev_int) (by decide) (by rw [hlen]; omega) (by decide) (last_cons g r)) (evs_cons (ev_name (by kernel_rfl) rfl) evs_nil)))
                (ev_callD G (def_pairs G) (evs_cons (ev_name (by kernel_rfl) rfl) evs_nil) (pairs_ok' G _ (by rw [namesS_length]; simp at hrl ⊢; omega)) (by rw [G.K]; kernel_rfl) (by kernel_rfl)) (cm_notInLst trg ?_)) (by kernel_rfl)) rfl) R' x8 fun s9 x9 => ?_)
              · exact fun x hx s hs => tr s (pairsOf_mem hx hs)
              refine sx_seq (sx_setDict (d := q4D (1, b2i (!(pairsOf (namesS (g :: r))).contains [g.1, f.1]), f.2.1, f.2.2 * b2i (!(pairsOf (namesS (g :: r))).contains [g.1, f.1])))
                (EvO.sxl (ev_tuple (evs_cons ev_int (evs_cons (ev_name (by kernel_rfl) rfl) (evs_cons (ev_name (by kernel_rfl) rfl) (evs_cons (ev_mul (ev_name (by kernel_rfl) rfl) (ev_name (by kernel_rfl) rfl) (mulOk _ _)) evs_nil))))) rfl)
                (EvO.sxl (ev_item_list_neg (ds := strsD (namesS (g :: r))) (ev_name (by kernel_rfl) rfl) (ev_neg ev_int) (by decide) (by rw [hlen]; omega) (by decide) (last_cons g r)) rfl) R' x9 rfl (by simp) fun s10 x10 => ?_)
              refine sx_seq (sx_setLast (ds := framesD r) (d := frameD g) (d' := frameD (g.1, g.2.1, g.2.2 + f.2.2)) (EvO.sxl (ev_tuple (evs_cons (ev_item_tuple (ds := [.int g.2.1, .int g.2.2]) (ev_item_list_neg (ds := framesD (g :: r)) (ev_name (by kernel_rfl) rfl) (ev_neg ev_int) (by decide) (by rw [hlenF]; omega) (by decide) (lastF_cons g r)) ev_int (by decide) (by decide) rfl rfl)
                (evs_cons (ev_add (ev_item_tuple (ds := [.int g.2.1, .int g.2.2]) (ev_item_list_neg (ds := framesD (g :: r)) (ev_name (by kernel_rfl) rfl) (ev_neg ev_int) (by decide) (by rw [hlenF]; omega) (by decide) (lastF_cons g r)) ev_int (by decide) (by decide) rfl rfl) (ev_name (by kernel_rfl) rfl)) evs_nil))) rfl) R' x10 (by rw [← framesD_cons g r]; rfl) fun s11 x11 => wpAny_execs_nil ⟨rfl, ?_⟩)
              have x12 := x11.keep (ρ' := [("own", .int f.2.1), ("whole", .int f.2.2), ("name", .str f.1), ("keep", .int keep)]) ⟨rfl, rfl, rfl, rfl, trivial⟩
              rw [← framesD_cons (g.1, g.2.1, g.2.2 + f.2.2) r] at x12
              exact x12
            · rw [namesS_cons] at hq; simp at hq
        · obtain ⟨rfl, x8⟩ := q
          dsimp only
          have x9 := x8
          refine sx_seq (sx_assign (d := .int (b2i (!(namesS r).contains f.1))) (EvO.sxl (ev_intBool G (ev_cmp (ev_name (by kernel_rfl) rfl) (ev_name (by kernel_rfl) rfl) (cm_notInStr tf tr)) (by kernel_rfl)) rfl) R' x8 fun s9 x9 => ?_)
          refine sx_seq (sx_assign (d := entryD ((dget B f.1).getD zeroE)) (SxEv.as (sxev_getOwn _ (EvO.sx (ev_name (by kernel_rfl) rfl)) (EvO.sx (ev_tuple (evs_cons ev_int (evs_cons ev_int (evs_cons ev_int (evs_cons ev_int (evs_cons ev_dict0 evs_nil))))))) rfl) (books_getD B f.1)) R' x9 fun s10 x10 => ?_)
          have x10' := x10.give "callers"
          refine sx_seq (sx_setDict (d := entryD (stat ((dget B f.1).getD zeroE) (newE f r))) (EvO.sx (EvO.old' (ev_callD G (def_add_func_stats G) (evs_cons (ev_name (by kernel_rfl) rfl) (evs_cons (ev_tuple (ds := entryDs (newE f r)) (evs_cons (ev_name (by kernel_rfl) rfl) (evs_cons ev_int (evs_cons (ev_name (by kernel_rfl) rfl) (evs_cons (ev_mul (ev_name (by kernel_rfl) rfl) (ev_name (by kernel_rfl) rfl) (mulOk _ _)) (evs_cons (ev_name (by kernel_rfl) rfl) evs_nil))))) (size_of (by simp [entryDs]))) evs_nil)) (stats_ok G Fu.SS ((dget B f.1).getD zeroE) (newE f r) ?_ ?_) (by rw [G.K]; kernel_rfl) (by kernel_rfl)) (entryN_old _)))
            (EvO.sx (ev_name (by kernel_rfl) rfl)) R' x10' rfl ?_ fun s11 x11 => sx_end x11 ⟨rfl, trivial⟩ ?_)
          · have := old_length hbn f.1
            have : st.length ≤ 100 := hz
            omega
          · exact Nat.le_trans (callersS_length f r) (by decide)
          · have := hbn.1
            have e : (booksD B).length = B.length := by unfold booksD; rw [List.length_map]
            rw [e]; omega
          · simp only [endTurn, namesS_bump, endOL]
            rw [← booksD_put]; rfl
    · have x5 := x4.drop "names"
      obtain ⟨lv, F, B, W⟩ := id x5.ex
      refine wpAny_execs_nil ⟨rfl, F.st, x5.chg, fun w hw => (W w hw).2.sub fun b q => OX.eq_of (ω := odel ((("names" : Str), na, OD.list (strsD (namesS (endN (st.length - keep) (st, bk)).1))) :: endOL pa fa ba (ms.take keep) (endN (st.length - keep) (st, bk))) "names") (ω' := endOL pa fa ba ms (st, bk)) rfl (hO b q)⟩
end Mine
end
section
open PySem PySem.W PyProof.Rows
set_option maxRecDepth 100000
set_option linter.unusedVariables false
namespace Mine
section
variable {c : Cx} {O : Addr → Prop} {k : Nat} {env : Env} {ρ : List (Str × D)} {A : Around} {s : Shared}
end
section
variable {c : Cx} {env : Env} {b : Blk} {k : Nat} {ρ : List (Str × D)} {ω : OL} {A : Around} {s s' : Shared}
/-- y.push(e1, e2) -/
theorem sx_push (G : c.Good) {y : Str} {p apos pos epos : Pos} {e1 e2 : Expr} {m w : Str} {a : Addr} {ds : List D} {pl : Sem Bool} {Q : Flow → Shared → Prop} (X : SxEv c env b (k + 1) ρ ω e1 (.str m)) (Y : SxEv c env b (k + 1) ρ ω e2 (.str w)) (R : Room (k + 1) A) (x : Sx c env b ρ ω s)
    (hm : ω.lookup y = some (a, .pile ds)) (hz : ds.length ≤ 1000) (h : ∀ s', Sx c env b ρ (oset ω y (.pile (ds ++ [.tuple [.str m, .str w]]))) s' → Q .next s')
    (hy : Has env y = true := by kernel_rfl) (he : MethForm (.Name y p) "push" apos pos [e1, e2] env pl := by rfl) (hs : starEach [e1, e2] env = (false, eval e1 env) :: starEach [e2] env := by rfl) (hs' : starEach [e2] env = (false, eval e2 env) :: starEach [] env := by rfl)
    (hi : interactive env = false := by kernel_rfl) (hw : swapsWith (.Call (.Attribute (.Name y p) "push" apos) [e1, e2] [] pos) none epos.line env = pure false := by rfl) (hd : (y == ("__debug__" : Str)) = false := by decide) (ha : anon y = false := by decide) :
    wpAny (model c.prog c.w) A (exec (.Expr (.Call (.Attribute (.Name y p) "push" apos) [e1, e2] [] pos) epos) env) Q F0 s := by
  have hm' := lookup_mem hm
  obtain ⟨lv, F, B, W⟩ := id x.ex
  refine wpAny_Expr (MethodCall_ (pl := pl) (load_name F hy ((W _ hm').1.resolve_left (by rw [ha]; nofun)) ?_ hd) he) hi hw
  obtain ⟨dd, o, vs, n, ho, ⟨h1, h2, h3⟩, r⟩ := (W _ hm').2
  refine pile_method (t := .type "function") (f := .ref 73) ⟨ho, h1, h3⟩ G F.st (by decide) (by rw [G.K]; kernel_rfl) (by rw [G.K]; kernel_rfl) (by decide) ?_
  rw [hs, hs']
  refine PySem.Calls.callWith_function (o := objOf c.w.params 73) (fd := fdOf c.w.params 73) (PySem.Calls.evalArgs_plain (Calls.spliced_cons (X A s _ R x fun v1 s₁ x₁ g₁ i₁ => Calls.spliced_cons (Y A s₁ _ R x₁ fun v2 s₂ x₂ g₂ i₂ => Calls.spliced_nil ⟨⟨inK_all G x₂.st _ _ (by rw [G.K]; kernel_rfl), by kernel_rfl⟩, ?_⟩))))
  obtain ⟨lv1, F1, B1, W1⟩ := id x₂.ex
  refine wpAny_mono (push_ok (O := OX b.X ω) G R F1.st F1.own (.inr ⟨_, hm', rfl⟩) (x₂.lowOf hm') (W1 _ hm').2 hz (i₁.grow g₂) i₂) (fun v2 s2 q => ?_) fun _ _ f => f
  obtain ⟨rfl, S2, ch, P2⟩ := q
  exact h s2 (x₂.set1 hm' S2 ch (od' := .pile _) P2)
end
end Mine
end
section
open PySem PySem.W PyProof.Rows
set_option maxRecDepth 100000
set_option linter.unusedVariables false
namespace Mine
section
variable {c : Cx} {env : Env} {b : Blk} {k : Nat} {ρ : List (Str × D)} {ω ω' : OL} {A : Around} {s s' : Shared}
/-- the owned things in another order -/
theorem Sx.perm (x : Sx c env b ρ ω s) (h : ω'.Perm ω) : Sx c env b ρ ω' s := by
  have e : OX b.X ω' = OX b.X ω := funext fun z => propext ⟨fun q => q.imp id fun ⟨w, hw, e⟩ => ⟨w, h.mem_iff.mp hw, e⟩, fun q => q.imp id fun ⟨w, hw, e⟩ => ⟨w, h.mem_iff.mpr hw, e⟩⟩
  obtain ⟨lv, F, B, W⟩ := x.ex
  refine ⟨⟨lv, by rw [e]; exact F, by rw [e]; exact B, fun w hw => by rw [e]; exact W w (h.mem_iff.mp hw)⟩, (h.pairwise_iff fun q => ⟨q.1.symm, q.2.symm⟩).mpr x.nd, fun w hw => x.mine w (h.mem_iff.mp hw), x.fr, x.chg⟩
/-- _law_end(pile, e, frames, books) -/
theorem sx_callEnd (Fu : c.Full) {p p0 p1 p2 pos epos : Pos} {e : Expr} {keep : Nat} {pa fa ba : Addr} {ms : List Mark} {st : List Fr} {bk : Books} {Q : Flow → Shared → Prop}
    (Y : SxEv c env b (k + 4) ρ (endOL pa fa ba ms (st, bk)) e (.int keep)) (R : Room (k + 4) A) (x : Sx c env b ρ (endOL pa fa ba ms (st, bk)) s)
    (hk : keep ≤ ms.length) (hm : ms.map (·.2) = namesS st) (hz : st.length ≤ 100) (hb : BkOk 200 bk) (ht : ∀ f ∈ st, TxtOk f.1)
    (h : ∀ s', Sx c env b ρ (endOL pa fa ba (ms.take keep) (endN (st.length - keep) (st, bk))) s' → Q .next s')
    (hx : env.kindOf "_law_end" = some .globalImplicit) (h1 : Has env "pile" = true := by kernel_rfl) (h2 : Has env "frames" = true := by kernel_rfl) (h3 : Has env "books" = true := by kernel_rfl)
    (hs : starEach [.Name "pile" p0, e, .Name "frames" p1, .Name "books" p2] env = [(false, eval (.Name "pile" p0) env), (false, eval e env), (false, eval (.Name "frames" p1) env), (false, eval (.Name "books" p2) env)] := by rfl)
    (he : eval (.Call (.Name "_law_end" p) [.Name "pile" p0, e, .Name "frames" p1, .Name "books" p2] [] pos) env = (do callWith pos (← eval (.Name "_law_end" p) env) [] (backTo pos (starEach [.Name "pile" p0, e, .Name "frames" p1, .Name "books" p2] env)) []) := by rfl)
    (hi : interactive env = false := by kernel_rfl) (hw : swapsWith (.Call (.Name "_law_end" p) [.Name "pile" p0, e, .Name "frames" p1, .Name "books" p2] [] pos) none epos.line env = pure false := by rfl) :
    wpAny (model c.prog c.w) A (exec (.Expr (.Call (.Name "_law_end" p) [.Name "pile" p0, e, .Name "frames" p1, .Name "books" p2] [] pos) epos) env) Q F0 s := by
  have G := Fu.G
  obtain ⟨lv, F, B, W⟩ := id x.ex
  refine wpAny_Expr ?_ hi hw
  rw [he]
  refine wpAny_bind (fnv_global G.ok F.es (v := .ref 143) (by rw [G.K]; kernel_rfl) hx (by decide) A s _ _ F.st ?_)
  rw [hs]
  have m1 : (("pile", pa, OD.pile (marksD ms)) : Str × Addr × OD) ∈ endOL pa fa ba ms (st, bk) := List.mem_cons_self
  have m2 : (("frames", fa, OD.list (framesD st)) : Str × Addr × OD) ∈ endOL pa fa ba ms (st, bk) := .tail _ List.mem_cons_self
  have m3 : (("books", ba, OD.dict (booksD bk)) : Str × Addr × OD) ∈ endOL pa fa ba ms (st, bk) := .tail _ (.tail _ List.mem_cons_self)
  refine PySem.Calls.callWith_function (o := objOf c.w.params 143) (fd := fdOf c.w.params 143) (PySem.Calls.evalArgs_plain (Calls.spliced_cons (load_name F h1 ((W _ m1).1.resolve_left (show ¬ anon ("pile" : Str) = true by decide)) (Calls.spliced_cons (Y A s _ R x fun v s₁ x₁ g₁ i => ?_)))))
  obtain ⟨lv1, F1, B1, W1⟩ := id x₁.ex
  refine Calls.spliced_cons (load_name F1 h2 ((W1 _ m2).1.resolve_left (show ¬ anon ("frames" : Str) = true by decide)) (Calls.spliced_cons (load_name F1 h3 ((W1 _ m3).1.resolve_left (show ¬ anon ("books" : Str) = true by decide)) (Calls.spliced_nil ⟨⟨inK_all G x₁.st _ _ (by rw [G.K]; kernel_rfl), by kernel_rfl⟩, ?_⟩))))
  have nd := x₁.nd
  simp only [List.pairwise_cons] at nd
  refine wpAny_mono (end_ok (m := 0) (O := OX b.X (endOL pa fa ba ms (st, bk))) Fu R F1.st F1.own (fun w hw => ⟨.inr ⟨w, hw, rfl⟩, x₁.lowOf hw, (W1 w hw).2⟩) ⟨(nd.1 _ List.mem_cons_self).2, (nd.1 _ (.tail _ List.mem_cons_self)).2, (nd.2.1 _ List.mem_cons_self).2⟩ i hk hm hz hb ht) (fun v2 s2 q => ?_) fun _ _ f => f
  obtain ⟨rfl, S2, ch, ow⟩ := q
  exact h s2 (x₁.put rfl S2 ch ow)
/-- pile, frames, books, comings, works = _Accumulator(), [(0, 0)], {}, {}, {} -/
theorem sx_five (Fu : c.Full) {p1 p2 p3 p4 p5 tp pos tpos q1 q2 q3 q4 q5 r1 r2 r3 r4 : Pos} {m m' m1 m2 m3 : Nat} {Q : Flow → Shared → Prop} (R : Room (k + 2) A) (x : Sx c env b ρ [] s)
    (hx : env.kindOf "_Accumulator" = some .globalImplicit)
    (h : ∀ s' pa fa ba ca wa, Sx c env b ρ [("works", wa, .dict []), ("comings", ca, .dict []), ("books", ba, .dict []), ("frames", fa, .list [.tuple [.int 0, .int 0]]), ("pile", pa, .pile [])] s' → Q .next s')
    (hρ : (ρ.lookup ("pile" : Str)).isNone = true ∧ (ρ.lookup ("frames" : Str)).isNone = true ∧ (ρ.lookup ("books" : Str)).isNone = true ∧ (ρ.lookup ("comings" : Str)).isNone = true ∧ (ρ.lookup ("works" : Str)).isNone = true)
    (hw : ([("pile" : Str), "frames", "books", "comings", "works"].all (HasW env)) = true)
    (hs : swapsWithSole [.Tuple [.Name "pile" p1, .Name "frames" p2, .Name "books" p3, .Name "comings" p4, .Name "works" p5] m tp] (.Tuple [.Call (.Name "_Accumulator" q1) [] [] r1, .List [.Tuple [.Constant (.int 0) m1 r2, .Constant (.int 0) m2 r3] m3 r4] q2, .Dict [] [] q3, .Dict [] [] q4, .Dict [] [] q5] m' tpos) pos.line env = pure false := by rfl)
    (hs' : swappedStores [.Tuple [.Name "pile" p1, .Name "frames" p2, .Name "books" p3, .Name "comings" p4, .Name "works" p5] m tp] (.Tuple [.Call (.Name "_Accumulator" q1) [] [] r1, .List [.Tuple [.Constant (.int 0) m1 r2, .Constant (.int 0) m2 r3] m3 r4] q2, .Dict [] [] q3, .Dict [] [] q4, .Dict [] [] q5] m' tpos) env = pure none := by rfl) :
    wpAny (model c.prog c.w) A (exec (.Assign [.Tuple [.Name "pile" p1, .Name "frames" p2, .Name "books" p3, .Name "comings" p4, .Name "works" p5] m tp] (.Tuple [.Call (.Name "_Accumulator" q1) [] [] r1, .List [.Tuple [.Constant (.int 0) m1 r2, .Constant (.int 0) m2 r3] m3 r4] q2, .Dict [] [] q3, .Dict [] [] q4, .Dict [] [] q5] m' tpos) pos) env) Q F0 s := by
  simp only [Option.isNone_iff_eq_none] at hρ
  simp only [List.all_cons, List.all_nil, Bool.and_true, Bool.and_eq_true] at hw
  refine Assign_Tuple (Tuple_ ?_) hs hs'
  show wpAny _ A (spliced ((false, eval (.Call (.Name "_Accumulator" q1) [] [] r1) env) :: (false, eval (.List [.Tuple [.Constant (.int 0) m1 r2, .Constant (.int 0) m2 r3] m3 r4] q2) env) :: (false, eval (.Dict [] [] q3) env) :: (false, eval (.Dict [] [] q4) env) :: (false, eval (.Dict [] [] q5) env) :: [])) _ _ s
  refine Calls.spliced_cons (sx_evNewPile Fu "1" R x hx fun s1 a1 x1 => Calls.spliced_cons (sx_evNewList "2" (evs_cons (ev_tuple (ds := [.int 0, .int 0]) (evs_cons ev_int (evs_cons ev_int evs_nil))) evs_nil) R x1 (by decide) (fun s2 a2 x2 => Calls.spliced_cons (sx_evNewDict "3" x2 (fun s3 a3 x3 => Calls.spliced_cons (sx_evNewDict "4" x3 (fun s4 a4 x4 => Calls.spliced_cons (sx_evNewDict "5" x4 (fun s5 a5 x5 => Calls.spliced_nil (wpAny_newTuple ?_)) (by decide) (by kernel_rfl))) (by decide) (by kernel_rfl))) (by decide) (by kernel_rfl))) (by decide) (by kernel_rfl)))
  have x6 := x5.go (s' := { s5 with heap := s5.heap.push { cls := .type "tuple", data := .seq #[.ref a1, .ref a2, .ref a3, .ref a4, .ref a5] } }) (x5.st.push _ rfl rfl) (Grow.push _ _)
  have ho : (s5.heap.push { cls := .type "tuple", data := .seq #[.ref a1, .ref a2, .ref a3, .ref a4, .ref a5] }).get? s5.heap.objs.size = some { cls := .type "tuple", data := .seq #[.ref a1, .ref a2, .ref a3, .ref a4, .ref a5] } := Heap.get?_push_size _ rfl
  generalize hs6 : ({ s5 with heap := s5.heap.push { cls := .type "tuple", data := .seq #[.ref a1, .ref a2, .ref a3, .ref a4, .ref a5] } } : Shared) = s6 at *
  have ho6 : s6.heap.get? s5.heap.objs.size = some { cls := .type "tuple", data := .seq #[.ref a1, .ref a2, .ref a3, .ref a4, .ref a5] } := by rw [← hs6]; exact ho
  have key : ∀ E, wpAny (model c.prog c.w) A (unpackItems (.ref s5.heap.objs.size) 5 none) (fun its s' => its = [.ref a1, .ref a2, .ref a3, .ref a4, .ref a5] ∧ ∃ h', s' = { s6 with heap := h' } ∧ Heap.ExtBut s6.heap.objs.size s6.heap h') E s6 := fun E =>
    wpAny_unpackItems_tuple (items := #[.ref a1, .ref a2, .ref a3, .ref a4, .ref a5]) R.1 ⟨_, ho6, rfl, 0, rfl⟩ fun h' hx => ⟨rfl, h', rfl, hx⟩
  rw [arm_assign_Tuple]
  refine wpAny_bind (wpAny_standAt ?_)
  unfold unpack
  refine wpAny_bind (wpAny_holding (wpAny_mono (wpAny_size (key F0)) (fun its s' q => ?_) fun _ _ f => f.1))
  obtain ⟨⟨e9, h', e8, hx'⟩, hsz⟩ := q
  subst e9 e8
  have g : Grow s6.heap h' := ⟨hsz, fun b o f e => hx' b o (Nat.ne_of_lt (Heap.lt_size e)) e⟩
  have x7 := x6.go (s' := { s6 with heap := h' }) (x6.st.keeps (fun b o e => hx' b o (Nat.ne_of_lt (Heap.lt_size e)) e) hsz rfl rfl) g
  show wpAny _ A (holding [.ref a2, .ref a3, .ref a4, .ref a5] (assign (.Name "pile" p1) env (.ref a1)) >>= fun _ => (holding [.ref a3, .ref a4, .ref a5] (assign (.Name "frames" p2) env (.ref a2)) >>= fun _ => (holding [.ref a4, .ref a5] (assign (.Name "books" p3) env (.ref a3)) >>= fun _ => (holding [.ref a5] (assign (.Name "comings" p4) env (.ref a4)) >>= fun _ => (holding [] (assign (.Name "works" p5) env (.ref a5)) >>= fun _ => pure ()))))) _ _ _
  refine wpAny_bind (wpAny_holding (wpAny_assign_Name (sx_storeOwn x7 (nm := "1") rfl (fun s8 x8 => ?_) hρ.1 (by decide) hw.1 rfl)))
  refine wpAny_bind (wpAny_holding (wpAny_assign_Name (sx_storeOwn x8 (nm := "2") rfl (fun s9 x9 => ?_) hρ.2.1 (by decide) hw.2.1 rfl)))
  refine wpAny_bind (wpAny_holding (wpAny_assign_Name (sx_storeOwn x9 (nm := "3") rfl (fun s10 x10 => ?_) hρ.2.2.1 (by decide) hw.2.2.1 rfl)))
  refine wpAny_bind (wpAny_holding (wpAny_assign_Name (sx_storeOwn x10 (nm := "4") rfl (fun s11 x11 => ?_) hρ.2.2.2.1 (by decide) hw.2.2.2.1 rfl)))
  refine wpAny_bind (wpAny_holding (wpAny_assign_Name (sx_storeOwn x11 (nm := "5") rfl (fun s12 x12 => ?_) hρ.2.2.2.2 (by decide) hw.2.2.2.2 rfl)))
  exact wpAny_pure (h _ _ _ _ _ _ x12)
end
end Mine
end
section
open PySem PySem.W PyProof.Rows
set_option maxRecDepth 100000
set_option linter.unusedVariables false
namespace Mine
structure RSt where
  marks : List Mark
  st : List Fr
  bk : Books
  come : Tab
  work : Tab
noncomputable def addTop (n : Int) : List Fr → List Fr
  | [] => []
  | f :: r => (f.1, f.2.1 + n, f.2.2 + n) :: r
/-- the frames that must end ahead of number n -/
noncomputable def endedR (R : RSt) (n : Int) : List Fr × Books := endN (R.st.length - keepOf R.marks.length n) (addTop n R.st, R.bk)
noncomputable def stepR (words : List Str) (R : RSt) (n : Int) : RSt :=
  if pickOf n < 4 then
    ⟨R.marks.take (keepOf R.marks.length n) ++ [((";" : Str), words.getD (pickOf n) "")], (words.getD (pickOf n) "", 0, 0) :: (endedR R n).1, (endedR R n).2,
      addG iadd R.come [(pileText (R.marks.take (keepOf R.marks.length n) ++ [((";" : Str), words.getD (pickOf n) "")]), 1)], addG iadd R.work [(pileText R.marks, n)]⟩
  else ⟨R.marks.take (keepOf R.marks.length n), (endedR R n).1, (endedR R n).2, R.come, addG iadd R.work [(pileText R.marks, n)]⟩
noncomputable def initR (words : List Str) : RSt := ⟨[("", words.getD 0 "")], [(words.getD 0 "", 0, 0)], [], addG iadd [] [(pileText [("", words.getD 0 "")], 1)], []⟩
noncomputable def loopR (words : List Str) (ns : List Int) : RSt := ns.foldl (stepR words) (initR words)
noncomputable def runB (words : List Str) (ns : List Int) : Books := (endN (loopR words ns).st.length ((loopR words ns).st, (loopR words ns).bk)).2
noncomputable def runC (words : List Str) (ns : List Int) : Tab := (loopR words ns).come
noncomputable def runW (words : List Str) (ns : List Int) : Tab := (loopR words ns).work
theorem addTop_names (n : Int) (r : List Fr) : (addTop n r).map (·.1) = r.map (·.1) := by cases r <;> rfl
theorem addTop_length (n : Int) (r : List Fr) : (addTop n r).length = r.length := by cases r <;> rfl
theorem BkOk.le {m m' : Nat} {bk : Books} (h : BkOk m bk) (hm : m ≤ m') : BkOk m' bk := ⟨Nat.le_trans h.1 hm, fun p hp => Nat.le_trans (h.2 p hp) hm⟩
structure RInv (words : List Str) (i : Nat) (R : RSt) : Prop where
  len : R.st.length ≤ i + 1
  pos : 0 < R.st.length
  names : R.marks.map (·.2) = namesS R.st
  sub : ∀ p ∈ R.marks, (p.1 = "" ∨ p.1 = ";") ∧ p.2 ∈ words
  bk : BkOk (11 * i) R.bk
  come : R.come.length ≤ i + 1
  work : R.work.length ≤ i
theorem RInv.mlen {words : List Str} {i : Nat} {R : RSt} (h : RInv words i R) : R.marks.length = R.st.length := by
  rw [← namesS_length R.st, ← h.names, List.length_map]
theorem keepOf_pos (len : Nat) (n : Int) : 1 ≤ keepOf len n := by
  have := keepOf_eq len n; omega
theorem keepOf_le {len : Nat} {n : Int} (h : 0 < len) : keepOf len n ≤ len := by
  have h1 := keepOf_eq len n
  have h2 : 0 ≤ n.fmod 3 := Int.fmod_nonneg_of_pos n (by decide)
  omega
theorem ended_names {R : RSt} {words : List Str} {i : Nat} {n : Int} (h : RInv words i R) : (R.marks.take (keepOf R.marks.length n)).map (·.2) = namesS (endedR R n).1 := by
  unfold endedR namesS
  rw [endN_names, addTop_names, List.map_take, h.names]
  unfold namesS
  rw [List.take_reverse, List.length_map]
theorem ended_length {R : RSt} {words : List Str} {i : Nat} {n : Int} (h : RInv words i R) : (endedR R n).1.length = keepOf R.marks.length n := by
  unfold endedR
  rw [endN_length]
  simp only [addTop_length]
  have h1 := keepOf_le (n := n) (h.mlen.symm ▸ h.pos : 0 < R.marks.length)
  rw [← h.mlen]; exact Nat.sub_sub_self h1
theorem initR_inv {words : List Str} (hw : 4 ≤ words.length) : RInv words 0 (initR words) where
  len := Nat.le_refl _
  pos := Nat.one_pos
  names := rfl
  sub := fun p hp => by
    rw [List.mem_singleton.mp hp]
    exact ⟨.inl rfl, getD_mem (by omega)⟩
  bk := ⟨Nat.zero_le _, fun p hp => by cases hp⟩
  come := Nat.le_refl _
  work := Nat.le_refl _
theorem stepR_inv {words : List Str} {i : Nat} {R : RSt} {n : Int} (hw : 4 ≤ words.length) (hi : i ≤ 10) (h : RInv words i R) : RInv words (i + 1) (stepR words R n) := by
  have h1 := ended_names (n := n) h
  have h2 := ended_length (n := n) h
  have hk := keepOf_le (n := n) (h.mlen.symm ▸ h.pos : 0 < R.marks.length)
  have hp := keepOf_pos R.marks.length n
  have hl := h.len
  have hm := h.mlen
  have h3 : BkOk (11 * (i + 1)) (endedR R n).2 := (endN_ok (e := (addTop n R.st, R.bk)) h.bk (R.st.length - keepOf R.marks.length n)).le (by omega)
  have hc := h.come
  have hwk := h.work
  have a1 := addG_length iadd R.work [(pileText R.marks, n)]
  have sub' : ∀ p ∈ R.marks.take (keepOf R.marks.length n), (p.1 = "" ∨ p.1 = ";") ∧ p.2 ∈ words := fun p hp => h.sub p (List.mem_of_mem_take hp)
  unfold stepR
  split
  · refine ⟨?_, Nat.succ_pos _, ?_, fun p hp => ?_, h3, ?_, ?_⟩
    · show (_ :: (endedR R n).1).length ≤ _
      rw [List.length_cons, h2]; omega
    · rw [List.map_append, h1, namesS_cons]; rfl
    · rcases List.mem_append.mp hp with hp | hp
      · exact sub' p hp
      · rw [List.mem_singleton.mp hp]
        exact ⟨.inr rfl, getD_mem (by omega)⟩
    · have := addG_length iadd R.come [(pileText (R.marks.take (keepOf R.marks.length n) ++ [((";" : Str), words.getD (pickOf n) "")]), 1)]
      simp only [List.length_cons, List.length_nil] at this ⊢
      omega
    · simp only [List.length_cons, List.length_nil] at a1 ⊢; omega
  · refine ⟨?_, ?_, h1, sub', h3, ?_, ?_⟩
    · show (endedR R n).1.length ≤ _
      rw [h2]; omega
    · show 0 < (endedR R n).1.length
      rw [h2]; omega
    · simp only; omega
    · simp only [List.length_cons, List.length_nil] at a1 ⊢; omega
theorem loopR_inv {words : List Str} (hw : 4 ≤ words.length) : ∀ (ns : List Int), ns.length ≤ 10 → RInv words ns.length (loopR words ns) := fun ns hz => by
  have := foldl_inv (f := stepR words) (P := fun i R => i ≤ 10 → RInv words i R) (fun i R n h hi => stepR_inv hw (by omega) (h (by omega))) ns 0 (initR words) (fun _ => initR_inv hw)
  rw [Nat.zero_add] at this
  exact this hz
end Mine
end
section
open PySem PySem.W PyProof.Rows
set_option maxRecDepth 100000
set_option linter.unusedVariables false
namespace Mine
section
variable {c : Cx} {env : Env} {b : Blk} {k : Nat} {ρ : List (Str × D)} {ω ω' : OL} {A : Around} {s s' : Shared}
noncomputable def SxAll (c : Cx) (env : Env) (b : Blk) (k : Nat) (ρ : List (Str × D)) (ω : OL) (pos : Pos) (es : List Expr) (ds : List D) : Prop :=
  ∀ (A : Around) (s : Shared) (Q : List Value → Shared → Prop), Room k A → Sx c env b ρ ω s → (∀ vs s', Sx c env b ρ ω s' → Grow s.heap s'.heap → IsAll c (OX b.X ω) s'.heap ds vs → Q vs s') → wpAny (model c.prog c.w) A (spliced (backTo pos (starEach es env))) Q F0 s
theorem sxall_nil {pos : Pos} : SxAll c env b k ρ ω pos [] [] := fun A s Q R x h => Calls.spliced_nil (h [] s x (Grow.refl _) .nil)
theorem sxall_cons {pos : Pos} {e : Expr} {es : List Expr} {d : D} {ds : List D} (X : SxEv c env b k ρ ω e d) (Y : SxAll c env b k ρ ω pos es ds) (hs : starEach (e :: es) env = (false, eval e env) :: starEach es env := by rfl) : SxAll c env b k ρ ω pos (e :: es) (d :: ds) := fun A s Q R x h => by
  rw [hs]
  show wpAny _ A (spliced ((false, eval e env) :: backTo pos (starEach es env))) Q F0 s
  exact Calls.spliced_cons (X A s _ R x fun v s₁ x₁ g₁ i => Y A s₁ _ R x₁ fun vs s₂ x₂ g₂ j => h _ s₂ x₂ (g₁.trans g₂) (.cons (i.grow g₂) j))
theorem sxev_callD (G : c.Good) {x : Str} {p pos : Pos} {f : Addr} {fd : FuncData} {body : List Stmt} {xs : List Str} {e : Expr} {es : List Expr} {ds : List D} {r : D} (Df : DefAt c f fd body xs) (X : SxAll c env b k ρ ω pos (e :: es) ds) (h : FnO c k f ds r)
    (hg : nsIn c.K mainGlobals x = some (some (.ref f))) (hx : env.kindOf x = some .globalImplicit) (hd : (x == ("__debug__" : Str)) = false := by decide)
    (hs : starEach (e :: es) env = (false, eval e env) :: starEach es env := by rfl)
    (he : eval (.Call (.Name x p) (e :: es) [] pos) env = (do callWith pos (← eval (.Name x p) env) [] (backTo pos (starEach (e :: es) env)) []) := by rfl) : SxEv c env b k ρ ω (.Call (.Name x p) (e :: es) [] pos) r := fun A s Q R sx q => by
  obtain ⟨o, h1, h2⟩ := Df.at_
  rw [he]
  obtain ⟨lv, F, B, W⟩ := id sx.ex
  refine wpAny_bind (fnv_global G.ok F.es hg hx hd A s _ _ F.st ?_)
  rw [hs]
  refine Calls.callWith_function (o := o) (fd := fd) (Calls.evalArgs_plain ?_)
  have := X A s (fun vs s' => (s'.heap.get? f = some o ∧ o.data = .func fd) ∧ wpAny (model c.prog c.w) A (call (.ref f) vs) Q F0 s') R sx fun vs s' x' g i => by
    obtain ⟨lv1, F1, B1, W1⟩ := id x'.ex
    refine ⟨⟨F1.st.inK G.ok h1 (fun q => by obtain ⟨_, vs, e⟩ := q; rw [h2] at e; cases e), h2⟩, ?_⟩
    exact wpAny_mono (h _ A s' vs R F1.st F1.own i) (fun v s'' z => q v s'' (x'.go z.1 z.2.1) (g.trans z.2.1) z.2.2) fun _ _ f => f
  rw [hs] at this
  exact this
theorem SxEv.old' {e : Expr} {d d' : D} (X : SxEv c env b k ρ ω e d) (h : d.old = d') : SxEv c env b k ρ ω e d' := fun A s Q R x q => X A s Q R x fun v s' x' g i => q v s' x' g (h ▸ Is.old _ _ i)
/-- {e: v}, the value an int -/
theorem sxev_dict1 {e v : Expr} {pos : Pos} {z : Str} {n : Int} (X : SxEv c env b k ρ ω e (.str z)) (Y : SxEv c env b k ρ ω v (.int n))
    (hshape : (evalEachOpt [some e] env).zip ((evalEach [v] env).map fun v => do let x ← v; standAt pos; pure x) = [(eval e env, do let x ← eval v env; standAt pos; pure x)].map fun p => (some p.1, p.2) := by rfl) :
    SxEv c env b k ρ ω (.Dict [some e] [v] pos) (.dict [(z, .int n)]) := fun A s Q R x q => by
  refine wpAny_Dict_pairs (knd := strKind c.prog c.w) hshape (by simp) (by simp) ?_
  have g₀ : Grow s.heap (s.heap.push { cls := .type "dict", data := .dict #[] }) := Grow.push _ _
  have x₀ : Sx c env b ρ ω { s with heap := s.heap.push { cls := .type "dict", data := .dict #[] } } := x.go (x.st.push _ rfl rfl) g₀
  obtain ⟨lv, F, B, W⟩ := id x.ex
  have ow := F.own
  have hd0 := OwnD.new x.st ow
  refine evalPairs_cons (X A _ _ R x₀ fun kv s₁ x₁ g₁ i => wpAny_bind (Y A _ _ R x₁ fun vv s₂ x₂ g₂ j => wpAny_bind (wpAny_standAt (wpAny_pure (evalPairs_nil ?_)))))
  unfold Is at i j
  obtain ⟨t, rfl⟩ := i
  obtain ⟨u, rfl⟩ := j
  obtain ⟨h1, kvs, ep, ho, kv⟩ := (hd0.grow g₁).grow g₂
  have e0 : kvs = [] := by unfold IsKv at kv; exact kv
  subst e0
  refine ⟨[(z, .int n u)], ⟨isStr_key z t, rfl, trivial⟩, ho.dictOf, fun h' hd hs => ?_⟩
  obtain ⟨ep', hd'⟩ := hd.dictAt
  have g : Grow s.heap h' := by
    have g3 := (g₀.trans g₁).trans g₂
    refine ⟨Nat.le_trans g3.1 (Nat.le_of_eq hs.1.symm), fun b o f e => (hs.2 b (Nat.ne_of_lt (Heap.lt_size e))).trans (g3.2 b o f e)⟩
  have S' := (x₂.st.same x.st.grow.1 (s' := { s₂ with heap := h' }) hs rfl rfl).tok (s₂.toks + 1)
  refine q _ _ (x.go S' g) g ?_
  unfold Is
  refine ⟨_, _, ep', rfl, ⟨h1, ow.new (Nat.le_refl _)⟩, hd', IsKv.cons (by unfold Is; exact ⟨u, rfl⟩) .nil⟩
end
end Mine
end
section
open PySem PySem.W PyProof.Rows
set_option maxRecDepth 100000
set_option linter.unusedVariables false
set_option maxHeartbeats 4000000
namespace Mine
noncomputable def Piles (words : List Str) (m : Nat) : Prop := ∀ l : List Mark, l.length ≤ m → (∀ p ∈ l, (p.1 = "" ∨ p.1 = ";") ∧ p.2 ∈ words) → JoinOk "" (l.map markText) = true ∧ ∀ p ∈ l, JoinOk "" [p.1, p.2] = true
theorem tabN_old (t : Tab) : (D.ndict (tabD t)).old = .dict (tabD t) := by
  have h : D.oldKv (tabD t) = tabD t := by rw [oldKv_map]; unfold tabD; rw [List.map_map]; exact List.map_congr_left fun p _ => rfl
  simp only [D.old, h]
theorem framesD_addTop (n : Int) (f : Fr) (r : List Fr) : framesD (addTop n (f :: r)) = framesD r ++ [.tuple [.int (f.2.1 + n), .int (f.2.2 + n)]] := by
  unfold addTop; rw [framesD_cons]; rfl
theorem run_ok {c : Cx} (Fu : c.Full) {k : Nat} (ns : List Int) (words : List Str) (hw : 4 ≤ words.length) (hw' : words.length ≤ 900) (hz : ns.length ≤ 10) (ht : ∀ w ∈ words, TxtOk w) (hp : Piles words 11) :
    FnO c (k + 5) 150 [.list (intsD ns), lst words] (.tuple [.dict (booksD (runB words ns)), .dict (tabD (runC words ns)), .dict (tabD (runW words ns))]) := by
  have G := Fu.G
  have SS := Fu.SS
  refine fn_sx G.ok (def_run G) rfl fun X A st h₀ R x => ?_
  refine sx_seq (sx_five Fu R x (by kernel_rfl) (fun s1 pa fa ba ca wa x1 => ?_) ⟨rfl, rfl, rfl, rfl, rfl⟩ (by kernel_rfl))
  have x2 := ((x1.give "comings").give "works").perm (ω' := [("pile", pa, .pile []), ("frames", fa, .list [.tuple [.int 0, .int 0]]), ("books", ba, .dict [])]) (List.reverse_perm ([("books", ba, .dict []), ("frames", fa, .list [.tuple [.int 0, .int 0]]), ("pile", pa, .pile [])] : OL))
  refine sx_seq (sx_push (m := "") (w := words.getD 0 "") G (EvO.sx ev_str) (EvO.sx (ev_item_list (ev_name (by kernel_rfl) rfl) ev_int (by decide) (by decide) (d := .str (words.getD 0 "")) (str_at (by omega)))) R x2 rfl (by simp) fun s3 x3 => ?_)
  have p0 := hp [("", words.getD 0 "")] (by simp) (fun p hp => by rw [List.mem_singleton.mp hp]; exact ⟨.inl rfl, getD_mem (by omega)⟩)
  refine sx_seq (sx_assign (d := .dict (tabD (initR words).come)) (SxEv.old' (sxev_callD G (def_add_callers G) (sxall_cons (EvO.sx (ev_name (by kernel_rfl) rfl)) (sxall_cons (sxev_dict1 (EvO.sxl (ev_strPile G SS (l := [("", words.getD 0 "")]) (ev_name (by kernel_rfl) rfl) (by simp) p0.1 p0.2 (by kernel_rfl)) rfl) (EvO.sx ev_int)) sxall_nil)) (addT_ok G [] [(pileText [("", words.getD 0 "")], 1)] (by simp) (by simp)) (by rw [G.K]; kernel_rfl) (by kernel_rfl)) (tabN_old _)) R x3 fun s4 x4 => ?_)
  refine sx_seq (sx_forName (fun i => [("works", .dict (tabD (loopR words (ns.take i)).work)), ("comings", .dict (tabD (loopR words (ns.take i)).come)), ("numbers", .list (intsD ns)), ("words", lst words)])
    (fun i => endOL pa fa ba (loopR words (ns.take i)).marks ((loopR words (ns.take i)).st, (loopR words (ns.take i)).bk)) (it_list (ev_name (by kernel_rfl) rfl)) R x4 ⟨rfl, rfl, rfl, rfl, trivial⟩ rfl (fun i => rfl) (fun i d hd X Y hb s5 x5 => ?_) fun s5 x5 => ?_)
  · obtain ⟨n, hn, rfl⟩ : ∃ n, ns[i]? = some n ∧ d = .int n := by
      unfold intsD at hd; rw [List.getElem?_map, Option.map_eq_some_iff] at hd
      obtain ⟨n, h1, h2⟩ := hd; exact ⟨n, h1, h2.symm⟩
    have hi : i < ns.length := Nat.lt_of_not_le fun hc => by
      rw [List.getElem?_eq_none hc] at hn; cases hn
    have inv : RInv words i (loopR words (ns.take i)) := by
      have := loopR_inv hw (ns.take i) (by rw [List.length_take]; omega)
      rw [List.length_take, Nat.min_eq_left (Nat.le_of_lt hi)] at this; exact this
    have es : loopR words (ns.take (i + 1)) = stepR words (loopR words (ns.take i)) n := by unfold loopR; exact foldl_take_succ hn
    rw [es]
    generalize loopR words (ns.take i) = S at *
    have hml := inv.mlen
    have hl := inv.len
    have ps := hp S.marks (by omega) inv.sub
    have e1 := ended_names (n := n) inv
    have e2 := ended_length (n := n) inv
    have hk := keepOf_le (n := n) (hml.symm ▸ inv.pos : 0 < S.marks.length)
    have inv' := stepR_inv (n := n) hw (by omega) inv
    have ew : addG iadd S.work [(pileText S.marks, n)] = (stepR words S n).work := by unfold stepR; split <;> rfl
    refine sx_seq (sx_assign (d := .dict (tabD (addG iadd S.work [(pileText S.marks, n)]))) (SxEv.old' (sxev_callD G (def_add_callers G) (sxall_cons (EvO.sx (ev_name (by kernel_rfl) rfl)) (sxall_cons (sxev_dict1 (EvO.sxl (ev_strPile G SS (l := S.marks) (ev_name (by kernel_rfl) rfl) (by omega) ps.1 ps.2 (by kernel_rfl)) rfl) (EvO.sx (ev_name (by kernel_rfl) rfl))) sxall_nil)) (addT_ok G S.work [(pileText S.marks, n)] (by have := inv.work; omega) (by simp)) (by rw [G.K]; kernel_rfl) (by kernel_rfl)) (tabN_old _)) R x5 fun s6 x6 => ?_)
    have tx : ∀ f ∈ addTop n S.st, TxtOk f.1 := fun f hf => by
      have h1 : f.1 ∈ namesS (addTop n S.st) := by unfold namesS; rw [List.mem_reverse]; exact List.mem_map.mpr ⟨f, hf, rfl⟩
      have h2 : namesS (addTop n S.st) = S.marks.map (·.2) := by rw [inv.names]; unfold namesS; rw [addTop_names]
      rw [h2] at h1
      obtain ⟨p, hp, e⟩ := List.mem_map.mp h1
      rw [← e]; exact ht _ (inv.sub p hp).2
    obtain ⟨f, r, hst⟩ : ∃ f r, S.st = f :: r := by
      cases e : S.st with
      | nil => have := inv.pos; rw [e] at this; cases this
      | cons f r => exact ⟨f, r, rfl⟩
    have hlenF : ((framesD (f :: r)).length : Int) = r.length + 1 := by rw [framesD_length]; simp
    have e6 : endOL pa fa ba S.marks (S.st, S.bk) = endOL pa fa ba S.marks (f :: r, S.bk) := by rw [hst]
    rw [e6] at x6
    refine sx_seq (sx_setLast (ds := framesD r) (d := frameD f) (d' := .tuple [.int (f.2.1 + n), .int (f.2.2 + n)]) (EvO.sxl (ev_tuple (evs_cons (ev_add (ev_item_tuple (ds := [.int f.2.1, .int f.2.2]) (ev_item_list_neg (ds := framesD (f :: r)) (ev_name (by kernel_rfl) rfl) (ev_neg ev_int) (by decide) (by rw [hlenF]; omega) (by decide) (lastF_cons f r)) ev_int (by decide) (by decide) rfl rfl) (ev_name (by kernel_rfl) rfl))
      (evs_cons (ev_add (ev_item_tuple (ds := [.int f.2.1, .int f.2.2]) (ev_item_list_neg (ds := framesD (f :: r)) (ev_name (by kernel_rfl) rfl) (ev_neg ev_int) (by decide) (by rw [hlenF]; omega) (by decide) (lastF_cons f r)) ev_int (by decide) (by decide) rfl rfl) (ev_name (by kernel_rfl) rfl)) evs_nil))) rfl) R x6 (by rw [← framesD_cons f r]; rfl) fun s7 x7 => ?_)
    have e7 : oset (endOL pa fa ba S.marks (f :: r, S.bk)) "frames" (.list (framesD r ++ [.tuple [.int (f.2.1 + n), .int (f.2.2 + n)]])) = endOL pa fa ba S.marks (addTop n S.st, S.bk) := by
      rw [hst]; simp only [endOL, framesD_addTop]; rfl
    rw [e7] at x7
    have ekeep : D.int (max 1 (((marksD S.marks).length : Int) - n.fmod 3)) = .int ((keepOf S.marks.length n : Nat) : Int) := by rw [keepOf_eq, marksD_length]
    refine sx_seq (sx_callEnd (keep := keepOf S.marks.length n) Fu (EvO.sxl (EvO.as (ev_max G ev_int (ev_sub (ev_partCount Fu (ev_name (by kernel_rfl) rfl) (by rfl)) (ev_mod (ev_name (by kernel_rfl) rfl) ev_int (by decide))) (by kernel_rfl)) ekeep) rfl) R x7 hk ?_ ?_ (inv.bk.le (by omega)) tx (fun s8 x8 => ?_) (by kernel_rfl))
    · rw [inv.names]; unfold namesS; rw [addTop_names]
    · rw [addTop_length]; omega
    have e8 : endN ((addTop n S.st).length - keepOf S.marks.length n) (addTop n S.st, S.bk) = endedR S n := by unfold endedR; rw [addTop_length]
    rw [e8] at x8
    refine sx_seq (sx_if (TrO.sx (tr_cmp (ev_mod (ev_fdiv (ev_name (by kernel_rfl) rfl) ev_int (by decide) (by decide)) ev_int (by decide)) ev_int cm_lt)) R x8 (fun hq s9 x9 => ?_) fun hq s9 x9 => ?_)
    · have hpk : pickOf n < 4 := by
        have := of_decide_eq_true hq
        have := pickOf_eq n
        omega
      have e' : stepR words S n = ⟨S.marks.take (keepOf S.marks.length n) ++ [((";" : Str), words.getD (pickOf n) "")], (words.getD (pickOf n) "", 0, 0) :: (endedR S n).1, (endedR S n).2,
        addG iadd S.come [(pileText (S.marks.take (keepOf S.marks.length n) ++ [((";" : Str), words.getD (pickOf n) "")]), 1)], addG iadd S.work [(pileText S.marks, n)]⟩ := by unfold stepR; rw [if_pos hpk]
      rw [e'] at inv' ⊢
      have hl' := inv'.len
      have hm' := inv'.mlen
      simp only at hl' hm'
      have ps' := hp (S.marks.take (keepOf S.marks.length n) ++ [((";" : Str), words.getD (pickOf n) "")]) (by omega) inv'.sub
      refine sx_seq (sx_push (m := ";") (w := words.getD (pickOf n) "") G (EvO.sx ev_str) (EvO.sx (ev_item_list (ev_name (by kernel_rfl) rfl) (ev_mod (ev_fdiv (ev_name (by kernel_rfl) rfl) ev_int (by decide) (by decide)) ev_int (by decide)) (by rw [← pickOf_eq]; omega) (by rw [← pickOf_eq]; omega) (d := .str (words.getD (pickOf n) "")) (str_at (by unfold pickOf at hpk; omega)))) R x9 rfl (by rw [marksD_length, List.length_take]; omega) fun s10 x10 => ?_)
      refine sx_seq (sx_append (d := .tuple [.int 0, .int 0]) (EvO.sx (ev_tuple (evs_cons ev_int (evs_cons ev_int evs_nil)))) R x10 rfl (by rw [framesD_length, e2]; omega) fun s11 x11 => ?_)
      have e11 : oset (oset (endOL pa fa ba (S.marks.take (keepOf S.marks.length n)) (endedR S n)) "pile" (.pile (marksD (S.marks.take (keepOf S.marks.length n)) ++ [.tuple [.str ";", .str (words.getD (pickOf n) "")]]))) "frames" (.list (framesD (endedR S n).1 ++ [.tuple [.int 0, .int 0]]))
          = endOL pa fa ba (S.marks.take (keepOf S.marks.length n) ++ [((";" : Str), words.getD (pickOf n) "")]) ((words.getD (pickOf n) "", 0, 0) :: (endedR S n).1, (endedR S n).2) := by
        simp only [endOL, framesD_cons, marksD, List.map_append]; rfl
      rw [e11] at x11
      refine sx_seq (sx_assign (d := .dict (tabD (addG iadd S.come [(pileText (S.marks.take (keepOf S.marks.length n) ++ [((";" : Str), words.getD (pickOf n) "")]), 1)]))) (SxEv.old' (sxev_callD G (def_add_callers G) (sxall_cons (EvO.sx (ev_name (by kernel_rfl) rfl)) (sxall_cons (sxev_dict1 (EvO.sxl (ev_strPile G SS (l := S.marks.take (keepOf S.marks.length n) ++ [((";" : Str), words.getD (pickOf n) "")]) (ev_name (by kernel_rfl) rfl) (by omega) ps'.1 ps'.2 (by kernel_rfl)) rfl) (EvO.sx ev_int)) sxall_nil)) (addT_ok G S.come [(pileText (S.marks.take (keepOf S.marks.length n) ++ [((";" : Str), words.getD (pickOf n) "")]), 1)] (by have := inv.come; omega) (by simp)) (by rw [G.K]; kernel_rfl) (by kernel_rfl)) (tabN_old _)) R x11 fun s12 x12 => wpAny_execs_nil (sx_end x12 ⟨rfl, rfl, rfl, rfl, trivial⟩ rfl))
    · have hpk : ¬ pickOf n < 4 := by
        have := of_decide_eq_false hq
        have := pickOf_eq n
        omega
      have e' : stepR words S n = ⟨S.marks.take (keepOf S.marks.length n), (endedR S n).1, (endedR S n).2, S.come, addG iadd S.work [(pileText S.marks, n)]⟩ := by unfold stepR; rw [if_neg hpk]
      rw [e']
      exact wpAny_execs_nil (sx_end x9 ⟨rfl, rfl, rfl, rfl, trivial⟩ rfl)
  · have e : (intsD ns).length = ns.length := intsD_length ns
    rw [e, List.take_length] at x5
    have inv := loopR_inv hw ns hz
    have hl := inv.len
    refine sx_seq (sx_callEnd (keep := 0) Fu (EvO.sx ev_int) R x5 (Nat.zero_le _) inv.names (by omega) (inv.bk.le (by omega)) (fun f hf => ?_) (fun s6 x6 => ?_) (by kernel_rfl))
    · have h1 : f.1 ∈ namesS (loopR words ns).st := by unfold namesS; rw [List.mem_reverse]; exact List.mem_map.mpr ⟨f, hf, rfl⟩
      rw [← inv.names] at h1
      obtain ⟨p, hp, e⟩ := List.mem_map.mp h1
      rw [← e]; exact ht _ (inv.sub p hp).2
    have x7 := x6.give "books"
    exact sx_ret (EvO.sx (ev_tuple (evs_cons (ev_name (by kernel_rfl) rfl) (evs_cons (ev_name (by kernel_rfl) rfl) (evs_cons (ev_name (by kernel_rfl) rfl) evs_nil))))) R x7
end Mine
end
section
open PySem PySem.W PyProof.Rows
set_option maxRecDepth 100000
set_option linter.unusedVariables false
set_option maxHeartbeats 4000000
namespace Mine
noncomputable def bothStep (b1 b2 : Books) (acc : Books) (name : Str) : Books :=
  if (dget b1 name).isSome || (dget b2 name).isSome then dput acc name (stat ((dget b1 name).getD zeroE) ((dget b2 name).getD zeroE)) else acc
noncomputable def bothP (b1 b2 : Books) (words : List Str) : Books := words.foldl (bothStep b1 b2) []
noncomputable def booksN (l : Books) : List (Str × D) := l.map fun p => (p.1, entryN p.2)
theorem bothStep_len (b1 b2 acc : Books) (name : Str) : (bothStep b1 b2 acc name).length ≤ acc.length + 1 := by
  unfold bothStep
  split
  · exact dput_length _ _ _
  · exact Nat.le_succ _
theorem booksN_put (l : Books) (x : Str) (q : Entry) : dput (booksN l) x (entryN q) = booksN (dput l x q) := dput_map entryN l x q
theorem booksD_isSome (l : Books) (x : Str) : (dget (booksD l) x).isSome = (dget l x).isSome := by
  unfold booksD; rw [dget_map]; cases dget l x <;> rfl
noncomputable def runD (b : Books) (c w : Tab) : D := .tuple [.dict (booksD b), .dict (tabD c), .dict (tabD w)]
noncomputable def runN (b : Books) (c w : Tab) : D := .tuple [.dict (booksN b), .ndict (tabD c), .ndict (tabD w)]
theorem both_ok {c : Cx} (Fu : c.Full) {k : Nat} (b1 b2 : Books) (c1 c2 w1 w2 : Tab) (words : List Str) (hw : words.length ≤ 900) (h1 : BkOk 400 b1) (h2 : BkOk 400 b2) (hc1 : c1.length ≤ 400) (hc2 : c2.length ≤ 400) (hw1 : w1.length ≤ 400) (hw2 : w2.length ≤ 400) :
    FnO c (k + 4) 184 [runD b1 c1 w1, runD b2 c2 w2, lst words] (runN (bothP b1 b2 words) (addG iadd c1 c2) (addG iadd w1 w2)) := by
  have G := Fu.G
  refine fn_sxN G.ok (def_both G) rfl fun X A st h₀ hn R x => ?_
  have x : Sx c (callEnvC (fdOf c.w.params 184) h₀.objs.size 184) ⟨h₀, X, fun _ => False, h₀⟩ [("one", .tuple [.dict (booksD b1), .dict (tabD c1), .dict (tabD w1)]), ("two", .tuple [.dict (booksD b2), .dict (tabD c2), .dict (tabD w2)]), ("words", lst words)] [] st := x
  refine sx_seq (sx_newDict x fun s1 a x1 => ?_)
  refine sx_seq (sx_forName (fun i => [("one", .tuple [.dict (booksD b1), .dict (tabD c1), .dict (tabD w1)]), ("two", .tuple [.dict (booksD b2), .dict (tabD c2), .dict (tabD w2)]), ("words", lst words)]) (fun i => [("books", a, .dict (booksN ((words.take i).foldl (bothStep b1 b2) [])))]) (it_list (ev_name (by kernel_rfl) rfl)) R x1 ⟨rfl, rfl, rfl, trivial⟩ rfl (fun i => rfl) (fun i d hd X Y hb s2 x2 => ?_) fun s2 x2 => ?_)
  · obtain ⟨name, hn', rfl⟩ := strs_get hd
    rw [foldl_take_succ hn']
    have hlen := fold_len (bothStep_len b1 b2) (words.take i) []
    generalize (words.take i).foldl (bothStep b1 b2) [] = acc at *
    refine sx_seq (sx_if (TrO.sx (tr_or (tr_cmp (ev_name (by kernel_rfl) rfl) (ev_item_tuple (ev_name (by kernel_rfl) rfl) ev_int (by decide) (by decide) rfl rfl) cm_inDict) (fun _ => tr_cmp (ev_name (by kernel_rfl) rfl) (ev_item_tuple (ev_name (by kernel_rfl) rfl) ev_int (by decide) (by decide) rfl rfl) cm_inDict))) R x2 (fun hq s3 x3 => ?_) fun hq s3 x3 => ?_)
    · refine sx_seq (sx_setDict (d := entryN (stat ((dget b1 name).getD zeroE) ((dget b2 name).getD zeroE))) (EvO.sx (ev_callD G (def_add_func_stats G) (evs_cons (EvO.as (ev_get (ev_item_tuple (ev_name (by kernel_rfl) rfl) ev_int (by decide) (by decide) rfl rfl) (ev_name (by kernel_rfl) rfl) (ev_tuple (evs_cons ev_int (evs_cons ev_int (evs_cons ev_int (evs_cons ev_int (evs_cons ev_dict0 evs_nil)))))) _) (books_getD b1 name))
        (evs_cons (EvO.as (ev_get (ev_item_tuple (ev_name (by kernel_rfl) rfl) ev_int (by decide) (by decide) rfl rfl) (ev_name (by kernel_rfl) rfl) (ev_tuple (evs_cons ev_int (evs_cons ev_int (evs_cons ev_int (evs_cons ev_int (evs_cons ev_dict0 evs_nil)))))) _) (books_getD b2 name)) evs_nil)) (stats_ok G Fu.SS _ _ (old_length h1 name) (old_length h2 name)) (by rw [G.K]; kernel_rfl) (by kernel_rfl))) (EvO.sx (ev_name (by kernel_rfl) rfl)) R x3 rfl ?_ fun s4 x4 => wpAny_execs_nil (sx_end x4 ⟨rfl, rfl, rfl, trivial⟩ ?_))
      · have : (booksN acc).length = acc.length := by unfold booksN; rw [List.length_map]
        rw [this]; rw [List.length_take] at hlen; simp at hlen; omega
      · have e : bothStep b1 b2 acc name = dput acc name (stat ((dget b1 name).getD zeroE) ((dget b2 name).getD zeroE)) := by
          unfold bothStep; rw [booksD_isSome, booksD_isSome] at hq; rw [if_pos hq]
        rw [e, ← booksN_put]; rfl
    · have e : bothStep b1 b2 acc name = acc := by
        unfold bothStep; rw [booksD_isSome, booksD_isSome] at hq; rw [if_neg (by rw [hq]; decide)]
      rw [e]
      exact wpAny_execs_nil (sx_end x3 ⟨rfl, rfl, rfl, trivial⟩ rfl)
  · have e : (strsD words).length = words.length := strsD_length words
    rw [e, List.take_length] at x2
    have x3 := x2.give "books"
    exact sx_ret (EvO.sx (ev_tuple (evs_cons (ev_name (by kernel_rfl) rfl) (evs_cons (ev_callD G (def_add_callers G) (evs_cons (ev_item_tuple (ev_name (by kernel_rfl) rfl) ev_int (by decide) (by decide) rfl rfl) (evs_cons (ev_item_tuple (ev_name (by kernel_rfl) rfl) ev_int (by decide) (by decide) rfl rfl) evs_nil)) (addT_ok G c1 c2 hc1 hc2) (by rw [G.K]; kernel_rfl) (by kernel_rfl))
      (evs_cons (ev_callD G (def_add_callers G) (evs_cons (ev_item_tuple (ev_name (by kernel_rfl) rfl) ev_int (by decide) (by decide) rfl rfl) (evs_cons (ev_item_tuple (ev_name (by kernel_rfl) rfl) ev_int (by decide) (by decide) rfl rfl) evs_nil)) (addT_ok G w1 w2 hw1 hw2) (by rw [G.K]; kernel_rfl) (by kernel_rfl)) evs_nil))))) R x3
end Mine
end
section
open PySem PySem.W PyProof.Rows PySem.Calls
set_option maxRecDepth 100000
set_option linter.unusedVariables false
namespace Mine
/-- y == x answers True, in this program and this world -/
noncomputable def EqW (prog : Program) (w : World) (A : Around) (s : Shared) (y x : Value) : Prop :=
  ∀ (E : Value → Shared → Prop) (Q : Bool → Shared → Prop), Q true s → wpAny (model prog w) A (eqBool y x) Q E s
noncomputable def RcW (prog : Program) (w : World) (A : Around) (s : Shared) (y x : Value) : Prop :=
  ∀ (E : Value → Shared → Prop) (Q : Value → Shared → Prop), Q (.bool true) s → wpAny (model prog w) A (richCompare .Eq y x) Q E s
section
variable {prog : Program} {w : World} {A : Around} {s : Shared}
theorem EqW.of_at {y x : Value} (h : SeqAt.EqAt A s y x true) : EqW prog w A s y x := fun E Q q => h prog w E Q q
theorem EqW.same (v : Value) : EqW prog w A s v v := .of_at (SeqAt.EqAt.same v)
theorem EqW.of_refs {l b : Addr} (h : RcW prog w A s (.ref l) (.ref b)) : EqW prog w A s (.ref l) (.ref b) := by
  by_cases e : l = b
  · subst e; exact .same _
  · intro E Q hq
    unfold eqBool
    refine wpAny_holding (wpAny_ite_split (fun hab => absurd (by have := eq_of_beq hab; injection this) e) (fun _ => ?_))
    exact wpAny_bind (h E _ (wpAny_truthy_bool hq))
/-- two dicts of one size, each pair of the one found in the other -/
theorem RcW.dicts {K : Type} [DecidableEq K] {knd : KeyKind prog w K} {a b : Addr} {ka kb : List (K × Value)} (ha : (a == sysModules) = false) (hb : (b == sysModules) = false)
    (da : s.heap.DictOf knd a ka) (db : s.heap.DictOf knd b kb) (hu : A.units < cLine) (hl : ka.length = kb.length) (hit : ∀ p ∈ ka, ∃ y, valueAt kb p.1 = some y ∧ EqW prog w A.in1 s p.2 y) : RcW prog w A s (.ref a) (.ref b) := fun E Q h => by
  refine wpAny_richCompare_same_room (op := .Eq) da.typeIs db.typeIs PySem.F.slot_dict_eq (wpAny_call_entry PySem.F.slot_dict_eq da.typeIs PySem.F.entry_dict_eq ?_ (PySem.F.args_dict_eq_2 _ _)) hu
  show wpAny _ _ (Builtin.Dict.dictSlotArgs "__eq__" ⟨[.ref a, .ref b], []⟩ >>= _) _ _ s
  refine wpAny_bind ?_
  unfold Builtin.Dict.dictSlotArgs
  refine wpAny_bind (wpAny_notOrdered_dict da.typeIs ?_)
  show wpAny _ _ (pure (Value.ref a, Value.ref b)) _ _ s
  refine wpAny_pure (wpAny_bind (wpAny_isInstance (T := "dict") db.typeIs PySem.F.sub_dict_dict ?_))
  simp only [Bool.not_true, Bool.false_eq_true, if_false]
  refine wpAny_bind (wpAny_pure (wpAny_bind (wpAny_pure (wpAny_bind ?_))))
  have goal : ∀ (nm : String) (Q : Bool → Shared → Prop), Q true s → wpAny (model prog w) A.in1 (Builtin.Dict.samePairs nm a b) Q E s := fun nm Q q => by
    obtain ⟨oa, es, ep, hoa, _, hda, hka, hpa, _⟩ := da
    obtain ⟨ob, es', ep', hob, _, hdb, hkb, hpb, _⟩ := db
    have hla : ka.length = es.size := by rw [← hpa.length]; exact Array.length_toList
    have hlb : kb.length = es'.size := by rw [← hpb.length]; exact Array.length_toList
    have hsz : es.size = es'.size := hla.symm.trans (hl.trans hlb)
    have hfind : ∀ k, findBy knd.is es' k = valueAt kb k := fun k => by
      rw [← hpb.find k]
      clear hlb hpb hkb hdb hob hsz
      obtain ⟨l⟩ := es'
      simp [findBy]
    unfold Builtin.Dict.samePairs Builtin.Dict.showsAll
    rw [if_neg (show ¬ (a == sysModules) = true by rw [ha]; exact Bool.false_ne_true), if_neg (show ¬ (b == sysModules) = true by rw [hb]; exact Bool.false_ne_true)]
    refine wpAny_bind (wpAny_pure (wpAny_bind (wpAny_pure (wpAny_bind (wpAny_dictEntries hoa hda ?_)))))
    dsimp only
    refine wpAny_bind (wpAny_dictEntries hob hdb ?_)
    rw [if_neg (by rw [hsz]; simp)]
    refine wpAny_bind (wpAny_dictEpoch hoa hda (wpAny_bind ?_))
    rw [Std.Legacy.Range.forIn_eq_forIn_range']
    simp only [Std.Legacy.Range.size, Nat.sub_zero, Nat.add_sub_cancel, Nat.div_one]
    refine wpAny_forIn_list _ (fun rest r s' => s' = s ∧ r = (none, ()) ∧ ∃ i, rest = List.range' i (es.size - i)) _ ?_ ?_ _ _ ⟨rfl, rfl, 0, by simp⟩
    · rintro x rest r s' ⟨rfl, rfl, i, hr⟩
      have hlt : i < es.size := Nat.lt_of_not_le fun hc => by rw [Nat.sub_eq_zero_of_le hc] at hr; simp at hr
      have e1 : es.size - i = (es.size - (i + 1)) + 1 := (Nat.succ_pred_eq_of_pos (Nat.sub_pos_of_lt hlt)).symm
      rw [e1, List.range'_succ] at hr
      obtain ⟨rfl, hrest⟩ := List.cons.inj hr
      have hlt' : x < ka.length := hla.symm ▸ hlt
      obtain ⟨k, v, hkv⟩ : ∃ k v, ka[x] = (k, v) := ⟨_, _, rfl⟩
      obtain ⟨y, hy, he⟩ := hit (k, v) (hkv ▸ List.getElem_mem hlt')
      obtain ⟨hkey, hval⟩ := hpa.get? (i := x) (e := es[x]) (k := k) (v := v) (by rw [Array.getElem?_toList]; exact Array.getElem?_eq_getElem hlt) (by rw [List.getElem?_eq_getElem hlt', hkv])
      obtain ⟨k', hk', hh⟩ := hka es[x] (Array.getElem_mem hlt)
      have ekk : k' = k := knd.inj _ _ _ hk' hkey
      subst ekk
      refine wpAny_bind (wpAny_dictEntries hoa hda ?_)
      rw [Array.getElem?_eq_getElem hlt]
      show wpAny _ _ (holding [es[x].key, es[x].val] _ >>= _) _ _ _
      rw [hh]
      refine wpAny_bind (wpAny_holding (wpAny_bind (wpAny_dictFind_of hkey hob hdb hkb ?_)))
      rw [← hfind k', findBy_of_findIdx?] at hy
      cases hj : es'.findIdx? fun e => knd.is k' e.key with
      | none => rw [hj] at hy; exact nomatch hy
      | some j =>
        obtain ⟨hjlt, _, _⟩ := Array.findIdx?_eq_some_iff_getElem.mp hj
        rw [hj] at hy
        simp only [Option.bind_some, Array.getElem?_eq_getElem hjlt, Option.map_some] at hy
        have ey := Option.some.inj hy
        refine wpAny_bind (wpAny_dictEntries hob hdb ?_)
        rw [Array.getElem?_eq_getElem hjlt]
        simp only at he
        rw [← ey, ← hval] at he
        refine wpAny_holding (he _ _ ?_)
        show wpAny _ _ (if (!true) = true then _ else _) _ _ _
        rw [if_neg (by decide)]
        refine wpAny_bind (wpAny_dictEpoch hoa hda ?_)
        rw [if_neg (by simp)]
        exact wpAny_pure ⟨rfl, rfl, x + 1, hrest⟩
    · rintro r s' ⟨rfl, rfl, i, hr⟩
      exact wpAny_pure q
  refine goal _ _ (wpAny_pure ⟨_, rfl, fun x => by simp at x, h⟩)
open SeqAt AutoSeq1 in
open AutoSeq1 (wpAny_loadPart') in
open MeetsSeq MeetsSeq2 MeetsSeq3 SeqRoads2 in
/-- two tuples of one size, equal item by item -/
theorem RcW.tuples {l b : Addr} {items items2 : Array Value} (hl : s.heap.IsTuple l items) (hb : s.heap.IsTuple b items2) (hu : A.units < cLine) (hsz : items.size = items2.size)
    (he : ∀ j (h1 : j < items.size) (h2 : j < items2.size), EqW prog w A.in1 s items[j] items2[j]) : RcW prog w A s (.ref l) (.ref b) := fun E Q h => by
  obtain ⟨⟨cls, dd, data, sl⟩, ho, hc, n, hd⟩ := id hl
  obtain ⟨⟨cls2, dd2, data2, sl2⟩, ho2, hc2, n2, hd2⟩ := id hb
  simp only at hc hd hc2 hd2
  subst hc hd hc2 hd2
  refine wpAny_richCompare_same_room (op := .Eq) ⟨_, ho, rfl⟩ ⟨_, ho2, rfl⟩ PySem.F.slot_tuple_eq (wpAny_call_entry PySem.F.slot_tuple_eq ⟨_, ho, rfl⟩ PySem.F.entry_tuple_eq ?_ (PySem.F.args_tuple_eq_2 _ _)) hu
  obtain ⟨hp, g, d, tk, os⟩ := s
  have f2 := AutoSeq1.sub_tuple_tuple
  have hZ : (items.toList.zip items2.toList).length = items.size := by simp [hsz]
  wp_walk using wpAny_loadPart' ho, wpAny_loadPart' ho2, wpAny_forIn_list _ (fun rest b s' => b.1 = none ∧ s' = ⟨hp, g, d, tk, os⟩ ∧ ∃ i, rest = (items.toList.zip items2.toList).drop i) _
  case turn =>
    rintro ⟨y, x⟩ rest b s' ⟨hb', rfl, i, hz⟩
    have hlt : i < (items.toList.zip items2.toList).length := Nat.lt_of_not_le fun h' => by rw [List.drop_of_length_le h'] at hz; cases hz
    rw [List.drop_eq_getElem_cons hlt] at hz
    obtain ⟨hyx, hrest⟩ := List.cons.inj hz
    have h1 : i < items.size := by omega
    have h2 : i < items2.size := by omega
    have hy : y = items[i] := by have := congrArg Prod.fst hyx; simpa using this
    have hx : x = items2[i] := by have := congrArg Prod.snd hyx; simpa using this
    subst hy hx
    refine wpAny_bind (he i h1 h2 _ _ ?_)
    wp_walk
    exact ⟨rfl, rfl, i + 1, hrest⟩
  case fin =>
    rintro ⟨b1, b2⟩ s' ⟨hb', rfl, i, hz⟩
    simp only at hb'
    subst hb'
    wp_walk
    exact ⟨_, rfl, by simpa [Builtin.Tuple.tupleCompareSizes, hsz] using h⟩
  case h =>
    exact ⟨rfl, rfl, 0, rfl⟩
end
end Mine
end
section
open PySem PySem.W PyProof.Rows PySem.Calls
set_option maxRecDepth 100000
set_option linter.unusedVariables false
namespace Mine
section
variable {c : Cx} {O : Addr → Prop} {h : Heap}
theorem IsKv.mem : ∀ {ds : List (Str × D)} {kvs : List (Str × Value)}, IsKv c O h ds kvs → ∀ {p : Str × Value}, p ∈ kvs → ∃ d, (p.1, d) ∈ ds ∧ Is c O h d p.2
  | [], kvs, x, p, hp => by unfold IsKv at x; subst x; cases hp
  | (k, d) :: ds, kvs, x, p, hp => by
    unfold IsKv at x
    obtain ⟨v, r, rfl, a, b⟩ := x
    rcases List.mem_cons.mp hp with rfl | hp
    · exact ⟨d, List.mem_cons_self, a⟩
    · obtain ⟨d', h1, h2⟩ := IsKv.mem b hp
      exact ⟨d', List.mem_cons_of_mem _ h1, h2⟩
end
section
variable {c : Cx} {O : Addr → Prop} {A : Around} {s : Shared}
abbrev EqC (c : Cx) (A : Around) (s : Shared) (v v' : Value) : Prop := EqW c.prog c.w A s v v'
theorem eqw_int {i : Int} {v v' : Value} (x : Is c O s.heap (.int i) v) (y : Is c O s.heap (.int i) v') : EqC c A s v v' := by
  unfold Is at x y
  obtain ⟨t, rfl⟩ := x
  obtain ⟨u, rfl⟩ := y
  refine EqW.of_at ?_
  have := SeqAt.EqAt.int_int (A := A) (s := s) i t i u
  rwa [beq_self_eq_true] at this
theorem rcw_tuple {ds ds' : List D} {v v' : Value} (x : Is c O s.heap (.tuple ds) v) (y : Is c O s.heap (.tuple ds') v') (hu : A.units < cLine) (hl : ds.length = ds'.length)
    (he : ∀ (j : Nat) d d' u u', ds[j]? = some d → ds'[j]? = some d' → Is c O s.heap d u → Is c O s.heap d' u' → EqC c A.in1 s u u') : ∃ a b, v = .ref a ∧ v' = .ref b ∧ RcW c.prog c.w A s (.ref a) (.ref b) := by
  unfold Is at x y
  obtain ⟨a, vs, n, rfl, na, ho, r⟩ := x
  obtain ⟨b, ws, m, rfl, nb, hq, r'⟩ := y
  have e1 := r.length
  have e2 := r'.length
  rw [Array.length_toList] at e1 e2
  refine ⟨a, b, rfl, rfl, RcW.tuples ⟨_, ho, rfl, n, rfl⟩ ⟨_, hq, rfl, m, rfl⟩ hu (by omega) fun j h1 h2 => ?_⟩
  obtain ⟨d, hd, i⟩ := r.get' (i := j) (v := vs[j]) (by rw [Array.getElem?_toList]; exact Array.getElem?_eq_getElem h1)
  obtain ⟨d', hd', i'⟩ := r'.get' (i := j) (v := ws[j]) (by rw [Array.getElem?_toList]; exact Array.getElem?_eq_getElem h2)
  exact he j d d' _ _ hd hd' i i'
theorem eqw_tuple {ds ds' : List D} {v v' : Value} (x : Is c O s.heap (.tuple ds) v) (y : Is c O s.heap (.tuple ds') v') (hu : A.units < cLine) (hl : ds.length = ds'.length)
    (he : ∀ (j : Nat) d d' u u', ds[j]? = some d → ds'[j]? = some d' → Is c O s.heap d u → Is c O s.heap d' u' → EqC c A.in1 s u u') : EqC c A s v v' := by
  obtain ⟨a, b, rfl, rfl, q⟩ := rcw_tuple x y hu hl he
  exact EqW.of_refs q
theorem rcw_dict {ds ds' : List (Str × D)} {v v' : Value} (x : Is c O s.heap (.dict ds) v) (y : Is c O s.heap (.dict ds') v') (hu : A.units < cLine) (hl : ds.length = ds'.length)
    (he : ∀ p ∈ ds, ∃ d', dget ds' p.1 = some d' ∧ ∀ u u', Is c O s.heap p.2 u → Is c O s.heap d' u' → EqC c A.in1 s u u') : ∃ a b, v = .ref a ∧ v' = .ref b ∧ RcW c.prog c.w A s (.ref a) (.ref b) := by
  unfold Is at x y
  obtain ⟨a, kvs, ep, rfl, na, ho, r⟩ := x
  obtain ⟨b, kvs', ep', rfl, nb, hq, r'⟩ := y
  refine ⟨a, b, rfl, rfl, RcW.dicts (not_modules na.1) (not_modules nb.1) ho.dictOf hq.dictOf hu (by rw [r.length, r'.length, hl]) fun p hp => ?_⟩
  obtain ⟨d, hd, i⟩ := r.mem hp
  obtain ⟨d', hd', q⟩ := he _ hd
  obtain ⟨u, hu', i'⟩ := r'.find hd'
  exact ⟨u, hu', q _ _ i i'⟩
theorem eqw_dict {ds ds' : List (Str × D)} {v v' : Value} (x : Is c O s.heap (.dict ds) v) (y : Is c O s.heap (.dict ds') v') (hu : A.units < cLine) (hl : ds.length = ds'.length)
    (he : ∀ p ∈ ds, ∃ d', dget ds' p.1 = some d' ∧ ∀ u u', Is c O s.heap p.2 u → Is c O s.heap d' u' → EqC c A.in1 s u u') : EqC c A s v v' := by
  obtain ⟨a, b, rfl, rfl, q⟩ := rcw_dict x y hu hl he
  exact EqW.of_refs q
/-- the same table, in any order -/
noncomputable def TabEq {α : Type} (l l' : List (Str × α)) (R : α → α → Prop) : Prop := l.length = l'.length ∧ ∀ p ∈ l, ∃ v', dget l' p.1 = some v' ∧ R p.2 v'
noncomputable def EntryEq (e e' : Entry) : Prop := e.1 = e'.1 ∧ TabEq e.2 e'.2 Eq
noncomputable def BooksEq (b b' : Books) : Prop := TabEq b b' EntryEq
theorem eqw_q4 {q : Q4} {v v' : Value} (hu : A.units < cLine) (x : Is c O s.heap (q4D q) v) (y : Is c O s.heap (q4D q) v') : EqC c A s v v' := by
  unfold q4D at x y
  refine eqw_tuple x y hu rfl fun j d d' u u' h1 h2 i i' => ?_
  rw [h1] at h2
  cases h2
  have : ∃ n, d = .int n := by
    rcases j with _ | _ | _ | _ | j <;> simp at h1 <;> exact ⟨_, h1.symm⟩
  obtain ⟨n, rfl⟩ := this
  exact eqw_int i i'
theorem eqw_callers {l l' : List (Str × Q4)} {v v' : Value} (hu : A.units + 1 < cLine) (q : TabEq l l' Eq) (x : Is c O s.heap (.dict (callersD l)) v) (y : Is c O s.heap (.dict (callersD l')) v') : EqC c A s v v' := by
  refine eqw_dict x y (by omega) (by unfold callersD; rw [List.length_map, List.length_map]; exact q.1) fun p hp => ?_
  obtain ⟨p', hp', rfl⟩ := List.mem_map.mp hp
  obtain ⟨w, h1, h2⟩ := q.2 p' hp'
  refine ⟨q4D w, by unfold callersD; rw [dget_map, h1]; rfl, fun u u' i i' => ?_⟩
  have h2 : p'.2 = w := h2
  subst h2
  exact eqw_q4 (by show A.units + 1 < cLine; omega) i i'
theorem eqw_entry {e e' : Entry} {v v' : Value} (hu : A.units + 2 < cLine) (q : EntryEq e e') (x : Is c O s.heap (entryD e) v) (y : Is c O s.heap (entryD e') v') : EqC c A s v v' := by
  obtain ⟨⟨a1, a2, a3, a4⟩, l⟩ := e
  obtain ⟨q', l'⟩ := e'
  obtain ⟨h1, h2⟩ := q
  simp only at h1 h2
  subst h1
  unfold entryD at x y
  refine eqw_tuple x y (by omega) rfl fun j d d' u u' g1 g2 i i' => ?_
  rcases j with _ | _ | _ | _ | _ | j <;> simp at g1 g2
  · subst g1 g2; exact eqw_int i i'
  · subst g1 g2; exact eqw_int i i'
  · subst g1 g2; exact eqw_int i i'
  · subst g1 g2; exact eqw_int i i'
  · subst g1 g2; exact eqw_callers (by show A.units + 1 + 1 < cLine; omega) h2 i i'
theorem cm_books {k : Nat} {b b' : Books} (q : BooksEq b b') : CmO c O k .Eq (.dict (booksD b)) (.dict (booksD b')) true := fun A s va vb R S x y => by
  have hu := R.units
  obtain ⟨a1, a2, rfl, rfl, z⟩ := rcw_dict (A := A) x y (by omega) (by unfold booksD; rw [List.length_map, List.length_map]; exact q.1) fun p hp => by
    obtain ⟨p', hp', rfl⟩ := List.mem_map.mp hp
    obtain ⟨w, h1, h2⟩ := q.2 p' hp'
    exact ⟨entryD w, by unfold booksD; rw [dget_map, h1]; rfl, fun u u' i i' => eqw_entry (by show A.units + 1 + 2 < cLine; omega) h2 i i'⟩
  exact z _ _ ⟨S, Grow.refl _, rfl⟩
end
end Mine
end
section
open PySem PySem.W PyProof.Rows PySem.Calls
set_option maxRecDepth 100000
set_option linter.unusedVariables false
namespace Mine
theorem boot_listT : bootBuiltins "list" = some (.type "list") := rfl
section
variable {c : Cx} {O : Addr → Prop} {k : Nat} {env : Env} {ρ : List (Str × D)} {A : Around} {s : Shared}
/-- list(d.items()) -/
theorem ev_listItems (G : c.Good) {p pos apos ipos : Pos} {e : Expr} {ds : List (Str × D)} (X : EvO c O k env ρ e (.dict ds)) (hz : ds.length ≤ 1000) (hx : env.kindOf "list" = some .globalImplicit) (pl : Sem Bool)
    (he : eval (.Call (.Attribute e "items" apos) [] [] ipos) env = (do
      let ov ← eval e env
      standAt apos.atName
      let (f, first) ← holding [ov] (getMethod ov "items" pl)
      callWith ipos f first (backTo ipos (starEach [] env)) []) := by rfl)
    (hs : starEach [.Call (.Attribute e "items" apos) [] [] ipos] env = (false, eval (.Call (.Attribute e "items" apos) [] [] ipos) env) :: starEach [] env := by rfl)
    (hc : eval (.Call (.Name "list" p) [.Call (.Attribute e "items" apos) [] [] ipos] [] pos) env = (do callWith pos (← eval (.Name "list" p) env) [] (backTo pos (starEach [.Call (.Attribute e "items" apos) [] [] ipos] env)) []) := by rfl) :
    EvO c O k env ρ (.Call (.Name "list" p) [.Call (.Attribute e "items" apos) [] [] ipos] [] pos) (.list (ds.map fun q => .tuple [.str q.1, q.2])) := fun A s R S V => by
  rw [hc]
  refine wpAny_bind (fnv_builtin G.ok V.1 (by rw [G.K]; kernel_rfl) boot_listT (by decide) hx (by decide) A s _ _ S ?_)
  rw [hs]
  refine PyProof.Rows.callWith_type rfl (Calls.evalArgs_plain (Calls.spliced_cons (method0 (id := "dict.items") (T := "dict") X R S V pl he fun v s₁ S₁ g₁ i => ?_)))
  unfold Is at i
  obtain ⟨a, kvs, ep, rfl, na, ho, r⟩ := i
  refine dict_method ho PySem.F.slot_dict_items PySem.F.type_dict_items ⟨rfl, ?_⟩
  refine call_meetsIn PySem.F.slot_dict_items ho.dictOf.typeIs PySem.F.entry_dict_items (PySem.F.args_dict_items_1 _) (meets_dict_items (strKind c.prog c.w) a (not_modules na.1)) ⟨⟨_, ho.dictOf⟩, Calls.spliced_nil ?_⟩
  have g2 := Grow.push s₁.heap { cls := .type "dict_items", data := .fields #[.ref a] }
  have S2 := S₁.push { cls := .type "dict_items", data := .fields #[.ref a] } (g := s₁.gens) (d := s₁.drawn) (t := s₁.toks) (os := s₁.os) rfl rfl
  have ow : Own O s.heap := V.2.1
  refine kdx_call (knd := strKind c.prog c.w) (kvs := kvs) (ep := ep) R.1 ⟨_, Heap.get?_push_size _ rfl, rfl, rfl⟩ (ho.push _) (by rw [r.length]; exact size_of hz) fun h' tk acc cc as hk hS hl hG hacc => ?_
  have hsz : (s₁.heap.push { cls := .type "dict_items", data := .fields #[.ref a] }).objs.size ≤ h'.objs.size := Nat.le_of_lt (Heap.lt_size hS)
  have g3 : Grow (s₁.heap.push { cls := .type "dict_items", data := .fields #[.ref a] }) h' := ⟨hsz, fun b o _ e => hk b o e⟩
  have gAll : Grow s.heap h' := (g₁.trans g2).trans g3
  refine ⟨(S2.keeps (s' := { s₁ with heap := h', toks := tk }) hk hsz rfl rfl), gAll, ?_⟩
  have low : s.heap.objs.size ≤ (s₁.heap.push { cls := .type "dict_items", data := .fields #[.ref a] }).objs.size := Nat.le_trans g₁.1 g2.1
  unfold Is
  refine ⟨_, acc, cc, rfl, ow.new low, hS, isAll_of (by rw [hacc, List.length_map, List.length_map, hl, r.length]) fun i d v h1 h2 => ?_⟩
  rw [List.getElem?_map, Option.map_eq_some_iff] at h1
  obtain ⟨q, h1, rfl⟩ := h1
  rw [hacc, List.getElem?_map, Option.map_eq_some_iff] at h2
  obtain ⟨b, h2, rfl⟩ := h2
  obtain ⟨key, kk, x, e1, e2, e3⟩ := hG.pairs i b h2
  obtain ⟨v, e4, iv⟩ := r.get (x := q.1) (d := q.2) h1
  rw [e1] at e4
  cases e4
  obtain ⟨t, rfl⟩ := Value.isStrOf_shape e2
  unfold Is
  refine ⟨b, _, 0, rfl, ow.new (Nat.le_trans low (Nat.le_of_lt (hG.above b (List.mem_of_getElem? h2)))), e3, ?_⟩
  exact IsAll.cons (by unfold Is; exact ⟨t, rfl⟩) (IsAll.cons (iv.grow (g2.trans g3)) .nil)
end
end Mine
end
section
open PySem PySem.W PyProof.Rows PySem.Calls
set_option maxRecDepth 100000
set_option linter.unusedVariables false
set_option maxHeartbeats 4000000
namespace Mine
theorem items_tab (t : Tab) : D.list ((tabD t).map fun q => .tuple [.str q.1, q.2]) = .list (t.map pairD) := by
  unfold tabD; rw [List.map_map]; rfl
theorem pairs_snd {l : Tab} : (((l.map pairD).filter fun _ => true).map sndOf) = intsD (l.map (·.2)) := by
  rw [filter_tt]; unfold intsD; rw [List.map_map, List.map_map]; rfl
theorem pairD_two {l : Tab} : ∀ d ∈ l.map pairD, ∃ a b, d = .tuple [a, b] := fun d hd => by
  obtain ⟨p, _, rfl⟩ := List.mem_map.mp hd; exact ⟨_, _, rfl⟩
noncomputable def listsD (come worked : Tab) : D := .tuple [.list (come.map pairD), .list (worked.map pairD)]
structure ToldOk (c w : Tab) (words : List Str) : Prop where
  len : c.length ≤ 1000
  wlen : words.length ≤ 900
  txt : ∀ s ∈ words, TxtOk s
  size : ∀ p ∈ c, p.1.length ≤ sizeLine ∧ (Builtin.Str.partsBetween p.1 (Builtin.Str.occurrences p.1 ";" 0 p.1.length (p.1.length + 1)) (Str.ofString ";").length).length ≤ sizeLine
  row : ∀ p ∈ c, RowOk (rowOf c w p.1)
theorem agrees_ok {c : Cx} (Fu : c.Full) {k : Nat} (b : Books) (come worked : Tab) (words : List Str) (ht : ToldOk (tableP come) (tableP worked) words) (hb : BooksEq b (toldP (tableP come) (tableP worked) words))
    (hc : come.length ≤ 900) (hw : worked.length ≤ 900) (hct : ∀ p ∈ come, TxtOk p.1) (hwt : ∀ p ∈ worked, TxtOk p.1) (tc : ∀ p ∈ tableP come, TxtOk p.1) (tw : ∀ p ∈ tableP worked, TxtOk p.1) (lc : (tableP come).length ≤ 900) (lw : (tableP worked).length ≤ 900)
    (sc : sumTab (tableP come) = come.length) (sw : sumTab (tableP worked) = (worked.map (·.2)).sum) :
    FnO c (k + 3) 177 [runD b (tableP come) (tableP worked), listsD come worked, lst words] (.bool true) := by
  have G := Fu.G
  refine fn_sx G.ok (def_agrees G) rfl fun X A st h₀ R x => ?_
  have x : Sx c (callEnvC (fdOf c.w.params 177) h₀.objs.size 177) ⟨h₀, X, fun _ => False, h₀⟩ [("run", .tuple [.dict (booksD b), .dict (tabD (tableP come)), .dict (tabD (tableP worked))]), ("lists", .tuple [.list (come.map pairD), .list (worked.map pairD)]), ("words", lst words)] [] st := x
  refine sx_seq (sx_unpack (ds := [.dict (booksD b), .dict (tabD (tableP come)), .dict (tabD (tableP worked))]) (EvO.sx (ev_name (by kernel_rfl) rfl)) R x (.cons (.cons (.cons .nil))) rfl fun s1 x1 => ?_)
  have cmT : ∀ {O : Addr → Prop} {k : Nat} (l : Tab), (∀ p ∈ l, TxtOk p.1) → CmO c O k .NotEq (.list ((tabD l).map fun q => .tuple [.str q.1, q.2])) (.list (l.map pairD)) false := fun {O k} l hl => by
    rw [items_tab]
    have := cm_ne (c := c) (O := O) (k := k) (a := .list (l.map pairD)) (b := .list (l.map pairD)) (ok_pairs hl) (ok_pairs hl)
    rw [eqv_pairs, beq_self_eq_true] at this
    exact this
  have cmI : ∀ {O : Addr → Prop} {k : Nat} (a b : Int), a = b → CmO c O k .NotEq (.int a) (.int b) false := fun {O k} a b e => by
    subst e
    have := cm_ne (c := c) (O := O) (k := k) (a := .int a) (b := .int a) (by unfold D.ok; rfl) (by unfold D.ok; rfl)
    rw [eqv_int, beq_self_eq_true] at this
    exact this
  refine sx_seq (sx_if (TrO.sx (tr_or (a := false) (b := false)
    (tr_cmp (ev_listItems G (ev_name (by kernel_rfl) rfl) (by unfold tabD; rw [List.length_map]; omega) (by kernel_rfl) _) (ev_callD G (def_table G) (evs_cons (ev_item_tuple (ev_name (by kernel_rfl) rfl) ev_int (by decide) (by decide) rfl rfl) evs_nil) (table_ok G come (by omega) hct) (by rw [G.K]; kernel_rfl) (by kernel_rfl)) (cmT _ tc))
    (fun _ => tr_cmp (ev_listItems G (ev_name (by kernel_rfl) rfl) (by unfold tabD; rw [List.length_map]; omega) (by kernel_rfl) _) (ev_callD G (def_table G) (evs_cons (ev_item_tuple (ev_name (by kernel_rfl) rfl) ev_int (by decide) (by decide) rfl rfl) evs_nil) (table_ok G worked (by omega) hwt) (by rw [G.K]; kernel_rfl) (by kernel_rfl)) (cmT _ tw)))) R x1 (fun hq => nomatch hq) fun _ s2 x2 => wpAny_execs_nil ?_)
  refine sx_seq (sx_if (TrO.sx (tr_or (a := false) (b := false)
    (tr_cmp (ev_callD G (def_count_calls G) (evs_cons (ev_name (by kernel_rfl) rfl) evs_nil) (count_ok G _) (by rw [G.K]; kernel_rfl) (by kernel_rfl)) (ev_len G.ok (ev_item_tuple (ev_name (by kernel_rfl) rfl) ev_int (by decide) (by decide) rfl rfl) (by rw [G.K]; kernel_rfl) (by kernel_rfl) (by rw [List.length_map]; omega)) (cmI _ _ (by rw [List.length_map]; exact sc)))
    (fun _ => tr_cmp (ev_callD G (def_count_calls G) (evs_cons (ev_name (by kernel_rfl) rfl) evs_nil) (count_ok G _) (by rw [G.K]; kernel_rfl) (by kernel_rfl)) (ev_sum G (ns := worked.map (·.2)) (EvO.as (ev_listcomp (lc_pair (cond := fun _ => true) (F := sndOf) (it_list (ev_item_tuple (ev_name (by kernel_rfl) rfl) ev_int (by decide) (by decide) rfl rfl)) (size_of (by rw [List.length_map]; omega)) pairD_two (fun O' C a b hd => if_nil) fun O' C a b hd _ => ev_name (by kernel_rfl) rfl)) (by rw [pairs_snd])) (by kernel_rfl)) (cmI _ _ sw)))) R x2 (fun hq => nomatch hq) fun _ s3 x3 => wpAny_execs_nil ?_)
  exact sx_ret (EvO.sx (ev_cmp (ev_name (by kernel_rfl) rfl) (ev_callD G (def_told G) (evs_cons (ev_name (by kernel_rfl) rfl) (evs_cons (ev_name (by kernel_rfl) rfl) (evs_cons (ev_name (by kernel_rfl) rfl) evs_nil))) (told_ok G _ _ words ht.len ht.wlen ht.txt ht.size ht.row) (by rw [G.K]; kernel_rfl) (by kernel_rfl)) (cm_books hb))) R x3
end Mine
end
section
open PySem PySem.W PyProof.Rows PySem.Calls
set_option maxRecDepth 100000
set_option linter.unusedVariables false
namespace Mine
section
variable {prog : Program} {w : World} {A : Around} {E : Value → Shared → Prop} {s : Shared}
theorem sliceApplied_2of3 {sl : Addr} {u : Tok} {Q : Int × Int × Nat → Shared → Prop} (hs : s.heap.IsSliceOf sl .none (.int 2 u) .none) (h : Q (0, 1, 2) s) :
    wpAny (model prog w) A (Builtin.Slice.sliceApplied (.ref sl) (pure ((3 : Nat) : Int))) Q E s := by
  obtain ⟨os, hos, hcs, hds⟩ := id hs
  unfold Builtin.Slice.sliceApplied Builtin.Slice.sliceFields
  refine wpAny_bind (wpAny_bind (wpAny_field hos hds (x := .none) rfl (wpAny_bind (wpAny_field hos hds (x := .int 2 u) rfl (wpAny_bind (wpAny_field hos hds (x := .none) rfl (wpAny_pure ?_)))))))
  refine wpAny_bind (slicePart_none ?_)
  show wpAny _ _ (if ((1 : Int) == 0) = true then _ else _) _ _ s
  rw [if_neg (by decide)]
  refine wpAny_bind (slicePart_none (wpAny_bind (slicePart_int (wpAny_bind (wpAny_pure ?_)))))
  exact wpAny_pure h
theorem getItem_2of3 {t sl : Addr} {a b d : Value} {u : Tok} {Q : Value → Shared → Prop} (ht : IsTup s.heap t #[a, b, d]) (hs : s.heap.IsSliceOf sl .none (.int 2 u) .none)
    (h : Q (.ref s.heap.objs.size) { s with heap := s.heap.push { cls := .type "tuple", data := .seq #[a, b] } }) : wpAny (model prog w) A (getItem (.ref t) (.ref sl)) Q E s := by
  obtain ⟨os, hos, hcs, hds⟩ := id hs
  have hTs : s.TypeIs (.ref sl) "slice" := ⟨os, hos, hcs⟩
  unfold getItem
  try with_reducible refine wpAny_holding ?_
  first | refine wpAny_bind (wpAny_pure ?_) | skip
  refine wpAny_bind (wpAny_sequenceKey ht.typeIs (by decide) ?_)
  refine wpAny_bind (wpAny_callSpecial?_slot (name := Str.ofString "__getitem__") ht.typeIs slot_tuple_getitem
    (wpAny_call_entry slot_tuple_getitem ht.typeIs entry_tuple_getitem ?_ (args_tuple_getitem _ _)))
  show wpAny _ _ (Builtin.Tuple.tupleItemsOf (.ref t) >>= _) _ _ s
  refine wpAny_bind (tupleItemsOf_ ht (wpAny_bind (wpAny_typeOf hTs ?_)))
  rw [if_pos (by decide)]
  refine wpAny_bind (sliceApplied_2of3 hs ?_)
  show wpAny _ _ (if (((0 : Int) == 0 && (1 : Int) == 1 && (2 == 3))) = true then _ else _) _ _ s
  rw [if_neg (by decide)]
  first
    | exact wpAny_bind (m := Builtin.Tuple.tupleExact _) (wpAny_newObj_type (wpAny_pure ⟨_, rfl, wpAny_pure h⟩) (by show (2 : Nat) ≤ _; decide))
    | exact wpAny_bind (m := Builtin.Tuple.tupleExact _) (wpAny_newObj_type (wpAny_bind (wpAny_pure (wpAny_pure ⟨_, rfl, wpAny_pure h⟩))) (by show (2 : Nat) ≤ _; decide))
    | exact wpAny_bind (wpAny_bind (m := Builtin.Tuple.tupleExact _) (wpAny_newObj_type (wpAny_pure (wpAny_pure ⟨_, rfl, wpAny_pure h⟩)) (by show (2 : Nat) ≤ _; decide)))
    | exact wpAny_bind (wpAny_bind (m := Builtin.Tuple.tupleExact _) (wpAny_newObj_type (wpAny_pure ⟨_, rfl, wpAny_pure h⟩) (by show (2 : Nat) ≤ _; decide)))
end
section
variable {c : Cx} {O : Addr → Prop} {k : Nat} {env : Env} {ρ : List (Str × D)} {A : Around} {s : Shared}
/-- e[:2] of a tuple of three -/
theorem ev_2of3 {v hi : Expr} {p pos : Pos} {d1 d2 d3 : D} (X : EvO c O k env ρ v (.tuple [d1, d2, d3])) (H : EvO c O k env ρ hi (.int 2)) :
    EvO c O k env ρ (.Subscript v (.Slice none (some hi) none p) pos) (.tuple [d1, d2]) := fun A s R S V => by
  refine Subscript_ (X.use R S V fun o s₁ S₁ g₁ i₁ => ?_)
  refine wpAny_Slice (wpAny_pure (H.use R S₁ (V.grow g₁) fun u s₃ S₃ g₃ pu => wpAny_pure ?_))
  have V₃ := (V.grow g₁).grow g₃
  have i₃ := i₁.grow g₃
  unfold Is at i₃ pu
  obtain ⟨ad, vs, n, rfl, na, ho, r⟩ := i₃
  obtain ⟨tu, rfl⟩ := pu
  have gp := Grow.push s₃.heap { cls := .type "slice", data := .fields #[.none, .int 2 tu, .none] }
  have S₄ := S₃.push { cls := .type "slice", data := .fields #[.none, .int 2 tu, .none] } (g := s₃.gens) (d := s₃.drawn) (t := s₃.toks) (os := s₃.os) rfl rfl
  have ho' := Heap.get?_push_of_some { cls := .type "slice", data := .fields #[.none, .int 2 tu, .none] } ho
  have r2 := r.grow gp
  unfold IsAll at r2
  obtain ⟨a1, r3, e1, i1, q⟩ := r2
  unfold IsAll at q
  obtain ⟨a2, r4, rfl, i2, q⟩ := q
  unfold IsAll at q
  obtain ⟨a3, r5, rfl, i3, q⟩ := q
  unfold IsAll at q
  subst q
  have ev : vs = #[a1, a2, a3] := by rw [← Array.toArray_toList (xs := vs), e1]
  subst ev
  refine tail_any (typeIs_of ho') slot_tuple_getitem.lookup (getItem_2of3 ⟨_, ho', rfl, n, rfl⟩ (Heap.IsSliceOf.new ..) ?_) rfl
  have z := Is.newTuple S₄ (V₃.2.1.grow gp) (IsAll.cons i1 (IsAll.cons i2 .nil))
  exact ⟨z.1, ((g₁.trans g₃).trans gp).trans z.2.1, z.2.2⟩
end
end Mine
end
section
open PySem PySem.W PyProof.Rows PySem.Calls
set_option maxRecDepth 100000
set_option linter.unusedVariables false
namespace Mine
open Builtin in
theorem meets_brace (t u : Tok) : ∀ z : Str, z.length ≤ 1000000 → Meets («str.__mod__» ⟨[.str ⟨#[123, 37, 115, 125]⟩ t, .str z u], []⟩) (fun _ R s => ∀ t' k, R (.ok (.ret (.str ((PySem.Str.ofString "{" ++ z) ++ PySem.Str.ofString "}") t'))) { s with toks := k }) := by
  kpc_run_s
open Builtin in
set_option maxHeartbeats 0 in
theorem meets_site (t t1 t2 t3 : Tok) (b : Addr) (f nm : Str) (n : Int) (hf : f.length ≤ 1000000) (hn : nm.length ≤ 1000000) (h0 : 0 ≤ n) (h1 : n < 10 ^ 10) : Meets («str.__mod__» ⟨[.str ⟨#[37, 115, 58, 37, 100, 40, 37, 115, 41]⟩ t, .ref b], []⟩) (fun _ R s => IsTup s.heap b #[.str f t1, .int n t2, .str nm t3] ∧ ∀ t' k, R (.ok (.ret (.str (((((f ++ PySem.Str.ofString ":") ++ PySem.Str.ofString (toString n)) ++ PySem.Str.ofString "(") ++ nm) ++ PySem.Str.ofString ")") t'))) { s with toks := k }) := by
  kpt_run
end Mine
end
section
open PySem PySem.W PyProof.Rows PySem.Calls
set_option maxRecDepth 100000
set_option linter.unusedVariables false
namespace Mine
section
variable {c : Cx} {O : Addr → Prop} {k : Nat} {env : Env} {ρ : List (Str × D)} {A : Around} {s : Shared}
theorem ev_startswith {o e : Expr} {apos pos : Pos} {x y : Str} (X : EvO c O k env ρ o (.str x)) (Y : EvO c O k env ρ e (.str y)) (pl : Sem Bool) (he : MethForm o "startswith" apos pos [e] env pl := by rfl) (hs : starEach [e] env = (false, eval e env) :: starEach [] env := by rfl) :
    EvO c O k env ρ (.Call (.Attribute o "startswith" apos) [e] [] pos) (.bool (Txt.startswith x y)) := fun A s R S V =>
  methodN (id := "str.startswith") X (evs_cons Y evs_nil hs) R S V pl he hs rfl (fun v s' Q' E' S' i q => by
      unfold Is at i
      obtain ⟨t, rfl⟩ := i
      exact PySem.GM.startswith q) fun v vs s' S' g i j => by
    unfold Is at i
    obtain ⟨t, rfl⟩ := i
    obtain ⟨v1, rfl, j1⟩ := j.one
    unfold Is at j1
    obtain ⟨u, rfl⟩ := j1
    exact PySem.SC.startswith ⟨S', g, by unfold Is; rfl⟩
theorem ev_endswith {o e : Expr} {apos pos : Pos} {x y : Str} (X : EvO c O k env ρ o (.str x)) (Y : EvO c O k env ρ e (.str y)) (pl : Sem Bool) (he : MethForm o "endswith" apos pos [e] env pl := by rfl) (hs : starEach [e] env = (false, eval e env) :: starEach [] env := by rfl) :
    EvO c O k env ρ (.Call (.Attribute o "endswith" apos) [e] [] pos) (.bool (Txt.endswith x y)) := fun A s R S V =>
  methodN (id := "str.endswith") X (evs_cons Y evs_nil hs) R S V pl he hs rfl (fun v s' Q' E' S' i q => by
      unfold Is at i
      obtain ⟨t, rfl⟩ := i
      exact PySem.GM.endswith q) fun v vs s' S' g i j => by
    unfold Is at i
    obtain ⟨t, rfl⟩ := i
    obtain ⟨v1, rfl, j1⟩ := j.one
    unfold Is at j1
    obtain ⟨u, rfl⟩ := j1
    exact PySem.SC.endswith ⟨S', g, by unfold Is; rfl⟩
theorem ev_modBrace {e : Expr} {m : Nat} {p pos : Pos} {z : Str} (X : EvO c O k env ρ e (.str z)) (hz : z.length ≤ 1000000) : EvO c O k env ρ (.BinOp (.Constant (.str "{%s}") m p) .Mod e pos) (.str ((PySem.Str.ofString "{" ++ z) ++ PySem.Str.ofString "}")) :=
  ev_bin ev_str X fun A s va vb R S ow x y => by
    unfold Is at x y
    obtain ⟨t, rfl⟩ := x
    obtain ⟨u, rfl⟩ := y
    refine KPc.mod_str (X := "{%s}") (X' := ⟨#[123, 37, 115, 125]⟩) (T := fun z => (PySem.Str.ofString "{" ++ z) ++ PySem.Str.ofString "}") (by decide +kernel) hz (meets_brace t u) fun t' k => ⟨S.tok _, Grow.refl _, by unfold Is; exact ⟨_, rfl⟩⟩
noncomputable def siteT (f nm : Str) (n : Int) : Str := ((((f ++ PySem.Str.ofString ":") ++ PySem.Str.ofString (toString n)) ++ PySem.Str.ofString "(") ++ nm) ++ PySem.Str.ofString ")"
theorem ev_modSite {e : Expr} {m : Nat} {p pos : Pos} {f nm : Str} {n : Int} (X : EvO c O k env ρ e (.tuple [.str f, .int n, .str nm])) (hf : f.length ≤ 1000000) (hn : nm.length ≤ 1000000) (h0 : 0 ≤ n) (h1 : n < 10 ^ 10) :
    EvO c O k env ρ (.BinOp (.Constant (.str "%s:%d(%s)") m p) .Mod e pos) (.str (siteT f nm n)) :=
  ev_bin ev_str X fun A s va vb R S ow x y => by
    unfold Is at x y
    obtain ⟨t, rfl⟩ := x
    obtain ⟨b, vs, m, rfl, nb, ho, r⟩ := y
    unfold IsAll at r
    obtain ⟨a1, r3, e1, i1, q⟩ := r
    unfold IsAll at q
    obtain ⟨a2, r4, rfl, i2, q⟩ := q
    unfold IsAll at q
    obtain ⟨a3, r5, rfl, i3, q⟩ := q
    unfold IsAll at q
    subst q
    unfold Is at i1 i2 i3
    obtain ⟨t1, rfl⟩ := i1
    obtain ⟨t2, rfl⟩ := i2
    obtain ⟨t3, rfl⟩ := i3
    have ev : vs = #[.str f t1, .int n t2, .str nm t3] := by rw [← Array.toArray_toList (xs := vs), e1]
    subst ev
    have ht : IsTup s.heap b #[.str f t1, .int n t2, .str nm t3] := ⟨_, ho, rfl, m, rfl⟩
    have eX : ("%s:%d(%s)" : Str) = ⟨#[37, 115, 58, 37, 100, 40, 37, 115, 41]⟩ := by decide +kernel
    rw [eX]
    exact KPt.bin_left (T := "str") (U := "tuple") (op := .Mod) (by decide) (typeIs_str s _ t) ht.typeIs PySem.F.fills_str_mod KPt.fills_tuple PySem.F.slot_str_mod
      (call_meets PySem.F.slot_str_mod (typeIs_str s _ t) PySem.F.entry_str_mod (PySem.F.args_str_mod_2 _ _) (meets_site t t1 t2 t3 b f nm n hf hn h0 h1) ⟨ht, fun t' k => ⟨(fun e => nomatch e), S.tok _, Grow.refl _, by unfold Is; exact ⟨_, rfl⟩⟩⟩)
end
end Mine
end
section
open PySem PySem.W PyProof.Rows PySem.Calls
set_option maxRecDepth 100000
set_option linter.unusedVariables false
namespace Mine
section
variable {c : Cx} {O : Addr → Prop} {k : Nat} {env : Env} {ρ : List (Str × D)} {A : Around} {s : Shared}
theorem sliceMade_post {x : Str} {t : Tok} {i j : Int} {ti tj : Tok} {Q : Value → Shared → Prop} (hx : x.length ≤ sizeLine) (h : ∀ t' k, Q (.str (Txt.slice x (some i) (some j)) t') { s with toks := k }) : (sliceMade x t (some (i, ti)) (some (j, tj)) none).post Q s := by
  have e : slicePicked x (some (i, ti)) (some (j, tj)) none = Builtin.Str.strSliceIndices (some i) (some j) 1 x.length := rfl
  unfold sliceMade
  unfold Txt.slice at h
  rw [e]
  have hl := Txt.slice_le x (some i) (some j)
  unfold Txt.slice at hl
  have c1 : ((none : Option (Int × Tok)).map (·.1)).getD 1 = (1 : Int) := rfl
  rw [c1]
  split
  · rename_i q
    rw [if_pos q] at h
    exact h t s.toks
  · rename_i q
    rw [if_neg q] at h hl
    exact ⟨Nat.le_trans hl hx, h _ _⟩
theorem ev_strSlice {v e1 e2 : Expr} {p pos : Pos} {x : Str} {i j : Int} (X : EvO c O k env ρ v (.str x)) (L : EvO c O k env ρ e1 (.int i)) (H : EvO c O k env ρ e2 (.int j)) (hx : x.length ≤ sizeLine)
    (ht : ∀ o r, letTemporaryGo v o r = pure () := by intro _ _; rfl) : EvO c O k env ρ (.Subscript v (.Slice (some e1) (some e2) none p) pos) (.str (Txt.slice x (some i) (some j))) := fun A s R S V => by
  refine wpAny_Subscript_str_slice (X.use R S V fun o s₁ S₁ g₁ i₁ => L.use R S₁ (V.grow g₁) fun l s₂ S₂ g₂ i₂ => H.use R S₂ ((V.grow g₁).grow g₂) fun u s₃ S₃ g₃ i₃ => ?_) ht
  unfold Is at i₁ i₂ i₃
  obtain ⟨t, rfl⟩ := i₁
  obtain ⟨ti, rfl⟩ := i₂
  obtain ⟨tj, rfl⟩ := i₃
  have gp := Grow.push s₃.heap { cls := .type "slice", data := .fields #[.int i ti, .int j tj, .none] }
  have S₄ := S₃.push { cls := .type "slice", data := .fields #[.int i ti, .int j tj, .none] } (g := s₃.gens) (d := s₃.drawn) (t := s₃.toks) (os := s₃.os) rfl rfl
  exact ⟨x, t, some (i, ti), some (j, tj), rfl, rfl, rfl, sliceMade_post hx fun t' k => ⟨S₄.tok _, ((g₁.trans g₂).trans g₃).trans gp, by unfold Is; exact ⟨_, rfl⟩⟩⟩
end
abbrev T3 := Str × Int × Str
noncomputable def t3D (t : T3) : D := .tuple [.str t.1, .int t.2.1, .str t.2.2]
noncomputable def stdS (t : T3) : Str :=
  if t.1 == "~" && t.2.1 == 0 then (if Txt.startswith t.2.2 "<" && Txt.endswith t.2.2 ">" then (PySem.Str.ofString "{" ++ Txt.slice t.2.2 (some 1) (some (-1))) ++ PySem.Str.ofString "}" else t.2.2)
  else siteT t.1 t.2.2 t.2.1
structure T3Ok (t : T3) : Prop where
  l1 : t.1.length ≤ 1000
  l2 : t.2.2.length ≤ 1000
  txt : TxtOk t.1
  lo : 0 ≤ t.2.1
  hi : t.2.1 < 10 ^ 10
theorem std_ok {c : Cx} (Fu : c.Full) {k : Nat} (t : T3) (ht : T3Ok t) : FnO c (k + 1) 28 [t3D t] (.str (stdS t)) := by
  have G := Fu.G
  refine fn_sx G.ok (def_func_std_string G) rfl fun X A st h₀ R x => ?_
  have x : Sx c (callEnvC (fdOf c.w.params 28) h₀.objs.size 28) ⟨h₀, X, fun _ => False, h₀⟩ [("func_name", .tuple [.str t.1, .int t.2.1, .str t.2.2])] [] st := x
  have cm : ∀ {O : Addr → Prop} {k : Nat}, CmO c O k .Eq (.tuple [.str t.1, .int t.2.1]) (.tuple [.str "~", .int 0]) (t.1 == "~" && t.2.1 == 0) := fun {O k} => by
    have h1 : D.ok 8 (.tuple [.str t.1, .int t.2.1]) = true := by
      unfold D.ok
      simp only [List.all_cons, List.all_nil, Bool.and_true, Bool.and_eq_true]
      exact ⟨ok_str ht.txt, by unfold D.ok; rfl⟩
    have := cm_eq (c := c) (O := O) (k := k) (a := .tuple [.str t.1, .int t.2.1]) (b := .tuple [.str "~", .int 0]) h1 (by decide +kernel)
    rw [show D.eqv (.tuple [.str t.1, .int t.2.1]) (.tuple [.str "~", .int 0]) = ((t.1, t.2.1) == (("~" : Str), (0 : Int))) from eqv_pairD (t.1, t.2.1) ("~", 0)] at this
    exact this
  refine sx_seq (sx_if (TrO.sx (tr_cmp (ev_2of3 (ev_name (by kernel_rfl) rfl) ev_int) (ev_tuple (evs_cons ev_str (evs_cons ev_int evs_nil))) cm)) R x (fun hq s2 x2 => ?_) fun hq s2 x2 => ?_)
  · refine sx_seq (sx_assign (d := .str t.2.2) (EvO.sx (ev_item_tuple (ev_name (by kernel_rfl) rfl) ev_int (by decide) (by decide) rfl rfl)) R x2 fun s3 x3 => ?_)
    refine sx_seq (sx_if (TrO.sx (tr_and (tr_ev (ev_startswith (ev_name (by kernel_rfl) rfl) ev_str _)) (fun _ => tr_ev (ev_endswith (ev_name (by kernel_rfl) rfl) ev_str _)))) R x3 (fun hq' s4 x4 => ?_) fun hq' s4 x4 => ?_)
    · have e : stdS t = (PySem.Str.ofString "{" ++ Txt.slice t.2.2 (some 1) (some (-1))) ++ PySem.Str.ofString "}" := by unfold stdS; rw [if_pos hq, if_pos hq']
      rw [e]
      refine wpAny_mono (sx_ret (EvO.sx (ev_modBrace (ev_strSlice (ev_name (by kernel_rfl) rfl) ev_int (ev_neg ev_int) (size_of ht.l2)) (by have := Txt.slice_le t.2.2 (some 1) (some (-1)); have := ht.l2; omega))) R x4) (fun fl s5 q => ?_) fun _ _ f => f
      obtain ⟨v, rfl, q⟩ := q
      exact ⟨v, rfl, q⟩
    · have e : stdS t = t.2.2 := by unfold stdS; rw [if_pos hq, if_neg (by rw [hq']; decide)]
      rw [e]
      refine wpAny_mono (sx_ret (EvO.sx (ev_name (by kernel_rfl) rfl)) R x4) (fun fl s5 q => ?_) fun _ _ f => f
      obtain ⟨v, rfl, q⟩ := q
      exact ⟨v, rfl, q⟩
  · have e : stdS t = siteT t.1 t.2.2 t.2.1 := by unfold stdS; rw [if_neg (by rw [hq]; decide)]
    rw [e]
    refine wpAny_mono (sx_ret (EvO.sx (ev_modSite (ev_name (by kernel_rfl) rfl) (by have := ht.l1; omega) (by have := ht.l2; omega) ht.lo ht.hi)) R x2) (fun fl s5 q => ?_) fun _ _ f => f
    obtain ⟨v, rfl, q⟩ := q
    exact ⟨v, rfl, q⟩
end Mine
end
section
open PySem PySem.W PyProof.Rows
set_option maxRecDepth 100000
set_option linter.unusedVariables false
namespace Mine
section
variable {c : Cx} {h₀ : Heap} {O : Addr → Prop} {k : Nat} {env : Env} {lv : Str → Option Value} {A : Around} {s₂ : Shared}
/-- the loop of a for statement, what is gone through being at hand -/
theorem for_rest {tgt : Expr} {body : List Stmt} {items : List D} {Q : Flow → Shared → Prop} {N W : Nat} {J : Nat → Heap → Prop} (P : Nat → (Str → Option Value) → Shared → Prop)
    (hh : A.handled = none) (F₂ : Fs c h₀ O env lv s₂) (hO : ∀ a, O a → a < N) (h0 : h₀.objs.size ≤ N) (j0 : J 0 s₂.heap) (wk : Wk c O tgt N W items J) (p0 : P 0 lv s₂)
    (turn : ∀ i d lv' s' v, items[i]? = some d → (∀ a, O a → Mut O N W a) → (∃ s₀, P i lv' s₀ ∧ Chg (fun a => a = W) s₀.heap s'.heap) → Fs c h₀ (AddO O W) env lv' s' → Is c (AddO O W) s'.heap d v →
      wpAny (model c.prog c.w) A (assign tgt env v) (fun _ s₂ => wpAny (model c.prog c.w) A (execs body env) (fun f s₃ => (f = .next ∨ f = .cont) ∧ ∃ lv₃, Fs c h₀ (AddO O W) env lv₃ s₃ ∧ P (i + 1) lv₃ s₃ ∧ Chg (Mut O N W) s'.heap s₃.heap) F0 s₂) F0 s')
    (last : ∀ lv' s', (∃ s₀, P items.length lv' s₀ ∧ Chg (fun a => a = W) s₀.heap s'.heap) → Fs c h₀ (AddO O W) env lv' s' → Q .next s') :
    codeAny (model c.prog c.w) A (.forLoop tgt (.ref W) body [] env) (fun r s' => match r with | .ok f => Q f s' | .error e => cameBackBy (model c.prog c.w) A env F0 e s') s₂ := by
  have hW := wk.new
  have F₂' := F₂.add (wk.live 0 _ j0)
  have hB : c.hB.objs.size ≤ W := Nat.le_trans F₂.base (Nat.le_trans h0 hW)
  have hmut : ∀ a, O a → Mut O N W a := fun a q => ⟨Nat.ne_of_lt (Nat.lt_of_lt_of_le (hO a q) hW), .inl q⟩
  have h₀W : h₀.objs.size ≤ W := Nat.le_trans h0 hW
  have up : ∀ a, AddO O W a → O a ∨ N ≤ a := fun a (q : AddO O W a) => q.imp id fun (e : a = W) => e ▸ hW
  have ext : ∀ {lv' s' h' tk}, Fs c h₀ (AddO O W) env lv' s' → Heap.ExtBut W s'.heap h' → s'.heap.objs.size ≤ h'.objs.size → Fs c h₀ (AddO O W) env lv' { s' with heap := h', toks := tk } ∧ Chg (fun a => a = W) s'.heap h' := fun {lv' s' h' tk} F' hx hz => by
    refine ⟨⟨F'.st.ext hB hx hz rfl rfl, F'.es, fun a q => Nat.lt_of_lt_of_le (F'.own a q) hz, F'.fr, F'.frm.ext fun b q o e => hx b o (fun z => ?_) e, ⟨Nat.le_trans F'.grow.1 hz, fun b o f e => hx b o (Nat.ne_of_lt (Nat.lt_of_lt_of_le (Heap.lt_size e) h₀W)) (F'.grow.2 b o f e)⟩, F'.above, F'.base⟩, ⟨hz, fun b o n f e => hx b o n e⟩⟩
    exact (hmut b (F₂.fr b q)).1 z
  refine codeAny_mono (codeAny_forLoop_any (R := fun r s' => match r with | .ok f => Q f s' | .error e => False) (fun m s' => ∃ i lv', i ≤ items.length ∧ m = items.length - i ∧ Fs c h₀ (AddO O W) env lv' s' ∧ P i lv' s' ∧ J i s'.heap) (fun m s' hI => ?_) items.length ⟨0, lv, Nat.zero_le _, rfl, F₂', p0, j0⟩) (fun r s' q => by cases r with | ok f => exact q | error e => exact q.elim)
  obtain ⟨i, lv', hi, rfl, F', p, j⟩ := hI
  have no : ∀ (e : Value) (s' : Shared), F0 e s' → notedBy (model c.prog c.w) A env (fun e s' => False) e s' := fun _ _ f => f.elim
  by_cases hlt : i < items.length
  · have hd : items[i]? = some items[i] := by simp [hlt]
    generalize items[i] = d at hd
    refine wpAny_mono (wk.draw (E := F0) (N' := fun _ => False) (Q := fun v s₁' => wpAny (model c.prog c.w) A (assign tgt env v) (fun _ s₂ => wpAny (model c.prog c.w) A (execs body env) (fun f s₃ => match f with
        | .next | .cont => ∃ m, m < items.length - i ∧ ∃ i' lv', i' ≤ items.length ∧ m = items.length - i' ∧ Fs c h₀ (AddO O W) env lv' s₃ ∧ P i' lv' s₃ ∧ J i' s₃.heap
        | .brk => Q .next s₃
        | .ret v => Q (.ret v) s₃) F0 s₂) F0 s₁') hh hd j up F'.own fun v h1 tk iv j1 hx hz => ?_) (fun r s₁ q => ?_) no
    · obtain ⟨F1, ch1⟩ := ext (tk := tk) F' hx hz
      refine wpAny_mono (turn i d lv' _ v hd hmut ⟨s', p, ch1⟩ F1 iv) (fun _ s₂ q => wpAny_mono q (fun f s₃ q => ?_) fun _ _ f => f) fun _ _ f => f
      obtain ⟨hf, lv₃, F3, p3, ch⟩ := q
      have fin : ∃ m, m < items.length - i ∧ ∃ i' lv', i' ≤ items.length ∧ m = items.length - i' ∧ Fs c h₀ (AddO O W) env lv' s₃ ∧ P i' lv' s₃ ∧ J i' s₃.heap :=
        ⟨items.length - (i + 1), by omega, i + 1, lv₃, hlt, rfl, F3, p3, wk.frame _ _ _ j1 fun b o hb f e => ch.2 b o (fun q => by
          rcases hb with ⟨nb, hb⟩ | hb
          · exact q.2.elim nb fun z => Nat.lt_irrefl _ (Nat.lt_of_lt_of_le hb z)
          · exact q.1 hb) f e⟩
      rcases hf with rfl | rfl
      · exact fin
      · exact fin
    · cases r with
      | none => exact q.elim
      | some v =>
        refine wpAny_mono q (fun _ s₁' q => wpAny_mono q (fun _ s₂ q => wpAny_mono q (fun f s₃ q => ?_) no) no) no
        cases f <;> exact q
  · have e : i = items.length := by omega
    subst e
    refine wpAny_mono (wk.over (E := F0) (Q := fun _ _ => False) (N' := fun s₁ => Q .next s₁) hh j fun h' tk hx hz => ?_) (fun r s₁ q => ?_) no
    · obtain ⟨F1, ch1⟩ := ext (tk := tk) F' hx hz
      exact last lv' _ ⟨s', p, ch1⟩ F1
    · cases r with
      | none => exact wpAny_execs_nil q
      | some v => exact q.elim
theorem kv_any {h : Heap} : ∀ (kvs : List (Str × Value)), IsKv c O h (kvs.map fun p => (p.1, .any fun v => v = p.2)) kvs
  | [] => .nil
  | p :: r => IsKv.cons (by unfold Is; rfl) (kv_any r)
end
end Mine
end
section
open PySem PySem.W PyProof.Rows PySem.Calls
set_option maxRecDepth 100000
set_option linter.unusedVariables false
set_option maxHeartbeats 4000000
namespace Mine
noncomputable def fifth : D → D
  | .tuple [_, _, _, _, a] => a
  | _ => .none
theorem isAll_mem {c : Cx} {O : Addr → Prop} {h : Heap} : ∀ {ds : List D} {vs : List Value}, IsAll c O h ds vs → ∀ v ∈ vs, ∃ d ∈ ds, Is c O h d v
  | [], vs, x, v, hv => by unfold IsAll at x; subst x; cases hv
  | d :: ds, vs, x, v, hv => by
    unfold IsAll at x
    obtain ⟨u, r, rfl, a, b⟩ := x
    rcases List.mem_cons.mp hv with rfl | hv
    · exact ⟨d, List.mem_cons_self, a⟩
    · obtain ⟨d', h1, h2⟩ := isAll_mem b v hv
      exact ⟨d', List.mem_cons_of_mem _ h1, h2⟩
theorem isAll_any {c : Cx} {O : Addr → Prop} {h : Heap} {P : Value → Prop} : ∀ (vs : List Value), (∀ v ∈ vs, P v) → IsAll c O h (vs.map fun _ => .any P) vs
  | [], _ => .nil
  | v :: r, hp => IsAll.cons (by unfold Is; exact hp v List.mem_cons_self) (isAll_any r fun u hu => hp u (List.mem_cons_of_mem _ hu))
theorem isKv_ndict {c : Cx} {O : Addr → Prop} {h : Heap} {l : List (Str × D)} {v : Value} (x : Is c O h (.ndict l) v) : ∃ a, v = .ref a ∧ ¬ O a ∧ 1 < a ∧ c.n ≤ a ∧ ∃ kvs ep, h.DictAt (strKind c.prog c.w) a kvs ep ∧ kvs.length = l.length := by
  unfold Is at x
  obtain ⟨a, kvs, ep, rfl, na, ho, r⟩ := x
  exact ⟨a, rfl, na.2, na.1.1, na.1.2, kvs, ep, ho, r.length⟩
theorem tabs_items (b : Books) : ((((booksN b).map (·.2)).filter fun _ => true).map fifth) = b.map fun p => .ndict (callersD p.2.2) := by
  rw [filter_tt]; unfold booksN; rw [List.map_map, List.map_map]; rfl
theorem spoilt_ok {c : Cx} (G : c.Good) {k : Nat} {A : Around} {s : Shared} {O : Addr → Prop} {b : Books} {cT wT : Tab} {v : Value} (hn : c.hB.objs.size ≤ c.n) (R : Room (k + 1) A) (S : St c s) (ow : Own O s.heap)
    (i0 : Is c O s.heap (runN b cT wT) v) (hb : BkOk 400 b) (hc : cT.length ≤ 400) (hw : wT.length ≤ 400) :
    wpAny (model c.prog c.w) A (call (.ref 189) [v]) (fun u s' => u = .none ∧ St c s' ∧ Chg (fun z => c.n ≤ z) s.heap s'.heap) F0 s := by
  refine (def_spoilt G).enters G.ok R S ow rfl fun s₁ env lv he R' F hbd hk => ?_
  have hns : c.n ≤ s.heap.objs.size := S.n
  have F1 : Fs c c.hB (FrameAddr env) env lv s₁ := ⟨F.st, F.es, fun a q => F.own a (.inr q), fun a q => q, F.frm, F.st.grow, fun a q => Nat.le_trans S.grow.1 (F.above a q), Nat.le_refl _⟩
  have upF : ∀ a, FrameAddr env a → Up O s.heap.objs.size a := fun a q => .inr (F.above a q)
  have B1 : Bd c (FrameAddr env) lv s₁.heap [("run", .tuple [.dict (booksN b), .ndict (tabD cT), .ndict (tabD wT)])] := fun x d e => by
    rw [List.lookup_cons] at e
    cases q : x == ("run" : Str) with
    | false => rw [q] at e; cases e
    | true =>
      rw [q] at e; cases e
      rw [beq_iff_eq.mp q]
      exact ⟨v, hbd _ _ (by simp), ((Is.up (Nat.le_refl _) _ _ i0).sub upF).grow F.grow⟩
  subst he
  have bl : b.length ≤ 400 := hb.1
  refine st_seq (wpAny_For (wpAny_BinOp ((EvO.as (d' := .list (b.map fun p => .ndict (callersD p.2.2))) (ev_listcomp (lc_name (cond := fun _ => true) (F := fifth) (it_values (ev_item_tuple (ev_name (by kernel_rfl) rfl) ev_int (by decide) (by decide) rfl rfl) _) (size_of (by unfold booksN; simp; omega)) (fun O' C d hd => if_nil) (fun O' C d hd _ => ?_))) (by rw [tabs_items])).use R' F1.st (F1.ok B1) fun v1 s2 S2 g2 i2 =>
    (ev_list (evs_cons (ev_item_tuple (ev_name (by kernel_rfl) rfl) ev_int (by decide) (by decide) rfl rfl) (evs_cons (ev_item_tuple (ev_name (by kernel_rfl) rfl) ev_int (by decide) (by decide) rfl rfl) evs_nil))).use R' S2 ((F1.ok B1).grow g2) fun v2 s3 S3 g3 i3 => ?_)))
  · obtain ⟨p, hp, rfl⟩ := List.mem_map.mp hd
    obtain ⟨p', hp', rfl⟩ := List.mem_map.mp hp
    exact ev_item_tuple (ds := [.int p'.2.1.1, .int p'.2.1.2.1, .int p'.2.1.2.2.1, .int p'.2.1.2.2.2, .ndict (callersD p'.2.2)]) (ev_name (by kernel_rfl) rfl) ev_int (by decide) (by decide) rfl rfl
  replace i2 := i2.grow g3
  unfold Is at i2 i3
  obtain ⟨l1, vs, n1, rfl, na1, ho1, r1⟩ := i2
  obtain ⟨l2, ws, n2, rfl, na2, ho2, r2⟩ := i3
  have z1 : vs.size = b.length := by rw [← Array.length_toList, r1.length]; simp
  have z2 : ws.size = 2 := by rw [← Array.length_toList, r2.length]; rfl
  refine P.add_list (show IsL _ _ _ _ from ho1) (show IsL _ _ _ _ from ho2) ?_ (by have := size_of (n := vs.size + ws.size) (by omega); omega)
  have rAll := IsAll.append r1 r2
  have gp := Grow.push s3.heap { cls := .type "list", data := .seq (vs ++ ws) }
  have S4 := S3.push { cls := .type "list", data := .seq (vs ++ ws) } (g := s3.gens) (d := s3.drawn) (t := s3.toks) (os := s3.os) rfl rfl
  have g13 : Grow s₁.heap s3.heap := g2.trans g3
  have g04 : Grow s.heap (s3.heap.push { cls := .type "list", data := .seq (vs ++ ws) }) := (F.grow.trans g13).trans gp
  have ho4 : (s3.heap.push { cls := .type "list", data := .seq (vs ++ ws) }).get? s3.heap.objs.size = some { cls := .type "list", data := .seq (vs ++ ws) } := Heap.get?_push_size _ rfl
  -- the tables
  have tab : ∀ x ∈ vs.toList ++ ws.toList, ∃ a, x = .ref a ∧ ¬ FrameAddr (callEnvC (fdOf c.w.params 189) s.heap.objs.size 189) a ∧ 1 < a ∧ c.n ≤ a ∧ ∃ kvs ep, s3.heap.DictAt (strKind c.prog c.w) a kvs ep ∧ kvs.length ≤ 400 := fun x hx => by
    obtain ⟨d, hd, i⟩ := isAll_mem rAll x hx
    obtain ⟨l, rfl, hl⟩ : ∃ l, d = .ndict l ∧ l.length ≤ 400 := by
      rcases List.mem_append.mp hd with hd | hd
      · obtain ⟨p, hp, rfl⟩ := List.mem_map.mp hd
        exact ⟨_, rfl, by unfold callersD; rw [List.length_map]; exact hb.2 p hp⟩
      · rcases List.mem_cons.mp hd with rfl | hd
        · exact ⟨_, rfl, by unfold tabD; rw [List.length_map]; exact hc⟩
        · rw [List.mem_singleton.mp hd]
          exact ⟨_, rfl, by unfold tabD; rw [List.length_map]; exact hw⟩
    obtain ⟨a, e, q0, q1, q2, kvs, ep, q3, q4⟩ := isKv_ndict i
    exact ⟨a, e, q0, q1, q2, kvs, ep, q3, by omega⟩
  generalize henv : callEnvC (fdOf c.w.params 189) s.heap.objs.size 189 = env at *
  let T : Addr → Prop := fun a => Value.ref a ∈ vs.toList ++ ws.toList
  have hT : ∀ a, T a → ¬ FrameAddr env a ∧ 1 < a ∧ c.n ≤ a ∧ ∃ kvs ep, s3.heap.DictAt (strKind c.prog c.w) a kvs ep ∧ kvs.length ≤ 400 := fun a ha => by
    obtain ⟨a', e, q⟩ := tab _ ha
    cases e; exact q
  have hTl : ∀ a, T a → a < s3.heap.objs.size := fun a ha => let ⟨_, _, _, _, _, q, _⟩ := hT a ha; q.lt_size
  have hFl : ∀ a, FrameAddr env a → a < s3.heap.objs.size := fun a q => Nat.lt_of_lt_of_le (F.own a (.inr q)) g13.1
  have hFn : ∀ a, FrameAddr env a → c.n ≤ a := fun a q => Nat.le_trans hns (F.above a q)
  generalize hs4 : ({ s3 with heap := s3.heap.push { cls := .type "list", data := .seq (vs ++ ws) } } : Shared) = s4 at *
  have e4 : s4.heap = s3.heap.push { cls := .type "list", data := .seq (vs ++ ws) } := by rw [← hs4]
  rw [← e4] at ho4 g04 gp
  have S4' : St c s4 := S4
  have F4 : Fs c c.hB (fun a => FrameAddr env a ∨ T a) env lv s4 := ⟨S4', F.es, fun a q => Nat.lt_of_lt_of_le (q.elim (hFl a) (hTl a)) gp.1, fun a q => .inl q, F.frm.grow (g13.trans gp), S4'.grow, fun a q => Nat.le_trans S.grow.1 (F.above a q), Nat.le_refl _⟩
  have i4 : Is c (fun a => FrameAddr env a ∨ T a) s4.heap (.list ((vs.toList ++ ws.toList).map fun _ => .any fun v => ∃ a, v = .ref a ∧ T a)) (.ref s3.heap.objs.size) := by
    unfold Is
    refine ⟨_, _, _, rfl, fun q => Nat.lt_irrefl _ (q.elim (hFl _) (hTl _)), ho4, ?_⟩
    rw [Array.toList_append]
    refine isAll_any _ fun u hu => ?_
    obtain ⟨a, rfl, _⟩ := tab u hu
    exact ⟨a, rfl, hu⟩
  have dchg : ∀ {P : Addr → Prop} {h h' : Heap} {a : Addr} {kvs ep}, h.DictAt (strKind c.prog c.w) a kvs ep → Chg P h h' → ¬ P a → h'.DictAt (strKind c.prog c.w) a kvs ep := fun x g hp => by
    obtain ⟨o, es, ho, hx, r⟩ := x
    exact ⟨o, es, g.2 _ o hp (not_frail_dict hx) ho, hx, r⟩
  refine wpAny_mono (it_listV (tgt := .Name "table" { line := 148, col := 8, endLine := 148, endCol := 13 }) (O := fun a => FrameAddr env a ∨ T a) S4' i4) (fun it s5 q => ?_) fun _ _ f => f.elim
  obtain ⟨S5, g5, N, W, J, rfl, hN, j0, wk⟩ := q
  have hW := wk.new
  have hnW : c.n ≤ W := Nat.le_trans hns (Nat.le_trans g04.1 (Nat.le_trans hN hW))
  refine for_rest (P := fun i lv' s' => (∀ a, T a → ∃ kvs ep, s'.heap.DictAt (strKind c.prog c.w) a kvs ep ∧ kvs.length ≤ 400 + i) ∧ Chg (fun z => c.n ≤ z) s.heap s'.heap) R'.1 (F4.go S5 g5) (fun a q => Nat.lt_of_lt_of_le (q.elim (hFl a) (hTl a)) (Nat.le_trans gp.1 hN)) (Nat.le_trans S4'.grow.1 hN) j0 wk ?_ ?_ ?_
  · refine ⟨fun a ha => ?_, (g04.trans g5).chg⟩
    obtain ⟨_, _, _, kvs, ep, q, hl⟩ := hT a ha
    exact ⟨kvs, ep, dchg (P := fun _ => False) q (gp.trans g5).chg id, hl⟩
  · rintro i d lv' s' v hd hmut ⟨s0, ⟨p1, p2⟩, ch⟩ F' iv
    have hi : i < ((vs.toList ++ ws.toList).map fun _ => D.any fun v => ∃ a, v = .ref a ∧ T a).length := Nat.lt_of_not_le fun hc => by rw [List.getElem?_eq_none hc] at hd; cases hd
    have hi' : i < 402 := by simp at hi; omega
    have ed : d = .any fun v => ∃ a, v = .ref a ∧ T a := by
      rw [List.getElem?_map, Option.map_eq_some_iff] at hd
      obtain ⟨_, _, e⟩ := hd; exact e.symm
    subst ed
    refine st_bind (ρ := []) (as_name' (by rw [← henv]; kernel_rfl)) R'.1 F' (fun x d e => by cases e) iv fun s6 lv6 F6 ch6 B6 _ => ?_
    obtain ⟨u, hu, iu⟩ := B6 "table" _ rfl
    unfold Is at iu
    obtain ⟨a, rfl, ha⟩ := iu
    obtain ⟨nF, q1, q2, _⟩ := hT a ha
    obtain ⟨kvs, ep, q3, q4⟩ := p1 a ha
    have naW : a ≠ W := (hmut a (.inr ha)).1
    have q6 : s6.heap.DictAt (strKind c.prog c.w) a kvs ep := dchg (dchg q3 ch naW) ch6 fun z => nF z.frame
    have hz : (kvs.map fun p => (p.1, D.any fun v => v = p.2)).length ≤ 1000 := by rw [List.length_map]; omega
    refine st_seq (st_setDict (EvO.gives (ρ := []) ev_int R' F6 (fun x d e => by cases e)) (ρ := []) ev_str (by rw [← henv]; kernel_rfl) R' F6 (fun x d e => by cases e) hu ⟨q1, kvs, ep, q6, kv_any kvs⟩ ⟨.inl (.inr ha), Nat.le_trans hn q2, nF⟩ hz fun s7 F7 ch7 W7 => wpAny_execs_nil ⟨.inl rfl, lv6, F7, ⟨fun a' ha' => ?_, ?_⟩, ?_⟩)
    · by_cases e : a' = a
      · subst e
        obtain ⟨_, kvs', ep', z1, z2⟩ := W7
        refine ⟨kvs', ep', z1, ?_⟩
        have := z2.length
        have := dput_length (kvs.map fun p => (p.1, D.any fun v => v = p.2)) "?" (.int 0)
        rw [List.length_map] at this
        omega
      · obtain ⟨nF', _, _, _⟩ := hT a' ha'
        obtain ⟨kvs', ep', z1, z2⟩ := p1 a' ha'
        exact ⟨kvs', ep', dchg (dchg (dchg z1 ch (hmut a' (.inr ha')).1) ch6 fun z => nF' z.frame) ch7 e, by omega⟩
    · exact ((p2.trans (ch.sub fun z e => e ▸ hnW)).trans (ch6.sub fun z q => hFn z q.frame)).trans (ch7.sub fun z e => e ▸ q2)
    · exact (ch6.sub fun z q => hmut z (.inl q.frame)).trans (ch7.sub fun z e => e ▸ hmut a (.inr ha))
  · rintro lv' s' ⟨s0, ⟨p1, p2⟩, ch⟩ F'
    exact wpAny_execs_nil ⟨rfl, F'.st, p2.trans (ch.sub fun z e => e ▸ hnW)⟩
end Mine
end
section
open PySem PySem.W PyProof.Rows PySem.Calls
set_option maxRecDepth 100000
set_option linter.unusedVariables false
namespace Mine
mutual
noncomputable def D.noN : D → Bool
  | .none => true
  | .bool _ => true
  | .int _ => true
  | .str _ => true
  | .list l => D.noNs l
  | .tuple l => D.noNs l
  | .dict l => D.noNkv l
  | .ndict _ => false
  | .any _ => true
  | .pile l => D.noNs l
noncomputable def D.noNs : List D → Bool
  | [] => true
  | d :: r => d.noN && D.noNs r
noncomputable def D.noNkv : List (Str × D) → Bool
  | [] => true
  | (_, d) :: r => d.noN && D.noNkv r
end
noncomputable def Cx.at (c : Cx) (n : Nat) : Cx := { c with n := n }
section
variable {c : Cx} {O : Addr → Prop} {h : Heap} {n : Nat}
mutual
theorem Is.rebase : ∀ (d : D) (v : Value), d.noN = true → Is c O h d v → Is (c.at n) O h d v
  | .none, v, _, x => by unfold Is at *; exact x
  | .bool b, v, _, x => by unfold Is at *; exact x
  | .int b, v, _, x => by unfold Is at *; exact x
  | .str b, v, _, x => by unfold Is at *; exact x
  | .any P, v, _, x => by unfold Is at *; exact x
  | .ndict l, v, q, x => by simp [D.noN] at q
  | .list ds, v, q, x => by
    unfold Is at *
    obtain ⟨a, vs, n, e, na, ho, r⟩ := x
    exact ⟨a, vs, n, e, na, ho, IsAll.rebase ds _ (by simpa [D.noN] using q) r⟩
  | .tuple ds, v, q, x => by
    unfold Is at *
    obtain ⟨a, vs, n, e, na, ho, r⟩ := x
    exact ⟨a, vs, n, e, na, ho, IsAll.rebase ds _ (by simpa [D.noN] using q) r⟩
  | .dict ds, v, q, x => by
    unfold Is at *
    obtain ⟨a, kvs, ep, e, na, ho, r⟩ := x
    exact ⟨a, kvs, ep, e, na, ho, IsKv.rebase ds _ (by simpa [D.noN] using q) r⟩
  | .pile ds, v, q, x => by
    unfold Is at *
    obtain ⟨a, d, o, vs, n, e, na, ho, hh, r⟩ := x
    exact ⟨a, d, o, vs, n, e, na, ho, hh, IsAll.rebase ds _ (by simpa [D.noN] using q) r⟩
theorem IsAll.rebase : ∀ (ds : List D) (vs : List Value), D.noNs ds = true → IsAll c O h ds vs → IsAll (c.at n) O h ds vs
  | [], vs, _, x => by unfold IsAll at *; exact x
  | d :: ds, vs, q, x => by
    unfold IsAll at *
    obtain ⟨v, r, e, a, b⟩ := x
    have q' : d.noN = true ∧ D.noNs ds = true := by simpa [D.noNs] using q
    exact ⟨v, r, e, Is.rebase d v q'.1 a, IsAll.rebase ds r q'.2 b⟩
theorem IsKv.rebase : ∀ (ds : List (Str × D)) (vs : List (Str × Value)), D.noNkv ds = true → IsKv c O h ds vs → IsKv (c.at n) O h ds vs
  | [], vs, _, x => by unfold IsKv at *; exact x
  | (k, d) :: ds, vs, q, x => by
    unfold IsKv at *
    obtain ⟨v, r, e, a, b⟩ := x
    have q' : d.noN = true ∧ D.noNkv ds = true := by simpa [D.noNkv] using q
    exact ⟨v, r, e, Is.rebase d v q'.1 a, IsKv.rebase ds r q'.2 b⟩
end
theorem St.rebase {s : Shared} (S : St c s) (hn : n ≤ s.heap.objs.size) : St (c.at n) s := ⟨S.low, hn, S.old, S.grow, S.bare, S.os, S.tabs⟩
theorem Cx.Full.rebase (Fu : c.Full) : (c.at n).Full := ⟨⟨⟨Fu.G.ok.inB, Fu.G.ok.top⟩, Fu.G.K⟩, ⟨Fu.SS.tab, Fu.SS.nd, Fu.SS.a41, Fu.SS.a102⟩, Fu.prog⟩
end
theorem noNs_all : ∀ {l : List D}, (∀ d ∈ l, d.noN = true) → D.noNs l = true
  | [], _ => rfl
  | d :: r, h => by simp [D.noNs, h d List.mem_cons_self, noNs_all (fun d hd => h d (List.mem_cons_of_mem _ hd))]
theorem noNkv_all : ∀ {l : List (Str × D)}, (∀ p ∈ l, p.2.noN = true) → D.noNkv l = true
  | [], _ => rfl
  | (k, d) :: r, h => by simp [D.noNkv, h (k, d) List.mem_cons_self, noNkv_all (fun d hd => h d (List.mem_cons_of_mem _ hd))]
theorem noN_lst (l : List Str) : (lst l).noN = true := by
  unfold lst; rw [D.noN]; exact noNs_all fun d hd => by unfold strsD at hd; obtain ⟨x, _, rfl⟩ := List.mem_map.mp hd; rfl
theorem noN_run (b : Books) (c w : Tab) : (runD b c w).noN = true := by
  have t : ∀ t : Tab, D.noNkv (tabD t) = true := fun t => noNkv_all fun p hp => by unfold tabD at hp; obtain ⟨x, _, rfl⟩ := List.mem_map.mp hp; rfl
  have bb : D.noNkv (booksD b) = true := noNkv_all fun p hp => by
    unfold booksD at hp
    obtain ⟨x, _, rfl⟩ := List.mem_map.mp hp
    have cc : D.noNkv (callersD x.2.2) = true := noNkv_all fun p hp => by unfold callersD at hp; obtain ⟨x, _, rfl⟩ := List.mem_map.mp hp; rfl
    unfold entryD; simp [D.noN, D.noNs, cc]
  unfold runD
  simp [D.noN, D.noNs, t, bb]
theorem noN_lists (a b : Tab) : (listsD a b).noN = true := by
  have t : ∀ t : Tab, D.noNs (t.map pairD) = true := fun t => noNs_all fun p hp => by obtain ⟨x, _, rfl⟩ := List.mem_map.mp hp; rfl
  unfold listsD
  simp [D.noN, D.noNs, t]
end Mine
end
section
open PySem PySem.W PyProof.Rows PySem.Calls
set_option maxRecDepth 100000
set_option linter.unusedVariables false
namespace Mine
theorem boot_strT : bootBuiltins "str" = some (.type "str") := rfl
section
variable {c : Cx} {O : Addr → Prop} {k : Nat} {env : Env} {ρ : List (Str × D)} {A : Around} {s : Shared}
/-- str(n) -/
theorem ev_strInt (G : c.Good) {p pos : Pos} {e : Expr} {n : Int} (X : EvO c O k env ρ e (.int n)) (hn : n.natAbs.log2 < 1920) (hx : env.kindOf "str" = some .globalImplicit)
    (hs : starEach [e] env = (false, eval e env) :: starEach [] env := by rfl) : EvO c O k env ρ (.Call (.Name "str" p) [e] [] pos) (.str (PySem.Str.ofString (toString n))) := by
  refine ev_call_type (T := "str") (fun ES => fnv_builtin G.ok ES (by rw [G.K]; kernel_rfl) boot_strT (by decide) hx) (evs_cons X evs_nil hs) (fun A s vs R S ow i => ?_) hs rfl (by rw [hs]; rfl)
  obtain ⟨v, rfl, i1⟩ := i.one
  have i' : Is c O s.heap (.int n) v := i1
  unfold Is at i'
  obtain ⟨t, rfl⟩ := i'
  exact P.str_of_int hn ⟨S.tok _, Grow.refl _, by unfold Is; exact ⟨_, rfl⟩⟩
/-- e and f, both True -/
theorem ev_and2 {e f : Expr} {pos : Pos} (X : EvO c O k env ρ e (.bool true)) (Y : EvO c O k env ρ f (.bool true)) : EvO c O k env ρ (.BoolOp .And [e, f] pos) (.bool true) := fun A s R S V => by
  refine wpAny_And2 (X.use R S V fun v s1 S1 g1 i => ?_)
  unfold Is at i
  subst i
  refine wpAny_truthy_bool ?_
  rw [if_pos rfl]
  exact Y.use R S1 (V.grow g1) fun v s2 S2 g2 i => ⟨S2, g1.trans g2, i⟩
end
noncomputable def drawnT (a : Int) : List T3 := [("~", 0, "<run>"), ("~", a, "<f>"), ("a.py", a, "f"), ("~", 0, "f>")]
noncomputable def wordsL (a : Int) : List Str := (drawnT a).map stdS
noncomputable def wordsR (a : Int) : List Str := ["{run}", if a = 0 then ("{f}" : Str) else (("~:" : Str) ++ PySem.Str.ofString (toString a)) ++ "(<f>)", (("a.py:" : Str) ++ PySem.Str.ofString (toString a)) ++ "(f)", "f>"]
theorem site_eq (f nm x y : Str) (a : Int) (h1 : f ++ PySem.Str.ofString ":" = x) (h2 : (PySem.Str.ofString "(" ++ nm) ++ PySem.Str.ofString ")" = y) : siteT f nm a = (x ++ PySem.Str.ofString (toString a)) ++ y := by
  unfold siteT
  rw [h1, ← h2, PySem.Str.append_assoc (x ++ _), PySem.Str.append_assoc (x ++ _)]
theorem words_eq (a : Int) : wordsL a = wordsR a := by
  have e1 : stdS ("~", 0, "<run>") = "{run}" := by decide +kernel
  have e4 : stdS ("~", 0, "f>") = "f>" := by decide +kernel
  have e3 : stdS ("a.py", a, "f") = (("a.py:" : Str) ++ PySem.Str.ofString (toString a)) ++ "(f)" := by
    have : stdS ("a.py", a, "f") = siteT "a.py" "f" a := by
      unfold stdS
      rw [if_neg (by simp; intro h; exact absurd h (by decide +kernel))]
    rw [this]; exact site_eq "a.py" "f" "a.py:" "(f)" a (by decide +kernel) (by decide +kernel)
  have e2 : stdS ("~", a, "<f>") = if a = 0 then ("{f}" : Str) else (("~:" : Str) ++ PySem.Str.ofString (toString a)) ++ "(<f>)" := by
    by_cases h : a = 0
    · subst h; rw [if_pos rfl]; decide +kernel
    · rw [if_neg h]
      have : stdS ("~", a, "<f>") = siteT "~" "<f>" a := by
        unfold stdS
        rw [if_neg (by simp [h])]
      rw [this]; exact site_eq "~" "<f>" "~:" "(<f>)" a (by decide +kernel) (by decide +kernel)
  unfold wordsL drawnT wordsR
  simp only [List.map_cons, List.map_nil, e1, e2, e3, e4]
end Mine
end
section
open PySem PySem.W PyProof.Rows PySem.Calls
set_option maxRecDepth 100000
set_option linter.unusedVariables false
set_option maxHeartbeats 4000000
namespace Mine
/-- all that agrees_ok asks -/
structure AgreeOk (b : Books) (c w come worked : Tab) (words : List Str) : Prop where
  ec : c = tableP come
  ew : w = tableP worked
  told : ToldOk (tableP come) (tableP worked) words
  books : BooksEq b (toldP (tableP come) (tableP worked) words)
  lc : come.length ≤ 900
  lw : worked.length ≤ 900
  tc : ∀ p ∈ come, TxtOk p.1
  tw : ∀ p ∈ worked, TxtOk p.1
  ttc : ∀ p ∈ tableP come, TxtOk p.1
  ttw : ∀ p ∈ tableP worked, TxtOk p.1
  ltc : (tableP come).length ≤ 900
  ltw : (tableP worked).length ≤ 900
  sc : sumTab (tableP come) = come.length
  sw : sumTab (tableP worked) = (worked.map (·.2)).sum
theorem agrees_ok' {c : Cx} (Fu : c.Full) {k : Nat} {b : Books} {cT wT come worked : Tab} {words : List Str} (h : AgreeOk b cT wT come worked words) : FnO c (k + 3) 177 [runD b cT wT, listsD come worked, lst words] (.bool true) := by
  rw [h.ec, h.ew]
  exact agrees_ok Fu b come worked words h.told h.books h.lc h.lw h.tc h.tw h.ttc h.ttw h.ltc h.ltw h.sc h.sw
noncomputable def takenP (ns : List Int) : List Int := (ns.take 6 ++ [3, 6, 18, 21, 14, 10]).take 6
/-- all that the law's run asks of plain lists -/
structure LawOk (words : List Str) (t : List Int) : Prop where
  len : words.length = 4
  tlen : t.length ≤ 6
  txt : ∀ w ∈ words, TxtOk w
  joins : Joins words 7
  piles : Piles words 11
  one : AgreeOk (runB words t) (runC words t) (runW words t) (listsP words t).come (listsP words t).worked words
  two : AgreeOk (runB words t.reverse) (runC words t.reverse) (runW words t.reverse) (listsP words t.reverse).come (listsP words t.reverse).worked words
  both : AgreeOk (bothP (runB words t) (runB words t.reverse) words) (addG iadd (runC words t) (runC words t.reverse)) (addG iadd (runW words t) (runW words t.reverse)) ((listsP words t).come ++ (listsP words t.reverse).come) ((listsP words t).worked ++ (listsP words t.reverse).worked) words
  bk1 : BkOk 400 (runB words t)
  bk2 : BkOk 400 (runB words t.reverse)
  bk3 : BkOk 400 (bothP (runB words t) (runB words t.reverse) words)
  lens : (runC words t).length ≤ 200 ∧ (runC words t.reverse).length ≤ 200 ∧ (runW words t).length ≤ 200 ∧ (runW words t.reverse).length ≤ 200
theorem runN_old (b : Books) (c w : Tab) : (runN b c w).old = runD b c w := by
  have hb : D.oldKv (booksN b) = booksD b := by
    rw [oldKv_map]; unfold booksN booksD; rw [List.map_map]
    exact List.map_congr_left fun p _ => by simp only [Function.comp, entryN_old]
  have ht : ∀ t : Tab, D.oldKv (tabD t) = tabD t := fun t => by rw [oldKv_map]; unfold tabD; rw [List.map_map]; exact List.map_congr_left fun p _ => rfl
  unfold runN runD
  simp only [D.old, D.olds, hb, ht]
theorem t3D_inj (a b : T3) (h : t3D a = t3D b) : a = b := by
  obtain ⟨a1, a2, a3⟩ := a
  obtain ⟨b1, b2, b3⟩ := b
  unfold t3D at h
  simp at h
  obtain ⟨h1, h2, h3⟩ := h
  subst h1 h2 h3; rfl
theorem law_ok {c : Cx} (Fu : c.Full) {k : Nat} {A : Around} {s : Shared} {O : Addr → Prop} {v : Value} (ns : List Int) (hz : ns.length ≤ 900) (H : LawOk (wordsL (ns.sum.fmod 100)) (takenP ns)) (R : Room (k + 6) A) (S : St c s) (ow : Own O s.heap) (i0 : Is c O s.heap (.list (intsD ns)) v) :
    wpAny (model c.prog c.w) A (call (.ref 194) [v]) (fun u s' => u = .bool true ∧ St c s') F0 s := by
  have G := Fu.G
  refine fn_enterX (ρ := [("script", .list (intsD ns))]) (ω := []) ((def_law G).enters G.ok) R S ow rfl (fun x d e => ?_) (fun w hw => by cases hw) .nil fun X s₁ hO R' x => ?_
  · rw [List.lookup_cons] at e
    cases q : x == ("script" : Str) with
    | true => rw [q] at e; cases e; rw [beq_iff_eq.mp q]; exact ⟨v, by simp, i0⟩
    | false => rw [q] at e; cases e
  have a0 : 0 ≤ ns.sum.fmod 100 := Int.fmod_nonneg_of_pos _ (by decide)
  have a1 : ns.sum.fmod 100 < 100 := Int.fmod_lt_of_pos _ (by decide)
  refine sx_seq (sx_assign (d := .int (ns.sum.fmod 100)) (EvO.sx (ev_mod (ev_sum G (ev_name (by kernel_rfl) rfl) (by kernel_rfl)) ev_int (by decide))) R' x fun s2 x2 => ?_)
  generalize ns.sum.fmod 100 = a at *
  refine sx_seq ?_
  refine @sx_assign c _ _ _ _ _ _ _ "drawn" _ _ _ (.list [.tuple [.str "~", .int 0, .str "<run>"], .tuple [.str "~", .int a, .str "<f>"], .tuple [.str "a.py", .int a, .str "f"], .tuple [.str "~", .int 0, .str "f>"]]) _ ?_ R' x2 ?_ (by kernel_rfl) (by kernel_rfl) (by kernel_rfl)
  · refine EvO.sx ?_
    refine ev_list ?_
    refine evs_cons (ev_tuple (evs_cons ev_str (evs_cons ev_int (evs_cons ev_str evs_nil)))) ?_
    refine evs_cons (ev_tuple (evs_cons ev_str (evs_cons (ev_name (by kernel_rfl) rfl) (evs_cons ev_str evs_nil)))) ?_
    refine evs_cons (ev_tuple (evs_cons ev_str (evs_cons (ev_name (by kernel_rfl) rfl) (evs_cons ev_str evs_nil)))) ?_
    exact evs_cons (ev_tuple (evs_cons ev_str (evs_cons ev_int (evs_cons ev_str evs_nil)))) evs_nil
  intro s3 x3
  have hT : ∀ t ∈ drawnT a, T3Ok t := fun t ht => by
    unfold drawnT at ht
    simp only [List.mem_cons, List.mem_nil_iff, or_false] at ht
    rcases ht with rfl | rfl | rfl | rfl
    · exact ⟨by decide +kernel, by decide +kernel, by unfold TxtOk; decide +kernel, by decide, by decide⟩
    · exact ⟨(by decide +kernel : ("~" : Str).length ≤ 1000), (by decide +kernel : ("<f>" : Str).length ≤ 1000), (by unfold TxtOk; decide +kernel : TxtOk "~"), a0, by show a < 10 ^ 10; omega⟩
    · exact ⟨(by decide +kernel : ("a.py" : Str).length ≤ 1000), (by decide +kernel : ("f" : Str).length ≤ 1000), (by unfold TxtOk; decide +kernel : TxtOk "a.py"), a0, by show a < 10 ^ 10; omega⟩
    · exact ⟨by decide +kernel, by decide +kernel, by unfold TxtOk; decide +kernel, by decide, by decide⟩
  have ed : ([.tuple [.str "~", .int 0, .str "<run>"], .tuple [.str "~", .int a, .str "<f>"], .tuple [.str "a.py", .int a, .str "f"], .tuple [.str "~", .int 0, .str "f>"]] : List D) = (drawnT a).map t3D := rfl
  rw [ed] at x3
  refine sx_seq ?_
  refine sx_compE (l := drawnT a) (enc := t3D) (fun _ => true) (fun t => .str (stdS t)) t3D_inj (it_list (ev_name (by kernel_rfl) rfl)) (by unfold drawnT; simp) (fun O' C t ht => if_nil) (fun O' C t ht _ => ev_callD G (def_func_std_string G) (evs_cons (ev_name (by kernel_rfl) rfl) evs_nil) (std_ok Fu t (hT t ht)) (by rw [G.K]; kernel_rfl) (by kernel_rfl)) R' x3 fun s4 x4 => ?_
  have ew : D.list (((drawnT a).filter fun _ => true).map fun t => .str (stdS t)) = lst (wordsL a) := by
    rw [filter_tt]; unfold lst strsD wordsL; rw [List.map_map]; rfl
  rw [ew] at x4
  refine sx_seq ?_
  refine sx_if (q := false) ?_ R' x4 (fun hq => nomatch hq) fun _ s5 x5 => wpAny_execs_nil ?_
  · refine TrO.sx (tr_cmp (b := lst (wordsR a)) (ev_name (by kernel_rfl) rfl) ?_ ?_)
    · have hl : (PySem.Str.ofString (toString a)).length ≤ 10 := toString_length_le a0 (by decide) (by omega)
      have hlog : a.natAbs.log2 < 1920 := shown (N := 2 ^ 1920) (by omega) (by omega) (Int.le_refl _)
      have cmi : ∀ {O : Addr → Prop} {k : Nat}, CmO c O k .Eq (.int a) (.int 0) (a == 0) := fun {O k} => by
        have := cm_eq (c := c) (O := O) (k := k) (a := .int a) (b := .int 0) (by unfold D.ok; rfl) (by unfold D.ok; rfl)
        rwa [eqv_int] at this
      have sz : ∀ x y z : Str, x.length ≤ 10 → y.length ≤ 10 → z.length ≤ 10 → x.length + y.length ≤ sizeLine ∧ (x ++ y).length + z.length ≤ sizeLine := fun x y z h1 h2 h3 => by
        rw [PySem.Str.length_append]
        exact ⟨size_of (by omega), size_of (by omega)⟩
      refine EvO.as (d := .list [.str "{run}", .str (if a = 0 then ("{f}" : Str) else (("~:" : Str) ++ PySem.Str.ofString (toString a)) ++ "(<f>)"), .str ((("a.py:" : Str) ++ PySem.Str.ofString (toString a)) ++ "(f)"), .str "f>"]) (ev_list (evs_cons ev_str (evs_cons ?_ (evs_cons ?_ (evs_cons ev_str evs_nil))))) rfl
      · refine ev_ife (q := (a == 0)) (tr_cmp (ev_name (by kernel_rfl) rfl) ev_int cmi) (fun hq => ?_) (fun hq => ?_)
        · rw [if_pos (beq_iff_eq.mp hq)]; exact ev_str
        · rw [if_neg (fun e => by rw [e] at hq; cases hq)]
          exact ev_addStr (ev_addStr ev_str (ev_strInt G (ev_name (by kernel_rfl) rfl) hlog (by kernel_rfl)) (sz "~:" _ "(<f>)" (by decide +kernel) hl (by decide +kernel)).1) ev_str (sz "~:" _ "(<f>)" (by decide +kernel) hl (by decide +kernel)).2
      · exact ev_addStr (ev_addStr ev_str (ev_strInt G (ev_name (by kernel_rfl) rfl) hlog (by kernel_rfl)) (sz "a.py:" _ "(f)" (by decide +kernel) hl (by decide +kernel)).1) ev_str (sz "a.py:" _ "(f)" (by decide +kernel) hl (by decide +kernel)).2
    · have := cm_ne (c := c) (O := OX X []) (k := k + 5) (a := lst (wordsL a)) (b := lst (wordsR a)) (ok_lst H.txt) (by rw [← words_eq]; exact ok_lst H.txt)
      rw [eqv_lst, words_eq, beq_self_eq_true] at this
      rw [words_eq]
      exact this
  have x5' := x5.keep (ρ' := [("spelled", lst (wordsL a)), ("script", .list (intsD ns))]) ⟨rfl, rfl, trivial⟩
  generalize wordsL a = W at *
  refine sx_seq ?_
  have et : D.list (cut (cut (intsD ns) none (some 6) ++ [.int 3, .int 6, .int 18, .int 21, .int 14, .int 10]) none (some 6)) = .list (intsD (takenP ns)) := by
    have e6 : (6 : Int) = ((6 : Nat) : Int) := rfl
    rw [e6, cut_to, cut_to]
    unfold takenP intsD
    rw [List.map_take, List.map_append, List.map_take]; rfl
  refine sx_assign (d := .list (intsD (takenP ns))) (EvO.sx (EvO.as (ev_slice (a := none) (b := some 6) (ev_addList (ev_slice (a := none) (b := some 6) (ev_name (by kernel_rfl) rfl) trivial ev_int (size_of (by rw [intsD_length]; omega))) (ev_list (evs_cons ev_int (evs_cons ev_int (evs_cons ev_int (evs_cons ev_int (evs_cons ev_int (evs_cons ev_int evs_nil))))))) ?_) trivial ev_int ?_) et)) R' x5' fun s6 x6 => ?_
  · refine size_of ?_
    have e6 : (6 : Int) = ((6 : Nat) : Int) := rfl
    rw [e6, cut_to, List.length_take, intsD_length]; simp; omega
  · refine size_of ?_
    have e6 : (6 : Int) = ((6 : Nat) : Int) := rfl
    rw [e6, cut_to, List.length_append, List.length_take, intsD_length]; simp; omega
  generalize takenP ns = t at *
  have hW4 : 4 ≤ W.length := by rw [H.len]; exact Nat.le_refl _
  have hW9 : W.length ≤ 900 := by rw [H.len]; decide
  have ht := H.tlen
  have htr : t.reverse.length ≤ 6 := by rw [List.length_reverse]; exact ht
  have er : D.list (intsD t).reverse = .list (intsD t.reverse) := by unfold intsD; rw [List.map_reverse]
  have hj : ∀ l : List Int, l.length ≤ 6 → Joins W (l.length + 1) := fun l hl y hy hs => H.joins y (by omega) hs
  refine sx_seq ?_
  refine sx_unpackS (xs := ["ahead", "back"]) (ds := [runD (runB W t) (runC W t) (runW W t), runD (runB W t.reverse) (runC W t.reverse) (runW W t.reverse)]) (EvO.sx (ev_tuple (evs_cons (ev_callD G (def_run G) (evs_cons (ev_name (by kernel_rfl) rfl) (evs_cons (ev_name (by kernel_rfl) rfl) evs_nil)) (run_ok Fu t W hW4 hW9 (by omega) H.txt H.piles) (by rw [G.K]; kernel_rfl) (by kernel_rfl))
    (evs_cons (ev_callD G (def_run G) (evs_cons (EvO.as (ev_slice_rev (ev_name (by kernel_rfl) rfl) (ev_neg ev_int) (size_of (by rw [intsD_length]; omega))) er) (evs_cons (ev_name (by kernel_rfl) rfl) evs_nil)) (run_ok Fu t.reverse W hW4 hW9 (by omega) H.txt H.piles) (by rw [G.K]; kernel_rfl) (by kernel_rfl)) evs_nil)))) R' x6 rfl fun s7 x7 => ?_
  refine sx_seq ?_
  refine sx_unpackS (xs := ["plain", "mirror"]) (ds := [listsD (listsP W t).come (listsP W t).worked, listsD (listsP W t.reverse).come (listsP W t.reverse).worked]) (EvO.sx (ev_tuple (evs_cons (ev_callD G (def_lists G) (evs_cons (ev_name (by kernel_rfl) rfl) (evs_cons (ev_name (by kernel_rfl) rfl) evs_nil)) (lists_ok G t W hW4 hW9 (by omega) (hj t ht)) (by rw [G.K]; kernel_rfl) (by kernel_rfl))
    (evs_cons (ev_callD G (def_lists G) (evs_cons (EvO.as (ev_slice_rev (ev_name (by kernel_rfl) rfl) (ev_neg ev_int) (size_of (by rw [intsD_length]; omega))) er) (evs_cons (ev_name (by kernel_rfl) rfl) evs_nil)) (lists_ok G t.reverse W hW4 hW9 (by omega) (hj t.reverse htr)) (by rw [G.K]; kernel_rfl) (by kernel_rfl)) evs_nil)))) R' x7 rfl fun s8 x8 => ?_
  have x9 := x8.keep (ρ' := [("ahead", runD (runB W t) (runC W t) (runW W t)), ("back", runD (runB W t.reverse) (runC W t.reverse) (runW W t.reverse)), ("plain", listsD (listsP W t).come (listsP W t).worked), ("mirror", listsD (listsP W t.reverse).come (listsP W t.reverse).worked), ("spelled", lst W)]) ⟨rfl, rfl, rfl, rfl, rfl, trivial⟩
  obtain ⟨lv, F, B, _⟩ := id x9.ex
  clear x9 x8 x7 x6 x5 x5' x4 x3 x2 x
  generalize hn8 : s8.heap.objs.size = n at *
  generalize henv : callEnvC (fdOf c.w.params 194) s.heap.objs.size 194 = env at *
  have Fu' : (c.at n).Full := Fu.rebase
  have G' := Fu'.G
  have F8 : Fs (c.at n) c.hB (OX X []) env lv s8 := ⟨F.st.rebase (Nat.le_of_eq hn8.symm), ⟨F.es.kind, F.es.glob, F.es.bi, F.es.low, F.es.apart, F.es.above⟩, F.own, F.fr, F.frm, F.grow, F.above, F.base⟩
  have hfr : ∀ a, FrameAddr env a → a < n := fun a q => hn8 ▸ F.own a (F.fr a q)
  have B8 : Bd (c.at n) (OX X []) lv s8.heap [("ahead", runD (runB W t) (runC W t) (runW W t)), ("back", runD (runB W t.reverse) (runC W t.reverse) (runW W t.reverse)), ("plain", listsD (listsP W t).come (listsP W t).worked), ("mirror", listsD (listsP W t.reverse).come (listsP W t.reverse).worked), ("spelled", lst W)] := fun x d e => by
    obtain ⟨v, h1, h2⟩ := B x d e
    refine ⟨v, h1, Is.rebase d v ?_ h2⟩
    have := lookup_mem e
    simp only [List.mem_cons, List.mem_nil_iff, or_false, Prod.mk.injEq] at this
    rcases this with ⟨_, rfl⟩ | ⟨_, rfl⟩ | ⟨_, rfl⟩ | ⟨_, rfl⟩ | ⟨_, rfl⟩
    · exact noN_run _ _ _
    · exact noN_run _ _ _
    · exact noN_lists _ _
    · exact noN_lists _ _
    · exact noN_lst _
  have R'' : Room (k + 5) (A.deeper env) := R'
  obtain ⟨l1, l2, l3, l4⟩ := H.lens
  show wpAny (model (c.at n).prog (c.at n).w) _ _ _ _ _
  refine st_seq ?_
  refine st_assign (c := c.at n) (d := runN (bothP (runB W t) (runB W t.reverse) W) (addG iadd (runC W t) (runC W t.reverse)) (addG iadd (runW W t) (runW W t.reverse))) (ev_callD G' (def_both G') (evs_cons (ev_name (by rw [← henv]; kernel_rfl) rfl) (evs_cons (ev_name (by rw [← henv]; kernel_rfl) rfl) (evs_cons (ev_name (by rw [← henv]; kernel_rfl) rfl) evs_nil)))
    (both_ok Fu' _ _ _ _ _ _ W hW9 H.bk1 H.bk2 (by omega) (by omega) (by omega) (by omega)) (by rw [G'.K]; kernel_rfl) (by rw [← henv]; kernel_rfl)) (by rw [← henv]; kernel_rfl) (by rw [← henv]; exact of_decide_eq_true (by kernel_rfl)) R'' F8 B8 fun s9 lv9 v9 F9 ch9 B9 hlv hv9 i9 => ?_
  have lists2 : ∀ {O : Addr → Prop} {ρ : List (Str × D)} (e1 e2 : Expr) (p : Pos) (c1 c2 : Tab), c1.length + c2.length ≤ 900 → EvO (c.at n) O (k + 5) env ρ e1 (.list (c1.map pairD)) → EvO (c.at n) O (k + 5) env ρ e2 (.list (c2.map pairD)) → EvO (c.at n) O (k + 5) env ρ (.BinOp e1 .Add e2 p) (.list ((c1 ++ c2).map pairD)) := fun e1 e2 p c1 c2 hl X Y =>
    EvO.as (ev_addList X Y (size_of (by rw [List.length_map, List.length_map]; omega))) (by rw [List.map_append])
  have lc := H.both.lc
  have lw := H.both.lw
  rw [List.length_append] at lc lw
  refine st_seq ?_
  refine st_if (c := c.at n) (b := false) (tr_not (b := true) (tr_ev (ev_callD G' (def_agrees G') (evs_cons (EvO.old' (ev_name (by rw [← henv]; kernel_rfl) rfl) (runN_old _ _ _)) (evs_cons (ev_tuple (ds := [.list (((listsP W t).come ++ (listsP W t.reverse).come).map pairD), .list (((listsP W t).worked ++ (listsP W t.reverse).worked).map pairD)]) (evs_cons (lists2 _ _ _ _ _ lc (ev_item_tuple (ev_name (by rw [← henv]; kernel_rfl) rfl) ev_int (by decide) (by decide) rfl rfl) (ev_item_tuple (ev_name (by rw [← henv]; kernel_rfl) rfl) ev_int (by decide) (by decide) rfl rfl))
    (evs_cons (lists2 _ _ _ _ _ lw (ev_item_tuple (ev_name (by rw [← henv]; kernel_rfl) rfl) ev_int (by decide) (by decide) rfl rfl) (ev_item_tuple (ev_name (by rw [← henv]; kernel_rfl) rfl) ev_int (by decide) (by decide) rfl rfl)) evs_nil))) (evs_cons (ev_name (by rw [← henv]; kernel_rfl) rfl) evs_nil))) (agrees_ok' Fu' H.both) (by rw [G'.K]; kernel_rfl) (by rw [← henv]; kernel_rfl)))) R'' F9 B9 (fun hq => nomatch hq) fun _ s10 F10 g10 => wpAny_execs_nil ?_
  refine st_seq ?_
  refine wpAny_Expr (Q := _) ?_ (by rw [← henv]; kernel_rfl) rfl
  refine (show wpAny _ _ (do callWith _ (← eval (.Name "_law_spoilt" _) env) [] (backTo _ (starEach [.Name "total" _] env)) []) _ _ _ from ?_)
  refine wpAny_bind (fnv_global G'.ok F10.es (v := .ref 189) (by rw [G'.K]; kernel_rfl) (by rw [← henv]; kernel_rfl) (by decide) _ s10 _ _ F10.st ?_)
  refine PySem.Calls.callWith_function (o := objOf c.w.params 189) (fd := fdOf c.w.params 189) (PySem.Calls.evalArgs_plain (Calls.spliced_cons (load_name F10 (by rw [← henv]; kernel_rfl) hv9 (Calls.spliced_nil ⟨⟨inK_all G' F10.st _ _ (by rw [G'.K]; kernel_rfl), by kernel_rfl⟩, ?_⟩))))
  have hBn : c.hB.objs.size ≤ n := hn8 ▸ F.grow.1
  refine wpAny_mono (spoilt_ok G' (O := OX X []) hBn R'' F10.st F10.own (i9.grow g10) H.bk3 ?_ ?_) (fun u s11 q => ?_) fun _ _ f => f
  · have := addG_length iadd (runC W t) (runC W t.reverse); omega
  · have := addG_length iadd (runW W t) (runW W t.reverse); omega
  obtain ⟨rfl, S11, ch11⟩ := q
  have chA : Chg (fun a => FrameAddr env a ∨ n ≤ a) s8.heap s11.heap := ((ch9.sub fun a q => .inl q.frame).trans g10.chg).trans (ch11.sub fun a q => .inr q)
  have F11 : Fs (c.at n) c.hB (OX X []) env lv9 s11 := by
    refine ⟨S11, F10.es, fun a q => Nat.lt_of_lt_of_le (F10.own a q) ch11.1, F10.fr, F10.frm.chg ch11 (fun a q z => Nat.lt_irrefl _ (Nat.lt_of_lt_of_le (hfr a q) z)), S11.grow, F10.above, F10.base⟩
  have B11 : Bd (c.at n) (OX X []) lv9 s11.heap [("ahead", runD (runB W t) (runC W t) (runW W t)), ("back", runD (runB W t.reverse) (runC W t.reverse) (runW W t.reverse)), ("plain", listsD (listsP W t).come (listsP W t).worked), ("mirror", listsD (listsP W t.reverse).come (listsP W t.reverse).worked), ("spelled", lst W)] := fun x d e => by
    obtain ⟨v, h1, h2⟩ := B8 x d e
    have hx : x ≠ "total" := fun z => by subst z; cases e
    refine ⟨v, (hlv x hx).trans h1, (((Is.up (N := n) (Nat.le_of_eq hn8) _ _ h2).chg (chA.sub fun a q => q.imp (fun q => F.fr a q) id)).sub fun a q => .inl q)⟩
  refine st_seq ?_
  refine st_return (c := c.at n) (ev_and2 (ev_callD G' (def_agrees G') (evs_cons (ev_name (by rw [← henv]; kernel_rfl) rfl) (evs_cons (ev_name (by rw [← henv]; kernel_rfl) rfl) (evs_cons (ev_name (by rw [← henv]; kernel_rfl) rfl) evs_nil))) (agrees_ok' Fu' H.one) (by rw [G'.K]; kernel_rfl) (by rw [← henv]; kernel_rfl))
    (ev_callD G' (def_agrees G') (evs_cons (ev_name (by rw [← henv]; kernel_rfl) rfl) (evs_cons (ev_name (by rw [← henv]; kernel_rfl) rfl) (evs_cons (ev_name (by rw [← henv]; kernel_rfl) rfl) evs_nil))) (agrees_ok' Fu' H.two) (by rw [G'.K]; kernel_rfl) (by rw [← henv]; kernel_rfl))) R'' F11 B11 fun v s12 S12 g12 i12 => ?_
  unfold Is at i12
  exact ⟨i12, ⟨S12.low, Nat.le_trans (hn8 ▸ F.st.n) S12.n, S12.old, S12.grow, S12.bare, S12.os, S12.tabs⟩⟩
end Mine
end
section
open PySem
set_option linter.unusedVariables false
namespace Mine
/-! sums -/
noncomputable def S1 {α : Type} (f : α → Int) : List α → Int
  | [] => 0
  | a :: l => f a + S1 f l
section
variable {α β : Type}
theorem S1_append (f : α → Int) : ∀ a b : List α, S1 f (a ++ b) = S1 f a + S1 f b
  | [], b => by simp [S1]
  | x :: a, b => by simp only [List.cons_append, S1, S1_append f a b]; omega
theorem S1_congr {f g : α → Int} : ∀ {l : List α}, (∀ a ∈ l, f a = g a) → S1 f l = S1 g l
  | [], _ => rfl
  | a :: l, h => by simp only [S1]; rw [h a List.mem_cons_self, S1_congr fun b hb => h b (List.mem_cons_of_mem _ hb)]
theorem S1_map (f : β → Int) (g : α → β) : ∀ l : List α, S1 f (l.map g) = S1 (fun a => f (g a)) l
  | [] => rfl
  | a :: l => by simp only [List.map_cons, S1, S1_map f g l]
theorem S1_filter (f : α → Int) (p : α → Bool) : ∀ l : List α, S1 f (l.filter p) = S1 (fun a => if p a then f a else 0) l
  | [] => rfl
  | a :: l => by
    rw [List.filter_cons]
    cases h : p a with
    | true => simp only [if_true, S1, h, S1_filter f p l]
    | false => simp only [Bool.false_eq_true, if_false, S1, h, S1_filter f p l]; omega
theorem S1_zero : ∀ {l : List α} {f : α → Int}, (∀ a ∈ l, f a = 0) → S1 f l = 0
  | [], _, _ => rfl
  | a :: l, f, h => by simp only [S1]; rw [h a List.mem_cons_self, S1_zero fun b hb => h b (List.mem_cons_of_mem _ hb)]; rfl
theorem S1_add (f g : α → Int) : ∀ l : List α, S1 (fun a => f a + g a) l = S1 f l + S1 g l
  | [] => rfl
  | a :: l => by simp only [S1, S1_add f g l]; omega
theorem sum_S1 (f : α → Int) : ∀ l : List α, (l.map f).sum = S1 f l
  | [] => rfl
  | a :: l => by rw [List.map_cons, List.sum_cons, sum_S1 f l]; rfl
theorem S1_one : ∀ {l : List α} {f : α → Int} {x : α}, l.Nodup → x ∈ l → (∀ a ∈ l, a ≠ x → f a = 0) → S1 f l = f x
  | a :: l, f, x, hn, hx, h => by
    rw [List.nodup_cons] at hn
    simp only [S1]
    rcases List.mem_cons.mp hx with rfl | hx
    · rw [S1_zero fun b hb => h b (List.mem_cons_of_mem _ hb) fun e => hn.1 (e ▸ hb)]; omega
    · rw [h a List.mem_cons_self fun e => hn.1 (e ▸ hx), S1_one hn.2 hx fun b hb => h b (List.mem_cons_of_mem _ hb)]; omega
end
/-! keys in the order of their coming -/
noncomputable def kstep (K : List Str) (x : Str) : List Str := if x ∈ K then K else K ++ [x]
noncomputable def kfold (K l : List Str) : List Str := l.foldl kstep K
theorem kfold_append (K a b : List Str) : kfold K (a ++ b) = kfold (kfold K a) b := by unfold kfold; rw [List.foldl_append]
theorem kstep_mem {K : List Str} {x y : Str} : y ∈ kstep K x ↔ y ∈ K ∨ y = x := by
  unfold kstep
  split
  · rename_i h
    exact ⟨.inl, fun q => q.elim id fun e => e ▸ h⟩
  · simp
theorem kfold_mem {l : List Str} : ∀ {K : List Str} {y : Str}, y ∈ kfold K l ↔ y ∈ K ∨ y ∈ l := by
  induction l with
  | nil => intro K y; simp [kfold]
  | cons x l ih =>
    intro K y
    show y ∈ kfold (kstep K x) l ↔ _
    rw [ih, kstep_mem, List.mem_cons]
    constructor
    · rintro ((h | h) | h)
      · exact .inl h
      · exact .inr (.inl h)
      · exact .inr (.inr h)
    · rintro (h | h | h)
      · exact .inl (.inl h)
      · exact .inl (.inr h)
      · exact .inr h
theorem kstep_nodup {K : List Str} {x : Str} (h : K.Nodup) : (kstep K x).Nodup := by
  unfold kstep
  split
  · exact h
  · rename_i q
    rw [List.nodup_append]
    exact ⟨h, by simp, fun a ha b hb e => q (by rw [List.mem_singleton.mp hb] at e; exact e ▸ ha)⟩
theorem kfold_nodup {l : List Str} : ∀ {K : List Str}, K.Nodup → (kfold K l).Nodup := by
  induction l with
  | nil => exact fun h => h
  | cons x l ih => exact fun h => ih (kstep_nodup h)
theorem kfold_kfold (K l : List Str) : kfold K (kfold [] l) = kfold K l := by
  have key : ∀ (r : List Str) (l : List Str), r.reverse = l → kfold K (kfold [] l) = kfold K l := by
    intro r
    induction r with
    | nil => intro l e; subst e; rfl
    | cons x r ih =>
      intro l e
      rw [List.reverse_cons] at e
      subst e
      have h := ih _ rfl
      rw [kfold_append, kfold_append]
      show kfold K (kstep (kfold [] r.reverse) x) = kstep (kfold K r.reverse) x
      unfold kstep
      split
      · rename_i q
        rw [h, if_pos (kfold_mem.mpr (.inr ((kfold_mem.mp q).resolve_left (by simp))))]
      · rw [kfold_append, h]; rfl
  exact key l.reverse l (List.reverse_reverse l)
/-! the table of a list of pairs -/
noncomputable def sAt (l : Tab) (x : Str) : Int := S1 (fun p => if p.1 = x then p.2 else 0) l
noncomputable def tabK (l : Tab) : Tab := (kfold [] (l.map (·.1))).map fun x => (x, sAt l x)
theorem sAt_append (a b : Tab) (x : Str) : sAt (a ++ b) x = sAt a x + sAt b x := S1_append _ a b
theorem sAt_none {l : Tab} {x : Str} (h : x ∉ l.map (·.1)) : sAt l x = 0 := S1_zero fun p hp => if_neg fun e => h (List.mem_map.mpr ⟨p, hp, e⟩)
theorem tabK_keys (l : Tab) : (tabK l).map (·.1) = kfold [] (l.map (·.1)) := by
  unfold tabK; rw [List.map_map]
  exact (List.map_congr_left fun x _ => rfl).trans (List.map_id _)
theorem sAt_tabK (l : Tab) (x : Str) : sAt (tabK l) x = sAt l x := by
  have hn : (kfold [] (l.map (·.1))).Nodup := kfold_nodup .nil
  by_cases hx : x ∈ l.map (·.1)
  · have hx' : x ∈ kfold [] (l.map (·.1)) := kfold_mem.mpr (.inr hx)
    show S1 _ (tabK l) = _
    unfold tabK
    rw [S1_map]
    rw [S1_one hn hx' fun a _ ha => if_neg ha]
    exact if_pos rfl
  · rw [sAt_none hx, sAt_none]
    rw [tabK_keys]
    exact fun q => hx ((kfold_mem.mp q).resolve_left (by simp))
theorem dget_map_keys {α : Type} (f : Str → α) : ∀ (K : List Str) (x : Str), dget (K.map fun y => (y, f y)) x = if x ∈ K then some (f x) else none
  | [], x => rfl
  | y :: K, x => by
    unfold dget
    rw [List.map_cons, List.find?_cons]
    by_cases h : y = x
    · subst h; simp
    · have := dget_map_keys f K x
      unfold dget at this
      have h' : ¬ x = y := fun e => h e.symm
      simp only [h, decide_false, List.mem_cons, h', false_or]
      exact this
theorem dput_map_keys {α : Type} (f : Str → α) (K : List Str) (x : Str) (v : α) : dput (K.map fun y => (y, f y)) x v = (kstep K x).map fun y => (y, if y = x then v else f y) := by
  unfold dput kstep
  have e : ((K.map fun y => (y, f y)).any fun kv => decide (kv.1 = x)) = decide (x ∈ K) := by
    rw [List.any_map]
    by_cases h : x ∈ K
    · rw [decide_eq_true h]; exact List.any_eq_true.mpr ⟨x, h, by simp⟩
    · rw [decide_eq_false h]
      refine Bool.eq_false_iff.mpr fun q => ?_
      obtain ⟨y, hy, q⟩ := List.any_eq_true.mp q
      simp at q; exact h (q ▸ hy)
  rw [e]
  by_cases h : x ∈ K
  · rw [decide_eq_true h, if_pos rfl, if_pos h, List.map_map]
    refine List.map_congr_left fun y _ => ?_
    simp only [Function.comp]
    split <;> rfl
  · rw [decide_eq_false h, if_neg (by decide), if_neg h, List.map_append]
    congr 1
    · refine List.map_congr_left fun y hy => ?_
      rw [if_neg fun (e : y = x) => h (e ▸ hy)]
    · simp
theorem addStep_tabK (a : Tab) (p : Str × Int) : addStepG iadd (tabK a) p = tabK (a ++ [p]) := by
  have key : tabK (a ++ [p]) = (kstep (kfold [] (a.map (·.1))) p.1).map fun y => (y, if y = p.1 then sAt a p.1 + p.2 else sAt a y) := by
    unfold tabK
    rw [List.map_append, kfold_append]
    show (kstep _ _).map _ = _
    refine List.map_congr_left fun y _ => ?_
    rw [sAt_append]
    have : sAt [p] y = if p.1 = y then p.2 else 0 := by simp [sAt, S1]
    rw [this]
    by_cases h : y = p.1
    · subst h; simp
    · rw [if_neg h, if_neg fun e => h e.symm]; simp
  rw [key]
  unfold addStepG
  have hg : dget (tabK a) p.1 = if p.1 ∈ kfold [] (a.map (·.1)) then some (sAt a p.1) else none := dget_map_keys (sAt a) _ _
  rw [hg]
  by_cases h : p.1 ∈ kfold [] (a.map (·.1))
  · rw [if_pos h]
    show dput (tabK a) p.1 (sAt a p.1 + p.2) = _
    unfold tabK
    rw [dput_map_keys]
  · rw [if_neg h]
    show dput (tabK a) p.1 p.2 = _
    unfold tabK
    rw [dput_map_keys]
    have hz : sAt a p.1 = 0 := sAt_none fun q => h (kfold_mem.mpr (.inr q))
    refine List.map_congr_left fun y _ => ?_
    rw [hz]; simp
theorem fold_tabK (b : Tab) : ∀ a : Tab, b.foldl (addStepG iadd) (tabK a) = tabK (a ++ b) := by
  induction b with
  | nil => intro a; simp
  | cons p b ih =>
    intro a
    rw [List.foldl_cons, addStep_tabK, ih, List.append_assoc]; rfl
theorem tabK_tabK (a b : Tab) : tabK (a ++ tabK b) = tabK (a ++ b) := by
  unfold tabK
  have e : kfold [] ((a ++ tabK b).map (·.1)) = kfold [] ((a ++ b).map (·.1)) := by
    rw [List.map_append, kfold_append, tabK_keys, kfold_kfold, List.map_append, kfold_append]
  show (kfold [] ((a ++ tabK b).map (·.1))).map (fun x => (x, sAt (a ++ tabK b) x)) = _
  rw [e]
  refine List.map_congr_left fun x _ => ?_
  rw [sAt_append, sAt_append, sAt_tabK]
theorem putAll_keys {α : Type} (f : Str → α) : ∀ (l K : List Str), (K ++ l).Nodup → (l.map fun y => (y, f y)).foldl (fun acc p => dput acc p.1 p.2) (K.map fun y => (y, f y)) = (K ++ l).map fun y => (y, f y)
  | [], K, _ => by simp
  | x :: l, K, h => by
    have hx : x ∉ K := fun q => by
      rw [List.nodup_append] at h
      exact h.2.2 x q x List.mem_cons_self rfl
    rw [List.map_cons, List.foldl_cons]
    have e : dput (K.map fun y => (y, f y)) x (f x) = (K ++ [x]).map fun y => (y, f y) := by
      rw [dput_map_keys]
      unfold kstep
      rw [if_neg hx]
      refine List.map_congr_left fun y _ => ?_
      by_cases h : y = x
      · subst h; simp
      · rw [if_neg h]
    show (l.map _).foldl _ (dput (K.map fun y => (y, f y)) x (f x)) = _
    rw [e, putAll_keys f l (K ++ [x]) (by simpa using h)]
    simp
theorem putAll_tabK (a : Tab) : putAllG (tabK a) = tabK a := by
  unfold putAllG tabK
  have := putAll_keys (sAt a) (kfold [] (a.map (·.1))) [] (by simpa using kfold_nodup .nil)
  simpa using this
theorem addG_tabK (a b : Tab) : addG iadd (tabK a) (tabK b) = tabK (a ++ b) := by
  unfold addG
  rw [putAll_tabK, fold_tabK, tabK_tabK]
theorem addG_tabK1 (a : Tab) (p : Str × Int) : addG iadd (tabK a) [p] = tabK (a ++ [p]) := by
  unfold addG
  rw [putAll_tabK, List.foldl_cons, List.foldl_nil, addStep_tabK]
end Mine
end
section
open PySem
set_option linter.unusedVariables false
namespace Mine
theorem tableP_tabK (l : Tab) : tableP l = tabK l := by
  have sums : ∀ x : Str, ((l.filter fun p => p.1 == x).map (·.2)).sum = sAt l x := fun x => by
    rw [sum_S1, S1_filter]
    refine S1_congr fun p _ => ?_
    by_cases h : p.1 = x
    · rw [if_pos h, if_pos (beq_iff_eq.mpr h)]
    · rw [if_neg h, if_neg (by simpa using h)]
  have keys : ∀ n, n ≤ l.length → ((List.range n).filter fun k => !((l.map (·.1)).take k).contains (txtAt l k)).map (txtAt l) = kfold [] ((l.map (·.1)).take n) := by
    intro n
    induction n with
    | zero => intro _; rfl
    | succ n ih =>
      intro hn
      have hlt : n < (l.map (·.1)).length := by rw [List.length_map]; omega
      have ht : (l.map (·.1)).take (n + 1) = (l.map (·.1)).take n ++ [txtAt l n] := by
        rw [List.take_add_one, txtAt_get (by omega : n < l.length)]; rfl
      rw [List.range_succ, List.filter_append, List.map_append, ih (by omega), ht, kfold_append]
      show _ = kstep _ _
      unfold kstep
      have hc : ((l.map (·.1)).take n).contains (txtAt l n) = true ↔ txtAt l n ∈ kfold [] ((l.map (·.1)).take n) := by
        rw [List.contains_iff_mem, kfold_mem]; simp
      by_cases h : txtAt l n ∈ kfold [] ((l.map (·.1)).take n)
      · rw [if_pos h, List.filter_cons, hc.mpr h]; simp
      · rw [if_neg h, List.filter_cons, Bool.eq_false_iff.mpr (fun q => h (hc.mp q))]; simp
  unfold tableP tabK
  have k := keys l.length (Nat.le_refl _)
  rw [List.take_of_length_le (by rw [List.length_map]; exact Nat.le_refl _)] at k
  rw [← k, List.map_map]
  refine List.map_congr_left fun i _ => ?_
  simp only [Function.comp]
  rw [sums]
/-- a sum over the keys is the sum over the list -/
theorem S1_keys (f : Str → Int) {K : List Str} (hn : K.Nodup) : ∀ {l : Tab}, (∀ p ∈ l, p.1 ∈ K) → S1 (fun x => f x * sAt l x) K = S1 (fun p => f p.1 * p.2) l
  | [], _ => S1_zero fun x _ => by simp [sAt, S1]
  | p :: l, h => by
    have e : S1 (fun x => f x * sAt (p :: l) x) K = S1 (fun x => f x * (if p.1 = x then p.2 else 0)) K + S1 (fun x => f x * sAt l x) K := by
      rw [← S1_add]
      refine S1_congr fun x _ => ?_
      show f x * ((if p.1 = x then p.2 else 0) + sAt l x) = _
      rw [Int.mul_add]
    rw [e, S1_keys f hn fun q hq => h q (List.mem_cons_of_mem _ hq), S1_one hn (h p List.mem_cons_self) fun x _ hx => by rw [if_neg fun e => hx e.symm]; simp]
    rw [if_pos rfl]; rfl
theorem sumTab_S1 (l : Tab) : sumTab l = S1 (fun p => p.2) l := sum_S1 _ l
theorem sumTab_tabK (l : Tab) : sumTab (tabK l) = sumTab l := by
  rw [sumTab_S1, sumTab_S1]
  unfold tabK
  rw [S1_map]
  have := S1_keys (fun _ => 1) (K := kfold [] (l.map (·.1))) (kfold_nodup .nil) (l := l) fun p hp => kfold_mem.mpr (.inr (List.mem_map.mpr ⟨p, hp, rfl⟩))
  simpa using this
theorem kfold_length (l : List Str) : ∀ K : List Str, (kfold K l).length ≤ K.length + l.length := by
  induction l with
  | nil => intro K; exact Nat.le_refl _
  | cons x l ih =>
    intro K
    refine Nat.le_trans (ih (kstep K x)) ?_
    have : (kstep K x).length ≤ K.length + 1 := by unfold kstep; split <;> simp
    rw [List.length_cons]; omega
theorem tabK_length (l : Tab) : (tabK l).length ≤ l.length := by
  unfold tabK
  rw [List.length_map]
  have := kfold_length (l.map (·.1)) []
  simpa using this
theorem tabK_get (l : Tab) (x : Str) : dget (tabK l) x = if x ∈ l.map (·.1) then some (sAt l x) else none := by
  unfold tabK
  rw [dget_map_keys]
  have : x ∈ kfold [] (l.map (·.1)) ↔ x ∈ l.map (·.1) := by rw [kfold_mem]; simp
  by_cases h : x ∈ l.map (·.1)
  · rw [if_pos h, if_pos (this.mpr h)]
  · rw [if_neg h, if_neg fun q => h (this.mp q)]
theorem tabK_mem {l : Tab} {p : Str × Int} (h : p ∈ tabK l) : ∃ q ∈ l, q.1 = p.1 := by
  have : p.1 ∈ (tabK l).map (·.1) := List.mem_map.mpr ⟨p, h, rfl⟩
  rw [tabK_keys, kfold_mem] at this
  obtain ⟨q, hq, e⟩ := List.mem_map.mp (this.resolve_left (by simp))
  exact ⟨q, hq, e⟩
/-! the run, with each ended frame written down -/
abbrev Rec := List Str × Int × Int
noncomputable def recOf (f : Fr) (r : List Fr) : Rec := (namesS (f :: r), f.2.1, f.2.2)
noncomputable def endRStep : List Rec × List Fr → List Rec × List Fr
  | (rs, []) => (rs, [])
  | (rs, f :: r) => (rs ++ [recOf f r], bump f.2.2 r)
noncomputable def endR : Nat → List Fr → List Rec × List Fr
  | 0, st => ([], st)
  | n + 1, st => endRStep (endR n st)
noncomputable def callersR (path : List Str) (own whole : Int) : List (Str × Q4) :=
  if path.dropLast = [] then [] else
    [(path.dropLast.getLastD "", (1, b2i (!(pairsOf path.dropLast).contains [path.dropLast.getLastD "", path.getLastD ""]), own, whole * b2i (!(pairsOf path.dropLast).contains [path.dropLast.getLastD "", path.getLastD ""])))]
noncomputable def entryR (x : Rec) : Entry := ((b2i (!x.1.dropLast.contains (x.1.getLastD "")), 1, x.2.1, x.2.2 * b2i (!x.1.dropLast.contains (x.1.getLastD ""))), callersR x.1 x.2.1 x.2.2)
noncomputable def recStep (bk : Books) (x : Rec) : Books := dput bk (x.1.getLastD "") (stat ((dget bk (x.1.getLastD "")).getD zeroE) (entryR x))
theorem entryR_rec (f : Fr) (r : List Fr) : entryR (recOf f r) = newE f r := by
  unfold entryR recOf newE
  simp only [namesS_cons, List.dropLast_concat, List.getLastD_concat]
  congr 1
  unfold callersR
  rw [List.dropLast_concat, List.getLastD_concat]
  cases r with
  | nil => rfl
  | cons g r =>
    rw [if_neg (by rw [namesS_cons]; simp)]
    unfold callersS
    have : (namesS (g :: r)).getLastD "" = g.1 := by rw [namesS_cons, List.getLastD_concat]
    rw [this]
theorem endN_endR (st : List Fr) (bk : Books) : ∀ n, endN n (st, bk) = ((endR n st).2, (endR n st).1.foldl recStep bk)
  | 0 => rfl
  | n + 1 => by
    rw [endN, endN_endR st bk n]
    show _ = ((endRStep (endR n st)).2, (endRStep (endR n st)).1.foldl recStep bk)
    generalize endR n st = e
    obtain ⟨rs, s⟩ := e
    cases s with
    | nil => rfl
    | cons f r =>
      simp only [endTurn, endRStep, List.foldl_append, List.foldl_cons, List.foldl_nil]
      congr 1
      show _ = dput _ ((recOf f r).1.getLastD "") (stat ((dget _ ((recOf f r).1.getLastD "")).getD zeroE) (entryR (recOf f r)))
      have e1 : (recOf f r).1.getLastD "" = f.1 := by unfold recOf; rw [namesS_cons, List.getLastD_concat]
      rw [e1, entryR_rec]
end Mine
end
section
open PySem
set_option linter.unusedVariables false
namespace Mine
structure GSt where
  recs : List Rec
  st : List Fr
  come : List (List Str)
  work : List (List Str × Int)
noncomputable def endG (g : GSt) (n : Int) : List Rec × List Fr := endR (g.st.length - keepOf g.st.length n) (addTop n g.st)
noncomputable def stepG (W : List Str) (g : GSt) (n : Int) : GSt :=
  if pickOf n < 4 then ⟨g.recs ++ (endG g n).1, (W.getD (pickOf n) "", 0, 0) :: (endG g n).2, g.come ++ [namesS ((W.getD (pickOf n) "", 0, 0) :: (endG g n).2)], g.work ++ [(namesS g.st, n)]⟩
  else ⟨g.recs ++ (endG g n).1, (endG g n).2, g.come, g.work ++ [(namesS g.st, n)]⟩
noncomputable def initG (W : List Str) : GSt := ⟨[], [(W.getD 0 "", 0, 0)], [[W.getD 0 ""]], []⟩
noncomputable def loopG (W : List Str) (ns : List Int) : GSt := ns.foldl (stepG W) (initG W)
/-! sums over what still runs -/
noncomputable def P1 (φ : List Str → Int) : List Fr → Int
  | [] => 0
  | f :: r => φ (namesS (f :: r)) + P1 φ r
noncomputable def P2 (φ : List Str → Int) : List Fr → Int
  | [] => 0
  | f :: r => φ (namesS (f :: r)) * f.2.1 + P2 φ r
noncomputable def P3 (φ : List Str → Int) : List Fr → Int
  | [] => 0
  | f :: r => P1 φ (f :: r) * f.2.2 + P3 φ r
/-- the sum over the prefixes that are not empty -/
noncomputable def Pre (φ : List Str → Int) (path : List Str) : Int := S1 (fun i => φ (path.take (i + 1))) (List.range path.length)
theorem Pre_snoc (φ : List Str → Int) (p : List Str) (x : Str) : Pre φ (p ++ [x]) = Pre φ p + φ (p ++ [x]) := by
  unfold Pre
  rw [List.length_append, List.length_singleton, List.range_succ, S1_append]
  congr 1
  · refine S1_congr fun i hi => ?_
    have := List.mem_range.mp hi
    rw [List.take_append_of_le_length (by omega)]
  · show φ ((p ++ [x]).take (p.length + 1)) + 0 = _
    rw [List.take_of_length_le (by simp)]; omega
theorem P1_Pre (φ : List Str → Int) : ∀ st : List Fr, P1 φ st = Pre φ (namesS st)
  | [] => rfl
  | f :: r => by
    rw [P1, P1_Pre φ r]
    conv => rhs; rw [namesS_cons, Pre_snoc]
    rw [namesS_cons]; omega
theorem names_eq {r r' : List Fr} (h : r.map (·.1) = r'.map (·.1)) : namesS r = namesS r' := by unfold namesS; rw [h]
theorem P1_names (φ : List Str → Int) {r r' : List Fr} (h : r.map (·.1) = r'.map (·.1)) : P1 φ r = P1 φ r' := by rw [P1_Pre, P1_Pre, names_eq h]
theorem P2_bump (φ : List Str → Int) (w : Int) : ∀ r : List Fr, P2 φ (bump w r) = P2 φ r
  | [] => rfl
  | f :: r => by
    show φ (namesS (bump w (f :: r))) * f.2.1 + P2 φ r = _
    rw [namesS_bump]; rfl
theorem P3_bump (φ : List Str → Int) (w : Int) : ∀ r : List Fr, P3 φ (bump w r) = P3 φ r + P1 φ r * w
  | [] => by simp [bump, P3, P1]
  | f :: r => by
    show P1 φ (bump w (f :: r)) * (f.2.2 + w) + P3 φ r = P1 φ (f :: r) * f.2.2 + P3 φ r + P1 φ (f :: r) * w
    rw [P1_names φ (bump_names w (f :: r)), Int.mul_add]; omega
noncomputable def T1 (φ : List Str → Int) (e : List Rec × List Fr) : Int := S1 (fun x => φ x.1) e.1 + P1 φ e.2
noncomputable def T2 (φ : List Str → Int) (e : List Rec × List Fr) : Int := S1 (fun x => φ x.1 * x.2.1) e.1 + P2 φ e.2
noncomputable def T3s (φ : List Str → Int) (e : List Rec × List Fr) : Int := S1 (fun x => φ x.1 * x.2.2) e.1 + P3 φ e.2
theorem T1_step (φ : List Str → Int) (e : List Rec × List Fr) : T1 φ (endRStep e) = T1 φ e := by
  obtain ⟨rs, s⟩ := e
  cases s with
  | nil => rfl
  | cons f r =>
    show S1 _ (rs ++ [recOf f r]) + P1 φ (bump f.2.2 r) = S1 _ rs + (φ (namesS (f :: r)) + P1 φ r)
    rw [S1_append, P1_names φ (bump_names _ r)]
    show _ + (φ (namesS (f :: r)) + 0) + _ = _
    omega
theorem T2_step (φ : List Str → Int) (e : List Rec × List Fr) : T2 φ (endRStep e) = T2 φ e := by
  obtain ⟨rs, s⟩ := e
  cases s with
  | nil => rfl
  | cons f r =>
    show S1 _ (rs ++ [recOf f r]) + P2 φ (bump f.2.2 r) = S1 _ rs + (φ (namesS (f :: r)) * f.2.1 + P2 φ r)
    rw [S1_append, P2_bump]
    show _ + (φ (namesS (f :: r)) * f.2.1 + 0) + _ = _
    omega
theorem T3_step (φ : List Str → Int) (e : List Rec × List Fr) : T3s φ (endRStep e) = T3s φ e := by
  obtain ⟨rs, s⟩ := e
  cases s with
  | nil => rfl
  | cons f r =>
    show S1 _ (rs ++ [recOf f r]) + P3 φ (bump f.2.2 r) = S1 _ rs + ((φ (namesS (f :: r)) + P1 φ r) * f.2.2 + P3 φ r)
    rw [S1_append, P3_bump, Int.add_mul]
    show _ + (φ (namesS (f :: r)) * f.2.2 + 0) + _ = _
    omega
theorem T1_end (φ : List Str → Int) (st : List Fr) : ∀ n, T1 φ (endR n st) = P1 φ st
  | 0 => by simp [T1, endR, S1]
  | n + 1 => (T1_step φ _).trans (T1_end φ st n)
theorem T2_end (φ : List Str → Int) (st : List Fr) : ∀ n, T2 φ (endR n st) = P2 φ st
  | 0 => by simp [T2, endR, S1]
  | n + 1 => (T2_step φ _).trans (T2_end φ st n)
theorem T3_end (φ : List Str → Int) (st : List Fr) : ∀ n, T3s φ (endR n st) = P3 φ st
  | 0 => by simp [T3s, endR, S1]
  | n + 1 => (T3_step φ _).trans (T3_end φ st n)
theorem P2_add (φ : List Str → Int) (n : Int) {st : List Fr} (h : st ≠ []) : P2 φ (addTop n st) = P2 φ st + φ (namesS st) * n := by
  cases st with
  | nil => exact absurd rfl h
  | cons f r =>
    show φ (namesS (addTop n (f :: r))) * (f.2.1 + n) + P2 φ r = φ (namesS (f :: r)) * f.2.1 + P2 φ r + φ (namesS (f :: r)) * n
    rw [names_eq (addTop_names n (f :: r)), Int.mul_add]; omega
theorem P3_add (φ : List Str → Int) (n : Int) {st : List Fr} (h : st ≠ []) : P3 φ (addTop n st) = P3 φ st + Pre φ (namesS st) * n := by
  cases st with
  | nil => exact absurd rfl h
  | cons f r =>
    show P1 φ (addTop n (f :: r)) * (f.2.2 + n) + P3 φ r = P1 φ (f :: r) * f.2.2 + P3 φ r + Pre φ (namesS (f :: r)) * n
    rw [P1_names φ (addTop_names n (f :: r)), ← P1_Pre, Int.mul_add]; omega
structure SumInv (g : GSt) : Prop where
  s1 : ∀ φ, S1 (fun x => φ x.1) g.recs + P1 φ g.st = S1 φ g.come
  s2 : ∀ φ, S1 (fun x => φ x.1 * x.2.1) g.recs + P2 φ g.st = S1 (fun p => φ p.1 * p.2) g.work
  s3 : ∀ φ, S1 (fun x => φ x.1 * x.2.2) g.recs + P3 φ g.st = S1 (fun p => Pre φ p.1 * p.2) g.work
theorem initG_sum (W : List Str) : SumInv (initG W) where
  s1 := fun φ => by simp [initG, S1, P1, namesS]
  s2 := fun φ => by simp [initG, S1, P2]
  s3 := fun φ => by simp [initG, S1, P3]
theorem stepG_sum {W : List Str} {g : GSt} {n : Int} (hne : g.st ≠ []) (h : SumInv g) : SumInv (stepG W g n) := by
  have e1 : ∀ φ, S1 (fun x => φ x.1) (endG g n).1 + P1 φ (endG g n).2 = P1 φ g.st := fun φ => (T1_end φ _ _).trans (P1_names φ (addTop_names n g.st))
  have e2 : ∀ φ, S1 (fun x => φ x.1 * x.2.1) (endG g n).1 + P2 φ (endG g n).2 = P2 φ g.st + φ (namesS g.st) * n := fun φ => (T2_end φ _ _).trans (P2_add φ n hne)
  have e3 : ∀ φ, S1 (fun x => φ x.1 * x.2.2) (endG g n).1 + P3 φ (endG g n).2 = P3 φ g.st + Pre φ (namesS g.st) * n := fun φ => (T3_end φ _ _).trans (P3_add φ n hne)
  have w2 : ∀ φ : List Str → Int, S1 (fun p : List Str × Int => φ p.1 * p.2) [(namesS g.st, n)] = φ (namesS g.st) * n := fun φ => by simp [S1]
  have w3 : ∀ φ : List Str → Int, S1 (fun p : List Str × Int => Pre φ p.1 * p.2) [(namesS g.st, n)] = Pre φ (namesS g.st) * n := fun φ => by simp [S1]
  unfold stepG
  split
  · refine ⟨fun φ => ?_, fun φ => ?_, fun φ => ?_⟩
    · have := h.s1 φ; have := e1 φ
      show S1 _ (g.recs ++ (endG g n).1) + (φ (namesS (_ :: (endG g n).2)) + P1 φ (endG g n).2) = S1 φ (g.come ++ [_])
      rw [S1_append, S1_append]
      show _ = _ + (φ (namesS (_ :: (endG g n).2)) + 0)
      omega
    · have := h.s2 φ; have := e2 φ; have := w2 φ
      show S1 _ (g.recs ++ (endG g n).1) + (φ (namesS (_ :: (endG g n).2)) * 0 + P2 φ (endG g n).2) = S1 _ (g.work ++ [_])
      rw [S1_append, S1_append, Int.mul_zero]; omega
    · have := h.s3 φ; have := e3 φ; have := w3 φ
      show S1 _ (g.recs ++ (endG g n).1) + (P1 φ (_ :: (endG g n).2) * 0 + P3 φ (endG g n).2) = S1 _ (g.work ++ [_])
      rw [S1_append, S1_append, Int.mul_zero]; omega
  · refine ⟨fun φ => ?_, fun φ => ?_, fun φ => ?_⟩
    · have := h.s1 φ; have := e1 φ
      show S1 _ (g.recs ++ (endG g n).1) + P1 φ (endG g n).2 = S1 φ g.come
      rw [S1_append]; omega
    · have := h.s2 φ; have := e2 φ; have := w2 φ
      show S1 _ (g.recs ++ (endG g n).1) + P2 φ (endG g n).2 = S1 _ (g.work ++ [_])
      rw [S1_append, S1_append]; omega
    · have := h.s3 φ; have := e3 φ; have := w3 φ
      show S1 _ (g.recs ++ (endG g n).1) + P3 φ (endG g n).2 = S1 _ (g.work ++ [_])
      rw [S1_append, S1_append]; omega
end Mine
end
section
open PySem
set_option linter.unusedVariables false
namespace Mine
theorem endR_names (n : Nat) (st : List Fr) : (endR n st).2.map (·.1) = (st.map (·.1)).drop n := by
  have := endN_names (st, []) n
  rw [endN_endR] at this
  exact this
theorem endG_names (g : GSt) (n : Int) : (endG g n).2.map (·.1) = (g.st.map (·.1)).drop (g.st.length - keepOf g.st.length n) := by
  unfold endG; rw [endR_names, addTop_names]
structure GInv (W : List Str) (i : Nat) (g : GSt) : Prop where
  ne : g.st ≠ []
  len : g.st.length ≤ i + 1
  mem : ∀ x ∈ g.st.map (·.1), x ∈ W
  all : ∀ j, j < g.st.length → ((g.st.map (·.1)).drop j).reverse ∈ g.come
  come : ∀ p ∈ g.come, p ≠ [] ∧ p.length ≤ i + 1 ∧ ∀ x ∈ p, x ∈ W
  work : ∀ p ∈ g.work, p.1 ∈ g.come
  lc : g.come.length ≤ i + 1
  lw : g.work.length ≤ i
theorem GInv.path {W : List Str} {i : Nat} {g : GSt} (h : GInv W i g) : namesS g.st ∈ g.come := by
  have := h.all 0 (List.length_pos_iff.mpr h.ne)
  rwa [List.drop_zero] at this
theorem initG_inv {W : List Str} (hw : 4 ≤ W.length) : GInv W 0 (initG W) where
  ne := by simp [initG]
  len := Nat.le_refl _
  mem := fun x hx => by
    have : x = W.getD 0 "" := by simpa [initG] using hx
    rw [this]; exact getD_mem (by omega)
  all := fun j hj => by
    have hj : j < 1 := hj
    have : j = 0 := by omega
    subst this
    exact List.mem_cons_self
  come := fun p hp => by
    rw [List.mem_singleton.mp hp]
    refine ⟨by simp, Nat.le_refl _, fun x hx => ?_⟩
    rw [List.mem_singleton.mp hx]; exact getD_mem (by omega)
  work := fun p hp => by cases hp
  lc := Nat.le_refl _
  lw := Nat.le_refl _
theorem stepG_inv {W : List Str} {i : Nat} {g : GSt} {n : Int} (hw : 4 ≤ W.length) (h : GInv W i g) : GInv W (i + 1) (stepG W g n) := by
  have hpos : 0 < g.st.length := List.length_pos_iff.mpr h.ne
  have hk1 := keepOf_pos g.st.length n
  have hk2 := keepOf_le (n := n) hpos
  have hn := endG_names g n
  have hl : (endG g n).2.length = keepOf g.st.length n := by
    have := congrArg List.length hn
    rw [List.length_map, List.length_drop, List.length_map] at this
    exact this.trans (Nat.sub_sub_self hk2)
  have hlen := h.len
  have hmem : ∀ x ∈ (endG g n).2.map (·.1), x ∈ W := fun x hx => h.mem x (by rw [hn] at hx; exact List.mem_of_mem_drop hx)
  have hall : ∀ j, j < (endG g n).2.length → (((endG g n).2.map (·.1)).drop j).reverse ∈ g.come := fun j hj => by
    rw [hn, List.drop_drop]
    exact h.all _ (by omega)
  have hwork : ∀ p ∈ g.work ++ [(namesS g.st, n)], p.1 ∈ g.come := fun p hp => by
    rcases List.mem_append.mp hp with hp | hp
    · exact h.work p hp
    · rw [List.mem_singleton.mp hp]; exact h.path
  have hlc := h.lc
  have hlw := h.lw
  unfold stepG
  split
  · rename_i hp
    have hW : W.getD (pickOf n) "" ∈ W := getD_mem (by omega)
    refine ⟨by simp, by simp only [List.length_cons]; omega, fun x hx => ?_, fun j hj => ?_, fun p hp => ?_, fun p hp => List.mem_append_left _ (hwork p hp), by simp; omega, by simp; omega⟩
    · rcases List.mem_cons.mp hx with rfl | hx
      · exact hW
      · exact hmem x hx
    · cases j with
      | zero => exact List.mem_append_right _ (List.mem_singleton.mpr rfl)
      | succ j => exact List.mem_append_left _ (hall j (by simpa using hj))
    · rcases List.mem_append.mp hp with hp | hp
      · obtain ⟨a, b, d⟩ := h.come p hp
        exact ⟨a, by omega, d⟩
      · rw [List.mem_singleton.mp hp]
        refine ⟨by rw [namesS_cons]; simp, by rw [namesS_length, List.length_cons]; omega, fun x hx => ?_⟩
        rw [namesS_cons] at hx
        rcases List.mem_append.mp hx with hx | hx
        · exact hmem x (by unfold namesS at hx; exact List.mem_reverse.mp hx)
        · rw [List.mem_singleton.mp hx]; exact hW
  · refine ⟨fun e => ?_, by show (endG g n).2.length ≤ _; omega, hmem, hall, fun p hp => ?_, hwork, by show g.come.length ≤ _; omega, by simp; omega⟩
    · have e : (endG g n).2 = [] := e
      rw [e] at hl; simp at hl; omega
    · obtain ⟨a, b, d⟩ := h.come p hp
      exact ⟨a, by omega, d⟩
theorem loopG_inv {W : List Str} (hw : 4 ≤ W.length) (ns : List Int) : GInv W ns.length (loopG W ns) := by
  have := foldl_inv (f := stepG W) (P := fun i g => GInv W i g) (fun i g n h => stepG_inv hw h) ns 0 (initG W) (initG_inv hw)
  rw [Nat.zero_add] at this
  exact this
theorem loopG_sum {W : List Str} (hw : 4 ≤ W.length) (ns : List Int) : SumInv (loopG W ns) := by
  have := foldl_inv (f := stepG W) (P := fun i g => GInv W i g ∧ SumInv g) (fun i g n h => ⟨stepG_inv hw h.1, stepG_sum h.1.ne h.2⟩) ns 0 (initG W) ⟨initG_inv hw, initG_sum W⟩
  exact this.2
/-- all the records of a run -/
noncomputable def allR (W : List Str) (ns : List Int) : List Rec := (loopG W ns).recs ++ (endR (loopG W ns).st.length (loopG W ns).st).1
theorem end_all (st : List Fr) : (endR st.length st).2 = [] := by
  have := congrArg List.length (endR_names st.length st)
  rw [List.length_map, List.length_drop, List.length_map, Nat.sub_self] at this
  exact List.eq_nil_of_length_eq_zero this
structure RunSums (recs : List Rec) (come : List (List Str)) (work : List (List Str × Int)) : Prop where
  s1 : ∀ φ : List Str → Int, S1 (fun x => φ x.1) recs = S1 φ come
  s2 : ∀ φ : List Str → Int, S1 (fun x => φ x.1 * x.2.1) recs = S1 (fun p => φ p.1 * p.2) work
  s3 : ∀ φ : List Str → Int, S1 (fun x => φ x.1 * x.2.2) recs = S1 (fun p => Pre φ p.1 * p.2) work
theorem allR_sums {W : List Str} (hw : 4 ≤ W.length) (ns : List Int) : RunSums (allR W ns) (loopG W ns).come (loopG W ns).work := by
  have h := loopG_sum hw ns
  have e := end_all (loopG W ns).st
  refine ⟨fun φ => ?_, fun φ => ?_, fun φ => ?_⟩
  · rw [← h.s1 φ, ← T1_end φ (loopG W ns).st (loopG W ns).st.length]
    unfold allR T1
    rw [S1_append, e]; simp [P1]
  · rw [← h.s2 φ, ← T2_end φ (loopG W ns).st (loopG W ns).st.length]
    unfold allR T2
    rw [S1_append, e]; simp [P2]
  · rw [← h.s3 φ, ← T3_end φ (loopG W ns).st (loopG W ns).st.length]
    unfold allR T3s
    rw [S1_append, e]; simp [P3]
theorem RunSums.append {r r' : List Rec} {c c' : List (List Str)} {w w' : List (List Str × Int)} (h : RunSums r c w) (h' : RunSums r' c' w') : RunSums (r ++ r') (c ++ c') (w ++ w') :=
  ⟨fun φ => by rw [S1_append, S1_append, h.s1, h'.s1], fun φ => by rw [S1_append, S1_append, h.s2, h'.s2], fun φ => by rw [S1_append, S1_append, h.s3, h'.s3]⟩
end Mine
end
section
open PySem
set_option linter.unusedVariables false
namespace Mine
section
variable {α : Type}
theorem dget_none {l : List (Str × α)} {x : Str} : dget l x = none ↔ x ∉ l.map (·.1) := by
  induction l with
  | nil => simp [dget]
  | cons p l ih =>
    unfold dget at ih ⊢
    rw [List.find?_cons]
    by_cases h : p.1 = x
    · simp [h]
    · have h' : ¬ x = p.1 := fun e => h e.symm
      simp only [h, decide_false, List.map_cons, List.mem_cons, h', false_or]
      exact ih
theorem dget_cons (p : Str × α) (l : List (Str × α)) (x : Str) : dget (p :: l) x = if p.1 = x then some p.2 else dget l x := by
  unfold dget
  rw [List.find?_cons]
  by_cases h : p.1 = x
  · simp [h]
  · simp [h]
theorem dget_append (a b : List (Str × α)) (x : Str) : dget (a ++ b) x = (dget a x).or (dget b x) := by
  induction a with
  | nil => simp [dget]
  | cons p a ih =>
    rw [List.cons_append, dget_cons, dget_cons, ih]
    split <;> rfl
theorem dput_old {l : List (Str × α)} {x : Str} (v : α) (h : x ∈ l.map (·.1)) : dput l x v = l.map fun kv => if kv.1 = x then (kv.1, v) else kv := by
  unfold dput
  rw [if_pos]
  obtain ⟨p, hp, e⟩ := List.mem_map.mp h
  exact List.any_eq_true.mpr ⟨p, hp, by simpa using e⟩
theorem dput_new {l : List (Str × α)} {x : Str} (v : α) (h : x ∉ l.map (·.1)) : dput l x v = l ++ [(x, v)] := by
  unfold dput
  rw [if_neg]
  intro q
  obtain ⟨p, hp, e⟩ := List.any_eq_true.mp q
  exact h (List.mem_map.mpr ⟨p, hp, by simpa using e⟩)
theorem dput_keys (l : List (Str × α)) (x : Str) (v : α) : (dput l x v).map (·.1) = kstep (l.map (·.1)) x := by
  unfold kstep
  by_cases h : x ∈ l.map (·.1)
  · rw [dput_old v h, if_pos h, List.map_map]
    refine List.map_congr_left fun p _ => ?_
    simp only [Function.comp]; split <;> rfl
  · rw [dput_new v h, if_neg h, List.map_append]; rfl
theorem dget_map_if (l : List (Str × α)) (x : Str) (v : α) (k : Str) : dget (l.map fun kv => if kv.1 = x then (kv.1, v) else kv) k = if k = x then (dget l k).map (fun _ => v) else dget l k := by
  induction l with
  | nil => simp [dget]
  | cons p l ih =>
    rw [List.map_cons, dget_cons, dget_cons, ih]
    by_cases h : p.1 = x
    · by_cases h2 : k = x
      · simp [h, h2]
      · have h3 : ¬ x = k := fun e => h2 e.symm
        simp [h, h2, h3]
    · by_cases h2 : k = x
      · have h3 : ¬ p.1 = k := fun e => h (e.trans h2)
        simp [h, h2]
      · simp [h, h2]
theorem dget_dput (l : List (Str × α)) (x : Str) (v : α) (k : Str) : dget (dput l x v) k = if k = x then some v else dget l k := by
  by_cases h : x ∈ l.map (·.1)
  · rw [dput_old v h, dget_map_if]
    by_cases e : k = x
    · subst e
      rw [if_pos rfl, if_pos rfl]
      cases q : dget l k with
      | none => exact absurd h (dget_none.mp q)
      | some a => rfl
    · rw [if_neg e, if_neg e]
  · rw [dput_new v h, dget_append]
    by_cases e : k = x
    · subst e
      rw [dget_none.mpr h, if_pos rfl, dget_cons, if_pos rfl]; rfl
    · have e' : ¬ x = k := fun q => e q.symm
      rw [if_neg e, dget_cons, if_neg e']
      cases dget l k <;> rfl
theorem dput_nodup {l : List (Str × α)} (h : (l.map (·.1)).Nodup) (x : Str) (v : α) : ((dput l x v).map (·.1)).Nodup := by
  rw [dput_keys]; exact kstep_nodup h
theorem nodup_len : ∀ {a b : List Str}, a.Nodup → (∀ x ∈ a, x ∈ b) → a.length ≤ b.length
  | [], b, _, _ => Nat.zero_le _
  | x :: a, b, hn, h => by
    rw [List.nodup_cons] at hn
    have hx : x ∈ b := h x List.mem_cons_self
    have := nodup_len hn.2 (b := b.erase x) fun y hy => (List.mem_erase_of_ne fun (e : y = x) => hn.1 (e ▸ hy)).mpr (h y (List.mem_cons_of_mem _ hy))
    rw [List.length_erase_of_mem hx] at this
    have hp : 0 < b.length := List.length_pos_of_mem hx
    rw [List.length_cons]; omega
inductive ORel {β γ : Type} (R : β → γ → Prop) : Option β → Option γ → Prop
  | none : ORel R none none
  | some {a : β} {b : γ} : R a b → ORel R (some a) (some b)
/-- two tables that answer alike are one table -/
theorem tabEq_of {R : α → α → Prop} {l l' : List (Str × α)} (h1 : (l.map (·.1)).Nodup) (h2 : (l'.map (·.1)).Nodup) (h : ∀ k, ORel R (dget l k) (dget l' k)) : TabEq l l' R := by
  have sub : ∀ k, k ∈ l.map (·.1) ↔ k ∈ l'.map (·.1) := fun k => by
    have := h k
    constructor
    · intro q
      refine Decidable.byContradiction fun z => ?_
      rw [dget_none.mpr z] at this
      cases e : dget l k with
      | none => exact dget_none.mp e q
      | some a => rw [e] at this; cases this
    · intro q
      refine Decidable.byContradiction fun z => ?_
      rw [dget_none.mpr z] at this
      cases e : dget l' k with
      | none => exact dget_none.mp e q
      | some a => rw [e] at this; cases this
  refine ⟨?_, fun p hp => ?_⟩
  · have a := nodup_len h1 fun x hx => (sub x).mp hx
    have b := nodup_len h2 fun x hx => (sub x).mpr hx
    rw [List.length_map, List.length_map] at a b
    omega
  · have hk := h p.1
    have e : dget l p.1 = some p.2 := by
      clear hk sub h
      induction l with
      | nil => cases hp
      | cons q l ih =>
        rw [dget_cons]
        rw [List.map_cons, List.nodup_cons] at h1
        rcases List.mem_cons.mp hp with rfl | hp
        · rw [if_pos rfl]
        · rw [if_neg fun (z : q.1 = p.1) => h1.1 (z ▸ List.mem_map.mpr ⟨p, hp, rfl⟩)]
          exact ih h1.2 hp
    rw [e] at hk
    cases q : dget l' p.1 with
    | none => rw [q] at hk; cases hk
    | some v => rw [q] at hk; cases hk with | some r => exact ⟨v, rfl, r⟩
theorem putAll_nodup {t : List (Str × α)} : ∀ {acc : List (Str × α)}, ((acc ++ t).map (·.1)).Nodup → t.foldl (fun acc p => dput acc p.1 p.2) acc = acc ++ t := by
  induction t with
  | nil => intro acc _; simp
  | cons p t ih =>
    intro acc h
    rw [List.foldl_cons]
    have hx : p.1 ∉ acc.map (·.1) := fun q => by
      rw [List.map_append, List.nodup_append] at h
      exact h.2.2 p.1 q p.1 List.mem_cons_self rfl
    rw [dput_new p.2 hx, ih (by simpa using h)]
    simp
noncomputable def mergeO (f : α → α → α) : Option α → Option α → Option α
  | none, b => b
  | some a, none => some a
  | some a, some b => some (f a b)
theorem addStepG_get (f : α → α → α) (acc : List (Str × α)) (p : Str × α) (k : Str) : dget (addStepG f acc p) k = if k = p.1 then mergeO f (dget acc p.1) (some p.2) else dget acc k := by
  unfold addStepG
  cases e : dget acc p.1 with
  | none => rw [dget_dput]; rfl
  | some o => rw [dget_dput]; rfl
theorem addStepG_nodup {f : α → α → α} {acc : List (Str × α)} (h : (acc.map (·.1)).Nodup) (p : Str × α) : ((addStepG f acc p).map (·.1)).Nodup := by
  unfold addStepG
  split <;> exact dput_nodup h _ _
theorem fold_get (f : α → α → α) : ∀ {s acc : List (Str × α)}, (s.map (·.1)).Nodup → ∀ k, dget (s.foldl (addStepG f) acc) k = mergeO f (dget acc k) (dget s k)
  | [], acc, _, k => by
    show dget acc k = mergeO f (dget acc k) none
    cases dget acc k <;> rfl
  | p :: s, acc, h, k => by
    rw [List.map_cons, List.nodup_cons] at h
    rw [List.foldl_cons, fold_get f h.2, addStepG_get, dget_cons]
    by_cases e : k = p.1
    · subst e
      rw [if_pos rfl, if_pos rfl, dget_none.mpr h.1]
      cases dget acc p.1 <;> rfl
    · rw [if_neg e, if_neg fun q => e q.symm]
theorem fold_nodup {f : α → α → α} : ∀ {s acc : List (Str × α)}, (acc.map (·.1)).Nodup → ((s.foldl (addStepG f) acc).map (·.1)).Nodup
  | [], _, h => h
  | p :: s, acc, h => fold_nodup (s := s) (addStepG_nodup h p)
theorem addG_get (f : α → α → α) {t s : List (Str × α)} (ht : (t.map (·.1)).Nodup) (hs : (s.map (·.1)).Nodup) (k : Str) : dget (addG f t s) k = mergeO f (dget t k) (dget s k) := by
  unfold addG
  rw [fold_get f hs]
  unfold putAllG
  rw [putAll_nodup (acc := []) (by simpa using ht)]
  rfl
theorem addG_nodup {f : α → α → α} {t s : List (Str × α)} (ht : (t.map (·.1)).Nodup) : ((addG f t s).map (·.1)).Nodup := by
  unfold addG
  refine fold_nodup ?_
  unfold putAllG
  rw [putAll_nodup (acc := []) (by simpa using ht)]
  simpa using ht
end
end Mine
end
section
open PySem
set_option linter.unusedVariables false
namespace Mine
/-- an entry as a function of its callers -/
abbrev EF := Q4 × (Str → Option Q4)
noncomputable def RepE (e : Entry) (x : EF) : Prop := e.1 = x.1 ∧ (e.2.map (·.1)).Nodup ∧ ∀ k, dget e.2 k = x.2 k
noncomputable def RepB (b : Books) (F : Str → Option EF) : Prop := (b.map (·.1)).Nodup ∧ ∀ k, ORel RepE (dget b k) (F k)
theorem ORel.eq {α : Type} (a : Option α) : ORel Eq a a := by
  cases a with
  | none => exact .none
  | some a => exact .some rfl
theorem booksEq_of {b b' : Books} {F : Str → Option EF} (h : RepB b F) (h' : RepB b' F) : BooksEq b b' := by
  refine tabEq_of h.1 h'.1 fun k => ?_
  have p := h.2 k
  have q := h'.2 k
  revert p q
  generalize dget b k = x
  generalize dget b' k = y
  generalize F k = z
  intro p q
  cases p with
  | none => cases q; exact .none
  | some p =>
    cases q with
    | some q =>
      refine .some ⟨p.1.trans q.1.symm, tabEq_of p.2.1 q.2.1 fun k => ?_⟩
      rw [p.2.2 k, q.2.2 k]
      exact ORel.eq _
noncomputable def zeroF : EF := ((0, 0, 0, 0), fun _ => none)
noncomputable def mergeE (x y : EF) : EF := (qadd x.1 y.1, fun k => mergeO qadd (x.2 k) (y.2 k))
theorem rep_zero : RepE zeroE zeroF := ⟨rfl, .nil, fun k => rfl⟩
theorem rep_stat {e e' : Entry} {x x' : EF} (h : RepE e x) (h' : RepE e' x') : RepE (stat e e') (mergeE x x') := by
  refine ⟨?_, addG_nodup h.2.1, fun k => ?_⟩
  · show qadd e.1 e'.1 = qadd x.1 x'.1
    rw [h.1, h'.1]
  · show dget (addG qadd e.2 e'.2) k = mergeO qadd (x.2 k) (x'.2 k)
    rw [addG_get qadd h.2.1 h'.2.1, h.2.2, h'.2.2]
theorem rep_getD {b : Books} {F : Str → Option EF} (h : RepB b F) (k : Str) : RepE ((dget b k).getD zeroE) ((F k).getD zeroF) := by
  have := h.2 k
  revert this
  generalize dget b k = x
  generalize F k = y
  intro p
  cases p with
  | none => exact rep_zero
  | some p => exact p
/-! the records as functions -/
noncomputable def nmOf (x : Rec) : Str := x.1.getLastD ""
noncomputable def parOf (x : Rec) : Str := x.1.dropLast.getLastD ""
noncomputable def recF (x : Rec) : EF := ((entryR x).1, fun k => dget (callersR x.1 x.2.1 x.2.2) k)
theorem rep_rec (x : Rec) : RepE (entryR x) (recF x) := by
  refine ⟨rfl, ?_, fun k => rfl⟩
  show ((callersR x.1 x.2.1 x.2.2).map (·.1)).Nodup
  unfold callersR
  split <;> simp
noncomputable def Fstep (F : Str → Option EF) (x : Rec) : Str → Option EF := fun k => if k = nmOf x then some (mergeE ((F k).getD zeroF) (recF x)) else F k
theorem rep_step {b : Books} {F : Str → Option EF} (h : RepB b F) (x : Rec) : RepB (recStep b x) (Fstep F x) := by
  refine ⟨dput_nodup h.1 _ _, fun k => ?_⟩
  show ORel RepE (dget (dput b (nmOf x) _) k) (Fstep F x k)
  rw [dget_dput]
  unfold Fstep
  by_cases e : k = nmOf x
  · subst e
    rw [if_pos rfl, if_pos rfl]
    exact .some (rep_stat (rep_getD h _) (rep_rec x))
  · rw [if_neg e, if_neg e]; exact h.2 k
theorem rep_fold : ∀ {rs : List Rec} {b : Books} {F : Str → Option EF}, RepB b F → RepB (rs.foldl recStep b) (rs.foldl Fstep F)
  | [], _, _, h => h
  | x :: rs, _, _, h => rep_fold (rs := rs) (rep_step h x)
noncomputable def Fof (rs : List Rec) : Str → Option EF := rs.foldl Fstep fun _ => none
theorem rep_recs (rs : List Rec) : RepB (rs.foldl recStep []) (Fof rs) := rep_fold ⟨.nil, fun k => .none⟩
/-! the same in closed form -/
noncomputable def q4sum (f : Rec → Q4) (rs : List Rec) : Q4 := (S1 (fun x => (f x).1) rs, S1 (fun x => (f x).2.1) rs, S1 (fun x => (f x).2.2.1) rs, S1 (fun x => (f x).2.2.2) rs)
noncomputable def z4 : Q4 := (0, 0, 0, 0)
noncomputable def calls (name caller : Str) (x : Rec) : Bool := nmOf x == name && (!x.1.dropLast.isEmpty && parOf x == caller)
noncomputable def quadR (x : Rec) : Q4 := (entryR x).1
noncomputable def freshB (x : Rec) : Int := b2i (!(pairsOf x.1.dropLast).contains [parOf x, nmOf x])
noncomputable def quadC (x : Rec) : Q4 := (1, freshB x, x.2.1, x.2.2 * freshB x)
noncomputable def closedC (rs : List Rec) (name caller : Str) : Option Q4 := if rs.any (calls name caller) then some (q4sum (fun x => if calls name caller x then quadC x else z4) rs) else none
noncomputable def closed (rs : List Rec) (name : Str) : Option EF := if rs.any (fun x => nmOf x == name) then some (q4sum (fun x => if nmOf x == name then quadR x else z4) rs, closedC rs name) else none
theorem q4sum_append (f : Rec → Q4) (a b : List Rec) : q4sum f (a ++ b) = qadd (q4sum f a) (q4sum f b) := by
  unfold q4sum qadd
  simp only [S1_append]
  refine Prod.ext (Int.add_comm _ _) (Prod.ext (Int.add_comm _ _) (Prod.ext (Int.add_comm _ _) (Int.add_comm _ _)))
theorem q4sum_none {f : Rec → Q4} {rs : List Rec} (h : ∀ x ∈ rs, f x = z4) : q4sum f rs = z4 := by
  unfold q4sum z4
  rw [S1_zero fun x hx => by rw [h x hx]; rfl, S1_zero fun x hx => by rw [h x hx]; rfl, S1_zero fun x hx => by rw [h x hx]; rfl, S1_zero fun x hx => by rw [h x hx]; rfl]
theorem qadd_z4 (q : Q4) : qadd q z4 = q := by unfold qadd z4; simp
theorem z4_qadd (q : Q4) : qadd z4 q = q := by unfold qadd z4; simp
theorem any_false {p : Rec → Bool} {rs : List Rec} (h : rs.any p = false) : ∀ x ∈ rs, p x = false := fun x hx => by
  cases q : p x with
  | false => rfl
  | true => rw [List.any_eq_true.mpr ⟨x, hx, q⟩] at h; cases h
theorem closedC_append (a b : List Rec) (name caller : Str) : closedC (a ++ b) name caller = mergeO qadd (closedC a name caller) (closedC b name caller) := by
  unfold closedC
  rw [List.any_append]
  cases ha : a.any (calls name caller) <;> cases hb : b.any (calls name caller)
  · rfl
  · rw [if_pos rfl, q4sum_append, q4sum_none (rs := a) fun x hx => by rw [any_false ha x hx]; rfl, z4_qadd]; rfl
  · rw [if_pos rfl, q4sum_append, q4sum_none (rs := b) fun x hx => by rw [any_false hb x hx]; rfl, qadd_z4]; rfl
  · rw [if_pos rfl, q4sum_append]; rfl
end Mine
end
section
open PySem
set_option linter.unusedVariables false
namespace Mine
noncomputable def mergeF : Option EF → Option EF → Option EF
  | none, b => b
  | some a, none => some a
  | some a, some b => some (mergeE a b)
theorem closed_append (a b : List Rec) (name : Str) : closed (a ++ b) name = mergeF (closed a name) (closed b name) := by
  have noC : ∀ {rs : List Rec}, rs.any (fun x => nmOf x == name) = false → ∀ caller, closedC rs name caller = none := fun {rs} h caller => by
    unfold closedC
    rw [if_neg]
    intro q
    obtain ⟨x, hx, q⟩ := List.any_eq_true.mp q
    unfold calls at q
    rw [any_false h x hx] at q; simp at q
  unfold closed
  rw [List.any_append]
  cases ha : a.any (fun x => nmOf x == name) <;> cases hb : b.any (fun x => nmOf x == name)
  · rfl
  · rw [if_pos rfl, q4sum_append, q4sum_none (rs := a) fun x hx => by rw [any_false ha x hx]; rfl, z4_qadd]
    show some (_, closedC (a ++ b) name) = some (_, closedC b name)
    congr 2
    funext k
    rw [closedC_append, noC ha]; rfl
  · rw [if_pos rfl, q4sum_append, q4sum_none (rs := b) fun x hx => by rw [any_false hb x hx]; rfl, qadd_z4]
    show some (_, closedC (a ++ b) name) = some (_, closedC a name)
    congr 2
    funext k
    rw [closedC_append, noC hb]
    cases closedC a name k <;> rfl
  · rw [if_pos rfl, q4sum_append]
    show some (_, closedC (a ++ b) name) = some (_, fun k => mergeO qadd (closedC a name k) (closedC b name k))
    congr 2
    funext k
    exact closedC_append a b name k
theorem q4sum_one (f : Rec → Q4) (x : Rec) : q4sum f [x] = f x := by
  unfold q4sum
  simp [S1]
theorem closed_one (x : Rec) (name : Str) : closed [x] name = if name = nmOf x then some (recF x) else none := by
  unfold closed
  by_cases h : name = nmOf x
  · subst h
    rw [if_pos rfl, if_pos (by simp), q4sum_one, if_pos (by simp)]
    show some (quadR x, closedC [x] (nmOf x)) = some ((entryR x).1, fun k => dget (callersR x.1 x.2.1 x.2.2) k)
    congr 2
    funext k
    unfold closedC callersR
    rw [q4sum_one]
    have hc : [x].any (calls (nmOf x) k) = (!x.1.dropLast.isEmpty && parOf x == k) := by simp [calls]
    rw [hc]
    by_cases e : x.1.dropLast = []
    · rw [if_pos e, e]; simp [dget]
    · rw [if_neg e, dget_cons]
      show _ = if parOf x = k then some (quadC x) else dget ([] : List (Str × Q4)) k
      have e' : x.1.dropLast.isEmpty = false := by cases q : x.1.dropLast with | nil => exact absurd q e | cons a b => rfl
      rw [e']
      by_cases z : parOf x = k
      · subst z
        rw [if_pos (by simp), if_pos (rfl : parOf x = parOf x), if_pos (by unfold calls; rw [e']; simp)]
      · rw [if_neg (by simpa using z), if_neg z]
        rfl
  · rw [if_neg h, if_neg]
    simpa using fun e => h e.symm
theorem mergeE_zero (y : EF) : mergeE zeroF y = y := by
  obtain ⟨q, g⟩ := y
  show (qadd z4 q, fun k => mergeO qadd none (g k)) = (q, g)
  rw [z4_qadd]; rfl
theorem Fstep_merge (F : Str → Option EF) (x : Rec) (name : Str) : Fstep F x name = mergeF (F name) (if name = nmOf x then some (recF x) else none) := by
  unfold Fstep
  by_cases h : name = nmOf x
  · rw [if_pos h, if_pos h]
    cases F name with
    | none => rw [Option.getD_none, mergeE_zero]; rfl
    | some a => rfl
  · rw [if_neg h, if_neg h]
    cases F name <;> rfl
theorem Fof_closed (rs : List Rec) : Fof rs = closed rs := by
  have key : ∀ (t rs : List Rec), t.foldl Fstep (closed rs) = closed (rs ++ t) := by
    intro t
    induction t with
    | nil => intro rs; simp
    | cons x t ih =>
      intro rs
      rw [List.foldl_cons]
      have : Fstep (closed rs) x = closed (rs ++ [x]) := funext fun k => by rw [Fstep_merge, closed_append, closed_one]
      rw [this, ih]; simp
  have := key rs []
  exact this
/-- the two runs' books put together -/
theorem rep_both {b1 b2 : Books} {r1 r2 : List Rec} {words : List Str} (h1 : RepB b1 (closed r1)) (h2 : RepB b2 (closed r2)) (hw : ∀ x ∈ r1 ++ r2, nmOf x ∈ words) : RepB (bothP b1 b2 words) (closed (r1 ++ r2)) := by
  have key : ∀ (ws : List Str) (acc : Books), (acc.map (·.1)).Nodup → ((ws.foldl (bothStep b1 b2) acc).map (·.1)).Nodup ∧ ∀ k, dget (ws.foldl (bothStep b1 b2) acc) k = if k ∈ ws ∧ ((dget b1 k).isSome || (dget b2 k).isSome) = true then some (stat ((dget b1 k).getD zeroE) ((dget b2 k).getD zeroE)) else dget acc k := by
    intro ws
    induction ws with
    | nil => intro acc h; exact ⟨h, fun k => by simp⟩
    | cons w ws ih =>
      intro acc h
      rw [List.foldl_cons]
      have hn : ((bothStep b1 b2 acc w).map (·.1)).Nodup := by
        unfold bothStep; split
        · exact dput_nodup h _ _
        · exact h
      obtain ⟨p, q⟩ := ih _ hn
      refine ⟨p, fun k => ?_⟩
      rw [q k]
      by_cases hk : k ∈ ws ∧ ((dget b1 k).isSome || (dget b2 k).isSome) = true
      · rw [if_pos hk, if_pos ⟨List.mem_cons_of_mem _ hk.1, hk.2⟩]
      · rw [if_neg hk]
        unfold bothStep
        by_cases e : k = w
        · subst e
          by_cases z : ((dget b1 k).isSome || (dget b2 k).isSome) = true
          · rw [if_pos z, dget_dput, if_pos rfl, if_pos ⟨List.mem_cons_self, z⟩]
          · rw [if_neg z, if_neg fun y => z y.2]
        · have e2 : ¬ (k ∈ w :: ws ∧ ((dget b1 k).isSome || (dget b2 k).isSome) = true) := fun y => hk ⟨(List.mem_cons.mp y.1).resolve_left e, y.2⟩
          rw [if_neg e2]
          split
          · rw [dget_dput, if_neg e]
          · rfl
  obtain ⟨p, q⟩ := key words [] .nil
  refine ⟨p, fun k => ?_⟩
  show ORel RepE (dget (words.foldl (bothStep b1 b2) []) k) (closed (r1 ++ r2) k)
  rw [q k, closed_append]
  have p1 := h1.2 k
  have p2 := h2.2 k
  have m : k ∉ words → closed r1 k = none ∧ closed r2 k = none := fun hk => by
    have : ∀ r : List Rec, (∀ x ∈ r, x ∈ r1 ++ r2) → closed r k = none := fun r hr => by
      unfold closed
      rw [if_neg]
      intro z
      obtain ⟨x, hx, e⟩ := List.any_eq_true.mp z
      exact hk (beq_iff_eq.mp e ▸ hw x (hr x hx))
    exact ⟨this r1 fun x hx => List.mem_append_left _ hx, this r2 fun x hx => List.mem_append_right _ hx⟩
  by_cases hk : k ∈ words
  · revert p1 p2
    generalize dget b1 k = x
    generalize dget b2 k = y
    generalize closed r1 k = u
    generalize closed r2 k = v
    intro p1 p2
    cases p1 with
    | none =>
      cases p2 with
      | none => rw [if_neg (by simp)]; exact .none
      | some p2 =>
        rw [if_pos ⟨hk, rfl⟩]
        have := rep_stat rep_zero p2
        rw [mergeE_zero] at this
        exact .some this
    | some p1 =>
      cases p2 with
      | none =>
        rw [if_pos ⟨hk, rfl⟩]
        have := rep_stat p1 rep_zero
        refine .some ?_
        rename_i a b
        have e : mergeE b zeroF = b := by
          obtain ⟨q, g⟩ := b
          show (qadd q z4, fun k => mergeO qadd (g k) none) = (q, g)
          rw [qadd_z4]
          congr 1
          funext k
          cases g k <;> rfl
        rw [e] at this
        exact this
      | some p2 =>
        rw [if_pos ⟨hk, rfl⟩]
        exact .some (rep_stat p1 p2)
  · rw [if_neg fun y => hk y.1, (m hk).1, (m hk).2]
    exact .none
end Mine
end
section
open PySem
set_option linter.unusedVariables false
namespace Mine
noncomputable def comeT (come : List (List Str)) : Tab := come.map fun p => (joinP p, 1)
noncomputable def workT (work : List (List Str × Int)) : Tab := work.map fun p => (joinP p.1, p.2)
noncomputable def rowsOf (come : List (List Str)) (work : List (List Str × Int)) : List Row := (tabK (comeT come)).map fun p => rowOf (tabK (comeT come)) (tabK (workT work)) p.1
theorem tabK_getD (l : Tab) (x : Str) : (dget (tabK l) x).getD 0 = sAt l x := by
  rw [tabK_get]
  by_cases h : x ∈ l.map (·.1)
  · rw [if_pos h]; rfl
  · rw [if_neg h, sAt_none h]; rfl
/-- the paths' texts can be taken apart again -/
structure SplitOk (come : List (List Str)) (work : List (List Str × Int)) : Prop where
  sp : ∀ p ∈ come, Txt.split (joinP p) ";" = p
  wk : ∀ p ∈ work, p.1 ∈ come
theorem b2i_mul (b : Bool) (n : Int) : b2i b * n = if b then n else 0 := by cases b <;> simp [b2i]
section
variable {come : List (List Str)} {work : List (List Str × Int)}
theorem sumC_rows (h : SplitOk come work) (ψ : List Str → Bool) : sumC ((rowsOf come work).filter fun r => ψ r.names) = S1 (fun p => b2i (ψ p)) come := by
  unfold sumC
  rw [sum_S1, S1_filter]
  unfold rowsOf
  rw [S1_map]
  unfold tabK
  rw [S1_map]
  have e := S1_keys (fun x => b2i (ψ (Txt.split x ";"))) (K := kfold [] ((comeT come).map (·.1))) (kfold_nodup .nil) (l := comeT come) fun p hp => kfold_mem.mpr (.inr (List.mem_map.mpr ⟨p, hp, rfl⟩))
  have e2 : S1 (fun p : Str × Int => b2i (ψ (Txt.split p.1 ";")) * p.2) (comeT come) = S1 (fun p => b2i (ψ p)) come := by
    unfold comeT
    rw [S1_map]
    refine S1_congr fun p hp => ?_
    show b2i (ψ (Txt.split (joinP p) ";")) * 1 = _
    rw [h.sp p hp, Int.mul_one]
  rw [← e2, ← e]
  refine S1_congr fun x _ => ?_
  rw [b2i_mul]
  show (if ψ (Txt.split x ";") then (dget (tabK (comeT come)) x).getD 0 else 0) = _
  rw [tabK_getD]
theorem sumW_rows (h : SplitOk come work) (ψ : List Str → Bool) : sumW ((rowsOf come work).filter fun r => ψ r.names) = S1 (fun p => b2i (ψ p.1) * p.2) work := by
  unfold sumW
  rw [sum_S1, S1_filter]
  unfold rowsOf
  rw [S1_map]
  have hk : ∀ p ∈ workT work, p.1 ∈ kfold [] ((comeT come).map (·.1)) := fun p hp => by
    unfold workT at hp
    obtain ⟨q, hq, rfl⟩ := List.mem_map.mp hp
    refine kfold_mem.mpr (.inr ?_)
    unfold comeT
    rw [List.map_map]
    exact List.mem_map.mpr ⟨q.1, h.wk q hq, rfl⟩
  have e := S1_keys (fun x => b2i (ψ (Txt.split x ";"))) (K := kfold [] ((comeT come).map (·.1))) (kfold_nodup .nil) (l := workT work) hk
  have e2 : S1 (fun p : Str × Int => b2i (ψ (Txt.split p.1 ";")) * p.2) (workT work) = S1 (fun p => b2i (ψ p.1) * p.2) work := by
    unfold workT
    rw [S1_map]
    refine S1_congr fun p hp => ?_
    show b2i (ψ (Txt.split (joinP p.1) ";")) * p.2 = _
    rw [h.sp _ (h.wk p hp)]
  rw [← e2, ← e]
  have : tabK (comeT come) = (kfold [] ((comeT come).map (·.1))).map fun x => (x, sAt (comeT come) x) := rfl
  rw [this, S1_map]
  refine S1_congr fun x _ => ?_
  rw [b2i_mul]
  show (if ψ (Txt.split x ";") then (dget (tabK (workT work)) x).getD 0 else 0) = _
  rw [tabK_getD]
theorem any_pos {α : Type} (p : α → Bool) : ∀ l : List α, 0 ≤ S1 (fun a => b2i (p a)) l ∧ (l.any p = true ↔ 0 < S1 (fun a => b2i (p a)) l)
  | [] => ⟨Int.le_refl _, by simp [S1]⟩
  | a :: l => by
    obtain ⟨h1, h2⟩ := any_pos p l
    rw [List.any_cons]
    have e : S1 (fun a => b2i (p a)) (a :: l) = b2i (p a) + S1 (fun a => b2i (p a)) l := rfl
    rw [e]
    generalize S1 (fun a => b2i (p a)) l = n at *
    cases q : p a with
    | true => 
      have : b2i true = 1 := rfl
      rw [this]; exact ⟨by omega, by simp; omega⟩
    | false =>
      have : b2i false = 0 := rfl
      rw [this, Bool.false_or]; exact ⟨by omega, by rw [h2]; omega⟩
theorem rows_empty (h : SplitOk come work) (ψ : List Str → Bool) : ((rowsOf come work).filter fun r => ψ r.names).isEmpty = !come.any ψ := by
  have e : ((rowsOf come work).any fun r => ψ r.names) = come.any ψ := by
    refine Bool.eq_iff_iff.mpr ⟨fun q => ?_, fun q => ?_⟩
    · obtain ⟨r, hr, q⟩ := List.any_eq_true.mp q
      unfold rowsOf at hr
      obtain ⟨x, hx, rfl⟩ := List.mem_map.mp hr
      obtain ⟨y, hy, e⟩ := tabK_mem hx
      unfold comeT at hy
      obtain ⟨p, hp, rfl⟩ := List.mem_map.mp hy
      have q : ψ (Txt.split x.1 ";") = true := q
      rw [← e] at q
      have q : ψ (Txt.split (joinP p) ";") = true := q
      rw [h.sp p hp] at q
      exact List.any_eq_true.mpr ⟨p, hp, q⟩
    · obtain ⟨p, hp, q⟩ := List.any_eq_true.mp q
      have hm : joinP p ∈ (tabK (comeT come)).map (·.1) := by
        rw [tabK_keys, kfold_mem]
        right
        unfold comeT
        rw [List.map_map]
        exact List.mem_map.mpr ⟨p, hp, rfl⟩
      obtain ⟨x, hx, e⟩ := List.mem_map.mp hm
      refine List.any_eq_true.mpr ⟨rowOf (tabK (comeT come)) (tabK (workT work)) x.1, List.mem_map.mpr ⟨x, hx, rfl⟩, ?_⟩
      show ψ (Txt.split x.1 ";") = true
      have e : x.1 = joinP p := e
      rw [e, h.sp p hp]; exact q
  rw [← e]
  induction rowsOf come work with
  | nil => rfl
  | cons a l ih =>
    rw [List.filter_cons, List.any_cons]
    cases q : ψ a.names with
    | true => rfl
    | false => simpa using ih
end
end Mine
end
section
open PySem
set_option linter.unusedVariables false
namespace Mine
theorem snoc_ind {P : List Str → Prop} (h0 : P []) (h : ∀ p x, P p → P (p ++ [x])) : ∀ l, P l := fun l => by
  have key : ∀ r : List Str, P r.reverse := by
    intro r
    induction r with
    | nil => exact h0
    | cons x r ih => rw [List.reverse_cons]; exact h _ x ih
  have := key l.reverse
  rwa [List.reverse_reverse] at this
noncomputable def firstB (name : Str) (p : List Str) : Bool := p.getLastD "" == name && !(p.take (p.length - 1)).contains name
theorem firstB_snoc (name x : Str) (p : List Str) : firstB name (p ++ [x]) = (x == name && !p.contains name) := by
  unfold firstB
  rw [List.getLastD_concat]
  have : (p ++ [x]).take ((p ++ [x]).length - 1) = p := by
    rw [List.length_append, List.length_singleton, Nat.add_sub_cancel, List.take_left]
  rw [this]
theorem Pre_first (name : Str) : ∀ path : List Str, Pre (fun p => b2i (firstB name p)) path = b2i (path.contains name) := by
  refine snoc_ind rfl fun p x ih => ?_
  rw [Pre_snoc, ih, firstB_snoc]
  have hc : (p ++ [x]).contains name = (p.contains name || x == name) := by
    rw [Bool.eq_iff_iff]
    simp only [List.contains_iff_mem, List.mem_append, List.mem_singleton, Bool.or_eq_true, beq_iff_eq]
    constructor
    · rintro (h | h)
      · exact .inl h
      · exact .inr h.symm
    · rintro (h | h)
      · exact .inl h
      · exact .inr h.symm
  rw [hc]
  cases p.contains name <;> cases (x == name) <;> rfl
theorem pairsOf_snoc (p : List Str) (x : Str) : pairsOf (p ++ [x]) = if p = [] then [] else pairsOf p ++ [[p.getLastD "", x]] := by
  induction p with
  | nil => rfl
  | cons a p ih =>
    rw [if_neg (by simp)]
    cases p with
    | nil => rfl
    | cons b p =>
      rw [if_neg (by simp)] at ih
      have e1 : pairsOf (a :: b :: p ++ [x]) = [a, b] :: pairsOf (b :: p ++ [x]) := rfl
      have e2 : pairsOf (a :: b :: p) = [a, b] :: pairsOf (b :: p) := rfl
      rw [e1, ih, e2]
      rfl
noncomputable def callB (caller name : Str) (p : List Str) : Bool := (pairsOf p).drop ((pairsOf p).length - 1) == [[caller, name]]
noncomputable def pairB (caller name : Str) (p : List Str) : Bool := callB caller name p && !((pairsOf p).take ((pairsOf p).length - 1)).contains [caller, name]
theorem callB_snoc (caller name x : Str) (p : List Str) : callB caller name (p ++ [x]) = (x == name && (!p.isEmpty && p.getLastD "" == caller)) := by
  unfold callB
  rw [pairsOf_snoc]
  cases p with
  | nil => simp
  | cons a p =>
    rw [if_neg (by simp)]
    have : (pairsOf (a :: p) ++ [[(a :: p).getLastD "", x]]).drop ((pairsOf (a :: p) ++ [[(a :: p).getLastD "", x]]).length - 1) = [[(a :: p).getLastD "", x]] := by
      rw [List.length_append, List.length_singleton, Nat.add_sub_cancel, List.drop_left]
    rw [this]
    generalize (a :: p).getLastD "" = y
    rw [Bool.eq_iff_iff]
    simp
    exact And.comm
theorem pairB_snoc (caller name x : Str) (p : List Str) : pairB caller name (p ++ [x]) = (callB caller name (p ++ [x]) && !(pairsOf p).contains [caller, name]) := by
  unfold pairB
  congr 2
  rw [pairsOf_snoc]
  by_cases h : p = []
  · subst h; rfl
  · rw [if_neg h, List.length_append, List.length_singleton, Nat.add_sub_cancel, List.take_left]
theorem Pre_pair (caller name : Str) : ∀ path : List Str, Pre (fun p => b2i (pairB caller name p)) path = b2i ((pairsOf path).contains [caller, name]) := by
  refine snoc_ind rfl fun p x ih => ?_
  rw [Pre_snoc, ih, pairB_snoc]
  have hc : (pairsOf (p ++ [x])).contains [caller, name] = ((pairsOf p).contains [caller, name] || callB caller name (p ++ [x])) := by
    rw [callB_snoc, pairsOf_snoc]
    cases p with
    | nil => simp [pairsOf]
    | cons a p =>
      rw [if_neg (by simp), Bool.eq_iff_iff]
      generalize (a :: p).getLastD "" = y
      simp only [List.contains_iff_mem, List.mem_append, List.mem_singleton, Bool.or_eq_true]
      refine or_congr Iff.rfl ?_
      simp
      constructor
      · rintro ⟨rfl, rfl⟩; exact ⟨rfl, rfl⟩
      · rintro ⟨rfl, rfl⟩; exact ⟨rfl, rfl⟩
  rw [hc]
  cases (pairsOf p).contains [caller, name] <;> cases callB caller name (p ++ [x]) <;> rfl
end Mine
end
section
open PySem
set_option linter.unusedVariables false
namespace Mine
/-- a table filled key by key, where a test holds -/
theorem putIf_fold {α : Type} (c : Str → Bool) (e : Str → α) : ∀ (ws : List Str) (acc : List (Str × α)), (acc.map (·.1)).Nodup →
    ((ws.foldl (fun acc w => if c w then dput acc w (e w) else acc) acc).map (·.1)).Nodup ∧ ∀ k, dget (ws.foldl (fun acc w => if c w then dput acc w (e w) else acc) acc) k = if k ∈ ws ∧ c k = true then some (e k) else dget acc k
  | [], acc, h => ⟨h, fun k => by simp⟩
  | w :: ws, acc, h => by
    rw [List.foldl_cons]
    have hn : ((if c w then dput acc w (e w) else acc).map (·.1)).Nodup := by
      split
      · exact dput_nodup h _ _
      · exact h
    obtain ⟨p, q⟩ := putIf_fold c e ws _ hn
    refine ⟨p, fun k => ?_⟩
    rw [q k]
    by_cases hk : k ∈ ws ∧ c k = true
    · rw [if_pos hk, if_pos ⟨List.mem_cons_of_mem _ hk.1, hk.2⟩]
    · rw [if_neg hk]
      by_cases e' : k = w
      · subst e'
        by_cases z : c k = true
        · rw [if_pos z, dget_dput, if_pos rfl, if_pos ⟨List.mem_cons_self, z⟩]
        · rw [if_neg z, if_neg fun y => z y.2]
      · have e2 : ¬ (k ∈ w :: ws ∧ c k = true) := fun y => hk ⟨(List.mem_cons.mp y.1).resolve_left e', y.2⟩
        rw [if_neg e2]
        split
        · rw [dget_dput, if_neg e']
        · rfl
theorem nm_first (name : Str) (x : Rec) : (if nmOf x == name then quadR x else z4) = (b2i (firstB name x.1), b2i (nmOf x == name), b2i (nmOf x == name) * x.2.1, b2i (firstB name x.1) * x.2.2) := by
  unfold firstB quadR entryR nmOf
  rw [← List.dropLast_eq_take]
  cases h : (x.1.getLastD "" == name) with
  | false => simp [b2i, z4]
  | true =>
    have e := beq_iff_eq.mp h
    rw [← e]
    simp only [if_true, Bool.true_and]
    refine Prod.ext rfl (Prod.ext rfl (Prod.ext ?_ ?_))
    · simp [b2i]
    · exact Int.mul_comm _ _
theorem calls_callB (name caller : Str) (x : Rec) (hne : x.1 ≠ []) : calls name caller x = callB caller name x.1 := by
  obtain ⟨path, o, w⟩ := x
  have e : path = path.dropLast ++ [path.getLastD ""] := by
    have h := List.dropLast_concat_getLast hne
    have : path.getLast hne = path.getLastD "" := by rw [List.getLastD_eq_getLast?, List.getLast?_eq_some_getLast hne]; rfl
    rw [this] at h
    exact h.symm
  show (path.getLastD "" == name && (!path.dropLast.isEmpty && path.dropLast.getLastD "" == caller)) = callB caller name path
  conv => rhs; rw [e]
  rw [callB_snoc]
end Mine
end
section
open PySem
set_option linter.unusedVariables false
namespace Mine
theorem calls_fresh (name caller : Str) (x : Rec) (hne : x.1 ≠ []) : (if calls name caller x then quadC x else z4) = (b2i (callB caller name x.1), b2i (pairB caller name x.1), b2i (callB caller name x.1) * x.2.1, b2i (pairB caller name x.1) * x.2.2) := by
  rw [← calls_callB name caller x hne]
  have hp : pairB caller name x.1 = (calls name caller x && !(pairsOf x.1.dropLast).contains [caller, name]) := by
    have e : x.1 = x.1.dropLast ++ [x.1.getLastD ""] := by
      have h := List.dropLast_concat_getLast hne
      have : x.1.getLast hne = x.1.getLastD "" := by rw [List.getLastD_eq_getLast?, List.getLast?_eq_some_getLast hne]; rfl
      rw [this] at h
      exact h.symm
    rw [calls_callB name caller x hne]
    conv => lhs; rw [e]
    rw [pairB_snoc, ← e]
  rw [hp]
  cases h : calls name caller x with
  | false => simp [b2i, z4]
  | true =>
    unfold calls at h
    simp only [Bool.and_eq_true] at h
    have e1 := beq_iff_eq.mp h.1
    have e2 := beq_iff_eq.mp h.2.2
    unfold quadC freshB
    rw [e1, e2]
    simp only [if_true, Bool.true_and]
    refine Prod.ext rfl (Prod.ext rfl (Prod.ext ?_ ?_))
    · simp [b2i]
    · exact Int.mul_comm _ _
end Mine
end
section
open PySem
set_option linter.unusedVariables false
namespace Mine
section
variable {come : List (List Str)} {work : List (List Str × Int)} {recs : List Rec}
theorem closed_quads (S : RunSums recs come work) (name : Str) : q4sum (fun x => if nmOf x == name then quadR x else z4) recs =
    (S1 (fun p => b2i (firstB name p)) come, S1 (fun p => b2i (p.getLastD "" == name)) come, S1 (fun p => b2i (p.1.getLastD "" == name) * p.2) work, S1 (fun p => b2i (p.1.contains name) * p.2) work) := by
  refine Prod.ext ?_ (Prod.ext ?_ (Prod.ext ?_ ?_))
  · exact (S1_congr fun x _ => congrArg (fun q : Q4 => q.1) (nm_first name x)).trans (S.s1 fun p => b2i (firstB name p))
  · exact (S1_congr fun x _ => congrArg (fun q : Q4 => q.2.1) (nm_first name x)).trans (S.s1 fun p => b2i (p.getLastD "" == name))
  · exact (S1_congr fun x _ => congrArg (fun q : Q4 => q.2.2.1) (nm_first name x)).trans (S.s2 fun p => b2i (p.getLastD "" == name))
  · refine ((S1_congr fun x _ => congrArg (fun q : Q4 => q.2.2.2) (nm_first name x)).trans (S.s3 fun p => b2i (firstB name p))).trans (S1_congr fun p _ => ?_)
    rw [Pre_first]
theorem closed_callers (S : RunSums recs come work) (hne : ∀ x ∈ recs, x.1 ≠ []) (name caller : Str) : q4sum (fun x => if calls name caller x then quadC x else z4) recs =
    (S1 (fun p => b2i (callB caller name p)) come, S1 (fun p => b2i (pairB caller name p)) come, S1 (fun p => b2i (callB caller name p.1) * p.2) work, S1 (fun p => b2i ((pairsOf p.1).contains [caller, name]) * p.2) work) := by
  refine Prod.ext ?_ (Prod.ext ?_ (Prod.ext ?_ ?_))
  · exact (S1_congr fun x hx => congrArg (fun q : Q4 => q.1) (calls_fresh name caller x (hne x hx))).trans (S.s1 fun p => b2i (callB caller name p))
  · exact (S1_congr fun x hx => congrArg (fun q : Q4 => q.2.1) (calls_fresh name caller x (hne x hx))).trans (S.s1 fun p => b2i (pairB caller name p))
  · exact (S1_congr fun x hx => congrArg (fun q : Q4 => q.2.2.1) (calls_fresh name caller x (hne x hx))).trans (S.s2 fun p => b2i (callB caller name p))
  · refine ((S1_congr fun x hx => congrArg (fun q : Q4 => q.2.2.2) (calls_fresh name caller x (hne x hx))).trans (S.s3 fun p => b2i (pairB caller name p))).trans (S1_congr fun p _ => ?_)
    rw [Pre_pair]
theorem any_recs (S : RunSums recs come work) (name : Str) : recs.any (fun x => nmOf x == name) = come.any fun p => p.getLastD "" == name := by
  rw [Bool.eq_iff_iff, (any_pos _ recs).2, (any_pos _ come).2, ← S.s1 fun p => b2i (p.getLastD "" == name)]
  rfl
theorem any_calls (S : RunSums recs come work) (hne : ∀ x ∈ recs, x.1 ≠ []) (name caller : Str) : recs.any (calls name caller) = come.any (callB caller name) := by
  rw [Bool.eq_iff_iff, (any_pos _ recs).2, (any_pos _ come).2, ← S.s1 fun p => b2i (callB caller name p)]
  have : S1 (fun x => b2i (calls name caller x)) recs = S1 (fun x : Rec => b2i (callB caller name x.1)) recs := S1_congr fun x hx => by rw [calls_callB name caller x (hne x hx)]
  rw [this]
end
end Mine
end
section
open PySem
set_option linter.unusedVariables false
namespace Mine
theorem callB_last {caller name : Str} {p : List Str} (h : callB caller name p = true) : (p.getLastD "" == name) = true := by
  by_cases e : p = []
  · subst e
    have : callB caller name [] = false := rfl
    rw [this] at h; cases h
  · have hd := List.dropLast_concat_getLast e
    have hl : p.getLast e = p.getLastD "" := by rw [List.getLastD_eq_getLast?, List.getLast?_eq_some_getLast e]; rfl
    rw [hl] at hd
    rw [← hd, callB_snoc] at h
    simp only [Bool.and_eq_true] at h
    exact h.1
theorem callB_and (caller name : Str) (p : List Str) : (callB caller name p && p.getLastD "" == name) = callB caller name p := by
  cases h : callB caller name p with
  | false => rfl
  | true => rw [callB_last h]; rfl
section
variable {come : List (List Str)} {work : List (List Str × Int)} {recs : List Rec}
theorem rep_told {words : List Str} (h : SplitOk come work) (S : RunSums recs come work) (hne : ∀ x ∈ recs, x.1 ≠ []) (hn : ∀ p ∈ come, p.getLastD "" ∈ words) (hp : ∀ p ∈ come, ∀ caller name, callB caller name p = true → caller ∈ words) :
    RepB (toldP (tabK (comeT come)) (tabK (workT work)) words) (closed recs) := by
  have hrows : (tabK (comeT come)).map (fun p => rowOf (tabK (comeT come)) (tabK (workT work)) p.1) = rowsOf come work := rfl
  let ent : Str → Entry := fun name => ((sumC ((mineP (rowsOf come work) name).filter fun r => !(r.names.take (r.names.length - 1)).contains name), sumC (mineP (rowsOf come work) name), sumW (mineP (rowsOf come work) name), sumW ((rowsOf come work).filter fun r => r.names.contains name)), words.foldl (callerStep (rowsOf come work) (mineP (rowsOf come work) name) name) [])
  have hfold : toldP (tabK (comeT come)) (tabK (workT work)) words = words.foldl (fun acc w => if (!(mineP (rowsOf come work) w).isEmpty) then dput acc w (ent w) else acc) [] := by
    unfold toldP
    rw [hrows]
    congr 1
    funext acc w
    unfold toldStep
    cases q : (mineP (rowsOf come work) w).isEmpty <;> simp [q, ent]
  have mE : ∀ name, (!(mineP (rowsOf come work) name).isEmpty) = recs.any (fun x => nmOf x == name) := fun name => by
    have e : (mineP (rowsOf come work) name).isEmpty = !come.any (fun p => p.getLastD "" == name) := rows_empty h (fun p : List Str => p.getLastD "" == name)
    rw [any_recs S, e, Bool.not_not]
  obtain ⟨p, q⟩ := putIf_fold (fun w => !(mineP (rowsOf come work) w).isEmpty) ent words [] .nil
  rw [hfold]
  refine ⟨p, fun k => ?_⟩
  rw [q k, mE]
  unfold closed
  by_cases hk : recs.any (fun x => nmOf x == k) = true
  · have hw : k ∈ words := by
      rw [any_recs S] at hk
      obtain ⟨p, hp, e⟩ := List.any_eq_true.mp hk
      exact beq_iff_eq.mp e ▸ hn p hp
    rw [if_pos ⟨hw, hk⟩, if_pos hk]
    refine .some ⟨?_, ?_⟩
    · show (ent k).1 = q4sum (fun x => if nmOf x == k then quadR x else z4) recs
      rw [closed_quads S]
      refine Prod.ext ?_ (Prod.ext ?_ (Prod.ext ?_ ?_))
      · show sumC (((rowsOf come work).filter fun r => r.names.getLastD "" == k).filter fun r => !(r.names.take (r.names.length - 1)).contains k) = _
        rw [List.filter_filter]
        refine (sumC_rows h fun p => !(p.take (p.length - 1)).contains k && p.getLastD "" == k).trans (S1_congr fun p _ => ?_)
        unfold firstB
        rw [Bool.and_comm]
      · exact sumC_rows h fun p => p.getLastD "" == k
      · exact sumW_rows h fun p => p.getLastD "" == k
      · exact sumW_rows h fun p => p.contains k
    · let cal : Str → List Row := fun w => calledP (mineP (rowsOf come work) k) w k
      have hcal : ∀ w, cal w = (rowsOf come work).filter fun r => callB w k r.names := fun w => by
        show ((rowsOf come work).filter fun r => r.names.getLastD "" == k).filter (fun r => callB w k r.names) = _
        rw [List.filter_filter]
        congr 1
        funext r
        exact callB_and w k r.names
      let quad : Str → Q4 := fun w => (sumC (cal w), sumC ((cal w).filter fun r => !(r.pairs.take (r.pairs.length - 1)).contains [w, k]), sumW (cal w), sumW ((rowsOf come work).filter fun r => r.pairs.contains [w, k]))
      have hf : (ent k).2 = words.foldl (fun acc w => if (!(cal w).isEmpty) then dput acc w (quad w) else acc) [] := by
        show words.foldl (callerStep (rowsOf come work) (mineP (rowsOf come work) k) k) [] = _
        congr 1
        funext acc w
        unfold callerStep
        cases z : (calledP (mineP (rowsOf come work) k) w k).isEmpty <;> simp [z, quad, cal]
      obtain ⟨p', q'⟩ := putIf_fold (fun w => !(cal w).isEmpty) quad words [] .nil
      rw [hf]
      refine ⟨p', fun w => ?_⟩
      rw [q' w]
      show _ = closedC recs k w
      have hany : (!(cal w).isEmpty) = recs.any (calls k w) := by
        rw [any_calls S hne, hcal w, rows_empty h (callB w k), Bool.not_not]
      rw [hany]
      unfold closedC
      by_cases hc : recs.any (calls k w) = true
      · have hww : w ∈ words := by
          rw [any_calls S hne] at hc
          obtain ⟨p, hpp, e⟩ := List.any_eq_true.mp hc
          exact hp p hpp w k e
        rw [if_pos ⟨hww, hc⟩, if_pos hc, closed_callers S hne]
        congr 1
        refine Prod.ext ?_ (Prod.ext ?_ (Prod.ext ?_ ?_))
        · show sumC (cal w) = _
          rw [hcal w]; exact sumC_rows h (callB w k)
        · show sumC ((cal w).filter fun r => !(r.pairs.take (r.pairs.length - 1)).contains [w, k]) = _
          rw [hcal w, List.filter_filter]
          refine (sumC_rows h fun p => !((pairsOf p).take ((pairsOf p).length - 1)).contains [w, k] && callB w k p).trans (S1_congr fun p _ => ?_)
          unfold pairB
          rw [Bool.and_comm]
        · show sumW (cal w) = _
          rw [hcal w]; exact sumW_rows h (callB w k)
        · exact sumW_rows h fun p => (pairsOf p).contains [w, k]
      · rw [if_neg fun y => hc y.2, if_neg hc]
        rfl
  · rw [if_neg fun y => hk y.2, if_neg hk]
    exact .none
end
end Mine
end
section
open PySem
set_option linter.unusedVariables false
namespace Mine
/-- the marks of a pile of words -/
noncomputable def marksN : List Str → List Mark
  | [] => []
  | x :: l => ("", x) :: l.map fun y => (";", y)
theorem marksN_words : ∀ l : List Str, (marksN l).map (·.2) = l
  | [] => rfl
  | x :: l => by
    show x :: (l.map _).map _ = _
    rw [List.map_map]
    congr 1
    exact (List.map_congr_left fun y _ => rfl).trans (List.map_id l)
theorem marksN_length (l : List Str) : (marksN l).length = l.length := by
  have := congrArg List.length (marksN_words l)
  rwa [List.length_map] at this
theorem marksN_take : ∀ (l : List Str) (k : Nat), (marksN l).take k = marksN (l.take k)
  | [], k => by simp [marksN]
  | x :: l, 0 => rfl
  | x :: l, k + 1 => by
    show (("" : Str), x) :: (l.map fun y => ((";" : Str), y)).take k = (("" : Str), x) :: (l.take k).map fun y => ((";" : Str), y)
    rw [List.map_take]
theorem marksN_snoc {l : List Str} (h : l ≠ []) (w : Str) : marksN (l ++ [w]) = marksN l ++ [((";" : Str), w)] := by
  cases l with
  | nil => exact absurd rfl h
  | cons x l =>
    show (("" : Str), x) :: ((l ++ [w]).map fun y => ((";" : Str), y)) = _
    rw [List.map_append]; rfl
structure Rel (g : GSt) (R : RSt) (L : LSt) : Prop where
  st : R.st = g.st
  bk : R.bk = g.recs.foldl recStep []
  marks : R.marks = marksN (namesS g.st)
  come : R.come = tabK (comeT g.come)
  work : R.work = tabK (workT g.work)
  now : L.now = namesS g.st
  lcome : L.come = comeT g.come
  lwork : L.worked = workT g.work
theorem endG_path (g : GSt) (n : Int) (hk : keepOf g.st.length n ≤ g.st.length) : namesS (endG g n).2 = (namesS g.st).take (keepOf g.st.length n) := by
  unfold namesS
  rw [endG_names, List.take_reverse, List.length_map]
theorem rel_init (W : List Str) (hp : ∀ l : List Str, l ≠ [] → pileText (marksN l) = joinP l) : Rel (initG W) (initR W) (initL W) where
  st := rfl
  bk := rfl
  marks := rfl
  come := by
    show addG iadd (tabK []) [(pileText [("", W.getD 0 "")], 1)] = tabK (comeT [[W.getD 0 ""]])
    rw [addG_tabK1]
    have : pileText [("", W.getD 0 "")] = joinP [W.getD 0 ""] := hp [W.getD 0 ""] (by simp)
    rw [this]; rfl
  work := rfl
  now := rfl
  lcome := rfl
  lwork := rfl
theorem rel_step {W : List Str} {i : Nat} {g : GSt} {R : RSt} {L : LSt} {n : Int} (hp : ∀ l : List Str, l ≠ [] → pileText (marksN l) = joinP l) (hI : GInv W i g) (h : Rel g R L) : Rel (stepG W g n) (stepR W R n) (stepL W L n) := by
  have hpos : 0 < g.st.length := List.length_pos_iff.mpr hI.ne
  have hk2 := keepOf_le (n := n) hpos
  have hk1 := keepOf_pos g.st.length n
  have hml : R.marks.length = g.st.length := by rw [h.marks, marksN_length, namesS_length]
  have hnl : L.now.length = g.st.length := by rw [h.now, namesS_length]
  have he : endedR R n = ((endG g n).2, (endG g n).1.foldl recStep R.bk) := by
    unfold endedR endG
    rw [hml, h.st, endN_endR]
  have hpath := endG_path g n hk2
  have hne : namesS (endG g n).2 ≠ [] := fun e => by
    have hl : (namesS (endG g n).2).length = keepOf g.st.length n := by rw [hpath, List.length_take, namesS_length, Nat.min_eq_left hk2]
    rw [e] at hl; simp at hl; omega
  have hmt : R.marks.take (keepOf R.marks.length n) = marksN (namesS (endG g n).2) := by rw [hml, h.marks, marksN_take, hpath]
  have hnt : L.now.take (keepOf L.now.length n) = namesS (endG g n).2 := by rw [hnl, h.now, hpath]
  have hne0 : namesS g.st ≠ [] := fun e => by
    have := congrArg List.length e
    rw [namesS_length] at this; simp at this; exact hI.ne this
  have hwk : addG iadd R.work [(pileText R.marks, n)] = tabK (workT (g.work ++ [(namesS g.st, n)])) := by
    rw [h.work, addG_tabK1, h.marks, hp _ hne0]
    unfold workT
    rw [List.map_append]; rfl
  have hlw : L.worked ++ [(joinP L.now, n)] = workT (g.work ++ [(namesS g.st, n)]) := by
    rw [h.lwork, h.now]; unfold workT; rw [List.map_append]; rfl
  unfold stepG stepR stepL
  by_cases hq : pickOf n < 4
  · rw [if_pos hq, if_pos hq, if_pos hq]
    have hsn : namesS ((W.getD (pickOf n) "", 0, 0) :: (endG g n).2) = namesS (endG g n).2 ++ [W.getD (pickOf n) ""] := namesS_cons _ _
    have hpu : pushed W L.now n = namesS ((W.getD (pickOf n) "", 0, 0) :: (endG g n).2) := by unfold pushed; rw [hnt, hsn]
    have hm2 : R.marks.take (keepOf R.marks.length n) ++ [((";" : Str), W.getD (pickOf n) "")] = marksN (namesS ((W.getD (pickOf n) "", 0, 0) :: (endG g n).2)) := by rw [hmt, hsn, marksN_snoc hne]
    refine ⟨?_, ?_, hm2, ?_, hwk, hpu, ?_, hlw⟩
    · show _ :: (endedR R n).1 = _; rw [he]
    · show (endedR R n).2 = _; rw [he, h.bk, List.foldl_append]
    · show addG iadd R.come [(pileText (R.marks.take (keepOf R.marks.length n) ++ [((";" : Str), W.getD (pickOf n) "")]), 1)] = _
      rw [hm2, hp _ (by rw [hsn]; simp), h.come, addG_tabK1]
      unfold comeT
      rw [List.map_append]; rfl
    · show L.come ++ [(joinP (pushed W L.now n), 1)] = _
      rw [hpu, h.lcome]; unfold comeT; rw [List.map_append]; rfl
  · rw [if_neg hq, if_neg hq, if_neg hq]
    refine ⟨?_, ?_, hmt, h.come, hwk, hnt, h.lcome, hlw⟩
    · show (endedR R n).1 = _; rw [he]
    · show (endedR R n).2 = _; rw [he, h.bk, List.foldl_append]
theorem rel_loop {W : List Str} (hw : 4 ≤ W.length) (hp : ∀ l : List Str, l ≠ [] → pileText (marksN l) = joinP l) (ns : List Int) : Rel (loopG W ns) (loopR W ns) (listsP W ns) := by
  have key : ∀ (ns : List Int) (i : Nat) (g : GSt) (R : RSt) (L : LSt), GInv W i g → Rel g R L → Rel (ns.foldl (stepG W) g) (ns.foldl (stepR W) R) (ns.foldl (stepL W) L) := by
    intro ns
    induction ns with
    | nil => intro i g R L _ h; exact h
    | cons n ns ih => intro i g R L hI h; exact ih (i + 1) _ _ _ (stepG_inv hw hI) (rel_step hp hI h)
  exact key ns 0 _ _ _ (initG_inv hw) (rel_init W hp)
end Mine
end
section
open PySem PySem.StrLaws PySem.Builtin PySem.Builtin.Str PyProof
set_option linter.unusedVariables false
namespace Mine
/-- where the sign 59 stands -/
noncomputable def posL (a : Nat) : List Nat → List Nat
  | [] => []
  | c :: l => if c = 59 then a :: posL (a + 1) l else posL (a + 1) l
/-- cut at the sign 59 -/
noncomputable def cutL : List Nat → List (List Nat)
  | [] => [[]]
  | c :: l => if c = 59 then [] :: cutL l else match cutL l with
    | p :: r => (c :: p) :: r
    | [] => [[c]]
theorem cutL_ne (l : List Nat) : ∃ p r, cutL l = p :: r := by
  cases l with
  | nil => exact ⟨_, _, rfl⟩
  | cons c l =>
    unfold cutL
    split
    · exact ⟨_, _, rfl⟩
    · split
      · exact ⟨_, _, rfl⟩
      · exact ⟨_, _, rfl⟩
theorem cutL_word : ∀ {w : List Nat}, 59 ∉ w → cutL w = [w]
  | [], _ => rfl
  | c :: w, h => by
    have hc : ¬ c = 59 := fun e => h (e ▸ List.mem_cons_self)
    unfold cutL
    rw [if_neg hc, cutL_word fun q => h (List.mem_cons_of_mem _ q)]
theorem cutL_sep : ∀ {w : List Nat} (l : List Nat), 59 ∉ w → cutL (w ++ 59 :: l) = w :: cutL l
  | [], l, _ => by
    show cutL (59 :: l) = _
    rw [cutL, if_pos rfl]
  | c :: w, l, h => by
    have hc : ¬ c = 59 := fun e => h (e ▸ List.mem_cons_self)
    show cutL (c :: (w ++ 59 :: l)) = _
    rw [cutL, if_neg hc, cutL_sep l fun q => h (List.mem_cons_of_mem _ q)]
theorem semi_len : (";" : Str).length = 1 := by decide +kernel
theorem semi_cps : (";" : Str) = ⟨#[59]⟩ := by decide +kernel
theorem occ_loop (x : Str) (limit : Nat) : ∀ (l : List Nat) (a : Nat) (found : Array Nat) (free : Nat), x.cps.toList.drop a = l → free ≤ a → found.size + l.length < limit →
    (forIn (List.range' a (l.length + 1)) (found, free) (occBody x ⟨#[59]⟩ x.length limit)).run.fst.toList = found.toList ++ posL a l
  | [], a, found, free, hl, hf, hs => by
    have ha : x.cps.toList.length ≤ a := by
      have := congrArg List.length hl
      rw [List.length_drop] at this; simp at this ⊢; omega
    rw [show List.range' a (([] : List Nat).length + 1) = [a] from rfl, List.forIn_cons]
    unfold occBody
    rw [if_neg]
    · simp [posL]
    · intro h
      have := h.1.2
      have hxl : x.length = x.cps.toList.length := by simp [Str.length]
      have h1 : (⟨#[59]⟩ : Str).length = 1 := rfl
      rw [h1] at this
      omega
  | c :: l, a, found, free, hl, hf, hs => by
    have hd : x.cps.toList.drop (a + 1) = l := by
      have := congrArg (List.drop 1) hl
      rw [List.drop_drop] at this; simpa using this
    have hg : x.cps.toList[a]? = some c := by
      have := congrArg (fun l : List Nat => l[0]?) hl
      simp only [List.getElem?_drop, Nat.add_zero] at this
      simpa using this
    rw [show (c :: l).length + 1 = (l.length + 1) + 1 from rfl, List.range'_succ, List.forIn_cons]
    have key := subAt_one x 59 a
    unfold occBody posL
    by_cases hc : c = 59
    · subst hc
      have k := key.mpr hg
      rw [if_pos ⟨⟨⟨by show found.size < limit; rw [List.length_cons] at hs; omega, hf⟩, k.1⟩, k.2⟩, if_pos rfl]
      have ih := occ_loop x limit l (a + 1) (found.push a) (a + (⟨#[59]⟩ : Str).length) hd (by show a + 1 ≤ a + 1; omega) (by rw [Array.size_push]; rw [List.length_cons] at hs; omega)
      refine Eq.trans ih ?_
      rw [Array.toList_push]; simp
    · have nk : ¬ (a + (⟨#[59]⟩ : Str).length ≤ x.length ∧ subAt x ⟨#[59]⟩ a = true) := fun q => hc (by have := key.mp q; rw [hg] at this; exact Option.some.inj this)
      rw [if_neg fun q => nk ⟨q.1.2, q.2⟩, if_neg hc]
      exact occ_loop x limit l (a + 1) found free hd (by omega) (by rw [List.length_cons] at hs; omega)
theorem occ_semi (x : Str) : occurrences x ";" 0 x.length (x.length + 1) = posL 0 x.cps.toList := by
  rw [semi_cps, occ_eq]
  have hxl : x.cps.toList.length = x.length := by simp [Str.length]
  have := occ_loop x (x.length + 1) x.cps.toList 0 #[] 0 rfl (Nat.le_refl _) (by simp [hxl])
  rw [hxl] at this
  simpa using this
end Mine
end
section
open PySem PySem.StrLaws PySem.Builtin PySem.Builtin.Str PyProof
set_option linter.unusedVariables false
namespace Mine
noncomputable def consH (q : List Nat) : List (List Nat) → List (List Nat)
  | [] => []
  | p :: r => (q ++ p) :: r
theorem parts_cut (X : List Nat) : ∀ (l : List Nat) (a lo : Nat), X.drop a = l → lo ≤ a → a ≤ X.length →
    ((lo :: (posL a l).map (· + 1)).zip (posL a l ++ [X.length])).map (fun p => (X.drop p.1).take (p.2 - p.1)) = consH ((X.drop lo).take (a - lo)) (cutL l)
  | [], a, lo, h, h1, h2 => by
    have h3 : X.length ≤ a := List.drop_eq_nil_iff.mp h
    have e : a = X.length := by omega
    subst e
    simp [posL, cutL, consH]
  | c :: l, a, lo, h, h1, h2 => by
    have hd : X.drop (a + 1) = l := by
      have := congrArg (List.drop 1) h
      rw [List.drop_drop] at this; simpa using this
    have hg : X[a]? = some c := by
      have := congrArg (fun l : List Nat => l[0]?) h
      simp only [List.getElem?_drop, Nat.add_zero] at this
      simpa using this
    have hlt : a < X.length := (List.getElem?_eq_some_iff.mp hg).1
    by_cases hc : c = 59
    · subst hc
      have ih := parts_cut X l (a + 1) (a + 1) hd (Nat.le_refl _) hlt
      have e1 : posL a (59 :: l) = a :: posL (a + 1) l := by rw [posL, if_pos rfl]
      have e2 : cutL (59 :: l) = [] :: cutL l := by rw [cutL, if_pos rfl]
      rw [e1, e2, List.map_cons, List.cons_append, List.zip_cons_cons, List.map_cons, ih, Nat.sub_self, List.take_zero]
      obtain ⟨p, r, e⟩ := cutL_ne l
      rw [e]; simp [consH]
    · have ih := parts_cut X l (a + 1) lo hd (by omega) hlt
      have e1 : posL a (c :: l) = posL (a + 1) l := by rw [posL, if_neg hc]
      obtain ⟨p, r, e⟩ := cutL_ne l
      have e2 : cutL (c :: l) = (c :: p) :: r := by rw [cutL, if_neg hc, e]
      rw [e1, ih, e, e2]
      have : (X.drop lo).take (a + 1 - lo) = (X.drop lo).take (a - lo) ++ [c] := by
        rw [show a + 1 - lo = (a - lo) + 1 from Nat.succ_sub h1, List.take_add_one, List.getElem?_drop, show lo + (a - lo) = a by omega, hg]; rfl
      rw [this]; simp [consH]
theorem parts_semi (x : Str) : partsBetween x (posL 0 x.cps.toList) 1 = (cutL x.cps.toList).map fun l => (⟨l.toArray⟩ : Str) := by
  have k := parts_cut x.cps.toList x.cps.toList 0 0 rfl (Nat.le_refl _) (Nat.zero_le _)
  have hxl : x.cps.toList.length = x.length := by simp [Str.length]
  rw [hxl] at k
  obtain ⟨p, r, e⟩ := cutL_ne x.cps.toList
  have k2 : consH ((x.cps.toList.drop 0).take (0 - 0)) (cutL x.cps.toList) = cutL x.cps.toList := by rw [e]; simp [consH]
  rw [k2] at k
  rw [← k, List.map_map]
  unfold partsBetween
  refine List.map_congr_left fun q _ => ?_
  obtain ⟨i, j⟩ := q
  show (⟨x.cps.extract i j⟩ : Str) = ⟨((x.cps.toList.drop i).take (j - i)).toArray⟩
  congr 1
  refine Array.toList_inj.mp ?_
  rw [Array.toList_extract]
theorem split_semi (x : Str) : Txt.split x ";" = (cutL x.cps.toList).map fun l => (⟨l.toArray⟩ : Str) := by
  have hx : (⟨x.cps.toList.toArray⟩ : Str) = x := by cases x; rfl
  have hk : Builtin.Str.strKind ";" = 1 := by decide +kernel
  unfold Txt.split
  rw [occ_semi, semi_len, hk]
  split
  · rename_i h
    have hz : x.length < 1 := by
      rw [Bool.or_eq_true] at h
      rcases h with h | h
      · exact of_decide_eq_true h
      · exfalso
        have := of_decide_eq_true h
        unfold Builtin.Str.strKind at this
        split at this
        · omega
        · split at this <;> omega
    have e : x.cps.toList = [] := by
      refine List.eq_nil_of_length_eq_zero ?_
      have hxl : x.cps.toList.length = x.length := by simp [Str.length]
      omega
    conv => lhs; rw [← hx]
    rw [e]; rfl
  · split
    · rename_i h
      have k := parts_semi x
      rw [List.isEmpty_iff.mp h] at k
      rw [← k]
      show [x] = [(⟨x.cps.extract 0 x.length⟩ : Str)]
      congr 1
      have : x.cps.extract 0 x.length = x.cps := by show x.cps.extract 0 x.cps.size = x.cps; simp
      rw [this]
    · exact parts_semi x
theorem str_ext {a b : Str} (h : a.cps.toList = b.cps.toList) : a = b := by
  cases a; cases b
  congr 1
  exact Array.toList_inj.mp h
theorem app_list (x y : Str) : (x ++ y).cps.toList = x.cps.toList ++ y.cps.toList := by
  show (x.cps ++ y.cps).toList = _
  simp
theorem joinP_one (x : Str) : joinP [x] = x := by unfold joinP Txt.join; rw [glued_eq_join]; rfl
theorem joinP_cons (x y : Str) (r : List Str) : joinP (x :: y :: r) = x ++ ";" ++ joinP (y :: r) := by unfold joinP Txt.join; rw [glued_eq_join, glued_eq_join]; rfl
theorem joinP_list (x : Str) : ∀ l : List Str, (joinP (x :: l)).cps.toList = x.cps.toList ++ (l.map fun y => 59 :: y.cps.toList).flatten
  | [] => by rw [joinP_one]; simp
  | y :: l => by
    rw [joinP_cons, app_list, app_list, joinP_list y l, semi_cps]
    simp
theorem join0_list : ∀ l : List Str, (Txt.join "" l).cps.toList = (l.map fun y => y.cps.toList).flatten
  | [] => by decide +kernel
  | [x] => by unfold Txt.join; rw [glued_eq_join]; simp [Str.join]
  | x :: y :: l => by
    have ih := join0_list (y :: l)
    unfold Txt.join at ih ⊢
    rw [glued_eq_join] at ih ⊢
    show (x ++ "" ++ Str.join "" (y :: l)).cps.toList = _
    have e0 : ("" : Str).cps.toList = [] := by decide +kernel
    rw [app_list, app_list, ih, e0]
    simp
theorem mark_list (p : Mark) : (markText p).cps.toList = p.1.cps.toList ++ p.2.cps.toList := by
  unfold markText; rw [join0_list]; simp
theorem pile_join : ∀ l : List Str, l ≠ [] → pileText (marksN l) = joinP l
  | [], h => absurd rfl h
  | x :: l, _ => by
    refine str_ext ?_
    unfold pileText
    rw [join0_list, joinP_list]
    have e0 : ("" : Str).cps.toList = [] := by decide +kernel
    have e1 : (";" : Str).cps.toList = [59] := by rw [semi_cps]
    unfold marksN
    rw [List.map_cons, List.map_cons, List.flatten_cons, mark_list, e0, List.nil_append, List.map_map, List.map_map]
    congr 2
    refine List.map_congr_left fun y _ => ?_
    show (markText (";", y)).cps.toList = _
    rw [mark_list, e1]; rfl
theorem cut_join : ∀ {p : List Str}, p ≠ [] → (∀ w ∈ p, 59 ∉ w.cps.toList) → (cutL (joinP p).cps.toList).map (fun l => (⟨l.toArray⟩ : Str)) = p
  | [], h, _ => absurd rfl h
  | [x], _, h => by
    rw [joinP_one, cutL_word (h x List.mem_cons_self)]
    cases x; rfl
  | x :: y :: r, _, h => by
    rw [joinP_cons, app_list, app_list, semi_cps, List.append_assoc]
    show (cutL (x.cps.toList ++ 59 :: (joinP (y :: r)).cps.toList)).map _ = _
    rw [cutL_sep _ (h x List.mem_cons_self), List.map_cons, cut_join (by simp) fun w hw => h w (List.mem_cons_of_mem _ hw)]
theorem split_join {p : List Str} (h : p ≠ []) (hw : ∀ w ∈ p, 59 ∉ w.cps.toList) : Txt.split (joinP p) ";" = p := by
  rw [split_semi, cut_join h hw]
theorem cutL_len : ∀ l : List Nat, (cutL l).length ≤ l.length + 1
  | [] => Nat.le_refl _
  | c :: l => by
    have ih := cutL_len l
    unfold cutL
    split
    · simp only [List.length_cons]; omega
    · obtain ⟨p, r, e⟩ := cutL_ne l
      rw [e] at ih ⊢
      simp only [List.length_cons] at ih ⊢; omega
end Mine
end
section
open PySem PySem.StrLaws PySem.Builtin PySem.Builtin.Str PyProof
set_option linter.unusedVariables false
namespace Mine
structure WordsOk (W : List Str) : Prop where
  len : W.length = 4
  short : ∀ w ∈ W, w.length ≤ 20
  semi : ∀ w ∈ W, 59 ∉ w.cps.toList
  txt : ∀ w ∈ W, TxtOk w
noncomputable def wordB (w : Str) : Bool := decide (w.length ≤ 20) && (!w.cps.toList.contains 59 && PyData.strOk w)
theorem words_all : ∀ a : Fin 100, (wordsR (a.val : Int)).all wordB = true := by decide +kernel
theorem words_ok {a : Int} (h0 : 0 ≤ a) (h1 : a < 100) : WordsOk (wordsL a) := by
  have h : (wordsR ((a.toNat : Nat) : Int)).all wordB = true := words_all ⟨a.toNat, by omega⟩
  have e : ((a.toNat : Nat) : Int) = a := by omega
  rw [e] at h
  have k : ∀ w ∈ wordsR a, wordB w = true := List.all_eq_true.mp h
  rw [words_eq]
  refine ⟨rfl, fun w hw => ?_, fun w hw => ?_, fun w hw => ?_⟩
  · have := k w hw
    unfold wordB at this
    rw [Bool.and_eq_true, Bool.and_eq_true] at this
    exact of_decide_eq_true this.1
  · have := k w hw
    unfold wordB at this
    rw [Bool.and_eq_true, Bool.and_eq_true] at this
    intro q
    have z := this.2.1
    rw [List.contains_iff_mem.mpr q] at z
    cases z
  · have := k w hw
    unfold wordB at this
    rw [Bool.and_eq_true, Bool.and_eq_true] at this
    exact this.2.2
theorem empty_len : ("" : Str).length = 0 := by decide +kernel
theorem len_list (x : Str) : x.length = x.cps.toList.length := by simp [Str.length]
theorem txt_iff {s : Str} : TxtOk s ↔ ∀ n ∈ s.cps.toList, n < 0x110000 := by
  unfold TxtOk PyData.strOk
  rw [← Array.all_toList, List.all_eq_true]
  exact ⟨fun h n hn => of_decide_eq_true (h n hn), fun h n hn => decide_eq_true (h n hn)⟩
section
variable {W : List Str}
theorem join_len (hW : WordsOk W) {p : List Str} (hp : p.length ≤ 7) (h : ∀ x ∈ p, x ∈ W) : (joinP p).length ≤ 147 := by
  have h1 := join_length_le ";" p
  have h2 := sumLen_le (B := 20) p fun y hy => hW.short y (h y hy)
  rw [semi_len] at h1
  have : joinP p = Str.join ";" p := by unfold joinP Txt.join; rw [glued_eq_join]
  rw [this]; omega
theorem join_txt (hW : WordsOk W) : ∀ {p : List Str}, p ≠ [] → (∀ x ∈ p, x ∈ W) → TxtOk (joinP p)
  | [], h, _ => absurd rfl h
  | x :: l, _, h => txt_iff.mpr fun n hn => by
    rw [joinP_list] at hn
    rcases List.mem_append.mp hn with hn | hn
    · exact txt_iff.mp (hW.txt x (h x List.mem_cons_self)) n hn
    · obtain ⟨q, hq, hn⟩ := List.mem_flatten.mp hn
      obtain ⟨y, hy, rfl⟩ := List.mem_map.mp hq
      rcases List.mem_cons.mp hn with rfl | hn
      · omega
      · exact txt_iff.mp (hW.txt y (h y (List.mem_cons_of_mem _ hy))) n hn
theorem joins_ok (hW : WordsOk W) : Joins W 7 := fun l hl h => by
  have := joinFits (sep := ";") (texts := l) (B := 20) (fun y hy => hW.short y (h y hy)) (by rw [semi_len]; omega)
  unfold JoinOk; rw [this]; rfl
theorem piles_ok (hW : WordsOk W) : Piles W 11 := fun l hl h => by
  have m : ∀ p ∈ l, p.1.length ≤ 1 ∧ p.2.length ≤ 20 := fun p hp => by
    obtain ⟨a, b⟩ := h p hp
    refine ⟨?_, hW.short _ b⟩
    rcases a with a | a
    · rw [a, empty_len]; omega
    · rw [a, semi_len]; omega
  refine ⟨?_, fun p hp => ?_⟩
  · have := joinFits (sep := "") (texts := l.map markText) (B := 21) (fun y hy => by
      obtain ⟨p, hp, rfl⟩ := List.mem_map.mp hy
      obtain ⟨a, b⟩ := m p hp
      rw [len_list, mark_list, List.length_append, ← len_list, ← len_list]; omega) (by rw [empty_len, List.length_map]; omega)
    unfold JoinOk; rw [this]; rfl
  · have := joinFits (sep := "") (texts := [p.1, p.2]) (B := 20) (fun y hy => by
      obtain ⟨a, b⟩ := m p hp
      simp at hy
      rcases hy with rfl | rfl <;> omega) (by rw [empty_len]; simp)
    unfold JoinOk; rw [this]; rfl
end
section
variable {come : List (List Str)} {work : List (List Str × Int)} {recs : List Rec}
theorem recs_in (S : RunSums recs come work) {x : Rec} (hx : x ∈ recs) : x.1 ∈ come := by
  have h1 := S.s1 fun p => b2i (decide (p ∉ come))
  have z : S1 (fun p => b2i (decide (p ∉ come))) come = 0 := S1_zero fun p hp => by simp [hp, b2i]
  rw [z] at h1
  have q := (any_pos (fun x : Rec => decide (x.1 ∉ come)) recs).2
  refine Decidable.byContradiction fun hn => ?_
  have := q.mp (List.any_eq_true.mpr ⟨x, hx, by simpa using hn⟩)
  omega
theorem callB_mem {caller name : Str} {p : List Str} (h : callB caller name p = true) : caller ∈ p := by
  by_cases e : p = []
  · subst e
    have : callB caller name [] = false := rfl
    rw [this] at h; cases h
  · have hd := List.dropLast_concat_getLast e
    rw [← hd, callB_snoc] at h
    simp only [Bool.and_eq_true] at h
    have hc := beq_iff_eq.mp h.2.2
    have hne : p.dropLast ≠ [] := fun z => by rw [z] at h; simp at h
    have hm : p.dropLast.getLastD "" ∈ p.dropLast := by
      rw [List.getLastD_eq_getLast?, List.getLast?_eq_some_getLast hne]
      exact List.getLast_mem hne
    rw [hc] at hm
    exact List.dropLast_subset p hm
theorem getLastD_mem {p : List Str} (h : p ≠ []) : p.getLastD "" ∈ p := by
  rw [List.getLastD_eq_getLast?, List.getLast?_eq_some_getLast h]
  exact List.getLast_mem h
theorem S1_ones {α : Type} : ∀ l : List α, S1 (fun _ => (1 : Int)) l = (l.length : Int)
  | [] => rfl
  | a :: l => by
    show 1 + S1 _ l = _
    rw [S1_ones l, List.length_cons]; omega
/-- what is asked of the two runs' lists -/
structure ListsOk (W : List Str) (come : List (List Str)) (work : List (List Str × Int)) : Prop where
  path : ∀ p ∈ come, p ≠ [] ∧ p.length ≤ 7 ∧ ∀ x ∈ p, x ∈ W
  wk : ∀ p ∈ work, p.1 ∈ come
  lc : come.length ≤ 14
  lw : work.length ≤ 14
theorem ListsOk.split {W : List Str} (hW : WordsOk W) (h : ListsOk W come work) : SplitOk come work :=
  ⟨fun p hp => split_join (h.path p hp).1 fun w hw => hW.semi w ((h.path p hp).2.2 w hw), h.wk⟩
theorem comeT_path {p : Str × Int} (h : p ∈ tabK (comeT come)) : ∃ q ∈ come, p.1 = joinP q := by
  obtain ⟨q, hq, e⟩ := tabK_mem h
  unfold comeT at hq
  obtain ⟨r, hr, rfl⟩ := List.mem_map.mp hq
  exact ⟨r, hr, e.symm⟩
theorem workT_path {W : List Str} (h : ListsOk W come work) {p : Str × Int} (hp : p ∈ tabK (workT work)) : ∃ q ∈ come, p.1 = joinP q := by
  obtain ⟨q, hq, e⟩ := tabK_mem hp
  unfold workT at hq
  obtain ⟨r, hr, rfl⟩ := List.mem_map.mp hq
  exact ⟨r.1, h.wk r hr, e.symm⟩
theorem agree_main {W : List Str} (hW : WordsOk W) (h : ListsOk W come work) (S : RunSums recs come work) {b : Books} (hb : RepB b (closed recs)) :
    AgreeOk b (tabK (comeT come)) (tabK (workT work)) (comeT come) (workT work) W := by
  have hs := h.split hW
  have lc := h.lc
  have lw := h.lw
  have l1 : (comeT come).length = come.length := List.length_map ..
  have l2 : (workT work).length = work.length := List.length_map ..
  have l3 := tabK_length (comeT come)
  have l4 := tabK_length (workT work)
  have tx : ∀ q ∈ come, TxtOk (joinP q) := fun q hq => join_txt hW (h.path q hq).1 (h.path q hq).2.2
  refine ⟨(tableP_tabK _).symm, (tableP_tabK _).symm, ?_, ?_, by omega, by omega, fun p hp => ?_, fun p hp => ?_, fun p hp => ?_, fun p hp => ?_, ?_, ?_, ?_, ?_⟩
  · rw [tableP_tabK, tableP_tabK]
    refine ⟨by omega, by rw [hW.len]; omega, hW.txt, fun p hp => ?_, fun p hp => ?_⟩
    · obtain ⟨q, hq, e⟩ := comeT_path hp
      obtain ⟨h1, h2, h3⟩ := h.path q hq
      have hl := join_len hW h2 h3
      have h24 : sizeLine = 16777216 := by decide
      rw [e, occ_semi]
      refine ⟨by omega, ?_⟩
      have e1 : (Str.ofString ";").length = 1 := semi_len
      rw [e1, parts_semi, List.length_map]
      have := cutL_len (joinP q).cps.toList
      rw [← len_list] at this
      omega
    · obtain ⟨q, hq, e⟩ := comeT_path hp
      obtain ⟨h1, h2, h3⟩ := h.path q hq
      have hn : (rowOf (tabK (comeT come)) (tabK (workT work)) p.1).names = q := by
        show Txt.split p.1 ";" = q
        rw [e]; exact hs.sp q hq
      refine ⟨by rw [hn]; exact h1, by rw [hn]; omega, fun s hz => ?_⟩
      rw [hn] at hz
      exact hW.txt s (h3 s hz)
  · rw [tableP_tabK, tableP_tabK]
    refine booksEq_of hb (rep_told hs S (fun x hx => (h.path _ (recs_in S hx)).1) (fun p hp => ?_) fun p hp caller name hc => ?_)
    · exact (h.path p hp).2.2 _ (getLastD_mem (h.path p hp).1)
    · exact (h.path p hp).2.2 _ (callB_mem hc)
  · unfold comeT at hp
    obtain ⟨q, hq, rfl⟩ := List.mem_map.mp hp
    exact tx q hq
  · unfold workT at hp
    obtain ⟨q, hq, rfl⟩ := List.mem_map.mp hp
    exact tx q.1 (h.wk q hq)
  · rw [tableP_tabK] at hp
    obtain ⟨q, hq, e⟩ := comeT_path hp
    rw [e]; exact tx q hq
  · rw [tableP_tabK] at hp
    obtain ⟨q, hq, e⟩ := workT_path h hp
    rw [e]; exact tx q hq
  · rw [tableP_tabK]; omega
  · rw [tableP_tabK]; omega
  · rw [tableP_tabK, sumTab_tabK, sumTab_S1]
    unfold comeT
    rw [S1_map, List.length_map]
    exact S1_ones come
  · rw [tableP_tabK, sumTab_tabK]
    exact sumTab_S1 (workT work) |>.trans (sum_S1 _ _).symm
end
end Mine
end
section
open PySem
set_option linter.unusedVariables false
namespace Mine
section
variable {W : List Str}
theorem runB_eq (hw : 4 ≤ W.length) (ns : List Int) : runB W ns = (allR W ns).foldl recStep [] := by
  have h := rel_loop hw pile_join ns
  unfold runB
  rw [endN_endR, h.st, h.bk]
  unfold allR
  rw [List.foldl_append]
theorem rep_run (hw : 4 ≤ W.length) (ns : List Int) : RepB (runB W ns) (closed (allR W ns)) := by
  rw [runB_eq hw, ← Fof_closed]; exact rep_recs _
theorem lists_run (hw : 4 ≤ W.length) {ns : List Int} (hz : ns.length ≤ 6) : ListsOk W (loopG W ns).come (loopG W ns).work := by
  have h := loopG_inv hw ns
  have h1 := h.lc
  have h2 := h.lw
  refine ⟨fun p hp => ?_, h.work, by omega, by omega⟩
  obtain ⟨a, b, d⟩ := h.come p hp
  exact ⟨a, by omega, d⟩
theorem agree_run (hW : WordsOk W) {ns : List Int} (hz : ns.length ≤ 6) : AgreeOk (runB W ns) (runC W ns) (runW W ns) (listsP W ns).come (listsP W ns).worked W := by
  have hw : 4 ≤ W.length := by rw [hW.len]; omega
  have h := rel_loop hw pile_join ns
  have e1 : runC W ns = tabK (comeT (loopG W ns).come) := h.come
  have e2 : runW W ns = tabK (workT (loopG W ns).work) := h.work
  rw [e1, e2, h.lcome, h.lwork]
  exact agree_main hW (lists_run hw hz) (allR_sums hw ns) (rep_run hw ns)
theorem agree_both (hW : WordsOk W) {a b : List Int} (ha : a.length ≤ 6) (hb : b.length ≤ 6) :
    AgreeOk (bothP (runB W a) (runB W b) W) (addG iadd (runC W a) (runC W b)) (addG iadd (runW W a) (runW W b)) ((listsP W a).come ++ (listsP W b).come) ((listsP W a).worked ++ (listsP W b).worked) W := by
  have hw : 4 ≤ W.length := by rw [hW.len]; omega
  have h := rel_loop hw pile_join a
  have h' := rel_loop hw pile_join b
  have ga := loopG_inv hw a
  have gb := loopG_inv hw b
  have e1 : runC W a = tabK (comeT (loopG W a).come) := h.come
  have e2 : runW W a = tabK (workT (loopG W a).work) := h.work
  have e1' : runC W b = tabK (comeT (loopG W b).come) := h'.come
  have e2' : runW W b = tabK (workT (loopG W b).work) := h'.work
  have S := (allR_sums hw a).append (allR_sums hw b)
  have c1 : comeT (loopG W a).come ++ comeT (loopG W b).come = comeT ((loopG W a).come ++ (loopG W b).come) := (List.map_append ..).symm
  have c2 : workT (loopG W a).work ++ workT (loopG W b).work = workT ((loopG W a).work ++ (loopG W b).work) := (List.map_append ..).symm
  rw [e1, e2, e1', e2', h.lcome, h.lwork, h'.lcome, h'.lwork, addG_tabK, addG_tabK, c1, c2]
  have L : ListsOk W ((loopG W a).come ++ (loopG W b).come) ((loopG W a).work ++ (loopG W b).work) := by
    have l1 := ga.lc
    have l2 := gb.lc
    have l3 := ga.lw
    have l4 := gb.lw
    refine ⟨fun p hp => ?_, fun p hp => ?_, by rw [List.length_append]; omega, by rw [List.length_append]; omega⟩
    · rcases List.mem_append.mp hp with hp | hp
      · exact (lists_run hw ha).path p hp
      · exact (lists_run hw hb).path p hp
    · rcases List.mem_append.mp hp with hp | hp
      · exact List.mem_append_left _ (ga.work p hp)
      · exact List.mem_append_right _ (gb.work p hp)
  refine agree_main hW L S (rep_both (rep_run hw a) (rep_run hw b) fun x hx => ?_)
  have hp := L.path _ (recs_in S hx)
  exact hp.2.2 _ (getLastD_mem hp.1)
theorem bk_run (hw : 4 ≤ W.length) {ns : List Int} (hz : ns.length ≤ 6) : BkOk 100 (runB W ns) := by
  have h := loopR_inv hw ns (by omega)
  have hl := h.len
  exact (endN_ok (e := ((loopR W ns).st, (loopR W ns).bk)) h.bk (loopR W ns).st.length).le (by omega)
theorem bk_both {b1 b2 : Books} {W : List Str} (hz : W.length ≤ 400) (h1 : BkOk 100 b1) (h2 : BkOk 100 b2) : BkOk 400 (bothP b1 b2 W) := by
  have key : ∀ (ws : List Str) (acc : Books), (∀ p ∈ acc, p.2.2.length ≤ 400) → (ws.foldl (bothStep b1 b2) acc).length ≤ acc.length + ws.length ∧ ∀ p ∈ ws.foldl (bothStep b1 b2) acc, p.2.2.length ≤ 400 := by
    intro ws
    induction ws with
    | nil => intro acc h; exact ⟨Nat.le_refl _, h⟩
    | cons w ws ih =>
      intro acc h
      rw [List.foldl_cons]
      have l1 := bothStep_len b1 b2 acc w
      obtain ⟨p, q⟩ := ih (bothStep b1 b2 acc w) fun p hp => by
        unfold bothStep at hp
        split at hp
        · rcases dput_mem hp with q | q
          · exact h p q
          · rw [q]
            have a1 := old_length h1 w
            have a2 := old_length h2 w
            have a3 := addG_length qadd ((dget b1 w).getD zeroE).2 ((dget b2 w).getD zeroE).2
            show (addG qadd _ _).length ≤ _
            omega
        · exact h p hp
      exact ⟨by rw [List.length_cons]; omega, q⟩
  obtain ⟨p, q⟩ := key W [] fun p hp => by cases hp
  exact ⟨Nat.le_trans p (by simpa using hz), q⟩
theorem law_lists (hW : WordsOk W) {t : List Int} (ht : t.length ≤ 6) : LawOk W t := by
  have hw : 4 ≤ W.length := by rw [hW.len]; omega
  have hr : t.reverse.length ≤ 6 := by rw [List.length_reverse]; exact ht
  have r1 := loopR_inv hw t (by omega)
  have r2 := loopR_inv hw t.reverse (by omega)
  have l1 : (runC W t).length ≤ t.length + 1 := r1.come
  have l2 : (runC W t.reverse).length ≤ t.reverse.length + 1 := r2.come
  have l3 : (runW W t).length ≤ t.length := r1.work
  have l4 : (runW W t.reverse).length ≤ t.reverse.length := r2.work
  exact ⟨hW.len, ht, hW.txt, joins_ok hW, piles_ok hW, agree_run hW ht, agree_run hW hr, agree_both hW ht hr, (bk_run hw ht).le (by omega), (bk_run hw hr).le (by omega), bk_both (by rw [hW.len]; omega) (bk_run hw ht) (bk_run hw hr),
    by omega, by omega, by omega, by omega⟩
theorem law_facts (ns : List Int) : LawOk (wordsL (ns.sum.fmod 100)) (takenP ns) :=
  law_lists (words_ok (Int.fmod_nonneg_of_pos _ (by decide)) (Int.fmod_lt_of_pos _ (by decide))) (by unfold takenP; rw [List.length_take]; omega)
end
end Mine
end
section
open PySem PySem.W PyProof.Rows
set_option maxRecDepth 100000
namespace Mine
theorem kw_of {P : Params} {a : Addr} {o : Obj} (h1 : (KM P).lookup 37 = none) (h2 : (KM P).lookup 98 = none) (e : (KM P).lookup a = some o) : (KW P).lookup a = some o := by
  have n1 : (a == 37) = false := Bool.eq_false_iff.mpr fun q => by rw [beq_iff_eq.mp q, h1] at e; cases e
  have n2 : (a == 98) = false := Bool.eq_false_iff.mpr fun q => by rw [beq_iff_eq.mp q, h2] at e; cases e
  unfold KW
  rw [List.lookup_cons, n1, List.lookup_cons, n2]; exact e
/-- a code object and its table -/
theorem codeAt_of {P : Params} {a Q : Addr} {h : Heap} {f : Str} {tf tn ti : Tok} {n i : Int} {b : Bool} (X : (KM P).In h) (x2 : h.get? Q = some { cls := Value.none, data := Data.fields #[] })
    (e : (KM P).lookup a = some { cls := Value.type "code", data := Data.fields (fieldsAt P a) }) (g : (fieldsAt P a)[11]? = some (.ref Q)) (g1 : (fieldsAt P a).getD 11 .none = .ref Q) (g2 : (fieldsAt P a).getD 18 .none = .str f tf) (g3 : (fieldsAt P a).getD 7 .none = .int n tn)
    (g4 : (fieldsAt P a).getD 9 .none = .bool b) (g5 : (fieldsAt P a).getD 10 .none = .int i ti) (hne : a ≠ Q) : h.IsCode a Q #[] ∧ h.TableAt a Q #[] ∧ Q < h.objs.size ∧ a < h.objs.size := by
  have x1 := X _ _ e
  exact ⟨⟨_, _, f, tf, n, tn, b, i, ti, _, x1, rfl, g1, g2, g3, g4, g5, x2, rfl, trivial, hne⟩, ⟨⟨_, _, x1, rfl, rfl, g⟩, x2⟩, Heap.lt_size x2, Heap.lt_size x1⟩
theorem ints_is {c : Cx} {O : Addr → Prop} {h : Heap} {vs : List Value} {ns : List Int} (i : IntsAre vs ns) : IsAll c O h (intsD ns) vs := by
  induction i with
  | nil => exact .nil
  | cons n t r ih => exact IsAll.cons (by unfold Is; exact ⟨t, rfl⟩) ih
theorem join {w : World} {s₁ : Shared} {p loose mean mg mb} {vals : List Value} {a : Addr} {ns : List Int} {cl : Str → Option Addr} {mean' : ExcName → Option Value} (hB : (KM w.params).In s₁.heap)
    (t37 : s₁.heap.get? 37 = some { cls := Value.none, data := Data.fields #[] }) (t98 : s₁.heap.get? 98 = some { cls := Value.none, data := Data.fields #[] }) (T : Top p loose mean mg mb s₁.heap) (hg : s₁.gens = #[]) (hol : s₁.heap.get? a = some { cls := .type "list", data := .seq vals.toArray })
    (hi : IntsAre vals ns) (hn : ¬ ((63 : Int) < (ns.length : Int))) (hz : s₁.heap.objs.size = 195 + 1) :
    wpAny (model PySem.Challenge.rw_pk0042_01.row.prog w) callerA (call (.ref 194) [.ref a])
      (fun v s' => GoodWG PySem.Challenge.rw_pk0042_01.row.claim cl mean' [ofPy (PyData.list (ns.map PyData.int))] s₁ (.ok (.ret v)) s')
      (fun e s' => GoodWG PySem.Challenge.rw_pk0042_01.row.claim cl mean' [ofPy (PyData.list (ns.map PyData.int))] s₁ (.error e) s') s₁ := by
  let c : Cx := { prog := PySem.Challenge.rw_pk0042_01.row.prog, w := w, hB := s₁.heap, os := s₁.os, sites := [(41, 37), (102, 98)], K := KM w.params, n := s₁.heap.objs.size }
  have c1 := codeAt_of (a := 41) (f := "/claim/cut.py") (tf := 231) (n := 3) (tn := 0) (b := true) (i := 181) (ti := 0) hB t37 (by kernel_rfl) (by kernel_rfl) (by kernel_rfl) (by kernel_rfl) (by kernel_rfl) (by kernel_rfl) (by kernel_rfl) (by decide)
  have c2 := codeAt_of (a := 102) (f := "/claim/cut.py") (tf := 307) (n := 3) (tn := 0) (b := true) (i := 181) (ti := 0) hB t98 (by kernel_rfl) (by kernel_rfl) (by kernel_rfl) (by kernel_rfl) (by kernel_rfl) (by kernel_rfl) (by kernel_rfl) (by decide)
  have Fu : c.Full := by
    refine ⟨⟨⟨hB, ⟨_, _, _, _, _, T⟩⟩, rfl⟩, ⟨fun x hx => ?_, fun x hx y hy e => ?_, ⟨37, List.mem_cons_self⟩, ⟨98, .tail _ List.mem_cons_self⟩⟩, rfl⟩
    · rcases List.mem_cons.mp hx with rfl | hx
      · exact ⟨⟨_, c1.2.1⟩, by decide⟩
      · rw [List.mem_singleton.mp hx]
        exact ⟨⟨_, c2.2.1⟩, by decide⟩
    · rcases List.mem_cons.mp hx with rfl | hx <;> rcases List.mem_cons.mp hy with rfl | hy
      · rfl
      · rw [List.mem_singleton.mp hy] at e; cases e
      · rw [List.mem_singleton.mp hx] at e; cases e
      · rw [List.mem_singleton.mp hx, List.mem_singleton.mp hy]
  have S : St c s₁ := by
    refine ⟨by show 3 ≤ s₁.heap.objs.size; omega, Nat.le_refl _, .of_keep fun _ _ e => e, Grow.refl _, .of_eq hg, rfl, fun x hx => ?_⟩
    rcases List.mem_cons.mp hx with rfl | hx
    · exact ⟨c1.2.2.1, _, c1.1, c1.2.1, c1.2.2.2⟩
    · rw [List.mem_singleton.mp hx]
      exact ⟨c2.2.2.1, _, c2.1, c2.2.1, c2.2.2.2⟩
  have i0 : Is c (fun _ => False) s₁.heap (.list (intsD ns)) (.ref a) := by
    unfold Is
    exact ⟨a, vals.toArray, 0, rfl, id, hol, ints_is hi⟩
  have hn' : ns.length ≤ 63 := by omega
  refine wpAny_mono (law_ok (c := c) (k := 50) Fu ns (by omega) (law_facts ns) ⟨rfl, by decide, by decide⟩ S (O := fun _ => False) (fun _ q => q.elim) i0) (fun v s' q => ?_) fun _ _ f => f.elim
  obtain ⟨rfl, S'⟩ := q
  exact ⟨.inl ⟨.bool true, .bool true, [], rfl, fun _ => rfl, .bool true, by kernel_rfl, fun _ => ⟨.nil, nofun⟩⟩, S'.old, S'.os, S'.bare⟩
end Mine
end
section
open PySem PySem.W PyProof.Rows
open PySem.W.X PySem.W.ZRun
set_option maxRecDepth 100000
set_option maxHeartbeats 0
set_option pp.deepTerms false
set_option pp.maxSteps 3000
theorem PySem.Challenge.cw_pk0042_01_holds : PySem.Challenge.rw_pk0042_01.Holds := by
  refine holds_law (by kernel_rfl) fun said => ?_
  refine holds_openX (q := Mine.vw) (loose := Mine.lo) (Xt := fun s => xlAt Mine.vw [] s && recOk (RowW.records PySem.Challenge.rw_pk0042_01.row.toRowW) s) (XP := XL Mine.vw []) (Yf := obsZ Mine.KA) (Ya := valZ Mine.KW 195 429) (N := 2154)
    Mine.left (fun s e => xl_of s (Bool.and_eq_true_iff.mp e).1) XL.keeps Mine.lawD_def Mine.lawD_the Mine.lawD_kw (fun s e => recFacts_of (Bool.and_eq_true_iff.mp e).2) (by kernel_rfl) said (by kernel_rfl) ⟨rfl, rfl, rfl, rfl, rfl, by decide +kernel⟩ ?hw ?hc
  case hw => w_witness2
  intro w s₀ s₁ mg mb G y fa o pm cd doc dV kV ho hd' hcd hD hmg hg args vals as L hpre hlay hrd hwl hlo
  obtain ⟨_, ZI, ZN, ZT⟩ := z_facts Mine.KA_eq y
  have KX : (Mine.KW w.params).In s₁.heap := InK.keeps w s₀.heap s₁.heap ZI L.keeps
  refine Ground.open G ?_
  intro T B D TE TW
  wrow_args hpre hlay hrd hwl hlo
  obtain ⟨hat, hsz⟩ := script_at L
  rw [ZN] at hat hsz
  x_fa T KX hmg
  all_lens
  have hol := script_obj L (by assumption)
  exact Mine.join (fun a o e => KX a o (Mine.kw_of (by kernel_rfl) (by kernel_rfl) e)) (KX _ _ (by kernel_rfl)) (KX _ _ (by kernel_rfl)) T hg hol (by assumption) (by assumption) hsz
end
