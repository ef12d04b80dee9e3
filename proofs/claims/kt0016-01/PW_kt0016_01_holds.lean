import PyProof.Rows.All
import Wide.All
import OpenK.AllK
import Wide.FinOn
import PySem.Challenge.RW_kt0016_01
section
open PySem PySem.W PyProof.Rows
set_option Elab.async false
set_option linter.all false
namespace Mine
/-! ## the head: the top's run in four checks (one a way of the world), the objects that the walk reads -/
noncomputable abbrev PR : Program := PySem.Challenge.pw_kt0016_01
noncomputable def mkFn {i : Nat} {n : Str} {ps : Arguments} {b : List Stmt} {r : Option Expr} {tp : List TypeParam} {sc : Scope} {ts : Option Scope} {bd : Str} {pos : Pos} (c : Addr) (m : Str) (t : Tok) (_ : PR.main.body[i]? = some (.FunctionDef n ps b [] r tp sc ts bd pos)) : Obj :=
  { cls := .type "function", data := .func { name := n, qualname := n, params := ps, body := .stmts b, scope := sc, globals := 3, closure := [], defaults := .none, kwdefaults := .none, pyModule := .str m t, code := .ref c } }
noncomputable def ent (P : Params) (k : Str) (t : Tok) (v : Value) : DictEntry := { hash := PyData.keyHash P k, key := .str k t, val := v }
set_option maxRecDepth 100000
noncomputable def cd37 : Obj := { cls := .type "code", data := .fields #[.str (Str.ofString "_deduplicate_unhashable") 284, .str (Str.ofString "_deduplicate_unhashable") 285, .str (Str.ofString "/claim/cut.py") 286, .int 3 0, .int 1 0, .int 0 0, .int 0 0, .int 3 0, .ref 32, .bool true, .int 276 0, .ref 33, .none, .ref 34, .ref 35, .ref 36, .int 290 0, .int 3 0, .str (Str.ofString "/claim/cut.py") 291] }
noncomputable def cd44 : Obj := { cls := .type "code", data := .fields #[.str (Str.ofString "_compare_args_orderless") 293, .str (Str.ofString "_compare_args_orderless") 294, .str (Str.ofString "/claim/cut.py") 295, .int 9 0, .int 2 0, .int 0 0, .int 0 0, .int 3 0, .ref 39, .bool true, .int 276 0, .ref 40, .none, .ref 41, .ref 42, .ref 43, .int 302 0, .int 9 0, .str (Str.ofString "/claim/cut.py") 303] }
noncomputable def cd56 : Obj := { cls := .type "code", data := .fields #[.str (Str.ofString "translate") 345, .str (Str.ofString "translate") 346, .str (Str.ofString "/claim/cut.py") 347, .int 21 0, .int 1 0, .int 0 0, .int 0 0, .int 3 0, .ref 51, .bool true, .int 276 0, .ref 52, .none, .ref 53, .ref 54, .ref 55, .int 351 0, .int 21 0, .str (Str.ofString "/claim/cut.py") 352] }
noncomputable def cd68 : Obj := { cls := .type "code", data := .fields #[.str (Str.ofString "escape") 502, .str (Str.ofString "escape") 503, .str (Str.ofString "/claim/cut.py") 504, .int 27 0, .int 1 0, .int 0 0, .int 0 0, .int 3 0, .ref 63, .bool true, .int 276 0, .ref 64, .none, .ref 65, .ref 66, .ref 67, .int 506 0, .int 27 0, .str (Str.ofString "/claim/cut.py") 507] }
noncomputable def cd75 : Obj := { cls := .type "code", data := .fields #[.str (Str.ofString "_translate") 511, .str (Str.ofString "_translate") 512, .str (Str.ofString "/claim/cut.py") 513, .int 34 0, .int 3 0, .int 0 0, .int 0 0, .int 3 0, .ref 70, .bool true, .int 276 0, .ref 71, .none, .ref 72, .ref 73, .ref 74, .int 527 0, .int 34 0, .str (Str.ofString "/claim/cut.py") 528] }
noncomputable def cd82 : Obj := { cls := .type "code", data := .fields #[.str (Str.ofString "_join_translated_parts") 530, .str (Str.ofString "_join_translated_parts") 531, .str (Str.ofString "/claim/cut.py") 532, .int 96 0, .int 2 0, .int 0 0, .int 0 0, .int 3 0, .ref 77, .bool true, .int 276 0, .ref 78, .none, .ref 79, .ref 80, .ref 81, .int 540 0, .int 96 0, .str (Str.ofString "/claim/cut.py") 541] }
noncomputable def cd95 : Obj := { cls := .type "code", data := .fields #[.str (Str.ofString "quote") 587, .str (Str.ofString "quote") 588, .str (Str.ofString "/claim/cut.py") 589, .int 126 0, .int 1 0, .int 0 0, .int 0 0, .int 3 0, .ref 90, .bool true, .int 276 0, .ref 91, .none, .ref 92, .ref 93, .ref 94, .int 591 0, .int 126 0, .str (Str.ofString "/claim/cut.py") 592] }
noncomputable def cd100 : Obj := { cls := .type "code", data := .fields #[.str (Str.ofString "_law_pairs") 596, .str (Str.ofString "_law_pairs") 597, .str (Str.ofString "/claim/cut.py") 598, .int 133 0, .int 1 0, .int 0 0, .int 0 0, .int 3 0, .ref 97, .bool true, .int 276 0, .ref 98, .none, .none, .none, .ref 99, .int 599 0, .int 133 0, .str (Str.ofString "/claim/cut.py") 600] }
noncomputable def cd105 : Obj := { cls := .type "code", data := .fields #[.str (Str.ofString "_law_middles") 602, .str (Str.ofString "_law_middles") 603, .str (Str.ofString "/claim/cut.py") 604, .int 136 0, .int 1 0, .int 0 0, .int 0 0, .int 3 0, .ref 102, .bool true, .int 276 0, .ref 103, .none, .none, .none, .ref 104, .int 605 0, .int 136 0, .str (Str.ofString "/claim/cut.py") 606] }
noncomputable def cd112 : Obj := { cls := .type "code", data := .fields #[.str (Str.ofString "_law_parts") 608, .str (Str.ofString "_law_parts") 609, .str (Str.ofString "/claim/cut.py") 610, .int 144 0, .int 1 0, .int 0 0, .int 0 0, .int 3 0, .ref 107, .bool true, .int 276 0, .ref 108, .none, .ref 109, .ref 110, .ref 111, .int 614 0, .int 144 0, .str (Str.ofString "/claim/cut.py") 615] }
noncomputable def cd117 : Obj := { cls := .type "code", data := .fields #[.str (Str.ofString "_law_taken") 617, .str (Str.ofString "_law_taken") 618, .str (Str.ofString "/claim/cut.py") 619, .int 156 0, .int 2 0, .int 0 0, .int 0 0, .int 3 0, .ref 114, .bool true, .int 276 0, .ref 115, .none, .none, .none, .ref 116, .int 620 0, .int 156 0, .str (Str.ofString "/claim/cut.py") 621] }
noncomputable def cd122 : Obj := { cls := .type "code", data := .fields #[.str (Str.ofString "_law_faces") 623, .str (Str.ofString "_law_faces") 624, .str (Str.ofString "/claim/cut.py") 625, .int 160 0, .int 2 0, .int 0 0, .int 0 0, .int 3 0, .ref 119, .bool true, .int 276 0, .ref 120, .none, .none, .none, .ref 121, .int 626 0, .int 160 0, .str (Str.ofString "/claim/cut.py") 627] }
noncomputable def cd127 : Obj := { cls := .type "code", data := .fields #[.str (Str.ofString "law") 629, .str (Str.ofString "law") 630, .str (Str.ofString "/claim/cut.py") 631, .int 174 0, .int 1 0, .int 0 0, .int 0 0, .int 3 0, .ref 124, .bool true, .int 276 0, .ref 125, .none, .none, .none, .ref 126, .int 632 0, .int 174 0, .str (Str.ofString "/claim/cut.py") 633] }
noncomputable def ob38 : Obj := mkFn (i := 2) 37 "cpy313.typing" 282 rfl
noncomputable def ob45 : Obj := mkFn (i := 3) 44 "cpy313.typing" 282 rfl
noncomputable def ob57 : Obj := mkFn (i := 6) 56 "cpy313.fnmatch" 305 rfl
noncomputable def ob69 : Obj := mkFn (i := 9) 68 "re" 354 rfl
noncomputable def ob76 : Obj := mkFn (i := 11) 75 "cpy313.fnmatch" 509 rfl
noncomputable def ob83 : Obj := mkFn (i := 12) 82 "cpy313.fnmatch" 509 rfl
noncomputable def ob96 : Obj := mkFn (i := 16) 95 "cpy313.shlex" 543 rfl
noncomputable def ob101 : Obj := mkFn (i := 18) 100 "law_kt0016_01" 594 rfl
noncomputable def ob106 : Obj := mkFn (i := 19) 105 "law_kt0016_01" 594 rfl
noncomputable def ob113 : Obj := mkFn (i := 20) 112 "law_kt0016_01" 594 rfl
noncomputable def ob118 : Obj := mkFn (i := 21) 117 "law_kt0016_01" 594 rfl
noncomputable def ob123 : Obj := mkFn (i := 22) 122 "law_kt0016_01" 594 rfl
noncomputable def ob128 : Obj := mkFn (i := 23) 127 "law_kt0016_01" 594 rfl
noncomputable def ob3 (P : Params) : Obj := { cls := .type "dict", data := .dict #[ent P "__name__" 165 (.str (Str.ofString "law_kt0016_01") 594), ent P "__doc__" 166 (.none), ent P "__package__" 167 (.none), ent P "__loader__" 168 (.builtin "__main__.__loader__#opaque"), ent P "__spec__" 169 (.none), ent P "__annotations__" 170 (.ref 6), ent P "__builtins__" 171 (.ref 4), ent P "__file__" 173 (.str (Str.ofString "/claim/cut.py") 172), ent P "__cached__" 174 (.none), ent P "_sre" 275 (.ref 12), ent P "_deduplicate_unhashable" 292 (.ref 38), ent P "_compare_args_orderless" 304 (.ref 45), ent P "twin_re_1_fnmatch" 344 (.ref 50), ent P "translate" 353 (.ref 57), ent P "_special_chars_map" 501 (.ref 59), ent P "escape" 508 (.ref 69), ent P "_translate" 529 (.ref 76), ent P "_join_translated_parts" 542 (.ref 83), ent P "twin_re_1_shlex" 584 (.ref 88), ent P "_find_unsafe" 586 (.ref 89), ent P "quote" 593 (.ref 96), ent P "_law_pairs" 601 (.ref 101), ent P "_law_middles" 607 (.ref 106), ent P "_law_parts" 616 (.ref 113), ent P "_law_taken" 622 (.ref 118), ent P "_law_faces" 628 (.ref 123), ent P "law" 634 (.ref 128)] 27 }
noncomputable def ob59 : Obj := { cls := .type "dict", data := .dict #[{ hash := 40, key := .int 40 357, val := .str (Str.ofString "\\(") 361 }, { hash := 41, key := .int 41 363, val := .str (Str.ofString "\\)") 367 }, { hash := 91, key := .int 91 369, val := .str (Str.ofString "\\[") 373 }, { hash := 93, key := .int 93 375, val := .str (Str.ofString "\\]") 379 }, { hash := 123, key := .int 123 381, val := .str (Str.ofString "\\{") 385 }, { hash := 125, key := .int 125 387, val := .str (Str.ofString "\\}") 391 }, { hash := 63, key := .int 63 393, val := .str (Str.ofString "\\?") 397 }, { hash := 42, key := .int 42 399, val := .str (Str.ofString "\\*") 403 }, { hash := 43, key := .int 43 405, val := .str (Str.ofString "\\+") 409 }, { hash := 45, key := .int 45 411, val := .str (Str.ofString "\\-") 415 }, { hash := 124, key := .int 124 417, val := .str (Str.ofString "\\|") 421 }, { hash := 94, key := .int 94 423, val := .str (Str.ofString "\\^") 427 }, { hash := 36, key := .int 36 429, val := .str (Str.ofString "\\$") 433 }, { hash := 92, key := .int 92 435, val := .str (Str.ofString "\\\\") 439 }, { hash := 46, key := .int 46 441, val := .str (Str.ofString "\\.") 445 }, { hash := 38, key := .int 38 447, val := .str (Str.ofString "\\&") 451 }, { hash := 126, key := .int 126 453, val := .str (Str.ofString "\\~") 457 }, { hash := 35, key := .int 35 459, val := .str (Str.ofString "\\#") 463 }, { hash := 32, key := .int 32 465, val := .str (Str.ofString "\\ ") 469 }, { hash := 9, key := .int 9 471, val := .str (Str.ofString "\\\t") 475 }, { hash := 10, key := .int 10 477, val := .str (Str.ofString "\\\n") 481 }, { hash := 13, key := .int 13 483, val := .str (Str.ofString "\\\x0d") 487 }, { hash := 11, key := .int 11 489, val := .str (Str.ofString "\\\x0b") 493 }, { hash := 12, key := .int 12 495, val := .str (Str.ofString "\\\x0c") 499 }] 24 }
noncomputable def ob87 : Obj := { cls := .type "tuple", data := .seq #[.int 14 0, .int 17 0, .int 4 0, .int 1 0, .int 1 0, .int 21 0, .int 9 0, .int 0 0, .int 604043296 0, .int 1 0, .int 0 0, .int 0 0, .int 0 0, .int 0 0, .int 0 0, .int 8 0, .int 4 0, .int 0 0, .int 13 0, .int 14 0, .int 21 0, .int 9 0, .int 0 0, .int 604043296 0, .int 1 0, .int 0 0, .int 0 0, .int 0 0, .int 0 0, .int 0 0, .int 8 0, .int 4 0, .int 0 0, .int 1 0] }
noncomputable def ob88 : Obj := { cls := .type "re.Pattern", data := .fields #[.str (Str.ofString "[^\\w@%+=:,./-]") 546, .int 256 583, .int 0 0, .none, .none, .ref 87, .int 0 0] }
noncomputable def ob89 : Obj := { cls := .type "builtin_function_or_method", data := .fields #[.builtin "re.Pattern.search", .ref 88] }
noncomputable def KF (P : Params) : Frag := [(3, ob3 P), (38, ob38), (45, ob45), (57, ob57), (69, ob69), (76, ob76), (83, ob83), (96, ob96), (101, ob101), (106, ob106), (113, ob113), (118, ob118), (123, ob123), (128, ob128), (37, cd37), (44, cd44), (56, cd56), (68, cd68), (75, cd75), (82, cd82), (95, cd95), (100, cd100), (105, cd105), (112, cd112), (117, cd117), (122, cd122), (127, cd127), (59, ob59), (87, ob87), (88, ob88), (89, ob89)]
noncomputable def KA : List Addr := [3, 38, 45, 57, 69, 76, 83, 96, 101, 106, 113, 118, 123, 128, 37, 44, 56, 68, 75, 82, 95, 100, 105, 112, 117, 122, 127, 59, 87, 88, 89]

noncomputable def QV : Program := view PR [0, 2, 3, 6, 9, 11, 12, 16, 18, 19, 20, 21, 22, 23]
noncomputable def LO : List Str := [Str.ofString "twin_re_1_fnmatch", Str.ofString "_special_chars_map", Str.ofString "twin_re_1_shlex", Str.ofString "_find_unsafe"]
noncomputable def XT (s : Shared) : Bool := xlAt QV [] s && recOk [] s
theorem keysK : ∀ P, KA = (KF P).map (·.1) := fun _ => rfl
noncomputable def HK : Hook := kHook KF KA keysK
noncomputable def mkCn {i : Nat} {n : Str} {ps : Arguments} {b : List Stmt} {r : Option Expr} {tp : List TypeParam} {sc : Scope} {ts : Option Scope} {bd : Str} {pos : Pos} (_ : PR.main.body[i]? = some (.FunctionDef n ps b [] r tp sc ts bd pos)) : Obj :=
  { cls := .none, data := .func { name := n, qualname := n, params := ps, body := .stmts b, scope := sc, globals := 0, closure := [], defaults := .none, kwdefaults := .none } }
noncomputable def tp1 (P : Params) : Obj := { cls := Value.type "dict", data := Data.dict #[ent P (Str.ofString "builtins") 162 (Value.ref 4), ent P (Str.ofString "__main__") 163 (Value.ref 5), ent P (Str.ofString "_sre") 244 (Value.ref 12)] 3 }
noncomputable def tp2 (P : Params) : Obj := { cls := Value.none, data := Data.dict #[{ hash := PyData.keyHash P (⟨#[105, 109, 112, 111, 114, 116, 46, 108, 111, 97, 100, 101, 100, 46, 95, 115, 114, 101]⟩ : Str), key := Value.str (⟨#[105, 109, 112, 111, 114, 116, 46, 108, 111, 97, 100, 101, 100, 46, 95, 115, 114, 101]⟩ : Str) 183, val := Value.bool true }, ent P (Str.ofString "class._frozen_importlib.BuiltinImporter") 185 (Value.ref 14), { hash := PyData.keyHash P (⟨#[119, 97, 116, 99, 104, 101, 100, 46, 105, 109, 112, 111, 114, 116]⟩ : Str), key := Value.str (⟨#[119, 97, 116, 99, 104, 101, 100, 46, 105, 109, 112, 111, 114, 116]⟩ : Str) 206, val := Value.ref 18 }, ent P (Str.ofString "class._frozen_importlib.ModuleSpec") 216 (Value.ref 22), ent P (Str.ofString "sys.modules.booked-epoch") 245 (Value.int 3 0), { hash := PyData.keyHash P (⟨#[105, 109, 112, 111, 114, 116, 46, 108, 97, 116, 101, 114, 45, 108, 97, 105, 100, 46, 95, 115, 114, 101]⟩ : Str), key := Value.str (⟨#[105, 109, 112, 111, 114, 116, 46, 108, 97, 116, 101, 114, 45, 108, 97, 105, 100, 46, 95, 115, 114, 101]⟩ : Str) 270, val := Value.bool true }, ent P (Str.ofString "watched.library") 272 (Value.ref 27), ent P (Str.ofString "watched.library-objects") 0 (Value.str (⟨#[12]⟩ : Str) 0), ent P (Str.ofString "watched.library-deep._sre") 273 (Value.str (⟨#[4, 0, 0, 11, 4, 0, 0, 11, 4, 0, 0, 3, 4, 0, 0, 11, 8, 4, 100, 105, 99, 116, 2]⟩ : Str) 0)] 9 }
noncomputable def tp11 (P : Params) : Obj := { cls := Value.type "dict", data := Data.dict #[ent P (Str.ofString "__name__") 247 (Value.str (Str.ofString "_sre") 246), ent P (Str.ofString "__doc__") 248 (Value.none), ent P (Str.ofString "__package__") 250 (Value.str (Str.ofString "") 249), ent P (Str.ofString "__loader__") 251 (Value.builtin "off-the-table:_sre.__loader__:shared#opaque"), ent P (Str.ofString "__spec__") 252 (Value.builtin "off-the-table:_sre.__spec__:shared#opaque"), ent P (Str.ofString "compile") 253 (Value.builtin "_sre.compile"), ent P (Str.ofString "template") 254 (Value.builtin "off-the-table:_sre.template:shared#opaque"), ent P (Str.ofString "getcodesize") 255 (Value.builtin "off-the-table:_sre.getcodesize:shared#opaque"), ent P (Str.ofString "ascii_iscased") 256 (Value.builtin "off-the-table:_sre.ascii_iscased:shared#opaque"), ent P (Str.ofString "unicode_iscased") 257 (Value.builtin "off-the-table:_sre.unicode_iscased:shared#opaque"), ent P (Str.ofString "ascii_tolower") 258 (Value.builtin "off-the-table:_sre.ascii_tolower:shared#opaque"), ent P (Str.ofString "unicode_tolower") 259 (Value.builtin "off-the-table:_sre.unicode_tolower:shared#opaque"), ent P (Str.ofString "MAGIC") 261 (Value.int 20230612 260), ent P (Str.ofString "CODESIZE") 263 (Value.int 4 262), ent P (Str.ofString "MAXREPEAT") 265 (Value.int 4294967295 264), ent P (Str.ofString "MAXGROUPS") 267 (Value.int 1073741823 266), ent P (Str.ofString "copyright") 269 (Value.str (Str.ofString " SRE 2.2.2 Copyright (c) 1997-2002 by Secret Labs AB ") 268)] 17 }
noncomputable def tp12 (P : Params) : Obj := { cls := Value.type "module", dict := some 11 }
noncomputable def tp13 (P : Params) : Obj := { cls := Value.type "dict", data := Data.dict #[ent P (Str.ofString "__module__") 189 (Value.str (Str.ofString "_frozen_importlib") 186), ent P (Str.ofString "__firstlineno__") 190 (Value.int 971 187), ent P (Str.ofString "__doc__") 191 (Value.builtin "_frozen_importlib.BuiltinImporter.__doc__:str#opaque"), ent P (Str.ofString "_ORIGIN") 192 (Value.str (Str.ofString "built-in") 188), ent P (Str.ofString "find_spec") 193 (Value.builtin "_frozen_importlib.BuiltinImporter.find_spec#opaque"), ent P (Str.ofString "create_module") 194 (Value.builtin "_frozen_importlib.BuiltinImporter.create_module#opaque"), ent P (Str.ofString "exec_module") 195 (Value.builtin "_frozen_importlib.BuiltinImporter.exec_module#opaque"), ent P (Str.ofString "get_code") 196 (Value.builtin "_frozen_importlib.BuiltinImporter.get_code#opaque"), ent P (Str.ofString "get_source") 197 (Value.builtin "_frozen_importlib.BuiltinImporter.get_source#opaque"), ent P (Str.ofString "is_package") 198 (Value.builtin "_frozen_importlib.BuiltinImporter.is_package#opaque"), ent P (Str.ofString "load_module") 199 (Value.builtin "_frozen_importlib.BuiltinImporter.load_module#opaque"), ent P (Str.ofString "__static_attributes__") 200 (Value.ref 15), ent P (Str.ofString "__dict__") 202 (Value.ref 16), ent P (Str.ofString "__weakref__") 204 (Value.ref 17)] 14 }
noncomputable def tp14 (P : Params) : Obj := { cls := Value.type "type", data := Data.cls { name := Str.ofString "BuiltinImporter", bases := [Value.type "object"], mro := [Value.ref 14, Value.type "object"], ns := 13, qualname := Str.ofString "BuiltinImporter" } }
noncomputable def tp15 (P : Params) : Obj := { cls := Value.type "tuple", data := Data.seq #[] }
noncomputable def tp16 (P : Params) : Obj := { cls := Value.type "getset_descriptor", data := Data.fields #[Value.str (Str.ofString "__dict__") 201, Value.ref 14, Value.builtin "function.__dict__", Value.builtin "function.__dict__#set"] }
noncomputable def tp17 (P : Params) : Obj := { cls := Value.type "getset_descriptor", data := Data.fields #[Value.str (Str.ofString "__weakref__") 203, Value.ref 14, Value.builtin "ExceptionGroup.__weakref__", Value.none] }
noncomputable def tp18 (P : Params) : Obj := { cls := Value.none, data := Data.seq #[Value.int 13 0, Value.str (⟨#[6, 189, 10, 95, 95, 109, 111, 100, 117, 108, 101, 95, 95, 6, 186, 17, 95, 102, 114, 111, 122, 101, 110, 95, 105, 109, 112, 111, 114, 116, 108, 105, 98, 6, 190, 15, 95, 95, 102, 105, 114, 115, 116, 108, 105, 110, 101, 110, 111, 95, 95, 4, 187, 0, 971, 6, 191, 7, 95, 95, 100, 111, 99, 95, 95, 9, 52, 95, 102, 114, 111, 122, 101, 110, 95, 105, 109, 112, 111, 114, 116, 108, 105, 98, 46, 66, 117, 105, 108, 116, 105, 110, 73, 109, 112, 111, 114, 116, 101, 114, 46, 95, 95, 100, 111, 99, 95, 95, 58, 115, 116, 114, 35, 111, 112, 97, 113, 117, 101, 6, 192, 7, 95, 79, 82, 73, 71, 73, 78, 6, 188, 8, 98, 117, 105, 108, 116, 45, 105, 110, 6, 193, 9, 102, 105, 110, 100, 95, 115, 112, 101, 99, 9, 50, 95, 102, 114, 111, 122, 101, 110, 95, 105, 109, 112, 111, 114, 116, 108, 105, 98, 46, 66, 117, 105, 108, 116, 105, 110, 73, 109, 112, 111, 114, 116, 101, 114, 46, 102, 105, 110, 100, 95, 115, 112, 101, 99, 35, 111, 112, 97, 113, 117, 101, 6, 194, 13, 99, 114, 101, 97, 116, 101, 95, 109, 111, 100, 117, 108, 101, 9, 54, 95, 102, 114, 111, 122, 101, 110, 95, 105, 109, 112, 111, 114, 116, 108, 105, 98, 46, 66, 117, 105, 108, 116, 105, 110, 73, 109, 112, 111, 114, 116, 101, 114, 46, 99, 114, 101, 97, 116, 101, 95, 109, 111, 100, 117, 108, 101, 35, 111, 112, 97, 113, 117, 101, 6, 195, 11, 101, 120, 101, 99, 95, 109, 111, 100, 117, 108, 101, 9, 52, 95, 102, 114, 111, 122, 101, 110, 95, 105, 109, 112, 111, 114, 116, 108, 105, 98, 46, 66, 117, 105, 108, 116, 105, 110, 73, 109, 112, 111, 114, 116, 101, 114, 46, 101, 120, 101, 99, 95, 109, 111, 100, 117, 108, 101, 35, 111, 112, 97, 113, 117, 101, 6, 196, 8, 103, 101, 116, 95, 99, 111, 100, 101, 9, 49, 95, 102, 114, 111, 122, 101, 110, 95, 105, 109, 112, 111, 114, 116, 108, 105, 98, 46, 66, 117, 105, 108, 116, 105, 110, 73, 109, 112, 111, 114, 116, 101, 114, 46, 103, 101, 116, 95, 99, 111, 100, 101, 35, 111, 112, 97, 113, 117, 101, 6, 197, 10, 103, 101, 116, 95, 115, 111, 117, 114, 99, 101, 9, 51, 95, 102, 114, 111, 122, 101, 110, 95, 105, 109, 112, 111, 114, 116, 108, 105, 98, 46, 66, 117, 105, 108, 116, 105, 110, 73, 109, 112, 111, 114, 116, 101, 114, 46, 103, 101, 116, 95, 115, 111, 117, 114, 99, 101, 35, 111, 112, 97, 113, 117, 101, 6, 198, 10, 105, 115, 95, 112, 97, 99, 107, 97, 103, 101, 9, 51, 95, 102, 114, 111, 122, 101, 110, 95, 105, 109, 112, 111, 114, 116, 108, 105, 98, 46, 66, 117, 105, 108, 116, 105, 110, 73, 109, 112, 111, 114, 116, 101, 114, 46, 105, 115, 95, 112, 97, 99, 107, 97, 103, 101, 35, 111, 112, 97, 113, 117, 101, 6, 199, 11, 108, 111, 97, 100, 95, 109, 111, 100, 117, 108, 101, 9, 52, 95, 102, 114, 111, 122, 101, 110, 95, 105, 109, 112, 111, 114, 116, 108, 105, 98, 46, 66, 117, 105, 108, 116, 105, 110, 73, 109, 112, 111, 114, 116, 101, 114, 46, 108, 111, 97, 100, 95, 109, 111, 100, 117, 108, 101, 35, 111, 112, 97, 113, 117, 101, 6, 200, 21, 95, 95, 115, 116, 97, 116, 105, 99, 95, 97, 116, 116, 114, 105, 98, 117, 116, 101, 115, 95, 95, 4, 0, 0, 15, 6, 202, 8, 95, 95, 100, 105, 99, 116, 95, 95, 4, 0, 0, 16, 6, 204, 11, 95, 95, 119, 101, 97, 107, 114, 101, 102, 95, 95, 4, 0, 0, 17]⟩ : Str) 0, Value.bool true, Value.bool true, Value.str (Str.ofString "") 205, Value.int 21 0, Value.str (⟨#[6, 227, 10, 95, 95, 109, 111, 100, 117, 108, 101, 95, 95, 6, 217, 17, 95, 102, 114, 111, 122, 101, 110, 95, 105, 109, 112, 111, 114, 116, 108, 105, 98, 6, 228, 15, 95, 95, 102, 105, 114, 115, 116, 108, 105, 110, 101, 110, 111, 95, 95, 4, 218, 0, 562, 6, 229, 7, 95, 95, 100, 111, 99, 95, 95, 9, 47, 95, 102, 114, 111, 122, 101, 110, 95, 105, 109, 112, 111, 114, 116, 108, 105, 98, 46, 77, 111, 100, 117, 108, 101, 83, 112, 101, 99, 46, 95, 95, 100, 111, 99, 95, 95, 58, 115, 116, 114, 35, 111, 112, 97, 113, 117, 101, 6, 230, 8, 95, 95, 105, 110, 105, 116, 95, 95, 9, 44, 95, 102, 114, 111, 122, 101, 110, 95, 105, 109, 112, 111, 114, 116, 108, 105, 98, 46, 77, 111, 100, 117, 108, 101, 83, 112, 101, 99, 46, 95, 95, 105, 110, 105, 116, 95, 95, 35, 111, 112, 97, 113, 117, 101, 6, 231, 8, 95, 95, 114, 101, 112, 114, 95, 95, 9, 44, 95, 102, 114, 111, 122, 101, 110, 95, 105, 109, 112, 111, 114, 116, 108, 105, 98, 46, 77, 111, 100, 117, 108, 101, 83, 112, 101, 99, 46, 95, 95, 114, 101, 112, 114, 95, 95, 35, 111, 112, 97, 113, 117, 101, 6, 232, 6, 95, 95, 101, 113, 95, 95, 9, 42, 95, 102, 114, 111, 122, 101, 110, 95, 105, 109, 112, 111, 114, 116, 108, 105, 98, 46, 77, 111, 100, 117, 108, 101, 83, 112, 101, 99, 46, 95, 95, 101, 113, 95, 95, 35, 111, 112, 97, 113, 117, 101, 6, 233, 6, 99, 97, 99, 104, 101, 100, 9, 42, 95, 102, 114, 111, 122, 101, 110, 95, 105, 109, 112, 111, 114, 116, 108, 105, 98, 46, 77, 111, 100, 117, 108, 101, 83, 112, 101, 99, 46, 99, 97, 99, 104, 101, 100, 35, 111, 112, 97, 113, 117, 101, 6, 234, 6, 112, 97, 114, 101, 110, 116, 9, 42, 95, 102, 114, 111, 122, 101, 110, 95, 105, 109, 112, 111, 114, 116, 108, 105, 98, 46, 77, 111, 100, 117, 108, 101, 83, 112, 101, 99, 46, 112, 97, 114, 101, 110, 116, 35, 111, 112, 97, 113, 117, 101, 6, 235, 12, 104, 97, 115, 95, 108, 111, 99, 97, 116, 105, 111, 110, 9, 48, 95, 102, 114, 111, 122, 101, 110, 95, 105, 109, 112, 111, 114, 116, 108, 105, 98, 46, 77, 111, 100, 117, 108, 101, 83, 112, 101, 99, 46, 104, 97, 115, 95, 108, 111, 99, 97, 116, 105, 111, 110, 35, 111, 112, 97, 113, 117, 101, 6, 236, 21, 95, 95, 115, 116, 97, 116, 105, 99, 95, 97, 116, 116, 114, 105, 98, 117, 116, 101, 115, 95, 95, 4, 0, 0, 23, 6, 238, 8, 95, 95, 100, 105, 99, 116, 95, 95, 4, 0, 0, 24, 6, 240, 11, 95, 95, 119, 101, 97, 107, 114, 101, 102, 95, 95, 4, 0, 0, 25, 6, 241, 8, 95, 95, 104, 97, 115, 104, 95, 95, 0]⟩ : Str) 0, Value.bool true, Value.bool true, Value.str (Str.ofString "") 242] 1 }
noncomputable def tp19 (P : Params) : Obj := { cls := Value.type "list", data := Data.seq #[] }
noncomputable def tp20 (P : Params) : Obj := { cls := Value.type "dict", data := Data.dict #[ent P (Str.ofString "name") 208 (Value.str (Str.ofString "_sre") 207), ent P (Str.ofString "loader") 209 (Value.ref 14), ent P (Str.ofString "origin") 210 (Value.str (Str.ofString "built-in") 184), ent P (Str.ofString "loader_state") 211 (Value.none), ent P (Str.ofString "submodule_search_locations") 212 (Value.none), ent P (Str.ofString "_uninitialized_submodules") 213 (Value.ref 19), ent P (Str.ofString "_set_fileattr") 214 (Value.bool false), ent P (Str.ofString "_cached") 215 (Value.none), ent P (Str.ofString "_initializing") 243 (Value.bool false)] 9 }
noncomputable def tp21 (P : Params) : Obj := { cls := Value.type "dict", data := Data.dict #[ent P (Str.ofString "__module__") 227 (Value.str (Str.ofString "_frozen_importlib") 217), ent P (Str.ofString "__firstlineno__") 228 (Value.int 562 218), ent P (Str.ofString "__doc__") 229 (Value.builtin "_frozen_importlib.ModuleSpec.__doc__:str#opaque"), ent P (Str.ofString "__init__") 230 (Value.builtin "_frozen_importlib.ModuleSpec.__init__#opaque"), ent P (Str.ofString "__repr__") 231 (Value.builtin "_frozen_importlib.ModuleSpec.__repr__#opaque"), ent P (Str.ofString "__eq__") 232 (Value.builtin "_frozen_importlib.ModuleSpec.__eq__#opaque"), ent P (Str.ofString "cached") 233 (Value.builtin "_frozen_importlib.ModuleSpec.cached#opaque"), ent P (Str.ofString "parent") 234 (Value.builtin "_frozen_importlib.ModuleSpec.parent#opaque"), ent P (Str.ofString "has_location") 235 (Value.builtin "_frozen_importlib.ModuleSpec.has_location#opaque"), ent P (Str.ofString "__static_attributes__") 236 (Value.ref 23), ent P (Str.ofString "__dict__") 238 (Value.ref 24), ent P (Str.ofString "__weakref__") 240 (Value.ref 25), ent P (Str.ofString "__hash__") 241 (Value.none)] 13 }
noncomputable def tp22 (P : Params) : Obj := { cls := Value.type "type", data := Data.cls { name := Str.ofString "ModuleSpec", bases := [Value.type "object"], mro := [Value.ref 22, Value.type "object"], ns := 21, qualname := Str.ofString "ModuleSpec" } }
noncomputable def tp23 (P : Params) : Obj := { cls := Value.type "tuple", data := Data.seq #[Value.str (Str.ofString "_cached") 219, Value.str (Str.ofString "_set_fileattr") 220, Value.str (Str.ofString "_uninitialized_submodules") 221, Value.str (Str.ofString "loader") 222, Value.str (Str.ofString "loader_state") 223, Value.str (Str.ofString "name") 224, Value.str (Str.ofString "origin") 225, Value.str (Str.ofString "submodule_search_locations") 226] }
noncomputable def tp24 (P : Params) : Obj := { cls := Value.type "getset_descriptor", data := Data.fields #[Value.str (Str.ofString "__dict__") 237, Value.ref 22, Value.builtin "function.__dict__", Value.builtin "function.__dict__#set"] }
noncomputable def tp25 (P : Params) : Obj := { cls := Value.type "getset_descriptor", data := Data.fields #[Value.str (Str.ofString "__weakref__") 239, Value.ref 22, Value.builtin "ExceptionGroup.__weakref__", Value.none] }
noncomputable def tp26 (P : Params) : Obj := { cls := Value.ref 22, dict := some 20 }
noncomputable def tp27 (P : Params) : Obj := { cls := Value.none, data := Data.seq #[Value.int 11 0, Value.str { cps := #[6, 247, 8, 95, 95, 110, 97, 109, 101, 95, 95, 6, 246, 4, 95, 115, 114, 101, 6, 248, 7, 95, 95, 100, 111, 99, 95, 95, 0, 6, 250, 11, 95, 95, 112, 97, 99, 107, 97, 103, 101, 95, 95, 6, 249, 0, 6, 251, 10, 95, 95, 108, 111, 97, 100, 101, 114, 95, 95, 4, 0, 0, 14, 6, 252, 8, 95, 95, 115, 112, 101, 99, 95, 95, 4, 0, 0, 26, 6, 253, 7, 99, 111, 109, 112, 105, 108, 101, 9, 12, 95, 115, 114, 101, 46, 99, 111, 109, 112, 105, 108, 101, 6, 254, 8, 116, 101, 109, 112, 108, 97, 116, 101, 9, 13, 95, 115, 114, 101, 46, 116, 101, 109, 112, 108, 97, 116, 101, 6, 255, 11, 103, 101, 116, 99, 111, 100, 101, 115, 105, 122, 101, 9, 16, 95, 115, 114, 101, 46, 103, 101, 116, 99, 111, 100, 101, 115, 105, 122, 101, 6, 256, 13, 97, 115, 99, 105, 105, 95, 105, 115, 99, 97, 115, 101, 100, 9, 18, 95, 115, 114, 101, 46, 97, 115, 99, 105, 105, 95, 105, 115, 99, 97, 115, 101, 100, 6, 257, 15, 117, 110, 105, 99, 111, 100, 101, 95, 105, 115, 99, 97, 115, 101, 100, 9, 20, 95, 115, 114, 101, 46, 117, 110, 105, 99, 111, 100, 101, 95, 105, 115, 99, 97, 115, 101, 100, 6, 258, 13, 97, 115, 99, 105, 105, 95, 116, 111, 108, 111, 119, 101, 114, 9, 18, 95, 115, 114, 101, 46, 97, 115, 99, 105, 105, 95, 116, 111, 108, 111, 119, 101, 114, 6, 259, 15, 117, 110, 105, 99, 111, 100, 101, 95, 116, 111, 108, 111, 119, 101, 114, 9, 20, 95, 115, 114, 101, 46, 117, 110, 105, 99, 111, 100, 101, 95, 116, 111, 108, 111, 119, 101, 114, 6, 261, 5, 77, 65, 71, 73, 67, 4, 260, 0, 20230612, 6, 263, 8, 67, 79, 68, 69, 83, 73, 90, 69, 4, 262, 0, 4, 6, 265, 9, 77, 65, 88, 82, 69, 80, 69, 65, 84, 4, 264, 0, 4294967295, 6, 267, 9, 77, 65, 88, 71, 82, 79, 85, 80, 83, 4, 266, 0, 1073741823, 6, 269, 9, 99, 111, 112, 121, 114, 105, 103, 104, 116, 6, 268, 53, 32, 83, 82, 69, 32, 50, 46, 50, 46, 50, 32, 67, 111, 112, 121, 114, 105, 103, 104, 116, 32, 40, 99, 41, 32, 49, 57, 57, 55, 45, 50, 48, 48, 50, 32, 98, 121, 32, 83, 101, 99, 114, 101, 116, 32, 76, 97, 98, 115, 32, 65, 66, 32] } 0, Value.bool true, Value.bool false, Value.str (Str.ofString "_sre") 271] }
noncomputable def tp28 (P : Params) : Obj := { cls := Value.type "tuple", data := Data.seq #[] }
noncomputable def tp30 (P : Params) : Obj := { cls := Value.type "code", data := Data.fields #[Value.str (Str.ofString "<module>") 277, Value.str (Str.ofString "<module>") 278, Value.str (Str.ofString "/claim/cut.py") 279, Value.int 1 0, Value.int 0 0, Value.int 0 0, Value.int 0 0, Value.int 0 0, Value.ref 28, Value.bool false, Value.int 276 0, Value.ref 29, Value.none, Value.none, Value.none, Value.none, Value.int 280 0, Value.int 1 0, Value.str (Str.ofString "/claim/cut.py") 281] }
noncomputable def tp31 (P : Params) : Obj := { cls := Value.type "frame", slots := #[some (Value.ref 30), some (Value.ref 3), some (Value.ref 3), none, some (Value.str (Str.ofString "__main__") 164), none, some (Value.ref 0)] }
noncomputable def tp32 (P : Params) : Obj := { cls := Value.type "tuple", data := Data.seq #[] }
noncomputable def tp33 (P : Params) : Obj := { cls := Value.none, data := Data.fields #[] }
noncomputable def tp34 (P : Params) : Obj := { cls := Value.type "tuple", data := Data.seq #[Value.str (Str.ofString "unhashable_params") 287, Value.str (Str.ofString "new_unhashable") 288, Value.str (Str.ofString "t") 289] }
noncomputable def tp35 (P : Params) : Obj := { cls := Value.type "tuple", data := Data.seq #[] }
noncomputable def tp36 : Obj := mkCn (i := 2) rfl
noncomputable def tp39 (P : Params) : Obj := { cls := Value.type "tuple", data := Data.seq #[] }
noncomputable def tp40 (P : Params) : Obj := { cls := Value.none, data := Data.fields #[] }
noncomputable def tp41 (P : Params) : Obj := { cls := Value.type "tuple", data := Data.seq #[Value.str (Str.ofString "first_args") 296, Value.str (Str.ofString "second_args") 297, Value.str (Str.ofString "first_unhashable") 298, Value.str (Str.ofString "second_unhashable") 299, Value.str (Str.ofString "t") 300, Value.str (Str.ofString "elem") 301] }
noncomputable def tp42 (P : Params) : Obj := { cls := Value.type "tuple", data := Data.seq #[] }
noncomputable def tp43 : Obj := mkCn (i := 3) rfl
noncomputable def tp46 (P : Params) : Obj := { cls := Value.type "list", data := Data.seq #[Value.int 14 310, Value.int 14 311, Value.int 4 312, Value.int 1 313, Value.int 1 314, Value.int 9 315, Value.int 0 316, Value.int 64 317, Value.int 0 318, Value.int 1342177280 319, Value.int 0 320, Value.int 0 321, Value.int 0 322, Value.int 0 323, Value.int 0 324, Value.int 17 325, Value.int 0 326, Value.int 13 327, Value.int 11 328, Value.int 9 329, Value.int 0 330, Value.int 64 331, Value.int 0 332, Value.int 1342177280 333, Value.int 0 334, Value.int 0 335, Value.int 0 336, Value.int 0 337, Value.int 0 338, Value.int 17 339, Value.int 1 340, Value.int 1 341] }
noncomputable def tp47 (P : Params) : Obj := { cls := Value.type "dict", data := Data.dict #[] }
noncomputable def tp48 (P : Params) : Obj := { cls := Value.type "tuple", data := Data.seq #[Value.none, Value.none] }
noncomputable def tp49 (P : Params) : Obj := { cls := Value.type "tuple", data := Data.seq #[Value.int 14 0, Value.int 14 0, Value.int 4 0, Value.int 1 0, Value.int 1 0, Value.int 9 0, Value.int 0 0, Value.int 64 0, Value.int 0 0, Value.int 1342177280 0, Value.int 0 0, Value.int 0 0, Value.int 0 0, Value.int 0 0, Value.int 0 0, Value.int 17 0, Value.int 0 0, Value.int 13 0, Value.int 11 0, Value.int 9 0, Value.int 0 0, Value.int 64 0, Value.int 0 0, Value.int 1342177280 0, Value.int 0 0, Value.int 0 0, Value.int 0 0, Value.int 0 0, Value.int 0 0, Value.int 17 0, Value.int 1 0, Value.int 1 0] }
noncomputable def tp50 (P : Params) : Obj := { cls := Value.type "re.Pattern", data := Data.fields #[Value.str (Str.ofString "([&~|])") 308, Value.int 32 343, Value.int 1 0, Value.none, Value.none, Value.ref 49, Value.int 0 0] }
noncomputable def tp51 (P : Params) : Obj := { cls := Value.type "tuple", data := Data.seq #[] }
noncomputable def tp52 (P : Params) : Obj := { cls := Value.none, data := Data.fields #[] }
noncomputable def tp53 (P : Params) : Obj := { cls := Value.type "tuple", data := Data.seq #[Value.str (Str.ofString "pat") 348, Value.str (Str.ofString "STAR") 349, Value.str (Str.ofString "parts") 350] }
noncomputable def tp54 (P : Params) : Obj := { cls := Value.type "tuple", data := Data.seq #[] }
noncomputable def tp55 : Obj := mkCn (i := 6) rfl
noncomputable def tp58 (P : Params) : Obj := { cls := Value.type "bytes_iterator", data := Data.fields #[Value.none, Value.int 24 0] }
noncomputable def tp60 (P : Params) : Obj := { cls := Value.type "dict", data := Data.dict #[] 2 }
noncomputable def tp61 (P : Params) : Obj := { cls := Value.type "tuple", data := Data.seq #[] }
noncomputable def tp62 (P : Params) : Obj := { cls := Value.type "StopIteration", data := Data.fields #[Value.ref 61, Value.none, Value.none, Value.none, Value.bool false, Value.none] }
noncomputable def tg0 (P : Params) : Obj := { cls := Value.type "dict", data := Data.dict #[ent P (Str.ofString "__name__") 165 (Value.str (Str.ofString "__main__") 164), ent P (Str.ofString "__doc__") 166 (Value.none), ent P (Str.ofString "__package__") 167 (Value.none), ent P (Str.ofString "__loader__") 168 (Value.builtin "__main__.__loader__#opaque"), ent P (Str.ofString "__spec__") 169 (Value.none), ent P (Str.ofString "__annotations__") 170 (Value.ref 6), ent P (Str.ofString "__builtins__") 171 (Value.ref 4), ent P (Str.ofString "__file__") 173 (Value.str (Str.ofString "/claim/cut.py") 172), ent P (Str.ofString "__cached__") 174 (Value.none), ent P (Str.ofString "_sre") 275 (Value.ref 12)] 10 }
noncomputable def tg6 (P : Params) : Obj := { cls := Value.type "dict", data := Data.dict #[ent P (Str.ofString "__name__") 165 (Value.str (Str.ofString "re") 354), ent P (Str.ofString "__doc__") 166 (Value.none), ent P (Str.ofString "__package__") 167 (Value.none), ent P (Str.ofString "__loader__") 168 (Value.builtin "__main__.__loader__#opaque"), ent P (Str.ofString "__spec__") 169 (Value.none), ent P (Str.ofString "__annotations__") 170 (Value.ref 6), ent P (Str.ofString "__builtins__") 171 (Value.ref 4), ent P (Str.ofString "__file__") 173 (Value.str (Str.ofString "/claim/cut.py") 172), ent P (Str.ofString "__cached__") 174 (Value.none), ent P (Str.ofString "_sre") 275 (Value.ref 12), ent P (Str.ofString "_deduplicate_unhashable") 292 (Value.ref 38), ent P (Str.ofString "_compare_args_orderless") 304 (Value.ref 45), ent P (Str.ofString "twin_re_1_fnmatch") 344 (Value.ref 50), ent P (Str.ofString "translate") 353 (Value.ref 57)] 14 }
noncomputable def tg7 (P : Params) : Obj := { cls := Value.type "dict", data := Data.dict #[ent P (Str.ofString "__name__") 165 (Value.str (Str.ofString "re") 354), ent P (Str.ofString "__doc__") 166 (Value.none), ent P (Str.ofString "__package__") 167 (Value.none), ent P (Str.ofString "__loader__") 168 (Value.builtin "__main__.__loader__#opaque"), ent P (Str.ofString "__spec__") 169 (Value.none), ent P (Str.ofString "__annotations__") 170 (Value.ref 6), ent P (Str.ofString "__builtins__") 171 (Value.ref 4), ent P (Str.ofString "__file__") 173 (Value.str (Str.ofString "/claim/cut.py") 172), ent P (Str.ofString "__cached__") 174 (Value.none), ent P (Str.ofString "_sre") 275 (Value.ref 12), ent P (Str.ofString "_deduplicate_unhashable") 292 (Value.ref 38), ent P (Str.ofString "_compare_args_orderless") 304 (Value.ref 45), ent P (Str.ofString "twin_re_1_fnmatch") 344 (Value.ref 50), ent P (Str.ofString "translate") 353 (Value.ref 57), ent P (Str.ofString "_special_chars_map") 501 (Value.ref 59)] 15 }
noncomputable def tn0 (P : Params) : Obj := { cls := Value.none, data := Data.fields #[] }
noncomputable def tn7 (P : Params) : Obj := { cls := Value.none, data := Data.fields #[Value.int 3 0, Value.int 0 0, Value.ref 37, Value.int 9 0, Value.int 0 0, Value.ref 44, Value.int 21 0, Value.int 0 0, Value.ref 56] }
noncomputable def Hp0 (P : Params) : Heap := { objs := ⟨[boot_o_0 P, tp1 P, tp2 P, tg0 P, boot_o_4 P, boot_o_5 P, boot_o_6 P, boot_o_7 P, boot_o_8 P, boot_o_9 P, boot_o_10 P, tp11 P, tp12 P, tp13 P, tp14 P, tp15 P, tp16 P, tp17 P, tp18 P, tp19 P, tp20 P, tp21 P, tp22 P, tp23 P, tp24 P, tp25 P, tp26 P, tp27 P]⟩ }
noncomputable def Hp1 (P : Params) : Heap := { objs := ⟨[boot_o_0 P, tp1 P, tp2 P, tg0 P, boot_o_4 P, boot_o_5 P, boot_o_6 P, boot_o_7 P, boot_o_8 P, boot_o_9 P, boot_o_10 P, tp11 P, tp12 P, tp13 P, tp14 P, tp15 P, tp16 P, tp17 P, tp18 P, tp19 P, tp20 P, tp21 P, tp22 P, tp23 P, tp24 P, tp25 P, tp26 P, tp27 P, tp28 P, tn0 P, tp30 P, tp31 P]⟩ }
noncomputable def Hp2 (P : Params) : Heap := { objs := ⟨[boot_o_0 P, tp1 P, tp2 P, tg6 P, boot_o_4 P, boot_o_5 P, boot_o_6 P, boot_o_7 P, boot_o_8 P, boot_o_9 P, boot_o_10 P, tp11 P, tp12 P, tp13 P, tp14 P, tp15 P, tp16 P, tp17 P, tp18 P, tp19 P, tp20 P, tp21 P, tp22 P, tp23 P, tp24 P, tp25 P, tp26 P, tp27 P, tp28 P, tn7 P, tp30 P, tp31 P, tp32 P, tp33 P, tp34 P, tp35 P, tp36, cd37, ob38, tp39 P, tp40 P, tp41 P, tp42 P, tp43, cd44, ob45, tp46 P, tp47 P, tp48 P, tp49 P, tp50 P, tp51 P, tp52 P, tp53 P, tp54 P, tp55, cd56, ob57]⟩ }
noncomputable def Hp3 (P : Params) : Heap := { objs := ⟨[boot_o_0 P, tp1 P, tp2 P, tg7 P, boot_o_4 P, boot_o_5 P, boot_o_6 P, boot_o_7 P, boot_o_8 P, boot_o_9 P, boot_o_10 P, tp11 P, tp12 P, tp13 P, tp14 P, tp15 P, tp16 P, tp17 P, tp18 P, tp19 P, tp20 P, tp21 P, tp22 P, tp23 P, tp24 P, tp25 P, tp26 P, tp27 P, tp28 P, tn7 P, tp30 P, tp31 P, tp32 P, tp33 P, tp34 P, tp35 P, tp36, cd37, ob38, tp39 P, tp40 P, tp41 P, tp42 P, tp43, cd44, ob45, tp46 P, tp47 P, tp48 P, tp49 P, tp50 P, tp51 P, tp52 P, tp53 P, tp54 P, tp55, cd56, ob57, tp58 P, ob59, tp60 P, tp61 P, tp62 P]⟩ }

noncomputable def ST (H : Params → Heap) (k : Nat) (w : World) (os : OsState) : Shared := ⟨H w.params, #[], {}, k, os⟩
noncomputable def ENV : Env := { scope := PR.main.scope, locals := mainNs, globals := mainNs, cells := [], code := .ref 30, frame := some 31 }
noncomputable def BD : List Stmt := behindTheImports PR
noncomputable def CD : Code := .body BD ENV
noncomputable abbrev P0 : Pos := ⟨0, 0, 0, 0⟩
noncomputable abbrev P6 : Pos := ⟨25, 0, 25, 8⟩
noncomputable abbrev P7 : Pos := ⟨26, 0, 26, 18⟩
theorem chk_open (w : World) : (fencedOpening treeTable PR w 4110).map (fun s => (s.heap, s.gens, s.drawn, s.toks)) = some (Hp0 w.params, #[], {}, 276) := by
  kernel_rfl
theorem chk_size (w : World) : ((Hp0 w.params).isNs mainGlobals, (Hp0 w.params).objs.size, (Hp0 w.params).nsMap mainGlobals "__annotations__") = (true, 28, some (.ref 6)) := by
  kernel_rfl
theorem chk_pre (w : World) (os : OsState) : topGo treeTable PR w 28 (some (.ref 6)) 12 (ST Hp0 276 w os) (topStub PR) = some (ST Hp1 282 w os, ⟨denote treeTable CD, CD, P0, [topFrame P0]⟩) := by
  kernel_rfl
theorem chk_block (w : World) (os : OsState) : segRun treeTable PR w 28 (some (.ref 6)) 1 10 (ST Hp1 282 w os) (blockOf BD ENV CD P0 [topFrame P0]) = some (.next, ST Hp1 282 w os, CD, P0) := by
  kernel_rfl
theorem chk_a (w : World) (os : OsState) : segRun treeTable PR w 28 (some (.ref 6)) 1 300 (ST Hp1 282 w os) (piecesOf (BD.take 7) ENV CD P0 [topFrame P0]) = some (.next, ST Hp2 356 w os, CD, P6) := by
  kernel_rfl

noncomputable abbrev ChkB (w : World) : Prop := ∀ os, segRun treeTable PR w 28 (some (.ref 6)) 1 1300 (ST Hp2 356 w os) (piecesOf ((BD.drop 7).take 1) ENV CD P6 [topFrame P0]) = some (.next, ST Hp3 502 w os, CD, P7)
theorem chk_b1 (w : World) : ChkB ((w.withFollow "comprehension-iter-twice" false).withFollow "special-get-raises" false) := by
  intro os
  kernel_rfl
theorem chk_b2 (w : World) : ChkB ((w.withFollow "comprehension-iter-twice" true).withFollow "special-get-raises" false) := by
  intro os
  kernel_rfl
theorem chk_b3 (w : World) : ChkB ((w.withFollow "comprehension-iter-twice" false).withFollow "special-get-raises" true) := by
  intro os
  kernel_rfl
theorem chk_b4 (w : World) : ChkB ((w.withFollow "comprehension-iter-twice" true).withFollow "special-get-raises" true) := by
  intro os
  kernel_rfl
theorem chk_b (w : World) : ChkB w :=
  byRow2 "special-get-raises" (P := ChkB)
    (byRow2 "comprehension-iter-twice" (P := fun w => ChkB (w.withFollow "special-get-raises" false)) chk_b1 chk_b2)
    (byRow2 "comprehension-iter-twice" (P := fun w => ChkB (w.withFollow "special-get-raises" true)) chk_b3 chk_b4) w

theorem chk_c (w : World) (os : OsState) : (topRun treeTable PR w 28 (some (.ref 6)) 2488 (ST Hp3 502 w os) (restOf ((BD.drop 7).drop 1) ENV CD P7 [topFrame P0])).map (fun s => ((staticsOk (importedModules PR.main.body) (Hp0 w.params) s.heap && namesBound PR s.heap && gensDone s && laidKept (Hp0 w.params) s.heap), (openSeen QV LO (importedModules PR.main.body) XT true s, HK.obs s))) = some (true, (openGood QV LO, HK.val w)) := by
  kernel_rfl

theorem goes (w : World) : (openEnds treeTable PR w 4110).map (fun s => (openSeen QV LO (importedModules PR.main.body) XT true s, HK.obs s)) = some (openGood QV LO, HK.val w) := by
  obtain ⟨⟨h, gs, d, k, os⟩, e, e'⟩ := Option.map_eq_some_iff.mp (chk_open w)
  obtain ⟨rfl, rfl, rfl, rfl⟩ : h = Hp0 w.params ∧ gs = #[] ∧ d = {} ∧ k = 276 := by simpa using e'
  obtain ⟨r, hr, hl⟩ := Option.map_eq_some_iff.mp (chk_c w os)
  have l1 := congrArg Prod.fst hl
  have l2 := congrArg Prod.snd hl
  dsimp only at l1 l2
  have kB := piece_app (chk_b w os) hr
  rw [List.take_append_drop] at kB
  have kA := piece_app (chk_a w os) kB
  rw [List.take_append_drop] at kA
  have run := go_top (chk_pre w os) (piece_block (chk_block w os) kA)
  have q := chk_size w
  have z1 := congrArg Prod.fst q
  have z2 := congrArg (fun x => x.2.1) q
  have z3 := congrArg (fun x => x.2.2) q
  dsimp only at z1 z2 z3
  have t : topFrom treeTable PR w 4110 ⟨Hp0 w.params, #[], {}, 276, os⟩ = some r := by
    unfold topFrom
    dsimp only
    rw [z1, z2, z3]
    show (topRun treeTable PR w 28 (some (.ref 6)) (12 + (10 + (300 + (1300 + 2488)))) (ST Hp0 276 w os) (topStub PR)).bind _ = _
    rw [run]
    show (match staticsOk (importedModules PR.main.body) (Hp0 w.params) r.heap && namesBound PR r.heap && gensDone r && laidKept (Hp0 w.params) r.heap with | true => some r | false => none) = some r
    rw [l1]
  unfold openEnds
  rw [e]
  show (topFrom treeTable PR w 4110 _).map _ = _
  rw [t]
  exact congrArg some l2
set_option maxRecDepth 100000 in
set_option maxHeartbeats 8000000 in
theorem hk {d : DefRec} {kwd : List (Str × Expr)} (hdef : defOf QV PySem.Challenge.rw_kt0016_01.row.name = some (d, kwd)) (hp : PySem.Challenge.rw_kt0016_01.row.prog.theDef PySem.Challenge.rw_kt0016_01.row.name = some (d.params, d.body, d.scope))
    (hkw : kwWritten? d.params.kwonlyargs d.params.kw_defaults = some kwd) (call : WalkO QV LO (XL QV []) HK.says PySem.Challenge.rw_kt0016_01.row.toRowW d kwd fun f vs => PySem.call f vs) : PySem.Challenge.rw_kt0016_01.Holds := by
  refine holds_law (by decide +kernel) fun said => ?_
  refine holds_open (q := QV) (loose := LO) (Xt := XT) (XP := XL QV []) (Yf := HK.obs) (Ya := HK.val) (YP := HK.says) (N := 4110) goes HK.of HK.keeps (fun s e => xl_of s (Bool.and_eq_true_iff.mp e).1) XL.keeps hdef hp hkw (fun s e => recFacts_of (Bool.and_eq_true_iff.mp e).2) rfl said (by decide +kernel) ⟨rfl, rfl, rfl, rfl, rfl, by decide +kernel⟩ ?hw call
  case hw => w_witness2
end Mine
end
section
open PySem PySem.W PyProof.Rows
set_option Elab.async false
set_option linter.all false
namespace Mine

/-! ## heaps, list knowledge, specs -/
noncomputable abbrev Ext (h h' : Heap) : Prop := ∀ b o, h.get? b = some o → h'.get? b = some o
theorem Ext.refl (h : Heap) : Ext h h := fun _ _ e => e
theorem Ext.trans {h h' h'' : Heap} (x : Ext h h') (y : Ext h' h'') : Ext h h'' := fun b o e => y b o (x b o e)
theorem Ext.push (h : Heap) (o : Obj) : Ext h (h.push o) := fun _ _ e => Heap.get?_push_of_some o e

/-- what is known of made objects that stay as they are -/
noncomputable abbrev LG := Addr → Option Obj
noncomputable def lobj (vs : List Value) (n : Nat) : Obj := { cls := .type "list", data := .seq vs.toArray n }
noncomputable def Pl (o : Obj) : Prop := (∀ es n, o.data ≠ .dict es n) ∧ ∀ v, o.data ≠ .cell v
theorem pl_lobj (vs : List Value) (n : Nat) : Pl (lobj vs n) := ⟨(fun _ _ h => by cases h), (fun _ h => by cases h)⟩
noncomputable def Sub (V : LG) (h : Heap) : Prop := ∀ a o, V a = some o → h.get? a = some o ∧ Pl o
noncomputable def Le (V V' : LG) : Prop := ∀ a o, V a = some o → V' a = some o
theorem Le.refl (V : LG) : Le V V := fun _ _ e => e
theorem Le.trans {V V' V'' : LG} (x : Le V V') (y : Le V' V'') : Le V V'' := fun a vs e => y a vs (x a vs e)
theorem Sub.ext {V : LG} {h h' : Heap} (x : Sub V h) (e : Ext h h') : Sub V h' := fun a o q => ⟨e a o (x a o q).1, (x a o q).2⟩
theorem Sub.le {V V' : LG} {h : Heap} (x : Sub V' h) (e : Le V V') : Sub V h := fun a vs q => x a vs (e a vs q)
theorem Sub.pl {V : LG} {h : Heap} {a : Addr} {vs : List Value} {n : Nat} (x : Sub V h) (q : V a = some (lobj vs n)) : h.PlainList a vs.toArray := ⟨n, (x a _ q).1⟩

structure Grow (V : LG) (h : Heap) (V' : LG) (h' : Heap) : Prop where
  ext : Ext h h'
  le : Le V V'
  sub : Sub V' h'
  new : ∀ a o, V' a = some o → V a = some o ∨ h.get? a = none
theorem Grow.refl {V : LG} {h : Heap} (x : Sub V h) : Grow V h V h := ⟨Ext.refl _, Le.refl _, x, fun _ _ e => .inl e⟩
theorem none_of_ext {h h' : Heap} {a : Addr} (x : Ext h h') (q : h'.get? a = none) : h.get? a = none := by
  cases e2 : h.get? a with
  | none => rfl
  | some o => rw [x a o e2] at q; cases q
theorem Grow.trans {V V' V'' : LG} {h h' h'' : Heap} (x : Grow V h V' h') (y : Grow V' h' V'' h'') : Grow V h V'' h'' :=
  ⟨x.ext.trans y.ext, x.le.trans y.le, y.sub, fun a vs e => (y.new a vs e).elim (fun q => x.new a vs q) fun q => .inr (none_of_ext x.ext q)⟩
theorem Grow.of_ext {V : LG} {h h' : Heap} (x : Sub V h) (e : Ext h h') : Grow V h V h' := ⟨e, Le.refl _, x.ext e, fun _ _ q => .inl q⟩

/-- one object more -/
noncomputable def put (V : LG) (a : Addr) (o : Obj) : LG := fun b => if b = a then some o else V b
theorem put_self (V : LG) (a : Addr) (o : Obj) : put V a o a = some o := if_pos rfl
theorem Le.put {V : LG} {a : Addr} {o : Obj} (h : V a = none) : Le V (put V a o) := fun b us e => by
  unfold Mine.put; split
  · rename_i q; subst q; rw [h] at e; cases e
  · exact e
theorem Sub.put {V : LG} {h : Heap} {a : Addr} {o : Obj} (x : Sub V h) (hl : h.get? a = some o) (hp : Pl o) : Sub (put V a o) h := fun b us e => by
  unfold Mine.put at e; split at e
  · rename_i q; subst q; cases e; exact ⟨hl, hp⟩
  · exact x b us e
theorem Sub.fresh {V : LG} {h : Heap} {a : Addr} (x : Sub V h) (e : h.get? a = none) : V a = none := by
  cases q : V a with
  | none => rfl
  | some vs => have := (x a vs q).1; rw [e] at this; cases this
theorem fresh_size (h : Heap) : h.get? h.objs.size = none := by
  cases e : h.get? h.objs.size with
  | none => rfl
  | some o => exact absurd (Heap.lt_size e) (Nat.lt_irrefl _)
theorem Grow.new_obj {V : LG} {h h' : Heap} {a : Addr} {o : Obj} (x : Sub V h) (e : Ext h h') (hn : h.get? a = none) (hl : h'.get? a = some o) (hp : Pl o) : Grow V h (put V a o) h' :=
  ⟨e, .put (x.fresh hn), (x.ext e).put hl hp, fun b us q => by
    unfold put at q; split at q
    · rename_i r; subst r; exact .inr hn
    · exact .inl q⟩
theorem Grow.push_obj {V : LG} {h : Heap} {o : Obj} (x : Sub V h) (hp : Pl o) (hf : o.isFreed = false := by rfl) : Grow V h (put V h.objs.size o) (h.push o) :=
  .new_obj x (Ext.push _ _) (fresh_size _) (Heap.get?_push_size _ hf) hp

structure Sp where
  p : LG → Value → Prop
  mono : ∀ {V V' v}, Le V V' → p V v → p V' v

noncomputable def I (i : Int) : Sp := ⟨fun _ v => ∃ t, v = .int i t, fun _ h => h⟩
noncomputable def S (x : Str) : Sp := ⟨fun _ v => ∃ t, v = .str x t, fun _ h => h⟩
noncomputable def B (b : Bool) : Sp := ⟨fun _ v => v = .bool b, fun _ h => h⟩
noncomputable def N : Sp := ⟨fun _ v => v = .none, fun _ h => h⟩
noncomputable def Vl (v : Value) : Sp := ⟨fun _ u => u = v, fun _ h => h⟩
noncomputable def Any : Sp := ⟨fun _ _ => True, fun _ h => h⟩

inductive Fit (V : LG) : List Sp → List Value → Prop
  | nil : Fit V [] []
  | cons {P Ps v vs} : P.p V v → Fit V Ps vs → Fit V (P :: Ps) (v :: vs)
theorem Fit.mono {V V' : LG} (e : Le V V') : ∀ {Ps : List Sp} {vs : List Value}, Fit V Ps vs → Fit V' Ps vs
  | _, _, .nil => .nil
  | P :: _, _, .cons h t => .cons (P.mono e h) (Fit.mono e t)
theorem Fit.length {V : LG} : ∀ {Ps : List Sp} {vs : List Value}, Fit V Ps vs → Ps.length = vs.length
  | _, _, .nil => rfl
  | _, _, .cons _ t => by simp [Fit.length t]
theorem Fit.append {V : LG} : ∀ {Ps Qs : List Sp} {vs us : List Value}, Fit V Ps vs → Fit V Qs us → Fit V (Ps ++ Qs) (vs ++ us)
  | _, _, _, _, .nil, h => h
  | _, _, _, _, .cons a t, h => .cons a (Fit.append t h)
theorem Fit.get {V : LG} : ∀ {Ps : List Sp} {vs : List Value}, Fit V Ps vs → ∀ (i : Nat) (P : Sp), Ps[i]? = some P → ∃ v, vs[i]? = some v ∧ P.p V v
  | _, _, .nil, i, P, h => by simp at h
  | _, _, .cons a t, 0, P, h => by simp at h; subst h; exact ⟨_, by simp, a⟩
  | _, _, .cons a t, i + 1, P, h => by simp at h; simpa using Fit.get t i P h
theorem Fit.getv {V : LG} : ∀ {Ps : List Sp} {vs : List Value}, Fit V Ps vs → ∀ (i : Nat) (v : Value), vs[i]? = some v → ∃ P, Ps[i]? = some P ∧ P.p V v
  | _, _, .nil, i, v, h => by simp at h
  | _, _, .cons a t, 0, v, h => by simp at h; subst h; exact ⟨_, by simp, a⟩
  | _, _, .cons a t, i + 1, v, h => by simp at h; simpa using Fit.getv t i v h
theorem Fit.take {V : LG} : ∀ {Ps : List Sp} {vs : List Value}, Fit V Ps vs → ∀ n, Fit V (Ps.take n) (vs.take n)
  | _, _, .nil, n => by simpa using Fit.nil
  | _, _, .cons a t, 0 => .nil
  | _, _, .cons a t, n + 1 => .cons a (t.take n)
theorem Fit.drop {V : LG} : ∀ {Ps : List Sp} {vs : List Value}, Fit V Ps vs → ∀ n, Fit V (Ps.drop n) (vs.drop n)
  | _, _, .nil, n => by simpa using Fit.nil
  | _, _, .cons a t, 0 => .cons a t
  | _, _, .cons a t, n + 1 => t.drop n

noncomputable def L (Ps : List Sp) : Sp := ⟨fun V v => ∃ a vs n, v = .ref a ∧ V a = some (lobj vs n) ∧ Fit V Ps vs, fun e ⟨a, vs, n, h1, h2, h3⟩ => ⟨a, vs, n, h1, e _ _ h2, h3.mono e⟩⟩
/-- a tuple -/
noncomputable def tobj (vs : List Value) : Obj := { cls := .type "tuple", data := .seq vs.toArray }
theorem pl_tobj (vs : List Value) : Pl (tobj vs) := ⟨(fun _ _ h => by cases h), (fun _ h => by cases h)⟩
noncomputable def Tu (Ps : List Sp) : Sp := ⟨fun V v => ∃ a vs, v = .ref a ∧ V a = some (tobj vs) ∧ Fit V Ps vs, fun e ⟨a, vs, h1, h2, h3⟩ => ⟨a, vs, h1, e _ _ h2, h3.mono e⟩⟩
/-- range(n) -/
noncomputable def robj (n : Int) (t u x : Tok) : Obj := { cls := .type "range", data := .fields #[.int 0 t, .int n u, .int 1 x] }
theorem pl_robj (n : Int) (t u x : Tok) : Pl (robj n t u x) := ⟨(fun _ _ h => by cases h), (fun _ h => by cases h)⟩
noncomputable def Rg (n : Int) : Sp := ⟨fun V v => ∃ a t u x, v = .ref a ∧ V a = some (robj n t u x), fun e ⟨a, t, u, x, h1, h2⟩ => ⟨a, t, u, x, h1, e _ _ h2⟩⟩
noncomputable abbrev LS (xs : List Str) : Sp := L (xs.map S)
noncomputable abbrev LI (xs : List Int) : Sp := L (xs.map I)

/-! ## the judgement -/
section
variable (prog : Program) (w : World) {α β : Type}

noncomputable def EvT (A : Around) (b : Heap) (V : LG) (t : Sem α) (P : LG → α → Prop) : Prop :=
  Sub V b → ∀ (s : Shared) (Q : α → Shared → Prop) (E : Value → Shared → Prop), Ext b s.heap →
    (∀ r h' tk V', Grow V s.heap V' h' → P V' r → Q r { s with heap := h', toks := tk }) → wpAny (model prog w) A t Q E s
noncomputable abbrev Ev (A : Around) (b : Heap) (V : LG) (t : Sem Value) (P : Sp) : Prop := EvT prog w A b V t P.p
end

section
variable {prog : Program} {w : World} {α β : Type} {A : Around} {b : Heap} {V : LG}

theorem EvT.bind {t : Sem α} {f : α → Sem β} {P : LG → α → Prop} {R : LG → β → Prop} (h : EvT prog w A b V t P)
    (h2 : ∀ r b' V', Ext b b' → Le V V' → Sub V' b' → P V' r → EvT prog w A b' V' (f r) R) : EvT prog w A b V (t >>= f) R := by
  intro hs s Q E hx k
  refine wpAny_bind (h hs s _ E hx fun r h' tk V' g p => ?_)
  exact h2 r h' V' (hx.trans g.ext) g.le g.sub p g.sub { s with heap := h', toks := tk } Q E (Ext.refl _) fun r2 h2' tk2 V2 g2 p2 => k r2 h2' tk2 V2 (g.trans g2) p2

theorem EvT.mono {t : Sem α} {P P' : LG → α → Prop} (h : EvT prog w A b V t P) (hp : ∀ V' r, Le V V' → P V' r → P' V' r) : EvT prog w A b V t P' :=
  fun hs s Q E hx k => h hs s Q E hx fun r h' tk V' g p => k r h' tk V' g (hp _ _ g.le p)

/-- a result that comes without a new list: the state grows by heap and tokens alone -/
theorem EvT.of {t : Sem α} {P : LG → α → Prop} (h : ∀ (s : Shared) (Q : α → Shared → Prop) (E : Value → Shared → Prop), Sub V b → Sub V s.heap → Ext b s.heap →
    (∀ r h' tk, Ext s.heap h' → P V r → Q r { s with heap := h', toks := tk }) → wpAny (model prog w) A t Q E s) : EvT prog w A b V t P :=
  fun hs s Q E hx k => h s Q E hs (hs.ext hx) hx fun r h' tk e p => k r h' tk V (.of_ext (hs.ext hx) e) p

theorem EvT.same {t : Sem α} {P : LG → α → Prop} (h : ∀ (s : Shared) (Q : α → Shared → Prop) (E : Value → Shared → Prop), Sub V s.heap → Ext b s.heap →
    (∀ r tk, P V r → Q r { s with toks := tk }) → wpAny (model prog w) A t Q E s) : EvT prog w A b V t P :=
  .of fun s Q E _ hs hx k => h s Q E hs hx fun r tk p => k r s.heap tk (Ext.refl _) p

theorem EvT.pure {r : α} {P : LG → α → Prop} (h : P V r) : EvT prog w A b V (Pure.pure r) P :=
  .same fun _ _ _ _ _ k => wpAny_pure (k _ _ h)
theorem EvT.of_eq {t t' : Sem α} {P : LG → α → Prop} (e : t = t') (h : EvT prog w A b V t' P) : EvT prog w A b V t P := e ▸ h
theorem EvT.standAt {t : Sem α} {pos : Pos} {P : LG → α → Prop} (h : EvT prog w A b V t P) : EvT prog w A b V (PySem.standAt pos >>= fun _ => t) P :=
  fun hs s Q E hx k => wpAny_bind (wpAny_standAt (h hs s Q E hx k))
theorem EvT.holding {t : Sem α} {vs : List Value} {P : LG → α → Prop} (h : EvT prog w A b V t P) : EvT prog w A b V (PySem.holding vs t) P :=
  fun hs s Q E hx k => wpAny_holding (h hs s Q E hx k)
theorem EvT.operate {t : Sem Value} {vs : List Value} {P : LG → Value → Prop} (h : EvT prog w A b V t P) : EvT prog w A b V (PySem.operate vs t) P :=
  fun hs s Q E hx k => wpAny_operate' (h hs s Q E hx k)
theorem EvT.in1 {t : Sem α} {P : LG → α → Prop} (h : EvT prog w A.in1 b V t P) : EvT prog w A b V t P :=
  fun hs s Q E hx k => wpAny_of_in1 (h hs s Q E hx k)
end

/-! ## the world, the frame -/
structure Wd (K : Frag) (h : Heap) : Prop where
  k : K.In h
  lim : h.NoLimit
  bt : ∃ mb, h.Ns builtinsNs mb ∧ ∀ x : Str, x ≠ "__name__" → mb x = bootBuiltins x
theorem Wd.ext {K : Frag} {h h' : Heap} (x : Wd K h) (e : Ext h h') : Wd K h' :=
  ⟨x.k.keeps e, x.lim.keeps e, let ⟨mb, a, b⟩ := x.bt; ⟨mb, a.keeps e, b⟩⟩

structure OkA (d : Nat) (A : Around) : Prop where
  handled : A.handled = none
  depth : A.depth + d ≤ 500
  units : A.units + 100 * d ≤ 5000

noncomputable abbrev Ctx' := Str → Option Sp
noncomputable def upd (Γ : Ctx') (x : Str) (P : Sp) : Ctx' := fun y => if y = x then some P else Γ y

inductive Bound (b : Heap) (env : Env) (y : Str) (v : Value) : Prop
  | loc (m : Str → Option Value) : env.kindOf y = some .local → b.Ns env.locals m → m y = some v → Bound b env y v
  | cel (c : Addr) : env.kindOf y = some .cell ∨ (env.kindOf y = some .free ∧ (y == ("__classdict__" : Str)) = false) → env.cells.lookup y = some c → b.IsCell c (some v) → Bound b env y v
theorem Bound.ext {b b' : Heap} {env : Env} {y : Str} {v : Value} (x : Bound b env y v) (e : Ext b b') : Bound b' env y v := by
  cases x with
  | loc m a h c => exact .loc m a (h.keeps e) c
  | cel c a l h => exact .cel c a l (h.keeps e)

structure EnvOk (K : Frag) (b : Heap) (V : LG) (env : Env) (Γ : Ctx') : Prop where
  wd : Wd K b
  kind : env.scope.kind = .function
  gl : env.globals = mainGlobals
  bu : env.builtins = builtinsNs
  cells : ∀ y, env.kindOf y = some .cell ∨ env.kindOf y = some .free → ∃ c v, env.cells.lookup y = some c ∧ b.IsCell c v
  vars : ∀ y P, Γ y = some P → ∃ v, Bound b env y v ∧ P.p V v
theorem EnvOk.ext {K : Frag} {b b' : Heap} {V V' : LG} {env : Env} {Γ : Ctx'} (x : EnvOk K b V env Γ) (e : Ext b b') (l : Le V V') : EnvOk K b' V' env Γ :=
  ⟨x.wd.ext e, x.kind, x.gl, x.bu, fun y h => let ⟨c, v, a, q⟩ := x.cells y h; ⟨c, v, a, q.keeps e⟩, fun y P h => let ⟨v, a, c⟩ := x.vars y P h; ⟨v, a.ext e, P.mono l c⟩⟩

section
variable {prog : Program} {w : World} {A : Around} {b : Heap} {V : LG} {sc : Scope} {K : Frag} {Γ : Ctx'}

theorem Bound.load {env : Env} {y : Str} {v : Value} {s : Shared} {Q : Value → Shared → Prop} {E : Value → Shared → Prop} (x : Bound s.heap env y v) (hk : env.scope.kind = .function) (h : Q v s) :
    wpAny (model prog w) A (loadName env y) Q E s := by
  cases x with
  | loc m a hn c => exact wpAny_loadName_local hk a hn c h
  | cel c a l hc =>
    rcases a with a | a
    · exact wpAny_loadName_cell hk a l hc h
    · exact wpAny_loadName_free hk a.1 l hc h a.2

/-- an expression's type in a frame -/
noncomputable def Et (prog : Program) (w : World) (K : Frag) (A : Around) (sc : Scope) (Γ : Ctx') (e : Expr) (P : Sp) : Prop :=
  ∀ env b V, env.scope = sc → EnvOk K b V env Γ → Ev prog w A b V (eval e env) P
/-- a test's truth -/
noncomputable def Tt (prog : Program) (w : World) (K : Frag) (A : Around) (sc : Scope) (Γ : Ctx') (e : Expr) (t : Bool) : Prop :=
  ∀ env b V, env.scope = sc → EnvOk K b V env Γ → EvT prog w A b V (isTrue e env (eval e env)) fun _ r => r = t

theorem et_name {x : Str} {pos : Pos} {P : Sp} (h : Γ x = some P) (hd : (x == ("__debug__" : Str)) = false := by decide +kernel) : Et prog w K A sc Γ (.Name x pos) P := by
  intro env b V _ F
  obtain ⟨v, hb, hp⟩ := F.vars x P h
  exact .same fun s Q E _ hx k => wpAny_Name ((hb.ext hx).load F.kind (k v s.toks hp)) hd

theorem et_int {i : Int} {k : Nat} {pos : Pos} : Et prog w K A sc Γ (.Constant (.int i) k pos) (I i) :=
  fun _ b V _ _ => .same fun s Q E _ _ k => wpAny_Constant_int (k _ _ ⟨_, rfl⟩)
theorem et_str {i : Str} {k : Nat} {pos : Pos} : Et prog w K A sc Γ (.Constant (.str i) k pos) (S i) :=
  fun _ b V _ _ => .same fun s Q E _ _ k => wpAny_Constant_str (k _ _ ⟨_, rfl⟩)
theorem et_none {k : Nat} {pos : Pos} : Et prog w K A sc Γ (.Constant .none k pos) N :=
  fun _ b V _ _ => .same fun s Q E _ _ k => wpAny_Constant_none (k _ s.toks rfl)
theorem et_bool {i : Bool} {k : Nat} {pos : Pos} : Et prog w K A sc Γ (.Constant (.bool i) k pos) (B i) :=
  fun _ b V _ _ => .same fun s Q E _ _ k => wpAny_Constant_bool (k _ s.toks rfl)

/-- two operands, then a tree over their values -/
theorem et_binop {l r : Expr} {op : Operator} {pos : Pos} {P1 P2 R : Sp} (h1 : Et prog w K A sc Γ l P1) (h2 : Et prog w K A sc Γ r P2)
    (h : ∀ b V v1 v2, Wd K b → P1.p V v1 → P2.p V v2 → Ev prog w A b V (binaryOp op v1 v2) R) : Et prog w K A sc Γ (.BinOp l op r pos) R := by
  intro env b V hsc F
  refine .of_eq (arm_eval_BinOp ..) ?_
  refine (h1 env b V hsc F).bind fun v1 b1 V1 e1 l1 _ p1 => ?_
  have F1 := F.ext e1 l1
  refine (EvT.holding (h2 env b1 V1 hsc F1)).bind fun v2 b2 V2 e2 l2 _ p2 => ?_
  exact .standAt (.operate (h b2 V2 v1 v2 (F1.wd.ext e2) (P1.mono l2 p1) p2))

theorem et_cmp {l r : Expr} {op : CmpOp} {pos : Pos} {P1 P2 R : Sp} (h1 : Et prog w K A sc Γ l P1) (h2 : Et prog w K A sc Γ r P2)
    (h : ∀ b V v1 v2, Wd K b → P1.p V v1 → P2.p V v2 → Ev prog w A b V (compareOp op v1 v2) R)
    (hm : behindInMarks op r = false := by with_unfolding_all rfl) : Et prog w K A sc Γ (.Compare l [op] [r] pos) R := by
  intro env b V hsc F hs s Q E hx k
  refine wpAny_Compare1 ?_ hm
  refine h1 env b V hsc F hs s _ E hx fun v1 h1' tk1 V1 g1 p1 => ?_
  have F1 := F.ext (hx.trans g1.ext) g1.le
  refine h2 env h1' V1 hsc F1 g1.sub { s with heap := h1', toks := tk1 } _ E (Ext.refl _) fun v2 h2' tk2 V2 g2 p2 => ?_
  exact h h2' V2 v1 v2 (F1.wd.ext g2.ext) (P1.mono g2.le p1) p2 g2.sub { s with heap := h2', toks := tk2 } Q E (Ext.refl _) fun r h' tk V' g p => k r h' tk V' (g1.trans (g2.trans g)) p

theorem tt_cmp {l r : Expr} {op : CmpOp} {pos : Pos} {P1 P2 : Sp} {t : Bool} (h1 : Et prog w K A sc Γ l P1) (h2 : Et prog w K A sc Γ r P2)
    (h : ∀ b V v1 v2, Wd K b → P1.p V v1 → P2.p V v2 → Ev prog w A b V (compareOp op v1 v2) (B t))
    (hm : behindInMarks op r = false := by with_unfolding_all rfl) : Tt prog w K A sc Γ (.Compare l [op] [r] pos) t := by
  intro env b V hsc F hs s Q E hx k
  refine wpAny_isTrue_Compare1 ?_ hm
  refine h1 env b V hsc F hs s _ E hx fun v1 h1' tk1 V1 g1 p1 => ?_
  have F1 := F.ext (hx.trans g1.ext) g1.le
  refine h2 env h1' V1 hsc F1 g1.sub { s with heap := h1', toks := tk1 } _ E (Ext.refl _) fun v2 h2' tk2 V2 g2 p2 => ?_
  refine h h2' V2 v1 v2 (F1.wd.ext g2.ext) (P1.mono g2.le p1) p2 g2.sub { s with heap := h2', toks := tk2 } _ E (Ext.refl _) fun r h' tk V' g p => ?_
  have p' : r = .bool t := p
  subst p'
  exact wpAny_truthy_bool (k t h' tk V' (g1.trans (g2.trans g)) rfl)

/-! ### int arithmetic -/
theorem ev_add_int {i j : Int} {V : LG} {b : Heap} {v1 v2 : Value} (h1 : (I i).p V v1) (h2 : (I j).p V v2) : Ev prog w A b V (binaryOp .Add v1 v2) (I (i + j)) := by
  obtain ⟨t, rfl⟩ := h1; obtain ⟨u, rfl⟩ := h2
  exact .same fun s Q E _ _ k => wpAny_add_int (k _ _ ⟨_, rfl⟩)
theorem et_add_int {l r : Expr} {pos : Pos} {i j : Int} (h1 : Et prog w K A sc Γ l (I i)) (h2 : Et prog w K A sc Γ r (I j)) : Et prog w K A sc Γ (.BinOp l .Add r pos) (I (i + j)) :=
  et_binop h1 h2 fun _ _ _ _ _ p1 p2 => ev_add_int p1 p2
end
end Mine
end
section
open PySem PySem.W PyProof.Rows
set_option Elab.async false
set_option linter.all false
namespace Mine
section
variable {prog : Program} {w : World} {A : Around} {b : Heap} {V : LG} {sc : Scope} {K : Frag} {Γ : Ctx'} {l r e : Expr} {pos : Pos}

/-! ### ints -/
theorem et_sub_int {i j : Int} (h1 : Et prog w K A sc Γ l (I i)) (h2 : Et prog w K A sc Γ r (I j)) : Et prog w K A sc Γ (.BinOp l .Sub r pos) (I (i - j)) :=
  et_binop h1 h2 fun _ _ _ _ _ ⟨_, e1⟩ ⟨_, e2⟩ => by subst e1 e2; exact .same fun s Q E _ _ k => PyProof.Rows.sub_int (k _ _ ⟨_, rfl⟩)
theorem et_mul_int {i j : Int} (h1 : Et prog w K A sc Γ l (I i)) (h2 : Et prog w K A sc Γ r (I j)) (hm : IntMulOk i j) : Et prog w K A sc Γ (.BinOp l .Mult r pos) (I (i * j)) :=
  et_binop h1 h2 fun _ _ _ _ _ ⟨_, e1⟩ ⟨_, e2⟩ => by subst e1 e2; exact .same fun s Q E _ _ k => PyProof.Rows.mul_int (k _ _ ⟨_, rfl⟩) hm
theorem et_mod_int {i j : Int} (h1 : Et prog w K A sc Γ l (I i)) (h2 : Et prog w K A sc Γ r (I j)) (hj : j ≠ 0) : Et prog w K A sc Γ (.BinOp l .Mod r pos) (I (i.fmod j)) :=
  et_binop h1 h2 fun _ _ _ _ _ ⟨_, e1⟩ ⟨_, e2⟩ => by subst e1 e2; exact .same fun s Q E _ _ k => PyProof.Rows.mod_int hj (k _ _ ⟨_, rfl⟩)
theorem et_fdiv_int {i j : Int} (h1 : Et prog w K A sc Γ l (I i)) (h2 : Et prog w K A sc Γ r (I j)) (hj : j ≠ 0) (hpy : Builtin.divisionGoesByPylong i j = false) : Et prog w K A sc Γ (.BinOp l .FloorDiv r pos) (I (i.fdiv j)) :=
  et_binop h1 h2 fun _ _ _ _ _ ⟨_, e1⟩ ⟨_, e2⟩ => by subst e1 e2; exact .same fun s Q E _ _ k => PyProof.Rows.floordiv_int hj (k _ _ ⟨_, rfl⟩) (.inl hpy)
theorem et_pow_int {i j : Int} (h1 : Et prog w K A sc Γ l (I i)) (h2 : Et prog w K A sc Γ r (I j)) (hn : 0 ≤ j) (hn2 : j ≤ 1000000) (ha : i.natAbs < 2 ^ 64)
    (hsz : (Builtin.Int.intBits i : Int) * j ≤ 2 ^ 27) : Et prog w K A sc Γ (.BinOp l .Pow r pos) (I (i ^ j.toNat)) :=
  et_binop h1 h2 fun _ _ _ _ _ ⟨_, e1⟩ ⟨_, e2⟩ => by subst e1 e2; exact .same fun s Q E _ _ k => PyProof.Rows.pow_int hn hsz (k _ _ ⟨_, rfl⟩)

/-- unary minus -/
theorem et_neg {i : Int} (h : Et prog w K A sc Γ e (I i)) : Et prog w K A sc Γ (.UnaryOp .USub e pos) (I (-i)) := by
  intro env b V hsc F
  refine .of_eq (arm_eval_UnaryOp ..) ?_
  refine (h env b V hsc F).bind fun v b1 V1 e1 l1 _ p1 => ?_
  obtain ⟨t, rfl⟩ := p1
  exact .standAt (.holding (.same fun s Q E _ _ k => PyProof.Rows.neg_int (k _ _ ⟨_, rfl⟩)))

noncomputable def cmpI : CmpOp → Int → Int → Bool
  | .Eq, i, j => i == j
  | .NotEq, i, j => i != j
  | .Lt, i, j => decide (i < j)
  | .LtE, i, j => decide (i ≤ j)
  | .Gt, i, j => decide (j < i)
  | .GtE, i, j => decide (j ≤ i)
  | _, _, _ => false
theorem ev_cmp_int {op : CmpOp} {i j : Int} {v1 v2 : Value} (hop : op = .Eq ∨ op = .NotEq ∨ op = .Lt ∨ op = .LtE ∨ op = .Gt ∨ op = .GtE) (h1 : (I i).p V v1) (h2 : (I j).p V v2) :
    Ev prog w A b V (compareOp op v1 v2) (B (cmpI op i j)) := by
  obtain ⟨t, rfl⟩ := h1; obtain ⟨u, rfl⟩ := h2
  refine .same fun s Q E _ _ k => ?_
  rcases hop with rfl | rfl | rfl | rfl | rfl | rfl
  · exact PyProof.Rows.eq_int (k _ s.toks rfl)
  · exact PyProof.Rows.ne_int (k _ s.toks rfl)
  · exact PyProof.Rows.lt_int (k _ s.toks rfl)
  · exact PyProof.Rows.le_int (k _ s.toks rfl)
  · exact PyProof.Rows.gt_int (k _ s.toks rfl)
  · exact PyProof.Rows.ge_int (k _ s.toks rfl)
theorem tt_cmp_int {op : CmpOp} {i j : Int} (h1 : Et prog w K A sc Γ l (I i)) (h2 : Et prog w K A sc Γ r (I j)) (hop : op = .Eq ∨ op = .NotEq ∨ op = .Lt ∨ op = .LtE ∨ op = .Gt ∨ op = .GtE := by simp)
    (hm : behindInMarks op r = false := by with_unfolding_all rfl) : Tt prog w K A sc Γ (.Compare l [op] [r] pos) (cmpI op i j) :=
  tt_cmp h1 h2 (fun _ _ _ _ _ p1 p2 => ev_cmp_int hop p1 p2) hm
theorem et_cmp_int {op : CmpOp} {i j : Int} (h1 : Et prog w K A sc Γ l (I i)) (h2 : Et prog w K A sc Γ r (I j)) (hop : op = .Eq ∨ op = .NotEq ∨ op = .Lt ∨ op = .LtE ∨ op = .Gt ∨ op = .GtE := by simp)
    (hm : behindInMarks op r = false := by with_unfolding_all rfl) : Et prog w K A sc Γ (.Compare l [op] [r] pos) (B (cmpI op i j)) :=
  et_cmp h1 h2 (fun _ _ _ _ _ p1 p2 => ev_cmp_int hop p1 p2) hm

/-! ### strs -/
theorem ev_add_str {x y : Str} {v1 v2 : Value} (h1 : (S x).p V v1) (h2 : (S y).p V v2) (hz : x.length + y.length ≤ sizeLine) : Ev prog w A b V (binaryOp .Add v1 v2) (S (x ++ y)) := by
  obtain ⟨t, rfl⟩ := h1; obtain ⟨u, rfl⟩ := h2
  exact .same fun s Q E _ _ k => PyProof.Rows.add_str (fun t' tk => k _ tk ⟨_, rfl⟩) hz
theorem et_add_str {x y : Str} (h1 : Et prog w K A sc Γ l (S x)) (h2 : Et prog w K A sc Γ r (S y)) (hz : x.length + y.length ≤ sizeLine) : Et prog w K A sc Γ (.BinOp l .Add r pos) (S (x ++ y)) :=
  et_binop h1 h2 fun _ _ _ _ _ p1 p2 => ev_add_str p1 p2 hz

noncomputable def cmpS : CmpOp → Str → Str → Bool
  | .Eq, x, y => x == y
  | .NotEq, x, y => x != y
  | .In, x, y => Txt.contains y x
  | .NotIn, x, y => !Txt.contains y x
  | _, _, _ => false
theorem ev_cmp_str {op : CmpOp} {x y : Str} {v1 v2 : Value} (hop : op = .Eq ∨ op = .NotEq ∨ op = .In ∨ op = .NotIn) (h1 : (S x).p V v1) (h2 : (S y).p V v2) :
    Ev prog w A b V (compareOp op v1 v2) (B (cmpS op x y)) := by
  obtain ⟨t, rfl⟩ := h1; obtain ⟨u, rfl⟩ := h2
  refine .same fun s Q E _ _ k => ?_
  rcases hop with rfl | rfl | rfl | rfl
  · exact PyProof.Rows.eq_str (k _ s.toks rfl)
  · exact PyProof.Rows.ne_str (k _ s.toks rfl)
  · exact SB.contains (k _ s.toks rfl)
  · exact SB.notContains (k _ s.toks rfl)
theorem tt_cmp_str {op : CmpOp} {x y : Str} (h1 : Et prog w K A sc Γ l (S x)) (h2 : Et prog w K A sc Γ r (S y)) (hop : op = .Eq ∨ op = .NotEq ∨ op = .In ∨ op = .NotIn := by simp)
    (hm : behindInMarks op r = false := by with_unfolding_all rfl) : Tt prog w K A sc Γ (.Compare l [op] [r] pos) (cmpS op x y) :=
  tt_cmp h1 h2 (fun _ _ _ _ _ p1 p2 => ev_cmp_str hop p1 p2) hm
theorem et_cmp_str {op : CmpOp} {x y : Str} (h1 : Et prog w K A sc Γ l (S x)) (h2 : Et prog w K A sc Γ r (S y)) (hop : op = .Eq ∨ op = .NotEq ∨ op = .In ∨ op = .NotIn := by simp)
    (hm : behindInMarks op r = false := by with_unfolding_all rfl) : Et prog w K A sc Γ (.Compare l [op] [r] pos) (B (cmpS op x y)) :=
  et_cmp h1 h2 (fun _ _ _ _ _ p1 p2 => ev_cmp_str hop p1 p2) hm

/-! ### subscripts -/
/-- the tail of a subscript: the base is a name, or nothing but plain values is handed out, or what is let go is nothing -/
theorem ev_letgo {value : Expr} {o r : Value} : EvT prog w A b V (letTemporaryGo value o r) fun _ _ => True := by
  have one : EvT prog w A b V (do let _ ← holding [r] (runValue (.builtin "proto.let_go" {})) : Sem Unit) fun _ _ => True := by
    refine .same fun s Q E _ _ k => wpAny_bind (wpAny_holding (wpAny_runValue (codeAny_builtin entry_let_go ?_)))
    exact wpAny_pure (wpAny_pure (k () s.toks trivial))
  unfold letTemporaryGo
  split
  · exact .pure trivial
  · exact one
  · exact .pure trivial

theorem et_subscript {value slice : Expr} {P1 P2 R : Sp} {T : String} {id : String} (h1 : Et prog w K A sc Γ value P1) (h2 : Et prog w K A sc Γ slice P2)
    (hT : ∀ (s : Shared) V v, Sub V s.heap → P1.p V v → s.TypeIs v T) (hl : typeLookup (.type T) "__getitem__" = pure (some (.builtin id)))
    (h : ∀ b V v1 v2, Wd K b → P1.p V v1 → P2.p V v2 → Ev prog w A b V (getItem v1 v2) R) 
    (hsub : ∀ o i, subscripted slice false o i = operate [o, i] (getItem o i) ∨ subscripted slice false o i = operate [i, o] (getItem o i)) :
    Et prog w K A sc Γ (.Subscript value slice pos) R := by
  intro env b V hsc F
  refine .of_eq (arm_eval_Subscript ..) ?_
  refine (h1 env b V hsc F).bind fun v1 b1 V1 e1 l1 _ p1 => ?_
  have F1 := F.ext e1 l1
  refine (EvT.holding (h2 env b1 V1 hsc F1)).bind fun v2 b2 V2 e2 l2 _ p2 => ?_
  refine .standAt ?_
  intro hs s Q E hx k
  have hT' := hT s V2 v1 (hs.ext hx) (P1.mono l2 p1)
  refine wpAny_bind ?_
  rw [getitemInPython_of_ne hT'.not_modules]
  refine wpAny_bind (wpAny_specialOf hT' hl ?_)
  have hg : Ev prog w A b2 V2 (subscripted slice false v1 v2) R := by
    rcases hsub v1 v2 with q | q <;> rw [q] <;> exact .operate (h b2 V2 v1 v2 (F1.wd.ext e2) (P1.mono l2 p1) p2)
  have fin := (hg.bind (f := fun r => letTemporaryGo value v1 r >>= fun _ => pure r) (R := R.p) fun r b3 V3 _ _ _ p3 => ev_letgo.bind fun _ b4 V4 _ l4 _ _ => .pure (R.mono l4 p3)) hs s Q E hx k
  first
    | exact wpAny_pure fin
    | exact wpAny_bind (wpAny_pure fin)
    | exact fin

theorem typeIs_L {Ps : List Sp} (s : Shared) (V : LG) (v : Value) (hs : Sub V s.heap) (h : (L Ps).p V v) : s.TypeIs v "list" := by
  obtain ⟨a, vs, n, rfl, h2, _⟩ := h
  exact (hs.pl h2).isList.typeIs
theorem typeIs_S {x : Str} (s : Shared) (V : LG) (v : Value) (_ : Sub V s.heap) (h : (S x).p V v) : s.TypeIs v "str" := by
  obtain ⟨t, rfl⟩ := h
  exact typeIs_str s x t

/-- a list's item -/
theorem ev_item {Ps : List Sp} {i : Int} {P : Sp} {v1 v2 : Value} (h1 : (L Ps).p V v1) (h2 : (I i).p V v2) (h0 : 0 ≤ i) (hi : Ps[i.toNat]? = some P) (hz : i < 2 ^ 63) :
    Ev prog w A b V (getItem v1 v2) P := by
  obtain ⟨a, vs, n, rfl, q2, q3⟩ := h1; obtain ⟨t, rfl⟩ := h2
  obtain ⟨v, hv, hp⟩ := q3.get _ _ hi
  exact .same fun s Q E hs _ k => wpAny_getItem_list (hs.pl q2).isList h0 hz (by simpa using hv) (k v s.toks hp)
end
end Mine
end
section
open PySem PySem.W PyProof.Rows
set_option Elab.async false
set_option linter.all false
namespace Mine
section
variable {prog : Program} {w : World} {A : Around} {b : Heap} {V : LG} {sc : Scope} {K : Frag} {Γ : Ctx'} {l r e : Expr} {pos : Pos}

theorem sub_any (slice : Expr) : ∀ o i, subscripted slice false o i = operate [o, i] (getItem o i) ∨ subscripted slice false o i = operate [i, o] (getItem o i) := by
  intro o i
  unfold subscripted
  split
  · exact .inr rfl
  · rename_i q; cases q
  · exact .inl rfl

theorem et_item {Ps : List Sp} {i : Int} {P : Sp} {value slice : Expr} (h1 : Et prog w K A sc Γ value (L Ps)) (h2 : Et prog w K A sc Γ slice (I i)) (h0 : 0 ≤ i) (hi : Ps[i.toNat]? = some P) (hz : i < 2 ^ 63) :
    Et prog w K A sc Γ (.Subscript value slice pos) P :=
  et_subscript h1 h2 typeIs_L slot_list_getitem.lookup (fun _ _ _ _ _ p1 p2 => ev_item p1 p2 h0 hi hz) (sub_any slice)

theorem et_item_str {x : Str} {i : Int} {c : Nat} {value slice : Expr} (h1 : Et prog w K A sc Γ value (S x)) (h2 : Et prog w K A sc Γ slice (I i)) (hr : fitsSsize i = true)
    (hc : Txt.charAt x i = some c) : Et prog w K A sc Γ (.Subscript value slice pos) (S ⟨#[c]⟩) := by
  refine et_subscript h1 h2 typeIs_S PySem.F.slot_str_getitem.lookup (fun _ _ _ _ _ p1 p2 => ?_) (sub_any slice)
  obtain ⟨t, rfl⟩ := p1; obtain ⟨u, rfl⟩ := p2
  have e : Txt.item x i = ⟨#[c]⟩ := by unfold Txt.item; rw [hc]; rfl
  exact .same fun s Q E hs _ k => SB.getItem hr (by rw [hc]; rfl) (by rw [e]; exact k _ _ ⟨_, rfl⟩)

/-! ### slices -/
noncomputable def PartT (prog : Program) (w : World) (K : Frag) (A : Around) (sc : Scope) (Γ : Ctx') (o : Option Expr) (lo : Option Int) : Prop :=
  ∀ env b V, env.scope = sc → EnvOk K b V env Γ → EvT prog w A b V (evalPart o env) fun _ v => IsPart v lo
theorem part_none : PartT prog w K A sc Γ none none := fun env b V _ _ => .of_eq (evalPart_none env) (.pure .none)
theorem part_some {i : Int} (h : Et prog w K A sc Γ e (I i)) : PartT prog w K A sc Γ (some e) (some i) := fun env b V hsc F =>
  .of_eq (evalPart_some e env) ((h env b V hsc F).mono fun _ r _ p => by obtain ⟨t, rfl⟩ := p; exact .int i t)

theorem et_slice_gen {P1 R : Sp} {T id : String} {lower upper : Option Expr} {lo hi : Option Int} {value : Expr} {p : Pos} (h1 : Et prog w K A sc Γ value P1)
    (hlo : PartT prog w K A sc Γ lower lo) (hhi : PartT prog w K A sc Γ upper hi)
    (hT : ∀ (s : Shared) V v, Sub V s.heap → P1.p V v → s.TypeIs v T) (hl : typeLookup (.type T) "__getitem__" = pure (some (.builtin id)))
    (h : ∀ (s : Shared) (V : LG) v1 sl vl vu (Q : Value → Shared → Prop) E, Wd K s.heap → Sub V s.heap → P1.p V v1 → s.heap.IsSliceOf sl vl vu .none → IsPart vl lo → IsPart vu hi →
      (∀ r h' tk V', Grow V s.heap V' h' → R.p V' r → Q r { s with heap := h', toks := tk }) → wpAny (model prog w) A (getItem v1 (.ref sl)) Q E s) :
    Et prog w K A sc Γ (.Subscript value (.Slice lower upper none p) pos) R := by
  intro env b V hsc F
  refine .of_eq (arm_eval_Subscript ..) ?_
  refine (h1 env b V hsc F).bind fun v1 b1 V1 e1 l1 _ p1 => ?_
  have F1 := F.ext e1 l1
  intro hs s Q E hx k
  refine wpAny_bind (wpAny_holding (wpAny_Slice ?_))
  refine hlo env b1 V1 hsc F1 hs s _ E hx fun vl h2 tk2 V2 g2 p2 => ?_
  have F2 := F1.ext (hx.trans g2.ext) g2.le
  refine hhi env h2 V2 hsc F2 g2.sub _ _ E (Ext.refl _) fun vu h3 tk3 V3 g3 p3 => ?_
  rw [evalPart_none]
  refine wpAny_pure (wpAny_bind (wpAny_standAt ?_))
  have g4 : Grow V3 h3 V3 (h3.push { cls := .type "slice", data := .fields #[vl, vu, .none] }) := .of_ext g3.sub (Ext.push _ _)
  have p1' := P1.mono (g2.le.trans g3.le) p1
  generalize hs4 : ({ heap := h3.push { cls := .type "slice", data := .fields #[vl, vu, .none] }, gens := s.gens, drawn := s.drawn, toks := tk3, os := s.os } : Shared) = s4
  have hh4 : s4.heap = h3.push { cls := .type "slice", data := .fields #[vl, vu, .none] } := by subst hs4; rfl
  have hsl : s4.heap.IsSliceOf h3.objs.size vl vu .none := by rw [hh4]; exact Heap.IsSliceOf.new ..
  have hsub4 : Sub V3 s4.heap := by rw [hh4]; exact g4.sub
  have hT' := hT s4 V3 v1 hsub4 p1'
  refine wpAny_bind ?_
  rw [getitemInPython_of_ne hT'.not_modules]
  refine wpAny_bind (wpAny_specialOf hT' hl ?_)
  have F3 : Wd K s4.heap := by rw [hh4]; exact (F2.wd.ext g3.ext).ext g4.ext
  have fin : wpAny (model prog w) A (subscripted (.Slice lower upper none p) false v1 (.ref h3.objs.size)) (fun r s' => wpAny (model prog w) A (letTemporaryGo value v1 r >>= fun _ => pure r) Q E s') E s4 := by
    show wpAny (model prog w) A (operate [.ref h3.objs.size, v1] (getItem v1 (.ref h3.objs.size))) _ E s4
    refine wpAny_operate' (h s4 V3 v1 _ vl vu _ E F3 hsub4 p1' hsl p2 p3 fun r h5 tk5 V5 g5 p5 => ?_)
    refine wpAny_bind ((ev_letgo (prog := prog) (w := w) (A := A) (b := h5) (V := V5) (value := value) (o := v1) (r := r)) g5.sub _ _ E (Ext.refl _) fun _ h6 tk6 V6 g6 _ => wpAny_pure ?_)
    have gg := (g2.trans g3).trans ((hh4 ▸ g4).trans (g5.trans g6))
    subst hs4
    exact k r h6 tk6 V6 gg (R.mono g6.le p5)
  first
    | exact wpAny_pure (wpAny_bind fin)
    | exact wpAny_bind (wpAny_pure (wpAny_bind fin))
    | exact wpAny_bind fin

noncomputable def pickL {α : Type} (xs : List α) (lo hi : Option Int) : List α :=
  (sliceRange (sliceBounds lo hi none xs.length).1 (sliceBounds lo hi none xs.length).2.1 (sliceBounds lo hi none xs.length).2.2).filterMap (xs[·]?)
theorem Fit.pick {V : LG} {Ps : List Sp} {vs : List Value} (h : Fit V Ps vs) : ∀ is : List Nat, Fit V (is.filterMap (Ps[·]?)) (is.filterMap (vs[·]?))
  | [] => .nil
  | i :: is => by
    have hl := h.length
    rw [List.filterMap_cons, List.filterMap_cons]
    cases hp : Ps[i]? with
    | none =>
      have : vs[i]? = none := by rw [List.getElem?_eq_none_iff] at hp ⊢; omega
      rw [this]; exact h.pick is
    | some P =>
      obtain ⟨v, hv, p⟩ := h.get i P hp
      rw [hv]; exact .cons p (h.pick is)

theorem et_slice_list {Ps : List Sp} {lower upper : Option Expr} {lo hi : Option Int} {value : Expr} {p : Pos} (h1 : Et prog w K A sc Γ value (L Ps))
    (hlo : PartT prog w K A sc Γ lower lo) (hhi : PartT prog w K A sc Γ upper hi) (hz : Ps.length ≤ sizeLine) :
    Et prog w K A sc Γ (.Subscript value (.Slice lower upper none p) pos) (L (pickL Ps lo hi)) := by
  refine et_slice_gen h1 hlo hhi typeIs_L slot_list_getitem.lookup ?_
  rintro s V v1 sl vl vu Q E _ hs ⟨a, vs, n, rfl, q2, q3⟩ hsl pl pu k
  have hlen := q3.length
  refine wpAny_getItem_list_slice (hs.pl q2).isList hsl pl pu .none (by simp) ?_ (by rw [List.size_toArray]; omega)
  have hpick : slicePick vs.toArray lo hi none = (pickL vs lo hi).toArray := by
    unfold slicePick pickL; simp
  rw [hpick]
  refine k _ _ s.toks (put V s.heap.objs.size (lobj (pickL vs lo hi) 0)) (.push_obj hs (pl_lobj _ _)) ⟨_, _, _, rfl, put_self .., ?_⟩
  have := q3.pick (sliceRange (sliceBounds lo hi none Ps.length).1 (sliceBounds lo hi none Ps.length).2.1 (sliceBounds lo hi none Ps.length).2.2)
  unfold pickL
  rw [← hlen]
  exact this.mono (.put (hs.fresh (fresh_size _)))

theorem et_slice_str {x : Str} {lower upper : Option Expr} {lo hi : Option Int} {value : Expr} {p : Pos} (h1 : Et prog w K A sc Γ value (S x))
    (hlo : PartT prog w K A sc Γ lower lo) (hhi : PartT prog w K A sc Γ upper hi) (hz : x.length ≤ sizeLine) :
    Et prog w K A sc Γ (.Subscript value (.Slice lower upper none p) pos) (S (Txt.slice x lo hi)) := by
  refine et_slice_gen h1 hlo hhi typeIs_S PySem.F.slot_str_getitem.lookup ?_
  rintro s V v1 sl vl vu Q E _ hs ⟨t, rfl⟩ ⟨o, ho, hc, hd⟩ pl pu k
  have kk : ∀ t' tk, Q (.str (Txt.slice x lo hi) t') { s with toks := tk } := fun t' tk => k _ s.heap tk V (.refl hs) ⟨_, rfl⟩
  cases pl with
  | none => cases pu with
    | none => exact wpAny_getItem_str_slice (l := none) (u := none) (st := none) ⟨_, ho, hc, hd⟩ rfl (post_val_or_str ⟨Nat.le_trans (Txt.slice_le x _ _) hz, kk⟩)
    | int j u => exact wpAny_getItem_str_slice (l := none) (u := some (j, u)) (st := none) ⟨_, ho, hc, hd⟩ rfl (post_val_or_str ⟨Nat.le_trans (Txt.slice_le x _ _) hz, kk⟩)
  | int i t => cases pu with
    | none => exact wpAny_getItem_str_slice (l := some (i, t)) (u := none) (st := none) ⟨_, ho, hc, hd⟩ rfl (post_val_or_str ⟨Nat.le_trans (Txt.slice_le x _ _) hz, kk⟩)
    | int j u => exact wpAny_getItem_str_slice (l := some (i, t)) (u := some (j, u)) (st := none) ⟨_, ho, hc, hd⟩ rfl (post_val_or_str ⟨Nat.le_trans (Txt.slice_le x _ _) hz, kk⟩)

/-! ### list displays, sums of lists -/
inductive Ets (prog : Program) (w : World) (K : Frag) (A : Around) (sc : Scope) (Γ : Ctx') : List Expr → List Sp → Prop
  | nil : Ets prog w K A sc Γ [] []
  | cons {e es P Ps} : Et prog w K A sc Γ e P → (∀ env, starEach (e :: es) env = (false, eval e env) :: starEach es env) → Ets prog w K A sc Γ es Ps → Ets prog w K A sc Γ (e :: es) (P :: Ps)

theorem ev_spliced {pos : Pos} : ∀ {es : List Expr} {Ps : List Sp}, Ets prog w K A sc Γ es Ps → ∀ env b V, env.scope = sc → EnvOk K b V env Γ → EvT prog w A b V (spliced (backTo pos (starEach es env))) fun V' vs => Fit V' Ps vs
  | _, _, .nil, env, b, V, _, F => .pure .nil
  | _, _, .cons (e := e) (es := es) (P := P) h hst hr, env, b, V, hsc, F => by
    rw [hst]
    show EvT prog w A b V (spliced ((false, eval e env) :: backTo pos (starEach es env))) _
    rw [spliced]
    refine (h env b V hsc F).bind fun v b1 V1 e1 l1 _ p1 => ?_
    simp only [Bool.false_eq_true, if_false]
    refine (EvT.pure (P := fun _ r => r = [v]) rfl).bind fun r b2 V2 e2 l2 s2 q => ?_
    subst q
    refine (EvT.holding (ev_spliced hr env b2 V2 hsc (F.ext (e1.trans e2) (l1.trans l2)))).bind fun vs b3 V3 _ l3 _ p3 => ?_
    exact .pure (.cons (P.mono (l2.trans l3) p1) p3)

theorem ev_newList {Ps : List Sp} {vs : List Value} (h : Fit V Ps vs) (hz : Ps.length ≤ sizeLine) : Ev prog w A b V (newList vs) (L Ps) := by
  intro hs s Q E hx k
  have hs' := hs.ext hx
  refine wpAny_newObj_type (k _ _ s.toks (put V s.heap.objs.size (lobj vs 0)) (.push_obj hs' (pl_lobj _ _)) ⟨_, _, _, rfl, put_self .., h.mono (.put (hs'.fresh (fresh_size _)))⟩) ?_
  show vs.toArray.size ≤ sizeLine
  rw [List.size_toArray, ← h.length]; exact hz

theorem et_list {es : List Expr} {Ps : List Sp} (h : Ets prog w K A sc Γ es Ps) (hz : Ps.length ≤ sizeLine) : Et prog w K A sc Γ (.List es pos) (L Ps) := by
  intro env b V hsc F
  refine .of_eq (arm_eval_List ..) (.standAt ?_)
  exact (ev_spliced h env b V hsc F).bind fun vs b1 V1 _ _ _ p => ev_newList p hz

theorem ev_add_list {Ps Qs : List Sp} {v1 v2 : Value} (h1 : (L Ps).p V v1) (h2 : (L Qs).p V v2) (hz : Ps.length + Qs.length ≤ sizeLine) : Ev prog w A b V (binaryOp .Add v1 v2) (L (Ps ++ Qs)) := by
  obtain ⟨a, vs, nn, rfl, q2, q3⟩ := h1; obtain ⟨c, us, nn2, rfl, r2, r3⟩ := h2
  intro hs s Q E hx k
  have hs' := hs.ext hx
  obtain ⟨⟨cls, dd, data, sl⟩, ho, hc, n, hd⟩ := (hs'.pl q2).isList
  obtain ⟨⟨cls2, dd2, data2, sl2⟩, ho2, hc2, n2, hd2⟩ := (hs'.pl r2).isList
  simp only at hc hd hc2 hd2
  subst hc hd hc2 hd2
  have e : vs.toArray ++ us.toArray = (vs ++ us).toArray := by simp
  have l1 := q3.length
  have l2 := r3.length
  refine concat_meets ⟨_, ho, rfl⟩ ⟨_, ho2, rfl⟩ noFill_list_add seq_list_add PySem.F.slot_list_add PySem.F.entry_list_add (PySem.F.args_list_add_2 _ _)
    (list_addW a c vs.toArray us.toArray n n2 dd dd2 sl sl2 (by simp only [List.size_toArray]; omega)) ⟨ho, ho2, ?_⟩
  rw [e]
  exact k _ _ s.toks (put V s.heap.objs.size (lobj (vs ++ us) 0)) (.push_obj hs' (pl_lobj _ _))
    ⟨_, _, _, rfl, put_self .., (q3.append r3).mono (.put (hs'.fresh (fresh_size _)))⟩
theorem et_add_list {Ps Qs : List Sp} (h1 : Et prog w K A sc Γ l (L Ps)) (h2 : Et prog w K A sc Γ r (L Qs)) (hz : Ps.length + Qs.length ≤ sizeLine) : Et prog w K A sc Γ (.BinOp l .Add r pos) (L (Ps ++ Qs)) :=
  et_binop h1 h2 fun _ _ _ _ _ p1 p2 => ev_add_list p1 p2 hz
end
end Mine
end
section
open PySem PySem.W PyProof.Rows
set_option Elab.async false
set_option linter.all false
namespace Mine
section
variable {prog : Program} {w : World} {A : Around} {b : Heap} {V : LG} {sc : Scope} {K : Frag} {Γ : Ctx'} {l r e : Expr} {pos : Pos}

/-! ### global names -/
theorem et_glob {x : Str} {v : Value} (hk : sc.names.lookup x = some .globalImplicit) (hg : nsIn K mainGlobals x = some (some v)) (hd : (x == ("__debug__" : Str)) = false := by decide +kernel) :
    Et prog w K A sc Γ (.Name x pos) (Vl v) := by
  intro env b V hsc F
  refine .same fun s Q E _ hx k => Calls.Name_function_global F.kind (by rw [Env.kindOf, hsc]; exact hk) ?_ hd
  unfold loadGlobal
  rw [F.gl]
  refine wpAny_bind ((looks_nsIn (F.wd.ext hx).k hg).here ?_)
  exact wpAny_pure (k v s.toks rfl)
theorem et_globb {x : Str} {v : Value} (hk : sc.names.lookup x = some .globalImplicit) (hg : nsIn K mainGlobals x = some none) (hb : bootBuiltins x = some v) (hn : x ≠ "__name__" := by decide +kernel)
    (hd : (x == ("__debug__" : Str)) = false := by decide +kernel) : Et prog w K A sc Γ (.Name x pos) (Vl v) := by
  intro env b V hsc F
  refine .same fun s Q E _ hx k => Calls.Name_function_global F.kind (by rw [Env.kindOf, hsc]; exact hk) ?_ hd
  unfold loadGlobal
  rw [F.gl]
  refine wpAny_bind ((looks_nsIn (F.wd.ext hx).k hg).here ?_)
  obtain ⟨mb, hmb, hmx⟩ := (F.wd.ext hx).bt
  rw [F.bu]
  refine wpAny_bind (wpAny_nsGet hmb ?_)
  rw [hmx x hn, hb]
  exact wpAny_pure (k v s.toks rfl)

/-! ### calls -/
noncomputable def KeepOk (K : Frag) (f : Value) : Prop := keepIn K f = true ∨ (∃ id, f = .builtin id) ∨ ∃ T, f = .type T
theorem keeps_ok {M : Model} {f : Value} (h : KeepOk K f) (hp : Heap) (x : Wd K hp) : ∃ k, (k = Keeper.frame ∨ k = Keeper.machine ∨ k = Keeper.boundFrame) ∧ Looks M hp (keeperOf f) k := by
  rcases h with h | ⟨id, rfl⟩ | ⟨T, rfl⟩
  · exact keeps_K h hp x.k
  · exact ⟨.machine, .inr (.inl rfl), Looks.of_pure rfl⟩
  · exact ⟨.machine, .inr (.inl rfl), Looks.of_pure rfl⟩

theorem ets_plain {env : Env} : ∀ {es : List Expr} {Ps : List Sp}, Ets prog w K A sc Γ es Ps → (backTo pos (starEach es env)).any (·.1) = false
  | _, _, .nil => rfl
  | _, _, .cons h hst hr => by rw [hst]; show (false || (backTo pos (starEach _ env)).any (·.1)) = false; rw [ets_plain hr]; rfl
theorem ets_all {env : Env} : ∀ {es : List Expr} {Ps : List Sp}, Ets prog w K A sc Γ es Ps → (backTo pos (starEach es env)).all (fun x => !x.1) = true
  | _, _, .nil => rfl
  | _, _, .cons h hst hr => by rw [hst]; show (true && (backTo pos (starEach _ env)).all (fun x => !x.1)) = true; rw [ets_all hr]; rfl

theorem ev_evalArgs {f : Value} {es : List Expr} {Ps : List Sp} (h : Ets prog w K A sc Γ es Ps) (env : Env) (b : Heap) (V : LG) (hsc : env.scope = sc) (F : EnvOk K b V env Γ) :
    EvT prog w A b V (evalArgs f true (backTo pos (starEach es env)) []) fun V' a => ∃ vs, a = ⟨vs, []⟩ ∧ Fit V' Ps vs := by
  have hp := ets_plain (pos := pos) (env := env) h
  have hs := ev_spliced (pos := pos) h env b V hsc F
  generalize backTo pos (starEach es env) = args at hp hs
  intro h0 s Q E hx k
  have hs' : wpAny (model prog w) A (spliced args) (fun vs s' => Q ⟨vs, []⟩ s') E s := hs h0 s _ E hx fun r h' tk V' g p => k _ h' tk V' g ⟨r, rfl, p⟩
  cases args with
  | nil =>
    unfold evalArgs
    show wpAny (model prog w) A (spliced [] >>= _) Q E s
    refine wpAny_bind (wpAny_mono hs' (fun vs s' h' => ?_) fun _ _ x => x)
    refine wpAny_bind (wpAny_pure ?_)
    refine wpAny_holding ?_
    exact wpAny_bind (wpAny_pure (wpAny_bind (wpAny_pure (wpAny_pure h'))))
  | cons x rest =>
    obtain ⟨st, t⟩ := x
    have : st = false := by simpa using (Bool.or_eq_false_iff.mp hp).1
    subst this
    exact Calls.evalArgs_plain hs'

theorem ev_callWith {f : Value} {first : List Value} {es : List Expr} {Ps : List Sp} {R : Sp} (hk : KeepOk K f) (h : Ets prog w K A sc Γ es Ps) (env : Env) (b : Heap) (V : LG) (hsc : env.scope = sc) (F : EnvOk K b V env Γ)
    (body : ∀ b' V' vs, Ext b b' → Le V V' → Wd K b' → Fit V' Ps vs → Ev prog w A b' V' (call f (first ++ vs)) R) :
    Ev prog w A b V (callWith pos f first (backTo pos (starEach es env)) []) R := by
  intro hs s Q E hx k
  refine callWith_of (P := Wd K) (by rw [ets_plain h]; rfl) (fun hp x => keeps_ok hk hp x) ?_
  refine ev_evalArgs h env b V hsc F hs s _ E hx fun a h' tk V' g p => ?_
  obtain ⟨vs, rfl, p⟩ := p
  have W' := F.wd.ext (hx.trans g.ext)
  exact ⟨W', body h' V' vs (hx.trans g.ext) g.le W' p g.sub { s with heap := h', toks := tk } Q E (Ext.refl _) fun r h2 tk2 V2 g2 p2 => k r h2 tk2 V2 (g.trans g2) p2⟩

theorem et_call {x : Str} {p : Pos} {fv : Value} {es : List Expr} {Ps : List Sp} {R : Sp} (hf : Et prog w K A sc Γ (.Name x p) (Vl fv)) (hk : KeepOk K fv) (h : Ets prog w K A sc Γ es Ps)
    (body : ∀ b V vs, Wd K b → Fit V Ps vs → Ev prog w A b V (call fv vs) R) : Et prog w K A sc Γ (.Call (.Name x p) es [] pos) R := by
  intro env b V hsc F
  show Ev prog w A b V (do callWith pos (← eval (.Name x p) env) [] (backTo pos (starEach es env)) (backToKw pos (keywordEach [] env))) R
  refine (hf env b V hsc F).bind fun v b1 V1 e1 l1 _ p1 => ?_
  have p1' : v = fv := p1
  subst p1'
  exact ev_callWith hk h env b1 V1 hsc (F.ext e1 l1) fun b' V' vs _ _ W p => body b' V' vs W p

theorem plain_getMethod {T : String} {name : Str} {id : String} {P : Sp} (slot : Slot T name id) (pa : PlainAttrs T) (hty : typeOf (.builtin id) = pure (.type "method_descriptor"))
    (hT : ∀ (s : Shared) V v, Sub V s.heap → P.p V v → s.TypeIs v T) (hd : ∀ (s : Shared) V v, Sub V s.heap → P.p V v → ∀ a, v = .ref a → ∃ ob, s.heap.get? a = some ob ∧ ob.dict = none)
    {pl : Sem Bool} {v : Value} (p : P.p V v) : EvT prog w A b V (getMethod v name pl) fun _ r => r = (.builtin id, [v]) :=
  .same fun s Q E hs _ k => getMethod_builtin (hT s V v hs p) pa slot hty (hd s V v hs p) (k _ s.toks rfl)

theorem et_method {T : String} {name : Str} {id : String} {o : Expr} {apos : Pos} {P R : Sp} {es : List Expr} {Ps : List Sp} (ho : Et prog w K A sc Γ o P) (slot : Slot T name id) (pa : PlainAttrs T)
    (hty : typeOf (.builtin id) = pure (.type "method_descriptor")) (hT : ∀ (s : Shared) V v, Sub V s.heap → P.p V v → s.TypeIs v T)
    (hd : ∀ (s : Shared) V v, Sub V s.heap → P.p V v → ∀ a, v = .ref a → ∃ ob, s.heap.get? a = some ob ∧ ob.dict = none) (h : Ets prog w K A sc Γ es Ps)
    (body : ∀ b V v vs, Wd K b → P.p V v → Fit V Ps vs → Ev prog w A b V (call (.builtin id) (v :: vs)) R)
    (hbase : ∀ env whole, attributeBase o name env whole = whole) (hlen : es.length < 29) (hline : (apos.endLine == pos.line) = true) :
    Et prog w K A sc Γ (.Call (.Attribute o name apos) es [] pos) R := by
  intro env b V hsc F
  refine .of_eq (arm_eval_Call ..) ?_
  rw [hbase]
  refine (ho env b V hsc F).bind fun v b1 V1 e1 l1 _ p1 => ?_
  refine .standAt ?_
  have hform : methodCallForm (es.length + ([] : List Keyword).length) (backTo pos (starEach es env)) (backToKw pos (keywordEach [] env)) = true := by
    unfold methodCallForm
    rw [ets_all h]
    simp only [List.length_nil, Nat.add_zero]
    show (true && true && decide (es.length + 0 < 30)) = true
    simp; omega
  have hpos : methodCallPos true o env apos pos = pure pos := by unfold methodCallPos; simp [hline]
  unfold methodCall
  rw [hform]
  refine (EvT.holding (plain_getMethod slot pa hty hT hd p1)).bind fun r b2 V2 e2 l2 _ q => ?_
  subst q
  dsimp only
  rw [hpos]
  refine (EvT.pure (P := fun _ r => r = pos) rfl).bind fun r b3 V3 e3 l3 _ q => ?_
  subst q
  exact ev_callWith (.inr (.inl ⟨_, rfl⟩)) h env b3 V3 hsc (F.ext (e1.trans (e2.trans e3)) (l1.trans (l2.trans l3))) fun b' V' vs _ l' W p => body b' V' v vs W (P.mono (l2.trans (l3.trans l')) p1) p
theorem dict_S {x : Str} (s : Shared) (V : LG) (v : Value) (_ : Sub V s.heap) (h : (S x).p V v) : ∀ a, v = .ref a → ∃ ob, s.heap.get? a = some ob ∧ ob.dict = none := by
  obtain ⟨t, rfl⟩ := h
  intro a e; cases e
theorem dict_L {Ps : List Sp} (s : Shared) (V : LG) (v : Value) (hs : Sub V s.heap) (h : (L Ps).p V v) : ∀ a, v = .ref a → ∃ ob, s.heap.get? a = some ob ∧ ob.dict = none := by
  obtain ⟨a, vs, n, rfl, h2, _⟩ := h
  intro a' e; cases e
  exact ⟨_, (hs _ _ h2).1, rfl⟩

/-! ### built-in functions -/
theorem fit1 {P : Sp} {vs : List Value} (h : Fit V [P] vs) : ∃ v, vs = [v] ∧ P.p V v := by
  cases h with | cons a t => cases t; exact ⟨_, rfl, a⟩
theorem fit2 {P Q : Sp} {vs : List Value} (h : Fit V [P, Q] vs) : ∃ v u, vs = [v, u] ∧ P.p V v ∧ Q.p V u := by
  cases h with | cons a t => cases t with | cons c t => cases t; exact ⟨_, _, rfl, a, c⟩
theorem fit3 {P Q R : Sp} {vs : List Value} (h : Fit V [P, Q, R] vs) : ∃ v u x, vs = [v, u, x] ∧ P.p V v ∧ Q.p V u ∧ R.p V x := by
  cases h with | cons a t => cases t with | cons c t => cases t with | cons d t => cases t; exact ⟨_, _, _, rfl, a, c, d⟩

theorem len_body_list {Ps : List Sp} (hz : Ps.length < 2 ^ 62) (b : Heap) (V : LG) (vs : List Value) (h : Fit V [L Ps] vs) : Ev prog w A b V (call (.builtin "len") vs) (I Ps.length) := by
  obtain ⟨v, rfl, a, us, n, rfl, q2, q3⟩ := fit1 h
  have := q3.length
  refine .same fun s Q E hs _ k => Calls.call_len_list (hs.pl q2).isList (by rw [List.size_toArray]; omega) ?_
  rw [List.size_toArray, ← this]
  exact k _ _ ⟨_, rfl⟩
theorem len_body_str {x : Str} (hz : x.length < 2 ^ 62) (b : Heap) (V : LG) (vs : List Value) (h : Fit V [S x] vs) : Ev prog w A b V (call (.builtin "len") vs) (I x.length) := by
  obtain ⟨v, rfl, t, rfl⟩ := fit1 h
  exact .same fun s Q E hs _ k => PyProof.Rows.len_str (by omega) (k _ _ ⟨_, rfl⟩)
end
end Mine
end
section
open PySem PySem.W PyProof.Rows
set_option Elab.async false
set_option linter.all false
namespace Mine

/-! ## names' kinds in a comprehension -/
noncomputable def relS (scope sc : Scope) : Scope :=
  { scope with names := scope.names.map fun (n, k) => if (k == .free && sc.kind == .function && sc.names.lookup n == some .cell) then (n, .cell) else (n, k) }
theorem relabel_eq (scope : Scope) (env : Env) (sc : Scope) (h : env.scope = sc) : relabel scope env = relS scope sc := by subst h; rfl
noncomputable def relK (sc : Scope) (n : Str) (k : NameKind) : NameKind := if (k == .free && sc.kind == .function && sc.names.lookup n == some .cell) then .cell else k
theorem lookup_relS (scope sc : Scope) (y : Str) : (relS scope sc).names.lookup y = (scope.names.lookup y).map (relK sc y) := by
  unfold relS
  dsimp only
  induction scope.names with
  | nil => rfl
  | cons p r ih =>
    obtain ⟨n, k⟩ := p
    simp only [List.map_cons]
    by_cases hc : (k == NameKind.free && sc.kind == .function && sc.names.lookup n == some .cell) = true
    · rw [if_pos hc, List.lookup_cons, List.lookup_cons]
      cases hy : y == n with
      | true =>
        have e : y = n := by simpa using hy
        subst e
        simp only [Option.map_some, relK]; rw [if_pos hc]
      | false => exact ih
    · rw [if_neg hc, List.lookup_cons, List.lookup_cons]
      cases hy : y == n with
      | true =>
        have e : y = n := by simpa using hy
        subst e
        simp only [Option.map_some, relK]; rw [if_neg hc]
      | false => exact ih

/-! ## closures -/
noncomputable def clo (cells : List (Str × Addr)) : List (Str × NameKind) → List (Str × Addr) → List (Str × Addr)
  | [], acc => acc
  | (n, k) :: r, acc => if k == .free then (match cells.lookup n with
      | some c => clo cells r ((n, c) :: acc)
      | none => clo cells r acc) else clo cells r acc
theorem closureFor_clo {scope : Scope} {env : Env} (h : ∀ p ∈ scope.names, p.2 = .free → ∃ c, env.cells.lookup p.1 = some c) : closureFor scope env = pure (clo env.cells scope.names []) := by
  unfold closureFor
  have key : ∀ (names : List (Str × NameKind)) (acc : List (Str × Addr)), (∀ p ∈ names, p.2 = .free → ∃ c, env.cells.lookup p.1 = some c) →
      (forIn names acc fun (x : Str × NameKind) (cs : List (Str × Addr)) => if (x.2 == NameKind.free) = true then (do let a ← cellOf env x.1; pure (ForInStep.yield ((x.1, a) :: cs))) else pure (ForInStep.yield cs) : Sem (List (Str × Addr))) = pure (clo env.cells names acc) := by
    intro names
    induction names with
    | nil => intro acc _; rfl
    | cons p r ih =>
      intro acc hp
      obtain ⟨n, k⟩ := p
      rw [List.forIn_cons]
      unfold clo
      by_cases hk : (k == NameKind.free) = true
      · obtain ⟨c, hc⟩ := hp (n, k) List.mem_cons_self (by simpa using hk)
        dsimp only at hc ⊢
        rw [if_pos hk, if_pos hk, hc]
        unfold cellOf
        rw [hc]
        exact ih _ fun p hp' => hp p (List.mem_cons_of_mem _ hp')
      · dsimp only
        rw [if_neg hk, if_neg hk]
        exact ih _ fun p hp' => hp p (List.mem_cons_of_mem _ hp')
  exact (by
    have := key scope.names [] h
    simp only [] at this ⊢
    first
      | exact (congrArg (fun t => t >>= pure) this)
      | (rw [show (forIn scope.names ([] : List (Str × Addr)) _ : Sem _) = _ from this]; rfl))
theorem clo_lookup (cells : List (Str × Addr)) (y : Str) : ∀ (names : List (Str × NameKind)) (acc : List (Str × Addr)), (∀ p ∈ names, p.2 = .free → ∃ c, cells.lookup p.1 = some c) →
    (clo cells names acc).lookup y = if (y, NameKind.free) ∈ names then cells.lookup y else acc.lookup y
  | [], acc, _ => by simp [clo]
  | (n, k) :: r, acc, h => by
    have ih := fun acc => clo_lookup cells y r acc fun p hp => h p (List.mem_cons_of_mem _ hp)
    unfold clo
    by_cases hk : (k == NameKind.free) = true
    · have hk' : k = .free := by simpa using hk
      subst hk'
      obtain ⟨c, hc⟩ := h (n, .free) List.mem_cons_self rfl
      dsimp only at hc
      rw [if_pos hk, hc]
      dsimp only
      rw [ih]
      by_cases hm : (y, NameKind.free) ∈ r
      · rw [if_pos hm, if_pos (List.mem_cons_of_mem _ hm)]
      · rw [if_neg hm]
        by_cases hy : y = n
        · subst hy
          rw [if_pos List.mem_cons_self, hc]; simp
        · rw [if_neg]
          · rw [List.lookup_cons]
            have : (y == n) = false := by simpa using hy
            rw [this]
          · intro hm'
            rcases List.mem_cons.mp hm' with q | q
            · exact hy (by cases q; rfl)
            · exact hm q
    · rw [if_neg hk, ih]
      by_cases hm : (y, NameKind.free) ∈ r
      · rw [if_pos hm, if_pos (List.mem_cons_of_mem _ hm)]
      · rw [if_neg hm, if_neg]
        intro hm'
        rcases List.mem_cons.mp hm' with q | q
        · cases q; exact hk rfl
        · exact hm q

/-! ## own cells -/
theorem cellsFrom_append : ∀ (names : List (Str × NameKind)) (n : Nat) (a c : List (Str × Addr)), cellsFrom n names (a ++ c) = cellsFrom n names a ++ c
  | [], n, a, c => rfl
  | (x, k) :: r, n, a, c => by
    unfold cellsFrom
    split
    · exact cellsFrom_append r (n + 1) ((x, n) :: a) c
    · exact cellsFrom_append r n a c
theorem cellsFrom_nil (names : List (Str × NameKind)) (n : Nat) (c : List (Str × Addr)) : cellsFrom n names c = cellsFrom n names [] ++ c := cellsFrom_append names n [] c
theorem cellsFrom_mem : ∀ (names : List (Str × NameKind)) (n : Nat) (acc : List (Str × Addr)) (y : Str) (c : Addr), (y, c) ∈ cellsFrom n names acc → (y, c) ∈ acc ∨ (y, NameKind.cell) ∈ names
  | [], n, acc, y, c, h => .inl h
  | (x, k) :: r, n, acc, y, c, h => by
    unfold cellsFrom at h
    split at h
    · rename_i hk
      have hk' : k = .cell := by simpa using hk
      subst hk'
      rcases cellsFrom_mem r (n + 1) _ y c h with q | q
      · rcases List.mem_cons.mp q with q | q
        · cases q; exact .inr List.mem_cons_self
        · exact .inl q
      · exact .inr (List.mem_cons_of_mem _ q)
    · rcases cellsFrom_mem r n _ y c h with q | q
      · exact .inl q
      · exact .inr (List.mem_cons_of_mem _ q)

section
variable {M : Model} {A : Around} {E : Value → Shared → Prop} {s : Shared}
theorem wpAny_newCompEnv {scope : Scope} {globals : Addr} {cl : List (Str × Addr)} {qual : Str} {outer : Env} {Q : Env → Shared → Prop}
    (hQ : Q { scope, locals := s.heap.objs.size, globals, cells := cellsFrom (s.heap.objs.size + 1) scope.names [] ++ cl, qual, func := none, code := outer.code, frame := outer.frame, builtins := outer.builtins }
      { s with heap := pushCells (s.heap.push { cls := .type "dict", data := .dict #[] }) scope.names }) :
    wpAny M A (newFunctionEnv scope globals cl [] qual none .none (some outer)) Q E s := by
  simp only [newFunctionEnv, Option.isSome_some, if_true]
  refine wpAny_bind (wpAny_alloc ?_)
  refine wpAny_bind (wpAny_layCells _ (fun name kind cells => by cases hkc : kind == NameKind.cell <;> simp [hkc]) _ _ _ _ ?_)
  rw [show ({ s with heap := s.heap.push { cls := .type "dict", data := .dict #[] } } : Shared).heap.objs.size = s.heap.objs.size + 1 from Heap.size_push ..]
  refine wpAny_bind ?_
  rw [List.forIn_nil]
  refine wpAny_pure (wpAny_pure ?_)
  rw [cellsFrom_nil]
  exact hQ
end
end Mine
end
section
open PySem PySem.W PyProof.Rows
set_option Elab.async false
set_option linter.all false
namespace Mine

/-! ## frames that are written to -/
noncomputable def Kp (h h' : Heap) : Prop := ∀ a o, h.get? a = some o → (∀ es n, o.data ≠ .dict es n) → (∀ v, o.data ≠ .cell v) → h'.get? a = some o
theorem Kp.refl (h : Heap) : Kp h h := fun _ _ e _ _ => e
theorem Kp.trans {h h' h'' : Heap} (x : Kp h h') (y : Kp h' h'') : Kp h h'' := fun a o e p q => y a o (x a o e p q) p q
theorem Kp.of_ext {h h' : Heap} (x : Ext h h') : Kp h h' := fun a o e _ _ => x a o e
theorem Kp.list {h h' : Heap} (x : Kp h h') {a : Addr} {vs : Array Value} (l : h.PlainList a vs) : h'.PlainList a vs := by
  obtain ⟨n, e⟩ := l
  exact ⟨n, x a _ e (fun _ _ q => by cases q) (fun _ q => by cases q)⟩
theorem Kp.sub {h h' : Heap} {V : LG} (x : Kp h h') (l : Sub V h) : Sub V h' := fun a o e => ⟨x a o (l a o e).1 (l a o e).2.1 (l a o e).2.2, (l a o e).2⟩

structure Frame (K : Frag) (ow : Str → Prop) (b₀ h : Heap) (V : LG) (env : Env) (Γ : Ctx') : Prop where
  ok : EnvOk K h V env Γ
  base : Ext b₀ h
  wd : Wd K b₀
  sub : Sub V h
  fresh : b₀.get? env.locals = none
  ns : ∃ m, h.Ns env.locals m
  own : ∀ y, ow y → ∃ c v, env.cells.lookup y = some c ∧ b₀.get? c = none ∧ h.IsCell c v ∧ ∀ y', env.cells.lookup y' = some c → y' = y

section
variable {prog : Program} {w : World} {A : Around} {K : Frag} {ow : Str → Prop} {b₀ h h' : Heap} {V V' : LG} {env : Env} {Γ : Ctx'}

theorem Frame.grow (F : Frame K ow b₀ h V env Γ) (g : Grow V h V' h') : Frame K ow b₀ h' V' env Γ :=
  ⟨F.ok.ext g.ext g.le, F.base.trans g.ext, F.wd, g.sub, F.fresh, let ⟨m, e⟩ := F.ns; ⟨m, e.keeps g.ext⟩, fun y hy => let ⟨c, v, a, b, d, e⟩ := F.own y hy; ⟨c, v, a, b, d.keeps g.ext, e⟩⟩

theorem ns_det {h : Heap} {a : Addr} {m m' : Str → Option Value} (x : h.Ns a m) (y : h.Ns a m') (n : Str) : m n = m' n := by
  obtain ⟨o, es, ep, ho, hd, _, hm⟩ := x
  obtain ⟨o', es', ep', ho', hd', _, hm'⟩ := y
  rw [ho] at ho'; cases ho'
  rw [hd] at hd'; cases hd'
  rw [← hm n, ← hm' n]
theorem ns_ne_cell {h : Heap} {a c : Addr} {m : Str → Option Value} {v : Option Value} (x : h.Ns a m) (y : h.IsCell c v) : c ≠ a := by
  rintro rfl
  obtain ⟨o, es, ep, ho, hd, _, _⟩ := x
  obtain ⟨o', ho', hd'⟩ := y
  rw [ho] at ho'; cases ho'
  rw [hd] at hd'; cases hd'

theorem Frame.store {x : Str} {P : Sp} {v : Value} {s : Shared} {Q : Unit → Shared → Prop} {E : Value → Shared → Prop} (F : Frame K ow b₀ s.heap V env Γ)
    (hx : env.kindOf x = some .local ∨ (env.kindOf x = some .cell ∧ ow x)) (p : P.p V v)
    (hQ : ∀ h' tk, Frame K ow b₀ h' V env (upd Γ x P) → Kp s.heap h' → Q () { s with heap := h', toks := tk }) : wpAny (model prog w) A (storeName env x v) Q E s := by
  obtain ⟨m, hns⟩ := F.ns
  rcases hx with hx | ⟨hx, hox⟩
  · refine wpAny_storeName_local hx hns (fun h' hn hs => ?_) (by rw [F.ok.kind]; rfl)
    have hne : ∀ b o, b₀.get? b = some o → b ≠ env.locals := fun b o e q => by rw [q, F.fresh] at e; cases e
    have ext : Ext b₀ h' := fun b o e => (hs.2 b (hne b o e)).trans (F.base b o e)
    have cel : ∀ c u, s.heap.IsCell c u → h'.IsCell c u := fun c u hc => hc.sameBut hs (ns_ne_cell hns hc)
    have kp : Kp s.heap h' := fun a o e hd _ => (hs.2 a (by
      rintro rfl
      obtain ⟨o', es, ep, ho', hd', _⟩ := hns
      rw [e] at ho'; cases ho'
      exact hd es ep hd')).trans e
    refine hQ h' _ ⟨⟨F.wd.ext ext, F.ok.kind, F.ok.gl, F.ok.bu, fun y hy => let ⟨c, u, a, q⟩ := F.ok.cells y hy; ⟨c, u, a, cel c u q⟩, fun y R hy => ?_⟩, ext, F.wd, kp.sub F.sub, F.fresh, ⟨_, hn⟩,
      fun y hy => let ⟨c, u, a, b, d, e⟩ := F.own y hy; ⟨c, u, a, b, cel c u d, e⟩⟩ kp
    unfold upd at hy
    by_cases hyx : y = x
    · rw [if_pos hyx] at hy; cases hy
      subst hyx
      exact ⟨v, .loc _ hx hn (by simp), p⟩
    · rw [if_neg hyx] at hy
      obtain ⟨u, hb, pu⟩ := F.ok.vars y R hy
      refine ⟨u, ?_, pu⟩
      cases hb with
      | loc m' a hn' e => exact .loc _ a hn (by simp only [if_neg hyx]; rw [ns_det hns hn' y]; exact e)
      | cel c a l hc => exact .cel c a l (cel c _ hc)
  · obtain ⟨c, u, hc, hb, hcell, huniq⟩ := F.own x hox
    refine wpAny_storeName_cell F.ok.kind hx hc hcell fun h' hc' hs => ?_
    have hne : ∀ b o, b₀.get? b = some o → b ≠ c := fun b o e q => by rw [q, hb] at e; cases e
    have ext : Ext b₀ h' := fun b o e => (hs.2 b (hne b o e)).trans (F.base b o e)
    have kp : Kp s.heap h' := fun a o e _ hd => (hs.2 a (by
      rintro rfl
      obtain ⟨o', ho', hd'⟩ := hcell
      rw [e] at ho'; cases ho'
      exact hd _ hd')).trans e
    have hns' : h'.Ns env.locals m := hns.sameBut hs (Ne.symm (ns_ne_cell hns hcell))
    have cel : ∀ d u', d ≠ c → s.heap.IsCell d u' → h'.IsCell d u' := fun d u' hd q => q.sameBut hs hd
    refine hQ h' s.toks ⟨⟨F.wd.ext ext, F.ok.kind, F.ok.gl, F.ok.bu, fun y hy => ?_, fun y R hy => ?_⟩, ext, F.wd, kp.sub F.sub, F.fresh, ⟨_, hns'⟩, fun y hy => ?_⟩ kp
    · obtain ⟨d, u', a, q⟩ := F.ok.cells y hy
      by_cases hd : d = c
      · subst hd; exact ⟨d, _, a, hc'⟩
      · exact ⟨d, u', a, cel d u' hd q⟩
    · unfold upd at hy
      by_cases hyx : y = x
      · rw [if_pos hyx] at hy; cases hy
        subst hyx
        exact ⟨v, .cel c (.inl hx) hc hc', p⟩
      · rw [if_neg hyx] at hy
        obtain ⟨u', hb', pu⟩ := F.ok.vars y R hy
        refine ⟨u', ?_, pu⟩
        cases hb' with
        | loc m' a hn' e => exact .loc _ a (hn'.sameBut hs (Ne.symm (ns_ne_cell hns hcell))) e
        | cel d a l hcd =>
          have hd : d ≠ c := fun q => hyx (huniq y (q ▸ l))
          exact .cel d a l (cel d _ hd hcd)
    · obtain ⟨d, u', a, b, q, e⟩ := F.own y hy
      by_cases hd : d = c
      · subst hd; exact ⟨d, _, a, b, hc', e⟩
      · exact ⟨d, u', a, b, cel d u' hd q, e⟩

/-- what a comprehension's block sees of the names around it -/
noncomputable def cutΓ (scope : Scope) (Γ : Ctx') : Ctx' := fun y => match scope.names.lookup y with
  | some .free => Γ y
  | _ => none

/-- static conditions of a comprehension's scope -/
noncomputable def compOk (scope sc : Scope) : Bool :=
  scope.kind == .function &&
  (scope.names.all fun p => scope.names.lookup p.1 == some p.2) &&
  (scope.names.all fun p => p.2 != .free || sc.names.lookup p.1 == some .cell || (sc.names.lookup p.1 == some .free && p.1 != ("__classdict__" : Str)))

theorem pushCells_size : ∀ (names : List (Str × NameKind)) (h : Heap), h.objs.size ≤ (pushCells h names).objs.size
  | [], h => Nat.le_refl _
  | (x, k) :: r, h => by
    unfold pushCells
    split
    · exact Nat.le_trans (by rw [Heap.size_push]; exact Nat.le_succ _) (pushCells_size r _)
    · exact pushCells_size r h

theorem Frame.comp {scope sc : Scope} {qual : Str} (hsc : env.scope = sc) (F : EnvOk K h V env Γ) (hs : Sub V h) (ok : compOk scope sc = true) (b₀ : Heap) (hb : Ext b₀ h) (hw : Wd K b₀) :
    Frame K (fun y => scope.names.lookup y = some .cell) b₀ (pushCells (h.push { cls := .type "dict", data := .dict #[] }) scope.names) V
      { scope := relabel scope env, locals := h.objs.size, globals := env.globals, cells := cellsFrom (h.objs.size + 1) scope.names [] ++ clo env.cells scope.names [], qual, func := none, code := env.code, frame := env.frame, builtins := env.builtins }
      (cutΓ scope Γ) := by
  unfold compOk at ok
  rw [Bool.and_eq_true, Bool.and_eq_true] at ok
  obtain ⟨⟨ok1, ok2⟩, ok3⟩ := ok
  have hk : scope.kind = .function := by simpa using ok1
  have hnd : ∀ p ∈ scope.names, scope.names.lookup p.1 = some p.2 := fun p hp => by simpa using List.all_eq_true.mp ok2 p hp
  have hfr : ∀ p ∈ scope.names, p.2 = .free → env.kindOf p.1 = some .cell ∨ (env.kindOf p.1 = some .free ∧ (p.1 == ("__classdict__" : Str)) = false) := fun p hp hf => by
    have := List.all_eq_true.mp ok3 p hp
    rw [hf] at this
    unfold Env.kindOf; rw [hsc]
    simp only [bne_self_eq_false, Bool.false_or, Bool.or_eq_true, Bool.and_eq_true, beq_iff_eq, bne_iff_ne, ne_eq] at this
    rcases this with q | ⟨q, r⟩
    · exact .inl q
    · exact .inr ⟨q, by simpa using r⟩
  have hcl : ∀ p ∈ scope.names, p.2 = .free → ∃ c, env.cells.lookup p.1 = some c := fun p hp hf => by
    obtain ⟨c, v, q, _⟩ := F.cells p.1 ((hfr p hp hf).imp id (·.1))
    exact ⟨c, q⟩
  have ext1 : Ext h (pushCells (h.push { cls := .type "dict", data := .dict #[] }) scope.names) := fun b o e => pushCells_keeps _ _ b o (Heap.get?_push_of_some _ e)
  have cok := cellsFrom_ok scope.names (h.push { cls := .type "dict", data := .dict #[] }) (h.objs.size + 1) [] ⟨fun _ _ hm => (nomatch hm), List.Pairwise.nil⟩ (by rw [Heap.size_push]; exact Nat.le_refl _)
  rw [Heap.size_push] at cok
  -- look-ups
  have look_own : ∀ y c, (cellsFrom (h.objs.size + 1) scope.names []).lookup y = some c → scope.names.lookup y = some .cell := fun y c e => by
    rcases cellsFrom_mem _ _ _ y c (mem_of_lookup e) with q | q
    · cases q
    · exact hnd _ q
  have look_clo : ∀ y c, (clo env.cells scope.names []).lookup y = some c → scope.names.lookup y = some .free ∧ env.cells.lookup y = some c := fun y c e => by
    rw [clo_lookup env.cells y scope.names [] hcl] at e
    by_cases hm : (y, NameKind.free) ∈ scope.names
    · rw [if_pos hm] at e; exact ⟨hnd _ hm, e⟩
    · rw [if_neg hm] at e; cases e
  have clo_look : ∀ y, scope.names.lookup y = some .free → (cellsFrom (h.objs.size + 1) scope.names [] ++ clo env.cells scope.names []).lookup y = env.cells.lookup y := fun y e => by
    rw [List.lookup_append]
    have h1 : (cellsFrom (h.objs.size + 1) scope.names []).lookup y = none := by
      cases q : (cellsFrom (h.objs.size + 1) scope.names []).lookup y with
      | none => rfl
      | some c => have := look_own y c q; rw [e] at this; cases this
    rw [h1, Option.none_or, clo_lookup env.cells y scope.names [] hcl, if_pos (mem_of_lookup e)]
  have hkind : ∀ y, Env.kindOf { scope := relabel scope env, locals := h.objs.size, globals := env.globals, cells := cellsFrom (h.objs.size + 1) scope.names [] ++ clo env.cells scope.names [], qual, func := none, code := env.code, frame := env.frame, builtins := env.builtins } y = (scope.names.lookup y).map (relK sc y) := fun y => by
    show (relabel scope env).names.lookup y = _
    rw [relabel_eq scope env sc hsc]; exact lookup_relS scope sc y
  have hfresh : ∀ a, h.objs.size ≤ a → b₀.get? a = none := fun a ha => by
    cases e : b₀.get? a with
    | none => rfl
    | some o => exact absurd (Heap.lt_size (hb a o e)) (Nat.not_lt.mpr ha)
  have own : ∀ y, scope.names.lookup y = some .cell → ∃ c v, (cellsFrom (h.objs.size + 1) scope.names [] ++ clo env.cells scope.names []).lookup y = some c ∧ b₀.get? c = none ∧
      (pushCells (h.push { cls := .type "dict", data := .dict #[] }) scope.names).IsCell c v ∧ ∀ y', (cellsFrom (h.objs.size + 1) scope.names [] ++ clo env.cells scope.names []).lookup y' = some c → y' = y := fun y e => by
    have := cellsFrom_some (x := y) scope.names (h.objs.size + 1) [] (.inl e)
    obtain ⟨c, hc⟩ := Option.isSome_iff_exists.mp this
    obtain ⟨q1, q2⟩ := cok.empty y c (mem_of_lookup hc)
    refine ⟨c, none, by rw [List.lookup_append, hc]; rfl, hfresh c (Nat.le_of_succ_le q2), q1, fun y' e' => ?_⟩
    rw [List.lookup_append] at e'
    cases h1 : (cellsFrom (h.objs.size + 1) scope.names []).lookup y' with
    | some c' =>
      rw [h1] at e'
      have e2 : c' = c := by simpa using e'
      subst e2
      exact name_of_addr cok.apart (mem_of_lookup h1) (mem_of_lookup hc)
    | none =>
      rw [h1, Option.none_or] at e'
      obtain ⟨f1, f2⟩ := look_clo y' c e'
      have hk2 := (hfr (y', .free) (mem_of_lookup f1) rfl).imp id (·.1)
      obtain ⟨c2, v2, g1, g2⟩ := F.cells y' hk2
      rw [f2] at g1; cases g1
      exact absurd g2.lt (Nat.not_lt.mpr (Nat.le_of_succ_le q2))
  refine ⟨⟨hw.ext (hb.trans ext1), hk, F.gl, F.bu, fun y hy => ?_, fun y P hy => ?_⟩, hb.trans ext1, hw, hs.ext ext1, hfresh _ (Nat.le_refl _), ⟨_, (Heap.Ns.new h (.type "dict")).keeps (pushCells_keeps _ _)⟩, own⟩
  · rw [hkind] at hy
    cases hl : scope.names.lookup y with
    | none => rw [hl] at hy; simp at hy
    | some k =>
      rw [hl] at hy
      have hkk : k = .cell ∨ k = .free := by
        simp only [Option.map_some, relK, Option.some.injEq] at hy
        by_cases hc : (k == NameKind.free && sc.kind == .function && sc.names.lookup y == some .cell) = true
        · rw [Bool.and_eq_true, Bool.and_eq_true] at hc
          exact .inr (by simpa using hc.1.1)
        · rw [if_neg hc] at hy; exact hy
      rcases hkk with rfl | rfl
      · obtain ⟨c, v, q1, _, q2, _⟩ := own y hl
        exact ⟨c, v, q1, q2⟩
      · have hk2 := (hfr (y, .free) (mem_of_lookup hl) rfl).imp id (·.1)
        obtain ⟨c2, v2, g1, g2⟩ := F.cells y hk2
        exact ⟨c2, v2, (clo_look y hl).trans g1, g2.keeps ext1⟩
  · unfold cutΓ at hy
    cases hl : scope.names.lookup y with
    | none => rw [hl] at hy; cases hy
    | some k =>
      rw [hl] at hy
      cases k with
      | free =>
        obtain ⟨v, hbd, pv⟩ := F.vars y P hy
        refine ⟨v, ?_, pv⟩
        have hk2 := hfr (y, .free) (mem_of_lookup hl) rfl
        cases hbd with
        | loc m a _ _ =>
          exfalso
          rcases hk2 with q | ⟨q, _⟩ <;> (dsimp only at q; rw [a] at q; cases q)
        | cel c a l hc =>
          refine .cel c ?_ ((clo_look y hl).trans l) (hc.keeps ext1)
          rw [hkind, hl]
          simp only [Option.map_some, relK]
          by_cases hcc : (NameKind.free == NameKind.free && sc.kind == .function && sc.names.lookup y == some .cell) = true
          · rw [if_pos hcc]; exact .inl rfl
          · rw [if_neg hcc]
            rcases hk2 with q | ⟨q, q2⟩
            · exfalso
              apply hcc
              have q' : sc.names.lookup y = some .cell := by unfold Env.kindOf at q; rw [hsc] at q; exact q
              have kf := F.kind
              rw [hsc] at kf
              rw [q', kf]; rfl
            · exact .inr ⟨rfl, q2⟩
      | _ => cases hy
end
end Mine
end
section
open PySem PySem.W PyProof.Rows
set_option Elab.async false
set_option linter.all false
namespace Mine

/-! ## what is iterated -/
structure ItF (prog : Program) (w : World) (A : Around) (V : LG) (Qs : List Sp) (h h' : Heap) (it : Addr) (fp wr : List Addr) (P : Nat → Value → Prop) (St : Nat → Heap → Prop) : Prop where
  W : Walks prog w A it fp wr Qs.length P St
  st : St 0 h'
  ext : Ext h h'
  wr : ∀ b ∈ wr, h.get? b = none
  fp : ∀ i g, St i g → ∀ b ∈ fp, (∃ o, V b = some o) ∨ ∃ o, g.get? b = some o ∧ o.cls ≠ .type "list" ∧ Pl o
  vals : ∀ i v, i < Qs.length → P i v → ∃ R, Qs[i]? = some R ∧ R.p V v

noncomputable def Itr (prog : Program) (w : World) (A : Around) (V : LG) (xv : Value) (Qs : List Sp) : Prop :=
  ∀ (s : Shared) (Q : Value → Shared → Prop) (E : Value → Shared → Prop), Sub V s.heap →
    (∀ it fp wr P St h' tk, ItF prog w A V Qs s.heap h' it fp wr P St → Q (.ref it) { s with heap := h', toks := tk }) → wpAny (model prog w) A (pyIter xv) Q E s

section
variable {prog : Program} {w : World} {A : Around} {K : Frag} {ow : Str → Prop} {b₀ h h' b : Heap} {V V' : LG} {env : Env} {sc : Scope} {Γ : Ctx'} {l r e : Expr} {pos : Pos}

theorem itr_list {Qs : List Sp} {v : Value} (hh : A.handled = none) (p : (L Qs).p V v) : Itr prog w A V v Qs := by
  obtain ⟨a, vs, n, rfl, q2, q3⟩ := p
  intro s Q E hs k
  have hl := (hs.pl q2).isList
  have hlen := q3.length
  have hlt : a < s.heap.objs.size := Heap.lt_size (hs a _ q2).1
  refine wpAny_pyIter_list hl (k s.heap.objs.size [s.heap.objs.size, a] [s.heap.objs.size] (fun i v => vs.toArray[i]? = some v) (fun i h => h.IsListIter s.heap.objs.size a i ∧ h.IsList a vs.toArray) _ s.toks
    ⟨?_, ⟨⟨_, Heap.get?_push_size _ rfl, rfl, rfl⟩, hl.push _⟩, Ext.push _ _, ?_, ?_, ?_⟩)
  · exact hlen ▸ (by simpa using Walks.list (prog := prog) (w := w) hh s.heap.objs.size a (Nat.ne_of_lt hlt) vs.toArray)
  · intro b hb; rw [List.mem_singleton.mp hb]; exact fresh_size _
  · rintro i g ⟨⟨o, ho, hc, hd⟩, _⟩ b hb
    rcases List.mem_cons.mp hb with rfl | hb
    · exact .inr ⟨o, ho, by rw [hc]; decide, (fun es n q => by rw [hd] at q; cases q), (fun v q => by rw [hd] at q; cases q)⟩
    · rw [List.mem_singleton.mp hb]; exact .inl ⟨_, q2⟩
  · intro i v _ hv
    exact q3.getv i v (by simpa using hv)

theorem itr_range {n : Int} {v : Value} (hh : A.handled = none) (p : (Rg n).p V v) (h0 : 0 ≤ n) (h1 : n < 2 ^ 62) : Itr prog w A V v ((List.range n.toNat).map fun (i : Nat) => I i) := by
  obtain ⟨a, t, u, x, rfl, q2⟩ := p
  intro s Q E hs k
  have hr : IsRange s.heap a 0 n 1 t u x := (hs a _ q2).1
  have hsz : Builtin.Range.rangeSize 0 n 1 = (n.toNat : Int) := by rw [rangeSize_one]; split <;> omega
  refine wpAny_pyIter_range hr (small_one (by decide) (by decide) (by omega) h1) (k s.heap.objs.size [s.heap.objs.size] [s.heap.objs.size] (fun i v => ∃ t, v = .int (0 + i * 1) t)
    (fun i h => IsRangeIter h s.heap.objs.size (0 + (i : Nat) * 1) ((n.toNat : Int) - (i : Nat)) 1) _ s.toks ⟨?_, ?_, Ext.push _ _, ?_, ?_, ?_⟩)
  · simpa using Walks.range (prog := prog) (w := w) hh s.heap.objs.size 0 1 n.toNat
  · show IsRangeIter _ _ (0 + ((0 : Nat) : Int) * 1) ((n.toNat : Int) - ((0 : Nat) : Int)) 1
    have e1 : (0 + ((0 : Nat) : Int) * 1) = 0 := by simp
    have e2 : ((n.toNat : Int) - ((0 : Nat) : Int)) = Builtin.Range.rangeSize 0 n 1 := by rw [hsz]; simp
    rw [e1, e2]
    exact Heap.get?_push_size _ rfl
  · intro b hb; rw [List.mem_singleton.mp hb]; exact fresh_size _
  · rintro i g st b hb
    rw [List.mem_singleton.mp hb]
    exact .inr ⟨_, st, (fun q => by injection q with q; exact absurd q (by decide)), (fun es n q => by cases q), (fun v q => by cases q)⟩
  · rintro i v hi ⟨t, rfl⟩
    have hi' : i < n.toNat := by simpa using hi
    exact ⟨Mine.I i, by simp [hi'], t, by simp⟩

theorem EnvOk.weak {Γ' : Ctx'} (F : EnvOk K h V env Γ') (e : ∀ y P, Γ y = some P → Γ' y = some P) : EnvOk K h V env Γ :=
  ⟨F.wd, F.kind, F.gl, F.bu, F.cells, fun y P q => F.vars y P (e y P q)⟩
theorem Frame.weak {Γ' : Ctx'} (F : Frame K ow b₀ h V env Γ') (e : ∀ y P, Γ y = some P → Γ' y = some P) : Frame K ow b₀ h V env Γ :=
  ⟨F.ok.weak e, F.base, F.wd, F.sub, F.fresh, F.ns, F.own⟩

/-- the tests of a clause -/
noncomputable def testsTree (ifs : List Expr) (env : Env) : Sem Bool := forIn ifs true fun c r => if r = true then do let ok ← isTrue c env (eval c env); pure (ForInStep.yield ok) else pure (ForInStep.yield r)
noncomputable def TsT (prog : Program) (w : World) (K : Frag) (A : Around) (sc : Scope) (Γ : Ctx') (ifs : List Expr) (t : Bool) : Prop :=
  ∀ env b V, env.scope = sc → EnvOk K b V env Γ → EvT prog w A b V (testsTree ifs env) fun _ r => r = t
theorem ts_nil : TsT prog w K A sc Γ [] true := fun env b V _ _ => .pure rfl
theorem ts_one {c : Expr} {t : Bool} (h : Tt prog w K A sc Γ c t) : TsT prog w K A sc Γ [c] t := fun env b V hsc F hs s Q E hx k =>
  wpAny_tests_one (h env b V hsc F hs s Q E hx k)

/-- a name is assigned -/
theorem Frame.assign {x : Str} {px : Pos} {P : Sp} {v : Value} {s : Shared} {Q : Unit → Shared → Prop} {E : Value → Shared → Prop} (F : Frame K ow b₀ s.heap V env Γ)
    (hx : env.kindOf x = some .local ∨ (env.kindOf x = some .cell ∧ ow x)) (p : P.p V v)
    (hQ : ∀ h' tk, Frame K ow b₀ h' V env (upd Γ x P) → Kp s.heap h' → Q () { s with heap := h', toks := tk }) : wpAny (model prog w) A (assign (.Name x px) env v) Q E s :=
  wpAny_assign_Name (F.store hx p hQ)

theorem list_append_pl {l : Addr} {ys : List Value} {n : Nat} {x : Value} {s : Shared} {Q : Value → Shared → Prop} {E : Value → Shared → Prop} (hl : s.heap.get? l = some (lobj ys n))
    (hQ : ∀ h' n', h'.get? l = some (lobj (ys ++ [x]) n') → Heap.SameBut l s.heap h' → Q .none { s with heap := h' }) (hsz : ys.length ≤ sizeLine) :
    wpAny (model prog w) A (call (.builtin "list.append") [.ref l, x]) Q E s := by
  refine wpAny_list_append_plain (items := ys.toArray) ⟨n, hl⟩ (fun h' ⟨n', hn'⟩ hs' => hQ h' n' ?_ hs') (by simpa using hsz)
  rw [hn']; simp [lobj]

theorem fp_keep {Qs : List Sp} {it : Addr} {fp wr : List Addr} {P : Nat → Value → Prop} {St : Nat → Heap → Prop} {h h' g g' : Heap} {i : Nat} {V₀ : LG} (F : ItF prog w A V₀ Qs h h' it fp wr P St) (st : St i g) (hV : Sub V₀ g)
    (D : Addr) (hD : V₀ D = none) (hDl : ∃ o, g.get? D = some o ∧ o.cls = .type "list") (hk : ∀ a o, a ≠ D → g.get? a = some o → Pl o → g'.get? a = some o) : St i g' := by
  refine F.W.frame i g g' st fun b hb o e => ?_
  rcases F.fp i g st b hb with ⟨o', q⟩ | ⟨o', q, hc, hp⟩
  · obtain ⟨q1, q2⟩ := hV b o' q
    rw [e] at q1; cases q1
    exact hk b o (fun q3 => by rw [q3, hD] at q; cases q) e q2
  · rw [e] at q; cases q
    refine hk b o (fun q3 => ?_) e hp
    obtain ⟨o2, h2, hc2⟩ := hDl
    rw [q3, h2] at e; cases e
    exact hc hc2

theorem wr_off {Qs : List Sp} {it : Addr} {fp wr : List Addr} {P : Nat → Value → Prop} {St : Nat → Heap → Prop} {h h' g : Heap} {i : Nat} {V₀ : LG} (F : ItF prog w A V₀ Qs h h' it fp wr P St) (hV₀ : Sub V₀ h) (st : St i g) :
    ∀ a o, g.get? a = some o → (o.cls = .type "list" ∨ ¬ Pl o ∨ ∃ x, V₀ a = some x) → a ∉ wr := by
  intro a o e hc hm
  rcases F.fp i g st a (F.W.sub a hm) with ⟨o', q⟩ | ⟨o', q, hc', hp⟩
  · have := F.wr a hm
    rw [(hV₀ a o' q).1] at this; cases this
  · rw [e] at q; cases q
    rcases hc with hc | hc | ⟨x, hc⟩
    · exact hc' hc
    · exact hc hp
    · have := F.wr a hm
      rw [(hV₀ a x hc).1] at this; cases this
end
end Mine
end
section
open PySem PySem.W PyProof.Rows
set_option Elab.async false
set_option linter.all false
namespace Mine
section
variable {prog : Program} {w : World} {A : Around} {K : Frag} {ow : Str → Prop} {b₀ h h' b : Heap} {V V' : LG} {env : Env} {sc : Scope} {Γ : Ctx'} {l r e : Expr} {pos : Pos}

/-- some plain objects, not known, are written to; all else stays -/
theorem Frame.keep {X : Addr → Prop} (F : Frame K ow b₀ h V env Γ) (hk : ∀ a o, ¬ X a → h.get? a = some o → h'.get? a = some o) (h0 : ∀ a, X a → b₀.get? a = none) (hV : ∀ a, X a → V a = none)
    (hp : ∀ a, X a → ∃ o, h.get? a = some o ∧ Pl o) : Frame K ow b₀ h' V env Γ := by
  have nsX : ∀ m, h.Ns env.locals m → ¬ X env.locals := fun m ⟨o, es, ep, ho, hd, _⟩ hx => by
    obtain ⟨o', ho', p'⟩ := hp _ hx
    rw [ho] at ho'; cases ho'
    exact p'.1 es ep hd
  have celX : ∀ c v, h.IsCell c v → ¬ X c := fun c v ⟨o, ho, hd⟩ hx => by
    obtain ⟨o', ho', p'⟩ := hp _ hx
    rw [ho] at ho'; cases ho'
    exact p'.2 v hd
  have ns' : ∀ m, h.Ns env.locals m → h'.Ns env.locals m := fun m q => q.at' fun o e => hk _ o (nsX m q) e
  have cel' : ∀ c v, h.IsCell c v → h'.IsCell c v := fun c v q => let ⟨o, ho, hd⟩ := q; ⟨o, hk _ o (celX c v q) ho, hd⟩
  have ext : Ext b₀ h' := fun a o e => hk a o (fun q => by rw [h0 a q] at e; cases e) (F.base a o e)
  refine ⟨⟨F.wd.ext ext, F.ok.kind, F.ok.gl, F.ok.bu, fun y hy => ?_, fun y P hy => ?_⟩, ext, F.wd, fun a o e => ?_, F.fresh, ?_, fun y hy => ?_⟩
  · obtain ⟨c, v, q1, q2⟩ := F.ok.cells y hy
    exact ⟨c, v, q1, cel' c v q2⟩
  · obtain ⟨v, hb, pv⟩ := F.ok.vars y P hy
    refine ⟨v, ?_, pv⟩
    cases hb with
    | loc m a hn e => exact .loc m a (ns' m hn) e
    | cel c a l hc => exact .cel c a l (cel' c _ hc)
  · exact ⟨hk a o (fun q => by rw [hV a q] at e; cases e) (F.sub a o e).1, (F.sub a o e).2⟩
  · obtain ⟨m, q⟩ := F.ns; exact ⟨m, ns' m q⟩
  · obtain ⟨c, v, q1, q2, q3, q4⟩ := F.own y hy
    exact ⟨c, v, q1, q2, cel' c v q3, q4⟩

theorem compLoop_ok {α : Type} {x : Str} {px : Pos} {elt iter : Expr} {ifs : List Expr} {scope : Scope} {cenv : Env} {ds : List α} {Qf R : α → Sp} {p : α → Bool} {V₀ : LG} {g₀ g : Heap} {it D : Addr} {fp wr : List Addr}
    {P : Nat → Value → Prop} {St : Nat → Heap → Prop} {RR : Result → Shared → Prop} {s : Shared}
    (IF : ItF prog w A V₀ (ds.map Qf) g₀ g it fp wr P St) (hV₀ : Sub V₀ g₀) (hst : St 0 s.heap) (F : Frame K ow b₀ s.heap V cenv Γ) (hL : Le V₀ V) (hb₀ : ∀ a, g₀.get? a = none → b₀.get? a = none)
    (hwr : ∀ a ∈ wr, V a = none)
    (hD : s.heap.get? D = some (lobj [] 0)) (hDV : V D = none) (hDb : b₀.get? D = none)
    (hsc : cenv.scope = sc) (hx : cenv.kindOf x = some .local ∨ (cenv.kindOf x = some .cell ∧ ow x)) (hΓ : Γ x = none)
    (ts : ∀ d ∈ ds, TsT prog w K A sc (upd Γ x (Qf d)) ifs (p d)) (el : ∀ d ∈ ds, p d = true → Et prog w K A sc (upd Γ x (Qf d)) elt (R d)) (hz : ds.length ≤ 1000000)
    (hRR : ∀ h' tk V' ys n, Frame K ow b₀ h' V' cenv Γ → h'.get? D = some (lobj ys n) → V' D = none → Le V V' → (∀ a o, V' a = some o → V a = some o ∨ b₀.get? a = none) →
      Fit V' ((ds.filter p).map R) ys → RR (.ok .next) { s with heap := h', toks := tk }) :
    codeAny (model prog w) A (.compLoop (.ListComp elt [⟨.Name x px, iter, ifs, 0⟩] scope pos) 0 (.ref it) (.ref D) cenv) RR s := by
  have hlen : (ds.map Qf).length = ds.length := List.length_map ..
  have alive : ∀ i g', St i g' → ∀ a ∈ wr, ∃ o, g'.get? a = some o ∧ Pl o := fun i g' st a ha => by
    rcases IF.fp i g' st a (IF.W.sub a ha) with ⟨o, q⟩ | ⟨o, q, _, hp⟩
    · have := IF.wr a ha
      rw [(hV₀ a o q).1] at this; cases this
    · exact ⟨o, q, hp⟩
  refine codeAny_compLoop_tests
    (fun k s' => ∃ i H tk Vi ys m, s' = { s with heap := H, toks := tk } ∧ k = ds.length + 1 - i ∧ i ≤ ds.length ∧ Frame K ow b₀ H Vi cenv Γ ∧ St i H ∧ H.get? D = some (lobj ys m) ∧ Vi D = none ∧
      (∀ a ∈ wr, Vi a = none) ∧ Le V Vi ∧ (∀ a o, Vi a = some o → V a = some o ∨ b₀.get? a = none) ∧ Fit Vi (((ds.take i).filter p).map R) ys) ?_ (ds.length + 1)
    ⟨0, s.heap, s.toks, V, [], 0, rfl, rfl, Nat.zero_le _, F, hst, hD, hDV, hwr, Le.refl _, fun _ _ e => .inl e, by simpa using Fit.nil⟩
  rintro k s' ⟨i, H, tk, Vi, ys, m, rfl, rfl, hi, Fi, sti, hDi, hDVi, hwri, hLi, hnew, hfit⟩
  have hDwr : D ∉ wr := wr_off IF hV₀ sti D _ hDi (.inl rfl)
  have hb₀wr : ∀ a, a ∈ wr → b₀.get? a = none := fun a ha => hb₀ a (IF.wr a ha)
  by_cases hlt : i < ds.length
  · refine IF.W.item i _ _ _ (hlen ▸ hlt) sti fun v h₁ tk₁ hPv hst₁ hk₁ => ?_
    obtain ⟨R0, hR0, pv⟩ := IF.vals i v (hlen ▸ hlt) hPv
    obtain ⟨d, hd, rfl⟩ : ∃ d, ds[i]? = some d ∧ Qf d = R0 := by
      rw [List.getElem?_map] at hR0
      cases q : ds[i]? with
      | none => rw [q] at hR0; cases hR0
      | some d => rw [q] at hR0; exact ⟨d, rfl, by simpa using hR0⟩
    have hdm : d ∈ ds := List.mem_of_getElem? hd
    have F1 : Frame K ow b₀ h₁ Vi cenv Γ := Fi.keep (X := fun a => a ∈ wr) hk₁ hb₀wr hwri (alive i H sti)
    refine F1.assign (s := { s with heap := h₁, toks := tk₁ }) hx ((Qf d).mono (hL.trans hLi) pv) fun h₂ tk₂ F2 kp2 => ?_
    have hD1 : h₁.get? D = some (lobj ys m) := hk₁ D _ hDwr hDi
    have hD2 : h₂.get? D = some (lobj ys m) := kp2 D _ hD1 (pl_lobj _ _).1 (pl_lobj _ _).2
    have hst₂ : St (i + 1) h₂ := IF.W.frame _ _ _ hst₁ fun a ha o e => by
      rcases IF.fp _ _ hst₁ a ha with ⟨o', q⟩ | ⟨o', q, _, hp⟩
      · obtain ⟨q1, q2⟩ := (F1.sub.le (hL.trans hLi)) a o' q
        rw [e] at q1; cases q1
        exact kp2 a o e q2.1 q2.2
      · rw [e] at q; cases q
        exact kp2 a o e hp.1 hp.2
    have htake : ds.take (i + 1) = ds.take i ++ [d] := by rw [List.take_add_one, hd]; rfl
    refine ts d hdm cenv h₂ Vi hsc F2.ok F2.sub { s with heap := h₂, toks := tk₂ } _ _ (Ext.refl _) fun ok h₃ tk₃ V3 g3 hok => ?_
    subst hok
    have F3 := F2.grow g3
    have hD3 := g3.ext D _ hD2
    have hDV3 : V3 D = none := by
      cases q : V3 D with
      | none => rfl
      | some o => rcases g3.new D o q with q | q
                  · rw [hDVi] at q; cases q
                  · rw [hD2] at q; cases q
    have hst₃ : St (i + 1) h₃ := IF.W.frame _ _ _ hst₂ fun a _ o e => g3.ext a o e
    have hwr3 : ∀ a ∈ wr, V3 a = none := fun a ha => by
      cases q : V3 a with
      | none => rfl
      | some o => rcases g3.new a o q with q | q
                  · rw [hwri a ha] at q; cases q
                  · obtain ⟨o', q', _⟩ := alive _ _ hst₂ a ha
                    rw [q] at q'; cases q'
    have hnew3 : ∀ a o, V3 a = some o → V a = some o ∨ b₀.get? a = none := fun a o e => (g3.new a o e).elim (hnew a o) fun q => .inr (none_of_ext F2.base q)
    have weak : ∀ y P, Γ y = some P → upd Γ x (Qf d) y = some P := fun y P q => by
      unfold upd
      by_cases hy : y = x
      · rw [hy, hΓ] at q; cases q
      · rw [if_neg hy]; exact q
    cases hpd : p d with
    | false =>
      simp only [Bool.false_eq_true, if_false]
      refine ⟨ds.length + 1 - (i + 1), by omega, i + 1, h₃, tk₃, V3, ys, m, rfl, rfl, hlt, F3.weak weak, hst₃, hD3, hDV3, hwr3, hLi.trans g3.le, hnew3, ?_⟩
      rw [htake, List.filter_append]
      simpa [hpd] using hfit.mono g3.le
    | true =>
      simp only [if_true]
      refine el d hdm hpd cenv h₃ V3 hsc F3.ok F3.sub { s with heap := h₃, toks := tk₃ } _ _ (Ext.refl _) fun y h₄ tk₄ V4 g4 py => ?_
      have F4 := F3.grow g4
      have hD4 := g4.ext D _ hD3
      have hDV4 : V4 D = none := by
        cases q : V4 D with
        | none => rfl
        | some o => rcases g4.new D o q with q | q
                    · rw [hDV3] at q; cases q
                    · rw [hD3] at q; cases q
      have hst₄ : St (i + 1) h₄ := IF.W.frame _ _ _ hst₃ fun a _ o e => g4.ext a o e
      have hwr4 : ∀ a ∈ wr, V4 a = none := fun a ha => by
        cases q : V4 a with
        | none => rfl
        | some o => rcases g4.new a o q with q | q
                    · rw [hwr3 a ha] at q; cases q
                    · obtain ⟨o', q', _⟩ := alive _ _ hst₃ a ha
                      rw [q] at q'; cases q'
      have hnew4 : ∀ a o, V4 a = some o → V a = some o ∨ b₀.get? a = none := fun a o e => (g4.new a o e).elim (hnew3 a o) fun q => .inr (none_of_ext F3.base q)
      have hys : ys.length ≤ sizeLine := by
        have e1 := hfit.length
        have e2 : ((ds.take i).filter p).length ≤ (ds.take i).length := List.length_filter_le _ _
        have e3 : (ds.take i).length ≤ ds.length := by rw [List.length_take]; omega
        rw [List.length_map] at e1
        rw [sizeLine_eq]; omega
      refine list_append_pl (s := { s with heap := h₄, toks := tk₄ }) hD4 (fun h₅ m' hD5 hs₅ => ?_) hys
      have hk5 : ∀ a o, ¬ a = D → h₄.get? a = some o → h₅.get? a = some o := fun a o q e => (hs₅.2 a q).trans e
      refine ⟨ds.length + 1 - (i + 1), by omega, i + 1, h₅, tk₄, V4, ys ++ [y], m', rfl, rfl, hlt, ?_, ?_, hD5, hDV4, hwr4, (hLi.trans g3.le).trans g4.le, hnew4, ?_⟩
      · exact (F4.keep (X := fun a => a = D) hk5 (fun a q => q ▸ hDb) (fun a q => q ▸ hDV4) fun a q => q ▸ ⟨_, hD4, pl_lobj _ _⟩).weak weak
      · exact fp_keep IF hst₄ (F4.sub.le ((hL.trans hLi).trans (g3.le.trans g4.le))) D (by
          cases q : V₀ D with
          | none => rfl
          | some o => rw [hL.trans hLi D o q] at hDVi; cases hDVi) ⟨_, hD4, rfl⟩ fun a o q e _ => hk5 a o q e
      · rw [htake, List.filter_append, List.map_append]
        refine (hfit.mono (g3.le.trans g4.le)).append ?_
        simp only [List.filter_cons, hpd, if_true, List.filter_nil, List.map_cons, List.map_nil]
        exact .cons py .nil
  · have hin : i = ds.length := by omega
    subst hin
    refine IF.W.done _ _ _ (hlen.symm ▸ sti) fun h₁ tk₁ hk₁ => ?_
    have F1 : Frame K ow b₀ h₁ Vi cenv Γ := Fi.keep (X := fun a => a ∈ wr) hk₁ hb₀wr hwri (alive _ H sti)
    rw [List.take_length] at hfit
    exact hRR h₁ tk₁ Vi ys m F1 (hk₁ D _ hDwr hDi) hDVi hLi hnew hfit
end
end Mine
end
section
open PySem PySem.W PyProof.Rows
set_option Elab.async false
set_option linter.all false
namespace Mine
section
variable {prog : Program} {w : World} {A : Around} {K : Frag} {ow : Str → Prop} {b₀ h h' b : Heap} {V V' : LG} {env : Env} {sc : Scope} {Γ : Ctx'} {l r e : Expr} {pos : Pos}

/-- an expression that is iterated -/
noncomputable def Src (prog : Program) (w : World) (K : Frag) (A : Around) (sc : Scope) (Γ : Ctx') (e : Expr) (Qs : List Sp) : Prop :=
  ∀ env b V, env.scope = sc → EnvOk K b V env Γ → EvT prog w A b V (eval e env) fun V' v => Itr prog w A V' v Qs
theorem src_list {Qs : List Sp} (hh : A.handled = none) (h : Et prog w K A sc Γ e (L Qs)) : Src prog w K A sc Γ e Qs := fun env b V hsc F => (h env b V hsc F).mono fun _ _ _ p => itr_list hh p
theorem src_range {n : Int} (hh : A.handled = none) (h : Et prog w K A sc Γ e (Rg n)) (h0 : 0 ≤ n) (h1 : n < 2 ^ 62) : Src prog w K A sc Γ e ((List.range n.toNat).map fun (i : Nat) => I i) :=
  fun env b V hsc F => (h env b V hsc F).mono fun _ _ _ p => itr_range hh p h0 h1

theorem comp_core {α : Type} {x : Str} {px : Pos} {elt iter : Expr} {ifs : List Expr} {scope sc' : Scope} {ds : List α} {Qf R : α → Sp} {p : α → Bool} {RR : Value → Addr → Result → Shared → Prop} {s : Shared} {E : Value → Shared → Prop}
    (hsc : env.scope = sc) (F : EnvOk K b V env Γ) (hs : Sub V b) (hb : Ext b s.heap)
    (src : Src prog w K A sc Γ iter (ds.map Qf)) (ok : compOk scope sc = true) (hx : scope.names.lookup x = some .local ∨ scope.names.lookup x = some .cell) (hsc' : relS scope sc = sc')
    (ts : ∀ d ∈ ds, TsT prog w K A sc' (upd (cutΓ scope Γ) x (Qf d)) ifs (p d)) (el : ∀ d ∈ ds, p d = true → Et prog w K A sc' (upd (cutΓ scope Γ) x (Qf d)) elt (R d)) (hz : ds.length ≤ 1000000)
    (hRR : ∀ D C h' tk V', Grow V s.heap V' h' → (L ((ds.filter p).map R)).p V' (.ref D) → (∃ m, h'.Ns C m) → s.heap.get? C = none → RR (.ref D) C (.ok .next) { s with heap := h', toks := tk }) :
    wpAny (model prog w) A (eval iter env) (fun x₁ s₁ => wpAny (model prog w) A (pyIter x₁) (fun it s₂ => wpAny (model prog w) A (newList []) (fun acc s₃ =>
      wpAny (model prog w) A (newFunctionEnv scope env.globals (clo env.cells scope.names []) [] env.qual none .none (some env)) (fun cenv s₄ =>
        codeAny (model prog w) A (.compStart (.ListComp elt [⟨.Name x px, iter, ifs, 0⟩] scope pos) 0 it acc { cenv with scope := relabel scope env }) (RR acc cenv.locals) s₄) E s₃) E s₂) E s₁) E s := by
  refine src env b V hsc F hs s _ E hb fun xv h₁ tk₁ V₁ g₁ hitr => ?_
  refine hitr { s with heap := h₁, toks := tk₁ } _ E g₁.sub fun it fp wr P St h₂ tk₂ IF => ?_
  have sub₂ : Sub V₁ h₂ := g₁.sub.ext IF.ext
  refine wpAny_newObj_type (T := "list") (wpAny_newCompEnv ?_) (by show ([] : List Value).toArray.size ≤ sizeLine; rw [sizeLine_eq]; decide)
  have F1 : EnvOk K h₁ V₁ env Γ := F.ext (hb.trans g₁.ext) g₁.le
  have F2 : EnvOk K h₂ V₁ env Γ := F1.ext IF.ext (Le.refl _)
  -- the list
  generalize hH3 : h₂.push { cls := .type "list", dict := none, data := .seq ([] : List Value).toArray } = H3
  have ext3 : Ext h₂ H3 := hH3 ▸ Ext.push _ _
  have hD3 : H3.get? h₂.objs.size = some (lobj [] 0) := hH3 ▸ Heap.get?_push_size _ rfl
  have F3 : EnvOk K H3 V₁ env Γ := F2.ext ext3 (Le.refl _)
  have base3 : Ext s.heap H3 := g₁.ext.trans (IF.ext.trans ext3)
  have FR := Frame.comp (qual := env.qual) hsc F3 (sub₂.ext ext3) ok s.heap base3 (F.wd.ext hb)
  have ext4 : Ext H3 (pushCells (H3.push { cls := .type "dict", data := .dict #[] }) scope.names) := fun a o e => pushCells_keeps _ _ a o (Heap.get?_push_of_some _ e)
  generalize hcenv : ({ scope := relabel scope env, locals := H3.objs.size, globals := env.globals, cells := cellsFrom (H3.objs.size + 1) scope.names [] ++ clo env.cells scope.names [], qual := env.qual, func := none, code := env.code, frame := env.frame, builtins := env.builtins } : Env) = cenv at FR ⊢
  have hcs : cenv.scope = sc' := by subst hcenv; rw [← hsc']; exact relabel_eq scope env sc hsc
  have hcl : cenv.locals = H3.objs.size := by subst hcenv; rfl
  have hknd : ∀ y, cenv.kindOf y = (scope.names.lookup y).map (relK sc y) := fun y => by
    unfold Env.kindOf; rw [hcs, ← hsc']; exact lookup_relS scope sc y
  have hnone : ∀ a, h₂.objs.size ≤ a → s.heap.get? a = none := fun a ha => by
    cases e : s.heap.get? a with
    | none => rfl
    | some o => exact absurd (Heap.lt_size (IF.ext a o (g₁.ext a o e))) (Nat.not_lt.mpr ha)
  have hsz3 : h₂.objs.size ≤ H3.objs.size := by rw [← hH3, Heap.size_push]; exact Nat.le_succ _
  have hΓ : cutΓ scope Γ x = none := by unfold cutΓ; rcases hx with q | q <;> rw [q]
  have hxk : cenv.kindOf x = some .local ∨ (cenv.kindOf x = some .cell ∧ scope.names.lookup x = some .cell) := by
    rw [hknd]
    rcases hx with q | q
    · left; rw [q]; rfl
    · right; rw [q]; exact ⟨rfl, rfl⟩
  have hst0 : St 0 (pushCells (H3.push { cls := .type "dict", data := .dict #[] }) scope.names) := IF.W.frame _ _ _ IF.st fun a _ o e => ext4 a o (ext3 a o e)
  have hDV : V₁ h₂.objs.size = none := by
    cases q : V₁ h₂.objs.size with
    | none => rfl
    | some o => exact absurd (Heap.lt_size (sub₂ _ o q).1) (Nat.lt_irrefl _)
  have loop : codeAny (model prog w) A (.compLoop (.ListComp elt [⟨.Name x px, iter, ifs, 0⟩] scope pos) 0 (.ref it) (.ref h₂.objs.size) cenv) (RR (.ref h₂.objs.size) H3.objs.size)
      { s with heap := pushCells (H3.push { cls := .type "dict", data := .dict #[] }) scope.names, toks := tk₂ } := by
    refine compLoop_ok (s := { s with heap := pushCells (H3.push { cls := .type "dict", data := .dict #[] }) scope.names, toks := tk₂ }) (b₀ := s.heap) (ow := fun y => scope.names.lookup y = some .cell) (Γ := cutΓ scope Γ)
      IF g₁.sub hst0 FR (Le.refl _) (fun a q => none_of_ext g₁.ext q) (fun a ha => g₁.sub.fresh (IF.wr a ha)) (ext4 _ _ hD3) hDV (hnone _ (Nat.le_refl _)) hcs hxk hΓ ts el hz ?_
    intro h' tk V' ys n FF hD' hDV' hL hnew hfit
    refine hRR _ _ h' tk (put V' h₂.objs.size (lobj ys n)) ⟨FF.base, g₁.le.trans (hL.trans (.put hDV')), FF.sub.put hD' (pl_lobj _ _), fun a o q => ?_⟩ ⟨_, _, _, rfl, put_self .., hfit.mono (.put hDV')⟩ (hcl ▸ FF.ns) (hnone _ hsz3)
    unfold put at q
    split at q
    · rename_i q2; subst q2; exact .inr (hnone _ (Nat.le_refl _))
    · rcases hnew a o q with q | q
      · exact (g₁.new a o q)
      · exact .inr q
  exact codeAny_compStart_list loop (IF.W.self 0 _ _ _ hst0 loop)

theorem compOk_names {scope : Scope} (ok : compOk scope sc = true) : ∀ y ∈ scope.names, y.2 = .local → scope.names.lookup y.1 = some .local := by
  unfold compOk at ok
  rw [Bool.and_eq_true, Bool.and_eq_true] at ok
  intro y hy hl
  have := List.all_eq_true.mp ok.1.2 y hy
  rw [hl] at this; simpa using this
theorem compOk_kind {scope : Scope} (ok : compOk scope sc = true) : scope.kind = .function := by
  unfold compOk at ok
  rw [Bool.and_eq_true, Bool.and_eq_true] at ok
  simpa using ok.1.1
theorem compOk_clo {scope : Scope} (ok : compOk scope sc = true) (hsc : env.scope = sc) (F : EnvOk K b V env Γ) : closureFor scope env = pure (clo env.cells scope.names []) := by
  refine closureFor_clo fun p hp hf => ?_
  unfold compOk at ok
  rw [Bool.and_eq_true, Bool.and_eq_true] at ok
  have := List.all_eq_true.mp ok.2 p hp
  rw [hf] at this
  simp only [bne_self_eq_false, Bool.false_or, Bool.or_eq_true, Bool.and_eq_true, beq_iff_eq, bne_iff_ne, ne_eq] at this
  obtain ⟨c, v, q, _⟩ := F.cells p.1 (by unfold Env.kindOf; rw [hsc]; exact this.imp id (·.1))
  exact ⟨c, q⟩

/-- a list comprehension of one clause over a name -/
theorem et_comp {α : Type} {x : Str} {px : Pos} {elt iter : Expr} {ifs : List Expr} {scope : Scope} (sc' : Scope) {ds : List α} {Qf R : α → Sp} {p : α → Bool}
    (src : Src prog w K A sc Γ iter (ds.map Qf)) (hz : ds.length ≤ 1000000)
    (ts : ∀ d ∈ ds, TsT prog w K A sc' (upd (cutΓ scope Γ) x (Qf d)) ifs (p d)) (el : ∀ d ∈ ds, p d = true → Et prog w K A sc' (upd (cutΓ scope Γ) x (Qf d)) elt (R d))
    (ok : compOk scope sc = true := by decide +kernel) (hx : scope.names.lookup x = some .local ∨ scope.names.lookup x = some .cell := by decide +kernel) (hsc' : relS scope sc = sc' := by rfl)
    (hf : ∀ env x, foldedSetIterable iter env x = pure x := by intro _ _; rfl) :
    Et prog w K A sc Γ (.ListComp elt [⟨.Name x px, iter, ifs, 0⟩] scope pos) (L ((ds.filter p).map R)) := by
  intro env b V hsc F hs s Q E hb k
  rw [eval_ListComp]
  refine wpAny_comprehension_free (use := none) rfl (hf env) (compOk_clo ok hsc F) (compOk_kind ok) (compOk_names ok) ?_
  refine comp_core (s := s) (Γ := Γ) hsc F hs hb src ok hx hsc' ts el hz (RR := fun acc C => compPost (model prog w) A E none Q acc C) ?_
  intro D C h' tk V' g pD hC hCn
  obtain ⟨m, hn⟩ := hC
  refine ⟨m, hn, fun h'' hs'' => k _ h'' tk V' ⟨fun a o e => ?_, g.le, fun a o q => ?_, g.new⟩ pD⟩
  · exact (hs''.2 a (fun q => by rw [q, hCn] at e; cases e)).trans (g.ext a o e)
  · obtain ⟨q1, q2⟩ := g.sub a o q
    refine ⟨(hs''.2 a fun q3 => ?_).trans q1, q2⟩
    obtain ⟨o', es, ep, ho', hd', _⟩ := hn
    rw [q3, ho'] at q1; cases q1
    exact q2.1 es ep hd'
end
end Mine
end
section
open PySem PySem.W PyProof.Rows
set_option Elab.async false
set_option linter.all false
namespace Mine

/-! ## statements: assertions and triples -/
noncomputable abbrev As := LG → Heap → Prop
noncomputable abbrev OwnT := Option (Addr × List Sp)
noncomputable def OwnAt (h₀ : Heap) (V : LG) (h : Heap) : OwnT → Prop
  | none => True
  | some (a, Ps) => ∃ vs n, h.get? a = some (lobj vs n) ∧ V a = none ∧ h₀.get? a = none ∧ Fit V Ps vs

structure At (K : Frag) (ow : Str → Prop) (h₀ : Heap) (V₀ : LG) (env : Env) (Γ : Ctx') (O : OwnT) (V : LG) (h : Heap) : Prop where
  fr : Frame K ow h₀ h V env Γ
  le : Le V₀ V
  new : ∀ a o, V a = some o → V₀ a = some o ∨ h₀.get? a = none
  own : OwnAt h₀ V h O

/-- plain objects that are no lists stay -/
noncomputable def Kx (h h' : Heap) : Prop := ∀ a o, h.get? a = some o → Pl o → o.cls ≠ .type "list" → h'.get? a = some o
theorem Kx.refl (h : Heap) : Kx h h := fun _ _ e _ _ => e
theorem Kx.trans {h h' h'' : Heap} (x : Kx h h') (y : Kx h' h'') : Kx h h'' := fun a o e p q => y a o (x a o e p q) p q
theorem Kx.of_ext {h h' : Heap} (x : Ext h h') : Kx h h' := fun a o e _ _ => x a o e
theorem Kx.of_kp {h h' : Heap} (x : Kp h h') : Kx h h' := fun a o e p _ => x a o e p.1 p.2

/-- from one state of a frame to a later one -/
structure Stp (V : LG) (h : Heap) (V' : LG) (h' : Heap) : Prop where
  kx : Kx h h'
  le : Le V V'
  nw : ∀ a o, V' a = some o → V a = some o ∨ o.cls = .type "list" ∨ ∀ o', h.get? a = some o' → Pl o' → o'.cls = .type "list"
theorem Stp.refl (V : LG) (h : Heap) : Stp V h V h := ⟨Kx.refl _, Le.refl _, fun _ _ e => .inl e⟩
theorem Stp.trans {V V' V'' : LG} {h h' h'' : Heap} (x : Stp V h V' h') (y : Stp V' h' V'' h'') : Stp V h V'' h'' :=
  ⟨x.kx.trans y.kx, x.le.trans y.le, fun a o e => by
    rcases y.nw a o e with q | q | q
    · exact x.nw a o q
    · exact .inr (.inl q)
    · exact .inr (.inr fun o' e' p => Classical.byContradiction fun hc => hc (q o' (x.kx a o' e' p hc) p))⟩
theorem Stp.of_grow {V V' : LG} {h h' : Heap} (g : Grow V h V' h') : Stp V h V' h' :=
  ⟨Kx.of_ext g.ext, g.le, fun a o e => (g.new a o e).imp id fun q => .inr fun o' e' => by rw [q] at e'; cases e'⟩
theorem Stp.of_kp {V : LG} {h h' : Heap} (k : Kp h h') : Stp V h V h' := ⟨Kx.of_kp k, Le.refl _, fun _ _ e => .inl e⟩
theorem Stp.of_kx {V : LG} {h h' : Heap} (k : Kx h h') : Stp V h V h' := ⟨k, Le.refl _, fun _ _ e => .inl e⟩
theorem Stp.of_put {V : LG} {h : Heap} {a : Addr} {o : Obj} (hn : V a = none) (hc : o.cls = .type "list") : Stp V h (put V a o) h :=
  ⟨Kx.refl _, .put hn, fun b o' e => by
    unfold put at e; split at e
    · cases e; exact .inr (.inl hc)
    · exact .inl e⟩

section
variable (prog : Program) (w : World)
noncomputable def Tri (A : Around) (P : As) (t : Sem Flow) (N : As) (R : Value → As) : Prop :=
  ∀ (s : Shared) (V : LG) (Q : Flow → Shared → Prop) (E : Value → Shared → Prop), P V s.heap →
    (∀ h tk V', Stp V s.heap V' h → N V' h → Q .next { s with heap := h, toks := tk }) →
    (∀ v h tk V', Stp V s.heap V' h → R v V' h → Q (.ret v) { s with heap := h, toks := tk }) → wpAny (model prog w) A t Q E s
/-- a test in an assertion -/
noncomputable def TtA (A : Around) (env : Env) (P : As) (e : Expr) (t : Bool) : Prop := ∀ b V, P V b → EvT prog w A b V (isTrue e env (eval e env)) fun _ r => r = t
/-- what the function returns -/
noncomputable def Rt (h₀ : Heap) (V₀ : LG) (P : Sp) : Value → As := fun v V h => Ext h₀ h ∧ Le V₀ V ∧ (∀ a o, V a = some o → V₀ a = some o ∨ h₀.get? a = none) ∧ Sub V h ∧ P.p V v
end

section
variable {prog : Program} {w : World} {A : Around} {K : Frag} {ow : Str → Prop} {h₀ h h' b : Heap} {V₀ V V' : LG} {env : Env} {sc : Scope} {Γ Γ' : Ctx'} {O : OwnT} {l r e : Expr} {pos px : Pos} {x : Str} {P : Sp} {R : Value → As} {N N' P' : As}

theorem OwnAt.grow (x : OwnAt h₀ V h O) (g : Grow V h V' h') : OwnAt h₀ V' h' O := by
  cases O with
  | none => trivial
  | some p =>
    obtain ⟨a, Ps⟩ := p
    obtain ⟨vs, n, q1, q2, q3, q4⟩ := x
    refine ⟨vs, n, g.ext a _ q1, ?_, q3, q4.mono g.le⟩
    cases q : V' a with
    | none => rfl
    | some o => rcases g.new a o q with q | q
                · rw [q2] at q; cases q
                · rw [q1] at q; cases q
theorem OwnAt.kp (x : OwnAt h₀ V h O) (k : Kp h h') : OwnAt h₀ V h' O := by
  cases O with
  | none => trivial
  | some p =>
    obtain ⟨a, Ps⟩ := p
    obtain ⟨vs, n, q1, q2, q3, q4⟩ := x
    exact ⟨vs, n, k a _ q1 (pl_lobj _ _).1 (pl_lobj _ _).2, q2, q3, q4⟩
theorem At.grow (x : At K ow h₀ V₀ env Γ O V h) (g : Grow V h V' h') : At K ow h₀ V₀ env Γ O V' h' :=
  ⟨x.fr.grow g, x.le.trans g.le, fun a o e => (g.new a o e).elim (x.new a o) fun q => .inr (none_of_ext x.fr.base q), x.own.grow g⟩
theorem At.weak (x : At K ow h₀ V₀ env Γ' O V h) (e : ∀ y P, Γ y = some P → Γ' y = some P) : At K ow h₀ V₀ env Γ O V h := ⟨x.fr.weak e, x.le, x.new, x.own⟩
theorem At.drop (x : At K ow h₀ V₀ env Γ O V h) : At K ow h₀ V₀ env Γ none V h := ⟨x.fr, x.le, x.new, trivial⟩

theorem tri_conseq (hp : ∀ V h, P' V h → ∃ V', Stp V h V' h ∧ N' V' h) {t : Sem Flow} (h : Tri prog w A N' t N R) : Tri prog w A P' t N R := by
  intro s V Q E hP kN kR
  obtain ⟨V', l, q⟩ := hp V _ hP
  exact h s V' Q E q (fun h tk V'' st n => kN h tk V'' (l.trans st) n) fun v h tk V'' st n => kR v h tk V'' (l.trans st) n
theorem tri_pre (hp : ∀ V h, P' V h → N' V h) {t : Sem Flow} (h : Tri prog w A N' t N R) : Tri prog w A P' t N R := tri_conseq (fun V h q => ⟨V, .refl _ _, hp V h q⟩) h
theorem tri_post (hp : ∀ V h, N' V h → N V h) {t : Sem Flow} (h : Tri prog w A P' t N' R) : Tri prog w A P' t N R :=
  fun s V Q E hP kN kR => h s V Q E hP (fun h tk V' st n => kN h tk V' st (hp _ _ n)) kR
theorem tri_ex {α : Type} {Pf : α → As} {t : Sem Flow} (h : ∀ a, Tri prog w A (Pf a) t N R) : Tri prog w A (fun V h => ∃ a, Pf a V h) t N R := by
  intro s V Q E ⟨a, hP⟩ kN kR
  exact h a s V Q E hP kN kR

theorem tri_nil : Tri prog w A P' (execs [] env) P' R := fun s V Q E hP kN kR => wpAny_execs_nil (kN s.heap s.toks V (.refl _ _) hP)
theorem tri_cons {st : Stmt} {rest : List Stmt} (h1 : Tri prog w A P' (exec st env) N R) (h2 : Tri prog w A N (execs rest env) N' R) : Tri prog w A P' (execs (st :: rest) env) N' R := by
  intro s V Q E hP kN kR
  refine wpAny_execs_cons (h1 s V _ E hP (fun h tk V' st n => ?_) fun v h tk V' st r => kR v h tk V' st r)
  exact h2 { s with heap := h, toks := tk } V' Q E n (fun h2 tk2 V2 st2 n2 => kN h2 tk2 V2 (st.trans st2) n2) fun v h2 tk2 V2 st2 r2 => kR v h2 tk2 V2 (st.trans st2) r2

theorem tta (hsc : env.scope = sc) {t : Bool} (h : Tt prog w K A sc Γ e t) : TtA prog w A env (At K ow h₀ V₀ env Γ O) e t := fun b V x => h env b V hsc x.fr.ok
theorem tta_ex {α : Type} {Pf : α → As} {t : Bool} (h : ∀ a, TtA prog w A env (Pf a) e t) : TtA prog w A env (fun V h => ∃ a, Pf a V h) e t := fun b V ⟨a, x⟩ => h a b V x

/-- a value is evaluated, then the rest goes on from what it has made -/
theorem tri_assign (hsc : env.scope = sc) (he : Et prog w K A sc Γ e P) (hx : sc.names.lookup x = some .local ∨ (sc.names.lookup x = some .cell ∧ ow x))
    (hsw : ∀ env, env.scope = sc → swapsWith e (some (.Name x px)) pos.line env = pure false) :
    Tri prog w A (At K ow h₀ V₀ env Γ O) (exec (.Assign [.Name x px] e pos) env) (At K ow h₀ V₀ env (upd Γ x P) O) R := by
  intro s V Q E hP kN kR
  refine wpAny_Assign_Name ?_ (hsw env hsc)
  refine he env s.heap V hsc hP.fr.ok hP.fr.sub s _ E (Ext.refl _) fun v h₁ tk₁ V₁ g₁ p₁ => ?_
  have A1 := hP.grow g₁
  refine A1.fr.store (s := { s with heap := h₁, toks := tk₁ }) (by unfold Env.kindOf; rw [hsc]; exact hx) p₁ fun h₂ tk₂ F2 kp => ?_
  exact kN h₂ tk₂ V₁ ((Stp.of_grow g₁).trans (.of_kp kp)) ⟨F2, A1.le, A1.new, A1.own.kp kp⟩

theorem tri_return (hsc : env.scope = sc) (he : Et prog w K A sc Γ e P) : Tri prog w A (At K ow h₀ V₀ env Γ O) (exec (.Return (some e) pos) env) N (Rt h₀ V₀ P) := by
  intro s V Q E hP kN kR
  refine wpAny_Return_some (he env s.heap V hsc hP.fr.ok hP.fr.sub s _ E (Ext.refl _) fun v h₁ tk₁ V₁ g₁ p₁ => ?_)
  have A1 := hP.grow g₁
  exact kR v h₁ tk₁ V₁ (.of_grow g₁) ⟨A1.fr.base, A1.le, A1.new, A1.fr.sub, p₁⟩

structure OkAs (P : As) : Prop where
  sub : ∀ V h, P V h → Sub V h
  grow : ∀ V V' h h', P V h → Grow V h V' h' → P V' h'
theorem ok_at : OkAs (At K ow h₀ V₀ env Γ O) := ⟨fun _ _ x => x.fr.sub, fun _ _ _ _ x g => x.grow g⟩
theorem ok_ex {α : Type} {Pf : α → As} (hh : ∀ a, OkAs (Pf a)) : OkAs (fun V h => ∃ a, Pf a V h) := ⟨fun V h ⟨a, x⟩ => (hh a).sub V h x, fun _ _ _ _ ⟨a, x⟩ g => ⟨a, (hh a).grow _ _ _ _ x g⟩⟩

theorem tri_if {body orelse : List Stmt} {t : Bool} (ok : OkAs P') (ht : TtA prog w A env P' e t)
    (h1 : t = true → Tri prog w A P' (execs body env) N R) (h2 : t = false → Tri prog w A P' (execs orelse env) N R) : Tri prog w A P' (exec (.If e body orelse pos) env) N R := by
  intro s V Q E hp kN kR
  refine wpAny_If ?_
  refine ht s.heap V hp (ok.sub _ _ hp) s _ E (Ext.refl _) fun b h₁ tk₁ V₁ g₁ q => ?_
  subst q
  have hp1 := ok.grow _ _ _ _ hp g₁
  cases b with
  | true => exact h1 rfl { s with heap := h₁, toks := tk₁ } V₁ Q E hp1 (fun h tk V' st n => kN h tk V' ((Stp.of_grow g₁).trans st) n) fun v h tk V' st n => kR v h tk V' ((Stp.of_grow g₁).trans st) n
  | false => exact h2 rfl { s with heap := h₁, toks := tk₁ } V₁ Q E hp1 (fun h tk V' st n => kN h tk V' ((Stp.of_grow g₁).trans st) n) fun v h tk V' st n => kR v h tk V' ((Stp.of_grow g₁).trans st) n

/-! ### the own list -/
theorem At.freeze {a : Addr} {Ps : List Sp} {x : Str} (q : At K ow h₀ V₀ env Γ (some (a, Ps)) V h) (hx : Γ x = some (Vl (.ref a))) :
    ∃ V', Stp V h V' h ∧ At K ow h₀ V₀ env (upd Γ x (L Ps)) none V' h := by
  obtain ⟨vs, n, q1, q2, q3, q4⟩ := q.own
  have le : Le V (put V a (lobj vs n)) := .put q2
  refine ⟨put V a (lobj vs n), .of_put q2 rfl, ⟨⟨q.fr.ok.wd, q.fr.ok.kind, q.fr.ok.gl, q.fr.ok.bu, q.fr.ok.cells, fun y P hy => ?_⟩, q.fr.base, q.fr.wd, q.fr.sub.put q1 (pl_lobj _ _), q.fr.fresh, q.fr.ns, q.fr.own⟩, q.le.trans le, fun b o e => ?_, trivial⟩
  · unfold upd at hy
    by_cases hyx : y = x
    · rw [if_pos hyx] at hy; cases hy
      obtain ⟨v, hb, pv⟩ := q.fr.ok.vars x _ hx
      have pv' : v = .ref a := pv
      subst hyx pv'
      exact ⟨_, hb, a, vs, n, rfl, put_self .., q4.mono le⟩
    · rw [if_neg hyx] at hy
      obtain ⟨v, hb, pv⟩ := q.fr.ok.vars y P hy
      exact ⟨v, hb, P.mono le pv⟩
  · unfold put at e; split at e
    · rename_i q5; subst q5; exact .inr q3
    · exact q.new b o e

theorem tri_freeze {a : Addr} {Ps : List Sp} {t : Sem Flow} (hx : Γ x = some (Vl (.ref a))) (h : Tri prog w A (At K ow h₀ V₀ env (upd Γ x (L Ps)) none) t N R) :
    Tri prog w A (At K ow h₀ V₀ env Γ (some (a, Ps))) t N R := tri_conseq (fun _ _ q => q.freeze hx) h

/-- x = [] -/
theorem tri_newown {px' : Pos} (hsc : env.scope = sc) (hx : sc.names.lookup x = some .local ∨ (sc.names.lookup x = some .cell ∧ ow x)) :
    Tri prog w A (At K ow h₀ V₀ env Γ O) (exec (.Assign [.Name x px] (.List [] px') pos) env) (fun V h => ∃ a, At K ow h₀ V₀ env (upd Γ x (Vl (.ref a))) (some (a, [])) V h) R := by
  intro s V Q E hP kN kR
  refine wpAny_Assign_Name ?_ (by rfl)
  rw [arm_eval_List]
  refine wpAny_bind (wpAny_standAt (wpAny_bind ?_))
  show wpAny (model prog w) A (spliced []) _ E s
  refine Calls.spliced_nil ?_
  refine wpAny_newObj_type (T := "list") ?_ (by show ([] : List Value).toArray.size ≤ sizeLine; rw [sizeLine_eq]; decide)
  generalize hH3 : s.heap.push { cls := .type "list", dict := none, data := .seq ([] : List Value).toArray } = H3
  have ext3 : Ext s.heap H3 := hH3 ▸ Ext.push _ _
  have hD3 : H3.get? s.heap.objs.size = some (lobj [] 0) := hH3 ▸ Heap.get?_push_size _ rfl
  have A1 := hP.grow (.of_ext hP.fr.sub ext3)
  refine A1.fr.store (s := { s with heap := H3 }) (P := Vl (.ref s.heap.objs.size)) (by unfold Env.kindOf; rw [hsc]; exact hx) rfl fun h₂ tk₂ F2 kp => ?_
  refine kN h₂ tk₂ V ((Stp.of_kx (Kx.of_ext ext3)).trans (.of_kp kp)) ⟨_, F2, A1.le, A1.new, [], 0, kp _ _ hD3 (pl_lobj _ _).1 (pl_lobj _ _).2, hP.fr.sub.fresh (fresh_size _), none_of_ext hP.fr.base (fresh_size _), .nil⟩

/-- x.append(e), x the own list -/
theorem tri_append {a : Addr} {Ps : List Sp} {elt : Expr} {apos cpos : Pos} (hsc : env.scope = sc) (hx : Γ x = some (Vl (.ref a))) (he : Et prog w K A sc Γ elt P)
    (hse : ∀ env, starEach [elt] env = [(false, eval elt env)]) (hz : Ps.length ≤ 1000000) (hline : (apos.endLine == cpos.line) = true) (hd : (x == ("__debug__" : Str)) = false := by decide +kernel) :
    Tri prog w A (At K ow h₀ V₀ env Γ (some (a, Ps))) (exec (.Expr (.Call (.Attribute (.Name x px) "append" apos) [elt] [] cpos) pos) env) (At K ow h₀ V₀ env Γ (some (a, Ps ++ [P]))) R := by
  intro s V Q E hP kN kR
  refine wpAny_Expr ?_ (by unfold interactive; rw [hP.fr.ok.kind]; rfl) (by rfl)
  have hn : Et prog w K A sc Γ (.Name x px) (Vl (.ref a)) := et_name hx hd
  refine wpAny_Call_append (by rfl) (by rw [hse]; rfl) hline (by rw [hse]; rfl) ?_
  refine hn env s.heap V hsc hP.fr.ok hP.fr.sub s _ E (Ext.refl _) fun v h₁ tk₁ V₁ g₁ p₁ => ?_
  have p₁' : v = .ref a := p₁
  subst p₁'
  have A1 := hP.grow g₁
  obtain ⟨vs1, n1, q1, _, _, _⟩ := A1.own
  refine ⟨a, vs1.toArray, rfl, ⟨_, n1, q1, rfl, rfl, rfl⟩, ?_⟩
  refine he env h₁ V₁ hsc A1.fr.ok A1.fr.sub _ _ E (Ext.refl _) fun y h₂ tk₂ V₂ g₂ p₂ => ?_
  have A2 := A1.grow g₂
  obtain ⟨vs, n, q1, q2, q3, q4⟩ := A2.own
  refine list_append_pl (s := { s with heap := h₂, toks := tk₂ }) q1 (fun h₃ n' hD hs => ?_) (by rw [← q4.length, sizeLine_eq]; omega)
  have hk : ∀ b o, ¬ b = a → h₂.get? b = some o → h₃.get? b = some o := fun b o q e => (hs.2 b q).trans e
  refine kN h₃ tk₂ V₂ ((Stp.of_grow (g₁.trans g₂)).trans (.of_kx fun b o e p hl => hk b o (fun q5 => ?_) e)) ⟨?_, A2.le, A2.new, vs ++ [y], n', hD, q2, q3, q4.append (.cons p₂ .nil)⟩
  · rw [q5, q1] at e; cases e; exact hl rfl
  · exact A2.fr.keep (X := fun b => b = a) hk (fun b q => q ▸ q3) (fun b q => q ▸ q2) fun b q => q ▸ ⟨_, q1, pl_lobj _ _⟩

/-! ### loops -/
theorem At.keep {X : Addr → Prop} (q : At K ow h₀ V₀ env Γ O V h) (hk : ∀ a o, ¬ X a → h.get? a = some o → h'.get? a = some o) (h0 : ∀ a, X a → h₀.get? a = none) (hV : ∀ a, X a → V a = none)
    (hp : ∀ a, X a → ∃ o, h.get? a = some o ∧ Pl o ∧ o.cls ≠ .type "list") : At K ow h₀ V₀ env Γ O V h' := by
  refine ⟨q.fr.keep hk h0 hV fun a ha => let ⟨o, a, b, _⟩ := hp a ha; ⟨o, a, b⟩, q.le, q.new, ?_⟩
  cases O with
  | none => trivial
  | some p =>
    obtain ⟨a, Ps⟩ := p
    obtain ⟨vs, n, q1, q2, q3, q4⟩ := q.own
    refine ⟨vs, n, hk a _ (fun ha => ?_) q1, q2, q3, q4⟩
    obtain ⟨o, e, _, hc⟩ := hp a ha
    rw [q1] at e; cases e; exact hc rfl

theorem tri_for {α : Type} {iter : Expr} {body : List Stmt} {ds : List α} {Qf : α → Sp} (Gi : Nat → Ctx') (Oi : Nat → OwnT) (hsc : env.scope = sc) (src : Src prog w K A sc Γ iter (ds.map Qf))
    (hx : sc.names.lookup x = some .local ∨ (sc.names.lookup x = some .cell ∧ ow x))
    (hG0 : ∀ y P, Gi 0 y = some P → Γ y = some P) (hO0 : Oi 0 = O)
    (hb : ∀ i d, ds[i]? = some d → Tri prog w A (At K ow h₀ V₀ env (upd (Gi i) x (Qf d)) (Oi i)) (execs body env) (At K ow h₀ V₀ env (Gi (i + 1)) (Oi (i + 1))) R)
    (hf : ∀ env x, foldedSetIterable iter env x = pure x := by intro _ _; rfl) :
    Tri prog w A (At K ow h₀ V₀ env Γ O) (exec (.For (.Name x px) iter body [] pos) env) (At K ow h₀ V₀ env (Gi ds.length) (Oi ds.length)) R := by
  intro s V Q E hP kN kR
  have hlen : (ds.map Qf).length = ds.length := List.length_map ..
  refine wpAny_For ?_ (hf env)
  refine src env s.heap V hsc hP.fr.ok hP.fr.sub s _ E (Ext.refl _) fun xv h₁ tk₁ V₁ g₁ hitr => ?_
  refine hitr { s with heap := h₁, toks := tk₁ } _ E g₁.sub fun it fp wr Pw St h₂ tk₂ IF => ?_
  have A2 : At K ow h₀ V₀ env Γ O V₁ h₂ := (hP.grow g₁).grow (.of_ext g₁.sub IF.ext)
  have stp2 : Stp V s.heap V₁ h₂ := (Stp.of_grow g₁).trans (.of_kx (Kx.of_ext IF.ext))
  have wr0 : ∀ a, a ∈ wr → h₀.get? a = none := fun a ha => none_of_ext hP.fr.base (none_of_ext g₁.ext (IF.wr a ha))
  have alive : ∀ i g', St i g' → ∀ a ∈ wr, ∃ o, g'.get? a = some o ∧ Pl o ∧ o.cls ≠ .type "list" := fun i g' st a ha => by
    rcases IF.fp i g' st a (IF.W.sub a ha) with ⟨o, q⟩ | ⟨o, q, hc, hp⟩
    · have := IF.wr a ha
      rw [(g₁.sub a o q).1] at this; cases this
    · exact ⟨o, q, hp, hc⟩
  refine codeAny_forLoop (fun k s' => ∃ i H tk Vi, s' = { s with heap := H, toks := tk } ∧ k = ds.length + 1 - i ∧ i ≤ ds.length ∧ At K ow h₀ V₀ env (Gi i) (Oi i) Vi H ∧ St i H ∧ Stp V s.heap Vi H ∧ Le V₁ Vi ∧ ∀ a ∈ wr, Vi a = none) ?_ (ds.length + 1)
    ⟨0, h₂, tk₂, V₁, rfl, rfl, Nat.zero_le _, hO0 ▸ A2.weak hG0, IF.st, stp2, Le.refl _, fun a ha => g₁.sub.fresh (IF.wr a ha)⟩
  rintro k s' ⟨i, H, tk, Vi, rfl, rfl, hi, Ai, sti, stpi, lei, hwri⟩
  by_cases hlt : i < ds.length
  · refine IF.W.item i _ _ _ (hlen ▸ hlt) sti fun v h₃ tk₃ hPv hst₃ hk₃ => ?_
    obtain ⟨R0, hR0, pv⟩ := IF.vals i v (hlen ▸ hlt) hPv
    obtain ⟨d, hd, rfl⟩ : ∃ d, ds[i]? = some d ∧ Qf d = R0 := by
      rw [List.getElem?_map] at hR0
      cases q : ds[i]? with
      | none => rw [q] at hR0; cases hR0
      | some d => rw [q] at hR0; exact ⟨d, rfl, by simpa using hR0⟩
    have A3 := Ai.keep (X := fun a => a ∈ wr) hk₃ wr0 hwri (alive i H sti)
    have wrs : ∀ a, a ∈ wr → s.heap.get? a = none := fun a ha => none_of_ext g₁.ext (IF.wr a ha)
    have st3 : Stp V s.heap Vi h₃ := ⟨fun a o e p hc => hk₃ a o (fun ha => by rw [wrs a ha] at e; cases e) (stpi.kx a o e p hc), stpi.le, stpi.nw⟩
    refine wpAny_assign_Name ?_
    refine A3.fr.store (s := { s with heap := h₃, toks := tk₃ }) (by unfold Env.kindOf; rw [hsc]; exact hx) ((Qf d).mono lei pv) fun h₄ tk₄ F4 kp => ?_
    have A4 : At K ow h₀ V₀ env (upd (Gi i) x (Qf d)) (Oi i) Vi h₄ := ⟨F4, A3.le, A3.new, A3.own.kp kp⟩
    have st4 := st3.trans (.of_kp kp)
    have hst₄ : St (i + 1) h₄ := IF.W.frame _ _ _ hst₃ fun a ha o e => by
      rcases IF.fp _ _ hst₃ a ha with ⟨o', q⟩ | ⟨o', q, _, hp⟩
      · obtain ⟨q1, q2⟩ := (A3.fr.sub.le lei) a o' q
        rw [e] at q1; cases q1
        exact kp a o e q2.1 q2.2
      · rw [e] at q; cases q
        exact kp a o e hp.1 hp.2
    have next : ∀ h tk V', Stp Vi h₄ V' h → At K ow h₀ V₀ env (Gi (i + 1)) (Oi (i + 1)) V' h →
        ∃ m, m < ds.length + 1 - i ∧ ∃ i' H' tk' Vi', ({ s with heap := h, toks := tk } : Shared) = { s with heap := H', toks := tk' } ∧ m = ds.length + 1 - i' ∧ i' ≤ ds.length ∧ At K ow h₀ V₀ env (Gi i') (Oi i') Vi' H' ∧ St i' H' ∧ Stp V s.heap Vi' H' ∧ Le V₁ Vi' ∧ ∀ a ∈ wr, Vi' a = none := by
      intro h tk V' stp A5
      refine ⟨ds.length + 1 - (i + 1), by omega, i + 1, h, tk, V', rfl, rfl, hlt, A5, ?_, st4.trans stp, lei.trans stp.le, fun a ha => ?_⟩
      · refine IF.W.frame _ _ _ hst₄ fun a ha o e => ?_
        rcases IF.fp _ _ hst₄ a ha with ⟨o', q⟩ | ⟨o', q, hc, hp⟩
        · obtain ⟨q1, q2⟩ := (A4.fr.sub.le lei) a o' q
          rw [e] at q1; cases q1
          exact (A5.fr.sub a o (stp.le a o (lei a o q))).1
        · rw [e] at q; cases q
          exact stp.kx a o e hp hc
      · cases q : V' a with
        | none => rfl
        | some o =>
          obtain ⟨o', e', hp, hc⟩ := alive _ _ hst₄ a ha
          rcases stp.nw a o q with q2 | q2 | q2
          · rw [hwri a ha] at q2; cases q2
          · exfalso
            -- the iterator itself is no list
            have e2 := (A5.fr.sub a o q).1
            have e3 := stp.kx a o' e' hp hc
            rw [e3] at e2; cases e2
            exact hc q2
          · exact absurd (q2 o' e' hp) hc
    refine hb i d hd { s with heap := h₄, toks := tk₄ } Vi _ _ A4 (fun h tk V' stp A5 => next h tk V' stp A5) fun v h tk V' stp r => ?_
    exact kR v h tk V' (st4.trans stp) r
  · have hin : i = ds.length := by omega
    subst hin
    refine IF.W.done _ _ _ (hlen.symm ▸ sti) fun h₃ tk₃ hk₃ => wpAny_execs_nil ?_
    have A3 := Ai.keep (X := fun a => a ∈ wr) hk₃ wr0 hwri (alive _ H sti)
    have wrs : ∀ a, a ∈ wr → s.heap.get? a = none := fun a ha => none_of_ext g₁.ext (IF.wr a ha)
    exact kN h₃ tk₃ Vi ⟨fun a o e p hc => hk₃ a o (fun ha => by rw [wrs a ha] at e; cases e) (stpi.kx a o e p hc), stpi.le, stpi.nw⟩ A3

/-- while: so many turns as are said -/
theorem tri_while {test : Expr} {body : List Stmt} (n : Nat) (Gi : Nat → Ctx') (Oi : Nat → OwnT)
    (hG0 : ∀ y P, Gi 0 y = some P → Γ y = some P) (hO0 : Oi 0 = O)
    (ht : ∀ i, i ≤ n → TtA prog w A env (At K ow h₀ V₀ env (Gi i) (Oi i)) test (decide (i < n)))
    (hb : ∀ i, i < n → Tri prog w A (At K ow h₀ V₀ env (Gi i) (Oi i)) (execs body env) (At K ow h₀ V₀ env (Gi (i + 1)) (Oi (i + 1))) R) :
    Tri prog w A (At K ow h₀ V₀ env Γ O) (exec (.While test body [] pos) env) (At K ow h₀ V₀ env (Gi n) (Oi n)) R := by
  intro s V Q E hP kN kR
  refine wpAny_While ?_
  refine codeAny_whileLoop (fun k s' => ∃ i H tk Vi, s' = { s with heap := H, toks := tk } ∧ k = n + 1 - i ∧ i ≤ n ∧ At K ow h₀ V₀ env (Gi i) (Oi i) Vi H ∧ Stp V s.heap Vi H) ?_ (n + 1)
    ⟨0, s.heap, s.toks, V, rfl, rfl, Nat.zero_le _, hO0 ▸ hP.weak hG0, .refl _ _⟩
  rintro k s' ⟨i, H, tk, Vi, rfl, rfl, hi, Ai, stpi⟩
  refine ht i hi H Vi Ai Ai.fr.sub { s with heap := H, toks := tk } _ _ (Ext.refl _) fun b h₁ tk₁ V₁ g₁ q => ?_
  subst q
  have A1 := Ai.grow g₁
  have st1 := stpi.trans (.of_grow g₁)
  by_cases hlt : i < n
  · rw [if_pos (by simpa using hlt)]
    refine hb i hlt { s with heap := h₁, toks := tk₁ } V₁ _ _ A1 (fun h tk V' stp A5 => ?_) fun v h tk V' stp r => kR v h tk V' (st1.trans stp) r
    exact ⟨n + 1 - (i + 1), by omega, i + 1, h, tk, V', rfl, rfl, hlt, A5, st1.trans stp⟩
  · have hin : i = n := by omega
    subst hin
    rw [if_neg (by simpa using hlt)]
    exact wpAny_execs_nil (kN h₁ tk₁ V₁ st1 A1)
end
end Mine
end
section
open PySem PySem.W PyProof.Rows
set_option Elab.async false
set_option linter.all false
namespace Mine
section
variable {prog : Program} {w : World} {A : Around} {K : Frag} {ow : Str → Prop} {h₀ h h' b : Heap} {V₀ V V' : LG} {env : Env} {sc : Scope} {Γ Γ' : Ctx'} {O : OwnT} {l r e : Expr} {pos px : Pos} {x : Str} {P : Sp} {R : Value → As} {N N' P' : As}

theorem OkA.deeper {d : Nat} (h : OkA (d + 1) A) (env : Env) : OkA d (A.deeper env) :=
  ⟨h.handled, by have := h.depth; show A.depth + 1 + d ≤ 500; omega, by have := h.units; show A.units + 3 + 100 * d ≤ 5000; omega⟩
theorem OkA.room {d : Nat} (h : OkA d A) : A.depth < recursionLimit := by have := h.depth; unfold recursionLimit; omega
theorem OkA.roomU {d : Nat} (h : OkA d A) : A.units < cLine := by have := h.units; unfold cLine; omega

theorem bindL_miss (kindOf : Str → Option NameKind) : ∀ (binds : List (Str × Value)) (m : Str → Option Value) (y : Str), binds.lookup y = none → bindL kindOf binds m y = m y
  | [], m, y, _ => rfl
  | (n, u) :: r, m, y, h => by
    rw [List.lookup_cons] at h
    cases hy : y == n with
    | true => rw [hy] at h; cases h
    | false =>
      rw [hy] at h
      unfold bindL
      rw [bindL_miss kindOf r _ y h]
      have : y ≠ n := by simpa using hy
      split
      · simp [this]
      · rfl
theorem bindC_miss (kindOf : Str → Option NameKind) : ∀ (binds : List (Str × Value)) (m : Str → Option Value) (y : Str), binds.lookup y = none → bindC kindOf binds m y = m y
  | [], m, y, _ => rfl
  | (n, u) :: r, m, y, h => by
    rw [List.lookup_cons] at h
    cases hy : y == n with
    | true => rw [hy] at h; cases h
    | false =>
      rw [hy] at h
      unfold bindC
      rw [bindC_miss kindOf r _ y h]
      have : y ≠ n := by simpa using hy
      split
      · rfl
      · simp [this]
theorem bind_hit (kindOf : Str → Option NameKind) : ∀ (binds : List (Str × Value)) (m cm : Str → Option Value) (y : Str) (v : Value), (binds.map (·.1)).Nodup → binds.lookup y = some v →
    (kindOf y = some .local → bindL kindOf binds m y = some v) ∧ (kindOf y ≠ some .local → bindC kindOf binds cm y = some v)
  | [], m, cm, y, v, _, h => by cases h
  | (n, u) :: r, m, cm, y, v, hn, h => by
    rw [List.lookup_cons] at h
    rw [List.map_cons, List.nodup_cons] at hn
    cases hy : y == n with
    | true =>
      rw [hy] at h; cases h
      have e : y = n := by simpa using hy
      subst e
      have miss : r.lookup y = none := by
        cases q : r.lookup y with
        | none => rfl
        | some z => exact absurd (List.mem_map.mpr ⟨_, mem_of_lookup q, rfl⟩) hn.1
      constructor
      · intro hk; unfold bindL; rw [bindL_miss kindOf r _ y miss, if_pos hk]; simp
      · intro hk; unfold bindC; rw [bindC_miss kindOf r _ y miss, if_neg hk]; simp
    | false =>
      rw [hy] at h
      obtain ⟨h1, h2⟩ := bind_hit kindOf r (if kindOf n = some .local then fun z => if z = n then some u else m z else m) (if kindOf n = some .local then cm else fun z => if z = n then some u else cm z) y v hn.2 h
      exact ⟨h1, h2⟩

noncomputable def ctxOf (l : List (Str × Sp)) : Ctx' := fun y => l.lookup y
noncomputable def ownOf' (sc : Scope) : Str → Prop := fun y => sc.names.lookup y = some .cell

/-- static conditions of a def -/
noncomputable def defOk (sc : Scope) (xs : List Str) : Bool :=
  sc.kind == .function && !sc.isCoroutine && !sc.isGenerator && (sc.names.all fun p => p.2 != .free) && (xs.all fun x => sc.names.lookup x == some .local || sc.names.lookup x == some .cell) && decide xs.Nodup

theorem zip_lookup : ∀ (xs : List Str) (Ps : List Sp) (vs : List Value) (V : LG) (y : Str) (P : Sp), Fit V Ps vs → (xs.zip Ps).lookup y = some P → ∃ v, (xs.zip vs).lookup y = some v ∧ P.p V v
  | [], _, _, _, _, _, _, h => by cases h
  | _ :: _, [], _, _, _, _, _, h => by cases h
  | x :: xs, Q :: Ps, vs, V, y, P, hf, h => by
    cases hf with
    | cons a t =>
      rw [List.zip_cons_cons, List.lookup_cons] at h ⊢
      cases hy : y == x with
      | true => rw [hy] at h; cases h; exact ⟨_, rfl, a⟩
      | false => rw [hy] at h; exact zip_lookup xs Ps _ V y P t h

theorem con_entry {d : Nat} {a : Addr} {o : Obj} {fd : FuncData} {body : List Stmt} {xs : List Str} {Ps : List Sp} {R : Sp}
    (hK : K.lookup a = some o) (hd : o.data = .func fd) (hbody : fd.body = .stmts body) (hscp : fd.scope = sc) (hcode : codeIn K fd.code fd.qualname = true) (hclo : fd.closure = []) (hgl : fd.globals = mainGlobals) (hbu : fd.builtins = builtinsNs)
    (hst : defOk sc xs = true) (hlen : xs.length = Ps.length) (hbind : ∀ vals : List Value, vals.length = xs.length → bindArgs fd ⟨vals, []⟩ = pure (xs.zip vals))
    (hT : ∀ env h₀ V₀ A', env.scope = sc → OkA d A' → Tri prog w A' (At K (ownOf' sc) h₀ V₀ env (ctxOf (xs.zip Ps)) none) (execs body env) (fun _ _ => False) (Rt h₀ V₀ R))
    (A : Around) (b : Heap) (V : LG) (vs : List Value) (hA : OkA (d + 1) A) (hW : Wd K b) (hfit : Fit V Ps vs) : Ev prog w A b V (call (.ref a) vs) R := by
  intro hs s Q E hb k
  subst hscp
  unfold defOk at hst
  simp only [Bool.and_eq_true, Bool.not_eq_true', beq_iff_eq, decide_eq_true_eq] at hst
  obtain ⟨⟨⟨⟨⟨hk, hco⟩, hgen⟩, hfree⟩, hpar⟩, hnd⟩ := hst
  have W := hW.ext hb
  have hs' := hs.ext hb
  have hvl : vs.length = xs.length := by rw [hlen, hfit.length]
  refine wpAny_call (codeAny_call_cells (fd := fd) (body := body) (binds := xs.zip vs) hA.room (W.k a o hK) hd W.lim (codeRec_of W.k hcode) hbody (hbind vs hvl) hclo ?_ ?_ hco hgen hk)
  · refine kindsX ?_ _
    rw [List.all_eq_true]
    intro p hp
    have := List.all_eq_true.mp hpar p.1 (List.of_mem_zip (a := p.1) (b := p.2) hp).1
    exact this
  · intro s₁ X
    generalize henv : callEnvC fd s.heap.objs.size a = env at X ⊢
    have esc : env.scope = fd.scope := by subst henv; rfl
    have egl : env.globals = mainGlobals := by subst henv; exact hgl
    have ebu : env.builtins = builtinsNs := by subst henv; exact hbu
    have ecl : env.cells = cellsFrom (s.heap.objs.size + 1) fd.scope.names [] := by subst henv; rfl
    have eknd : ∀ y, env.kindOf y = fd.scope.names.lookup y := fun y => by unfold Env.kindOf; rw [esc]
    obtain ⟨hh, tk, rfl⟩ := X.toInCall.same
    have ext : Ext s.heap hh := X.toInCall.keep
    have fresh : ∀ c, s.heap.objs.size ≤ c → s.heap.get? c = none := fun c hc => by
      cases e : s.heap.get? c with
      | none => rfl
      | some o => exact absurd (Heap.lt_size e) (Nat.not_lt.mpr hc)
    have hcell : ∀ y, fd.scope.names.lookup y = some .cell → ∃ c, env.cells.lookup y = some c := fun y hy => by
      rw [ecl]; exact Option.isSome_iff_exists.mp (cellsFrom_some fd.scope.names _ [] (.inl hy))
    have FR : Frame K (ownOf' fd.scope) s.heap hh V env (ctxOf (xs.zip Ps)) := by
      refine ⟨⟨W.ext ext, esc ▸ hk, egl, ebu, fun y hy => ?_, fun y P hy => ?_⟩, ext, W, hs'.ext ext, fresh _ X.toInCall.fresh, ⟨_, X.toInCall.ns⟩, fun y hy => ?_⟩
      · rw [eknd] at hy
        rcases hy with hy | hy
        · obtain ⟨c, hc⟩ := hcell y hy
          exact ⟨c, _, hc, X.cell y c hc⟩
        · have := List.all_eq_true.mp hfree _ (mem_of_lookup hy)
          simp at this
      · obtain ⟨v, hv, pv⟩ := zip_lookup xs Ps vs V y P hfit hy
        refine ⟨v, ?_, pv⟩
        have hmem := mem_of_lookup hv
        have hnd' : ((xs.zip vs).map (·.1)).Nodup := by rw [List.map_fst_zip (by omega)]; exact hnd
        obtain ⟨b1, b2⟩ := bind_hit env.kindOf (xs.zip vs) (fun _ => none) (fun _ => none) y v hnd' hv
        have hy2 := List.all_eq_true.mp hpar y (List.of_mem_zip hmem).1
        simp only [Bool.or_eq_true, beq_iff_eq] at hy2
        rcases hy2 with q | q
        · exact .loc _ ((eknd y).trans q) X.toInCall.ns (b1 ((eknd y).trans q))
        · obtain ⟨c, hc⟩ := hcell y q
          have := X.cell y c hc
          rw [b2 (by rw [eknd, q]; decide)] at this
          exact .cel c (.inl ((eknd y).trans q)) hc this
      · obtain ⟨c, hc⟩ := hcell y hy
        refine ⟨c, _, hc, fresh c (Nat.le_trans X.toInCall.fresh (Nat.le_of_lt (X.above y c (mem_of_lookup hc)))), X.cell y c hc, fun y' hy' => name_of_addr X.apart (mem_of_lookup hy') (mem_of_lookup hc)⟩
    have A0 : At K (ownOf' fd.scope) s.heap V env (ctxOf (xs.zip Ps)) none V hh := ⟨FR, Le.refl _, fun _ _ e => .inl e, trivial⟩
    refine hT env s.heap V (A.deeper env) esc (hA.deeper env) { s with heap := hh, toks := tk } V _ _ A0 (fun _ _ _ _ h => h.elim) fun v h tk V' st r => ?_
    obtain ⟨r1, r2, r3, r4, r5⟩ := r
    exact k v h tk V' ⟨r1, r2, r4, r3⟩ r5
end
end Mine
end
section
open PySem PySem.W PyProof.Rows PySem.SeqAt
set_option Elab.async false
set_option linter.all false
namespace Mine
section
variable {prog : Program} {w : World} {A : Around} {K : Frag} {ow : Str → Prop} {h₀ h h' b : Heap} {V₀ V V' : LG} {env : Env} {sc : Scope} {Γ Γ' : Ctx'} {O : OwnT} {l r e : Expr} {pos px : Pos} {x : Str} {P : Sp} {R : Value → As} {N N' P' : As}

/-- the values of strs -/
noncomputable def eqS (x : Str) : Value → Bool
  | .str y _ => y == x
  | _ => false
theorem any_eqS {V : LG} (x : Str) : ∀ {xs : List Str} {vs : List Value}, Fit V (xs.map S) vs → vs.any (eqS x) = xs.contains x
  | [], _, .nil => rfl
  | y :: ys, _, .cons (v := v) (vs := vs) h t => by
    obtain ⟨u, rfl⟩ := h
    rw [List.any_cons, any_eqS x t, List.contains_cons]
    show ((y == x) || _) = _
    rw [Bool.beq_comm]
theorem eq_eqS {V : LG} {s : Shared} (x : Str) (t : Tok) : ∀ {xs : List Str} {vs : List Value}, Fit V (xs.map S) vs → ∀ y ∈ vs, EqAt A s y (.str x t) (eqS x y)
  | [], _, .nil, y, hy => by cases hy
  | z :: zs, _, .cons h tl, y, hy => by
    rcases List.mem_cons.mp hy with rfl | hy
    · obtain ⟨u, rfl⟩ := h
      exact EqAt.str_str z u x t
    · exact eq_eqS x t tl y hy

theorem tta_notin_own {a : Addr} {xs : List Str} {n : Str} {y : Str} {pn : Pos} (hsc : env.scope = sc) (hn : Γ n = some (Vl (.ref a))) (he : Et prog w K A sc Γ e (S y)) (hd : (n == ("__debug__" : Str)) = false := by decide +kernel) :
    TtA prog w A env (At K ow h₀ V₀ env Γ (some (a, xs.map S))) (.Compare e [.NotIn] [.Name n pn] pos) (!xs.contains y) := by
  intro b V x hs s Q E hx k
  refine wpAny_isTrue_Compare1 ?_ (by with_unfolding_all rfl)
  refine he env b V hsc x.fr.ok hs s _ E hx fun v h₁ tk₁ V₁ g₁ p₁ => ?_
  obtain ⟨t, rfl⟩ := p₁
  have F1 := x.fr.ok.ext (hx.trans g₁.ext) g₁.le
  refine et_name hn hd env h₁ V₁ hsc F1 g₁.sub { s with heap := h₁, toks := tk₁ } _ E (Ext.refl _) fun v h₂ tk₂ V₂ g₂ p₂ => ?_
  have p₂' : v = .ref a := p₂
  subst p₂'
  obtain ⟨vs, m, q1, q2, q3, q4⟩ := x.own
  have hl : h₂.IsList a vs.toArray := ⟨_, g₂.ext a _ (g₁.ext a _ (hx a _ q1)), rfl, m, rfl⟩
  refine notIn_listAt (s := { s with heap := h₂, toks := tk₂ }) (eqS y) hl (fun z hz => eq_eqS y t q4 z (by simpa using hz)) ?_
  have : vs.toArray.any (eqS y) = xs.contains y := by rw [List.any_toArray]; exact any_eqS y q4
  rw [this]
  exact wpAny_truthy_bool (k _ h₂ tk₂ V₂ (g₁.trans g₂) rfl)

theorem tri_return_own {a : Addr} {Ps : List Sp} (hsc : env.scope = sc) (hx : Γ x = some (Vl (.ref a))) (hd : (x == ("__debug__" : Str)) = false := by decide +kernel) :
    Tri prog w A (At K ow h₀ V₀ env Γ (some (a, Ps))) (exec (.Return (some (.Name x px)) pos) env) N (Rt h₀ V₀ (L Ps)) :=
  tri_freeze hx (tri_return hsc (et_name (by unfold upd; rw [if_pos rfl]) hd))
end

noncomputable def ddStep (acc : List Str) (x : Str) : List Str := if acc.contains x then acc else acc ++ [x]
noncomputable def dd (xs : List Str) : List Str := xs.foldl ddStep []
theorem dd_take {xs : List Str} {i : Nat} {x : Str} (h : xs[i]? = some x) : dd (xs.take (i + 1)) = ddStep (dd (xs.take i)) x := by
  unfold dd
  rw [List.take_add_one, h, List.foldl_append]; rfl
theorem ddStep_length (acc : List Str) (x : Str) : (ddStep acc x).length ≤ acc.length + 1 := by
  unfold ddStep; split <;> simp
theorem dd_length_le (xs : List Str) : (dd xs).length ≤ xs.length := by
  unfold dd
  have key : ∀ (xs acc : List Str), (xs.foldl ddStep acc).length ≤ acc.length + xs.length := by
    intro xs
    induction xs with
    | nil => intro acc; simp
    | cons x r ih => intro acc; rw [List.foldl_cons, List.length_cons]; have := ih (ddStep acc x); have := ddStep_length acc x; omega
  simpa using key xs []

section
variable {w : World}
noncomputable abbrev KK (w : World) : Frag := KF w.params

set_option pp.deepTerms false in
set_option pp.deepTerms.threshold 8 in
set_option maxRecDepth 100000 in
theorem dedup_ok {xs : List Str} (hz : xs.length ≤ 1000000) (A : Around) (b : Heap) (V : LG) (vs : List Value) (hA : OkA 1 A) (hW : Wd (KK w) b) (hfit : Fit V [LS xs] vs) :
    Ev PR w A b V (call (.ref 38) vs) (LS (dd xs)) := by
  refine con_entry (d := 0) (a := 38) (o := ?o) (fd := ?fd) (body := ?body) (sc := ?sc) (xs := [Str.ofString "unhashable_params"]) (Ps := [LS xs]) (R := LS (dd xs)) (K := KK w) ?hK ?hd ?hb ?hs ?hc ?hcl ?hgl ?hbu ?hst rfl ?hbind ?hT A b V vs hA hW hfit
  case hK => rfl
  case hd => rfl
  case hb => rfl
  case hs => (dsimp only; rfl)
  case hc => rfl
  case hcl => rfl
  case hgl => rfl
  case hbu => rfl
  case hst => decide +kernel
  case hbind =>
    intro vals hv
    obtain ⟨v, rfl⟩ : ∃ v, vals = [v] := by
      cases vals with
      | nil => simp at hv
      | cons v r => cases r with
        | nil => exact ⟨v, rfl⟩
        | cons _ _ => simp at hv
    rfl
  case hT =>
    intro env h₀ V₀ A' hsc hA'
    refine tri_cons (tri_newown hsc (.inl rfl)) (tri_ex fun a => ?_)
    refine tri_cons (tri_for (ds := xs) (Qf := S) (fun _ => upd (ctxOf _) (Str.ofString "new_unhashable") (Vl (.ref a))) (fun i => some (a, (dd (xs.take i)).map S)) hsc (src_list hA'.handled (et_name rfl)) (.inl rfl) (fun _ _ h => h) rfl ?turn) ?rest
    case turn =>
      intro i d hd
      refine tri_cons (tri_if ok_at (tta_notin_own hsc rfl (et_name rfl)) (fun ht => ?_) fun ht => ?_) tri_nil
      · refine tri_cons (tri_append hsc rfl (et_name rfl) (fun _ => rfl) ?_ rfl) (tri_pre (fun V h q => ?_) tri_nil)
        · rw [List.length_map]
          have := dd_length_le (xs.take i)
          rw [List.length_take] at this; omega
        · rw [dd_take hd]
          have e : ddStep (dd (xs.take i)) d = dd (xs.take i) ++ [d] := by unfold ddStep; rw [if_neg (by simpa using ht)]
          rw [e, List.map_append]
          exact q.weak fun y P hy => by
            unfold upd at hy ⊢
            by_cases h1 : y = Str.ofString "t"
            · subst h1
              exact absurd hy (by intro q; cases q)
            · rw [if_neg h1]; exact hy
      · refine tri_pre (fun V h q => ?_) tri_nil
        rw [dd_take hd]
        have e : ddStep (dd (xs.take i)) d = dd (xs.take i) := by unfold ddStep; rw [if_pos (by simpa using ht)]
        rw [e]
        exact q.weak fun y P hy => by
            unfold upd at hy ⊢
            by_cases h1 : y = Str.ofString "t"
            · subst h1
              exact absurd hy (by intro q; cases q)
            · rw [if_neg h1]; exact hy
    case rest =>
      rw [List.take_length]
      exact tri_cons (tri_return_own hsc rfl) tri_nil
end
end Mine
end
section
open PySem PySem.W PyProof.Rows PySem.SeqAt
set_option Elab.async false
set_option linter.all false
namespace Mine
section
variable {prog : Program} {w : World} {A : Around} {K : Frag} {ow : Str → Prop} {h₀ h h' b : Heap} {V₀ V V' : LG} {env : Env} {sc : Scope} {Γ Γ' : Ctx'} {O : OwnT} {l r e : Expr} {pos px : Pos} {x : Str} {P : Sp} {R : Value → As} {N N' P' : As}

/-! ### tests -/
theorem tt_not {t : Bool} (h : Tt prog w K A sc Γ e t) : Tt prog w K A sc Γ (.UnaryOp .Not e pos) (!t) := by
  intro env b V hsc F hs s Q E hx k
  exact PyProof.Rows.isTrue_not (h env b V hsc F hs s _ E hx fun r h' tk V' g q => by subst q; exact k _ h' tk V' g rfl)
theorem tt_and_nil : Tt prog w K A sc Γ (.BoolOp .And [] pos) true := fun env b V hsc F hs s Q E hx k => PyProof.Rows.isTrue_and_nil (k true s.heap s.toks V (.refl (hs.ext hx)) rfl)
theorem tt_or_nil : Tt prog w K A sc Γ (.BoolOp .Or [] pos) false := fun env b V hsc F hs s Q E hx k => PyProof.Rows.isTrue_or_nil (k false s.heap s.toks V (.refl (hs.ext hx)) rfl)
theorem tt_whole {t : Bool} {op : BoolOp} {es : List Expr} {whole : Sem Value} : isTrue (.BoolOp op es pos) env whole = isTrue (.BoolOp op es pos) env (eval (.BoolOp op es pos) env) := by
  cases op <;> rfl
theorem tt_and {t u : Bool} {es : List Expr} (h1 : Tt prog w K A sc Γ e t) (h2 : t = true → Tt prog w K A sc Γ (.BoolOp .And es pos) u) : Tt prog w K A sc Γ (.BoolOp .And (e :: es) pos) (t && u) := by
  intro env b V hsc F hs s Q E hx k
  refine PyProof.Rows.isTrue_and (h1 env b V hsc F hs s _ E hx fun r h' tk V' g q => ?_)
  subst q
  cases r with
  | false => exact k false h' tk V' g rfl
  | true =>
    rw [if_pos rfl]
    have := h2 rfl env h' V' hsc (F.ext (hx.trans g.ext) g.le) g.sub { s with heap := h', toks := tk } Q E (Ext.refl _) fun r h2 tk2 V2 g2 q => k r h2 tk2 V2 (g.trans g2) (by simpa using q)
    exact this
theorem tt_or {t u : Bool} {es : List Expr} (h1 : Tt prog w K A sc Γ e t) (h2 : t = false → Tt prog w K A sc Γ (.BoolOp .Or es pos) u) : Tt prog w K A sc Γ (.BoolOp .Or (e :: es) pos) (t || u) := by
  intro env b V hsc F hs s Q E hx k
  refine PyProof.Rows.isTrue_or (h1 env b V hsc F hs s _ E hx fun r h' tk V' g q => ?_)
  subst q
  cases r with
  | true => exact k true h' tk V' g rfl
  | false =>
    rw [if_neg (by decide)]
    have := h2 rfl env h' V' hsc (F.ext (hx.trans g.ext) g.le) g.sub { s with heap := h', toks := tk } Q E (Ext.refl _) fun r h2 tk2 V2 g2 q => k r h2 tk2 V2 (g.trans g2) (by simpa using q)
    exact this

/-- a value's truth -/
noncomputable def Tr (P : Sp) (t : Bool) : Prop := ∀ (prog : Program) (w : World) (A : Around) (s : Shared) V v (Q : Bool → Shared → Prop) E, Sub V s.heap → P.p V v → (∀ tk, Q t { s with toks := tk }) → wpAny (model prog w) A (truthy v) Q E s
theorem tr_list {Ps : List Sp} (hz : Ps.length ≤ 1000000) : Tr (L Ps) (!Ps.isEmpty) := by
  rintro prog w A s V v Q E hs ⟨a, vs, n, rfl, q2, q3⟩ h
  refine wpAny_truthy_list (hs.pl q2).isList (by rw [List.size_toArray, ← q3.length]; omega) ?_
  have : vs.toArray.isEmpty = Ps.isEmpty := by
    have := q3.length
    cases Ps <;> cases vs <;> simp_all
  rw [this]; exact h _
theorem tr_bool {t : Bool} : Tr (B t) t := by
  rintro prog w A s V v Q E hs p h
  have p' : v = .bool t := p
  subst p'
  exact wpAny_truthy_bool (h s.toks)
theorem tr_str {y : Str} (hz : y.length ≤ 1000000) : Tr (S y) ((y.length : Int) != 0) := by
  rintro prog w A s V v Q E hs ⟨t, rfl⟩ h
  exact PySem.P.truthy_str (by omega) (h _)
theorem tt_plain {t : Bool} (he : Et prog w K A sc Γ e P) (ht : Tr P t) (hw : ∀ env whole, isTrue e env whole = (do let v ← whole; standAt e.pos; holding [v] (truthy v)) := by intro _ _; rfl) : Tt prog w K A sc Γ e t := by
  intro env b V hsc F hs s Q E hx k
  refine PyProof.Rows.isTrue_plain ?_ (hw env _)
  refine he env b V hsc F hs s _ E hx fun v h₁ tk₁ V₁ g₁ p₁ => ?_
  exact ht prog w A { s with heap := h₁, toks := tk₁ } V₁ v Q E g₁.sub p₁ fun tk => k t h₁ tk V₁ g₁ rfl
/-- not e, a value -/
theorem et_not {t : Bool} (he : Et prog w K A sc Γ e P) (ht : Tr P t) : Et prog w K A sc Γ (.UnaryOp .Not e pos) (B (!t)) := by
  intro env b V hsc F hs s Q E hx k
  refine wpAny_UnaryOp ?_
  refine he env b V hsc F hs s _ E hx fun v h₁ tk₁ V₁ g₁ p₁ => ?_
  exact PyProof.Rows.not_of (ht prog w A { s with heap := h₁, toks := tk₁ } V₁ v _ E g₁.sub p₁ fun tk => k _ h₁ tk V₁ g₁ rfl)

theorem et_ifexp {c o : Expr} {t : Bool} (hc : Tt prog w K A sc Γ c t) (h1 : t = true → Et prog w K A sc Γ e P) (h2 : t = false → Et prog w K A sc Γ o P) : Et prog w K A sc Γ (.IfExp c e o pos) P := by
  intro env b V hsc F hs s Q E hx k
  refine wpAny_IfExp (hc env b V hsc F hs s _ E hx fun r h' tk V' g q => ?_)
  subst q
  have F' := F.ext (hx.trans g.ext) g.le
  cases r with
  | true => exact h1 rfl env h' V' hsc F' g.sub { s with heap := h', toks := tk } Q E (Ext.refl _) fun r h2 tk2 V2 g2 p => k r h2 tk2 V2 (g.trans g2) p
  | false => exact h2 rfl env h' V' hsc F' g.sub { s with heap := h', toks := tk } Q E (Ext.refl _) fun r h2 tk2 V2 g2 p => k r h2 tk2 V2 (g.trans g2) p

/-! ### is -/
theorem tt_is {P1 P2 : Sp} {t : Bool} (h1 : Et prog w K A sc Γ l P1) (h2 : Et prog w K A sc Γ r P2) (hp : ∀ V v1 v2, P1.p V v1 → P2.p V v2 → plainIs v1 v2 = true ∧ (v1 == v2) = t)
    (hm : behindInMarks .Is r = false := by with_unfolding_all rfl) : Tt prog w K A sc Γ (.Compare l [.Is] [r] pos) t :=
  tt_cmp h1 h2 (fun _ V v1 v2 _ p1 p2 => .same fun s Q E _ _ k => wpAny_is_plain (hp V v1 v2 p1 p2).1 (k _ s.toks (by rw [(hp V v1 v2 p1 p2).2]; rfl))) hm
theorem tt_isnot {P1 P2 : Sp} {t : Bool} (h1 : Et prog w K A sc Γ l P1) (h2 : Et prog w K A sc Γ r P2) (hp : ∀ V v1 v2, P1.p V v1 → P2.p V v2 → plainIs v1 v2 = true ∧ (v1 == v2) = t)
    (hm : behindInMarks .IsNot r = false := by with_unfolding_all rfl) : Tt prog w K A sc Γ (.Compare l [.IsNot] [r] pos) (!t) :=
  tt_cmp h1 h2 (fun _ V v1 v2 _ p1 p2 => .same fun s Q E _ _ k => wpAny_isNot_plain (hp V v1 v2 p1 p2).1 (k _ s.toks (by rw [(hp V v1 v2 p1 p2).2]; rfl))) hm

/-! ### in -/
theorem tt_in_list {xs : List Str} {y : Str} (h1 : Et prog w K A sc Γ l (S y)) (h2 : Et prog w K A sc Γ r (LS xs)) (hm : behindInMarks .In r = false := by with_unfolding_all rfl) :
    Tt prog w K A sc Γ (.Compare l [.In] [r] pos) (xs.contains y) :=
  tt_cmp h1 h2 (fun _ V v1 v2 _ ⟨t, e1⟩ ⟨a, vs, n, e2, q2, q3⟩ => by
    subst e1 e2
    refine .same fun s Q E hs _ k => ?_
    refine in_listAt (eqS y) (hs.pl q2).isList (fun z hz => eq_eqS y t q3 z (by simpa using hz)) ?_
    have : vs.toArray.any (eqS y) = xs.contains y := by rw [List.any_toArray]; exact any_eqS y q3
    rw [this]
    exact k _ s.toks rfl) hm
theorem tt_in_tuple {xs : List Str} {y : Str} (h1 : Et prog w K A sc Γ l (S y)) (h2 : Et prog w K A sc Γ r (Tu (xs.map S))) (hm : behindInMarks .In r = false := by with_unfolding_all rfl) :
    Tt prog w K A sc Γ (.Compare l [.In] [r] pos) (xs.contains y) :=
  tt_cmp h1 h2 (fun _ V v1 v2 _ ⟨t, e1⟩ ⟨a, vs, e2, q2, q3⟩ => by
    subst e1 e2
    refine .same fun s Q E hs _ k => ?_
    refine in_tupleAt (items := vs.toArray) (eqS y) ⟨_, (hs _ _ q2).1, rfl, _, rfl⟩ (fun z hz => eq_eqS y t q3 z (by simpa using hz)) ?_
    have : vs.toArray.any (eqS y) = xs.contains y := by rw [List.any_toArray]; exact any_eqS y q3
    rw [this]
    exact k _ s.toks rfl) hm
theorem et_tuple {es : List Expr} {Ps : List Sp} {k : Nat} (h : Ets prog w K A sc Γ es Ps) (hz : Ps.length ≤ sizeLine := by (rw [sizeLine_eq]; decide)) : Et prog w K A sc Γ (.Tuple es k pos) (Tu Ps) := by
  intro env b V hsc F
  refine .of_eq (arm_eval_Tuple ..) (.standAt ?_)
  refine (ev_spliced h env b V hsc F).bind fun vs b1 V1 _ _ _ p => ?_
  intro hs s Q E hx k
  have hs' := hs.ext hx
  exact wpAny_newTuple (k _ _ s.toks (put V1 s.heap.objs.size (tobj vs)) (.push_obj hs' (pl_tobj _)) ⟨_, _, rfl, put_self .., p.mono (.put (hs'.fresh (fresh_size _)))⟩) (by rw [← p.length]; exact hz)

/-! ### built-in functions -/
theorem range_body {n : Int} (b : Heap) (V : LG) (vs : List Value) (h : Fit V [I n] vs) : Ev prog w A b V (call (.type "range") vs) (Rg n) := by
  obtain ⟨v, rfl, t, rfl⟩ := fit1 h
  intro hs s Q E hx k
  have hs' := hs.ext hx
  exact call_range_1 (k _ _ _ (put V s.heap.objs.size (robj n s.toks t (s.toks + 1))) (.push_obj hs' (pl_robj ..)) ⟨_, _, _, _, rfl, put_self ..⟩)
theorem list_body {Ps : List Sp} (hz : Ps.length ≤ 1000000) (b : Heap) (V : LG) (vs : List Value) (h : Fit V [L Ps] vs) : Ev prog w A b V (call (.type "list") vs) (L Ps) := by
  obtain ⟨v, rfl, a, us, n, rfl, q2, q3⟩ := fit1 h
  intro hs s Q E hx k
  have hs' := hs.ext hx
  have hl := q3.length
  refine call_list_seq a (.inl rfl) (hs' _ _ q2).1 rfl rfl (fun h' c' hk hD => ?_) (by rw [List.size_toArray, sizeLine_eq]; omega)
  exact k _ h' s.toks (put V s.heap.objs.size (lobj us c')) (.new_obj hs' hk (fresh_size _) hD (pl_lobj _ _)) ⟨_, _, _, rfl, put_self .., q3.mono (.put (hs'.fresh (fresh_size _)))⟩

theorem ints_of_fit {V : LG} : ∀ {xs : List Int} {vs : List Value}, Fit V (xs.map I) vs → IntsAre vs xs
  | [], _, .nil => .nil
  | x :: xs, _, .cons h t => by
    obtain ⟨u, rfl⟩ := h
    exact .cons _ _ (ints_of_fit t)
theorem sum_body {xs : List Int} (hh : A.handled = none) (b : Heap) (V : LG) (vs : List Value) (h : Fit V [LI xs] vs) : Ev prog w A b V (call (.builtin "sum") vs) (I xs.sum) := by
  obtain ⟨v, rfl, a, us, n, rfl, q2, q3⟩ := fit1 h
  refine .of fun s Q E hs hs' hx k => ?_
  have hi := ints_of_fit q3
  obtain ⟨ys, hy⟩ := hi.allInts.items
  have hl : s.heap.IsList a (intItems ys) := hy ▸ (hs'.pl q2).isList
  refine sum_intListG hh hl fun h' tk t' hk => ?_
  have e : preSum (numAt ys) ys.size = xs.sum := by
    rw [preSum_eq, List.take_of_length_le (by simp)]
    have e2 := hi.numsOf
    have e3 : PySem.numsOf (intItems ys).toList = xs := by rw [← hy]; exact e2
    rw [nums_intItems] at e3
    rw [← e3]
  rw [e]
  exact k _ h' tk hk ⟨_, rfl⟩
theorem tt_ne_ints {xs ys : List Int} (hu : A.units + 64 < cLine) (h1 : Et prog w K A sc Γ l (LI xs)) (h2 : Et prog w K A sc Γ r (LI ys)) (hm : behindInMarks .NotEq r = false := by with_unfolding_all rfl) :
    Tt prog w K A sc Γ (.Compare l [.NotEq] [r] pos) (!decide (xs = ys)) :=
  tt_cmp h1 h2 (fun _ V v1 v2 _ ⟨a, vs, n, e1, q2, q3⟩ ⟨a', vs', n', e2, q2', q3'⟩ => by
    subst e1 e2
    exact .same fun s Q E hs _ k => ne_intsK (hs.pl q2).isList (ints_of_fit q3) (hs.pl q2').isList (ints_of_fit q3') hu (k _ s.toks rfl)) hm
theorem ev_eq_ints {xs ys : List Int} (hu : A.units + 64 < cLine) {v1 v2 : Value} (h1 : (LI xs).p V v1) (h2 : (LI ys).p V v2) : Ev prog w A b V (compareOp .Eq v1 v2) (B (decide (xs = ys))) := by
  obtain ⟨a, vs, n, rfl, q2, q3⟩ := h1
  obtain ⟨a', vs', n', rfl, q2', q3'⟩ := h2
  exact .same fun s Q E hs _ k => eq_intsK (hs.pl q2).isList (ints_of_fit q3) (hs.pl q2').isList (ints_of_fit q3') hu (k _ s.toks rfl)
theorem et_eq_ints {xs ys : List Int} (hu : A.units + 64 < cLine) (h1 : Et prog w K A sc Γ l (LI xs)) (h2 : Et prog w K A sc Γ r (LI ys)) (hm : behindInMarks .Eq r = false := by with_unfolding_all rfl) :
    Et prog w K A sc Γ (.Compare l [.Eq] [r] pos) (B (decide (xs = ys))) :=
  et_cmp h1 h2 (fun _ V v1 v2 _ p1 p2 => ev_eq_ints hu p1 p2) hm

/-! ### strs' methods -/
theorem strs_of_fit {V : LG} : ∀ {xs : List Str} {vs : List Value}, Fit V (xs.map S) vs → ∃ l : List (Str × Tok), vs = strValues l ∧ l.map (·.1) = xs
  | [], _, .nil => ⟨[], rfl, rfl⟩
  | x :: xs, _, .cons h t => by
    obtain ⟨u, rfl⟩ := h
    obtain ⟨l, e1, e2⟩ := strs_of_fit t
    exact ⟨(x, u) :: l, by rw [e1]; rfl, by rw [List.map_cons, e2]⟩
theorem join_body {x : Str} {xs : List Str} (hok : JoinOk x xs = true) (b : Heap) (V : LG) (v : Value) (vs : List Value) (h1 : (S x).p V v) (h : Fit V [LS xs] vs) : Ev prog w A b V (call (.builtin "str.join") (v :: vs)) (S (Txt.join x xs)) := by
  obtain ⟨t, rfl⟩ := h1
  obtain ⟨v, rfl, a, us, n, rfl, q2, q3⟩ := fit1 h
  obtain ⟨l, rfl, e2⟩ := strs_of_fit q3
  exact .same fun s Q E hs _ k => SC.join (hs.pl q2).isList e2 hok fun t' tk => k _ tk ⟨_, rfl⟩
theorem count_body {x y : Str} (b : Heap) (V : LG) (v : Value) (vs : List Value) (h1 : (S x).p V v) (h : Fit V [S y] vs) : Ev prog w A b V (call (.builtin "str.count") (v :: vs)) (I (Builtin.Str.occurrences x y 0 x.length (x.length + 1)).length) := by
  obtain ⟨t, rfl⟩ := h1
  obtain ⟨v, rfl, u, rfl⟩ := fit1 h
  exact .same fun s Q E hs _ k => call_gives PySem.F.slot_str_count (typeIs_str _ _ _) PySem.F.entry_str_count (PySem.F.args_str_count_2 _ _) (gives_str_count x y t u) (k _ _ ⟨_, rfl⟩)
end
end Mine
end
section
open PySem PySem.W PyProof.Rows PySem.SeqAt
set_option Elab.async false
set_option linter.all false
namespace Mine
section
variable {prog : Program} {w : World} {A : Around} {K : Frag} {ow : Str → Prop} {h₀ h h' b b₀ : Heap} {V₀ V V' : LG} {env : Env} {sc : Scope} {Γ Γ' : Ctx'} {O : OwnT} {l r e : Expr} {pos px : Pos} {x : Str} {P : Sp} {R : Value → As} {N N' P' : As}

/-- some objects off the frame are written to -/
theorem Frame.keep' {X : Addr → Prop} (F : Frame K ow b₀ h V env Γ) (hk : ∀ a o, ¬ X a → h.get? a = some o → h'.get? a = some o) (h0 : ∀ a, X a → b₀.get? a = none) (hV : ∀ a, X a → V a = none)
    (nsX : ¬ X env.locals) (celX : ∀ c v, h.IsCell c v → ¬ X c) : Frame K ow b₀ h' V env Γ := by
  have ns' : ∀ m, h.Ns env.locals m → h'.Ns env.locals m := fun m q => q.at' fun o e => hk _ o nsX e
  have cel' : ∀ c v, h.IsCell c v → h'.IsCell c v := fun c v q => let ⟨o, ho, hd⟩ := q; ⟨o, hk _ o (celX c v q) ho, hd⟩
  have ext : Ext b₀ h' := fun a o e => hk a o (fun q => by rw [h0 a q] at e; cases e) (F.base a o e)
  refine ⟨⟨F.wd.ext ext, F.ok.kind, F.ok.gl, F.ok.bu, fun y hy => ?_, fun y P hy => ?_⟩, ext, F.wd, fun a o e => ?_, F.fresh, ?_, fun y hy => ?_⟩
  · obtain ⟨c, v, q1, q2⟩ := F.ok.cells y hy
    exact ⟨c, v, q1, cel' c v q2⟩
  · obtain ⟨v, hb, pv⟩ := F.ok.vars y P hy
    refine ⟨v, ?_, pv⟩
    cases hb with
    | loc m a hn e => exact .loc m a (ns' m hn) e
    | cel c a l hc => exact .cel c a l (cel' c _ hc)
  · exact ⟨hk a o (fun q => by rw [hV a q] at e; cases e) (F.sub a o e).1, (F.sub a o e).2⟩
  · obtain ⟨m, q⟩ := F.ns; exact ⟨m, ns' m q⟩
  · obtain ⟨c, v, q1, q2, q3, q4⟩ := F.own y hy
    exact ⟨c, v, q1, q2, cel' c v q3, q4⟩

/-- a local name is stored to: only the frame's dict is written to -/
theorem Frame.store_local {x : Str} {P : Sp} {v : Value} {s : Shared} {Q : Unit → Shared → Prop} {E : Value → Shared → Prop} (F : Frame K ow b₀ s.heap V env Γ)
    (hx : env.kindOf x = some .local) (p : P.p V v)
    (hQ : ∀ h' tk, Frame K ow b₀ h' V env (upd Γ x P) → Heap.SameBut env.locals s.heap h' → Q () { s with heap := h', toks := tk }) : wpAny (model prog w) A (storeName env x v) Q E s := by
  obtain ⟨m, hns⟩ := F.ns
  refine wpAny_storeName_local hx hns (fun h' hn hs => ?_) (by rw [F.ok.kind]; rfl)
  have hne : ∀ b o, b₀.get? b = some o → b ≠ env.locals := fun b o e q => by rw [q, F.fresh] at e; cases e
  have ext : Ext b₀ h' := fun b o e => (hs.2 b (hne b o e)).trans (F.base b o e)
  have cel : ∀ c u, s.heap.IsCell c u → h'.IsCell c u := fun c u hc => hc.sameBut hs (ns_ne_cell hns hc)
  have kp : Kp s.heap h' := fun a o e hd _ => (hs.2 a (by
    rintro rfl
    obtain ⟨o', es, ep, ho', hd', _⟩ := hns
    rw [e] at ho'; cases ho'
    exact hd es ep hd')).trans e
  refine hQ h' _ ⟨⟨F.wd.ext ext, F.ok.kind, F.ok.gl, F.ok.bu, fun y hy => let ⟨c, u, a, q⟩ := F.ok.cells y hy; ⟨c, u, a, cel c u q⟩, fun y R hy => ?_⟩, ext, F.wd, kp.sub F.sub, F.fresh, ⟨_, hn⟩,
    fun y hy => let ⟨c, u, a, b, d, e⟩ := F.own y hy; ⟨c, u, a, b, cel c u d, e⟩⟩ hs
  unfold upd at hy
  by_cases hyx : y = x
  · rw [if_pos hyx] at hy; cases hy
    subst hyx
    exact ⟨v, .loc _ hx hn (by simp), p⟩
  · rw [if_neg hyx] at hy
    obtain ⟨u, hb, pu⟩ := F.ok.vars y R hy
    refine ⟨u, ?_, pu⟩
    cases hb with
    | loc m' a hn' e => exact .loc _ a hn (by simp only [if_neg hyx]; rw [ns_det hns hn' y]; exact e)
    | cel c a l hc => exact .cel c a l (cel c _ hc)

/-- what stands behind the loop of a comprehension whose value goes to a local name -/
theorem post_used {s : Shared} {Q : Flow → Shared → Prop} {E : Value → Shared → Prop} {y : Str} {py : Pos} (hsc : env.scope = sc) (hP : At K ow h₀ V₀ env Γ O V s.heap) (hy : sc.names.lookup y = some .local)
    (kN : ∀ h tk V', Stp V s.heap V' h → At K ow h₀ V₀ env (upd Γ y P) O V' h → Q .next { s with heap := h, toks := tk })
    (D C : Addr) (h' : Heap) (tk : Nat) (V' : LG) (g : Grow V s.heap V' h') (pD : P.p V' (.ref D)) (hC : ∃ m, h'.Ns C m) (hCn : s.heap.get? C = none) :
    compPost (model prog w) A E (some (assign (.Name y py) env)) (fun _ s' => Q .next s') (.ref D) C (.ok .next) { s with heap := h', toks := tk } := by
  have A1 := hP.grow g
  obtain ⟨m, hn⟩ := hC
  have hLC : env.locals ≠ C := fun q => by
    obtain ⟨m', o, es, ep, ho, hd, _⟩ := hP.fr.ns
    rw [q, hCn] at ho; cases ho
  show wpAny _ A (assign (.Name y py) env (.ref D)) _ _ _
  refine wpAny_assign_Name (A1.fr.store_local (s := { s with heap := h', toks := tk }) (by unfold Env.kindOf; rw [hsc]; exact hy) pD fun h₂ tk₂ F2 hs₂ => ?_)
  refine ⟨m, hn.sameBut hs₂ (Ne.symm hLC), fun h₃ hs₃ => ?_⟩
  have hn2 : h₂.Ns C m := hn.sameBut hs₂ (Ne.symm hLC)
  have VC : V' C = none := by
    cases q : V' C with
    | none => rfl
    | some o =>
      obtain ⟨q1, q2⟩ := g.sub C o q
      obtain ⟨o', es, ep, ho', hd', _⟩ := hn
      rw [ho'] at q1; cases q1
      exact absurd hd' (q2.1 es ep)
  have b₀C : h₀.get? C = none := none_of_ext hP.fr.base hCn
  have kp2 : Kp h' h₂ := fun a o e hd _ => (hs₂.2 a (by
    rintro rfl
    obtain ⟨m', o', es, ep, ho', hd', _⟩ := A1.fr.ns
    rw [e] at ho'; cases ho'
    exact hd es ep hd')).trans e
  have hk3 : ∀ a o, ¬ a = C → h₂.get? a = some o → h₃.get? a = some o := fun a o q e => (hs₃.2 a q).trans e
  have F3 := F2.keep' (X := fun a => a = C) hk3 (fun a q => q ▸ b₀C) (fun a q => q ▸ VC) hLC fun c v hc q => by
    subst q
    exact ns_ne_cell hn2 hc rfl
  have A2 : At K ow h₀ V₀ env (upd Γ y P) O V' h₂ := ⟨F2, A1.le, A1.new, A1.own.kp kp2⟩
  have nC : ∀ a o, h₂.get? a = some o → Pl o → a ≠ C := fun a o e p q => by
    subst q
    obtain ⟨o', es, ep, ho', hd', _⟩ := hn2
    rw [e] at ho'; cases ho'
    exact p.1 es ep hd'
  refine kN h₃ tk₂ V' (((Stp.of_grow g).trans (.of_kp kp2)).trans (.of_kx fun a o e p _ => hk3 a o (nC a o e p) e)) ⟨F3, A2.le, A2.new, ?_⟩
  have own2 := A2.own
  cases O with
  | none => trivial
  | some p =>
    obtain ⟨a, Ps⟩ := p
    obtain ⟨vs, n, q1, q2, q3, q4⟩ := own2
    exact ⟨vs, n, hk3 a _ (nC a _ q1 (pl_lobj _ _)) q1, q2, q3, q4⟩

/-- y = [a comprehension], y local, on one line -/
theorem tri_assign_comp {α : Type} {y : Str} {py : Pos} {elt iter : Expr} {ifs : List Expr} {scope : Scope} (sc' : Scope) {spos : Pos} {ds : List α} {Qf R' : α → Sp} {p : α → Bool} (hsc : env.scope = sc)
    (src : Src prog w K A sc Γ iter (ds.map Qf)) (hz : ds.length ≤ 1000000)
    (ts : ∀ d ∈ ds, TsT prog w K A sc' (upd (cutΓ scope Γ) x (Qf d)) ifs (p d)) (el : ∀ d ∈ ds, p d = true → Et prog w K A sc' (upd (cutΓ scope Γ) x (Qf d)) elt (R' d))
    (hy : sc.names.lookup y = some .local) (hsw : ∀ env, env.scope = sc → swapsWith (.ListComp elt [⟨.Name x px, iter, ifs, 0⟩] scope pos) (some (.Name y py)) spos.line env = pure true)
    (ok : compOk scope sc = true := by decide +kernel) (hx : scope.names.lookup x = some .local ∨ scope.names.lookup x = some .cell := by decide +kernel) (hsc' : relS scope sc = sc' := by rfl)
    (hf : ∀ env x, foldedSetIterable iter env x = pure x := by intro _ _; rfl) :
    Tri prog w A (At K ow h₀ V₀ env Γ O) (exec (.Assign [.Name y py] (.ListComp elt [⟨.Name x px, iter, ifs, 0⟩] scope pos) spos) env) (At K ow h₀ V₀ env (upd Γ y (L ((ds.filter p).map R'))) O) R := by
  intro s V Q E hP kN kR
  rw [exec_Assign_Name_used _ _ _ _ (hsw env hsc)]
  refine wpAny_bind (wpAny_standAt (wpAny_bind ?_))
  show wpAny _ A (do let _ ← comprehension (.ListComp elt [⟨.Name x px, iter, ifs, 0⟩] scope pos) scope env _ (newList []) false (eval iter env) (some (assign (.Name y py) env))) _ _ s
  refine wpAny_bind (wpAny_mono (wpAny_comprehension_free (use := some (assign (.Name y py) env)) (Q := fun _ s' => Q .next s') rfl (hf env) (compOk_clo ok hsc hP.fr.ok) (compOk_kind ok) (compOk_names ok) ?_)
    (fun _ s' hq => wpAny_pure (wpAny_pure hq)) fun _ _ e => e)
  refine comp_core (s := s) (Γ := Γ) (R := R') hsc hP.fr.ok hP.fr.sub (Ext.refl _) src ok hx hsc' ts el hz (RR := fun acc C => compPost (model prog w) A E (some (assign (.Name y py) env)) (fun _ s' => Q .next s') acc C) ?_
  intro D C h' tk V' g pD hC hCn
  exact post_used hsc hP hy kN D C h' tk V' g pD hC hCn
end
end Mine
end
section
open PySem PySem.W PyProof.Rows PySem.SeqAt
set_option Elab.async false
set_option linter.all false
namespace Mine
section
variable {prog : Program} {w : World} {A : Around} {K : Frag} {ow : Str → Prop} {h₀ h h' h'' b b₀ : Heap} {V₀ V V' V'' : LG} {env cenv : Env} {sc : Scope} {Γ Γ' : Ctx'} {O : OwnT} {l r e : Expr} {pos px : Pos} {x : Str} {P : Sp} {R : Value → As} {N N' P' : As} {D : Addr}

/-- a step of a comprehension's block with its list at D -/
structure EmS (D : Addr) (V : LG) (h : Heap) (V' : LG) (h' : Heap) : Prop where
  kd : ∀ a o, a ≠ D → h.get? a = some o → Pl o → h'.get? a = some o
  le : Le V V'
  nw : ∀ a o, V' a = some o → V a = some o ∨ ∀ o', h.get? a = some o' → ¬ Pl o'
  dn : V' D = none
theorem EmS.refl (hd : V D = none) : EmS D V h V h := ⟨fun _ _ _ e _ => e, Le.refl _, fun _ _ e => .inl e, hd⟩
theorem EmS.trans (x : EmS D V h V' h') (y : EmS D V' h' V'' h'') : EmS D V h V'' h'' :=
  ⟨fun a o q e p => y.kd a o q (x.kd a o q e p) p, x.le.trans y.le, fun a o e => (y.nw a o e).elim (x.nw a o) fun q => .inr fun o' e' p => by
    by_cases hd : a = D
    · rw [hd, y.dn] at e; cases e
    · exact q o' (x.kd a o' hd e' p) p, y.dn⟩
theorem EmS.of_grow (g : Grow V h V' h') (hD : ∃ o, h.get? D = some o) (hV : V D = none) : EmS D V h V' h' := by
  refine ⟨fun a o _ e _ => g.ext a o e, g.le, fun a o e => (g.new a o e).imp id fun q o' e' => ?_, ?_⟩
  · rw [q] at e'; cases e'
  · cases q : V' D with
    | none => rfl
    | some o => rcases g.new D o q with q | q
                · rw [hV] at q; cases q
                · obtain ⟨o', e⟩ := hD; rw [q] at e; cases e
theorem EmS.of_kd (hd : V D = none) (kd : ∀ a o, a ≠ D → h.get? a = some o → Pl o → h'.get? a = some o) : EmS D V h V h' := ⟨kd, Le.refl _, fun _ _ e => .inl e, hd⟩
theorem EmS.off (x : EmS D V h V' h') {a : Addr} (hv : V a = none) (ha : ∃ o, h.get? a = some o ∧ Pl o) : V' a = none := by
  cases q : V' a with
  | none => rfl
  | some o =>
    obtain ⟨o', e, p⟩ := ha
    rcases x.nw a o q with q | q
    · rw [hv] at q; cases q
    · exact absurd p (q o' e)
theorem EmS.new (x : EmS D V h V' h') (hb : Ext b₀ h) (hb' : Ext b₀ h') (hs : Sub V' h') : ∀ a o, V' a = some o → V a = some o ∨ b₀.get? a = none := fun a o q => by
  cases e : b₀.get? a with
  | none => exact .inr rfl
  | some o' =>
    rcases x.nw a o q with q2 | q2
    · exact .inl q2
    · exfalso
      obtain ⟨s1, s2⟩ := hs a o q
      rw [hb' a o' e] at s1; cases s1
      exact q2 o (hb a o e) s2

noncomputable def Em (prog : Program) (w : World) (A : Around) (K : Frag) (ow : Str → Prop) (b₀ : Heap) (V₀ : LG) (D : Addr) (cenv : Env) (Γ : Ctx') (t : Sem Unit) (zs : List Sp) : Prop :=
  ∀ (s : Shared) V ys m (Q : Unit → Shared → Prop) E, Frame K ow b₀ s.heap V cenv Γ → Le V₀ V → s.heap.get? D = some (lobj ys m) → V D = none → ys.length + zs.length ≤ 1000000 →
    (∀ h' tk V' us m', Frame K ow b₀ h' V' cenv Γ → h'.get? D = some (lobj (ys ++ us) m') → EmS D V s.heap V' h' → Fit V' zs us → Q () { s with heap := h', toks := tk }) → wpAny (model prog w) A t Q E s

structure Drw (prog : Program) (w : World) (A : Around) (K : Frag) (ow : Str → Prop) (b₀ : Heap) (V₀ : LG) (cenv : Env) (Γ : Ctx') (target : Expr) (it : Addr) (n : Nat) (Γi : Nat → Ctx') (wr : List Addr) (St : Nat → Heap → Prop) : Prop where
  item : ∀ i (s : Shared) V (Q : Unit → Shared → Prop) E, i < n → St i s.heap → Frame K ow b₀ s.heap V cenv Γ → Le V₀ V → (∀ a ∈ wr, V a = none) →
     (∀ h' tk, Frame K ow b₀ h' V cenv (Γi i) → St (i + 1) h' → (∀ a o, a ∉ wr → s.heap.get? a = some o → Pl o → h'.get? a = some o) → Q () { s with heap := h', toks := tk }) →
     wpAny (model prog w) A (pyNext (.ref it)) (fun r s₁ => ∃ v, r = some v ∧ wpAny (model prog w) A (letOwnedTupleGo target (.ref it) v) (fun _ s₂ => wpAny (model prog w) A (assign target cenv v) Q E s₂) E s₁) E s
  done : ∀ (s : Shared) (Q : Option Value → Shared → Prop) E, St n s.heap → (∀ h' tk, (∀ a o, a ∉ wr → s.heap.get? a = some o → h'.get? a = some o) → Q none { s with heap := h', toks := tk }) → wpAny (model prog w) A (pyNext (.ref it)) Q E s
  stab : ∀ i g g', St i g → Sub V₀ g → (∀ a o, V₀ a = some o → g.get? a = some o → g'.get? a = some o) → (∀ a o, g.get? a = some o → Pl o → o.cls ≠ .type "list" → g'.get? a = some o) → St i g'
  alive : ∀ i g, St i g → ∀ a ∈ wr, ∃ o, g.get? a = some o ∧ Pl o ∧ o.cls ≠ .type "list"
  weak : ∀ i, i < n → ∀ y P, Γ y = some P → Γi i y = some P

theorem EmS.step {g₀ : Heap} {wr : List Addr} (x : EmS D V g₀ V' h) (hw : ∀ a ∈ wr, g₀.get? a = none) (k : ∀ a o, a ≠ D → a ∉ wr → h.get? a = some o → Pl o → h'.get? a = some o) : EmS D V g₀ V' h' :=
  ⟨fun a o q e p => k a o q (fun hm => by rw [hw a hm] at e; cases e) (x.kd a o q e p) p, x.le, x.nw, x.dn⟩

theorem turn_go {target : Expr} {it : Value} {k : Sem Fin} {z : Sem Fin} {s : Shared} {Q : Fin → Shared → Prop} {E : Value → Shared → Prop}
    (h : wpAny (model prog w) A (pyNext it) (fun r s₁ => ∃ v, r = some v ∧ wpAny (model prog w) A (letOwnedTupleGo target it v) (fun _ s₂ => wpAny (model prog w) A (assign target cenv v) (fun _ s₃ => wpAny (model prog w) A k Q E s₃) E s₂) E s₁) E s) :
    wpAny (model prog w) A (do
      match ← pyNext it with
      | none => z
      | some v =>
        letOwnedTupleGo target it v
        assign target cenv v
        k) Q E s := by
  refine wpAny_bind (wpAny_mono h (fun r s₁ h₁ => ?_) fun _ _ x => x)
  obtain ⟨v, rfl, h₁⟩ := h₁
  exact wpAny_bind (wpAny_mono h₁ (fun _ s₂ h₂ => wpAny_bind h₂) fun _ _ x => x)

/-- the loop of a clause -/
theorem loopG {target : Expr} {it : Addr} {n depth : Nat} {Γi : Nat → Ctx'} {wr : List Addr} {St : Nat → Heap → Prop} {ifs : List Expr} {rest : Sem Unit} {p : Nat → Bool} {F : Nat → List Sp} {ys₀ : List Value} {m₀ : Nat}
    {RR : Result → Shared → Prop} {s : Shared} {elt : Expr} {gens : List Comprehension} {scope : Scope} {g₀ : Heap} {Vg : LG}
    (hturn : compTurn (.ListComp elt gens scope pos) depth (.ref it) (.ref D) cenv = (do
      standAt px
      match ← pyNext (.ref it) with
      | none => pure (.done .next)
      | some v =>
        letOwnedTupleGo target (.ref it) v
        assign target cenv v
        let ok ← testsTree ifs cenv
        if ok = true then do rest; again (.compLoop (.ListComp elt gens scope pos) depth (.ref it) (.ref D) cenv)
        else again (.compLoop (.ListComp elt gens scope pos) depth (.ref it) (.ref D) cenv)))
    (DR : Drw prog w A K ow b₀ V₀ cenv Γ target it n Γi wr St) (hst : St 0 s.heap) (FR : Frame K ow b₀ s.heap V cenv Γ) (hL : Le V₀ V)
    (e0 : EmS D Vg g₀ V s.heap) (hwg : ∀ a ∈ wr, g₀.get? a = none) (hwb : ∀ a ∈ wr, b₀.get? a = none) (hwr : ∀ a ∈ wr, V a = none)
    (hD : s.heap.get? D = some (lobj ys₀ m₀)) (hDV : V D = none) (hDb : b₀.get? D = none) (hsc : cenv.scope = sc)
    (ts : ∀ i, i < n → TsT prog w K A sc (Γi i) ifs (p i)) (em : ∀ i, i < n → p i = true → Em prog w A K ow b₀ V₀ D cenv (Γi i) rest (F i))
    (hz : ys₀.length + ((List.range n).flatMap fun i => if p i then F i else []).length ≤ 1000000)
    (hRR : ∀ h' tk V' us m, Frame K ow b₀ h' V' cenv Γ → h'.get? D = some (lobj (ys₀ ++ us) m) → EmS D Vg g₀ V' h' → Fit V' ((List.range n).flatMap fun i => if p i then F i else []) us →
      RR (.ok .next) { s with heap := h', toks := tk }) :
    codeAny (model prog w) A (.compLoop (.ListComp elt gens scope pos) depth (.ref it) (.ref D) cenv) RR s := by
  have hlen : ∀ i, i ≤ n → ((List.range i).flatMap fun i => if p i then F i else []).length ≤ ((List.range n).flatMap fun i => if p i then F i else []).length := by
    intro i hi
    have : List.range n = List.range i ++ (List.range (n - i)).map (i + ·) := by
      rw [← List.range_add]; congr 1; omega
    rw [this, List.flatMap_append, List.length_append]; omega
  refine codeAny_loop rfl (fun k s' => ∃ i H tk Vi us m, s' = { s with heap := H, toks := tk } ∧ k = n + 1 - i ∧ i ≤ n ∧ Frame K ow b₀ H Vi cenv Γ ∧ St i H ∧ H.get? D = some (lobj (ys₀ ++ us) m) ∧
      (∀ a ∈ wr, Vi a = none) ∧ EmS D Vg g₀ Vi H ∧ Le V₀ Vi ∧ Fit Vi ((List.range i).flatMap fun i => if p i then F i else []) us) ?_ (n + 1)
    ⟨0, s.heap, s.toks, V, [], m₀, rfl, rfl, Nat.zero_le _, FR, hst, by simpa using hD, hwr, e0, hL, by simpa using Fit.nil⟩
  rintro k s' ⟨i, H, tk, Vi, us, m, rfl, rfl, hi, Fi, sti, hDi, hwri, ei, hLi, hfit⟩
  show wpAny _ A ((compTurn (.ListComp elt gens scope pos) depth (.ref it) (.ref D) cenv).onRaise (fun x => do noteFrame x cenv; theTreesLotGoes x)) _ _ _
  refine wpAny_noted ?_
  rw [hturn]
  refine wpAny_bind (wpAny_standAt ?_)
  have aliveP : ∀ i g', St i g' → ∀ a ∈ wr, ∃ o, g'.get? a = some o ∧ Pl o := fun i g' st a ha => let ⟨o, e, p, _⟩ := DR.alive i g' st a ha; ⟨o, e, p⟩
  have hDwr : D ∉ wr := fun hm => by
    obtain ⟨o, e, _, hc⟩ := DR.alive i H sti D hm
    rw [hDi] at e; cases e; exact hc rfl
  by_cases hlt : i < n
  · refine turn_go (DR.item i { s with heap := H, toks := tk } Vi _ _ hlt sti Fi hLi hwri fun h₂ tk₂ F2 hst₂ hk₂ => ?_)
    have hD2 : h₂.get? D = some (lobj (ys₀ ++ us) m) := hk₂ D _ hDwr hDi (pl_lobj _ _)
    have e2 : EmS D Vg g₀ Vi h₂ := ei.step hwg fun a o _ hw e p => hk₂ a o hw e p
    refine wpAny_bind (ts i hlt cenv h₂ Vi hsc F2.ok F2.sub { s with heap := h₂, toks := tk₂ } _ _ (Ext.refl _) fun ok h₃ tk₃ V3 g3 hok => ?_)
    subst hok
    have F3 := F2.grow g3
    have s3 : EmS D Vi h₂ V3 h₃ := .of_grow g3 ⟨_, hD2⟩ ei.dn
    have hD3 := g3.ext D _ hD2
    have hwr3 : ∀ a ∈ wr, V3 a = none := fun a ha => s3.off (hwri a ha) (aliveP _ _ hst₂ a ha)
    have hst₃ : St (i + 1) h₃ := DR.stab _ _ _ hst₂ (F2.sub.le hLi) (fun a o _ e => g3.ext a o e) fun a o e _ _ => g3.ext a o e
    have e3 := e2.trans s3
    have hr1 : (List.range (i + 1)).flatMap (fun i => if p i then F i else []) = ((List.range i).flatMap fun i => if p i then F i else []) ++ (if p i then F i else []) := by
      rw [List.range_succ, List.flatMap_append]; simp
    cases hpd : p i with
    | false =>
      simp only [Bool.false_eq_true, if_false]
      refine wpAny_pure ⟨rfl, n + 1 - (i + 1), by omega, i + 1, h₃, tk₃, V3, us, m, rfl, rfl, hlt, F3.weak (DR.weak i hlt), hst₃, hD3, hwr3, e3, hLi.trans g3.le, ?_⟩
      rw [hr1, hpd]
      simpa using hfit.mono g3.le
    | true =>
      simp only [if_true]
      have hle : (ys₀ ++ us).length + (F i).length ≤ 1000000 := by
        have := hlen (i + 1) hlt
        rw [hr1, hpd, if_pos rfl, List.length_append] at this
        rw [List.length_append, ← hfit.length]; omega
      refine wpAny_bind (em i hlt hpd { s with heap := h₃, toks := tk₃ } V3 (ys₀ ++ us) m _ _ F3 (hLi.trans g3.le) hD3 s3.dn hle fun h₄ tk₄ V4 zs m4 F4 hD4 s4 hz4 => ?_)
      have hst₄ : St (i + 1) h₄ := DR.stab _ _ _ hst₃ (F3.sub.le (hLi.trans g3.le)) (fun a o q e => s4.kd a o (fun hd => by
          subst hd
          have := (hLi.trans g3.le) a o q
          rw [s3.dn] at this; cases this) e ((F3.sub.le (hLi.trans g3.le)) a o q).2)
        fun a o e pl hc => s4.kd a o (fun hd => by subst hd; rw [hD3] at e; cases e; exact hc rfl) e pl
      refine wpAny_pure ⟨rfl, n + 1 - (i + 1), by omega, i + 1, h₄, tk₄, V4, us ++ zs, m4, rfl, rfl, hlt, F4.weak (DR.weak i hlt), hst₄, by rw [← List.append_assoc]; exact hD4, fun a ha => s4.off (hwr3 a ha) (aliveP _ _ hst₃ a ha), e3.trans s4, (hLi.trans g3.le).trans s4.le, ?_⟩
      rw [hr1, hpd, if_pos rfl]
      exact (hfit.mono (g3.le.trans s4.le)).append hz4
  · have hin : i = n := by omega
    subst hin
    refine wpAny_bind (wpAny_mono (DR.done { s with heap := H, toks := tk } (fun r s₁ => r = none ∧ RR (.ok .next) s₁) _ sti fun h₁ tk₁ hk₁ => ⟨rfl, ?_⟩) (fun r s₁ h₁ => ?_) fun _ _ x => x)
    · have hk : ∀ a o, ¬ a ∈ wr → H.get? a = some o → h₁.get? a = some o := hk₁
      have F1 := Fi.keep (X := fun a => a ∈ wr) hk hwb hwri (aliveP _ H sti)
      exact hRR h₁ tk₁ Vi us m F1 (hk₁ D _ hDwr hDi) (ei.step hwg fun a o _ hw e _ => hk₁ a o hw e) hfit
    · obtain ⟨rfl, h₁⟩ := h₁
      exact wpAny_pure h₁

/-- the last clause's emission -/
theorem em_elt {elt : Expr} (hsc : cenv.scope = sc) (hDb : b₀.get? D = none) (he : Et prog w K A sc Γ elt P) :
    Em prog w A K ow b₀ V₀ D cenv Γ (do let x ← eval elt cenv; let _ ← call (.builtin "list.append") [.ref D, x]) [P] := by
  intro s V ys m Q E F hL hD hDV hy k
  refine wpAny_bind (he cenv s.heap V hsc F.ok F.sub s _ E (Ext.refl _) fun y h₁ tk₁ V₁ g₁ py => ?_)
  have s1 : EmS D V s.heap V₁ h₁ := .of_grow g₁ ⟨_, hD⟩ hDV
  have F1 := F.grow g₁
  have hD1 := g₁.ext D _ hD
  refine wpAny_bind (list_append_pl (s := { s with heap := h₁, toks := tk₁ }) hD1 (fun h₂ m' hD2 hs₂ => wpAny_pure ?_) (by rw [sizeLine_eq]; omega))
  have hk : ∀ a o, ¬ a = D → h₁.get? a = some o → h₂.get? a = some o := fun a o q e => (hs₂.2 a q).trans e
  exact k h₂ tk₁ V₁ [y] m' (F1.keep (X := fun a => a = D) hk (fun a q => q ▸ hDb) (fun a q => q ▸ s1.dn) fun a q => q ▸ ⟨_, hD1, pl_lobj _ _⟩) hD2
    (s1.trans (.of_kd s1.dn fun a o q e _ => hk a o q e)) (.cons py .nil)

/-- an iterator over known values, a name as target -/
theorem drw_name {Qs : List Sp} {g₀ g : Heap} {it : Addr} {fp wr : List Addr} {Pw : Nat → Value → Prop} {St : Nat → Heap → Prop} (IF : ItF prog w A V₀ Qs g₀ g it fp wr Pw St) (hV₀ : Sub V₀ g₀)
    (hwb : ∀ a ∈ wr, b₀.get? a = none) (hx : cenv.kindOf x = some .local ∨ (cenv.kindOf x = some .cell ∧ ow x)) (hΓ : Γ x = none) :
    Drw prog w A K ow b₀ V₀ cenv Γ (.Name x px) it Qs.length (fun i => upd Γ x (Qs.getD i Any)) wr St := by
  have alive : ∀ i g', St i g' → ∀ a ∈ wr, ∃ o, g'.get? a = some o ∧ Pl o ∧ o.cls ≠ .type "list" := fun i g' st a ha => by
    rcases IF.fp i g' st a (IF.W.sub a ha) with ⟨o, q⟩ | ⟨o, q, hc, hp⟩
    · have := IF.wr a ha
      rw [(hV₀ a o q).1] at this; cases this
    · exact ⟨o, q, hp, hc⟩
  refine ⟨fun i s V Q E hi st F hL hw k => ?_, fun s Q E st k => IF.W.done s Q E st k, fun i g g' st hs k1 k2 => ?_, alive, fun i hi y P q => ?_⟩
  · refine IF.W.item i s _ E hi st fun v h₁ tk₁ hPv hst₁ hk₁ => ⟨v, rfl, ?_⟩
    refine wpAny_of_eq (rfl : letOwnedTupleGo (.Name x px) (.ref it) v = pure ()) ?_
    obtain ⟨R0, hR0, pv⟩ := IF.vals i v hi hPv
    have hg : Qs.getD i Any = R0 := by rw [List.getD_eq_getElem?_getD, hR0]; rfl
    have F1 : Frame K ow b₀ h₁ V cenv Γ := F.keep (X := fun a => a ∈ wr) hk₁ hwb hw fun a ha => let ⟨o, e, p, _⟩ := alive i _ st a ha; ⟨o, e, p⟩
    refine F1.assign (s := { s with heap := h₁, toks := tk₁ }) hx ((Qs.getD i Any).mono hL (hg ▸ pv)) fun h₂ tk₂ F2 kp2 => k h₂ tk₂ F2 ?_ fun a o q e p => kp2 a o (hk₁ a o q e) p.1 p.2
    exact IF.W.frame _ _ _ hst₁ fun a ha o e => by
      rcases IF.fp _ _ hst₁ a ha with ⟨o', q⟩ | ⟨o', q, _, hp⟩
      · obtain ⟨q1, q2⟩ := (F1.sub.le hL) a o' q
        rw [e] at q1; cases q1
        exact kp2 a o e q2.1 q2.2
      · rw [e] at q; cases q
        exact kp2 a o e hp.1 hp.2
  · refine IF.W.frame _ _ _ st fun a ha o e => ?_
    rcases IF.fp _ _ st a ha with ⟨o', q⟩ | ⟨o', q, hc, hp⟩
    · obtain ⟨q1, q2⟩ := hs a o' q
      rw [e] at q1; cases q1
      exact k1 a o q e
    · rw [e] at q; cases q
      exact k2 a o e hp hc
  · unfold upd
    by_cases hy : y = x
    · rw [hy, hΓ] at q; cases q
    · rw [if_neg hy]; exact q
end
end Mine
end
section
open PySem PySem.W PyProof.Rows PySem.SeqAt
set_option Elab.async false
set_option linter.all false
namespace Mine
section
variable {prog : Program} {w : World} {A : Around} {K : Frag} {ow : Str → Prop} {h₀ h h' h'' b b₀ : Heap} {V₀ V V' V'' : LG} {env cenv : Env} {sc sc' : Scope} {Γ Γ' : Ctx'} {O : OwnT} {l r e : Expr} {pos px : Pos} {x : Str} {P : Sp} {R : Value → As} {N N' P' : As} {D : Addr}

/-- what a comprehension's frame tells of its names' kinds -/
noncomputable def Knd (scope : Scope) (ow : Str → Prop) (cenv : Env) : Prop :=
  ∀ y, (scope.names.lookup y = some .local → cenv.kindOf y = some .local) ∧ (scope.names.lookup y = some .cell → cenv.kindOf y = some .cell ∧ ow y)

/-- what is iterated, with the target that takes its items -/
noncomputable def SrcD (prog : Program) (w : World) (K : Frag) (A : Around) (sc : Scope) (Γ : Ctx') (scope : Scope) (iter target : Expr) (n : Nat) (Γu : Nat → Ctx' → Ctx') : Prop :=
  ∀ env b V (s : Shared) (Q : Value → Shared → Prop) E, env.scope = sc → EnvOk K b V env Γ → Sub V b → Ext b s.heap →
    (∀ it wr St V' h' tk, Grow V s.heap V' h' → (∀ a ∈ wr, s.heap.get? a = none ∧ V' a = none) → St 0 h' →
      (∀ i (s : Shared) (Q : Value → Shared → Prop) E, St i s.heap → Q (.ref it) s → wpAny (model prog w) A (pyIter (.ref it)) Q E s) →
      (∀ ow b₀ cenv Γc, (∀ a ∈ wr, b₀.get? a = none) → Knd scope ow cenv → (∀ y, scope.names.lookup y ≠ some .free → Γc y = none) → Drw prog w A K ow b₀ V' cenv Γc target it n (fun i => Γu i Γc) wr St) →
      Q (.ref it) { s with heap := h', toks := tk }) →
    wpAny (model prog w) A (eval iter env) (fun xv s₁ => wpAny (model prog w) A (pyIter xv) Q E s₁) E s

theorem srcD_name {α : Type} {scope : Scope} {iter : Expr} {ds : List α} {Qf : α → Sp} (src : Src prog w K A sc Γ iter (ds.map Qf)) (hx : scope.names.lookup x = some .local ∨ scope.names.lookup x = some .cell) :
    SrcD prog w K A sc Γ scope iter (.Name x px) ds.length (fun i Γc => upd Γc x ((ds.map Qf).getD i Any)) := by
  intro env b V s Q E hsc F hs hb k
  refine src env b V hsc F hs s _ E hb fun xv h₁ tk₁ V₁ g₁ hitr => ?_
  refine hitr { s with heap := h₁, toks := tk₁ } _ E g₁.sub fun it fp wr Pw St h₂ tk₂ IF => ?_
  refine k it wr St V₁ h₂ tk₂ (g₁.trans (.of_ext g₁.sub IF.ext)) (fun a ha => ⟨none_of_ext g₁.ext (IF.wr a ha), g₁.sub.fresh (IF.wr a ha)⟩) IF.st (fun i s Q E st q => IF.W.self i s Q E st q) ?_
  intro ow b₀ cenv Γc hwb hk hΓ
  have := drw_name (K := K) (ow := ow) (b₀ := b₀) (cenv := cenv) (Γ := Γc) (x := x) (px := px) IF g₁.sub hwb (by rcases hx with q | q; exact .inl ((hk x).1 q); exact .inr ((hk x).2 q)) (hΓ x (by rcases hx with q | q <;> rw [q] <;> decide))
  rw [List.length_map] at this
  exact this

theorem comp_coreG {elt iter target : Expr} {ifs : List Expr} {more : List Comprehension} {scope : Scope} {n : Nat} {Γu : Nat → Ctx' → Ctx'} {p : Nat → Bool} {F : Nat → List Sp} {rest : Env → Addr → Sem Unit} {RR : Value → Addr → Result → Shared → Prop} {s : Shared} {E : Value → Shared → Prop}
    (hsc : env.scope = sc) (Fe : EnvOk K b V env Γ) (hs : Sub V b) (hb : Ext b s.heap)
    (src : SrcD prog w K A sc Γ scope iter target n Γu) (ok : compOk scope sc = true) (hsc' : relS scope sc = sc')
    (hturn : ∀ it D cenv, compTurn (.ListComp elt (⟨target, iter, ifs, 0⟩ :: more) scope pos) 0 (.ref it) (.ref D) cenv = (do
      standAt iter.pos
      match ← pyNext (.ref it) with
      | none => pure (.done .next)
      | some v =>
        letOwnedTupleGo target (.ref it) v
        assign target cenv v
        let ok ← testsTree ifs cenv
        if ok = true then do rest cenv D; again (.compLoop (.ListComp elt (⟨target, iter, ifs, 0⟩ :: more) scope pos) 0 (.ref it) (.ref D) cenv)
        else again (.compLoop (.ListComp elt (⟨target, iter, ifs, 0⟩ :: more) scope pos) 0 (.ref it) (.ref D) cenv)))
    (ts : ∀ i, i < n → TsT prog w K A sc' (Γu i (cutΓ scope Γ)) ifs (p i))
    (em : ∀ ow b₀ V₀ D cenv, cenv.scope = sc' → b₀.get? D = none → Knd scope ow cenv → ∀ i, i < n → p i = true → Em prog w A K ow b₀ V₀ D cenv (Γu i (cutΓ scope Γ)) (rest cenv D) (F i))
    (hz : ((List.range n).flatMap fun i => if p i then F i else []).length ≤ 1000000)
    (hRR : ∀ D C h' tk V', Grow V s.heap V' h' → (L ((List.range n).flatMap fun i => if p i then F i else [])).p V' (.ref D) → (∃ m, h'.Ns C m) → s.heap.get? C = none → RR (.ref D) C (.ok .next) { s with heap := h', toks := tk }) :
    wpAny (model prog w) A (eval iter env) (fun x₁ s₁ => wpAny (model prog w) A (pyIter x₁) (fun it s₂ => wpAny (model prog w) A (newList []) (fun acc s₃ =>
      wpAny (model prog w) A (newFunctionEnv scope env.globals (clo env.cells scope.names []) [] env.qual none .none (some env)) (fun cenv s₄ =>
        codeAny (model prog w) A (.compStart (.ListComp elt (⟨target, iter, ifs, 0⟩ :: more) scope pos) 0 it acc { cenv with scope := relabel scope env }) (RR acc cenv.locals) s₄) E s₃) E s₂) E s₁) E s := by
  refine src env b V s _ E hsc Fe hs hb fun it wr St V₁ h₂ tk₂ g₂ hwr hst hself hdrw => ?_
  refine wpAny_newObj_type (T := "list") (wpAny_newCompEnv ?_) (by show ([] : List Value).toArray.size ≤ sizeLine; rw [sizeLine_eq]; decide)
  have F2 : EnvOk K h₂ V₁ env Γ := Fe.ext (hb.trans g₂.ext) g₂.le
  generalize hH3 : h₂.push { cls := .type "list", dict := none, data := .seq ([] : List Value).toArray } = H3
  have ext3 : Ext h₂ H3 := hH3 ▸ Ext.push _ _
  have hD3 : H3.get? h₂.objs.size = some (lobj [] 0) := hH3 ▸ Heap.get?_push_size _ rfl
  have F3 : EnvOk K H3 V₁ env Γ := F2.ext ext3 (Le.refl _)
  have base3 : Ext s.heap H3 := g₂.ext.trans ext3
  have FR := Frame.comp (qual := env.qual) hsc F3 (g₂.sub.ext ext3) ok s.heap base3 (Fe.wd.ext hb)
  have ext4 : Ext H3 (pushCells (H3.push { cls := .type "dict", data := .dict #[] }) scope.names) := fun a o e => pushCells_keeps _ _ a o (Heap.get?_push_of_some _ e)
  generalize hcenv : ({ scope := relabel scope env, locals := H3.objs.size, globals := env.globals, cells := cellsFrom (H3.objs.size + 1) scope.names [] ++ clo env.cells scope.names [], qual := env.qual, func := none, code := env.code, frame := env.frame, builtins := env.builtins } : Env) = cenv at FR ⊢
  have hcs : cenv.scope = sc' := by subst hcenv; rw [← hsc']; exact relabel_eq scope env sc hsc
  have hcl : cenv.locals = H3.objs.size := by subst hcenv; rfl
  have hknd : ∀ y, cenv.kindOf y = (scope.names.lookup y).map (relK sc y) := fun y => by
    unfold Env.kindOf; rw [hcs, ← hsc']; exact lookup_relS scope sc y
  have hnone : ∀ a, h₂.objs.size ≤ a → s.heap.get? a = none := fun a ha => by
    cases e : s.heap.get? a with
    | none => rfl
    | some o => exact absurd (Heap.lt_size (g₂.ext a o e)) (Nat.not_lt.mpr ha)
  have hsz3 : h₂.objs.size ≤ H3.objs.size := by rw [← hH3, Heap.size_push]; exact Nat.le_succ _
  have hKnd : Knd scope (fun y => scope.names.lookup y = some .cell) cenv := fun y => ⟨fun q => by rw [hknd, q]; rfl, fun q => ⟨by rw [hknd, q]; rfl, q⟩⟩
  have DR := hdrw (fun y => scope.names.lookup y = some .cell) s.heap cenv (cutΓ scope Γ) (fun a ha => (hwr a ha).1) hKnd fun y q => by unfold cutΓ; split; rename_i q2; exact absurd q2 q; rfl
  have hDV : V₁ h₂.objs.size = none := by
    cases q : V₁ h₂.objs.size with
    | none => rfl
    | some o => exact absurd (Heap.lt_size (g₂.sub _ o q).1) (Nat.lt_irrefl _)
  have hst0 : St 0 (pushCells (H3.push { cls := .type "dict", data := .dict #[] }) scope.names) := DR.stab _ _ _ hst g₂.sub (fun a o _ e => ext4 a o (ext3 a o e)) fun a o e _ _ => ext4 a o (ext3 a o e)
  have e0 : EmS h₂.objs.size V₁ s.heap V₁ (pushCells (H3.push { cls := .type "dict", data := .dict #[] }) scope.names) := .of_kd hDV fun a o _ e _ => ext4 a o (base3 a o e)
  have loop : codeAny (model prog w) A (.compLoop (.ListComp elt (⟨target, iter, ifs, 0⟩ :: more) scope pos) 0 (.ref it) (.ref h₂.objs.size) cenv) (RR (.ref h₂.objs.size) H3.objs.size)
      { s with heap := pushCells (H3.push { cls := .type "dict", data := .dict #[] }) scope.names, toks := tk₂ } := by
    refine loopG (s := { s with heap := pushCells (H3.push { cls := .type "dict", data := .dict #[] }) scope.names, toks := tk₂ }) (g₀ := s.heap) (ys₀ := []) (hturn it _ cenv) DR hst0 FR (Le.refl _) e0 (fun a ha => (hwr a ha).1) (fun a ha => (hwr a ha).1) (fun a ha => (hwr a ha).2)
      (ext4 _ _ hD3) hDV (hnone _ (Nat.le_refl _)) hcs ts (em _ _ _ _ cenv hcs (hnone _ (Nat.le_refl _)) hKnd) (by simpa using hz) ?_
    intro h' tk V' us m FF hD' hem hfit
    have hDn := hem.dn
    rw [List.nil_append] at hD'
    have hnew := hem.new (b₀ := s.heap) (Ext.refl _) FF.base FF.sub
    refine hRR _ _ h' tk (put V' h₂.objs.size (lobj us m)) ⟨FF.base, g₂.le.trans (hem.le.trans (.put hDn)), FF.sub.put hD' (pl_lobj _ _), fun a o q => ?_⟩ ⟨_, _, _, rfl, put_self .., hfit.mono (.put hDn)⟩ (hcl ▸ FF.ns) (hnone _ hsz3)
    unfold put at q
    split at q
    · rename_i q2; subst q2; exact .inr (hnone _ (Nat.le_refl _))
    · rcases hnew a o q with q | q
      · exact g₂.new a o q
      · exact .inr q
  exact codeAny_compStart_list loop (hself 0 _ _ _ hst0 loop)

/-- a comprehension of the general form -/
theorem et_compG {elt iter target : Expr} {ifs : List Expr} {more : List Comprehension} {scope : Scope} (sc' : Scope) {n : Nat} {Γu : Nat → Ctx' → Ctx'} {p : Nat → Bool} {F : Nat → List Sp} {rest : Env → Addr → Sem Unit}
    (src : SrcD prog w K A sc Γ scope iter target n Γu)
    (hturn : ∀ it D cenv, compTurn (.ListComp elt (⟨target, iter, ifs, 0⟩ :: more) scope pos) 0 (.ref it) (.ref D) cenv = (do
      standAt iter.pos
      match ← pyNext (.ref it) with
      | none => pure (.done .next)
      | some v =>
        letOwnedTupleGo target (.ref it) v
        assign target cenv v
        let ok ← testsTree ifs cenv
        if ok = true then do rest cenv D; again (.compLoop (.ListComp elt (⟨target, iter, ifs, 0⟩ :: more) scope pos) 0 (.ref it) (.ref D) cenv)
        else again (.compLoop (.ListComp elt (⟨target, iter, ifs, 0⟩ :: more) scope pos) 0 (.ref it) (.ref D) cenv)))
    (ts : ∀ i, i < n → TsT prog w K A sc' (Γu i (cutΓ scope Γ)) ifs (p i))
    (em : ∀ ow b₀ V₀ D cenv, cenv.scope = sc' → b₀.get? D = none → Knd scope ow cenv → ∀ i, i < n → p i = true → Em prog w A K ow b₀ V₀ D cenv (Γu i (cutΓ scope Γ)) (rest cenv D) (F i))
    (hz : ((List.range n).flatMap fun i => if p i then F i else []).length ≤ 1000000)
    (ok : compOk scope sc = true := by decide +kernel) (hsc' : relS scope sc = sc' := by rfl) (hf : ∀ env x, foldedSetIterable iter env x = pure x := by intro _ _; rfl) :
    Et prog w K A sc Γ (.ListComp elt (⟨target, iter, ifs, 0⟩ :: more) scope pos) (L ((List.range n).flatMap fun i => if p i then F i else [])) := by
  intro env b V hsc F hs s Q E hb k
  rw [eval_ListComp]
  refine wpAny_comprehension_free (use := none) rfl (hf env) (compOk_clo ok hsc F) (compOk_kind ok) (compOk_names ok) ?_
  refine comp_coreG (s := s) (Γ := Γ) hsc F hs hb src ok hsc' hturn ts em hz (RR := fun acc C => compPost (model prog w) A E none Q acc C) ?_
  intro D C h' tk V' g pD hC hCn
  obtain ⟨m, hn⟩ := hC
  refine ⟨m, hn, fun h'' hs'' => k _ h'' tk V' ⟨fun a o e => ?_, g.le, fun a o q => ?_, g.new⟩ pD⟩
  · exact (hs''.2 a (fun q => by rw [q, hCn] at e; cases e)).trans (g.ext a o e)
  · obtain ⟨q1, q2⟩ := g.sub a o q
    refine ⟨(hs''.2 a fun q3 => ?_).trans q1, q2⟩
    obtain ⟨o', es, ep, ho', hd', _⟩ := hn
    rw [q3, ho'] at q1; cases q1
    exact q2.1 es ep hd'

theorem tri_assign_compG {y : Str} {py : Pos} {elt iter target : Expr} {ifs : List Expr} {more : List Comprehension} {scope : Scope} (sc' : Scope) {spos : Pos} {n : Nat} {Γu : Nat → Ctx' → Ctx'} {p : Nat → Bool} {F : Nat → List Sp} {rest : Env → Addr → Sem Unit} (hsc : env.scope = sc)
    (src : SrcD prog w K A sc Γ scope iter target n Γu)
    (hturn : ∀ it D cenv, compTurn (.ListComp elt (⟨target, iter, ifs, 0⟩ :: more) scope pos) 0 (.ref it) (.ref D) cenv = (do
      standAt iter.pos
      match ← pyNext (.ref it) with
      | none => pure (.done .next)
      | some v =>
        letOwnedTupleGo target (.ref it) v
        assign target cenv v
        let ok ← testsTree ifs cenv
        if ok = true then do rest cenv D; again (.compLoop (.ListComp elt (⟨target, iter, ifs, 0⟩ :: more) scope pos) 0 (.ref it) (.ref D) cenv)
        else again (.compLoop (.ListComp elt (⟨target, iter, ifs, 0⟩ :: more) scope pos) 0 (.ref it) (.ref D) cenv)))
    (ts : ∀ i, i < n → TsT prog w K A sc' (Γu i (cutΓ scope Γ)) ifs (p i))
    (em : ∀ ow b₀ V₀ D cenv, cenv.scope = sc' → b₀.get? D = none → Knd scope ow cenv → ∀ i, i < n → p i = true → Em prog w A K ow b₀ V₀ D cenv (Γu i (cutΓ scope Γ)) (rest cenv D) (F i))
    (hz : ((List.range n).flatMap fun i => if p i then F i else []).length ≤ 1000000)
    (hy : sc.names.lookup y = some .local) (hsw : ∀ env, env.scope = sc → swapsWith (.ListComp elt (⟨target, iter, ifs, 0⟩ :: more) scope pos) (some (.Name y py)) spos.line env = pure true)
    (ok : compOk scope sc = true := by decide +kernel) (hsc' : relS scope sc = sc' := by rfl) (hf : ∀ env x, foldedSetIterable iter env x = pure x := by intro _ _; rfl) :
    Tri prog w A (At K ow h₀ V₀ env Γ O) (exec (.Assign [.Name y py] (.ListComp elt (⟨target, iter, ifs, 0⟩ :: more) scope pos) spos) env) (At K ow h₀ V₀ env (upd Γ y (L ((List.range n).flatMap fun i => if p i then F i else []))) O) R := by
  intro s V Q E hP kN kR
  rw [exec_Assign_Name_used _ _ _ _ (hsw env hsc)]
  refine wpAny_bind (wpAny_standAt (wpAny_bind ?_))
  show wpAny _ A (do let _ ← comprehension (.ListComp elt (⟨target, iter, ifs, 0⟩ :: more) scope pos) scope env _ (newList []) false (eval iter env) (some (assign (.Name y py) env))) _ _ s
  refine wpAny_bind (wpAny_mono (wpAny_comprehension_free (use := some (assign (.Name y py) env)) (Q := fun _ s' => Q .next s') rfl (hf env) (compOk_clo ok hsc hP.fr.ok) (compOk_kind ok) (compOk_names ok) ?_)
    (fun _ s' hq => wpAny_pure (wpAny_pure hq)) fun _ _ e => e)
  refine comp_coreG (s := s) (Γ := Γ) hsc hP.fr.ok hP.fr.sub (Ext.refl _) src ok hsc' hturn ts em hz (RR := fun acc C => compPost (model prog w) A E (some (assign (.Name y py) env)) (fun _ s' => Q .next s') acc C) ?_
  intro D C h' tk V' g pD hC hCn
  exact post_used hsc hP hy kN D C h' tk V' g pD hC hCn

theorem codeAny_compStart_any {elt : Expr} {gens : List Comprehension} {scope : Scope} {depth : Nat} {it acc : Value} {R : Result → Shared → Prop} {s : Shared} {target iter : Expr} {ifs : List Expr}
    (hg : gens[depth]? = some ⟨target, iter, ifs, 0⟩)
    (h0 : codeAny (model prog w) A (.compLoop (.ListComp elt gens scope pos) depth it acc env) R s)
    (h : wpAny (model prog w) A (pyIter it) (fun it' s' => codeAny (model prog w) A (.compLoop (.ListComp elt gens scope pos) depth it' acc env) R s')
      (notedBy (model prog w) A env fun x s' => R (.error x) s') s) :
    codeAny (model prog w) A (.compStart (.ListComp elt gens scope pos) depth it acc env) R s := by
  refine codeAny_of_tree ?_
  show wpAny _ _ ((compStart (.ListComp elt gens scope pos) depth it acc env).onRaise (fun x => do noteFrame x env; standAt theWindowsPlace)) _ _ s
  refine wpAny_notedAt ?_
  unfold compStart
  have e1 : (clausesOf (.ListComp elt gens scope pos))[depth]? = some ⟨target, iter, ifs, 0⟩ := hg
  rw [e1]
  show wpAny _ _ (ask >>= _) _ _ s
  refine wpAny_bind (wpAny_askSetting (wpAny_ite ?_))
  split
  · first
      | exact wpAny_bind (wpAny_pure (wpAny_pure (And.intro rfl h0)))
      | exact wpAny_pure (And.intro rfl h0)
  · first
      | exact wpAny_bind (wpAny_rule (wpAny_bind (wpAny_standAt (wpAny_bind (wpAny_mono h (fun it' s' h' => wpAny_pure (And.intro rfl h')) fun _ _ x => x)))))
      | (refine wpAny_bind (wpAny_rule ?_); show wpAny _ _ (standAt iter.pos >>= _) _ _ s; exact wpAny_bind (wpAny_standAt (wpAny_bind (wpAny_mono h (fun it' s' h' => wpAny_pure (And.intro rfl h')) fun _ _ x => x))))
end
end Mine
end
section
open PySem PySem.W PyProof.Rows PySem.SeqAt
set_option Elab.async false
set_option linter.all false
namespace Mine
section
variable {prog : Program} {w : World} {A : Around} {K : Frag} {ow : Str → Prop} {h₀ h h' h'' b b₀ : Heap} {V₀ V V' V'' : LG} {env cenv : Env} {sc sc' : Scope} {Γ Γ' : Ctx'} {O : OwnT} {l r e : Expr} {pos px : Pos} {x : Str} {P : Sp} {R : Value → As} {N N' P' : As} {D : Addr}

theorem flat_range {α β : Type} (g : Option α → List β) : ∀ ds : List α, (List.range ds.length).flatMap (fun i => g ds[i]?) = ds.flatMap fun d => g (some d)
  | [] => rfl
  | d :: ds => by
    rw [List.length_cons, List.range_succ_eq_map, List.flatMap_cons, List.flatMap_cons, ← flat_range g ds, List.flatMap_map]
    rfl
theorem flat_filter {α β : Type} (p : α → Bool) (R : α → β) : ∀ ds : List α, (ds.flatMap fun d => if p d then [R d] else []) = (ds.filter p).map R
  | [] => rfl
  | d :: ds => by
    rw [List.flatMap_cons, flat_filter p R ds, List.filter_cons]
    cases p d <;> rfl

/-- a second clause -/
theorem em_inner {α : Type} {elt iter iter1 target1 : Expr} {ifs ifs1 : List Expr} {scope : Scope} {ds : List α} {Qf R' : α → Sp} {p : α → Bool} (hsc : cenv.scope = sc) (hDb : b₀.get? D = none)
    (src : Src prog w K A sc Γ iter (ds.map Qf)) (hx : cenv.kindOf x = some .local ∨ (cenv.kindOf x = some .cell ∧ ow x)) (hΓ : Γ x = none)
    (ts : ∀ d ∈ ds, TsT prog w K A sc (upd Γ x (Qf d)) ifs (p d)) (el : ∀ d ∈ ds, p d = true → Et prog w K A sc (upd Γ x (Qf d)) elt (R' d)) (hz : ds.length ≤ 100000)
    (hf : ∀ env x, foldedSetIterable iter env x = pure x := by intro _ _; rfl) :
    Em prog w A K ow b₀ V₀ D cenv Γ (do
        let x' ← eval iter cenv
        standAt iter.pos
        let x' ← foldedSetIterable iter cenv x'
        let _ ← runOwn (.compStart (.ListComp elt [⟨target1, iter1, ifs1, 0⟩, ⟨.Name x px, iter, ifs, 0⟩] scope pos) 1 (← holding [x'] (pyIter x')) (.ref D) cenv) cenv) ((ds.filter p).map R') := by
  intro s V ys m Q E F hL hD hDV hyl k
  refine wpAny_bind (src cenv s.heap V hsc F.ok F.sub s _ E (Ext.refl _) fun xv h₁ tk₁ V₁ g₁ hitr => ?_)
  refine wpAny_bind (wpAny_standAt (wpAny_bind ?_))
  refine wpAny_of_eq (hf cenv xv) ?_
  refine wpAny_bind (wpAny_holding (hitr { s with heap := h₁, toks := tk₁ } _ E g₁.sub fun it fp wr Pw St h₂ tk₂ IF => ?_))
  have s1 : EmS D V s.heap V₁ h₁ := .of_grow g₁ ⟨_, hD⟩ hDV
  have F1 := F.grow g₁
  have gg2 : Grow V₁ h₁ V₁ h₂ := .of_ext g₁.sub IF.ext
  have F2 := F1.grow gg2
  have hD1 := g₁.ext D _ hD
  have hD2 := IF.ext D _ hD1
  have s2 : EmS D V s.heap V₁ h₂ := s1.trans (.of_grow gg2 ⟨_, hD1⟩ s1.dn)
  have wrs : ∀ a ∈ wr, s.heap.get? a = none := fun a ha => none_of_ext g₁.ext (IF.wr a ha)
  have wrb : ∀ a ∈ wr, b₀.get? a = none := fun a ha => none_of_ext F.base (wrs a ha)
  have wrv : ∀ a ∈ wr, V₁ a = none := fun a ha => g₁.sub.fresh (IF.wr a ha)
  have DR := drw_name (K := K) (ow := ow) (b₀ := b₀) (cenv := cenv) (Γ := Γ) (x := x) (px := px) IF g₁.sub wrb hx hΓ
  rw [List.length_map] at DR
  have hdsI : ∀ i, i < ds.length → ∃ d, ds[i]? = some d ∧ d ∈ ds ∧ (ds.map Qf).getD i Any = Qf d := fun i hi => ⟨ds[i], by simp [hi], List.getElem_mem hi, by simp [List.getD_eq_getElem?_getD, hi]⟩
  have hflat : (List.range ds.length).flatMap (fun i => if (ds[i]?.elim false p) then (ds[i]?.elim [] fun d => [R' d]) else []) = (ds.filter p).map R' := by
    rw [flat_range (fun o => if (o.elim false p) then (o.elim [] fun d => [R' d]) else []) ds]
    exact flat_filter p R' ds
  have loop : codeAny (model prog w) A (.compLoop (.ListComp elt [⟨target1, iter1, ifs1, 0⟩, ⟨.Name x px, iter, ifs, 0⟩] scope pos) 1 (.ref it) (.ref D) cenv)
      (fun r s' => match r with | .ok f => Q () s' | .error e => cameBackBy (model prog w) A cenv E e s') { s with heap := h₂, toks := tk₂ } := by
    refine loopG (s := { s with heap := h₂, toks := tk₂ }) (g₀ := s.heap) (ys₀ := ys) (n := ds.length) (px := iter.pos) (p := fun i => ds[i]?.elim false p) (F := fun i => ds[i]?.elim [] fun d => [R' d])
      (rest := do let x ← eval elt cenv; let _ ← call (.builtin "list.append") [.ref D, x]) (by rfl) DR IF.st F2 (Le.refl _) s2 wrs wrb wrv hD2 s2.dn hDb hsc ?_ ?_ ?_ ?_
    · intro i hi
      obtain ⟨d, e1, e2, e3⟩ := hdsI i hi
      simp only [e1, e3]
      exact ts d e2
    · intro i hi hp
      obtain ⟨d, e1, e2, e3⟩ := hdsI i hi
      simp only [e1, e3, Option.elim] at hp ⊢
      exact em_elt hsc hDb (el d e2 hp)
    · rw [hflat, List.length_map]
      rw [List.length_map] at hyl
      exact hyl
    · intro h' tk V' us m' FF hD' hem hfit
      rw [hflat] at hfit
      exact k h' tk V' us m' FF hD' hem hfit
  refine wpAny_bind (wpAny_runOwn ?_)
  refine codeAny_mono (codeAny_compStart_any (R := fun r s' => match r with | .ok f => Q () s' | .error e => cameBackBy (model prog w) A cenv E e s') rfl loop (IF.W.self 0 _ _ _ IF.st loop)) fun r s' hr => ?_
  cases r with
  | ok f => exact wpAny_pure hr
  | error e => exact hr
end
end Mine
end
section
open PySem PySem.W PyProof.Rows PySem.SeqAt
set_option Elab.async false
set_option linter.all false
namespace Mine
section
variable {prog : Program} {w : World} {A : Around} {K : Frag} {ow : Str → Prop} {h₀ h h' h'' b b₀ : Heap} {V₀ V V' V'' : LG} {env cenv : Env} {sc sc' : Scope} {Γ Γ' : Ctx'} {O : OwnT} {l r e : Expr} {pos px : Pos} {x : Str} {P : Sp} {R : Value → As} {N N' P' : As} {D : Addr}

theorem wp_call {x : Str} {p : Pos} {fv : Value} {es : List Expr} {Ps : List Sp} {s : Shared} {Q : Value → Shared → Prop} {E : Value → Shared → Prop} (hf : Et prog w K A sc Γ (.Name x p) (Vl fv)) (hk : KeepOk K fv) (h : Ets prog w K A sc Γ es Ps)
    (hsc : env.scope = sc) (F : EnvOk K b V env Γ) (hs : Sub V b) (hx : Ext b s.heap)
    (body : ∀ vs h' tk V', Grow V s.heap V' h' → Wd K h' → Fit V' Ps vs → wpAny (model prog w) A (call fv vs) Q E { s with heap := h', toks := tk }) :
    wpAny (model prog w) A (eval (.Call (.Name x p) es [] pos) env) Q E s := by
  show wpAny _ _ (do callWith pos (← eval (.Name x p) env) [] (backTo pos (starEach es env)) (backToKw pos (keywordEach [] env))) Q E s
  refine wpAny_bind (hf env b V hsc F hs s _ E hx fun v h₁ tk₁ V₁ g₁ p₁ => ?_)
  have p₁' : v = fv := p₁
  subst p₁'
  have F1 := F.ext (hx.trans g₁.ext) g₁.le
  refine callWith_of (P := Wd K) (by rw [ets_plain h]; rfl) (fun hp x => keeps_ok hk hp x) ?_
  refine ev_evalArgs h env h₁ V₁ hsc F1 g₁.sub { s with heap := h₁, toks := tk₁ } _ E (Ext.refl _) fun a h' tk V' g p => ?_
  obtain ⟨vs, rfl, p⟩ := p
  have W' := F1.wd.ext g.ext
  exact ⟨W', body vs h' tk V' (g₁.trans g) W' p⟩

/-- two names take a pair -/
theorem fr_assign2 {y : Str} {py tp : Pos} {k : Nat} {P1 P2 : Sp} {v1 v2 : Value} {T : Addr} {s : Shared} {Q : Unit → Shared → Prop} {E : Value → Shared → Prop} (hh : A.handled = none) (F : Frame K ow b₀ s.heap V env Γ)
    (hx : env.kindOf x = some .local ∨ (env.kindOf x = some .cell ∧ ow x)) (hy : env.kindOf y = some .local ∨ (env.kindOf y = some .cell ∧ ow y)) (hT : s.heap.IsTuple T #[v1, v2]) (p1 : P1.p V v1) (p2 : P2.p V v2)
    (hQ : ∀ h' tk, Frame K ow b₀ h' V env (upd (upd Γ x P1) y P2) → Kp s.heap h' → Q () { s with heap := h', toks := tk }) :
    wpAny (model prog w) A (assign (.Tuple [.Name x px, .Name y py] k tp) env (.ref T)) Q E s := by
  refine wpAny_assign_Tuple hh hT rfl (by rfl) fun h₁ he₁ => ?_
  have ext1 : Ext s.heap h₁ := fun a o e => he₁ a o (fun q => Nat.lt_irrefl _ (q ▸ Heap.lt_size e)) e
  have F1 : Frame K ow b₀ h₁ V env Γ := F.grow (.of_ext F.sub ext1)
  show wpAny _ _ (do holding [v2] (assign (.Name x px) env v1); (do holding [] (assign (.Name y py) env v2); pure ())) _ _ _
  refine wpAny_bind (wpAny_holding (F1.assign (s := { s with heap := h₁ }) hx p1 fun h₂ tk₂ F2 kp2 => ?_))
  refine wpAny_bind (wpAny_holding (F2.assign (s := { s with heap := h₂, toks := tk₂ }) hy p2 fun h₃ tk₃ F3 kp3 => wpAny_pure ?_))
  exact hQ h₃ tk₃ F3 (((Kp.of_ext ext1).trans kp2).trans kp3)

theorem ap_zip (N a1 a2 : Nat) (h1 : a1 < N) (h2 : a2 < N) : ZipApart (N + 4) (N + 2) (N + 3) N (N + 1) a1 a2 := by
  constructor <;> (intro q; have q' : (_ : Nat) = (_ : Nat) := q; omega)

/-- zip of two lists, a pair of names as target -/
theorem srcD_zip2 {scope : Scope} {y z : Str} {py tp pz : Pos} {k : Nat} {es : List Expr} {Ps Qs : List Sp} (hh : A.handled = none) (hz : Et prog w K A sc Γ (.Name z pz) (Vl (.type "zip"))) (he : Ets prog w K A sc Γ es [L Ps, L Qs])
    (hl : Ps.length = Qs.length) (hne : ∀ V v u, (L Ps).p V v → (L Qs).p V u → True := by intros; trivial)
    (hx : scope.names.lookup x = some .local ∨ scope.names.lookup x = some .cell) (hy : scope.names.lookup y = some .local ∨ scope.names.lookup y = some .cell) (hxy : x ≠ y) :
    SrcD prog w K A sc Γ scope (.Call (.Name z pz) es [] pos) (.Tuple [.Name x px, .Name y py] k tp) Ps.length (fun i Γc => upd (upd Γc x (Ps.getD i Any)) y (Qs.getD i Any)) := by
  intro env b V s Q E hsc F hs hb kk
  refine wp_call hz (.inr (.inr ⟨_, rfl⟩)) he hsc F hs hb fun vs h₁ tk₁ V₁ g₁ W₁ fit => ?_
  obtain ⟨v, u, rfl, ⟨a1, xs, n1, rfl, q1, f1⟩, ⟨a2, ys, n2, rfl, q2, f2⟩⟩ := fit2 fit
  have l1 := (g₁.sub.pl q1).isList
  have l2 := (g₁.sub.pl q2).isList
  refine call_zip_2 (s := { s with heap := h₁, toks := tk₁ }) l1 l2 fun h₂ hz₂ hTI hTO hi1 hi2 hsz ext2 => ?_
  refine wpAny_pyIter_zip hz₂ ?_
  have lt1 : a1 < h₁.objs.size := Heap.lt_size (g₁.sub _ _ q1).1
  have lt2 : a2 < h₁.objs.size := Heap.lt_size (g₁.sub _ _ q2).1
  dsimp only at hz₂ hTI hTO hi1 hi2 hsz ext2
  obtain ⟨N, hN⟩ : ∃ N, h₁.objs.size = N := ⟨_, rfl⟩
  rw [hN] at hz₂ hTI hTO hi1 hi2 hsz lt1 lt2
  have AP : ZipApart (N + 4) (N + 2) (N + 3) N (N + 1) a1 a2 := by
    exact ap_zip N a1 a2 lt1 lt2
  have WT := WalksT.zip2 (prog := prog) (w := w) hh (N + 4) (N + 2) (N + 3) N (N + 1) a1 a2 AP xs.toArray ys.toArray
  have hfr : ∀ a ∈ [N + 4, N + 3, N, N + 1], h₁.get? a = none := fun a ha => by
    have : N ≤ a := by simp at ha; omega
    cases e : h₁.get? a with
    | none => rfl
    | some o => have h1 : (a : Nat) < h₁.objs.size := Heap.lt_size e
                rw [hN] at h1; exact absurd h1 (Nat.not_lt.mpr this)
  have hlx := f1.length
  have hly := f2.length
  have hn : min xs.toArray.size ys.toArray.size = Ps.length := by simp only [List.size_toArray]; omega
  have alive : ∀ i g', (IsZip g' (N + 4) (N + 2) (N + 3) .none ∧ IsPair g' (N + 2) (.ref N) (.ref (N + 1)) ∧ (∃ a b, IsPair g' (N + 3) a b) ∧ g'.IsListIter N a1 i ∧ g'.IsListIter (N + 1) a2 i ∧ g'.IsList a1 xs.toArray ∧ g'.IsList a2 ys.toArray) →
      ∀ a ∈ [N + 4, N + 3, N, N + 1], ∃ o, g'.get? a = some o ∧ Pl o ∧ o.cls ≠ .type "list" := by
    rintro i g' ⟨s1, s2, ⟨c, d, s3⟩, ⟨o4, s4, c4, d4⟩, ⟨o5, s5, c5, d5⟩, s6, s7⟩ a ha
    simp at ha
    rcases ha with rfl | rfl | rfl | rfl
    · exact ⟨_, s1, ⟨(fun _ _ q => by cases q), (fun _ q => by cases q)⟩, by simp⟩
    · exact ⟨_, s3, ⟨(fun _ _ q => by cases q), (fun _ q => by cases q)⟩, by simp⟩
    · exact ⟨_, s4, ⟨(fun _ _ q => by rw [d4] at q; cases q), (fun _ q => by rw [d4] at q; cases q)⟩, by rw [c4]; simp⟩
    · exact ⟨_, s5, ⟨(fun _ _ q => by rw [d5] at q; cases q), (fun _ q => by rw [d5] at q; cases q)⟩, by rw [c5]; simp⟩
  rw [hN]
  refine kk (N + 4) [N + 4, N + 3, N, N + 1] (fun i g' => IsZip g' (N + 4) (N + 2) (N + 3) .none ∧ IsPair g' (N + 2) (.ref N) (.ref (N + 1)) ∧ (∃ a b, IsPair g' (N + 3) a b) ∧ g'.IsListIter N a1 i ∧ g'.IsListIter (N + 1) a2 i ∧ g'.IsList a1 xs.toArray ∧ g'.IsList a2 ys.toArray) V₁ h₂ tk₁ (g₁.trans (.of_ext g₁.sub ext2)) (fun a ha => ⟨none_of_ext g₁.ext (hfr a ha), g₁.sub.fresh (hfr a ha)⟩)
    (⟨hz₂, hTI, ⟨_, _, hTO⟩, hi1, hi2, l1.at fun o e => ext2 _ o e, l2.at fun o e => ext2 _ o e⟩) (fun i s Q E st q => WT.self i s Q E st q) ?_
  intro ow b₀ cenv Γc hwb hk hΓ
  have kx : cenv.kindOf x = some .local ∨ (cenv.kindOf x = some .cell ∧ ow x) := by rcases hx with q | q; exact .inl ((hk x).1 q); exact .inr ((hk x).2 q)
  have ky : cenv.kindOf y = some .local ∨ (cenv.kindOf y = some .cell ∧ ow y) := by rcases hy with q | q; exact .inl ((hk y).1 q); exact .inr ((hk y).2 q)
  have stab : ∀ i g g', (IsZip g (N + 4) (N + 2) (N + 3) .none ∧ IsPair g (N + 2) (.ref N) (.ref (N + 1)) ∧ (∃ a b, IsPair g (N + 3) a b) ∧ g.IsListIter N a1 i ∧ g.IsListIter (N + 1) a2 i ∧ g.IsList a1 xs.toArray ∧ g.IsList a2 ys.toArray) → Sub V₁ g → (∀ a o, V₁ a = some o → g.get? a = some o → g'.get? a = some o) → (∀ a o, g.get? a = some o → Pl o → o.cls ≠ .type "list" → g'.get? a = some o) →
      (IsZip g' (N + 4) (N + 2) (N + 3) .none ∧ IsPair g' (N + 2) (.ref N) (.ref (N + 1)) ∧ (∃ a b, IsPair g' (N + 3) a b) ∧ g'.IsListIter N a1 i ∧ g'.IsListIter (N + 1) a2 i ∧ g'.IsList a1 xs.toArray ∧ g'.IsList a2 ys.toArray) := by
    rintro i g g' ⟨s1, s2, ⟨c, d, s3⟩, s4, s5, s6, s7⟩ hs k1 k2
    obtain ⟨o4, e4, c4, d4⟩ := id s4
    obtain ⟨o5, e5, c5, d5⟩ := id s5
    refine ⟨k2 _ _ s1 ⟨(fun _ _ q => by cases q), (fun _ q => by cases q)⟩ (by simp), k2 _ _ s2 ⟨(fun _ _ q => by cases q), (fun _ q => by cases q)⟩ (by simp), ⟨c, d, k2 _ _ s3 ⟨(fun _ _ q => by cases q), (fun _ q => by cases q)⟩ (by simp)⟩, ?_, ?_, ?_, ?_⟩
    · exact ⟨o4, k2 _ _ e4 ⟨(fun _ _ q => by rw [d4] at q; cases q), (fun _ q => by rw [d4] at q; cases q)⟩ (by rw [c4]; simp), c4, d4⟩
    · exact ⟨o5, k2 _ _ e5 ⟨(fun _ _ q => by rw [d5] at q; cases q), (fun _ q => by rw [d5] at q; cases q)⟩ (by rw [c5]; simp), c5, d5⟩
    · exact s6.at fun o e => k1 _ o (by rw [(hs _ _ q1).1] at e; cases e; exact q1) e
    · exact s7.at fun o e => k1 _ o (by rw [(hs _ _ q2).1] at e; cases e; exact q2) e
  refine ⟨fun i s V Q E hi st F hL hw k => ?_, fun s Q E st k => WT.done s Q E (hn ▸ st) k, stab, alive, fun i hi y' P q => ?_⟩
  · refine WT.item i s _ E (hn ▸ hi) st fun T vals h₃ tk₃ hPv _ hT hM hk₃ => ⟨_, rfl, ?_⟩
    obtain ⟨v1, v2, e1, e2, rfl⟩ := hPv
    refine WT.go _ _ _ i T { s with heap := h₃, toks := tk₃ } _ E hM fun h₄ hst₄ hk₄ => ?_
    have hTw := WT.apart i T _ hM
    have F3 : Frame K ow b₀ h₃ V cenv Γc := F.keep (X := fun a => a ∈ [N + 4, N + 3, N, N + 1]) hk₃ hwb hw fun a ha => let ⟨o, e, p, _⟩ := alive i _ st a ha; ⟨o, e, p⟩
    have al3 : ∀ a, a ∈ [N + 4, N + 3, N, N + 1] → ∃ o, h₃.get? a = some o ∧ Pl o := by
      obtain ⟨s1, s2, ⟨c, d, s3⟩, ⟨o4, s4, c4, d4⟩, ⟨o5, s5, c5, d5⟩, _⟩ := hM
      intro a ha
      simp at ha
      rcases ha with rfl | rfl | rfl | rfl
      · exact ⟨_, s1, ⟨(fun _ _ q => by cases q), (fun _ q => by cases q)⟩⟩
      · exact ⟨_, s3, ⟨(fun _ _ q => by cases q), (fun _ q => by cases q)⟩⟩
      · exact ⟨_, s4, ⟨(fun _ _ q => by rw [d4] at q; cases q), (fun _ q => by rw [d4] at q; cases q)⟩⟩
      · exact ⟨_, s5, ⟨(fun _ _ q => by rw [d5] at q; cases q), (fun _ q => by rw [d5] at q; cases q)⟩⟩
    have F4 : Frame K ow b₀ h₄ V cenv Γc := F3.keep (X := fun a => a ∈ [N + 4, N + 3, N, N + 1]) hk₄ hwb hw al3
    have hT4 : h₄.IsTuple T #[v1, v2] := hT.at fun o e => hk₄ T o hTw e
    obtain ⟨P1, hP1, pv1⟩ := f1.getv i v1 (by simpa using e1)
    obtain ⟨P2, hP2, pv2⟩ := f2.getv i v2 (by simpa using e2)
    have g1 : Ps.getD i Any = P1 := by rw [List.getD_eq_getElem?_getD, hP1]; rfl
    have g2 : Qs.getD i Any = P2 := by rw [List.getD_eq_getElem?_getD, hP2]; rfl
    refine fr_assign2 (s := { s with heap := h₄, toks := tk₃ }) (P1 := Ps.getD i Any) (P2 := Qs.getD i Any) hh F4 kx ky hT4 (g1 ▸ P1.mono hL pv1) (g2 ▸ P2.mono hL pv2) fun h₅ tk₅ F5 kp5 => ?_
    refine k h₅ tk₅ F5 (stab _ _ _ hst₄ (F4.sub.le hL) (fun a o q e => kp5 a o e ((F4.sub.le hL) a o q).2.1 ((F4.sub.le hL) a o q).2.2) fun a o e p _ => kp5 a o e p.1 p.2) fun a o ha e p => kp5 a o (hk₄ a o ha (hk₃ a o ha e)) p.1 p.2
  · show upd (upd Γc x (Ps.getD i Any)) y (Qs.getD i Any) y' = some P
    unfold upd
    by_cases h1 : y' = y
    · rw [h1, hΓ y (by rcases hy with q | q <;> rw [q] <;> decide)] at q; cases q
    · rw [if_neg h1]
      by_cases h2 : y' = x
      · rw [h2, hΓ x (by rcases hx with q | q <;> rw [q] <;> decide)] at q; cases q
      · rw [if_neg h2]; exact q
end
end Mine
end
section
open PySem PySem.W PyProof.Rows PySem.SeqAt
set_option Elab.async false
set_option linter.all false
namespace Mine

/-! ## strs as lists of code points -/
noncomputable def st (l : List Nat) : Str := ⟨l.toArray⟩
theorem st_cps (l : List Nat) : (st l).cps.toList = l := rfl
theorem st_length (l : List Nat) : (st l).length = l.length := by simp [st, Str.length]
theorem st_append (a b : List Nat) : st a ++ st b = st (a ++ b) := Str.ext' (by simp [Str.cps_append, st])
theorem st_inj {a b : List Nat} : st a = st b ↔ a = b := ⟨fun h => by have := congrArg (fun x : Str => x.cps.toList) h; simpa [st] using this, fun h => h ▸ rfl⟩
theorem st_beq (a b : List Nat) : (st a == st b) = (a == b) := by
  rw [Bool.eq_iff_iff, beq_iff_eq, beq_iff_eq]; exact st_inj
theorem st_surj (x : Str) : st x.cps.toList = x := Str.ext' (by simp [st])
theorem st_contains (ns : List (List Nat)) (a : List Nat) : (ns.map st).contains (st a) = ns.contains a := by
  induction ns with
  | nil => rfl
  | cons b r ih => rw [List.map_cons, List.contains_cons, List.contains_cons, st_beq, ih]
theorem charAt_st {l : List Nat} {i : Nat} {c : Nat} (h : l[i]? = some c) : Txt.charAt (st l) (i : Int) = some c := by
  unfold Txt.charAt
  exact StrLaws.at_nonneg (by omega) (by simpa [st] using h)
theorem charAt_st' {l : List Nat} {i : Int} {c : Nat} (h0 : 0 ≤ i) (h : l[i.toNat]? = some c) : Txt.charAt (st l) i = some c := by
  unfold Txt.charAt
  exact StrLaws.at_nonneg h0 (by simpa [st] using h)
theorem slice_st (l : List Nat) {a b : Nat} (hab : a ≤ b) (hb : b ≤ l.length) : Txt.slice (st l) (some (a : Int)) (some (b : Int)) = st ((l.drop a).take (b - a)) :=
  StrLaws.sliceText_nat (st l) hab (by rw [st_length]; exact hb)
theorem slice_to (l : List Nat) {b : Nat} (hb : b ≤ l.length) : Txt.slice (st l) none (some (b : Int)) = st (l.take b) := by
  have e : Txt.slice (st l) none (some (b : Int)) = Txt.slice (st l) (some ((0 : Nat) : Int)) (some (b : Int)) := by
    unfold Txt.slice; rw [StrLaws.sliceIdx_none_lo]; rfl
  rw [e, slice_st l (Nat.zero_le _) hb]; rfl
theorem slice_from (l : List Nat) {a : Nat} (ha : a ≤ l.length) : Txt.slice (st l) (some (a : Int)) none = st (l.drop a) := by
  have e : Txt.slice (st l) (some (a : Int)) none = Txt.slice (st l) (some (a : Int)) (some ((st l).length : Int)) := by
    unfold Txt.slice; rw [StrLaws.sliceIdx_none_hi]
  rw [e, st_length, slice_st l ha (Nat.le_refl _), ← List.length_drop, List.take_length]
theorem slice_neg (l : List Nat) {a : Int} (h0 : a < 0) (ha : -(l.length : Int) ≤ a) : Txt.slice (st l) (some a) none = st (l.drop (l.length - (-a).toNat)) := by
  have e : Txt.slice (st l) (some a) none = Txt.slice (st l) (some ((l.length - (-a).toNat : Nat) : Int)) none := by
    unfold Txt.slice
    rw [StrLaws.sliceIdx_neg_lo none (st l).length h0 (by rw [st_length]; exact ha), st_length, show a + (l.length : Int) = ((l.length - (-a).toNat : Nat) : Int) by omega]
  rw [e, slice_from l (by omega)]
theorem contains_one (l : List Nat) (c : Nat) : Txt.contains (st l) (st [c]) = decide (c ∈ l) := StrLaws.found_one (st l) c

open Builtin Builtin.Str StrLaws in
theorem occ_count_run (s : Str) (c limit : Nat) : ∀ (l : List Nat) (st : Array Nat × Nat), (∀ i ∈ l, st.snd ≤ i) → l.Pairwise (· < ·) → st.fst.size + l.length ≤ limit →
    (forIn l st (occBody s ⟨#[c]⟩ s.length limit)).run.fst.size = st.fst.size + (l.filter fun i => s.cps.toList[i]? == some c).length
  | [], st, _, _, _ => rfl
  | a :: l, st, hf, hp, hz => by
    rw [List.forIn_cons]
    unfold occBody
    have hp' := List.pairwise_cons.mp hp
    by_cases h : s.cps.toList[a]? = some c
    · have hc := (subAt_one s c a).mpr h
      rw [if_pos ⟨⟨⟨by simp at hz; omega, hf a List.mem_cons_self⟩, hc.1⟩, hc.2⟩]
      have := occ_count_run s c limit l (st.fst.push a, a + (⟨#[c]⟩ : Str).length) (fun i hi => by have := hp'.1 i hi; show a + 1 ≤ i; omega) hp'.2 (by simp at hz ⊢; omega)
      refine (show _ = _ from this).trans ?_
      rw [List.filter_cons, h]
      simp; omega
    · rw [if_neg fun q => h ((subAt_one s c a).mp ⟨q.1.2, q.2⟩)]
      have := occ_count_run s c limit l st (fun i hi => hf i (List.mem_cons_of_mem _ hi)) hp'.2 (by simp at hz ⊢; omega)
      refine (show _ = _ from this).trans ?_
      rw [List.filter_cons]
      have : (s.cps.toList[a]? == some c) = false := by simpa using h
      rw [this]; rfl
theorem count_idx (c : Nat) : ∀ (l : List Nat), ((List.range (l.length + 1)).filter fun i => l[i]? == some c).length = l.count c
  | [] => rfl
  | a :: l => by
    rw [List.length_cons, List.range_succ_eq_map, List.filter_cons, List.count_cons, ← count_idx c l, List.filter_map]
    have e : ((fun i => (a :: l)[i]? == some c) ∘ Nat.succ) = fun i => l[i]? == some c := by
      funext i; simp
    rw [e]
    have e0 : ((a :: l)[0]? == some c) = (a == c) := by simp
    rw [e0]
    cases a == c <;> simp
theorem occ_count (l : List Nat) (c : Nat) : (Builtin.Str.occurrences (st l) (st [c]) 0 (st l).length ((st l).length + 1)).length = l.count c := by
  rw [StrLaws.occ_eq, Array.length_toList]
  have := occ_count_run (st l) c ((st l).length + 1) (List.range' 0 ((st l).length + 1 - 0)) (#[], 0) (fun i _ => Nat.zero_le i) List.pairwise_lt_range' (by simp)
  refine (show _ = _ from this).trans ?_
  rw [st_cps, st_length, ← List.range_eq_range', Nat.sub_zero, count_idx]
  simp

/-! ## joins -/
theorem join_st (xs : List (List Nat)) : Txt.join (st []) (xs.map st) = st xs.flatten := by
  unfold Txt.join
  rw [StrLaws.glued_eq_join]
  have key : ∀ (xs : List (List Nat)), Str.join (st []) (xs.map st) = st xs.flatten := by
    intro xs
    induction xs with
    | nil => rfl
    | cons a r ih =>
      cases r with
      | nil => simp [Str.join]
      | cons b r =>
        show st a ++ st [] ++ Str.join (st []) ((b :: r).map st) = _
        rw [ih, st_append, st_append]; simp
  exact key xs
theorem joinOk_st (xs : List (List Nat)) (B : Nat) (hB : ∀ y ∈ xs, y.length ≤ B) (hz : xs.length * B ≤ 16777216) : JoinOk (st []) (xs.map st) = true := by
  unfold JoinOk
  rw [Bool.not_eq_true']
  refine StrLaws.joinFits (B := B) (fun y hy => ?_) ?_
  · obtain ⟨l, hl, rfl⟩ := List.mem_map.mp hy
    rw [st_length]; exact hB l hl
  · rw [List.length_map, st_length]; simpa using hz

/-! ## the table of signs -/
noncomputable def tab : List Nat := [97, 45, 98, 95, 37, 43, 58, 44, 46, 47, 64, 61]
noncomputable def sg (i : Nat) : Nat := tab.getD i 0
theorem tab_st : Str.ofString "a-b_%+:,./@=" = st tab := by decide +kernel
theorem qm_st : Str.ofString "?" = st [63] := by decide +kernel
theorem nil_st : Str.ofString "" = st [] := by decide +kernel
end Mine
end
section
open PySem PySem.W PyProof.Rows PySem.SeqAt
set_option Elab.async false
set_option linter.all false
namespace Mine
section
variable {prog : Program} {w : World} {A : Around} {K : Frag} {sc : Scope} {Γ : Ctx'}
theorem len1 {α : Type} {vals : List α} {n : Nat} (h : vals.length = n) (hn : n = 1) : ∃ v, vals = [v] := by
  subst hn
  match vals, h with
  | [v], _ => exact ⟨v, rfl⟩
theorem len2 {α : Type} {vals : List α} {n : Nat} (h : vals.length = n) (hn : n = 2) : ∃ v u, vals = [v, u] := by
  subst hn
  match vals, h with
  | [v, u], _ => exact ⟨v, u, rfl⟩
theorem len3 {α : Type} {vals : List α} {n : Nat} (h : vals.length = n) (hn : n = 3) : ∃ v u x, vals = [v, u, x] := by
  subst hn
  match vals, h with
  | [v, u, x], _ => exact ⟨v, u, x, rfl⟩
theorem filter_tt' {α : Type} (l : List α) : l.filter (fun _ => true) = l := List.filter_eq_self.mpr fun _ _ => rfl
/-- range(n) -/
theorem et_range {e : Expr} {p pos : Pos} {n : Int} (hk : sc.names.lookup (Str.ofString "range") = some .globalImplicit) (hg : nsIn K mainGlobals (Str.ofString "range") = some none) (h : Et prog w K A sc Γ e (I n)) (hse : ∀ env, starEach [e] env = (false, eval e env) :: starEach [] env := by intro _; rfl) :
    Et prog w K A sc Γ (.Call (.Name (Str.ofString "range") p) [e] [] pos) (Rg n) :=
  et_call (et_globb hk hg (by decide +kernel)) (.inr (.inr ⟨_, rfl⟩)) (.cons h hse .nil) fun b V vs _ f => range_body b V vs f
end

noncomputable def prs (x : Int) : List (Nat × Nat) := (List.range 5).map fun (p : Nat) => (sg ((x + 2 * (p : Int)).fmod 12).toNat, sg ((x + 2 * (p : Int) + 1).fmod 12).toNat)
noncomputable def PR1 (q : Nat × Nat) : Sp := LS [st [q.1], st [q.2]]
noncomputable def PRS (ps : List (Nat × Nat)) : Sp := L (ps.map PR1)
theorem fits12 (i : Int) : fitsSsize (i.fmod 12) = true := by
  have h0 : 0 ≤ i.fmod 12 := Int.fmod_nonneg_of_pos i (by decide)
  have h1 : i.fmod 12 < 12 := Int.fmod_lt_of_pos i (by decide)
  unfold fitsSsize
  simp; omega
theorem sg_at (i : Int) : ∃ c, tab[(i.fmod 12).toNat]? = some c ∧ sg (i.fmod 12).toNat = c := by
  have h0 : 0 ≤ i.fmod 12 := Int.fmod_nonneg_of_pos i (by decide)
  have h1 : i.fmod 12 < 12 := Int.fmod_lt_of_pos i (by decide)
  have : (i.fmod 12).toNat < tab.length := by show _ < 12; omega
  refine ⟨tab[(i.fmod 12).toNat], by simp [this], by simp [sg, List.getD_eq_getElem?_getD, this]⟩

section
variable {w : World}
set_option pp.deepTerms false in
set_option pp.deepTerms.threshold 8 in
set_option maxRecDepth 100000 in
theorem pairs_ok {x : Int} (hx0 : 0 ≤ x) (hx : x < 2 ^ 40) (A : Around) (b : Heap) (V : LG) (vs : List Value) (hA : OkA 1 A) (hW : Wd (KK w) b) (hfit : Fit V [I x] vs) :
    Ev PR w A b V (call (.ref 101) vs) (PRS (prs x)) := by
  refine con_entry (d := 0) (a := 101) (o := ?o) (fd := ?fd) (body := ?body) (sc := ?sc) (xs := [Str.ofString "x"]) (Ps := [I x]) (R := PRS (prs x)) (K := KK w) ?hK ?hd ?hb ?hs ?hc ?hcl ?hgl ?hbu ?hst rfl ?hbind ?hT A b V vs hA hW hfit
  case hK => rfl
  case hd => rfl
  case hb => rfl
  case hs => (dsimp only; rfl)
  case hc => rfl
  case hcl => rfl
  case hgl => rfl
  case hbu => rfl
  case hst => decide +kernel
  case hbind => intro vals hv; obtain ⟨v, rfl⟩ := len1 hv rfl; rfl
  case hT =>
    intro env h₀ V₀ A' hsc hA'
    refine tri_cons (tri_assign hsc et_str (.inr ⟨rfl, rfl⟩) (by intro _ _; rfl)) ?_
    refine tri_cons (tri_return hsc ?_) tri_nil
    have e : PRS (prs x) = L (((List.range 5).filter fun _ => true).map fun (p : Nat) => PR1 (sg ((x + 2 * (p : Int)).fmod 12).toNat, sg ((x + 2 * (p : Int) + 1).fmod 12).toNat)) := by
      rw [filter_tt']; simp only [PRS, prs, List.map_map]; rfl
    rw [e, tab_st]
    refine et_comp _ (Qf := fun (i : Nat) => I i) (src_range hA'.handled (et_range rfl rfl et_int) (by decide) (by decide)) (by decide) (fun _ _ => ts_nil) fun d hd _ => ?_
    have hd : d < 5 := by simpa using hd
    refine et_list (.cons ?_ (fun _ => rfl) (.cons ?_ (fun _ => rfl) .nil)) (by rw [sizeLine_eq]; exact (by decide : 2 ≤ 16777216))
    · obtain ⟨c, h1, h2⟩ := sg_at (x + 2 * d)
      rw [h2]
      exact et_item_str (et_name rfl) (et_mod_int (et_add_int (et_name rfl) (et_mul_int et_int (et_name rfl) (IntMulOk.of_left (by decide)))) et_int (by decide)) (fits12 _) (charAt_st' (Int.fmod_nonneg_of_pos _ (by decide)) h1)
    · obtain ⟨c, h1, h2⟩ := sg_at (x + 2 * d + 1)
      rw [h2]
      exact et_item_str (et_name rfl) (et_mod_int (et_add_int (et_add_int (et_name rfl) (et_mul_int et_int (et_name rfl) (IntMulOk.of_left (by decide)))) et_int) et_int (by decide)) (fits12 _) (charAt_st' (Int.fmod_nonneg_of_pos _ (by decide)) h1)
end
end Mine
end
section
open PySem PySem.W PyProof.Rows PySem.SeqAt
set_option Elab.async false
set_option linter.all false
namespace Mine
section
variable {prog : Program} {w : World} {A : Around} {K : Frag} {sc : Scope} {Γ : Ctx'}
/-- len(x) -/
theorem et_len_list {e : Expr} {p pos : Pos} {Ps : List Sp} (hz : Ps.length < 2 ^ 62) (hk : sc.names.lookup (Str.ofString "len") = some .globalImplicit) (hg : nsIn K mainGlobals (Str.ofString "len") = some none) (h : Et prog w K A sc Γ e (L Ps)) (hse : ∀ env, starEach [e] env = (false, eval e env) :: starEach [] env := by intro _; rfl) :
    Et prog w K A sc Γ (.Call (.Name (Str.ofString "len") p) [e] [] pos) (I Ps.length) :=
  et_call (et_globb hk hg (by decide +kernel)) (.inr (.inl ⟨_, rfl⟩)) (.cons h hse .nil) fun b V vs _ f => len_body_list hz b V vs f
theorem et_len_str {e : Expr} {p pos : Pos} {l : List Nat} (hz : l.length < 2 ^ 62) (hk : sc.names.lookup (Str.ofString "len") = some .globalImplicit) (hg : nsIn K mainGlobals (Str.ofString "len") = some none) (h : Et prog w K A sc Γ e (S (st l))) (hse : ∀ env, starEach [e] env = (false, eval e env) :: starEach [] env := by intro _; rfl) :
    Et prog w K A sc Γ (.Call (.Name (Str.ofString "len") p) [e] [] pos) (I l.length) := by
  rw [← st_length l]
  exact et_call (et_globb hk hg (by decide +kernel)) (.inr (.inl ⟨_, rfl⟩)) (.cons h hse .nil) fun b V vs (_ : Wd K b) f => len_body_str (prog := prog) (w := w) (A := A) (by rw [st_length]; exact hz) b V vs f
/-- a str's sign -/
theorem et_sign {e i : Expr} {pos : Pos} {l : List Nat} {k : Int} {c : Nat} (h1 : Et prog w K A sc Γ e (S (st l))) (h2 : Et prog w K A sc Γ i (I k)) (h0 : 0 ≤ k) (hk : k < 2 ^ 62) (hc : l[k.toNat]? = some c) :
    Et prog w K A sc Γ (.Subscript e i pos) (S (st [c])) :=
  et_item_str h1 h2 (by unfold fitsSsize; simp; omega) (charAt_st' h0 hc)
theorem et_eq_mono {e : Expr} {P Q : Sp} (h : Et prog w K A sc Γ e P) (hp : ∀ V v, P.p V v → Q.p V v) : Et prog w K A sc Γ e Q := fun env b V hsc F => (h env b V hsc F).mono fun V' r _ p => hp V' r p
theorem tt_of_bool {e : Expr} {t : Bool} (h : Et prog w K A sc Γ e (B t)) (hw : ∀ env whole, isTrue e env whole = (do let v ← whole; standAt e.pos; holding [v] (truthy v)) := by intro _ _; rfl) : Tt prog w K A sc Γ e t := tt_plain h tr_bool hw
theorem tt_and1 {e : Expr} {pos : Pos} {t : Bool} (h : Tt prog w K A sc Γ e t) : Tt prog w K A sc Γ (.BoolOp .And [e] pos) t := by
  have := tt_and (pos := pos) h fun _ => tt_and_nil
  rwa [Bool.and_true] at this
theorem tt_or1 {e : Expr} {pos : Pos} {t : Bool} (h : Tt prog w K A sc Γ e t) : Tt prog w K A sc Γ (.BoolOp .Or [e] pos) t := by
  have := tt_or (pos := pos) h fun _ => tt_or_nil
  rwa [Bool.or_false] at this
theorem tri_false {t : Sem Flow} {N : As} {R : Value → As} : Tri prog w A (fun _ _ => False) t N R := fun _ _ _ _ h => h.elim
/-- if e: ..return; then the rest -/
theorem tri_if_ret {e : Expr} {pos : Pos} {P' N : As} {R : Value → As} {env : Env} {t : Bool} {body rest : List Stmt} (ok : OkAs P') (ht : TtA prog w A env P' e t) (h1 : t = true → Tri prog w A P' (execs body env) (fun _ _ => False) R)
    (h2 : t = false → Tri prog w A P' (execs rest env) N R) : Tri prog w A P' (execs (.If e body [] pos :: rest) env) N R := by
  cases t with
  | true => exact tri_cons (tri_if ok ht h1 fun q => by cases q) tri_false
  | false => exact tri_cons (tri_if ok ht (fun q => by cases q) fun _ => tri_nil) (h2 rfl)
theorem OkA.cl {d : Nat} (h : OkA d A) : A.units + 64 < cLine := by have := h.units; unfold cLine; omega
end

noncomputable def PT : Option Nat → Sp
  | none => N
  | some c => S (st [c])
noncomputable def ob (o : Option Nat) (x : Nat) : Bool := match o with
  | none => false
  | some c => [c] != [x]
noncomputable def bad (parts : List (Option Nat)) (nm : List Nat) (k : Nat) : Bool := match parts[k]? with
  | some o => ob o (nm.getD k 0)
  | none => false
noncomputable def taken (parts : List (Option Nat)) (nm : List Nat) : Bool := parts.length == nm.length && ((List.range nm.length).filter (bad parts nm)).isEmpty

section
variable {w : World}
set_option pp.deepTerms false in
set_option pp.deepTerms.threshold 8 in
set_option maxRecDepth 100000 in
theorem taken_ok {parts : List (Option Nat)} {nm : List Nat} (hz1 : parts.length ≤ 1000) (hz2 : nm.length ≤ 1000) (A : Around) (b : Heap) (V : LG) (vs : List Value) (hA : OkA 1 A) (hW : Wd (KK w) b) (hfit : Fit V [L (parts.map PT), S (st nm)] vs) :
    Ev PR w A b V (call (.ref 118) vs) (B (taken parts nm)) := by
  refine con_entry (d := 0) (a := 118) (o := ?o) (fd := ?fd) (body := ?body) (sc := ?sc) (xs := [Str.ofString "parts", Str.ofString "name"]) (Ps := [L (parts.map PT), S (st nm)]) (R := B (taken parts nm)) (K := KK w) ?hK ?hd ?hb ?hs ?hc ?hcl ?hgl ?hbu ?hst rfl ?hbind ?hT A b V vs hA hW hfit
  case hK => rfl
  case hd => rfl
  case hb => rfl
  case hs => (dsimp only; rfl)
  case hc => rfl
  case hcl => rfl
  case hgl => rfl
  case hbu => rfl
  case hst => decide +kernel
  case hbind => intro vals hv; obtain ⟨v, u, rfl⟩ := len2 hv rfl; rfl
  case hT =>
    intro env h₀ V₀ A' hsc hA'
    have hlp : (parts.map PT).length = parts.length := List.length_map ..
    refine tri_if_ret (t := cmpI .NotEq parts.length nm.length) ok_at (tta hsc (tt_cmp_int (hlp ▸ et_len_list (by omega) rfl rfl (et_name rfl)) (et_len_str (by omega) rfl rfl (et_name rfl)))) (fun ht => ?_) fun ht => ?_
    · have hne : ¬ parts.length = nm.length := fun q => by rw [q] at ht; simp [cmpI] at ht
      have e : taken parts nm = false := by
        unfold taken
        simp [hne]
      rw [e]
      exact tri_cons (tri_return hsc et_bool) tri_nil
    · have hl : parts.length = nm.length := by
        have := ht
        unfold cmpI at this
        simp at this; omega
      have e : taken parts nm = decide (((List.range nm.length).filter (bad parts nm)).map (fun (k : Nat) => (k : Int)) = []) := by
        unfold taken
        rw [hl]
        cases (List.range nm.length).filter (bad parts nm) <;> simp
      rw [e]
      refine tri_cons (tri_return hsc (et_eq_ints hA'.cl ?_ (et_list .nil (by simp)))) tri_nil
      unfold LI
      rw [List.map_map]
      refine et_comp _ (Qf := fun (i : Nat) => I i) (src_range hA'.handled (et_range rfl rfl (et_len_str (by omega) rfl rfl (et_name rfl))) (by omega) (by omega)) (by simp; omega) (fun d hd => ts_one ?_) fun d _ _ => et_name rfl
      have hd : d < nm.length := by simpa using hd
      obtain ⟨o, ho⟩ : ∃ o, parts[d]? = some o := ⟨parts[d]'(by omega), by simp [hl, hd]⟩
      have hoP : (parts.map PT)[((d : Int)).toNat]? = some (PT o) := by simp [ho]
      have hn : nm[((d : Int)).toNat]? = some (nm.getD d 0) := by simp [List.getD_eq_getElem?_getD, hd]
      have hb : bad parts nm d = (!(decide (o = none)) && ob o (nm.getD d 0)) := by
        unfold bad; rw [ho]; cases o <;> rfl
      rw [hb]
      refine tt_and (tt_isnot (et_item (et_name rfl) (et_name rfl) (by omega) hoP (by omega)) et_none fun V v1 v2 p1 p2 => ?_) fun ht => ?_
      · have p2' : v2 = .none := p2
        subst p2'
        cases o with
        | none => have p1' : v1 = .none := p1; subst p1'; exact ⟨rfl, rfl⟩
        | some c => obtain ⟨t, rfl⟩ := p1; exact ⟨rfl, rfl⟩
      · cases o with
        | none => simp at ht
        | some c =>
          have e2 : ob (some c) (nm.getD d 0) = cmpS .NotEq (st [c]) (st [nm.getD d 0]) := by
            show (!([c] == [nm.getD d 0])) = !(st [c] == st [nm.getD d 0]); rw [st_beq]
          rw [e2]
          exact tt_and1 (tt_cmp_str (et_item (et_name rfl) (et_name rfl) (by omega) hoP (by omega)) (et_sign (et_name rfl) (et_name rfl) (by omega) (by omega) hn))
end
end Mine
end
section
open PySem PySem.W PyProof.Rows PySem.SeqAt
set_option Elab.async false
set_option linter.all false
namespace Mine
section
variable {prog : Program} {w : World} {A : Around} {K : Frag} {ow : Str → Prop} {h₀ h h' b b₀ : Heap} {V₀ V V' : LG} {env : Env} {sc : Scope} {Γ Γ' : Ctx'} {O : OwnT} {l r e : Expr} {pos px : Pos} {x y : Str} {P P1 P2 : Sp} {R : Value → As} {N N' P' : As}

/-! ### contexts -/
noncomputable def Has (Γ : Ctx') : List (Str × Sp) → Prop
  | [] => True
  | p :: r => Γ p.1 = some p.2 ∧ Has Γ r
theorem Has.mem : ∀ {l : List (Str × Sp)}, Has Γ l → ∀ p ∈ l, Γ p.1 = some p.2
  | [], _, p, h => by cases h
  | q :: r, ⟨a, b⟩, p, h => by
    rcases List.mem_cons.mp h with rfl | h
    · exact a
    · exact Has.mem b p h
theorem Has.sub {l : List (Str × Sp)} (h : Has Γ l) : ∀ y P, ctxOf l y = some P → Γ y = some P := fun y P e => h.mem (y, P) (mem_of_lookup e)
theorem tri_ctx {l : List (Str × Sp)} {t : Sem Flow} (hh : Has Γ l) (h : Tri prog w A (At K ow h₀ V₀ env (ctxOf l) O) t N R) : Tri prog w A (At K ow h₀ V₀ env Γ O) t N R := tri_pre (fun _ _ q => q.weak hh.sub) h
theorem tri_end {l : List (Str × Sp)} (hh : Has Γ l) : Tri prog w A (At K ow h₀ V₀ env Γ O) (execs [] env) (At K ow h₀ V₀ env (ctxOf l) O) R := tri_ctx hh tri_nil

theorem tri_step (l : List (Str × Sp)) (O' : OwnT) {st : Stmt} {rest : List Stmt} (h1 : Tri prog w A (At K ow h₀ V₀ env Γ O) (exec st env) (At K ow h₀ V₀ env (ctxOf l) O') R)
    (h2 : Tri prog w A (At K ow h₀ V₀ env (ctxOf l) O') (execs rest env) N' R) : Tri prog w A (At K ow h₀ V₀ env Γ O) (execs (st :: rest) env) N' R := tri_cons h1 h2

/-! ### pairs -/
noncomputable def pairOk (targets : List Expr) (value : Expr) (pos : Pos) (sc : Scope) (xs : List Str) : Prop :=
  ∀ env, env.scope = sc → swapsWithSole targets value pos.line env = pure false ∧ swappedStores targets value env = pure (some xs)

/-- x, y = (e1, e2) -/
theorem tri_assign2 {e1 e2 : Expr} {py tp vp : Pos} {k1 k2 : Nat} (hh : A.handled = none) (hsc : env.scope = sc) (h1 : Ets prog w K A sc Γ [e1, e2] [P1, P2])
    (hx : sc.names.lookup x = some .local) (hy : sc.names.lookup y = some .local) (hp : pairOk [.Tuple [.Name x px, .Name y py] k1 tp] (.Tuple [e1, e2] k2 vp) pos sc [x, y]) :
    Tri prog w A (At K ow h₀ V₀ env Γ O) (exec (.Assign [.Tuple [.Name x px, .Name y py] k1 tp] (.Tuple [e1, e2] k2 vp) pos) env) (At K ow h₀ V₀ env (upd (upd Γ y P2) x P1) O) R := by
  intro s V Q E hP kN kR
  refine Assign_Tuple_swapped ?_ (hp env hsc).1 (hp env hsc).2
  refine et_tuple h1 (by rw [sizeLine_eq]; exact (by decide : 2 ≤ 16777216)) env s.heap V hsc hP.fr.ok hP.fr.sub s _ E (Ext.refl _) fun v h₁ tk₁ V₁ g₁ p₁ => ?_
  obtain ⟨t, vs, rfl, q1, q2⟩ := p₁
  obtain ⟨v1, v2, rfl, p1, p2⟩ := fit2 q2
  have A1 := hP.grow g₁
  refine unpackItems_tuple (s := { s with heap := h₁, toks := tk₁ }) (items := #[v1, v2]) hh ⟨_, (g₁.sub _ _ q1).1, rfl, _, rfl⟩ fun h₂ he₂ => ?_
  have ext2 : Ext h₁ h₂ := fun a o e => he₂ a o (fun q => Nat.lt_irrefl _ (q ▸ Heap.lt_size e)) e
  have A2 := A1.grow (.of_ext A1.fr.sub ext2)
  show wpAny _ _ (do holding [v1] (bindName env y v2); (do holding [] (bindName env x v1); pure ())) _ _ _
  refine wpAny_bind (wpAny_holding (bindName_ (A2.fr.store (s := { s with heap := h₂, toks := tk₁ }) (by unfold Env.kindOf; rw [hsc]; exact .inl hy) p2 fun h₃ tk₃ F3 kp3 => ?_)))
  refine wpAny_bind (wpAny_holding (bindName_ (F3.store (s := { s with heap := h₃, toks := tk₃ }) (by unfold Env.kindOf; rw [hsc]; exact .inl hx) p1 fun h₄ tk₄ F4 kp4 => wpAny_pure ?_)))
  exact kN h₄ tk₄ V₁ (((Stp.of_grow g₁).trans (.of_kx (Kx.of_ext ext2))).trans ((Stp.of_kp kp3).trans (.of_kp kp4))) ⟨F4, A2.le, A2.new, (A2.own.kp kp3).kp kp4⟩

/-- x, y = ([], e2): x the own list -/
theorem tri_newown2 {e2 : Expr} {py tp vp lp : Pos} {k1 k2 : Nat} (hh : A.handled = none) (hsc : env.scope = sc) (h2 : Et prog w K A sc Γ e2 P2) (hse : ∀ env, starEach [e2] env = [(false, eval e2 env)])
    (hx : sc.names.lookup x = some .local) (hy : sc.names.lookup y = some .local) (hp : pairOk [.Tuple [.Name x px, .Name y py] k1 tp] (.Tuple [.List [] lp, e2] k2 vp) pos sc [x, y]) :
    Tri prog w A (At K ow h₀ V₀ env Γ O) (exec (.Assign [.Tuple [.Name x px, .Name y py] k1 tp] (.Tuple [.List [] lp, e2] k2 vp) pos) env) (fun V h => ∃ a, At K ow h₀ V₀ env (upd (upd Γ y P2) x (Vl (.ref a))) (some (a, [])) V h) R := by
  intro s V Q E hP kN kR
  refine Assign_Tuple_swapped ?_ (hp env hsc).1 (hp env hsc).2
  rw [arm_eval_Tuple]
  have e0 : starEach [.List [] lp, e2] env = (false, eval (.List [] lp) env) :: starEach [e2] env := rfl
  rw [e0, hse]
  show wpAny _ _ (standAt vp >>= fun _ => spliced ((false, eval (.List [] lp) env) :: backTo vp [(false, eval e2 env)]) >>= fun vs => newTuple vs) _ _ _
  refine wpAny_bind (wpAny_standAt (wpAny_bind ?_))
  rw [spliced]
  refine wpAny_bind ?_
  rw [arm_eval_List]
  refine wpAny_bind (wpAny_standAt (wpAny_bind ?_))
  show wpAny (model prog w) A (spliced []) _ E s
  refine Calls.spliced_nil ?_
  refine wpAny_newObj_type (T := "list") ?_ (by show ([] : List Value).toArray.size ≤ sizeLine; rw [sizeLine_eq]; decide)
  generalize hH3 : s.heap.push { cls := .type "list", dict := none, data := .seq ([] : List Value).toArray } = H3
  have ext3 : Ext s.heap H3 := hH3 ▸ Ext.push _ _
  have hD3 : H3.get? s.heap.objs.size = some (lobj [] 0) := hH3 ▸ Heap.get?_push_size _ rfl
  have A1 := hP.grow (.of_ext hP.fr.sub ext3)
  simp only [Bool.false_eq_true, if_false]
  refine wpAny_bind (wpAny_pure ?_)
  refine wpAny_bind (wpAny_holding ?_)
  have A1' : At K ow h₀ V₀ env Γ (some (s.heap.objs.size, [])) V H3 := ⟨A1.fr, A1.le, A1.new, [], 0, hD3, hP.fr.sub.fresh (fresh_size _), none_of_ext hP.fr.base (fresh_size _), .nil⟩
  show wpAny (model prog w) A (spliced [(false, eval e2 env)]) _ E { s with heap := H3 }
  rw [spliced]
  refine wpAny_bind (h2 env H3 V hsc A1'.fr.ok A1'.fr.sub { s with heap := H3 } _ E (Ext.refl _) fun v2 h₁ tk₁ V₁ g₁ p2 => ?_)
  have A2 := A1'.grow g₁
  simp only [Bool.false_eq_true, if_false]
  refine wpAny_bind (wpAny_pure ?_)
  refine wpAny_bind (wpAny_holding ?_)
  refine Calls.spliced_nil ?_
  refine wpAny_pure (wpAny_pure ?_)
  show wpAny _ _ (newTuple [.ref s.heap.objs.size, v2]) _ _ _
  refine wpAny_newTuple ?_ (by rw [sizeLine_eq]; exact (by decide : 2 ≤ 16777216))
  dsimp only
  generalize hH4 : h₁.push { cls := .type "tuple", dict := none, data := .seq [Value.ref s.heap.objs.size, v2].toArray } = H4
  have ext4 : Ext h₁ H4 := hH4 ▸ Ext.push _ _
  have hT4 : H4.get? h₁.objs.size = some (tobj [.ref s.heap.objs.size, v2]) := hH4 ▸ Heap.get?_push_size _ rfl
  have A3 := A2.grow (.of_ext A2.fr.sub ext4)
  refine unpackItems_tuple (s := { s with heap := H4, toks := tk₁ }) (items := #[.ref s.heap.objs.size, v2]) hh ⟨_, hT4, rfl, _, rfl⟩ fun h₂ he₂ => ?_
  have ext2 : Ext H4 h₂ := fun a o e => he₂ a o (fun q => Nat.lt_irrefl _ (q ▸ Heap.lt_size e)) e
  have A4 := A3.grow (.of_ext A3.fr.sub ext2)
  show wpAny _ _ (do holding [.ref s.heap.objs.size] (bindName env y v2); (do holding [] (bindName env x (.ref s.heap.objs.size)); pure ())) _ _ _
  refine wpAny_bind (wpAny_holding (bindName_ (A4.fr.store (s := { s with heap := h₂, toks := tk₁ }) (by unfold Env.kindOf; rw [hsc]; exact .inl hy) p2 fun h₃ tk₃ F3 kp3 => ?_)))
  refine wpAny_bind (wpAny_holding (bindName_ (F3.store (s := { s with heap := h₃, toks := tk₃ }) (P := Vl (.ref s.heap.objs.size)) (by unfold Env.kindOf; rw [hsc]; exact .inl hx) rfl fun h₄ tk₄ F4 kp4 => wpAny_pure ?_)))
  exact kN h₄ tk₄ V₁ ((((Stp.of_kx (Kx.of_ext ext3)).trans (Stp.of_grow g₁)).trans (.of_kx (Kx.of_ext (ext4.trans ext2)))).trans ((Stp.of_kp kp3).trans (.of_kp kp4))) ⟨_, F4, A4.le, A4.new, (A4.own.kp kp3).kp kp4⟩

/-- x += e, ints -/
theorem tri_aug_int {i j : Int} (hsc : env.scope = sc) (hx : sc.names.lookup x = some .local) (hi : Γ x = some (I i)) (he : Et prog w K A sc Γ e (I j)) :
    Tri prog w A (At K ow h₀ V₀ env Γ O) (exec (.AugAssign (.Name x px) .Add e pos) env) (At K ow h₀ V₀ env (upd Γ x (I (i + j))) O) R := by
  intro s V Q E hP kN kR
  refine wpAny_AugAssign_Name ?_
  obtain ⟨v, hb, t, rfl⟩ := hP.fr.ok.vars x _ hi
  refine hb.load hP.fr.ok.kind ?_
  refine he env s.heap V hsc hP.fr.ok hP.fr.sub s _ E (Ext.refl _) fun v h₁ tk₁ V₁ g₁ p₁ => ?_
  obtain ⟨u, rfl⟩ := p₁
  have A1 := hP.grow g₁
  refine wpAny_iadd_int ?_
  refine A1.fr.store (P := I (i + j)) (s := { s with heap := h₁, toks := tk₁ + 1 }) (by unfold Env.kindOf; rw [hsc]; exact .inl hx) ⟨_, rfl⟩ fun h₂ tk₂ F2 kp => ?_
  exact kN h₂ tk₂ V₁ ((Stp.of_grow g₁).trans (.of_kp kp)) ⟨F2, A1.le, A1.new, A1.own.kp kp⟩
end
end Mine
end
section
open PySem PySem.W PyProof.Rows PySem.SeqAt
set_option Elab.async false
set_option linter.all false
namespace Mine

/-! ## the text of a pattern as a regular expression -/
noncomputable def ab : List Nat := tab ++ [63]
noncomputable def esc (c : Nat) : List Nat := if c = 63 then [46] else if c = 45 ∨ c = 43 ∨ c = 46 then [92, c] else [c]
noncomputable def rx (pat : List Nat) : List Nat := [40, 63, 115, 58] ++ pat.flatMap esc ++ [41, 92, 90]
noncomputable def po (c : Nat) : Option Nat := if c = 63 then none else some c
noncomputable def specials : List Nat := [40, 41, 91, 93, 42, 43, 63, 123, 124, 94, 36]
theorem specials_st : Str.ofString "()[]*+?{|^$" = st specials := by decide +kernel
theorem dot_st : Str.ofString "." = st [46] := by decide +kernel
theorem bs_st : Str.ofString "\\" = st [92] := by decide +kernel
theorem head_st : Str.ofString "(?s:" = st [40, 63, 115, 58] := by decide +kernel
theorem tail_st : Str.ofString ")\\Z" = st [41, 92, 90] := by decide +kernel
theorem esc_len (c : Nat) : (esc c).length = 1 ∨ (esc c).length = 2 := by
  unfold esc; split
  · exact .inl rfl
  · split
    · exact .inr rfl
    · exact .inl rfl
theorem flat_len (pat : List Nat) : (pat.flatMap esc).length ≤ 2 * pat.length := by
  induction pat with
  | nil => simp
  | cons c r ih => rw [List.flatMap_cons, List.length_append, List.length_cons]; rcases esc_len c with h | h <;> omega
theorem flat_take {pat : List Nat} {i c : Nat} (h : pat[i]? = some c) : (pat.take (i + 1)).flatMap esc = (pat.take i).flatMap esc ++ esc c := by
  rw [List.take_add_one, h, List.flatMap_append]; simp
theorem flat_split {pat : List Nat} {i c : Nat} (h : pat[i]? = some c) : rx pat = ([40, 63, 115, 58] ++ (pat.take i).flatMap esc) ++ (esc c ++ ((pat.drop (i + 1)).flatMap esc ++ [41, 92, 90])) := by
  have e : pat = pat.take i ++ (c :: pat.drop (i + 1)) := by
    obtain ⟨hlt, he⟩ := List.getElem?_eq_some_iff.mp h
    rw [← he, ← List.drop_eq_getElem_cons hlt, List.take_append_drop]
  unfold rx
  conv => lhs; rw [e]
  simp [List.flatMap_append, List.flatMap_cons, List.append_assoc]
theorem rx_at {pat : List Nat} {i c : Nat} (h : pat[i]? = some c) (j : Nat) (x : Nat) (hx : (esc c)[j]? = some x) : (rx pat)[4 + ((pat.take i).flatMap esc).length + j]? = some x := by
  rw [flat_split h]
  obtain ⟨hlt, _⟩ := List.getElem?_eq_some_iff.mp hx
  rw [List.getElem?_append_right (by simp; omega)]
  have e : 4 + ((pat.take i).flatMap esc).length + j - (([40, 63, 115, 58] : List Nat) ++ (pat.take i).flatMap esc).length = j := by
    simp only [List.length_append, List.length_cons, List.length_nil]; omega
  rw [e]
  rw [List.getElem?_append_left hlt, hx]
theorem rx_len (pat : List Nat) : (rx pat).length = 7 + (pat.flatMap esc).length := by unfold rx; simp; omega

theorem esc_cases : ∀ c ∈ ab, (c = 63 ∧ esc c = [46]) ∨ (c ≠ 63 ∧ esc c = [92, c] ∧ c ≠ 92) ∨ (c ≠ 63 ∧ esc c = [c] ∧ c ≠ 46 ∧ c ≠ 92 ∧ c ∉ specials) := by decide

theorem tt_eqv {prog : Program} {w : World} {A : Around} {K : Frag} {sc : Scope} {Γ : Ctx'} {e : Expr} {t u : Bool} (h : t = u) (ht : Tt prog w K A sc Γ e t) : Tt prog w K A sc Γ e u := h ▸ ht

section
variable {w : World}
set_option pp.deepTerms false in
set_option pp.deepTerms.threshold 8 in
set_option maxRecDepth 100000 in
theorem parts_ok {pat : List Nat} (hz : pat.length ≤ 1000) (hab : ∀ c ∈ pat, c ∈ ab) (A : Around) (b : Heap) (V : LG) (vs : List Value) (hA : OkA 1 A) (hW : Wd (KK w) b) (hfit : Fit V [S (st (rx pat))] vs) :
    Ev PR w A b V (call (.ref 113) vs) (L ((pat.map po).map PT)) := by
  refine con_entry (d := 0) (a := 113) (o := ?o) (fd := ?fd) (body := ?body) (sc := ?sc) (xs := [Str.ofString "text"]) (Ps := [S (st (rx pat))]) (R := L ((pat.map po).map PT)) (K := KK w) ?hK ?hd ?hb ?hs ?hc ?hcl ?hgl ?hbu ?hst rfl ?hbind ?hT A b V vs hA hW hfit
  case hK => rfl
  case hd => rfl
  case hb => rfl
  case hs => (dsimp only; rfl)
  case hc => rfl
  case hcl => rfl
  case hgl => rfl
  case hbu => rfl
  case hst => decide +kernel
  case hbind => intro vals hv; obtain ⟨v, rfl⟩ := len1 hv rfl; rfl
  case hT =>
    intro env h₀ V₀ A' hsc hA'
    have hrl := rx_len pat
    have hfl := flat_len pat
    refine tri_cons (tri_newown2 hA'.handled hsc et_int (fun _ => rfl) rfl rfl (fun env h => ⟨by rfl, by unfold swappedStores Env.blockKind Env.kindOf; rw [h]; rfl⟩)) (tri_ex fun a => ?_)
    refine tri_cons (tri_while pat.length (fun i => ctxOf [(Str.ofString "text", S (st (rx pat))), (Str.ofString "parts", Vl (.ref a)), (Str.ofString "k", I ((4 + ((pat.take i).flatMap esc).length : Nat) : Int))]) (fun i => some (a, ((pat.take i).map po).map PT)) (Has.sub ⟨rfl, rfl, rfl, trivial⟩) rfl (fun i hi => ?_) fun i hi => ?_) ?_
    · have hlt : decide (i < pat.length) = cmpI .Lt ((4 + ((pat.take i).flatMap esc).length : Nat) : Int) (((rx pat).length : Int) - 3) := by
        show _ = decide _
        rw [decide_eq_decide]
        by_cases h : i < pat.length
        · have h2 := congrArg List.length (flat_split (pat := pat) (i := i) (c := pat[i]) (by simp [h]))
          simp only [List.length_append, List.length_cons, List.length_nil] at h2
          have := esc_len pat[i]
          constructor <;> intro _ <;> omega
        · have : pat.take i = pat := List.take_of_length_le (by omega)
          rw [this]
          constructor <;> intro _ <;> omega
      rw [hlt]
      exact tta hsc (tt_cmp_int (et_name rfl) (et_sub_int (et_len_str (by omega) rfl rfl (et_name rfl)) et_int))
    · have hc : pat[i]? = some pat[i] := by simp [hi]
      generalize pat[i] = c at hc
      have hcm : c ∈ ab := hab c (List.mem_of_getElem? hc)
      have hk1 : (pat.map po)[i]? = some (po c) := by simp [hc]
      have hflt : ((pat.take i).flatMap esc).length ≤ 2000 := by
        have := flat_len (pat.take i); have := List.length_take_le i pat; omega
      have hprev : (((pat.take i).map po).map PT).length ≤ 1000000 := by simp; omega
      have hnext : ((pat.take (i + 1)).map po).map PT = ((pat.take i).map po).map PT ++ [PT (po c)] := by
        rw [List.take_add_one, hc]; simp
      rw [hnext]
      have hkn : (4 + ((pat.take (i + 1)).flatMap esc).length : Nat) = 4 + ((pat.take i).flatMap esc).length + (esc c).length := by
        rw [flat_take hc, List.length_append]; omega
      rw [hkn]
      generalize hq : ((pat.take i).flatMap esc).length = q at *
      have text_at : ∀ (j x : Nat) (Γ : Ctx') (e1 e2 : Expr) (pos : Pos) (k : Int), k = ((4 + q + j : Nat) : Int) → Et PR w (KK w) A' env.scope Γ e1 (S (st (rx pat))) → Et PR w (KK w) A' env.scope Γ e2 (I k) → (esc c)[j]? = some x → Et PR w (KK w) A' env.scope Γ (.Subscript e1 e2 pos) (S (st [x])) := by
        intro j x Γ e1 e2 pos k hk h1 h2 hj
        have hx := rx_at hc j x hj
        rw [hq] at hx
        have hjl : j < 2 := by have := (List.getElem?_eq_some_iff.mp hj).1; rcases esc_len c with h | h <;> omega
        exact et_sign h1 h2 (by omega) (by omega) (by rw [hk, Int.toNat_natCast]; exact hx)
      rw [hsc] at text_at
      have hin : ∀ x, cmpS .In (st [x]) (Str.ofString "()[]*+?{|^$") = decide (x ∈ specials) := fun x => by rw [specials_st]; exact contains_one specials x
      have hdot : ∀ x, cmpS .Eq (st [x]) (Str.ofString ".") = decide (x = 46) := fun x => by rw [dot_st]; show (st [x] == st [46]) = _; rw [st_beq, Bool.eq_iff_iff]; simp
      have hbs : ∀ x, cmpS .Eq (st [x]) (Str.ofString "\\") = decide (x = 92) := fun x => by rw [bs_st]; show (st [x] == st [92]) = _; rw [st_beq, Bool.eq_iff_iff]; simp
      rcases esc_cases c hcm with ⟨hc1, hc2⟩ | ⟨hc1, hc2, hc3⟩ | ⟨hc1, hc2, hc3, hc4, hc5⟩
      · rw [hc2] at text_at ⊢
        refine tri_if_ret ok_at (tta hsc (tt_cmp_str (text_at 0 46 _ _ _ _ _ rfl (et_name rfl) (et_name rfl) rfl) et_str)) (fun ht => absurd ht (by rw [hin]; decide)) fun _ => ?_
        refine tri_cons (tri_if ok_at (tta hsc (tt_cmp_str (text_at 0 46 _ _ _ _ _ rfl (et_name rfl) (et_name rfl) rfl) et_str)) (fun _ => tri_cons (tri_append hsc rfl et_none (fun _ => rfl) hprev rfl) tri_nil) (fun ht => absurd ht (by rw [hdot]; decide))) ?_
        refine tri_cons (tri_aug_int hsc rfl rfl et_int) ?_
        have e : po c = none := by unfold po; rw [if_pos hc1]
        rw [e]
        exact tri_end ⟨rfl, rfl, rfl, trivial⟩
      · rw [hc2] at text_at ⊢
        have e : po c = some c := by unfold po; rw [if_neg hc1]
        rw [e]
        refine tri_if_ret ok_at (tta hsc (tt_cmp_str (text_at 0 92 _ _ _ _ _ rfl (et_name rfl) (et_name rfl) rfl) et_str)) (fun ht => absurd ht (by rw [hin]; decide)) fun _ => ?_
        refine tri_step [(Str.ofString "text", S (st (rx pat))), (Str.ofString "parts", Vl (.ref a)), (Str.ofString "k", I ((4 + q + 1 : Nat) : Int))] (some (a, ((pat.take i).map po).map PT ++ [PT (some c)])) (tri_if ok_at (tta hsc (tt_cmp_str (text_at 0 92 _ _ _ _ _ rfl (et_name rfl) (et_name rfl) rfl) et_str)) (fun ht => absurd ht (by rw [hdot]; decide)) (fun _ => ?_)) ?_
        · refine tri_cons (tri_aug_int (j := 1) hsc rfl rfl (et_ifexp (tt_cmp_str (text_at 0 92 _ _ _ _ _ rfl (et_name rfl) (et_name rfl) rfl) et_str) (fun _ => et_int) (fun ht => absurd ht (by rw [hbs]; decide)))) ?_
          refine tri_cons (tri_append hsc rfl (text_at 1 c _ _ _ _ _ rfl (et_name rfl) (et_name rfl) rfl) (fun _ => rfl) hprev rfl) ?_
          exact tri_end (l := [(Str.ofString "text", S (st (rx pat))), (Str.ofString "parts", Vl (.ref a)), (Str.ofString "k", I ((4 + q + 1 : Nat) : Int))]) ⟨rfl, rfl, rfl, trivial⟩
        · refine tri_cons (tri_aug_int hsc rfl rfl et_int) ?_
          exact tri_end ⟨rfl, rfl, rfl, trivial⟩
      · rw [hc2] at text_at ⊢
        have e : po c = some c := by unfold po; rw [if_neg hc1]
        rw [e]
        refine tri_if_ret ok_at (tta hsc (tt_cmp_str (text_at 0 c _ _ _ _ _ rfl (et_name rfl) (et_name rfl) rfl) et_str)) (fun ht => absurd ht (by rw [hin]; simp [hc5])) fun _ => ?_
        refine tri_step [(Str.ofString "text", S (st (rx pat))), (Str.ofString "parts", Vl (.ref a)), (Str.ofString "k", I ((4 + q : Nat) : Int))] (some (a, ((pat.take i).map po).map PT ++ [PT (some c)])) (tri_if ok_at (tta hsc (tt_cmp_str (text_at 0 c _ _ _ _ _ rfl (et_name rfl) (et_name rfl) rfl) et_str)) (fun ht => absurd ht (by rw [hdot]; simp [hc3])) (fun _ => ?_)) ?_
        · refine tri_cons (tri_aug_int (j := 0) hsc rfl rfl (et_ifexp (tt_cmp_str (text_at 0 c _ _ _ _ _ rfl (et_name rfl) (et_name rfl) rfl) et_str) (fun ht => absurd ht (by rw [hbs]; simp [hc4])) (fun _ => et_int))) ?_
          refine tri_cons (tri_append hsc rfl (text_at 0 c _ _ _ _ _ rfl (et_name rfl) (et_name rfl) rfl) (fun _ => rfl) hprev rfl) ?_
          exact tri_end (l := [(Str.ofString "text", S (st (rx pat))), (Str.ofString "parts", Vl (.ref a)), (Str.ofString "k", I ((4 + q : Nat) : Int))]) ⟨rfl, rfl, rfl, trivial⟩
        · refine tri_cons (tri_aug_int hsc rfl rfl et_int) ?_
          exact tri_end ⟨rfl, rfl, rfl, trivial⟩
    · rw [List.take_length]
      refine tri_cons (tri_freeze (x := Str.ofString "parts") rfl (tri_return hsc (et_ifexp (t := true) ?_ (fun _ => et_name rfl) (fun h => by cases h)))) tri_nil
      have hz2 : (st (rx pat)).length ≤ sizeLine := by rw [st_length, sizeLine_eq]; omega
      refine tt_eqv ?_ (tt_and (tt_cmp_str (et_slice_str (et_name rfl) part_none (part_some et_int) hz2) et_str) fun _ => tt_and1 (tt_cmp_str (et_slice_str (et_name rfl) (part_some (et_neg et_int)) part_none hz2) et_str))
      have h1 : Txt.slice (st (rx pat)) none (some 4) = st [40, 63, 115, 58] := by
        rw [show (4 : Int) = ((4 : Nat) : Int) from rfl, slice_to _ (by omega)]; rfl
      have h2 : Txt.slice (st (rx pat)) (some (-3)) none = st [41, 92, 90] := by
        rw [slice_neg _ (by decide) (by omega)]
        have : (rx pat).length - (-(-3 : Int)).toNat = ([40, 63, 115, 58] ++ pat.flatMap esc).length := by simp only [List.length_append, List.length_cons, List.length_nil]; omega
        rw [this]
        unfold rx
        rw [List.drop_left]
      rw [h1, h2, head_st, tail_st]
      show (st _ == st _ && st _ == st _) = true
      simp
end
end Mine
end
section
open PySem PySem.W PyProof.Rows PySem.SeqAt
set_option Elab.async false
set_option linter.all false
namespace Mine
section
variable {prog : Program} {w : World} {A : Around} {E : Value → Shared → Prop} {s : Shared}
open Builtin Builtin.Str

theorem tooLong0 : tooLong 0 = false := by decide +kernel
theorem call_translate_miss {c : Nat} {t : Tok} {tb : Value} {Q : Value → Shared → Prop} (hc : c < 128)
    (h : wpAny (model prog w) A.in1 (tableLookup tb c) (fun m s' => m = .keep ∧ ∀ t' tk, Q (.str (st [c]) t') { s' with toks := tk }) E s) : wpAny (model prog w) A (call (.builtin "str.translate") [.str (st [c]) t, tb]) Q E s := by
  refine wpAny_call_entry PySem.F.slot_str_translate (typeIs_str _ _ _) PySem.F.entry_str_translate ?_ (PySem.F.args_str_translate_2 _ _)
  unfold Builtin.«str.translate»
  have e1 : strOneArg "translate" ⟨[.str (st [c]) t, tb], []⟩ = pure (.str (st [c]) t, st [c], tb) := by rfl
  rw [e1]
  simp only [pure_bind, bind_pure_comp]
  have e2 : ((st [c]).length == 0) = false := by rw [st_length]; rfl
  have e3 : (st [c]).cps = [c].toArray := rfl
  rw [e2]
  simp only [Bool.false_eq_true, if_false]
  rw [e3]
  have e4 : (#[c].all fun x => decide (x < 128)) = true := by simpa using hc
  simp only [List.forIn_toArray, List.forIn_cons, List.forIn_nil, tooLong0, Bool.false_eq_true, if_false, e4, if_true, List.lookup_nil, bind_assoc]
  refine wpAny_bind (wpAny_mono h (fun m s' hm => ?_) fun _ _ x => x)
  obtain ⟨rfl, hq⟩ := hm
  simp only [pure_bind]
  have e5 : tooLong (0 + 1) = false := by decide +kernel
  rw [e5, if_neg (by decide)]
  have e6 : (⟨List.foldl (fun (acc : Array Nat) (p : Str) => acc ++ p.cps) #[] [(⟨#[c]⟩ : Str)].reverse⟩ : Str) = st [c] := by rfl
  rw [e6]
  show wpAny _ _ (mkStr (st [c]) >>= fun v => ret v) _ _ _
  exact wpAny_bind (wpAny_mkStr (wpAny_pure ⟨_, rfl, hq _ _⟩) (by rw [st_length, sizeLine_eq]; exact (by decide : 1 ≤ 16777216)))

theorem call_translate_hit {c : Nat} {t : Tok} {tb : Value} {y : Str} {Q : Value → Shared → Prop} (hc : c < 128) (hy : y.length = 2)
    (h : ∀ s' (Q' : Mapped → Shared → Prop) (E : Value → Shared → Prop), s'.heap = s.heap → (∀ tk, Q' (.text y) { s' with toks := tk }) → wpAny (model prog w) A.in1 (tableLookup tb c) Q' E s')
    (hq : ∀ t' tk, Q (.str y t') { s with toks := tk }) : wpAny (model prog w) A (call (.builtin "str.translate") [.str (st [c]) t, tb]) Q E s := by
  refine wpAny_call_entry PySem.F.slot_str_translate (typeIs_str _ _ _) PySem.F.entry_str_translate ?_ (PySem.F.args_str_translate_2 _ _)
  unfold Builtin.«str.translate»
  have e1 : strOneArg "translate" ⟨[.str (st [c]) t, tb], []⟩ = pure (.str (st [c]) t, st [c], tb) := by rfl
  rw [e1]
  simp only [pure_bind, bind_pure_comp]
  have e2 : ((st [c]).length == 0) = false := by rw [st_length]; rfl
  have e3 : (st [c]).cps = [c].toArray := rfl
  rw [e2]
  simp only [Bool.false_eq_true, if_false]
  rw [e3]
  have e4 : (#[c].all fun x => decide (x < 128)) = true := by simpa using hc
  have e7 : (y.length == 1) = false := by rw [hy]; rfl
  simp only [List.forIn_toArray, List.forIn_cons, List.forIn_nil, tooLong0, Bool.false_eq_true, if_false, e4, if_true, List.lookup_nil, bind_assoc]
  refine wpAny_bind (h s _ _ rfl fun tk => ?_)
  simp only [pure_bind, e7, Bool.false_and, Bool.false_eq_true, if_false, bind_assoc]
  refine wpAny_bind (wpAny_rule ?_)
  refine wpAny_bind (h _ _ _ rfl fun tk => ?_)
  simp only [pure_bind]
  have e5 : tooLong (0 + y.length) = false := by rw [hy]; decide +kernel
  rw [e5, if_neg (by decide)]
  have e6 : (⟨List.foldl (fun (acc : Array Nat) (p : Str) => acc ++ p.cps) #[] [y].reverse⟩ : Str) = y := Str.ext' (by simp)
  rw [e6]
  show wpAny _ _ (mkStr y >>= fun v => ret v) _ _ _
  exact wpAny_bind (wpAny_mkStr (wpAny_pure ⟨_, rfl, hq _ _⟩) (by rw [hy, sizeLine_eq]; exact (by decide : 2 ≤ 16777216)))

theorem tl_hit {f : Int → Option Value} {c : Nat} {y : Str} {u : Tok} {d : Addr} {Q : Mapped → Shared → Prop} (hm : s.heap.IntMap d f) (hv : f c = some (.str y u)) (h : ∀ tk, Q (.text y) { s with toks := tk }) :
    wpAny (model prog w) A (tableLookup (.ref d) c) Q E s := by
  unfold tableLookup
  refine wpAny_bind (wpAny_attempt (wpAny_bind (wpAny_mkInt (wpAny_getItem_intMap (s := { s with toks := s.toks + 1 }) hm hv ?_))))
  show wpAny _ _ (asInt? (.str y u) >>= _) _ _ _
  refine wpAny_bind ?_
  refine wpAny_of_eq (a := none) (by rfl) ?_
  show wpAny _ _ (asStr? (.str y u) >>= _) _ _ _
  refine wpAny_bind ?_
  refine wpAny_of_eq (a := some y) (by rfl) ?_
  exact wpAny_pure (h _)

theorem tl_miss {f : Int → Option Value} {c : Nat} {d : Addr} {Q : Mapped → Shared → Prop} (hh : A.handled = none) (hm : s.heap.MapOf (intKind prog w) d f) (hd : (d == sysModules) = false) (hv : f c = none)
    (h : ∀ h' tk, Ext s.heap h' → Q .keep { s with heap := h', toks := tk }) :
    wpAny (model prog w) A (tableLookup (.ref d) c) Q E s := by
  unfold tableLookup
  refine wpAny_bind (wpAny_attempt (wpAny_bind (wpAny_mkInt (wpAny_getItem_missing_of (s := { s with toks := s.toks + 1 }) (knd := intKind prog w) (k := (c : Int)) (by simp [intKind, Value.isInt]) hd hh hm hv fun h' e he => ?_))))
  obtain ⟨ob, t, he1, he2, _⟩ := he.there
  refine wpAny_bind (wpAny_isInstance (T := "KeyError") (b := true) ⟨ob, he1, he2⟩ (by rw [isSubtype_type]; kernel_rfl) ?_)
  rw [if_pos rfl]
  exact wpAny_bind (wpAny_rule (wpAny_pure (h h' _ he.keeps)))
end

/-! ## escape -/
theorem tab_cases : ∀ c ∈ tab, c < 128 ∧ ((c ∈ ([45, 43, 46] : List Nat) ∧ esc c = [92, c]) ∨ (c ∈ ([97, 98, 95, 37, 58, 44, 47, 64, 61] : List Nat) ∧ esc c = [c])) := by decide
section
variable {w : World}
set_option maxRecDepth 100000 in
theorem map59 {h : Heap} (hk : (KK w).In h) : ∃ f : Int → Option Value, h.MapOf (intKind PR w) 59 f ∧ (∀ c ∈ ([45, 43, 46] : List Nat), ∃ t, f c = some (.str (st [92, c]) t)) ∧ ∀ c ∈ ([97, 98, 95, 37, 58, 44, 47, 64, 61] : List Nat), f c = none := by
  have key : ∃ o es ep, (KK w).lookup 59 = some o ∧ o.ExactDict ∧ o.data = .dict es ep ∧ (es.all fun e => match e.key with | .int k t => e.hash == hashInt k | _ => false) = true ∧
      (∀ c ∈ ([45, 43, 46] : List Nat), ∃ t, findBy Value.isInt es c = some (.str (st [92, c]) t)) ∧ ∀ c ∈ ([97, 98, 95, 37, 58, 44, 47, 64, 61] : List Nat), findBy Value.isInt es c = none := by
    refine ⟨_, _, _, rfl, ⟨rfl, rfl, rfl⟩, rfl, by decide +kernel, ?_, ?_⟩
    · intro c hc
      simp only [List.mem_cons, List.not_mem_nil, or_false] at hc
      rcases hc with rfl | rfl | rfl <;> exact ⟨_, rfl⟩
    · intro c hc
      simp only [List.mem_cons, List.not_mem_nil, or_false] at hc
      rcases hc with rfl | rfl | rfl | rfl | rfl | rfl | rfl | rfl | rfl <;> rfl
  obtain ⟨o, es, ep, h1, h2, h3, h4, h5, h6⟩ := key
  refine ⟨fun k => findBy Value.isInt es k, ⟨o, es, ep, hk _ _ h1, h2, h3, fun e he => ?_, fun _ => rfl⟩, h5, h6⟩
  have := Array.all_eq_true'.mp h4 e he
  cases hkey : e.key with
  | int k t => rw [hkey] at this; exact ⟨k, by simp [intKind, Value.isInt], (by simpa using this : e.hash = hashInt k)⟩
  | _ => rw [hkey] at this; cases this

set_option pp.deepTerms false in
set_option pp.deepTerms.threshold 8 in
set_option maxRecDepth 100000 in
theorem escape_ok {c : Nat} (hc : c ∈ tab) (A : Around) (b : Heap) (V : LG) (vs : List Value) (hA : OkA 1 A) (hW : Wd (KK w) b) (hfit : Fit V [S (st [c])] vs) :
    Ev PR w A b V (call (.ref 69) vs) (S (st (esc c))) := by
  refine con_entry (d := 0) (a := 69) (o := ?o) (fd := ?fd) (body := ?body) (sc := ?sc) (xs := [Str.ofString "pattern"]) (Ps := [S (st [c])]) (R := S (st (esc c))) (K := KK w) ?hK ?hd ?hb ?hs ?hc ?hcl ?hgl ?hbu ?hst rfl ?hbind ?hT A b V vs hA hW hfit
  case hK => rfl
  case hd => rfl
  case hb => rfl
  case hs => (dsimp only; rfl)
  case hc => rfl
  case hcl => rfl
  case hgl => rfl
  case hbu => rfl
  case hst => decide +kernel
  case hbind => intro vals hv; obtain ⟨v, rfl⟩ := len1 hv rfl; rfl
  case hT =>
    intro env h₀ V₀ A' hsc hA'
    refine tri_cons (tri_if (t := true) ok_at (tta hsc (tt_of_bool (et_call (Ps := [S (st [c]), Vl (.type "str")]) (et_globb (v := .builtin "isinstance") rfl rfl (by decide +kernel)) (.inr (.inl ⟨_, rfl⟩)) (.cons (et_name rfl) (fun _ => rfl) (.cons (et_globb rfl rfl (by decide +kernel)) (fun _ => rfl) .nil)) ?_))) (fun _ => ?_) (fun h => by cases h)) tri_false
    · intro b V vs _ f
      obtain ⟨v, u, rfl, ⟨t, rfl⟩, q⟩ := fit2 f
      have q' : u = .type "str" := q
      subst q'
      exact .same fun s Q E _ _ k => PySem.IsiPair.str_str (k _ s.toks rfl)
    · refine tri_cons (tri_return hsc (et_method (P := S (st [c])) (Ps := [Vl (.ref 59)]) (et_name rfl) PySem.F.slot_str_translate PySem.F.plainAttrs_str PySem.F.type_str_translate typeIs_S dict_S (.cons (et_glob rfl rfl) (fun _ => rfl) .nil) ?_ (fun _ _ => rfl) (by decide) rfl)) tri_nil
      intro b V v vs W p f
      obtain ⟨t, rfl⟩ := p
      obtain ⟨u, rfl, q⟩ := fit1 f
      have q' : u = .ref 59 := q
      subst q'
      refine .of fun s Q E _ _ hx k => ?_
      obtain ⟨f, hm, h1, h2⟩ := map59 (W.k.keeps hx)
      obtain ⟨hc128, hcc⟩ := tab_cases c hc
      rcases hcc with ⟨hc2, e⟩ | ⟨hc3, e⟩
      · obtain ⟨u, hu⟩ := h1 c hc2
        refine call_translate_hit (y := st [92, c]) hc128 (by rw [st_length]; rfl) (fun s' Q' E' hs' k' => tl_hit (s := s') (f := f) (by rw [hs']; exact hm.intMap) hu k') fun t' tk => ?_
        exact k _ s.heap tk (Ext.refl _) ⟨t', by rw [e]⟩
      · refine call_translate_miss hc128 (tl_miss (f := f) hA'.handled hm (by decide +kernel) (h2 c hc3) fun h' tk hx' => ⟨rfl, fun t' tk' => ?_⟩)
        exact k _ h' tk' hx' ⟨t', by rw [e]⟩
end
end Mine
end
section
open PySem PySem.W PyProof.Rows PySem.SeqAt
set_option Elab.async false
set_option linter.all false
namespace Mine
noncomputable def bobj (a : Addr) : Obj := { cls := .type "builtin_function_or_method", data := .fields #[.builtin "list.append", .ref a] }
theorem pl_bobj (a : Addr) : Pl (bobj a) := ⟨(fun _ _ h => by cases h), (fun _ h => by cases h)⟩
theorem look_md_get : typeLookup (.type "method_descriptor") "__get__" = pure (some (.builtin "method_descriptor.__get__")) := by rw [typeLookup_type, builtinLookup_eq_fast]; kernel_rfl
theorem look_md_set : typeLookup (.type "method_descriptor") "__set__" = pure none := by rw [typeLookup_type, builtinLookup_eq_fast]; kernel_rfl
theorem look_md_del : typeLookup (.type "method_descriptor") "__delete__" = pure none := by rw [typeLookup_type, builtinLookup_eq_fast]; kernel_rfl
theorem slot_md_get : Slot "method_descriptor" "__get__" "method_descriptor.__get__" :=
  .of (owner := "method_descriptor") (n := "__get__") (by rw [typeLookup_type, builtinLookup_eq_fast]; kernel_rfl) (by decide +kernel) (by decide +kernel) (by decide +kernel)
    (by first | exact .inl (by decide +kernel) | exact .inr (by decide +kernel)) (by rw [isSubtype_type]; kernel_rfl)
theorem entry_md_get : entryFor table "method_descriptor.__get__" = some Builtin.«method_descriptor.__get__» := entryFor_of_tree (by kernel_rfl)
theorem args_md_get (a b c : Value) : argsOk "method_descriptor.__get__" ⟨[a, b, c], []⟩ := by unfold argsOk; kernel_rfl
theorem sub_list_list : isSubtype (.type "list") (.type "list") = pure true := by rw [isSubtype_type]; kernel_rfl
theorem owner_append : (".".intercalate ("list.append".cutAt '.').dropLast) = "list" := by decide +kernel

theorem meets_get_append (a : Addr) (vs : List Value) (n : Nat) :
    Meets (Builtin.«method_descriptor.__get__» ⟨[.builtin "list.append", .ref a, .type "list"], []⟩) (fun _ R s => s.heap.get? a = some (lobj vs n) ∧ R (.ok (.ret (.ref s.heap.objs.size))) { s with heap := s.heap.push (bobj a) }) :=
  Meets.of_wp fun prog w A R s hs => by
    obtain ⟨hp, g, d, tk, os⟩ := s
    obtain ⟨hx, hs⟩ := hs
    have hT : (⟨hp, g, d, tk, os⟩ : Shared).TypeIs (.ref a) "list" := ⟨_, hx, rfl⟩
    have f1 := sub_list_list
    unfold Builtin.«method_descriptor.__get__»
    repeat (any_goals (first | assumption | wp_step))
    rw [owner_append]
    repeat (any_goals (first | assumption | wp_step))
    exact ⟨_, rfl, hs⟩

theorem meets_getattribute_append (a : Addr) (vs : List Value) (n : Nat) (u : Tok) :
    Meets (Builtin.«object.__getattribute__» ⟨[.ref a, .str "append" u], []⟩) (fun _ R s => s.heap.get? a = some (lobj vs n) ∧ R (.ok (.ret (.ref s.heap.objs.size))) { s with heap := s.heap.push (bobj a) }) :=
  Meets.of_wp fun prog w A R s hs => by
    obtain ⟨hp, g, d, tk, os⟩ := s
    obtain ⟨hx, hs⟩ := hs
    have hT : (⟨hp, g, d, tk, os⟩ : Shared).TypeIs (.ref a) "list" := ⟨_, hx, rfl⟩
    have f1 := F.slot_list_append.lookup
    have f2 := F.type_list_append
    have f3 := look_md_get
    have f4 := look_md_set
    have f5 := look_md_del
    unfold Builtin.«object.__getattribute__»
    repeat (any_goals (first | assumption | ((with_reducible show wpAny _ _ (call (Value.builtin "method_descriptor.__get__") _ _) _ _ _); refine call_meets slot_md_get F.type_list_append entry_md_get (args_md_get _ _ _) (meets_get_append a vs n) ⟨hx, ?_⟩) | wp_step))
    exact wpAny_pure ⟨_, rfl, hs⟩

section
variable {prog : Program} {w : World} {A : Around} {K : Frag} {ow : Str → Prop} {h₀ h h' b b₀ : Heap} {V₀ V V' : LG} {env : Env} {sc : Scope} {Γ Γ' : Ctx'} {O : OwnT} {l r e : Expr} {pos px : Pos} {x y : Str} {P P1 P2 : Sp} {R : Value → As} {N N' P' : As} {E : Value → Shared → Prop} {s : Shared}

theorem getAttr_append {a : Addr} {vs : List Value} {n : Nat} {Q : Value → Shared → Prop} (hx : s.heap.get? a = some (lobj vs n)) (h : ∀ tk, Q (.ref s.heap.objs.size) { s with heap := s.heap.push (bobj a), toks := tk }) :
    wpAny (model prog w) A (getAttr (.ref a) "append" true) Q E s := by
  obtain ⟨hp, g, d, tk, os⟩ := s
  have hx0 := hx
  replace hx : hp.get? a = some { cls := .type "list", dict := none, data := .seq vs.toArray n, slots := #[] } := hx0
  have hT : ∀ tk', (⟨hp, g, d, tk', os⟩ : Shared).TypeIs (.ref a) "list" := fun _ => ⟨_, hx, rfl⟩
  have f5 := am_list_getattr_none
  have f3 := F.slot_list_getattribute.lookup
  have f4 := F.slot_list_getattribute.bind (.ref a)
  unfold getAttr getAttrBy
  repeat (any_goals (first | assumption | exact hT _ | ((with_reducible show wpAny _ _ (call (Value.builtin "list.__getattribute__") _ _) _ _ _); refine call_meets F.slot_list_getattribute (hT _) am_entry_list_getattribute (F.args_list_getattribute_2 _ _) (meets_getattribute_append a vs n _) ⟨hx0, ?_⟩) | wp_step))
  exact wpAny_pure (h _)

/-- the type of a bound append -/
noncomputable def Bm (a : Addr) : Sp := ⟨fun V v => ∃ m, v = .ref m ∧ V m = some (bobj a), fun e ⟨m, h1, h2⟩ => ⟨m, h1, e _ _ h2⟩⟩

/-- y = x.append -/
theorem tri_bound {a : Addr} {Ps : List Sp} {apos py : Pos} (hsc : env.scope = sc) (hx : Γ x = some (Vl (.ref a))) (hy : sc.names.lookup y = some .local) (hd : (x == ("__debug__" : Str)) = false := by decide +kernel) :
    Tri prog w A (At K ow h₀ V₀ env Γ (some (a, Ps))) (exec (.Assign [.Name y py] (.Attribute (.Name x px) "append" apos) pos) env) (At K ow h₀ V₀ env (upd Γ y (Bm a)) (some (a, Ps))) R := by
  intro s V Q E hP kN kR
  refine wpAny_Assign_Name ?_ (by rfl)
  rw [arm_eval_Attribute]
  show wpAny _ _ (eval (.Name x px) env >>= fun o => standAt _ >>= fun _ => holding [o] (getAttr o "append" true) >>= fun r => letTemporaryGo (.Name x px) o r >>= fun _ => pure r) _ E s
  refine wpAny_bind (et_name hx hd env s.heap V hsc hP.fr.ok hP.fr.sub s _ E (Ext.refl _) fun v h₁ tk₁ V₁ g₁ p₁ => ?_)
  have p₁' : v = .ref a := p₁
  subst p₁'
  have A1 := hP.grow g₁
  refine wpAny_bind (wpAny_standAt ?_)
  obtain ⟨vs, n, q1, q2, q3, q4⟩ := A1.own
  refine wpAny_bind (wpAny_holding (getAttr_append (s := { s with heap := h₁, toks := tk₁ }) q1 fun tk₂ => ?_))
  show wpAny _ _ (pure () >>= fun _ => pure _) _ _ _
  refine wpAny_bind (wpAny_pure (wpAny_pure ?_))
  dsimp only
  have g2 : Grow V₁ h₁ (put V₁ h₁.objs.size (bobj a)) (h₁.push (bobj a)) := .push_obj A1.fr.sub (pl_bobj a)
  have A2 := A1.grow g2
  refine A2.fr.store (P := Bm a) (s := { s with heap := h₁.push (bobj a), toks := tk₂ }) (by unfold Env.kindOf; rw [hsc]; exact .inl hy) ⟨_, rfl, put_self ..⟩ fun h₃ tk₃ F3 kp => ?_
  exact kN h₃ tk₃ _ ((Stp.of_grow (g₁.trans g2)).trans (.of_kp kp)) ⟨F3, A2.le, A2.new, A2.own.kp kp⟩

theorem sig_append : Manifest.signature? "list.append" = Manifest.sig_list.lookup "append" := by
  rw [signature?_of (id := "list.append") (n := ['d', 'n', 'e', 'p', 'p', 'a']) (o := ['t', 's', 'i', 'l']) (by kernel_rfl) F.owner_list]; kernel_rfl
theorem sub_list_module : isSubtype (.type "list") (.type "module") = pure false := by rw [isSubtype_type]; kernel_rfl
theorem check_append (a : Addr) (v : Value) : ∀ sig, Manifest.sig_list.lookup "append" = some sig → Bind.checkArgs "list.append" { sig with full := s!"{Bind.lastOf "list"}.{Bind.lastOf "list.append"}" } ⟨[.ref a, v], []⟩ = pure () := by
  intro sig h
  have e : Manifest.sig_list.lookup "append" = some (Manifest.sig_list.lookup "append" |>.get (by decide +kernel)) := by kernel_rfl
  rw [e] at h
  cases h
  kernel_rfl

theorem wp_checkBound_append {a : Addr} {v : Value} {vs : List Value} {n : Nat} {Q : Unit → Shared → Prop} (ha : s.heap.get? a = some (lobj vs n)) (h : Q () s) : wpAny (model prog w) A (checkBoundCall "list.append" ⟨[.ref a, v], []⟩) Q E s := by
  unfold checkBoundCall
  rw [sig_append]
  obtain ⟨sig, hsig⟩ : ∃ sig, Manifest.sig_list.lookup "append" = some sig := Option.isSome_iff_exists.mp (by decide +kernel)
  rw [hsig]
  have hk : builtinKind "list.append" = some .method := by kernel_rfl
  have hT : s.TypeIs (.ref a) "list" := ⟨_, ha, rfl⟩
  have hv : Manifest.varargsMethods.contains "list.append" = false := by decide +kernel
  simp only [hk]
  rw [if_neg (by decide)]
  refine wpAny_bind (wpAny_isInstance hT sub_list_module ?_)
  rw [hv]
  rw [if_neg (by decide)]
  refine wpAny_bind ?_
  refine wpAny_bind (wpAny_loadPart ha ?_)
  refine wpAny_pure ?_
  rw [if_neg (by intro q; cases q)]
  refine wpAny_bind (wpAny_typeOf hT ?_)
  refine wpAny_of_eq (check_append a v sig hsig) h
end
end Mine
end
section
open PySem PySem.W PyProof.Rows PySem.SeqAt
set_option Elab.async false
set_option linter.all false
namespace Mine
section
variable {prog : Program} {w : World} {A : Around} {K : Frag} {ow : Str → Prop} {h₀ h h' b b₀ : Heap} {V₀ V V' : LG} {env : Env} {sc : Scope} {Γ Γ' : Ctx'} {O : OwnT} {l r e : Expr} {pos px : Pos} {x y : Str} {P P1 P2 : Sp} {R : Value → As} {N N' P' : As} {E : Value → Shared → Prop} {s : Shared}

theorem keeps_b {M : Model} {m a : Addr} (hp : Heap) (X : hp.get? m = some (bobj a)) : ∃ k, (k = Keeper.frame ∨ k = Keeper.machine ∨ k = Keeper.boundFrame) ∧ Looks M hp (keeperOf (.ref m)) k :=
  ⟨.machine, .inr (.inl rfl), (Looks.ld (part := none) X).andThen (Looks.of_pure rfl)⟩

theorem call_bobj {m a : Addr} {v : Value} {vs : List Value} {n : Nat} {Q : Value → Shared → Prop} (hm : s.heap.get? m = some (bobj a)) (ha : s.heap.get? a = some (lobj vs n))
    (hQ : ∀ h' n', h'.get? a = some (lobj (vs ++ [v]) n') → Heap.SameBut a s.heap h' → Q .none { s with heap := h' }) (hsz : vs.length ≤ sizeLine) : wpAny (model prog w) A (call (.ref m) [v]) Q E s := by
  refine wpAny_call (codeAny_of_tree ?_)
  show wpAny _ _ (callAny (.ref m) ⟨[v], []⟩) _ _ s
  unfold callAny
  refine wpAny_bind (wpAny_load hm ?_)
  show wpAny _ _ (do
    checkBoundCall "list.append" ⟨[.ref a, v], []⟩
    return ← again (.builtin "list.append" ⟨[.ref a, v], []⟩)) _ _ s
  refine wpAny_bind (wp_checkBound_append ha ?_)
  refine wpAny_bind (wpAny_pure (wpAny_pure ⟨plainId_quiet PySem.F.slot_list_append.plain _, codeAny_builtin entry_list_append ?_⟩))
  show wpAny _ _ (updateSeq a (·.push v) >>= fun _ => ret .none) _ _ s
  refine wpAny_bind (wpAny_updateSeq ha rfl (wpAny_pure ?_))
  have key : (s.heap.update a (Obj.mapSeq (·.push v))).get? a = some (lobj (vs ++ [v]) (n + 1)) := by
    have ha' : s.heap.get? a = some { cls := .type "list", data := .seq vs.toArray n } := ha
    rw [Heap.get?_update_self _ ha' (by rw [Obj.mapSeq_push_plain]; rfl), Obj.mapSeq_push_plain]
    simp [lobj]
  exact hQ _ _ key (Heap.SameBut.update ..)

/-- add(e), add = x.append -/
theorem tri_add {a : Addr} {Ps : List Sp} {elt : Expr} {cpos : Pos} (hsc : env.scope = sc) (hx : Γ x = some (Bm a)) (he : Et prog w K A sc Γ elt P)
    (hse : ∀ env, starEach [elt] env = (false, eval elt env) :: starEach [] env) (hz : Ps.length ≤ 1000000) (hd : (x == ("__debug__" : Str)) = false := by decide +kernel) :
    Tri prog w A (At K ow h₀ V₀ env Γ (some (a, Ps))) (exec (.Expr (.Call (.Name x px) [elt] [] cpos) pos) env) (At K ow h₀ V₀ env Γ (some (a, Ps ++ [P]))) R := by
  intro s V Q E hP kN kR
  refine wpAny_Expr ?_ (by unfold interactive; rw [hP.fr.ok.kind]; rfl) (by rfl)
  show wpAny _ _ (do callWith cpos (← eval (.Name x px) env) [] (backTo cpos (starEach [elt] env)) (backToKw cpos (keywordEach [] env))) _ E s
  refine wpAny_bind (et_name hx hd env s.heap V hsc hP.fr.ok hP.fr.sub s _ E (Ext.refl _) fun v h₁ tk₁ V₁ g₁ p₁ => ?_)
  obtain ⟨m, rfl, hm⟩ := p₁
  have A1 := hP.grow g₁
  have he' : Ets prog w K A sc Γ [elt] [P] := .cons he hse .nil
  refine callWith_of (P := fun h => h.get? m = some (bobj a)) (by rw [ets_plain he']; rfl) (fun hp x => keeps_b hp x) ?_
  refine ev_evalArgs he' env h₁ V₁ hsc A1.fr.ok A1.fr.sub { s with heap := h₁, toks := tk₁ } _ E (Ext.refl _) fun av h₂ tk₂ V₂ g₂ p => ?_
  obtain ⟨vs', rfl, p⟩ := p
  obtain ⟨y, rfl, p₂⟩ := fit1 p
  have A2 := A1.grow g₂
  have hm2 := (A2.fr.sub _ _ (g₂.le _ _ hm)).1
  obtain ⟨vs, n, q1, q2, q3, q4⟩ := A2.own
  refine ⟨hm2, call_bobj (s := { s with heap := h₂, toks := tk₂ }) hm2 q1 (fun h₃ n' hD hs => ?_) (by rw [← q4.length, sizeLine_eq]; omega)⟩
  have hk : ∀ b o, ¬ b = a → h₂.get? b = some o → h₃.get? b = some o := fun b o q e => (hs.2 b q).trans e
  refine kN h₃ tk₂ V₂ ((Stp.of_grow (g₁.trans g₂)).trans (.of_kx fun b o e p hl => hk b o (fun q5 => ?_) e)) ⟨?_, A2.le, A2.new, vs ++ [y], n', hD, q2, q3, q4.append (.cons p₂ .nil)⟩
  · rw [q5, q1] at e; cases e; exact hl rfl
  · exact A2.fr.keep (X := fun b => b = a) hk (fun b q => q ▸ q3) (fun b q => q ▸ q2) fun b q => q ▸ ⟨_, q1, pl_lobj _ _⟩

theorem tri_assert {msg : Option Expr} (hsc : env.scope = sc) (ht : Tt prog w K A sc Γ e true) : Tri prog w A (At K ow h₀ V₀ env Γ O) (exec (.Assert e msg pos) env) (At K ow h₀ V₀ env Γ O) R := by
  intro s V Q E hP kN kR
  refine wpAny_Assert_holds (ht env s.heap V hsc hP.fr.ok hP.fr.sub s _ E (Ext.refl _) fun r h₁ tk₁ V₁ g₁ q => ⟨q, ?_⟩)
  exact kN h₁ tk₁ V₁ (.of_grow g₁) (hP.grow g₁)
end
end Mine
end
section
open PySem PySem.W PyProof.Rows PySem.SeqAt
set_option Elab.async false
set_option linter.all false
namespace Mine
section
variable {prog : Program} {w : World} {A : Around} {K : Frag} {sc : Scope} {Γ : Ctx'}
theorem et_str' {i j : Str} {k : Nat} {pos : Pos} (h : i = j) : Et prog w K A sc Γ (.Constant (.str i) k pos) (S j) := h ▸ et_str
/-- some object -/
noncomputable def Rf : Sp := ⟨fun _ v => ∃ a, v = .ref a, fun _ h => h⟩
end
theorem star_st : Str.ofString "*" = st [42] := by decide +kernel
theorem open_st : Str.ofString "[" = st [91] := by decide +kernel
theorem ab_not : ∀ c ∈ ab, c ≠ 42 ∧ c ≠ 91 ∧ (c ≠ 63 → c ∈ tab) := by decide

section
variable {w : World}
set_option pp.deepTerms false in
set_option pp.deepTerms.threshold 8 in
set_option maxRecDepth 100000 in
theorem translate1_ok {pat : List Nat} (hz : pat.length ≤ 1000) (hab : ∀ c ∈ pat, c ∈ ab) (A : Around) (b : Heap) (V : LG) (vs : List Value) (hA : OkA 2 A) (hW : Wd (KK w) b) (hfit : Fit V [S (st pat), Rf, S (st [46])] vs) :
    Ev PR w A b V (call (.ref 76) vs) (LS (pat.map fun c => st (esc c))) := by
  refine con_entry (d := 1) (a := 76) (o := ?o) (fd := ?fd) (body := ?body) (sc := ?sc) (xs := [Str.ofString "pat", Str.ofString "STAR", Str.ofString "QUESTION_MARK"]) (Ps := [S (st pat), Rf, S (st [46])]) (R := LS (pat.map fun c => st (esc c))) (K := KK w) ?hK ?hd ?hb ?hs ?hc ?hcl ?hgl ?hbu ?hst rfl ?hbind ?hT A b V vs hA hW hfit
  case hK => rfl
  case hd => rfl
  case hb => rfl
  case hs => (dsimp only; rfl)
  case hc => rfl
  case hcl => rfl
  case hgl => rfl
  case hbu => rfl
  case hst => decide +kernel
  case hbind => intro vals hv; obtain ⟨v, u, x, rfl⟩ := len3 hv rfl; rfl
  case hT =>
    intro env h₀ V₀ A' hsc hA'
    refine tri_cons (tri_newown hsc (.inl rfl)) (tri_ex fun a => ?_)
    refine tri_cons (tri_bound hsc rfl rfl) ?_
    refine tri_cons (tri_assign2 hA'.handled hsc (.cons et_int (fun _ => rfl) (.cons (et_len_str (by omega) rfl rfl (et_name rfl)) (fun _ => rfl) .nil)) rfl rfl (fun env h => ⟨by rfl, by unfold swappedStores Env.blockKind Env.kindOf; rw [h]; rfl⟩)) ?_
    refine tri_cons (tri_while pat.length (fun i => ctxOf [(Str.ofString "pat", S (st pat)), (Str.ofString "QUESTION_MARK", S (st [46])), (Str.ofString "res", Vl (.ref a)), (Str.ofString "add", Bm a), (Str.ofString "i", I (i : Int)), (Str.ofString "n", I (pat.length : Int))]) (fun i => some (a, ((pat.take i).map fun c => st (esc c)).map S)) (Has.sub ⟨rfl, rfl, rfl, rfl, rfl, rfl, trivial⟩) rfl (fun i hi => ?_) fun i hi => ?_) ?_
    · have hlt : decide (i < pat.length) = cmpI .Lt (i : Int) (pat.length : Int) := by
        show _ = decide _
        rw [decide_eq_decide]; omega
      rw [hlt]
      exact tta hsc (tt_cmp_int (et_name rfl) (et_name rfl))
    · have hc : pat[i]? = some pat[i] := by simp [hi]
      generalize pat[i] = c at hc
      obtain ⟨hc1, hc2, hc3⟩ := ab_not c (hab c (List.mem_of_getElem? hc))
      have hprev : (((pat.take i).map fun c => st (esc c)).map S).length ≤ 1000000 := by simp; omega
      have hnext : ((pat.take (i + 1)).map fun c => st (esc c)).map S = ((pat.take i).map fun c => st (esc c)).map S ++ [S (st (esc c))] := by
        rw [List.take_add_one, hc]; simp
      rw [hnext]
      have hne : ∀ x y, x ≠ y → cmpS .Eq (st [x]) (st [y]) = true → False := fun x y h q => by
        have : (st [x] == st [y]) = true := q
        rw [st_beq] at this
        exact h (by simpa using this)
      refine tri_cons (tri_assign hsc (et_sign (c := c) (et_name rfl) (et_name rfl) (by omega) (by omega) (by simpa using hc)) (.inl rfl) (by intro _ _; rfl)) ?_
      refine tri_cons (tri_assign hsc (et_add_int (et_name rfl) et_int) (.inl rfl) (by intro _ _; rfl)) ?_
      refine tri_step [(Str.ofString "pat", S (st pat)), (Str.ofString "QUESTION_MARK", S (st [46])), (Str.ofString "res", Vl (.ref a)), (Str.ofString "add", Bm a), (Str.ofString "i", I ((i + 1 : Nat) : Int)), (Str.ofString "n", I (pat.length : Int))] (some (a, ((pat.take i).map fun c => st (esc c)).map S ++ [S (st (esc c))]))
        (tri_if ok_at (tta hsc (tt_cmp_str (et_name rfl) (et_str' star_st))) (fun ht => (hne _ _ hc1 ht).elim) fun _ => ?_) tri_nil
      by_cases h63 : c = 63
      · refine tri_cons (tri_if ok_at (tta hsc (tt_cmp_str (et_name rfl) (et_str' qm_st))) (fun _ => ?_) (fun ht => ?_)) tri_nil
        · have e : esc c = [46] := by unfold esc; rw [if_pos h63]
          rw [e]
          exact tri_cons (tri_add hsc rfl (et_name rfl) (fun _ => rfl) hprev) (tri_end ⟨rfl, rfl, rfl, rfl, rfl, rfl, trivial⟩)
        · rw [h63] at ht
          have : (st [63] == st [63]) = false := ht
          simp at this
      · refine tri_cons (tri_if ok_at (tta hsc (tt_cmp_str (et_name rfl) (et_str' qm_st))) (fun ht => (hne _ _ h63 ht).elim) fun _ => ?_) tri_nil
        refine tri_cons (tri_if ok_at (tta hsc (tt_cmp_str (et_name rfl) (et_str' open_st))) (fun ht => (hne _ _ hc2 ht).elim) fun _ => ?_) tri_nil
        refine tri_cons (tri_add hsc rfl (et_call (Ps := [S (st [c])]) (et_glob rfl rfl) (.inl rfl) (.cons (et_name rfl) (fun _ => rfl) .nil) fun b V vs W f => escape_ok (hc3 h63) A' b V vs hA' W f) (fun _ => rfl) hprev) (tri_end ⟨rfl, rfl, rfl, rfl, rfl, rfl, trivial⟩)
    · rw [List.take_length]
      refine tri_cons (tri_assert hsc (tt_eqv (by show decide ((pat.length : Int) = _) = true; simp) (tt_cmp_int (et_name rfl) (et_name rfl)))) ?_
      exact tri_cons (tri_return_own hsc rfl) tri_nil
end
end Mine
end
section
open PySem PySem.W PyProof.Rows PySem.SeqAt
set_option Elab.async false
set_option linter.all false
namespace Mine
section
variable {prog : Program} {w : World} {A : Around} {K : Frag} {sc : Scope} {Γ : Ctx'}

/-- f'..{e}..', e a str -/
theorem et_fstr {x y z : Str} {k1 k2 : Nat} {p1 p2 p3 pos : Pos} {e : Expr} (he : Et prog w K A sc Γ e (S y)) (hz : x.length + y.length + z.length ≤ 1000000) :
    Et prog w K A sc Γ (.JoinedStr [.Constant (.str x) k1 p1, .FormattedValue e (-1) none p2, .Constant (.str z) k2 p3] pos) (S (x ++ y ++ z)) := by
  intro env b V hsc F hs s Q E hx k
  have l1 : (x ++ y).length = x.length + y.length := Str.length_append x y
  have l2 : (x ++ y ++ z).length = x.length + y.length + z.length := by rw [Str.length_append, l1]
  have l0 : (Str.empty ++ x) = x := Str.empty_append x
  refine wpAny_JoinedStr ?_
  show Joins _ _ _ [eval (.Constant (.str x) k1 p1) env, eval (.FormattedValue e (-1) none p2) env, eval (.Constant (.str z) k2 p3) env] _ _ _
  show wpAny _ _ _ _ _ _
  refine wpAny_Constant_str ⟨x, _, rfl, by rw [l0, sizeLine_eq]; omega, ?_⟩
  rw [l0]
  show wpAny _ _ _ _ _ _
  refine wpAny_FormattedValue_plain ?_
  refine he env b V hsc F hs _ _ E hx fun v h₁ tk₁ V₁ g₁ p₁ => ?_
  obtain ⟨t, rfl⟩ := p₁
  have fin : ∀ tk t', ∃ y' t'', (Value.str y t') = .str y' t'' ∧ (x ++ y').length ≤ sizeLine ∧ Joins (model prog w) A E [eval (.Constant (.str z) k2 p3) env] (x ++ y')
      (fun out s₁ => out.length ≤ sizeLine ∧ Q (.str out s₁.toks) { s₁ with toks := s₁.toks + 1 }) { s with heap := h₁, toks := tk } := by
    intro tk t'
    refine ⟨y, t', rfl, by rw [l1, sizeLine_eq]; omega, ?_⟩
    show wpAny _ _ _ _ _ _
    refine wpAny_Constant_str ⟨z, _, rfl, by rw [l2, sizeLine_eq]; omega, ?_⟩
    exact ⟨by rw [l2, sizeLine_eq]; omega, k _ h₁ _ V₁ g₁ ⟨_, rfl⟩⟩
  exact wpAny_formatField_str (s := { s with heap := h₁, toks := tk₁ }) (fin _ _) (fin _ _) (by rw [sizeLine_eq]; omega)
end

section
variable {w : World}
set_option pp.deepTerms false in
set_option pp.deepTerms.threshold 8 in
set_option maxRecDepth 100000 in
theorem joinp_ok {xs : List (List Nat)} (hz : xs.length ≤ 1000) (hB : ∀ y ∈ xs, y.length ≤ 10) (A : Around) (b : Heap) (V : LG) (vs : List Value) (hA : OkA 1 A) (hW : Wd (KK w) b) (hfit : Fit V [LS (xs.map st), Rf] vs) :
    Ev PR w A b V (call (.ref 83) vs) (S (st ([40, 63, 115, 58] ++ xs.flatten ++ [41, 92, 90]))) := by
  refine con_entry (d := 0) (a := 83) (o := ?o) (fd := ?fd) (body := ?body) (sc := ?sc) (xs := [Str.ofString "inp", Str.ofString "STAR"]) (Ps := [LS (xs.map st), Rf]) (R := S (st ([40, 63, 115, 58] ++ xs.flatten ++ [41, 92, 90]))) (K := KK w) ?hK ?hd ?hb ?hs ?hc ?hcl ?hgl ?hbu ?hst rfl ?hbind ?hT A b V vs hA hW hfit
  case hK => rfl
  case hd => rfl
  case hb => rfl
  case hs => (dsimp only; rfl)
  case hc => rfl
  case hcl => rfl
  case hgl => rfl
  case hbu => rfl
  case hst => decide +kernel
  case hbind => intro vals hv; obtain ⟨v, u, rfl⟩ := len2 hv rfl; rfl
  case hT =>
    intro env h₀ V₀ A' hsc hA'
    have hlen : ((xs.map st).map S).length = xs.length := by simp
    refine tri_cons (tri_newown hsc (.inl rfl)) (tri_ex fun a => ?_)
    refine tri_cons (tri_bound hsc rfl rfl) ?_
    refine tri_cons (tri_assign2 hA'.handled hsc (.cons et_int (fun _ => rfl) (.cons (et_len_list (by rw [hlen]; omega) rfl rfl (et_name rfl)) (fun _ => rfl) .nil)) rfl rfl (fun env h => ⟨by rfl, by unfold swappedStores Env.blockKind Env.kindOf; rw [h]; rfl⟩)) ?_
    rw [hlen]
    refine tri_cons (tri_while xs.length (fun i => ctxOf [(Str.ofString "inp", LS (xs.map st)), (Str.ofString "STAR", Rf), (Str.ofString "res", Vl (.ref a)), (Str.ofString "add", Bm a), (Str.ofString "i", I (i : Int)), (Str.ofString "n", I (xs.length : Int))]) (fun i => some (a, (((xs.take i).map st)).map S)) (Has.sub ⟨rfl, rfl, rfl, rfl, rfl, rfl, trivial⟩) rfl (fun i hi => ?_) fun i hi => ?_) ?_
    · refine tta hsc (tt_eqv (t := cmpI .Lt (i : Int) (xs.length : Int) && true) ?_ (tt_and (tt_cmp_int (et_name rfl) (et_name rfl)) fun ht => ?_))
      · show (decide _ && true) = decide _
        rw [Bool.and_true, decide_eq_decide]; omega
      · have hi' : i < xs.length := by
          have : decide ((i : Int) < xs.length) = true := ht
          simp at this; exact this
        refine tt_and1 (tt_eqv (t := !false) rfl (tt_isnot (P1 := S (st xs[i])) (P2 := Rf) (et_item (et_name rfl) (et_name rfl) (by omega) (by simp [hi']) (by omega)) (et_name rfl) fun V v1 v2 p1 p2 => ?_))
        obtain ⟨t, rfl⟩ := p1
        obtain ⟨c, rfl⟩ := p2
        exact ⟨rfl, rfl⟩
    · have hprev : ((((xs.take i).map st)).map S).length ≤ 1000000 := by simp; omega
      have hnext : ((xs.take (i + 1)).map st).map S = (((xs.take i).map st)).map S ++ [S (st xs[i])] := by
        have hc : xs[i]? = some xs[i] := by simp [hi]
        rw [List.take_add_one, hc, Option.toList_some, List.map_append, List.map_append]; rfl
      rw [hnext]
      refine tri_cons (tri_add hsc rfl (et_item (P := S (st xs[i])) (et_name rfl) (et_name rfl) (by omega) (by simp [hi]) (by omega)) (fun _ => rfl) hprev) ?_
      refine tri_cons (tri_aug_int hsc rfl rfl et_int) (tri_end ⟨rfl, rfl, rfl, rfl, rfl, rfl, trivial⟩)
    · rw [List.take_length]
      refine tri_cons (tri_while 0 (fun i => ctxOf [(Str.ofString "inp", LS (xs.map st)), (Str.ofString "STAR", Rf), (Str.ofString "res", Vl (.ref a)), (Str.ofString "add", Bm a), (Str.ofString "i", I (xs.length : Int)), (Str.ofString "n", I (xs.length : Int))]) (fun i => some (a, (xs.map st).map S)) (fun _ _ h => h) rfl (fun i hi => ?_) fun i hi => absurd hi (Nat.not_lt_zero _)) ?_
      · refine tta hsc (tt_eqv ?_ (tt_cmp_int (et_name rfl) (et_name rfl)))
        show decide _ = decide _
        rw [decide_eq_decide]; omega
      refine tri_cons (tri_assert hsc (tt_eqv (by show decide ((xs.length : Int) = _) = true; simp) (tt_cmp_int (et_name rfl) (et_name rfl)))) ?_
      refine tri_freeze (x := Str.ofString "res") rfl ?_
      refine tri_cons (tri_assign hsc (et_method (P := S (st [])) (Ps := [LS (xs.map st)]) (et_str' nil_st) PySem.F.slot_str_join PySem.F.plainAttrs_str PySem.F.type_str_join typeIs_S dict_S (.cons (et_name rfl) (fun _ => rfl) .nil)
        (fun b V v vs W p f => join_body (joinOk_st xs 10 hB (by omega)) b V v vs p f) (fun _ _ => rfl) (by decide) rfl) (.inl rfl) (by intro _ _; rfl)) ?_
      rw [join_st]
      have hfl : xs.flatten.length ≤ 10000 := by
        have : ∀ (l : List (List Nat)), (∀ y ∈ l, y.length ≤ 10) → l.flatten.length ≤ l.length * 10 := by
          intro l
          induction l with
          | nil => intro _; simp
          | cons y r ih =>
            intro h
            have h1 := h y List.mem_cons_self
            have h2 := ih fun z hz => h z (List.mem_cons_of_mem _ hz)
            simp only [List.flatten_cons, List.length_append, List.length_cons]; omega
        have := this xs hB
        omega
      have e : st ([40, 63, 115, 58] ++ xs.flatten ++ [41, 92, 90]) = Str.ofString "(?s:" ++ st xs.flatten ++ Str.ofString ")\\Z" := by
        rw [head_st, tail_st, st_append, st_append]
      rw [e]
      refine tri_cons (tri_return hsc (et_fstr (et_name rfl) ?_)) tri_nil
      rw [head_st, tail_st, st_length, st_length, st_length]
      simp only [List.length_cons, List.length_nil]; omega
end
end Mine
end
section
open PySem PySem.W PyProof.Rows PySem.SeqAt
set_option Elab.async false
set_option linter.all false
namespace Mine
theorem mro_object : mroOf (.type "object") = pure [.type "object"] := by kernel_rfl
theorem lookup_object_new : typeLookup (.type "object") "__new__" = pure (some (.builtin "object.__new__")) := by rw [typeLookup_type, builtinLookup_eq_fast]; kernel_rfl
theorem slot_object_init : Slot "object" "__init__" "object.__init__" :=
  .of (owner := "object") (n := "__init__") (by rw [typeLookup_type, builtinLookup_eq_fast]; kernel_rfl) (by decide +kernel) (by decide +kernel) (by decide +kernel)
    (by first | exact .inl (by decide +kernel) | exact .inr (by decide +kernel)) (by rw [isSubtype_type]; kernel_rfl)
theorem called_object : TypeCalled "object" "object.__new__" "object.__init__" :=
  ⟨by decide +kernel, by decide +kernel, ⟨_, _, mro_object⟩, madeBy_type mro_object lookup_object_new (by decide +kernel), by decide +kernel, by rw [isSubtype_type]; kernel_rfl, slot_object_init⟩
theorem typeCall_object : checkTypeCall "object" ⟨[], []⟩ = pure () := by kernel_rfl
theorem newCall_object : checkBuiltinCall "object.__new__" ⟨[.type "object"], []⟩ = pure () := by kernel_rfl
theorem args_object_init_1 (a : Value) : argsOk "object.__init__" ⟨[a], []⟩ := by unfold argsOk; kernel_rfl
theorem tree_object_new : Builtin.«object.__new__» ⟨[.type "object"], []⟩ = (do let v ← newObj (.type "object") .plain none; ret v) := by kernel_rfl
theorem meets_object_new : Meets (Builtin.«object.__new__» ⟨[.type "object"], []⟩) (fun _ R s => R (.ok (.ret (.ref s.heap.objs.size))) { s with heap := s.heap.push { cls := .type "object", data := .plain } }) := by
  rw [tree_object_new]
  exact Meets.of_wp fun prog w A R s hs => wpAny_bind (wpAny_newObj_type (wpAny_pure ⟨_, rfl, hs⟩))
theorem meets_object_init (a : Value) : Meets (Builtin.«object.__init__» ⟨[a], []⟩) (fun _ R s => R (.ok (.ret .none)) s) :=
  Meets.of_wp fun prog w A R s hs => wpAny_pure ⟨_, rfl, hs⟩
theorem entry_object_new : entryFor table "object.__new__" = some Builtin.«object.__new__» := entryFor_of_tree (by kernel_rfl)
section
variable {prog : Program} {w : World} {A : Around} {E : Value → Shared → Prop} {s : Shared}
theorem call_object {Q : Value → Shared → Prop} (h : Q (.ref s.heap.objs.size) { s with heap := s.heap.push { cls := .type "object", data := .plain } }) : wpAny (model prog w) A (call (.type "object") []) Q E s := by
  refine callType_meets (Q₁ := fun obj s₁ => obj = .ref s.heap.objs.size ∧ s₁ = { s with heap := s.heap.push { cls := .type "object", data := .plain } }) called_object typeCall_object newCall_object entry_object_new PySem.F.entry_object_init meets_object_new ⟨rfl, rfl⟩ fun obj s₁ h₁ => ?_
  obtain ⟨rfl, rfl⟩ := h₁
  exact ⟨⟨_, Heap.get?_push_size _ rfl, rfl⟩, args_object_init_1 _, _, meets_object_init _, rfl, h⟩
theorem object_body (b : Heap) (V : LG) (vs : List Value) (h : Fit V [] vs) : Ev prog w A b V (call (.type "object") vs) Rf := by
  cases h
  exact .of fun s Q E _ _ hx k => call_object (k _ _ s.toks (Ext.push _ _) ⟨_, rfl⟩)
end

section
variable {w : World}
set_option pp.deepTerms false in
set_option pp.deepTerms.threshold 8 in
set_option maxRecDepth 100000 in
theorem translate_ok {pat : List Nat} (hz : pat.length ≤ 1000) (hab : ∀ c ∈ pat, c ∈ ab) (A : Around) (b : Heap) (V : LG) (vs : List Value) (hA : OkA 3 A) (hW : Wd (KK w) b) (hfit : Fit V [S (st pat)] vs) :
    Ev PR w A b V (call (.ref 57) vs) (S (st (rx pat))) := by
  refine con_entry (d := 2) (a := 57) (o := ?o) (fd := ?fd) (body := ?body) (sc := ?sc) (xs := [Str.ofString "pat"]) (Ps := [S (st pat)]) (R := S (st (rx pat))) (K := KK w) ?hK ?hd ?hb ?hs ?hc ?hcl ?hgl ?hbu ?hst rfl ?hbind ?hT A b V vs hA hW hfit
  case hK => rfl
  case hd => rfl
  case hb => rfl
  case hs => (dsimp only; rfl)
  case hc => rfl
  case hcl => rfl
  case hgl => rfl
  case hbu => rfl
  case hst => decide +kernel
  case hbind => intro vals hv; obtain ⟨v, rfl⟩ := len1 hv rfl; rfl
  case hT =>
    intro env h₀ V₀ A' hsc hA'
    refine tri_cons (tri_assign hsc (et_call (Ps := []) (et_globb rfl rfl (by decide +kernel)) (.inr (.inr ⟨_, rfl⟩)) .nil fun b V vs _ f => object_body b V vs f) (.inl rfl) (by intro _ _; rfl)) ?_
    refine tri_cons (tri_assign hsc (et_call (Ps := [S (st pat), Rf, S (st [46])]) (et_glob rfl rfl) (.inl rfl) (.cons (et_name rfl) (fun _ => rfl) (.cons (et_name rfl) (fun _ => rfl) (.cons (et_str' dot_st) (fun _ => rfl) .nil)))
      fun b V vs W f => translate1_ok hz hab A' b V vs hA' W f) (.inl rfl) (by intro _ _; rfl)) ?_
    have e1 : (pat.map fun c => st (esc c)) = (pat.map esc).map st := by rw [List.map_map]; rfl
    have e2 : rx pat = [40, 63, 115, 58] ++ (pat.map esc).flatten ++ [41, 92, 90] := rfl
    rw [e1, e2]
    refine tri_cons (tri_return hsc (et_call (Ps := [LS ((pat.map esc).map st), Rf]) (et_glob rfl rfl) (.inl rfl) (.cons (et_name rfl) (fun _ => rfl) (.cons (et_name rfl) (fun _ => rfl) .nil))
      fun b V vs W f => joinp_ok (by simpa using hz) (fun y hy => ?_) A' b V vs ⟨hA'.handled, by have := hA'.depth; omega, by have := hA'.units; omega⟩ W f)) tri_nil
    obtain ⟨c, _, rfl⟩ := List.mem_map.mp hy
    rcases esc_len c with h | h <;> omega
end
end Mine
end
section
open PySem PySem.W PyProof.Rows PySem.SeqAt
set_option Elab.async false
set_option linter.all false
namespace Mine

noncomputable abbrev IsTri (h : Heap) (T : Addr) (a b c : Value) : Prop := h.get? T = some { cls := .type "tuple", data := .seq #[a, b, c] }
theorem typeCall_zip_3 (a b c : Value) : checkTypeCall "zip" ⟨[a, b, c], []⟩ = pure () := by kernel_rfl
theorem newCall_zip_3 (a b c : Value) : checkBuiltinCall "zip.__new__" ⟨[.type "zip", a, b, c], []⟩ = pure () := by kernel_rfl
theorem args_object_init_4 (a b c d : Value) : argsOk "object.__init__" ⟨[a, b, c, d], []⟩ := by
  unfold argsOk; rw [signature?_of (id := "object.__init__") (n := ['_', '_', 't', 'i', 'n', 'i', '_', '_']) (o := ['t', 'c', 'e', 'j', 'b', 'o']) (by kernel_rfl) PySem.F.owner_object]; kernel_rfl

noncomputable abbrev zH1 (h : Heap) (x : Str) (t : Tok) : Heap := h.push { cls := .type "str_ascii_iterator", data := .fields #[.str x t, .int 0 0] }
noncomputable abbrev zH2 (h : Heap) (x y : Str) (t u : Tok) : Heap := (zH1 h x t).push { cls := .type "str_ascii_iterator", data := .fields #[.str y u, .int 0 0] }
noncomputable abbrev zH3 (h : Heap) (x y z : Str) (t u v : Tok) : Heap := (zH2 h x y t u).push { cls := .type "str_ascii_iterator", data := .fields #[.str z v, .int 0 0] }
noncomputable abbrev zH4 (h : Heap) (x y z : Str) (t u v : Tok) : Heap := (zH3 h x y z t u v).push { cls := .type "tuple", data := .seq #[.ref h.objs.size, .ref (zH1 h x t).objs.size, .ref (zH2 h x y t u).objs.size] }
noncomputable abbrev zH5 (h : Heap) (x y z : Str) (t u v : Tok) : Heap := (zH4 h x y z t u v).push { cls := .type "tuple", data := .seq #[.none, .none, .none] }
noncomputable abbrev zH6 (h : Heap) (x y z : Str) (t u v : Tok) : Heap := (zH5 h x y z t u v).push { cls := .type "zip", data := .fields #[.none, .bool false, .bool false, .ref (zH3 h x y z t u v).objs.size, .ref (zH4 h x y z t u v).objs.size] }

set_option maxHeartbeats 2000000 in
theorem meets_zip3_new (x y z : Str) (t u v : Tok) (hx : x.cps.all (· < 128) = true) (hy : y.cps.all (· < 128) = true) (hz : z.cps.all (· < 128) = true) :
    Meets (Builtin.«zip.__new__» ⟨[.type "zip", .str x t, .str y u, .str z v], []⟩) (fun _ R s =>
      R (.ok (.ret (.ref (zH5 s.heap x y z t u v).objs.size))) { s with heap := zH6 s.heap x y z t u v }) :=
  .of_wp fun prog w A R s h => by
    obtain ⟨hp, g, d, tk, os⟩ := s
    have hsub := sub_zip
    wp_walk using wpAny_pyIter_ascii hx, wpAny_pyIter_ascii hy, wpAny_pyIter_ascii hz
    exact ⟨_, rfl, h⟩

section
variable {prog : Program} {w : World} {A : Around} {E : Value → Shared → Prop} {s : Shared}

theorem call_zip_3 {x y z : Str} {t u v : Tok} {Q : Value → Shared → Prop} (hx : x.cps.all (· < 128) = true) (hy : y.cps.all (· < 128) = true) (hz : z.cps.all (· < 128) = true)
    (h : ∀ h', IsZip h' (s.heap.objs.size + 5) (s.heap.objs.size + 3) (s.heap.objs.size + 4) .none → IsTri h' (s.heap.objs.size + 3) (.ref s.heap.objs.size) (.ref (s.heap.objs.size + 1)) (.ref (s.heap.objs.size + 2)) →
      IsTri h' (s.heap.objs.size + 4) .none .none .none → h'.IsStrIter s.heap.objs.size "str_ascii_iterator" x t 0 → h'.IsStrIter (s.heap.objs.size + 1) "str_ascii_iterator" y u 0 → h'.IsStrIter (s.heap.objs.size + 2) "str_ascii_iterator" z v 0 →
      (∀ c o, s.heap.get? c = some o → h'.get? c = some o) → Q (.ref (s.heap.objs.size + 5)) { s with heap := h' }) :
    wpAny (model prog w) A (call (.type "zip") [.str x t, .str y u, .str z v]) Q E s := by
  refine callType_new F.called_zip (by decide) (typeCall_zip_3 _ _ _) (newCall_zip_3 _ _ _) (fun obj => args_object_init_4 obj _ _ _) F.entry_zip_new
    (meets_zip3_new x y z t u v hx hy hz) ?_
  have z1 : (zH1 s.heap x t).objs.size = s.heap.objs.size + 1 := Heap.size_push ..
  have z2 : (zH2 s.heap x y t u).objs.size = s.heap.objs.size + 2 := by rw [Heap.size_push, z1]
  have z3 : (zH3 s.heap x y z t u v).objs.size = s.heap.objs.size + 3 := by rw [Heap.size_push, z2]
  have z4 : (zH4 s.heap x y z t u v).objs.size = s.heap.objs.size + 4 := by rw [Heap.size_push, z3]
  have z5 : (zH5 s.heap x y z t u v).objs.size = s.heap.objs.size + 5 := by rw [Heap.size_push, z4]
  have g6 : (zH6 s.heap x y z t u v).get? (zH5 s.heap x y z t u v).objs.size = some _ := Heap.get?_push_size _ rfl
  have g5 : (zH6 s.heap x y z t u v).get? (zH4 s.heap x y z t u v).objs.size = some _ := Heap.get?_push_of_some _ (Heap.get?_push_size _ rfl)
  have g4 : (zH6 s.heap x y z t u v).get? (zH3 s.heap x y z t u v).objs.size = some _ := Heap.get?_push_of_some _ (Heap.get?_push_of_some _ (Heap.get?_push_size _ rfl))
  have g3 : (zH6 s.heap x y z t u v).get? (zH2 s.heap x y t u).objs.size = some _ := Heap.get?_push_of_some _ (Heap.get?_push_of_some _ (Heap.get?_push_of_some _ (Heap.get?_push_size _ rfl)))
  have g2 : (zH6 s.heap x y z t u v).get? (zH1 s.heap x t).objs.size = some _ := Heap.get?_push_of_some _ (Heap.get?_push_of_some _ (Heap.get?_push_of_some _ (Heap.get?_push_of_some _ (Heap.get?_push_size _ rfl))))
  have g1 : (zH6 s.heap x y z t u v).get? s.heap.objs.size = some _ := Heap.get?_push_of_some _ (Heap.get?_push_of_some _ (Heap.get?_push_of_some _ (Heap.get?_push_of_some _ (Heap.get?_push_of_some _ (Heap.get?_push_size _ rfl)))))
  show _ ∧ _
  rw [z3, z4, z5] at g6
  rw [z1, z2, z3] at g4
  rw [z4] at g5
  rw [z2] at g3
  rw [z1] at g2
  rw [z5]
  exact ⟨⟨_, g6, rfl⟩, h _ g6 g4 g5 ⟨_, g1, rfl, rfl⟩ ⟨_, g2, rfl, rfl⟩ ⟨_, g3, rfl, rfl⟩ fun c o x =>
    Heap.get?_push_of_some _ (Heap.get?_push_of_some _ (Heap.get?_push_of_some _ (Heap.get?_push_of_some _ (Heap.get?_push_of_some _ (Heap.get?_push_of_some _ x)))))⟩

structure Zap (z TI TO i1 i2 i3 : Addr) : Prop where
  TIz : TI ≠ z
  TOz : TO ≠ z
  i1z : i1 ≠ z
  i2z : i2 ≠ z
  i3z : i3 ≠ z
  TITO : TI ≠ TO
  TIi1 : TI ≠ i1
  TIi2 : TI ≠ i2
  TIi3 : TI ≠ i3
  TOi1 : TO ≠ i1
  TOi2 : TO ≠ i2
  TOi3 : TO ≠ i3
  i12 : i1 ≠ i2
  i13 : i1 ≠ i3
  i23 : i2 ≠ i3

theorem updateSeq_tri {T : Addr} {a b c x : Value} {k : Nat} {Q : Unit → Shared → Prop} (hT : IsTri s.heap T a b c)
    (h : ∀ h', h'.get? T = some { cls := .type "tuple", data := .seq ((#[a, b, c] : Array Value).setIfInBounds k x) } → Heap.SameBut T s.heap h' → Q () { s with heap := h' }) :
    wpAny (model prog w) A (updateSeq T (·.setIfInBounds k x)) Q E s := by
  refine wpAny_updateSeq hT rfl (h _ ?_ (Heap.SameBut.update ..))
  rw [Heap.get?_update_self _ hT rfl]
  simp [Obj.mapSeq]

theorem zip3_next_item {z TI TO i1 i2 i3 : Addr} {k : Nat} {x1 x2 x3 : Str} {t1 t2 t3 : Tok} {c1 c2 c3 : Nat} {a b c : Value} {Q : Value → Shared → Prop} (D : Zap z TI TO i1 i2 i3)
    (hz : IsZip s.heap z TI TO .none) (hTI : IsTri s.heap TI (.ref i1) (.ref i2) (.ref i3)) (hTO : IsTri s.heap TO a b c)
    (h1 : s.heap.IsStrIter i1 "str_ascii_iterator" x1 t1 k) (h2 : s.heap.IsStrIter i2 "str_ascii_iterator" x2 t2 k) (h3 : s.heap.IsStrIter i3 "str_ascii_iterator" x3 t3 k)
    (hc1 : x1.cps[k]? = some c1) (hc2 : x2.cps[k]? = some c2) (hc3 : x3.cps[k]? = some c3)
    (hQ : ∀ h' tk v1 v2 v3, IsZip h' z TI TO (rawInt s.heap.objs.size) → IsTri h' TO v1 v2 v3 → h'.IsStrIter i1 "str_ascii_iterator" x1 t1 (k + 1) → h'.IsStrIter i2 "str_ascii_iterator" x2 t2 (k + 1) → h'.IsStrIter i3 "str_ascii_iterator" x3 t3 (k + 1) →
      IsTri h' s.heap.objs.size v1 v2 v3 → (∃ u, v1 = .str ⟨#[c1]⟩ u) → (∃ u, v2 = .str ⟨#[c2]⟩ u) → (∃ u, v3 = .str ⟨#[c3]⟩ u) →
      (∀ d o, d ≠ z → d ≠ TO → d ≠ i1 → d ≠ i2 → d ≠ i3 → s.heap.get? d = some o → h'.get? d = some o) → Q (.ref s.heap.objs.size) { s with heap := h', toks := tk }) :
    wpAny (model prog w) A (Builtin.«zip.__next__» ⟨[.ref z], []⟩) (fun fin s' => ∃ v, fin = .done (.ret v) ∧ Q v s') E s := by
  show wpAny _ _ (field (.ref z) 2 >>= _) _ _ _
  refine wpAny_bind (wpAny_field hz rfl (x := .bool false) rfl ?_)
  show wpAny _ _ (field (.ref z) 3 >>= _) _ _ _
  refine wpAny_bind (wpAny_field hz rfl (x := .ref TI) rfl ?_)
  refine wpAny_bind (wpAny_seqItems hTI rfl ?_)
  show wpAny _ _ (Builtin.SmallTypes.ownedTupleIsFree (.ref z) >>= _) _ _ _
  refine wpAny_bind ?_
  unfold Builtin.SmallTypes.ownedTupleIsFree
  refine wpAny_bind (wpAny_field hz rfl (x := .none) rfl (wpAny_pure ?_))
  simp only [if_true]
  refine wpAny_bind (wpAny_rule ?_)
  refine wpAny_bind (wpAny_field hz rfl (x := .ref TO) rfl ?_)
  refine wpAny_bind (wpAny_setField_rec hz (by simp) fun h₁ hz₁ hs₁ => ?_)
  replace hz₁ : IsZip h₁ z TI TO .ellipsis := hz₁
  refine wpAny_bind ?_
  simp only [List.zipIdx_cons, List.zipIdx_nil, List.forIn_cons, List.forIn_nil]
  -- first
  refine wpAny_bind (wpAny_bind (wpAny_onRaise ?_))
  show wpAny _ _ (Builtin.SmallTypes.nextOf (.ref i1) >>= _) _ _ _
  refine wpAny_bind (wpAny_nextOf_ascii_item (h1.extBut hs₁.extBut D.i1z) hc1 fun h₂ h1₂ hs₂ => wpAny_pure ?_)
  have hTO₂ : IsTri h₂ TO a b c := hs₂.extBut _ _ D.TOi1 (hs₁.extBut _ _ D.TOz hTO)
  refine wpAny_bind (wpAny_seqItems hTO₂ rfl ?_)
  refine wpAny_bind (updateSeq_tri hTO₂ fun h₃ hTO₃ hs₃ => ?_)
  replace hTO₃ : IsTri h₃ TO _ b c := hTO₃
  refine wpAny_bind (wpAny_letGo (wpAny_pure ?_))
  -- second
  refine wpAny_bind (wpAny_bind (wpAny_onRaise ?_))
  show wpAny _ _ (Builtin.SmallTypes.nextOf (.ref i2) >>= _) _ _ _
  refine wpAny_bind (wpAny_nextOf_ascii_item (((h2.extBut hs₁.extBut D.i2z).extBut hs₂.extBut D.i12.symm).extBut hs₃.extBut D.TOi2.symm) hc2 fun h₄ h2₄ hs₄ => wpAny_pure ?_)
  have hTO₄ := hs₄.extBut _ _ D.TOi2 hTO₃
  refine wpAny_bind (wpAny_seqItems hTO₄ rfl ?_)
  refine wpAny_bind (updateSeq_tri hTO₄ fun h₅ hTO₅ hs₅ => ?_)
  replace hTO₅ : IsTri h₅ TO _ _ c := hTO₅
  refine wpAny_bind (wpAny_letGo (wpAny_pure ?_))
  -- third
  refine wpAny_bind (wpAny_bind (wpAny_onRaise ?_))
  show wpAny _ _ (Builtin.SmallTypes.nextOf (.ref i3) >>= _) _ _ _
  refine wpAny_bind (wpAny_nextOf_ascii_item (((((h3.extBut hs₁.extBut D.i3z).extBut hs₂.extBut D.i13.symm).extBut hs₃.extBut D.TOi3.symm).extBut hs₄.extBut D.i23.symm).extBut hs₅.extBut D.TOi3.symm) hc3 fun h₆ h3₆ hs₆ => wpAny_pure ?_)
  have hTO₆ := hs₆.extBut _ _ D.TOi3 hTO₅
  refine wpAny_bind (wpAny_seqItems hTO₆ rfl ?_)
  refine wpAny_bind (updateSeq_tri hTO₆ fun h₇ hTO₇ hs₇ => ?_)
  replace hTO₇ : IsTri h₇ TO _ _ _ := hTO₇
  refine wpAny_bind (wpAny_letGo (wpAny_pure (wpAny_pure ?_)))
  refine wpAny_bind (wpAny_seqItems hTO₇ rfl ?_)
  refine wpAny_bind (wpAny_newTuple ?_)
  have hsz : h₇.objs.size = s.heap.objs.size := by rw [hs₇.1, hs₆.1, hs₅.1, hs₄.1, hs₃.1, hs₂.1, hs₁.1]
  have hk₇ : ∀ d o, d ≠ z → d ≠ TO → d ≠ i1 → d ≠ i2 → d ≠ i3 → s.heap.get? d = some o → h₇.get? d = some o := fun d o d1 d2 d3 d4 d5 e =>
    hs₇.extBut _ _ d2 (hs₆.extBut _ _ d5 (hs₅.extBut _ _ d2 (hs₄.extBut _ _ d4 (hs₃.extBut _ _ d2 (hs₂.extBut _ _ d3 (hs₁.extBut _ _ d1 e))))))
  have hz₇ : IsZip h₇ z TI TO .ellipsis := hs₇.extBut _ _ D.TOz.symm (hs₆.extBut _ _ D.i3z.symm (hs₅.extBut _ _ D.TOz.symm (hs₄.extBut _ _ D.i2z.symm (hs₃.extBut _ _ D.TOz.symm (hs₂.extBut _ _ D.i1z.symm hz₁)))))
  have h1₇ := ((((h1₂.extBut hs₃.extBut D.TOi1.symm).extBut hs₄.extBut D.i12).extBut hs₅.extBut D.TOi1.symm).extBut hs₆.extBut D.i13).extBut hs₇.extBut D.TOi1.symm
  have h2₇ := ((h2₄.extBut hs₅.extBut D.TOi2.symm).extBut hs₆.extBut D.i23).extBut hs₇.extBut D.TOi2.symm
  have h3₇ := h3₆.extBut hs₇.extBut D.TOi3.symm
  have hzlt : z < h₇.objs.size := Heap.lt_size hz₇
  show wpAny _ _ (Builtin.SmallTypes.ownedTupleHandOut (.ref z) (.ref h₇.objs.size) >>= _) _ _ _
  refine wpAny_bind ?_
  unfold Builtin.SmallTypes.ownedTupleHandOut
  dsimp only
  generalize hTup : ({ cls := Value.type "tuple", dict := none, data := Data.seq _, slots := _ } : Obj) = tupo
  have hz₈ : IsZip (h₇.push tupo) z TI TO .ellipsis := Heap.get?_push_of_some _ hz₇
  refine wpAny_bind (wpAny_setField_rec hz₈ (by simp) fun h₉ hz₉ hs₉ => ?_)
  replace hz₉ : IsZip h₉ z TI TO (rawInt h₇.objs.size) := hz₉
  refine wpAny_setField_rec hz₉ (by simp) fun h₁₀ hz₁₀ hs₁₀ => ?_
  replace hz₁₀ : IsZip h₁₀ z TI TO (rawInt h₇.objs.size) := hz₁₀
  have up : ∀ d o, d ≠ z → h₇.get? d = some o → h₁₀.get? d = some o := fun d o d1 e => hs₁₀.extBut _ _ d1 (hs₉.extBut _ _ d1 (Heap.get?_push_of_some _ e))
  have hT₁₀ : h₁₀.get? h₇.objs.size = some tupo := hs₁₀.extBut _ _ (Nat.ne_of_gt hzlt) (hs₉.extBut _ _ (Nat.ne_of_gt hzlt) (Heap.get?_push_size _ (by subst hTup; rfl)))
  subst hTup
  rw [hsz] at hz₁₀ hT₁₀
  refine wpAny_pure ⟨_, rfl, ?_⟩
  show Q (.ref h₇.objs.size) _
  rw [hsz]
  exact hQ h₁₀ _ _ _ _ hz₁₀ (up _ _ D.TOz hTO₇) (let ⟨o, e, r⟩ := h1₇; ⟨o, up _ o D.i1z e, r⟩) (let ⟨o, e, r⟩ := h2₇; ⟨o, up _ o D.i2z e, r⟩) (let ⟨o, e, r⟩ := h3₇; ⟨o, up _ o D.i3z e, r⟩)
    hT₁₀ ⟨_, rfl⟩ ⟨_, rfl⟩ ⟨_, rfl⟩ fun d o d1 d2 d3 d4 d5 e => up d o d1 (hk₇ d o d1 d2 d3 d4 d5 e)
end
end Mine
end
section
open PySem PySem.W PyProof.Rows PySem.SeqAt
set_option Elab.async false
set_option linter.all false
namespace Mine
section
variable {prog : Program} {w : World} {A : Around} {K : Frag} {ow : Str → Prop} {h₀ h h' h'' b b₀ : Heap} {V₀ V V' V'' : LG} {env cenv : Env} {sc sc' : Scope} {Γ Γ' : Ctx'} {O : OwnT} {l r e : Expr} {pos px : Pos} {x : Str} {P : Sp} {R : Value → As} {N N' P' : As} {D : Addr} {E : Value → Shared → Prop} {s : Shared}

theorem zip3_next_end {z TI TO i1 i2 i3 : Addr} {k : Nat} {x1 : Str} {t1 : Tok} {a b c : Value} {Q : Fin → Shared → Prop} (hh : A.handled = none) (D : Zap z TI TO i1 i2 i3)
    (hz : IsZip s.heap z TI TO .none) (hTI : IsTri s.heap TI (.ref i1) (.ref i2) (.ref i3)) (hTO : IsTri s.heap TO a b c)
    (h1 : s.heap.IsStrIter i1 "str_ascii_iterator" x1 t1 k) (hc1 : x1.cps[k]? = none)
    (hE : ∀ h' e, (∀ c o, c ≠ z → c ≠ TO → c ≠ i1 → s.heap.get? c = some o → h'.get? c = some o) → (∃ o, h'.get? e = some o ∧ o.cls = .type "StopIteration") → E (.ref e) { s with heap := h' }) :
    wpAny (model prog w) A (Builtin.«zip.__next__» ⟨[.ref z], []⟩) Q E s := by
  show wpAny _ _ (field (.ref z) 2 >>= _) _ _ _
  refine wpAny_bind (wpAny_field hz rfl (x := .bool false) rfl ?_)
  show wpAny _ _ (field (.ref z) 3 >>= _) _ _ _
  refine wpAny_bind (wpAny_field hz rfl (x := .ref TI) rfl ?_)
  refine wpAny_bind (wpAny_seqItems hTI rfl ?_)
  show wpAny _ _ (Builtin.SmallTypes.ownedTupleIsFree (.ref z) >>= _) _ _ _
  refine wpAny_bind ?_
  unfold Builtin.SmallTypes.ownedTupleIsFree
  refine wpAny_bind (wpAny_field hz rfl (x := .none) rfl (wpAny_pure ?_))
  simp only [if_true]
  refine wpAny_bind (wpAny_rule ?_)
  refine wpAny_bind (wpAny_field hz rfl (x := .ref TO) rfl ?_)
  refine wpAny_bind (wpAny_setField_rec hz (by simp) fun h₁ hz₁ hs₁ => ?_)
  replace hz₁ : IsZip h₁ z TI TO .ellipsis := hz₁
  refine wpAny_bind ?_
  simp only [List.zipIdx_cons, List.zipIdx_nil, List.forIn_cons, List.forIn_nil]
  refine wpAny_bind (wpAny_bind (wpAny_onRaise ?_))
  show wpAny _ _ (Builtin.SmallTypes.nextOf (.ref i1) >>= _) _ _ _
  refine wpAny_bind (wpAny_nextOf_ascii_end hh (h1.extBut hs₁.extBut D.i1z) hc1 fun h₂ e hs₂ he => ?_)
  obtain ⟨oe, hoe, hce⟩ := he
  have hz₂ : IsZip h₂ z TI TO .ellipsis := hs₂ _ _ D.i1z.symm hz₁
  have hez : e ≠ z := fun x => by subst x; rw [hz₂] at hoe; cases hoe; simp at hce
  exact wpAny_setField_rec hz₂ (by simp) fun h₃ _ hs₃ => hE h₃ e (fun c o c1 _ c3 x => hs₃.extBut _ _ c1 (hs₂ _ _ c3 (hs₁.extBut _ _ c1 x))) ⟨oe, hs₃.extBut _ _ hez hoe, hce⟩

/-- the state of a zip of three strs -/
structure Z3 (z TI TO i1 i2 i3 : Addr) (x1 x2 x3 : Str) (t1 t2 t3 : Tok) (i : Nat) (h : Heap) : Prop where
  z : IsZip h z TI TO .none
  ti : IsTri h TI (.ref i1) (.ref i2) (.ref i3)
  to : ∃ a b c, IsTri h TO a b c
  h1 : h.IsStrIter i1 "str_ascii_iterator" x1 t1 i
  h2 : h.IsStrIter i2 "str_ascii_iterator" x2 t2 i
  h3 : h.IsStrIter i3 "str_ascii_iterator" x3 t3 i

theorem pl_fields {cls : Value} {d : Option Addr} {vs : Array Value} {sl : Array (Option Value)} : Pl { cls, dict := d, data := .fields vs, slots := sl } := ⟨(fun _ _ h => by cases h), (fun _ h => by cases h)⟩
theorem pl_seq {cls : Value} {d : Option Addr} {vs : Array Value} {n : Nat} {sl : Array (Option Value)} : Pl { cls, dict := d, data := .seq vs n, slots := sl } := ⟨(fun _ _ h => by cases h), (fun _ h => by cases h)⟩
theorem striter_keep {it : Addr} {x : Str} {t : Tok} {i : Nat} (st : h.IsStrIter it "str_ascii_iterator" x t i) (k : ∀ o, h.get? it = some o → Pl o → o.cls ≠ .type "list" → h'.get? it = some o) : h'.IsStrIter it "str_ascii_iterator" x t i := by
  obtain ⟨o, e, c, d⟩ := st
  exact ⟨o, k o e ⟨(fun _ _ q => by rw [d] at q; cases q), (fun _ q => by rw [d] at q; cases q)⟩ (by rw [c]; simp), c, d⟩
theorem striter_alive {it : Addr} {x : Str} {t : Tok} {i : Nat} (st : h.IsStrIter it "str_ascii_iterator" x t i) : ∃ o, h.get? it = some o ∧ Pl o ∧ o.cls ≠ .type "list" := by
  obtain ⟨o, e, c, d⟩ := st
  exact ⟨o, e, ⟨(fun _ _ q => by rw [d] at q; cases q), (fun _ q => by rw [d] at q; cases q)⟩, by rw [c]; simp⟩

/-- three names take a triple -/
theorem fr_assign3 {y z : Str} {py pz tp : Pos} {k : Nat} {P1 P2 P3 : Sp} {v1 v2 v3 : Value} {T : Addr} {Q : Unit → Shared → Prop} (hh : A.handled = none) (F : Frame K ow b₀ s.heap V env Γ)
    (hx : env.kindOf x = some .local ∨ (env.kindOf x = some .cell ∧ ow x)) (hy : env.kindOf y = some .local ∨ (env.kindOf y = some .cell ∧ ow y)) (hz : env.kindOf z = some .local ∨ (env.kindOf z = some .cell ∧ ow z))
    (hT : s.heap.IsTuple T #[v1, v2, v3]) (p1 : P1.p V v1) (p2 : P2.p V v2) (p3 : P3.p V v3)
    (hQ : ∀ h' tk, Frame K ow b₀ h' V env (upd (upd (upd Γ x P1) y P2) z P3) → Kp s.heap h' → Q () { s with heap := h', toks := tk }) :
    wpAny (model prog w) A (assign (.Tuple [.Name x px, .Name y py, .Name z pz] k tp) env (.ref T)) Q E s := by
  refine wpAny_assign_Tuple hh hT rfl (by rfl) fun h₁ he₁ => ?_
  have ext1 : Ext s.heap h₁ := fun a o e => he₁ a o (fun q => Nat.lt_irrefl _ (q ▸ Heap.lt_size e)) e
  have F1 : Frame K ow b₀ h₁ V env Γ := F.grow (.of_ext F.sub ext1)
  show wpAny _ _ (do holding [v2, v3] (assign (.Name x px) env v1); (do holding [v3] (assign (.Name y py) env v2); (do holding [] (assign (.Name z pz) env v3); pure ()))) _ _ _
  refine wpAny_bind (wpAny_holding (F1.assign (s := { s with heap := h₁ }) hx p1 fun h₂ tk₂ F2 kp2 => ?_))
  refine wpAny_bind (wpAny_holding (F2.assign (s := { s with heap := h₂, toks := tk₂ }) hy p2 fun h₃ tk₃ F3 kp3 => ?_))
  refine wpAny_bind (wpAny_holding (F3.assign (s := { s with heap := h₃, toks := tk₃ }) hz p3 fun h₄ tk₄ F4 kp4 => wpAny_pure ?_))
  exact hQ h₄ tk₄ F4 ((((Kp.of_ext ext1).trans kp2).trans kp3).trans kp4)

theorem drw_zip3 {scope : Scope} {y z : Str} {py pz tp : Pos} {kk : Nat} {zz TI TO i1 i2 i3 : Addr} {l1 l2 l3 : List Nat} {t1 t2 t3 : Tok} (hh : A.handled = none) (AP : Zap zz TI TO i1 i2 i3)
    (e2 : l2.length = l1.length) (e3 : l3.length = l1.length) (hwb : ∀ a ∈ [zz, TO, i1, i2, i3], b₀.get? a = none)
    (hx : cenv.kindOf x = some .local ∨ (cenv.kindOf x = some .cell ∧ ow x)) (hy : cenv.kindOf y = some .local ∨ (cenv.kindOf y = some .cell ∧ ow y)) (hz : cenv.kindOf z = some .local ∨ (cenv.kindOf z = some .cell ∧ ow z))
    (hΓx : Γ x = none) (hΓy : Γ y = none) (hΓz : Γ z = none) :
    Drw prog w A K ow b₀ V₀ cenv Γ (.Tuple [.Name x px, .Name y py, .Name z pz] kk tp) zz l1.length
      (fun i => upd (upd (upd Γ x (S (st [l1.getD i 0]))) y (S (st [l2.getD i 0]))) z (S (st [l3.getD i 0]))) [zz, TO, i1, i2, i3] (Z3 zz TI TO i1 i2 i3 (st l1) (st l2) (st l3) t1 t2 t3) := by
  have alive : ∀ i g', Z3 zz TI TO i1 i2 i3 (st l1) (st l2) (st l3) t1 t2 t3 i g' → ∀ a ∈ [zz, TO, i1, i2, i3], ∃ o, g'.get? a = some o ∧ Pl o ∧ o.cls ≠ .type "list" := by
    intro i g' Z a ha
    simp at ha
    obtain ⟨c1, c2, c3, hto⟩ := Z.to
    rcases ha with rfl | rfl | rfl | rfl | rfl
    · exact ⟨_, Z.z, pl_fields, by simp⟩
    · exact ⟨_, hto, pl_seq, by simp⟩
    · exact striter_alive Z.h1
    · exact striter_alive Z.h2
    · exact striter_alive Z.h3
  have stab : ∀ i g g', Z3 zz TI TO i1 i2 i3 (st l1) (st l2) (st l3) t1 t2 t3 i g → (∀ a o, g.get? a = some o → Pl o → o.cls ≠ .type "list" → g'.get? a = some o) → Z3 zz TI TO i1 i2 i3 (st l1) (st l2) (st l3) t1 t2 t3 i g' := by
    intro i g g' Z k
    obtain ⟨c1, c2, c3, hto⟩ := Z.to
    exact ⟨k _ _ Z.z pl_fields (by simp), k _ _ Z.ti pl_seq (by simp), ⟨c1, c2, c3, k _ _ hto pl_seq (by simp)⟩, striter_keep Z.h1 (k _), striter_keep Z.h2 (k _), striter_keep Z.h3 (k _)⟩
  have at1 : ∀ (l : List Nat) i, i < l.length → (st l).cps[i]? = some (l.getD i 0) := fun l i hi => by simp [st, List.getD_eq_getElem?_getD, hi]
  refine ⟨fun i s V Q E hi Z F hL hw k => ?_, fun s Q E Z k => ?_, fun i g g' Z hs k1 k2 => stab i g g' Z k2, alive, fun i hi y' P q => ?_⟩
  · have hT : s.TypeIs (.ref zz) "zip" := ⟨_, Z.z, rfl⟩
    obtain ⟨c1, c2, c3, hto⟩ := Z.to
    unfold pyNext
    refine wpAny_bind (wpAny_attempt (wpAny_callSpecial?_slot (name := Str.ofString "__next__") hT PySem.F.slot_zip_next
      (wpAny_call_entry PySem.F.slot_zip_next hT PySem.F.entry_zip_next
        (zip3_next_item AP Z.z Z.ti hto Z.h1 Z.h2 Z.h3 (at1 l1 i hi) (at1 l2 i (e2 ▸ hi)) (at1 l3 i (e3 ▸ hi)) fun h₁ tk₁ v1 v2 v3 a1 a2 a3 a4 a5 a6 q1 q2 q3 hk => ?_) (PySem.F.args_zip_next_1 _))))
    refine wpAny_pure ⟨_, rfl, ?_⟩
    have hzT : zz ≠ s.heap.objs.size := Nat.ne_of_lt (Heap.lt_size Z.z)
    refine wpAny_letOwnedTupleGo_zip (s := { s with heap := h₁, toks := tk₁ }) a1 fun h₂ hz₂ hs₂ => ?_
    have hk₂ : ∀ a o, ¬ a ∈ [zz, TO, i1, i2, i3] → s.heap.get? a = some o → h₂.get? a = some o := fun a o ha e => by
      simp at ha
      exact (hs₂.2 a ha.1).trans (hk a o ha.1 ha.2.1 ha.2.2.1 ha.2.2.2.1 ha.2.2.2.2 e)
    have F2 : Frame K ow b₀ h₂ V cenv Γ := F.keep (X := fun a => a ∈ [zz, TO, i1, i2, i3]) hk₂ hwb hw fun a ha => let ⟨o, e, p, _⟩ := alive i _ Z a ha; ⟨o, e, p⟩
    have Z2 : Z3 zz TI TO i1 i2 i3 (st l1) (st l2) (st l3) t1 t2 t3 (i + 1) h₂ := by
      refine ⟨hz₂, ?_, ⟨v1, v2, v3, hs₂.extBut _ _ AP.TOz a2⟩, a3.extBut hs₂.extBut AP.i1z, a4.extBut hs₂.extBut AP.i2z, a5.extBut hs₂.extBut AP.i3z⟩
      exact hs₂.extBut _ _ AP.TIz (hk _ _ AP.TIz AP.TITO AP.TIi1 AP.TIi2 AP.TIi3 Z.ti)
    have hT2 : h₂.IsTuple s.heap.objs.size #[v1, v2, v3] := ⟨_, hs₂.extBut _ _ (Ne.symm hzT) a6, rfl, _, rfl⟩
    refine fr_assign3 (s := { s with heap := h₂, toks := tk₁ }) (P1 := S (st [l1.getD i 0])) (P2 := S (st [l2.getD i 0])) (P3 := S (st [l3.getD i 0])) hh F2 hx hy hz hT2 q1 q2 q3 fun h₃ tk₃ F3 kp3 => ?_
    exact k h₃ tk₃ F3 (stab _ _ _ Z2 fun a o e p _ => kp3 a o e p.1 p.2) fun a o ha e p => kp3 a o (hk₂ a o ha e) p.1 p.2
  · have hT : s.TypeIs (.ref zz) "zip" := ⟨_, Z.z, rfl⟩
    obtain ⟨c1, c2, c3, hto⟩ := Z.to
    unfold pyNext
    refine wpAny_bind (wpAny_attempt (wpAny_callSpecial?_slot (name := Str.ofString "__next__") hT PySem.F.slot_zip_next
      (wpAny_call_entry PySem.F.slot_zip_next hT PySem.F.entry_zip_next (zip3_next_end hh AP Z.z Z.ti hto Z.h1 (by simp [st]) fun h₁ e hk he => ?_) (PySem.F.args_zip_next_1 _))))
    obtain ⟨o, ho, hc⟩ := he
    refine wpAny_bind (wpAny_isInstance (T := "StopIteration") (b := true) ⟨o, ho, hc⟩ isSubtype_stop ?_)
    exact wpAny_pure (k h₁ s.toks fun a o ha e => by simp at ha; exact hk a o ha.1 ha.2.1 ha.2.2.1 e)
  · show upd (upd (upd Γ x _) y _) z _ y' = some P
    unfold upd
    by_cases h1 : y' = z
    · rw [h1, hΓz] at q; cases q
    · rw [if_neg h1]
      by_cases h2 : y' = y
      · rw [h2, hΓy] at q; cases q
      · rw [if_neg h2]
        by_cases h3 : y' = x
        · rw [h3, hΓx] at q; cases q
        · rw [if_neg h3]; exact q
end
end Mine
end
section
open PySem PySem.W PyProof.Rows PySem.SeqAt
set_option Elab.async false
set_option linter.all false
namespace Mine
section
variable {prog : Program} {w : World} {A : Around} {K : Frag} {ow : Str → Prop} {h₀ h h' h'' b b₀ : Heap} {V₀ V V' V'' : LG} {env cenv : Env} {sc sc' : Scope} {Γ Γ' : Ctx'} {O : OwnT} {l r e : Expr} {pos px : Pos} {x : Str} {P : Sp} {R : Value → As} {N N' P' : As} {D : Addr} {E : Value → Shared → Prop} {s : Shared}

/-- a comprehension's block behind an iterator that stands already -/
theorem comp_coreH {elt iter target : Expr} {ifs : List Expr} {more : List Comprehension} {scope : Scope} {n : Nat} {Γu : Nat → Ctx'} {p : Nat → Bool} {F : Nat → List Sp} {rest : Env → Addr → Sem Unit} {RR : Value → Addr → Result → Shared → Prop} {it : Addr} {wr : List Addr} {St : Nat → Heap → Prop}
    (hsc : env.scope = sc) (Fe : EnvOk K s.heap V env Γ) (hs : Sub V s.heap) (hb₀ : Ext b₀ s.heap) (hwd : Wd K b₀) (hst : St 0 s.heap)
    (hself : ∀ i (s : Shared) (Q : Value → Shared → Prop) E, St i s.heap → Q (.ref it) s → wpAny (model prog w) A (pyIter (.ref it)) Q E s)
    (hwr : ∀ a ∈ wr, b₀.get? a = none ∧ V a = none)
    (hdrw : ∀ ow cenv, Knd scope ow cenv → Drw prog w A K ow b₀ V cenv (cutΓ scope Γ) target it n Γu wr St)
    (ok : compOk scope sc = true) (hsc' : relS scope sc = sc')
    (hturn : ∀ it D cenv, compTurn (.ListComp elt (⟨target, iter, ifs, 0⟩ :: more) scope pos) 0 (.ref it) (.ref D) cenv = (do
      standAt iter.pos
      match ← pyNext (.ref it) with
      | none => pure (.done .next)
      | some v =>
        letOwnedTupleGo target (.ref it) v
        assign target cenv v
        let ok ← testsTree ifs cenv
        if ok = true then do rest cenv D; again (.compLoop (.ListComp elt (⟨target, iter, ifs, 0⟩ :: more) scope pos) 0 (.ref it) (.ref D) cenv)
        else again (.compLoop (.ListComp elt (⟨target, iter, ifs, 0⟩ :: more) scope pos) 0 (.ref it) (.ref D) cenv)))
    (ts : ∀ i, i < n → TsT prog w K A sc' (Γu i) ifs (p i))
    (em : ∀ ow b₀ V₀ D cenv, cenv.scope = sc' → b₀.get? D = none → Knd scope ow cenv → ∀ i, i < n → p i = true → Em prog w A K ow b₀ V₀ D cenv (Γu i) (rest cenv D) (F i))
    (hz : ((List.range n).flatMap fun i => if p i then F i else []).length ≤ 1000000)
    (hRR : ∀ D C h' tk V', Ext b₀ h' → Le V V' → Sub V' h' → (∀ a o, V' a = some o → V a = some o ∨ b₀.get? a = none) → (L ((List.range n).flatMap fun i => if p i then F i else [])).p V' (.ref D) → (∃ m, h'.Ns C m) → s.heap.get? C = none →
      RR (.ref D) C (.ok .next) { s with heap := h', toks := tk }) :
    wpAny (model prog w) A (newList []) (fun acc s₃ =>
      wpAny (model prog w) A (newFunctionEnv scope env.globals (clo env.cells scope.names []) [] env.qual none .none (some env)) (fun cenv s₄ =>
        codeAny (model prog w) A (.compStart (.ListComp elt (⟨target, iter, ifs, 0⟩ :: more) scope pos) 0 (.ref it) acc { cenv with scope := relabel scope env }) (RR acc cenv.locals) s₄) E s₃) E s := by
  refine wpAny_newObj_type (T := "list") (wpAny_newCompEnv ?_) (by show ([] : List Value).toArray.size ≤ sizeLine; rw [sizeLine_eq]; decide)
  generalize hH3 : s.heap.push { cls := .type "list", dict := none, data := .seq ([] : List Value).toArray } = H3
  have ext3 : Ext s.heap H3 := hH3 ▸ Ext.push _ _
  have hD3 : H3.get? s.heap.objs.size = some (lobj [] 0) := hH3 ▸ Heap.get?_push_size _ rfl
  have F3 : EnvOk K H3 V env Γ := Fe.ext ext3 (Le.refl _)
  have base3 : Ext b₀ H3 := hb₀.trans ext3
  have FR := Frame.comp (qual := env.qual) hsc F3 (hs.ext ext3) ok b₀ base3 hwd
  have ext4 : Ext H3 (pushCells (H3.push { cls := .type "dict", data := .dict #[] }) scope.names) := fun a o e => pushCells_keeps _ _ a o (Heap.get?_push_of_some _ e)
  generalize hcenv : ({ scope := relabel scope env, locals := H3.objs.size, globals := env.globals, cells := cellsFrom (H3.objs.size + 1) scope.names [] ++ clo env.cells scope.names [], qual := env.qual, func := none, code := env.code, frame := env.frame, builtins := env.builtins } : Env) = cenv at FR ⊢
  have hcs : cenv.scope = sc' := by subst hcenv; rw [← hsc']; exact relabel_eq scope env sc hsc
  have hcl : cenv.locals = H3.objs.size := by subst hcenv; rfl
  have hknd : ∀ y, cenv.kindOf y = (scope.names.lookup y).map (relK sc y) := fun y => by
    unfold Env.kindOf; rw [hcs, ← hsc']; exact lookup_relS scope sc y
  have hnone0 : ∀ a, s.heap.objs.size ≤ a → s.heap.get? a = none := fun a ha => by
    cases e : s.heap.get? a with
    | none => rfl
    | some o => exact absurd (Heap.lt_size e) (Nat.not_lt.mpr ha)
  have hnone : ∀ a, s.heap.objs.size ≤ a → b₀.get? a = none := fun a ha => none_of_ext hb₀ (hnone0 a ha)
  have hsz3 : s.heap.objs.size ≤ H3.objs.size := by rw [← hH3, Heap.size_push]; exact Nat.le_succ _
  have hKnd : Knd scope (fun y => scope.names.lookup y = some .cell) cenv := fun y => ⟨fun q => by rw [hknd, q]; rfl, fun q => ⟨by rw [hknd, q]; rfl, q⟩⟩
  have DR := hdrw (fun y => scope.names.lookup y = some .cell) cenv hKnd
  have hDV : V s.heap.objs.size = none := by
    cases q : V s.heap.objs.size with
    | none => rfl
    | some o => exact absurd (Heap.lt_size (hs _ o q).1) (Nat.lt_irrefl _)
  have hst0 : St 0 (pushCells (H3.push { cls := .type "dict", data := .dict #[] }) scope.names) := DR.stab _ _ _ hst hs (fun a o _ e => ext4 a o (ext3 a o e)) fun a o e _ _ => ext4 a o (ext3 a o e)
  have e0 : EmS s.heap.objs.size V b₀ V (pushCells (H3.push { cls := .type "dict", data := .dict #[] }) scope.names) := .of_kd hDV fun a o _ e _ => ext4 a o (base3 a o e)
  have loop : codeAny (model prog w) A (.compLoop (.ListComp elt (⟨target, iter, ifs, 0⟩ :: more) scope pos) 0 (.ref it) (.ref s.heap.objs.size) cenv) (RR (.ref s.heap.objs.size) H3.objs.size)
      { s with heap := pushCells (H3.push { cls := .type "dict", data := .dict #[] }) scope.names } := by
    refine loopG (s := { s with heap := pushCells (H3.push { cls := .type "dict", data := .dict #[] }) scope.names }) (g₀ := b₀) (ys₀ := []) (hturn it _ cenv) DR hst0 FR (Le.refl _) e0 (fun a ha => (hwr a ha).1) (fun a ha => (hwr a ha).1) (fun a ha => (hwr a ha).2)
      (ext4 _ _ hD3) hDV (hnone _ (Nat.le_refl _)) hcs ts (em _ _ _ _ cenv hcs (hnone _ (Nat.le_refl _)) hKnd) (by simpa using hz) ?_
    intro h' tk V' us m FF hD' hem hfit
    have hDn := hem.dn
    rw [List.nil_append] at hD'
    have hnew := hem.new (b₀ := b₀) (Ext.refl _) FF.base FF.sub
    refine hRR _ _ h' tk (put V' s.heap.objs.size (lobj us m)) FF.base (hem.le.trans (.put hDn)) (FF.sub.put hD' (pl_lobj _ _)) (fun a o q => ?_) ⟨_, _, _, rfl, put_self .., hfit.mono (.put hDn)⟩ (hcl ▸ FF.ns) (hnone0 _ hsz3)
    unfold put at q
    split at q
    · rename_i q2; subst q2; exact .inr (hnone _ (Nat.le_refl _))
    · exact hnew a o q
  exact codeAny_compStart_list loop (hself 0 _ _ _ hst0 loop)

/-- some objects, off all that is known, have changed; more is known -/
theorem At.jump {X : Addr → Prop} (x : At K ow h₀ V₀ env Γ O V h) (hk : ∀ a o, ¬ X a → h.get? a = some o → h'.get? a = some o) (h0 : ∀ a, X a → h₀.get? a = none) (hV : ∀ a, X a → V a = none)
    (hp : ∀ a, X a → ∃ o, h.get? a = some o ∧ Pl o ∧ o.cls ≠ .type "list") (le : Le V V') (sub : Sub V' h') (new : ∀ a o, V' a = some o → V a = some o ∨ h.get? a = none ∨ X a) : At K ow h₀ V₀ env Γ O V' h' := by
  have x1 := x.keep hk h0 hV hp
  refine ⟨⟨x1.fr.ok.ext (Ext.refl _) le, x1.fr.base, x1.fr.wd, sub, x1.fr.fresh, x1.fr.ns, x1.fr.own⟩, x.le.trans le, fun a o e => ?_, ?_⟩
  · rcases new a o e with q | q | q
    · exact x.new a o q
    · exact .inr (none_of_ext x.fr.base q)
    · exact .inr (h0 a q)
  · have own := x1.own
    have own0 := x.own
    cases O with
    | none => trivial
    | some p =>
      obtain ⟨a, Ps⟩ := p
      obtain ⟨vs, n, q1, q2, q3, q4⟩ := own
      obtain ⟨vs0, n0, r1, _, _, _⟩ := own0
      refine ⟨vs, n, q1, ?_, q3, q4.mono le⟩
      cases q : V' a with
      | none => rfl
      | some o =>
        exfalso
        rcases new a o q with q | q | q
        · rw [q2] at q; cases q
        · rw [r1] at q; cases q
        · obtain ⟨o', e', _, hc⟩ := hp a q
          rw [r1] at e'; cases e'; exact hc rfl

set_option maxRecDepth 100000 in
theorem wp_join {y : Str} {k0 : Nat} {p0 apos : Pos} {lc : Expr} {Q : Value → Shared → Prop} (hse : ∀ env, starEach [lc] env = [(false, eval lc env)]) (hline : (apos.endLine == pos.line) = true)
    (h : ∀ t tk, wpAny (model prog w) A (eval lc env) (fun v s₁ => wpAny (model prog w) A (call (.builtin "str.join") [.str y t, v]) Q E s₁) E { s with toks := tk }) :
    wpAny (model prog w) A (eval (.Call (.Attribute (.Constant (.str y) k0 p0) "join" apos) [lc] [] pos) env) Q E s := by
  rw [arm_eval_Call]
  show wpAny _ _ (eval (.Constant (.str y) k0 p0) env >>= _) _ _ _
  refine wpAny_bind (wpAny_Constant_str (wpAny_bind (wpAny_standAt ?_)))
  have hform : methodCallForm (([lc] : List Expr).length + ([] : List Keyword).length) (backTo pos (starEach [lc] env)) (backToKw pos (keywordEach [] env)) = true := by
    rw [hse]; rfl
  unfold methodCall
  rw [hform]
  refine wpAny_bind (wpAny_holding (getMethod_builtin (typeIs_str _ _ _) PySem.F.plainAttrs_str PySem.F.slot_str_join PySem.F.type_str_join (fun a e => by cases e) ?_))
  dsimp only
  have hpos : methodCallPos true (.Constant (.str y) k0 p0) env apos pos = pure pos := by unfold methodCallPos; simp [hline]
  rw [hpos]
  refine wpAny_bind (wpAny_pure ?_)
  rw [hse]
  exact Calls.callWith_builtin rfl (Calls.evalArgs_plain (Calls.spliced_cons (wpAny_mono (h s.toks (s.toks + 1)) (fun v s₁ h₁ => Calls.spliced_nil h₁) fun _ _ e => e)))
end
end Mine
end
section
open PySem PySem.W PyProof.Rows PySem.SeqAt
set_option Elab.async false
set_option linter.all false
namespace Mine
section
variable {prog : Program} {w : World} {A : Around} {K : Frag} {ow : Str → Prop} {h₀ h h' h'' b b₀ : Heap} {V₀ V V' V'' : LG} {env cenv : Env} {sc sc' : Scope} {Γ Γ' : Ctx'} {O : OwnT} {l r e : Expr} {pos px : Pos} {x : Str} {P : Sp} {R : Value → As} {N N' P' : As} {D : Addr} {E : Value → Shared → Prop} {s : Shared}

theorem ap_zip3 (N : Nat) : Zap (N + 5) (N + 3) (N + 4) N (N + 1) (N + 2) := by
  constructor <;> (intro q; have q' : (_ : Nat) = (_ : Nat) := q; omega)

theorem flat_single : ∀ out : List Nat, (out.flatMap fun c => [S (st [c])]) = (out.map fun c => st [c]).map S
  | [] => rfl
  | c :: r => by rw [List.flatMap_cons, flat_single r]; rfl
theorem flatten_single : ∀ out : List Nat, (out.map fun c => [c]).flatten = out
  | [] => rfl
  | c :: r => by rw [List.map_cons, List.flatten_cons, flatten_single r]; rfl
set_option maxRecDepth 100000 in
set_option maxHeartbeats 2000000 in
/-- t = zip(e1, e2, e3); m.append(''.join([.. for x, y, z in t])) -/
theorem tri_zipjoin {a : Addr} {Ps : List Sp} {tn mn y z zn : Str} {e1 e2 e3 elt : Expr} {l1 l2 l3 out : List Nat} {p1 pz cp spos pm ap p0 jp py pzz tp pi lp jcp acp epos : Pos} {k0 kk : Nat} {scope : Scope} {y0 : Str} (sc' : Scope) (G : List (Str × Sp))
    (hh : A.handled = none) (hsc : env.scope = sc) (hzip : Et prog w K A sc Γ (.Name zn pz) (Vl (.type "zip"))) (hes : Ets prog w K A sc Γ [e1, e2, e3] [S (st l1), S (st l2), S (st l3)])
    (q1 : ∀ c ∈ l1, c < 128) (q2 : ∀ c ∈ l2, c < 128) (q3 : ∀ c ∈ l3, c < 128) (n2 : l2.length = l1.length) (n3 : l3.length = l1.length) (hout : out.length = l1.length) (hol : l1.length ≤ 1000)
    (htn : sc.names.lookup tn = some .local) (hmn : Γ mn = some (Vl (.ref a))) (hmt : mn ≠ tn) (hmd : (mn == ("__debug__" : Str)) = false) (htd : (tn == ("__debug__" : Str)) = false) (hG : ∀ v, Has (upd Γ tn (Vl v)) G) (hy0 : y0 = st [])
    (el : ∀ v i, i < l1.length → Et prog w K A sc' (upd (upd (upd (cutΓ scope (upd Γ tn (Vl v))) x (S (st [l1.getD i 0]))) y (S (st [l2.getD i 0]))) z (S (st [l3.getD i 0]))) elt (S (st [out.getD i 0])))
    (hz : Ps.length ≤ 1000000) (hline1 : (ap.endLine == acp.line) = true) (hline2 : (jp.endLine == jcp.line) = true)
    (hx : scope.names.lookup x = some .local ∨ scope.names.lookup x = some .cell) (hy : scope.names.lookup y = some .local ∨ scope.names.lookup y = some .cell) (hzz : scope.names.lookup z = some .local ∨ scope.names.lookup z = some .cell)
    (ok : compOk scope sc = true) (hsc' : relS scope sc = sc') :
    Tri prog w A (At K ow h₀ V₀ env Γ (some (a, Ps)))
      (execs [.Assign [.Name tn p1] (.Call (.Name zn pz) [e1, e2, e3] [] cp) spos,
        .Expr (.Call (.Attribute (.Name mn pm) "append" ap) [.Call (.Attribute (.Constant (.str y0) k0 p0) "join" jp) [.ListComp elt [⟨.Tuple [.Name x px, .Name y py, .Name z pzz] kk tp, .Name tn pi, [], 0⟩] scope lp] [] jcp] [] acp) epos] env)
      (At K ow h₀ V₀ env (ctxOf G) (some (a, Ps ++ [S (st out)]))) R := by
  intro s V Q E hP kN kR
  subst hy0
  have asc : ∀ l : List Nat, (∀ c ∈ l, c < 128) → (st l).cps.all (· < 128) = true := fun l h => by
    simp [st]; exact fun c hc => by simpa using h c hc
  refine wpAny_execs_cons (wpAny_Assign_Name ?_ (by rfl))
  refine wp_call hzip (.inr (.inr ⟨_, rfl⟩)) hes hsc hP.fr.ok hP.fr.sub (Ext.refl _) fun vs h₁ tk₁ V₁ g₁ W₁ fit => ?_
  obtain ⟨v1, v2, v3, rfl, ⟨t1, rfl⟩, ⟨t2, rfl⟩, ⟨t3, rfl⟩⟩ := fit3 fit
  have A1 := hP.grow g₁
  refine call_zip_3 (s := { s with heap := h₁, toks := tk₁ }) (asc l1 q1) (asc l2 q2) (asc l3 q3) fun h₂ hz₂ hTI hTO hi1 hi2 hi3 ext2 => ?_
  dsimp only at hz₂ hTI hTO hi1 hi2 hi3 ext2 ⊢
  obtain ⟨N, hN⟩ : ∃ N, h₁.objs.size = N := ⟨_, rfl⟩
  rw [hN] at hz₂ hTI hTO hi1 hi2 hi3 ⊢
  have AP := ap_zip3 N
  have hfr : ∀ a ∈ [N + 5, N + 4, N, N + 1, N + 2], h₁.get? a = none := fun a ha => by
    have : N ≤ a := by simp at ha; omega
    cases e : h₁.get? a with
    | none => rfl
    | some o => have h1 : (a : Nat) < h₁.objs.size := Heap.lt_size e
                rw [hN] at h1; exact absurd h1 (Nat.not_lt.mpr this)
  have g2 : Grow V₁ h₁ V₁ h₂ := .of_ext g₁.sub ext2
  have A2 := A1.grow g2
  refine A2.fr.store (P := Vl (.ref (N + 5))) (s := { s with heap := h₂, toks := tk₁ }) (by unfold Env.kindOf; rw [hsc]; exact .inl htn) rfl fun h₃ tk₃ F3 kp3 => ?_
  have A3 : At K ow h₀ V₀ env (upd Γ tn (Vl (.ref (N + 5)))) (some (a, Ps)) V₁ h₃ := ⟨F3, A2.le, A2.new, A2.own.kp kp3⟩
  have Z3' : Z3 (N + 5) (N + 3) (N + 4) N (N + 1) (N + 2) (st l1) (st l2) (st l3) t1 t2 t3 0 h₃ :=
    ⟨kp3 _ _ hz₂ pl_fields.1 pl_fields.2, kp3 _ _ hTI pl_seq.1 pl_seq.2, ⟨_, _, _, kp3 _ _ hTO pl_seq.1 pl_seq.2⟩,
      striter_keep hi1 fun o e p _ => kp3 _ o e p.1 p.2, striter_keep hi2 fun o e p _ => kp3 _ o e p.1 p.2, striter_keep hi3 fun o e p _ => kp3 _ o e p.1 p.2⟩
  have hV₁ : ∀ a ∈ [N + 5, N + 4, N, N + 1, N + 2], V₁ a = none := fun a ha => g₁.sub.fresh (hfr a ha)
  have hh₀ : ∀ a ∈ [N + 5, N + 4, N, N + 1, N + 2], h₀.get? a = none := fun a ha => none_of_ext A1.fr.base (hfr a ha)
  have alive : ∀ a ∈ [N + 5, N + 4, N, N + 1, N + 2], ∃ o, h₃.get? a = some o ∧ Pl o ∧ o.cls ≠ .type "list" := by
    intro a ha
    simp at ha
    obtain ⟨c1, c2, c3, hto⟩ := Z3'.to
    rcases ha with rfl | rfl | rfl | rfl | rfl
    · exact ⟨_, Z3'.z, pl_fields, by simp⟩
    · exact ⟨_, hto, pl_seq, by simp⟩
    · exact striter_alive Z3'.h1
    · exact striter_alive Z3'.h2
    · exact striter_alive Z3'.h3
  -- the second statement
  refine wpAny_execs_cons (wpAny_Expr ?_ (by unfold interactive; rw [hP.fr.ok.kind]; rfl) (by rfl))
  refine wpAny_Call_append (by rfl) (by rfl) hline1 (by rfl) ?_
  have hmn' : upd Γ tn (Vl (.ref (N + 5))) mn = some (Vl (.ref a)) := by unfold upd; rw [if_neg hmt]; exact hmn
  obtain ⟨mv, hmb, hmv⟩ := A3.fr.ok.vars mn _ hmn'
  have hmv' : mv = .ref a := hmv
  subst hmv'
  refine wpAny_Name (hmb.load A3.fr.ok.kind ?_) hmd
  obtain ⟨vs1, n1, r1, _, _, _⟩ := A3.own
  refine ⟨a, vs1.toArray, rfl, ⟨_, n1, r1, rfl, rfl, rfl⟩, ?_⟩
  refine wp_join (fun _ => rfl) hline2 fun tj tkj => ?_
  rw [eval_ListComp]
  refine wpAny_comprehension_free (use := none) rfl (by intro _; rfl) (compOk_clo ok hsc A3.fr.ok) (compOk_kind ok) (compOk_names ok) ?_
  obtain ⟨tv, htb, htv⟩ := A3.fr.ok.vars tn (Vl (.ref (N + 5))) (by unfold upd; rw [if_pos rfl])
  have htv' : tv = .ref (N + 5) := htv
  subst htv'
  show wpAny _ _ (eval (.Name tn pi) env) _ _ _
  refine wpAny_Name (htb.load A3.fr.ok.kind ?_) htd
  refine wpAny_pyIter_zip (s := { s with heap := h₃, toks := tkj }) Z3'.z ?_
  have hb₀ : Ext (hideAll h₃ [N + 5, N + 4, N, N + 1, N + 2]) h₃ := fun a o e => of_hideAll _ e
  have hback : ∀ a o, a ∉ [N + 5, N + 4, N, N + 1, N + 2] → h₃.get? a = some o → (hideAll h₃ [N + 5, N + 4, N, N + 1, N + 2]).get? a = some o := fun a o ha e => hideAll_get _ e ha
  have hwd : Wd K (hideAll h₃ [N + 5, N + 4, N, N + 1, N + 2]) := A3.fr.wd.ext fun a o e => hback a o (fun ha => by rw [hh₀ a ha] at e; cases e) (A3.fr.base a o e)
  have hflat : ((List.range l1.length).flatMap fun i => if (true : Bool) then [S (st [out.getD i 0])] else []) = (out.map fun c => st [c]).map S := by
    simp only [if_true]
    rw [← hout]
    have := flat_range (fun o : Option Nat => [S (st [o.getD 0])]) out
    simp only [List.getD_eq_getElem?_getD]
    rw [this]
    exact flat_single out
  refine comp_coreH (s := { s with heap := h₃, toks := tkj }) (Γ := upd Γ tn (Vl (.ref (N + 5)))) (b₀ := hideAll h₃ [N + 5, N + 4, N, N + 1, N + 2]) (n := l1.length) (p := fun _ => true) (F := fun i => [S (st [out.getD i 0])]) (sc' := sc') (wr := [N + 5, N + 4, N, N + 1, N + 2]) (St := Z3 (N + 5) (N + 3) (N + 4) N (N + 1) (N + 2) (st l1) (st l2) (st l3) t1 t2 t3)
    (Γu := fun i => upd (upd (upd (cutΓ scope (upd Γ tn (Vl (.ref (N + 5))))) x (S (st [l1.getD i 0]))) y (S (st [l2.getD i 0]))) z (S (st [l3.getD i 0])))
    (rest := fun cenv D => do let x ← eval elt cenv; let _ ← call (.builtin "list.append") [.ref D, x])
    (RR := fun acc C => compPost (model prog w) A E none _ acc C)
    hsc A3.fr.ok A3.fr.sub hb₀ hwd Z3' (fun i s Q E Z q => wpAny_pyIter_zip Z.z q) (fun a ha => ⟨hideAll_none _ ha, hV₁ a ha⟩) (fun ow cenv hk => ?_) ok hsc' (fun _ _ _ => by rfl) (fun _ _ => ts_nil) (fun ow b₀ V₀ D cenv hcs hD hk i hi _ => em_elt hcs hD (el _ i hi)) (by rw [hflat]; simp; omega) ?_
  · have cutN : ∀ y, scope.names.lookup y = some .local ∨ scope.names.lookup y = some .cell → cutΓ scope (upd Γ tn (Vl (.ref (N + 5)))) y = none := fun y q => by
      unfold cutΓ; rcases q with q | q <;> rw [q]
    have kn : ∀ y, scope.names.lookup y = some .local ∨ scope.names.lookup y = some .cell → cenv.kindOf y = some .local ∨ (cenv.kindOf y = some .cell ∧ ow y) := fun y q => by
      rcases q with q | q; exact .inl ((hk y).1 q); exact .inr ((hk y).2 q)
    exact drw_zip3 (scope := scope) hh AP n2 n3 (fun a ha => hideAll_none _ ha) (kn x hx) (kn y hy) (kn z hzz) (cutN x hx) (cutN y hy) (cutN z hzz)
  intro D C h' tk V' ext le sub new pD hC hCn
  obtain ⟨m, hn⟩ := hC
  refine ⟨m, hn, fun h'' hs'' => ?_⟩
  dsimp only at hCn hs''
  have hk4 : ∀ a o, ¬ a ∈ [N + 5, N + 4, N, N + 1, N + 2] → h₃.get? a = some o → h''.get? a = some o := fun a o ha e => (hs''.2 a fun q => by rw [q, hCn] at e; cases e).trans (ext a o (hback a o ha e))
  have sub4 : Sub V' h'' := fun a o q => by
    obtain ⟨q1, q2⟩ := sub a o q
    refine ⟨(hs''.2 a fun q3 => ?_).trans q1, q2⟩
    obtain ⟨o', es, ep, ho', hd', _⟩ := hn
    rw [q3, ho'] at q1; cases q1
    exact q2.1 es ep hd'
  have A4 : At K ow h₀ V₀ env (upd Γ tn (Vl (.ref (N + 5)))) (some (a, Ps)) V' h'' := A3.jump (X := fun a => a ∈ [N + 5, N + 4, N, N + 1, N + 2]) hk4 hh₀ hV₁ alive le sub4 fun a o q => by
    rcases new a o q with q | q
    · exact .inl q
    · by_cases ha : a ∈ [N + 5, N + 4, N, N + 1, N + 2]
      · exact .inr (.inr ha)
      · refine .inr (.inl ?_)
        cases e : h₃.get? a with
        | none => rfl
        | some o' => rw [hback a o' ha e] at q; cases q
  rw [hflat] at pD
  obtain ⟨D', us, nn, hD', r1', r2'⟩ := pD
  cases hD'
  obtain ⟨lt, rfl, lt2⟩ := strs_of_fit r2'
  have hjo : JoinOk (st []) (out.map fun c => st [c]) = true := by
    have := joinOk_st (out.map fun c => [c]) 1 (fun y hy => by obtain ⟨c, _, rfl⟩ := List.mem_map.mp hy; simp) (by simp; omega)
    rw [List.map_map] at this; exact this
  have hjt : Txt.join (st []) (out.map fun c => st [c]) = st out := by
    have := join_st (out.map fun c => [c])
    rw [List.map_map] at this
    refine this.trans ?_
    rw [flatten_single]
  refine SC.join (s := { s with heap := h'', toks := tk }) (sub4.pl r1').isList lt2 hjo fun t' tk' => ?_
  rw [hjt]
  obtain ⟨ovs, on, o1, o2, o3, o4⟩ := A4.own
  refine list_append_pl (s := { s with heap := h'', toks := tk' }) o1 (fun h₆ n' hD6 hs6 => ?_) (by rw [← o4.length, sizeLine_eq]; omega)
  have hk6 : ∀ b o, ¬ b = a → h''.get? b = some o → h₆.get? b = some o := fun b o q e => (hs6.2 b q).trans e
  refine wpAny_execs_nil (kN h₆ tk' V' ?_ ?_)
  · refine ⟨fun b o e p hc => ?_, g₁.le.trans le, fun b o q => ?_⟩
    · have hb1 : h₂.get? b = some o := ext2 b o (g₁.ext b o e)
      have hb3 := kp3 b o hb1 p.1 p.2
      have hb4 := hk4 b o (fun ha => by rw [none_of_ext g₁.ext (hfr b ha)] at e; cases e) hb3
      exact hk6 b o (fun q => by subst q; rw [o1] at hb4; cases hb4; exact hc rfl) hb4
    · rcases new b o q with q | q
      · exact (g₁.new b o q).imp id fun q => .inr fun o' e' => by rw [q] at e'; cases e'
      · refine .inr (.inr fun o' e' p => ?_)
        exfalso
        have hb3 := kp3 b o' (ext2 b o' (g₁.ext b o' e')) p.1 p.2
        rw [hback b o' (fun ha => by rw [none_of_ext g₁.ext (hfr b ha)] at e'; cases e') hb3] at q
        cases q
  · have A5 : At K ow h₀ V₀ env (upd Γ tn (Vl (.ref (N + 5)))) (some (a, Ps ++ [S (st out)])) V' h₆ :=
      ⟨A4.fr.keep (X := fun b => b = a) hk6 (fun b q => q ▸ o3) (fun b q => q ▸ o2) fun b q => q ▸ ⟨_, o1, pl_lobj _ _⟩, A4.le, A4.new, ovs ++ [.str (st out) t'], n', hD6, o2, o3, o4.append (.cons ⟨_, rfl⟩ .nil)⟩
    exact A5.weak (hG _).sub
end
end Mine
end
section
open PySem PySem.W PyProof.Rows PySem.SeqAt
set_option Elab.async false
set_option linter.all false
namespace Mine

noncomputable def mid1 (a b c : Nat) : Nat := if ([b, c] : List Nat).contains a then a else b
noncomputable def mid (a b c : List Nat) : List Nat := (List.range a.length).map fun t => mid1 (a.getD t 0) (b.getD t 0) (c.getD t 0)
noncomputable def midK (ns : List (List Nat)) (i j : Nat) (m : Nat) : List (List Nat) := (List.range m).map fun k => mid (ns.getD i []) (ns.getD j []) (ns.getD k [])
noncomputable def midJ (ns : List (List Nat)) (i : Nat) (m : Nat) : List (List Nat) := (List.range m).flatMap fun j => midK ns i j j
noncomputable def midI (ns : List (List Nat)) (m : Nat) : List (List Nat) := (List.range m).flatMap fun i => midJ ns i i
noncomputable def middles (ns : List (List Nat)) : List (List Nat) := midI ns ns.length
theorem midK_succ (ns : List (List Nat)) (i j m : Nat) : midK ns i j (m + 1) = midK ns i j m ++ [mid (ns.getD i []) (ns.getD j []) (ns.getD m [])] := by
  unfold midK; rw [List.range_succ, List.map_append]; rfl
theorem midJ_succ (ns : List (List Nat)) (i m : Nat) : midJ ns i (m + 1) = midJ ns i m ++ midK ns i m m := by
  unfold midJ; rw [List.range_succ, List.flatMap_append]; simp
theorem midI_succ (ns : List (List Nat)) (m : Nat) : midI ns (m + 1) = midI ns m ++ midJ ns m m := by
  unfold midI; rw [List.range_succ, List.flatMap_append]; simp
theorem midK_len (ns : List (List Nat)) (i j m : Nat) : (midK ns i j m).length = m := by unfold midK; simp
theorem midJ_len (ns : List (List Nat)) (i : Nat) : ∀ m, (midJ ns i m).length ≤ m * m
  | 0 => by simp [midJ]
  | m + 1 => by
    rw [midJ_succ, List.length_append, midK_len]
    have := midJ_len ns i m
    have e : (m + 1) * (m + 1) = m * m + 2 * m + 1 := by rw [Nat.mul_add, Nat.add_mul]; omega
    omega
theorem midI_len (ns : List (List Nat)) (B : Nat) : ∀ m, m ≤ B → (midI ns m).length ≤ m * (B * B)
  | 0, _ => by simp [midI]
  | m + 1, h => by
    rw [midI_succ, List.length_append]
    have h1 := midI_len ns B m (by omega)
    have h2 := midJ_len ns m m
    have h3 : m * m ≤ B * B := Nat.mul_le_mul (by omega) (by omega)
    rw [Nat.add_mul]; omega

section
variable {w : World}
set_option pp.deepTerms false in
set_option pp.deepTerms.threshold 8 in
set_option maxRecDepth 100000 in
theorem middles_ok {ns : List (List Nat)} {L0 : Nat} (hz : ns.length ≤ 60) (hL : ∀ n ∈ ns, n.length = L0) (hL0 : L0 ≤ 100) (hB : ∀ n ∈ ns, ∀ c ∈ n, c < 128) (A : Around) (b : Heap) (V : LG) (vs : List Value) (hA : OkA 1 A) (hW : Wd (KK w) b) (hfit : Fit V [LS (ns.map st)] vs) :
    Ev PR w A b V (call (.ref 106) vs) (LS ((middles ns).map st)) := by
  refine con_entry (d := 0) (a := 106) (o := ?o) (fd := ?fd) (body := ?body) (sc := ?sc) (xs := [Str.ofString "names"]) (Ps := [LS (ns.map st)]) (R := LS ((middles ns).map st)) (K := KK w) ?hK ?hd ?hb ?hs ?hc ?hcl ?hgl ?hbu ?hst rfl ?hbind ?hT A b V vs hA hW hfit
  case hK => rfl
  case hd => rfl
  case hb => rfl
  case hs => (dsimp only; rfl)
  case hc => rfl
  case hcl => rfl
  case hgl => rfl
  case hbu => rfl
  case hst => decide +kernel
  case hbind => intro vals hv; obtain ⟨v, rfl⟩ := len1 hv rfl; rfl
  case hT =>
    intro env h₀ V₀ A' hsc hA'
    have hlen : ((ns.map st).map S).length = ns.length := by simp
    have hI := midI_len ns 60
    have nth : ∀ i, i < ns.length → ((ns.map st).map S)[((i : Nat) : Int).toNat]? = some (S (st (ns.getD i []))) := fun i hi => by
      simp [List.getD_eq_getElem?_getD, hi]
    have memD : ∀ i, i < ns.length → ns.getD i [] ∈ ns := fun i hi => by
      rw [List.getD_eq_getElem?_getD, List.getElem?_eq_getElem hi]; exact List.getElem_mem hi
    refine tri_cons (tri_newown hsc (.inl rfl)) (tri_ex fun a => ?_)
    refine tri_cons (tri_for (ds := List.range ((((ns.map st).map S).length : Nat) : Int).toNat) (Qf := fun (i : Nat) => I i) (fun _ => ctxOf [(Str.ofString "names", LS (ns.map st)), (Str.ofString "middles", Vl (.ref a))]) (fun i => some (a, ((midI ns i).map st).map S)) hsc
      (src_range hA'.handled (et_range rfl rfl (et_len_list (by rw [hlen]; omega) rfl rfl (et_name rfl))) (by omega) (by rw [hlen]; omega)) (.inl rfl) (Has.sub ⟨rfl, rfl, trivial⟩) rfl ?turn1) ?rest
    case rest =>
      rw [List.length_range, Int.toNat_natCast, hlen]
      exact tri_cons (tri_return_own hsc rfl) tri_nil
    case turn1 =>
      intro i d hd
      obtain ⟨hi, rfl⟩ : i < ns.length ∧ d = i := by
        obtain ⟨h1, h2⟩ := List.getElem?_eq_some_iff.mp hd
        rw [List.length_range, Int.toNat_natCast, hlen] at h1
        exact ⟨h1, by rw [← h2, List.getElem_range]⟩
      rw [midI_succ]
      refine tri_cons (tri_for (ds := List.range (((d : Nat) : Int)).toNat) (Qf := fun (j : Nat) => I j) (fun _ => ctxOf [(Str.ofString "names", LS (ns.map st)), (Str.ofString "middles", Vl (.ref a)), (Str.ofString "i", I d)]) (fun j => some (a, ((midI ns d ++ midJ ns d j).map st).map S)) hsc
        (src_range hA'.handled (et_range rfl rfl (et_name rfl)) (by omega) (by omega)) (.inl rfl) (Has.sub ⟨rfl, rfl, rfl, trivial⟩) (by simp [midJ]) ?turn2) ?rest2
      case rest2 =>
        rw [List.length_range, Int.toNat_natCast]
        exact tri_end ⟨rfl, rfl, trivial⟩
      intro j d2 hd2
      obtain ⟨hj, rfl⟩ : j < d ∧ d2 = j := by
        obtain ⟨h1, h2⟩ := List.getElem?_eq_some_iff.mp hd2
        rw [List.length_range, Int.toNat_natCast] at h1
        exact ⟨h1, by rw [← h2, List.getElem_range]⟩
      rw [midJ_succ]
      refine tri_cons (tri_for (ds := List.range (((d2 : Nat) : Int)).toNat) (Qf := fun (k : Nat) => I k) (fun _ => ctxOf [(Str.ofString "names", LS (ns.map st)), (Str.ofString "middles", Vl (.ref a)), (Str.ofString "i", I d), (Str.ofString "j", I d2)]) (fun k => some (a, ((midI ns d ++ (midJ ns d d2 ++ midK ns d d2 k)).map st).map S)) hsc
        (src_range hA'.handled (et_range rfl rfl (et_name rfl)) (by omega) (by omega)) (.inl rfl) (Has.sub ⟨rfl, rfl, rfl, rfl, trivial⟩) (by simp [midK]) ?turn3) ?rest3
      case rest3 =>
        rw [List.length_range, Int.toNat_natCast]
        exact tri_end ⟨rfl, rfl, rfl, trivial⟩
      intro k d3 hd3
      obtain ⟨hk, rfl⟩ : k < d2 ∧ d3 = k := by
        obtain ⟨h1, h2⟩ := List.getElem?_eq_some_iff.mp hd3
        rw [List.length_range, Int.toNat_natCast] at h1
        exact ⟨h1, by rw [← h2, List.getElem_range]⟩
      rw [midK_succ]
      have hnext : ((midI ns d ++ (midJ ns d d2 ++ (midK ns d d2 d3 ++ [mid (ns.getD d []) (ns.getD d2 []) (ns.getD d3 [])]))).map st).map S = ((midI ns d ++ (midJ ns d d2 ++ midK ns d d2 d3)).map st).map S ++ [S (st (mid (ns.getD d []) (ns.getD d2 []) (ns.getD d3 [])))] := by
        simp [List.append_assoc]
      rw [hnext]
      have lD := hL _ (memD d (by omega))
      have l2 := hL _ (memD d2 (by omega))
      have l3 := hL _ (memD d3 (by omega))
      refine tri_zipjoin _ [(Str.ofString "names", LS (ns.map st)), (Str.ofString "middles", Vl (.ref a)), (Str.ofString "i", I d), (Str.ofString "j", I d2)] hA'.handled hsc (et_globb rfl rfl (by decide +kernel))
        (.cons (et_item (et_name rfl) (et_name rfl) (by omega) (nth d (by omega)) (by omega)) (fun _ => rfl) (.cons (et_item (et_name rfl) (et_name rfl) (by omega) (nth d2 (by omega)) (by omega)) (fun _ => rfl) (.cons (et_item (et_name rfl) (et_name rfl) (by omega) (nth d3 (by omega)) (by omega)) (fun _ => rfl) .nil)))
        (hB _ (memD d (by omega))) (hB _ (memD d2 (by omega))) (hB _ (memD d3 (by omega))) (l2.trans lD.symm) (l3.trans lD.symm) (by unfold mid; simp) (by omega) rfl rfl (by decide +kernel) (by decide +kernel) (by decide +kernel)
        (fun v => ⟨rfl, rfl, rfl, rfl, trivial⟩) nil_st (fun v i hi => ?_) ?_ rfl rfl (by decide +kernel) (by decide +kernel) (by decide +kernel) (by decide +kernel) rfl
      · have e : (mid (ns.getD d []) (ns.getD d2 []) (ns.getD d3 [])).getD i 0 = mid1 ((ns.getD d []).getD i 0) ((ns.getD d2 []).getD i 0) ((ns.getD d3 []).getD i 0) := by
          unfold mid
          rw [List.getD_eq_getElem?_getD, List.getElem?_map, List.getElem?_range hi]; rfl
        rw [e]
        generalize (ns.getD d []).getD i 0 = ca
        generalize (ns.getD d2 []).getD i 0 = cb
        generalize (ns.getD d3 []).getD i 0 = cc
        have hm : ([st [cb], st [cc]].contains (st [ca])) = ([cb, cc] : List Nat).contains ca := by
          have := st_contains [[cb], [cc]] [ca]
          refine this.trans ?_
          rw [Bool.eq_iff_iff]; simp
        unfold mid1
        refine et_ifexp (t := ([cb, cc] : List Nat).contains ca) (hm ▸ tt_in_tuple (xs := [st [cb], st [cc]]) (et_name rfl) (et_tuple (.cons (et_name rfl) (fun _ => rfl) (.cons (et_name rfl) (fun _ => rfl) .nil)) (by rw [sizeLine_eq]; exact (by decide : 2 ≤ 16777216)))) (fun ht => ?_) fun ht => ?_
        · rw [if_pos ht]; exact et_name rfl
        · rw [if_neg (by simpa using ht)]; exact et_name rfl
      · have h1 := hI d (by omega)
        have h2 := midJ_len ns d d2
        have h3 := midK_len ns d d2 d3
        have h4 : d * (60 * 60) ≤ 60 * (60 * 60) := Nat.mul_le_mul_right _ (by omega)
        have h5 : d2 * d2 ≤ 60 * 60 := Nat.mul_le_mul (by omega) (by omega)
        simp only [List.length_map, List.length_append]
        omega
end
end Mine
end
section
open PySem PySem.W PyProof.Rows PySem.SeqAt
set_option Elab.async false
set_option linter.all false
namespace Mine
open PySem.Builtin.Re PySem.Builtin in
theorem re_named (x : Str) (t : Tok) : reNamed "re.Pattern.search" "search" ["string", "pos", "endpos"] 1 [.str x t] [] = pure [some (.str x t), none, none] := by
  rfl

noncomputable def scode : Array Nat := #[14, 17, 4, 1, 1, 21, 9, 0, 604043296, 1, 0, 0, 0, 0, 0, 8, 4, 0, 13, 14, 21, 9, 0, 604043296, 1, 0, 0, 0, 0, 0, 8, 4, 0, 1]
section
variable {prog : Program} {w : World} {A : Around} {E : Value → Shared → Prop} {s : Shared}
set_option maxRecDepth 100000 in
theorem pat88 (w : World) : ∃ p q, (KK w).lookup 88 = some { cls := .type "re.Pattern", data := .fields #[p, q, .int 0 0, .none, .none, .ref 87, .int 0 0] } := ⟨_, _, rfl⟩
set_option maxRecDepth 100000 in
theorem code87 (w : World) : ∃ o items n, (KK w).lookup 87 = some o ∧ o.data = .seq items n ∧ (items.map fun v => (Builtin.Re.reRawOf v).toNat) = scode := by
  refine ⟨_, _, _, rfl, rfl, ?_⟩
  decide +kernel
end

/-! ## the machine -/
noncomputable def isBad (c : Nat) : Bool := c == 63
set_option maxRecDepth 100000 in
theorem inset_one : ∀ c ∈ ab, ∀ i ∈ [5, 20], ∀ sn : Sre.Seen, ∃ sn', Sre.inSet scode c scode.size i true sn = .ok (isBad c, sn') := by
  intro c hc i hi sn
  simp only [ab, tab, List.cons_append, List.nil_append, List.mem_cons, List.not_mem_nil, or_false] at hc hi
  rcases hi with rfl | rfl <;> rcases hc with rfl | rfl | rfl | rfl | rfl | rfl | rfl | rfl | rfl | rfl | rfl | rfl | rfl <;> exact ⟨_, rfl⟩
theorem admit_ok (m : Sre.M) (hc : m.code = scode) : ∀ (fuel s : Nat) (sn : Sre.Seen), m.lim + 1 ≤ fuel + s → (∀ i, s ≤ i → i < m.lim → m.text.getD i 0 ∈ ab) →
    (∃ sn', Sre.M.admitted m fuel s sn = .ok (none, sn') ∧ ∀ i, s ≤ i → i < m.lim → m.text.getD i 0 ≠ 63) ∨ (∃ sn' i, Sre.M.admitted m fuel s sn = .ok (some i, sn') ∧ i < m.lim ∧ m.text.getD i 0 = 63)
  | 0, s, sn, hf, ht => .inl ⟨sn, rfl, fun i h1 h2 => by omega⟩
  | fuel + 1, s, sn, hf, ht => by
    unfold Sre.M.admitted
    by_cases h : s ≥ m.lim
    · rw [if_pos h]; exact .inl ⟨sn, rfl, fun i h1 h2 => by omega⟩
    · rw [if_neg h, hc]
      obtain ⟨sn', e⟩ := inset_one (m.text.getD s 0) (ht s (Nat.le_refl _) (by omega)) 5 (by simp) sn
      rw [e]
      by_cases hb : m.text.getD s 0 = 63
      · have : isBad (m.text.getD s 0) = true := by unfold isBad; simp [hb]
        rw [this]
        exact .inr ⟨sn', s, rfl, by omega, hb⟩
      · have : isBad (m.text.getD s 0) = false := by unfold isBad; simpa using hb
        rw [this]
        rcases admit_ok m hc fuel (s + 1) sn' (by omega) (fun i h1 h2 => ht i (by omega) h2) with ⟨sn2, q1, q2⟩ | ⟨sn2, i, q1, q2, q3⟩
        · refine .inl ⟨sn2, q1, fun i h1 h2 => ?_⟩
          by_cases hi : i = s
          · rw [hi]; exact hb
          · exact q2 i (by omega) h2
        · exact .inr ⟨sn2, i, q1, q2, q3⟩

/-- the machine at its start -/
noncomputable def m0 (txt : Array Nat) : Sre.M := { code := scode, text := txt, lim := txt.size, start := 0, lastStart := txt.size, pc := 18, pos := 0, handed := 0, marks := #[], mustAdvance := false, seen := ({} : Sre.Seen).add 14 }
theorem forSearch_eq (txt : Array Nat) (h : 1 ≤ txt.size) : Sre.forSearch scode txt 0 0 txt.size false = (m0 txt).attemptFrom 0 true := by
  have e : Sre.forSearch scode txt 0 0 txt.size false = if (decide (0 > txt.size) || decide (txt.size - 0 < 1)) = true then ({ m0 txt with lastStart := 0 } : Sre.M).say false else (m0 txt).attemptFrom 0 true := by rfl
  have e2 : (decide (0 > txt.size) || decide (txt.size - 0 < 1)) = false := by
    rw [decide_eq_false (by omega), decide_eq_false (by omega)]; rfl
  rw [e, e2]; rfl
theorem firstSet (txt : Array Nat) : (m0 txt).hasFirstSet = true := by rfl
set_option maxRecDepth 100000 in
theorem search_none (txt : Array Nat) (h1 : 1 ≤ txt.size) (ht : ∀ i, i < txt.size → txt.getD i 0 ∈ ab) (hn : ∀ i, i < txt.size → txt.getD i 0 ≠ 63) :
    ((Sre.forSearch scode txt 0 0 txt.size false).runFor 4).outcome.isSome = true ∧ ∃ o, ((Sre.forSearch scode txt 0 0 txt.size false).runFor 4).outcome = some o ∧ (match o with | .failed => True | _ => False) := by
  rw [forSearch_eq txt h1]
  unfold Sre.M.attemptFrom
  rw [firstSet]
  simp only [Bool.not_true, Bool.false_eq_true, if_false]
  rcases admit_ok (m0 txt) rfl ((m0 txt).lim + 1 - 0) 0 (m0 txt).seen (Nat.le_of_eq (by omega)) (fun i _ h => ht i h) with ⟨sn, q1, q2⟩ | ⟨sn, i, q1, q2, q3⟩
  · rw [q1]
    exact ⟨rfl, _, rfl, trivial⟩
  · exact absurd q3 (hn i q2)
noncomputable def mA (txt : Array Nat) (i : Nat) (sn : Sre.Seen) : Sre.M :=
  { code := scode, text := txt, lim := txt.size, start := i, lastStart := txt.size, pc := 18, pos := i, handed := i, outermost := true, marks := #[], mustAdvance := false, seen := sn,
    frames := [{ wait := .nextStart, pc := 18, pos := i, outermost := true }], weight := 1 }
theorem step_in (txt : Array Nat) (i : Nat) (sn : Sre.Seen) (h : i < txt.size) (hc : txt.getD i 0 = 63) : ∃ sn', (mA txt i sn).step = { mA txt i sn with seen := sn', pc := 33, pos := i + 1 } := by
  obtain ⟨sn', e⟩ := inset_one 63 (by decide) 20 (by simp) (sn.add 13)
  refine ⟨sn', ?_⟩
  have hb : isBad 63 = true := rfl
  rw [hb] at e
  have e1 : Sre.accepts scode 18 63 (sn.add 13) = .ok (true, sn') := e
  have e2 : (mA txt i sn).step = (if i ≥ txt.size then ({ mA txt i sn with seen := sn.add 13 } : Sre.M).say false else
    match Sre.accepts scode 18 (txt.getD i 0) (sn.add 13) with
    | .error why => ({ mA txt i sn with seen := sn.add 13 } : Sre.M).stick why
    | .ok (false, seen) => ({ mA txt i sn with seen } : Sre.M).say false
    | .ok (true, seen) => { mA txt i sn with seen, pc := 18 + Sre.itemWidth scode 18, pos := i + 1 }) := by rfl
  rw [e2, if_neg (by omega), hc, e1]
  rfl
set_option maxRecDepth 100000 in
theorem search_some (txt : Array Nat) (h1 : 1 ≤ txt.size) (ht : ∀ i, i < txt.size → txt.getD i 0 ∈ ab) (hn : ∃ i, i < txt.size ∧ txt.getD i 0 = 63) :
    ((Sre.forSearch scode txt 0 0 txt.size false).runFor 4).outcome.isSome = true ∧ ∃ o, ((Sre.forSearch scode txt 0 0 txt.size false).runFor 4).outcome = some o ∧ (match o with | .matched => True | _ => False) := by
  rw [forSearch_eq txt h1]
  unfold Sre.M.attemptFrom
  rw [firstSet]
  simp only [Bool.not_true, Bool.false_eq_true, if_false]
  rcases admit_ok (m0 txt) rfl ((m0 txt).lim + 1 - 0) 0 (m0 txt).seen (Nat.le_of_eq (by omega)) (fun i _ h => ht i h) with ⟨sn, q1, q2⟩ | ⟨sn, i, q1, q2, q3⟩
  · obtain ⟨i, h2, h3⟩ := hn
    exact absurd h3 (q2 i (Nat.zero_le _) h2)
  · rw [q1]
    have q2' : i < txt.size := q2
    have q3' : txt.getD i 0 = 63 := q3
    obtain ⟨sn', es⟩ := step_in txt i sn q2' q3'
    have fin : ∀ m : Sre.M, m = mA txt i sn → (m.runFor 4).outcome.isSome = true ∧ ∃ o, (m.runFor 4).outcome = some o ∧ (match o with | .matched => True | _ => False) := by
      intro m hm
      subst hm
      have e4 : (mA txt i sn).runFor 4 = (mA txt i sn).step.runFor 3 := by rfl
      rw [e4, es]
      exact ⟨rfl, _, rfl, trivial⟩
    exact fin _ rfl
end Mine
end
section
open PySem PySem.W PyProof.Rows PySem.SeqAt
set_option Elab.async false
set_option linter.all false
namespace Mine
section
variable {prog : Program} {w : World} {A : Around} {E : Value → Shared → Prop} {s : Shared}
open PySem.Builtin.Re PySem.Builtin
theorem entry_search : entryFor table "re.Pattern.search" = some Builtin.«re.Pattern.search» := entryFor_of_tree (by kernel_rfl)
theorem plain_search : plainId "re.Pattern.search" = true := by decide +kernel

theorem wp_drive {m : Sre.M} {Q : Sre.M → Shared → Prop} (h : (m.runFor 4).outcome.isSome = true) (hq : Q (m.runFor 4) s) : wpAny (model prog w) A (reDrive (2 ^ 64) m) Q E s := by
  have e : reDrive (2 ^ 64) m = (if (m.runFor reTurnSteps).outcome.isSome then pure (m.runFor reTurnSteps) else do rule "sre.turn"; reDrive (2 ^ 64 - 1) (m.runFor reTurnSteps)) := by
    rw [show (2 : Nat) ^ 64 = (2 ^ 64 - 1) + 1 from rfl, reDrive]
  rw [e]
  have h' : (m.runFor reTurnSteps).outcome.isSome = true := h
  rw [if_pos h']
  exact wpAny_pure hq
theorem wp_rules {sn : Sre.Seen} {l : List Nat} {Q : PUnit → Shared → Prop} (h : Q () s) : wpAny (model prog w) A (forIn l PUnit.unit fun i (_ : PUnit) => if sn.has i = true then do rule (Sre.names.getD i ""); pure (ForInStep.yield PUnit.unit) else pure (ForInStep.yield PUnit.unit)) Q E s := by
  induction l with
  | nil => exact wpAny_pure h
  | cons i r ih =>
    rw [List.forIn_cons]
    refine wpAny_bind ?_
    split
    · exact wpAny_bind (wpAny_rule (wpAny_pure ih))
    · exact wpAny_pure ih
theorem wp_run {m : Sre.M} {Q : Option Sre.M → Shared → Prop} {o : Sre.Outcome} (h : (m.runFor 4).outcome = some o) (hq : match o with | .matched => Q (some (m.runFor 4)) s | .failed => Q none s | _ => False) :
    wpAny (model prog w) A (reRunToEnd m) Q E s := by
  unfold reRunToEnd
  refine wpAny_bind (wp_drive (by rw [h]; rfl) ?_)
  refine wpAny_bind ?_
  refine wp_rules ?_
  rw [h]
  cases o with
  | matched => exact wpAny_pure hq
  | failed => exact wpAny_pure hq
  | stuck _ => exact hq.elim

noncomputable def pobj (p q : Value) : Obj := { cls := .type "re.Pattern", data := .fields #[p, q, .int 0 0, .none, .none, .ref 87, .int 0 0] }

set_option maxRecDepth 100000 in
theorem tree_search {l : List Nat} {t : Tok} {p q : Value} {o87 : Obj} {items : Array Value} {nn : Nat} {Q : Fin → Shared → Prop} (h88 : s.heap.get? 88 = some (pobj p q)) (h87 : s.heap.get? 87 = some o87) (hd : o87.data = .seq items nn) (hcode : (items.map fun v => (reRawOf v).toNat) = scode)
    (h0 : l ≠ []) (hz : l.length ≤ 1000) (hl : ∀ c ∈ l, c ∈ ab)
    (hn : 63 ∉ l → Q (.done (.ret .none)) s) (hy : 63 ∈ l → ∀ h' tk a, Ext s.heap h' → Q (.done (.ret (.ref a))) { s with heap := h', toks := tk }) :
    wpAny (model prog w) A (Builtin.«re.Pattern.search» ⟨[.ref 88, .str (st l) t], []⟩) Q E s := by
  unfold Builtin.«re.Pattern.search»
  refine wpAny_bind ?_
  unfold reTarget
  dsimp only
  rw [re_named]
  simp only [pure_bind]
  show wpAny _ _ (fieldsOf (.ref 88) >>= _) _ _ _
  refine wpAny_bind ?_
  unfold fieldsOf
  refine wpAny_bind (wpAny_load h88 ?_)
  show wpAny _ _ (pure _) _ _ _
  refine wpAny_pure ?_
  have e1 : reTextOf (.str (st l) t) = pure ((st l).cps, 0) := by rfl
  rw [e1]
  simp only [pure_bind]
  rw [if_neg (by simp), if_neg (by simp [reRawNat])]
  have e2 : reNoCollectionInside (.str (st l) t) 0 = pure () := by rfl
  rw [e2]
  refine wpAny_bind (wpAny_pure ?_)
  refine wpAny_bind ?_
  show wpAny _ _ (do return ((← seqItems? (.ref 87)).getD #[]).map reRawOf) _ _ _
  refine wpAny_bind (wpAny_seqItems h87 hd (wpAny_pure ?_))
  refine wpAny_pure ?_
  have hm : (Array.map (fun x : Int => x.toNat) (Array.map reRawOf ((some items).getD #[]))) = scode := by rw [← hcode]; simp [Function.comp_def]
  have hlim : min (2 ^ 63 - 1 : Int).toNat (st l).cps.size = (st l).cps.size := by
    have : (st l).cps.size = l.length := by simp [st]
    rw [this]
    exact Nat.min_eq_right (by omega)
  dsimp only
  rw [hm, hlim]
  have hg : reRawNat ((#[p, q, .int 0 0, .none, .none, .ref 87, .int 0 0] : Array Value).getD 2 .none) = 0 := rfl
  rw [hg]
  show wpAny _ _ (reAnswer _ (Sre.forSearch scode (st l).cps 0 0 (st l).cps.size false)) _ _ _
  have hsz : 1 ≤ (st l).cps.size := by
    cases l with
    | nil => exact absurd rfl h0
    | cons c r => simp [st]
  have hall : ∀ i, i < (st l).cps.size → (st l).cps.getD i 0 ∈ ab := fun i hi => by
    have hi' : i < l.length := by simpa [st] using hi
    have : (st l).cps.getD i 0 = l[i] := by simp [st, hi']
    rw [this]; exact hl _ (List.getElem_mem hi')
  unfold reAnswer
  by_cases h63 : 63 ∈ l
  · obtain ⟨_, o, h1, h2⟩ := search_some (st l).cps hsz hall (by
      obtain ⟨i, hi, e⟩ := List.mem_iff_getElem.mp h63
      exact ⟨i, by simpa [st] using hi, by simp [st, hi, e]⟩)
    refine wpAny_bind (wp_run h1 ?_)
    cases o with
    | matched =>
      dsimp only
      show wpAny _ _ (reNewMatch (.ref 88) (.str (st l) t) 0 0 (st l).cps.size _ >>= fun v => ret v) _ _ _
      refine wpAny_bind ?_
      unfold reNewMatch
      show wpAny _ _ (do
        newFields "re.Match" [.str (st l) t, .ref 88, rawInt 0, rawInt (st l).cps.size, rawInt _, ← newTuple (rawInt _ :: rawInt _ :: [])]) _ _ _
      refine wpAny_bind (wpAny_newTuple ?_ (by rw [sizeLine_eq]; exact (by decide : 2 ≤ 16777216)))
      refine wpAny_newObj_type ?_
      refine wpAny_pure (hy h63 _ _ _ ?_)
      exact (Ext.push _ _).trans (Ext.push _ _)
    | _ => exact h2.elim
  · obtain ⟨_, o, h1, h2⟩ := search_none (st l).cps hsz hall (fun i hi e => by
      have hi' : i < l.length := by simpa [st] using hi
      apply h63
      have : (st l).cps.getD i 0 = l[i] := by simp [st, hi']
      rw [this] at e
      rw [← e]; exact List.getElem_mem hi')
    refine wpAny_bind (wp_run h1 ?_)
    cases o with
    | failed => exact wpAny_pure (hn h63)
    | _ => exact h2.elim
end
end Mine
end
section
open PySem PySem.W PyProof.Rows PySem.SeqAt
set_option Elab.async false
set_option linter.all false
namespace Mine
section
variable {prog : Program} {w : World} {A : Around} {E : Value → Shared → Prop} {s : Shared}
theorem owner_pattern : Manifest.owners.lookup (String.ofList ['n', 'r', 'e', 't', 't', 'a', 'P', '.', 'e', 'r'].reverse) = some Manifest.sig_re_Pattern := by kernel_rfl
theorem sig_search : Manifest.signature? "re.Pattern.search" = Manifest.sig_re_Pattern.lookup "search" := by
  rw [signature?_of (id := "re.Pattern.search") (n := ['h', 'c', 'r', 'a', 'e', 's']) (o := ['n', 'r', 'e', 't', 't', 'a', 'P', '.', 'e', 'r']) (by kernel_rfl) owner_pattern]; kernel_rfl
theorem sub_pattern_module : isSubtype (.type "re.Pattern") (.type "module") = pure false := by rw [isSubtype_type]; kernel_rfl
theorem check_search (a : Addr) (v : Value) : ∀ sig, Manifest.sig_re_Pattern.lookup "search" = some sig → Bind.checkArgs "re.Pattern.search" { sig with full := s!"{Bind.lastOf "re.Pattern"}.{Bind.lastOf "re.Pattern.search"}" } ⟨[.ref a, v], []⟩ = pure () := by
  intro sig h
  have e : Manifest.sig_re_Pattern.lookup "search" = some (Manifest.sig_re_Pattern.lookup "search" |>.get (by decide +kernel)) := by kernel_rfl
  rw [e] at h
  cases h
  kernel_rfl
theorem wp_checkBound_search {p q v : Value} {Q : Unit → Shared → Prop} (ha : s.heap.get? 88 = some (pobj p q)) (h : Q () s) : wpAny (model prog w) A (checkBoundCall "re.Pattern.search" ⟨[.ref 88, v], []⟩) Q E s := by
  unfold checkBoundCall
  rw [sig_search]
  obtain ⟨sig, hsig⟩ : ∃ sig, Manifest.sig_re_Pattern.lookup "search" = some sig := Option.isSome_iff_exists.mp (by decide +kernel)
  rw [hsig]
  have hk : builtinKind "re.Pattern.search" = some .method := by kernel_rfl
  have hT : s.TypeIs (.ref 88) "re.Pattern" := ⟨_, ha, rfl⟩
  have hv : Manifest.varargsMethods.contains "re.Pattern.search" = false := by decide +kernel
  simp only [hk]
  rw [if_neg (by decide)]
  refine wpAny_bind (wpAny_isInstance hT sub_pattern_module ?_)
  rw [hv]
  rw [if_neg (by decide)]
  refine wpAny_bind ?_
  refine wpAny_bind (wpAny_loadPart ha ?_)
  refine wpAny_pure ?_
  rw [if_neg (by intro q; cases q)]
  refine wpAny_bind (wpAny_typeOf hT ?_)
  refine wpAny_of_eq (check_search 88 v sig hsig) h
end

/-- what the search says of a text -/
noncomputable def FU (l : List Nat) : Sp := if 63 ∈ l then Rf else N
noncomputable def quo (l : List Nat) : List Nat := if 63 ∈ l then [39] ++ l ++ [39] else l
theorem quote_st : Str.ofString "'" = st [39] := by decide +kernel
theorem ab_no39 : ∀ c ∈ ab, c ≠ 39 := by decide

section
variable {w : World}
set_option maxRecDepth 100000 in
theorem obj89 (w : World) : (KK w).lookup 89 = some { cls := .type "builtin_function_or_method", data := .fields #[.builtin "re.Pattern.search", .ref 88] } := rfl
theorem unsafe_body {l : List Nat} (h0 : l ≠ []) (hz : l.length ≤ 1000) (hl : ∀ c ∈ l, c ∈ ab) {A : Around} (b : Heap) (V : LG) (vs : List Value) (W : Wd (KK w) b) (h : Fit V [S (st l)] vs) : Ev PR w A b V (call (.ref 89) vs) (FU l) := by
  obtain ⟨v, rfl, t, rfl⟩ := fit1 h
  refine .of fun s Q E hs hs' hx k => ?_
  obtain ⟨p, q, e88⟩ := pat88 w
  obtain ⟨o87, items, nn, e87, hd, hcode⟩ := code87 w
  have h89 := hx _ _ (W.k _ _ (obj89 w))
  have h88 : s.heap.get? 88 = some (pobj p q) := hx _ _ (W.k _ _ e88)
  have h87 := hx _ _ (W.k _ _ e87)
  refine wpAny_call (codeAny_of_tree ?_)
  show wpAny _ _ (callAny (.ref 89) ⟨[.str (st l) t], []⟩) _ _ s
  unfold callAny
  refine wpAny_bind (wpAny_load h89 ?_)
  show wpAny _ _ (do
    checkBoundCall "re.Pattern.search" ⟨[.ref 88, .str (st l) t], []⟩
    return ← again (.builtin "re.Pattern.search" ⟨[.ref 88, .str (st l) t], []⟩)) _ _ s
  refine wpAny_bind (wp_checkBound_search h88 ?_)
  refine wpAny_bind (wpAny_pure (wpAny_pure ⟨plainId_quiet plain_search _, codeAny_builtin entry_search ?_⟩))
  refine tree_search h88 h87 hd hcode h0 hz hl (fun hn => ?_) fun hy h' tk a hx' => ?_
  · exact k _ s.heap s.toks (Ext.refl _) (by unfold FU; rw [if_neg hn]; exact rfl)
  · exact k _ h' tk hx' (by unfold FU; rw [if_pos hy]; exact ⟨a, rfl⟩)

theorem keep89 {M : Model} (hp : Heap) (X : Wd (KK w) hp) : ∃ k, (k = Keeper.frame ∨ k = Keeper.machine ∨ k = Keeper.boundFrame) ∧ Looks M hp (keeperOf (.ref 89)) k :=
  ⟨.machine, .inr (.inl rfl), (Looks.ld (part := none) (X.k _ _ (obj89 w))).andThen (Looks.of_pure rfl)⟩
theorem et_call' {K : Frag} {A : Around} {sc : Scope} {Γ : Ctx'} {x : Str} {p pos : Pos} {fv : Value} {es : List Expr} {Ps : List Sp} {R : Sp} (hf : Et PR w K A sc Γ (.Name x p) (Vl fv))
    (hk : ∀ hp, Wd K hp → ∃ k, (k = Keeper.frame ∨ k = Keeper.machine ∨ k = Keeper.boundFrame) ∧ Looks (model PR w) hp (keeperOf fv) k) (h : Ets PR w K A sc Γ es Ps)
    (body : ∀ b V vs, Wd K b → Fit V Ps vs → Ev PR w A b V (call fv vs) R) : Et PR w K A sc Γ (.Call (.Name x p) es [] pos) R := by
  intro env b V hsc F hs s Q E hx k
  show wpAny _ _ (do callWith pos (← eval (.Name x p) env) [] (backTo pos (starEach es env)) (backToKw pos (keywordEach [] env))) Q E s
  refine wpAny_bind (hf env b V hsc F hs s _ E hx fun v h₁ tk₁ V₁ g₁ p₁ => ?_)
  have p₁' : v = fv := p₁
  subst p₁'
  have F1 := F.ext (hx.trans g₁.ext) g₁.le
  refine callWith_of (P := Wd K) (by rw [ets_plain h]; rfl) hk ?_
  refine ev_evalArgs h env h₁ V₁ hsc F1 g₁.sub { s with heap := h₁, toks := tk₁ } _ E (Ext.refl _) fun a h' tk V' g p => ?_
  obtain ⟨vs, rfl, p⟩ := p
  have W' := F1.wd.ext g.ext
  exact ⟨W', body h' V' vs W' p g.sub { s with heap := h', toks := tk } Q E (Ext.refl _) fun r h2 tk2 V2 g2 p2 => k r h2 tk2 V2 ((g₁.trans g).trans g2) p2⟩

set_option pp.deepTerms false in
set_option pp.deepTerms.threshold 8 in
set_option maxRecDepth 100000 in
theorem quote_ok {l : List Nat} (h0 : l ≠ []) (hz : l.length ≤ 1000) (hl : ∀ c ∈ l, c ∈ ab) (A : Around) (b : Heap) (V : LG) (vs : List Value) (hA : OkA 1 A) (hW : Wd (KK w) b) (hfit : Fit V [S (st l)] vs) :
    Ev PR w A b V (call (.ref 96) vs) (S (st (quo l))) := by
  refine con_entry (d := 0) (a := 96) (o := ?o) (fd := ?fd) (body := ?body) (sc := ?sc) (xs := [Str.ofString "s"]) (Ps := [S (st l)]) (R := S (st (quo l))) (K := KK w) ?hK ?hd ?hb ?hs ?hc ?hcl ?hgl ?hbu ?hst rfl ?hbind ?hT A b V vs hA hW hfit
  case hK => rfl
  case hd => rfl
  case hb => rfl
  case hs => (dsimp only; rfl)
  case hc => rfl
  case hcl => rfl
  case hgl => rfl
  case hbu => rfl
  case hst => decide +kernel
  case hbind => intro vals hv; obtain ⟨v, rfl⟩ := len1 hv rfl; rfl
  case hT =>
    intro env h₀ V₀ A' hsc hA'
    have hlz : 0 < l.length := List.length_pos_iff.mpr h0
    refine tri_if_ret ok_at (tta hsc (tt_not (tt_plain (et_name rfl) (tr_str (by rw [st_length]; omega))))) (fun ht => ?_) fun _ => ?_
    · rw [st_length] at ht
      have : ((l.length : Int) != 0) = true := by simp; omega
      rw [this] at ht; cases ht
    refine tri_if_ret (t := !(decide (63 ∈ l))) ok_at (tta hsc (tt_is (P1 := FU l) (P2 := N) (et_call' (et_glob rfl rfl) keep89 (.cons (et_name rfl) (fun _ => rfl) .nil) fun b V vs W f => unsafe_body h0 hz hl b V vs W f) et_none fun V v1 v2 p1 p2 => ?_)) (fun ht => ?_) fun ht => ?_
    · have p2' : v2 = .none := p2
      subst p2'
      unfold FU at p1
      by_cases h : 63 ∈ l
      · rw [if_pos h] at p1
        obtain ⟨a, rfl⟩ := p1
        exact ⟨rfl, by rw [decide_eq_true h]; rfl⟩
      · rw [if_neg h] at p1
        have p1' : v1 = .none := p1
        subst p1'
        exact ⟨rfl, by rw [decide_eq_false h]; rfl⟩
    · have e : quo l = l := by unfold quo; rw [if_neg (by simpa using ht)]
      rw [e]
      exact tri_cons (tri_return hsc (et_name rfl)) tri_nil
    · have e : st (quo l) = Str.ofString "'" ++ st l ++ Str.ofString "'" := by
        unfold quo; rw [if_pos (by simpa using ht), quote_st, st_append, st_append]
      rw [e]
      have l1 : (Str.ofString "'").length = 1 := by rw [quote_st]; rfl
      refine tri_cons (tri_return hsc (et_add_str (et_add_str et_str (et_method (P := S (st l)) (Ps := [S (Str.ofString "'"), S (Str.ofString "'\"'\"'")]) (et_name rfl) PySem.F.slot_str_replace PySem.F.plainAttrs_str PySem.F.type_str_replace typeIs_S dict_S
        (.cons et_str (fun _ => rfl) (.cons et_str (fun _ => rfl) .nil)) ?_ (fun _ _ => rfl) (by decide) rfl) ?_) et_str ?_)) tri_nil
      · intro b V v vs W p f
        obtain ⟨t, rfl⟩ := p
        obtain ⟨v1, v2, rfl, ⟨u, rfl⟩, ⟨u2, rfl⟩⟩ := fit2 f
        have hocc : (Builtin.Str.occurrences (st l) (Str.ofString "'") 0 (st l).length ((st l).length + 1)).isEmpty = true := by
          rw [quote_st]
          have h1 := occ_count l 39
          have h2 : l.count 39 = 0 := List.count_eq_zero.mpr fun q => ab_no39 39 (hl 39 q) rfl
          rw [h2] at h1
          exact List.isEmpty_iff.mpr (List.length_eq_zero_iff.mp h1)
        refine .same fun s Q E _ _ k => ?_
        refine call_gives PySem.F.slot_str_replace (typeIs_str _ _ _) PySem.F.entry_str_replace (PySem.F.args_str_replace_3 _ _ _) (gives_str_replace (st l) (Str.ofString "'") _ t u u2 fun q => ?_) ?_
        · rw [hocc] at q; cases q
        · rw [hocc]
          exact k _ s.toks ⟨t, rfl⟩
      · rw [l1, st_length, sizeLine_eq]; omega
      · rw [Str.length_append, l1, st_length, sizeLine_eq]; omega
end
end Mine
end
section
open PySem PySem.W PyProof.Rows PySem.SeqAt
set_option Elab.async false
set_option linter.all false
namespace Mine
section
variable {prog : Program} {w : World} {A : Around} {K : Frag} {ow : Str → Prop} {h₀ h h' b b₀ : Heap} {V₀ V V' : LG} {env : Env} {sc : Scope} {Γ Γ' : Ctx'} {O : OwnT} {l r e : Expr} {pos px : Pos} {x y : Str} {P P1 P2 : Sp} {R : Value → As} {N N' P' : As} {E : Value → Shared → Prop} {s : Shared}

/-- x, y = e, e a list of two -/
theorem tri_unpack2 {py tp : Pos} {k1 : Nat} (hh : A.handled = none) (hsc : env.scope = sc) (he : Et prog w K A sc Γ e (L [P1, P2]))
    (hx : sc.names.lookup x = some .local ∨ (sc.names.lookup x = some .cell ∧ ow x)) (hy : sc.names.lookup y = some .local ∨ (sc.names.lookup y = some .cell ∧ ow y))
    (hs : ∀ env, swapsWithSole [.Tuple [.Name x px, .Name y py] k1 tp] e pos.line env = pure false := by intro _; rfl) (hw : ∀ env, swappedStores [.Tuple [.Name x px, .Name y py] k1 tp] e env = pure none := by intro _; rfl) :
    Tri prog w A (At K ow h₀ V₀ env Γ O) (exec (.Assign [.Tuple [.Name x px, .Name y py] k1 tp] e pos) env) (At K ow h₀ V₀ env (upd (upd Γ x P1) y P2) O) R := by
  intro s V Q E hP kN kR
  refine Assign_Tuple ?_ (hs env) (hw env)
  refine he env s.heap V hsc hP.fr.ok hP.fr.sub s _ E (Ext.refl _) fun v h₁ tk₁ V₁ g₁ p₁ => ?_
  obtain ⟨t, vs, n, rfl, q1, q2⟩ := p₁
  obtain ⟨v1, v2, rfl, p1, p2⟩ := fit2 q2
  have A1 := hP.grow g₁
  rw [assign_Tuple]
  refine wpAny_bind (wpAny_standAt ?_)
  show wpAny _ _ (do assignInOrder [assign (.Name x px) env, assign (.Name y py) env] (← holding [.ref t] (unpackItems (.ref t) 2 none))) _ _ _
  refine wpAny_bind (wpAny_holding ?_)
  refine kun_itemsOf (s := { s with heap := h₁, toks := tk₁ }) (items := #[v1, v2]) hh (g₁.sub.pl q1).isList fun h₂ he₂ => ?_
  have ext2 : Ext h₁ h₂ := fun a o e => he₂ a o (fun q => Nat.lt_irrefl _ (q ▸ Heap.lt_size e)) e
  have A2 := A1.grow (.of_ext A1.fr.sub ext2)
  show wpAny _ _ (do holding [v2] (assign (.Name x px) env v1); (do holding [] (assign (.Name y py) env v2); pure ())) _ _ _
  refine wpAny_bind (wpAny_holding (A2.fr.assign (s := { s with heap := h₂, toks := tk₁ }) (by unfold Env.kindOf; rw [hsc]; exact hx) p1 fun h₃ tk₃ F3 kp3 => ?_))
  refine wpAny_bind (wpAny_holding (F3.assign (s := { s with heap := h₃, toks := tk₃ }) (by unfold Env.kindOf; rw [hsc]; exact hy) p2 fun h₄ tk₄ F4 kp4 => wpAny_pure ?_))
  exact kN h₄ tk₄ V₁ (((Stp.of_grow g₁).trans (.of_kx (Kx.of_ext ext2))).trans ((Stp.of_kp kp3).trans (.of_kp kp4))) ⟨F4, A2.le, A2.new, (A2.own.kp kp3).kp kp4⟩
end

/-! ## faces -/
noncomputable def upN (n : List Nat) (p hi : Nat) : List Nat := n.take p ++ [hi] ++ n.drop (p + 1)
noncomputable def canUp (ns : List (List Nat)) (n : List Nat) (p : Nat) (q : Nat × Nat) : Bool := n.getD p 0 == q.1 && ns.contains (upN n p q.2)
noncomputable def signsM (ns : List (List Nat)) (n : List Nat) (p : Nat) (q : Nat × Nat) : List (List Nat) := if canUp ns n p q then [[q.1], [63]] else [[n.getD p 0]]
noncomputable def patsM (ns : List (List Nat)) (ps : List (Nat × Nat)) (n : List Nat) : Nat → List (List Nat)
  | 0 => [[]]
  | p + 1 => (patsM ns ps n p).flatMap fun pat => (signsM ns n p (ps.getD p (0, 0))).map fun sg => pat ++ sg
noncomputable def fullM (ns : List (List Nat)) (pat : List Nat) : Bool := (ns.filter (taken (pat.map po))).length == 2 ^ pat.count 63
noncomputable def facesM (ns : List (List Nat)) (ps : List (Nat × Nat)) : List (List Nat) := ns.flatMap fun n => (patsM ns ps n 5).filter (fullM ns)

theorem signsM_mem {ns : List (List Nat)} {n : List Nat} {p : Nat} {q : Nat × Nat} (hn : ∀ c ∈ n, c ∈ tab) (hp : p < n.length) (hq : q.1 ∈ tab) : ∀ s ∈ signsM ns n p q, s.length = 1 ∧ ∀ c ∈ s, c ∈ ab := by
  intro s hs
  have htab : ∀ c, c ∈ tab → c ∈ ab := fun c h => by unfold ab; exact List.mem_append_left _ h
  unfold signsM at hs
  split at hs
  · simp at hs
    rcases hs with rfl | rfl
    · exact ⟨rfl, fun c hc => by simp at hc; subst hc; exact htab _ hq⟩
    · exact ⟨rfl, fun c hc => by simp at hc; subst hc; decide⟩
  · simp at hs
    subst hs
    refine ⟨rfl, fun c hc => ?_⟩
    simp at hc; subst hc
    refine htab _ (hn _ ?_)
    simp [hp]
theorem signsM_len (ns : List (List Nat)) (n : List Nat) (p : Nat) (q : Nat × Nat) : (signsM ns n p q).length ≤ 2 := by unfold signsM; split <;> simp
theorem patsM_mem {ns : List (List Nat)} {ps : List (Nat × Nat)} {n : List Nat} (hn : ∀ c ∈ n, c ∈ tab) (hps : ∀ q ∈ ps, q.1 ∈ tab ∧ q.2 ∈ tab) : ∀ p, p ≤ n.length → p ≤ ps.length → ∀ pat ∈ patsM ns ps n p, pat.length = p ∧ ∀ c ∈ pat, c ∈ ab
  | 0, _, _, pat, h => by simp [patsM] at h; subst h; exact ⟨rfl, fun c hc => by cases hc⟩
  | p + 1, h1, h2, pat, h => by
    unfold patsM at h
    obtain ⟨pt, hpt, h⟩ := List.mem_flatMap.mp h
    obtain ⟨s, hs, rfl⟩ := List.mem_map.mp h
    obtain ⟨a1, a2⟩ := patsM_mem hn hps p (by omega) (by omega) pt hpt
    have hq : (ps.getD p (0, 0)) ∈ ps := by
      rw [List.getD_eq_getElem?_getD, List.getElem?_eq_getElem (by omega)]; exact List.getElem_mem _
    obtain ⟨b1, b2⟩ := signsM_mem hn (by omega) (hps _ hq).1 s hs
    refine ⟨by rw [List.length_append, a1, b1], fun c hc => ?_⟩
    rcases List.mem_append.mp hc with q | q
    · exact a2 c q
    · exact b2 c q
theorem patsM_len (ns : List (List Nat)) (ps : List (Nat × Nat)) (n : List Nat) : ∀ p, (patsM ns ps n p).length ≤ 2 ^ p
  | 0 => by simp [patsM]
  | p + 1 => by
    have ih := patsM_len ns ps n p
    unfold patsM
    have : ∀ l : List (List Nat), (l.flatMap fun pat => (signsM ns n p (ps.getD p (0, 0))).map fun sg => pat ++ sg).length ≤ 2 * l.length := by
      intro l
      induction l with
      | nil => simp
      | cons a r ih2 =>
        have := signsM_len ns n p (ps.getD p (0, 0))
        rw [List.flatMap_cons, List.length_append, List.length_map, List.length_cons]; omega
    have := this (patsM ns ps n p)
    rw [Nat.pow_succ]; omega
end Mine
end
section
open PySem PySem.W PyProof.Rows PySem.SeqAt
set_option Elab.async false
set_option linter.all false
namespace Mine
section
variable {prog : Program} {w : World} {A : Around} {K : Frag} {sc : Scope} {Γ : Ctx'} {e : Expr}
theorem ls_eq (ns : List (List Nat)) : LS (ns.map st) = L (ns.map fun n => S (st n)) := by unfold LS; rw [List.map_map]; rfl
theorem et_ls {ns : List (List Nat)} (h : Et prog w K A sc Γ e (LS (ns.map st))) : Et prog w K A sc Γ e (L (ns.map fun n => S (st n))) := ls_eq ns ▸ h
theorem et_cast {x y : Str} (h : x = y) (he : Et prog w K A sc Γ e (S x)) : Et prog w K A sc Γ e (S y) := h ▸ he
theorem et_castL {Ps Qs : List Sp} (h : Ps = Qs) (he : Et prog w K A sc Γ e (L Ps)) : Et prog w K A sc Γ e (L Qs) := h ▸ he
theorem et_castI {x y : Int} (h : x = y) (he : Et prog w K A sc Γ e (I x)) : Et prog w K A sc Γ e (I y) := h ▸ he
theorem OkA.less {d d' : Nat} (h : OkA d A) (hd : d' ≤ d) : OkA d' A := ⟨h.handled, by have := h.depth; omega, by have := h.units; omega⟩
theorem cmpS_st (a b : List Nat) : cmpS .Eq (st a) (st b) = (a == b) := st_beq a b
end

section
variable {prog : Program} {w : World} {A : Around} {K : Frag} {ow : Str → Prop} {h₀ : Heap} {V₀ : LG} {env : Env} {sc : Scope} {Γ : Ctx'} {O : OwnT} {pos p1 p2 py spos : Pos} {R : Value → As}
theorem turn2 {x1 x2 : Str} {elt iter1 iter2 : Expr} {scope : Scope} (it D : Addr) (cenv : Env) : compTurn (.ListComp elt [⟨.Name x1 p1, iter1, [], 0⟩, ⟨.Name x2 p2, iter2, [], 0⟩] scope pos) 0 (.ref it) (.ref D) cenv = (do
      standAt iter1.pos
      match ← pyNext (.ref it) with
      | none => pure (.done .next)
      | some v =>
        letOwnedTupleGo (.Name x1 p1) (.ref it) v
        assign (.Name x1 p1) cenv v
        let ok ← testsTree [] cenv
        if ok = true then do
          (do
            let x' ← eval iter2 cenv
            standAt iter2.pos
            let x' ← foldedSetIterable iter2 cenv x'
            let _ ← runOwn (.compStart (.ListComp elt [⟨.Name x1 p1, iter1, [], 0⟩, ⟨.Name x2 p2, iter2, [], 0⟩] scope pos) 1 (← holding [x'] (pyIter x')) (.ref D) cenv) cenv)
          again (.compLoop (.ListComp elt [⟨.Name x1 p1, iter1, [], 0⟩, ⟨.Name x2 p2, iter2, [], 0⟩] scope pos) 0 (.ref it) (.ref D) cenv)
        else again (.compLoop (.ListComp elt [⟨.Name x1 p1, iter1, [], 0⟩, ⟨.Name x2 p2, iter2, [], 0⟩] scope pos) 0 (.ref it) (.ref D) cenv)) := by
  simp only [bind_assoc]
  rfl
/-- y = [e for x1 in i1 for x2 in i2] -/
theorem tri_assign_comp2 {α β : Type} {x1 x2 y : Str} {elt iter1 iter2 : Expr} {scope : Scope} (sc' : Scope) {ds1 : List α} {ds2 : List β} {Qf1 : α → Sp} {Qf2 : β → Sp} {R' : α → β → Sp} (hsc : env.scope = sc)
    (src1 : Src prog w K A sc Γ iter1 (ds1.map Qf1)) (src2 : ∀ d ∈ ds1, Src prog w K A sc' (upd (cutΓ scope Γ) x1 (Qf1 d)) iter2 (ds2.map Qf2))
    (el : ∀ d1 ∈ ds1, ∀ d2 ∈ ds2, Et prog w K A sc' (upd (upd (cutΓ scope Γ) x1 (Qf1 d1)) x2 (Qf2 d2)) elt (R' d1 d2))
    (hz1 : ds1.length ≤ 1000) (hz2 : ds2.length ≤ 100) (hx1 : scope.names.lookup x1 = some .local ∨ scope.names.lookup x1 = some .cell) (hx2 : scope.names.lookup x2 = some .local ∨ scope.names.lookup x2 = some .cell) (hxx : x2 ≠ x1)
    (hy : sc.names.lookup y = some .local) (hsw : ∀ env, env.scope = sc → swapsWith (.ListComp elt [⟨.Name x1 p1, iter1, [], 0⟩, ⟨.Name x2 p2, iter2, [], 0⟩] scope pos) (some (.Name y py)) spos.line env = pure true)
    (ok : compOk scope sc = true) (hsc' : relS scope sc = sc') (hf1 : ∀ env x, foldedSetIterable iter1 env x = pure x) (hf2 : ∀ env x, foldedSetIterable iter2 env x = pure x) :
    Tri prog w A (At K ow h₀ V₀ env Γ O) (exec (.Assign [.Name y py] (.ListComp elt [⟨.Name x1 p1, iter1, [], 0⟩, ⟨.Name x2 p2, iter2, [], 0⟩] scope pos) spos) env) (At K ow h₀ V₀ env (upd Γ y (L (ds1.flatMap fun d1 => ds2.map (R' d1)))) O) R := by
  have hflat : (List.range ds1.length).flatMap (fun i => if (fun _ => true) i = true then (ds1[i]?.elim [] fun d => (ds2.filter fun _ => true).map (R' d)) else []) = ds1.flatMap fun d1 => ds2.map (R' d1) := by
    simp only [if_true]
    rw [flat_range (fun o => o.elim [] fun d => (ds2.filter fun _ => true).map (R' d)) ds1]
    simp [filter_tt']
  rw [← hflat]
  have hlenF : ∀ l : List α, (l.flatMap fun d1 => ds2.map (R' d1)).length = l.length * ds2.length := by
    intro l
    induction l with
    | nil => simp
    | cons a r ih => rw [List.flatMap_cons, List.length_append, List.length_map, ih, List.length_cons, Nat.add_mul]; omega
  refine tri_assign_compG sc' hsc (srcD_name (x := x1) src1 hx1) (rest := fun cenv D => (do
        let x' ← eval iter2 cenv
        standAt iter2.pos
        let x' ← foldedSetIterable iter2 cenv x'
        let _ ← runOwn (.compStart (.ListComp elt [⟨.Name x1 p1, iter1, [], 0⟩, ⟨.Name x2 p2, iter2, [], 0⟩] scope pos) 1 (← holding [x'] (pyIter x')) (.ref D) cenv) cenv)) (p := fun _ => true)
    (F := fun i => ds1[i]?.elim [] fun d => (ds2.filter fun _ => true).map (R' d)) (fun it D cenv => turn2 it D cenv) (fun _ _ => ts_nil) (fun ow b₀ V₀ D cenv hcs hD hk i hi _ => ?_) ?_ hy hsw ok hsc' hf1
  · have hg : ds1[i]? = some ds1[i] := by simp [hi]
    have hgd : (ds1.map Qf1).getD i Any = Qf1 ds1[i] := by simp [List.getD_eq_getElem?_getD, hi]
    rw [hg, hgd]
    have hcut : ∀ y, scope.names.lookup y = some .local ∨ scope.names.lookup y = some .cell → cutΓ scope Γ y = none := fun y q => by unfold cutΓ; rcases q with q | q <;> rw [q]
    refine em_inner (x := x2) hcs hD (src2 _ (List.getElem_mem hi)) (by rcases hx2 with q | q; exact .inl ((hk x2).1 q); exact .inr ((hk x2).2 q)) (by unfold upd; rw [if_neg hxx]; exact hcut x2 hx2) (fun _ _ => ts_nil) (fun d hd _ => el _ (List.getElem_mem hi) d hd) (by omega) hf2
  · rw [hflat, hlenF]
    have : ds1.length * ds2.length ≤ 1000 * 100 := Nat.mul_le_mul hz1 hz2
    omega
end

noncomputable def facesPre (ns : List (List Nat)) (ps : List (Nat × Nat)) (i : Nat) : List (List Nat) := (ns.take i).flatMap fun n => (patsM ns ps n 5).filter (fullM ns)
theorem facesPre_succ {ns : List (List Nat)} {ps : List (Nat × Nat)} {i : Nat} {n : List Nat} (h : ns[i]? = some n) : facesPre ns ps (i + 1) = facesPre ns ps i ++ (patsM ns ps n 5).filter (fullM ns) := by
  unfold facesPre; rw [List.take_add_one, h, List.flatMap_append]; simp
theorem facesPre_len (ns : List (List Nat)) (ps : List (Nat × Nat)) : ∀ i, (facesPre ns ps i).length ≤ i * 32 := by
  intro i
  have key : ∀ l : List (List Nat), (l.flatMap fun n => (patsM ns ps n 5).filter (fullM ns)).length ≤ l.length * 32 := by
    intro l
    induction l with
    | nil => simp
    | cons n r ih =>
      have h1 := patsM_len ns ps n 5
      have h2 := List.length_filter_le (fullM ns) (patsM ns ps n 5)
      rw [List.flatMap_cons, List.length_append, List.length_cons]; omega
  have := key (ns.take i)
  have h2 := List.length_take_le i ns
  unfold facesPre
  have : (ns.take i).length * 32 ≤ i * 32 := Nat.mul_le_mul_right _ h2
  omega

section
variable {w : World}
set_option pp.deepTerms false in
set_option pp.deepTerms.threshold 8 in
set_option maxRecDepth 100000 in
theorem faces_ok {ns : List (List Nat)} {ps : List (Nat × Nat)} (hz : ns.length ≤ 200) (hL : ∀ n ∈ ns, n.length = 5) (hT : ∀ n ∈ ns, ∀ c ∈ n, c ∈ tab) (hpl : ps.length = 5) (hps : ∀ q ∈ ps, q.1 ∈ tab ∧ q.2 ∈ tab)
    (A : Around) (b : Heap) (V : LG) (vs : List Value) (hA : OkA 4 A) (hW : Wd (KK w) b) (hfit : Fit V [LS (ns.map st), PRS ps] vs) :
    Ev PR w A b V (call (.ref 123) vs) (LS ((facesM ns ps).map st)) := by
  refine con_entry (d := 3) (a := 123) (o := ?o) (fd := ?fd) (body := ?body) (sc := ?sc) (xs := [Str.ofString "names", Str.ofString "pairs"]) (Ps := [LS (ns.map st), PRS ps]) (R := LS ((facesM ns ps).map st)) (K := KK w) ?hK ?hd ?hb ?hs ?hc ?hcl ?hgl ?hbu ?hst rfl ?hbind ?hT A b V vs hA hW hfit
  case hK => rfl
  case hd => rfl
  case hb => rfl
  case hs => (dsimp only; rfl)
  case hc => rfl
  case hcl => rfl
  case hgl => rfl
  case hbu => rfl
  case hst => decide +kernel
  case hbind => intro vals hv; obtain ⟨v, u, rfl⟩ := len2 hv rfl; rfl
  case hT =>
    intro env h₀ V₀ A' hsc hA'
    refine tri_cons (tri_newown hsc (by first | exact .inl rfl | exact .inr ⟨rfl, rfl⟩)) (tri_ex fun a => ?_)
    refine tri_cons (tri_for (ds := ns) (Qf := fun n => S (st n)) (fun _ => ctxOf [(Str.ofString "names", LS (ns.map st)), (Str.ofString "pairs", PRS ps), (Str.ofString "faces", Vl (.ref a))]) (fun i => some (a, ((facesPre ns ps i).map st).map S)) hsc
      (src_list hA'.handled (et_ls (et_name rfl))) (by first | exact .inl rfl | exact .inr ⟨rfl, rfl⟩) (Has.sub ⟨rfl, rfl, rfl, trivial⟩) rfl ?turn1) ?rest
    case rest =>
      have e : facesPre ns ps ns.length = facesM ns ps := by unfold facesPre facesM; rw [List.take_length]
      rw [e]
      exact tri_cons (tri_return_own hsc rfl) tri_nil
    case turn1 =>
      intro i n hn
      have hnm : n ∈ ns := List.mem_of_getElem? hn
      have hn5 := hL n hnm
      have hntab := hT n hnm
      have hi200 : i < 200 := by have := (List.getElem?_eq_some_iff.mp hn).1; omega
      rw [facesPre_succ hn]
      refine tri_cons (tri_assign (P := LS ((patsM ns ps n 0).map st)) hsc (et_list (.cons (et_str' nil_st) (fun _ => rfl) .nil) (by rw [sizeLine_eq]; exact (by decide : 1 ≤ 16777216))) (by first | exact .inl rfl | exact .inr ⟨rfl, rfl⟩) (by intro _ _; rfl)) ?_
      refine tri_cons (tri_for (ds := List.range (5 : Int).toNat) (Qf := fun (p : Nat) => I p) (fun p => ctxOf [(Str.ofString "names", LS (ns.map st)), (Str.ofString "pairs", PRS ps), (Str.ofString "faces", Vl (.ref a)), (Str.ofString "name", S (st n)), (Str.ofString "patterns", LS ((patsM ns ps n p).map st))])
        (fun _ => some (a, ((facesPre ns ps i).map st).map S)) hsc (src_range hA'.handled (et_range rfl rfl et_int) (by decide) (by decide)) (by first | exact .inl rfl | exact .inr ⟨rfl, rfl⟩) (Has.sub ⟨rfl, rfl, rfl, rfl, rfl, trivial⟩) rfl ?turn2) ?rest2
      case turn2 =>
        intro p p' hp
        obtain ⟨hp5, rfl⟩ : p < 5 ∧ p' = p := by
          obtain ⟨h1, h2⟩ := List.getElem?_eq_some_iff.mp hp
          have h1' : p < 5 := by simpa using h1
          exact ⟨h1', by rw [← h2, List.getElem_range]⟩
        have hq : ps[((p' : Nat) : Int).toNat]? = some (ps.getD p' (0, 0)) := by
          rw [Int.toNat_natCast, List.getD_eq_getElem?_getD, List.getElem?_eq_getElem (by omega)]; rfl
        have hqm : ps.getD p' (0, 0) ∈ ps := List.mem_of_getElem? (by rw [Int.toNat_natCast] at hq; exact hq)
        generalize hqq : ps.getD p' (0, 0) = q at hq hqm
        have hqP : (ps.map PR1)[((p' : Nat) : Int).toNat]? = some (L [S (st [q.1]), S (st [q.2])]) := by rw [List.getElem?_map, hq]; rfl
        have hnp : n[((p' : Nat) : Int).toNat]? = some (n.getD p' 0) := by
          rw [Int.toNat_natCast, List.getD_eq_getElem?_getD, List.getElem?_eq_getElem (by omega)]; rfl
        have hzn : (st n).length ≤ sizeLine := by rw [st_length, sizeLine_eq]; omega
        have hs1 : Txt.slice (st n) none (some ((p' : Nat) : Int)) = st (n.take p') := slice_to n (by omega)
        have hs2 : Txt.slice (st n) (some (((p' : Nat) : Int) + 1)) none = st (n.drop (p' + 1)) := by
          rw [show ((p' : Nat) : Int) + 1 = ((p' + 1 : Nat) : Int) by omega, slice_from n (by omega)]
        have hup : Txt.slice (st n) none (some ((p' : Nat) : Int)) ++ st [q.2] ++ Txt.slice (st n) (some (((p' : Nat) : Int) + 1)) none = st (upN n p' q.2) := by
          rw [hs1, hs2, st_append, st_append]; rfl
        refine tri_cons (tri_unpack2 hA'.handled hsc (et_item (et_name rfl) (et_name rfl) (by omega) hqP (by omega)) (by first | exact .inl rfl | exact .inr ⟨rfl, rfl⟩) (by first | exact .inl rfl | exact .inr ⟨rfl, rfl⟩)) ?_
        refine tri_cons (tri_assign (P := S (st (upN n p' q.2))) hsc (et_cast hup (et_add_str (et_add_str (et_slice_str (et_name rfl) part_none (part_some (et_name rfl)) hzn) (et_name rfl) ?_) (et_slice_str (et_name rfl) (part_some (et_add_int (et_name rfl) et_int)) part_none hzn) ?_)) (by first | exact .inl rfl | exact .inr ⟨rfl, rfl⟩) (by intro _ _; rfl)) ?_
        · rw [hs1, st_length, st_length, sizeLine_eq, List.length_take]; simp; omega
        · rw [hs1, hs2, st_append, st_length, st_length, sizeLine_eq]; simp; omega
        refine tri_cons (tri_assign (P := LS ((signsM ns n p' q).map st)) hsc (et_ifexp (t := canUp ns n p' q) (tt_eqv ?_ (tt_and (tt_cmp_str (et_sign (et_name rfl) (et_name rfl) (by omega) (by omega) hnp) (et_name rfl)) fun _ => tt_and1 (tt_in_list (et_name rfl) (et_name rfl)))) (fun ht => ?_) (fun ht => ?_)) (by first | exact .inl rfl | exact .inr ⟨rfl, rfl⟩) (by intro _ _; rfl)) ?_
        · rw [cmpS_st, st_contains]
          unfold canUp
          congr 1
          rw [Bool.eq_iff_iff]; simp
        · have e : (signsM ns n p' q).map st = [st [q.1], st [63]] := by unfold signsM; rw [if_pos ht]; rfl
          rw [e]
          exact et_list (.cons (et_name rfl) (fun _ => rfl) (.cons (et_str' qm_st) (fun _ => rfl) .nil)) (by rw [sizeLine_eq]; exact (by decide : 2 ≤ 16777216))
        · have e : (signsM ns n p' q).map st = [st [n.getD p' 0]] := by unfold signsM; rw [if_neg (by simpa using ht)]; rfl
          rw [e]
          exact et_list (.cons (et_sign (et_name rfl) (et_name rfl) (by omega) (by omega) hnp) (fun _ => rfl) .nil) (by rw [sizeLine_eq]; exact (by decide : 1 ≤ 16777216))
        have hpats : (patsM ns ps n p').length ≤ 32 := by
          have h1 := patsM_len ns ps n p'
          have h2 : 2 ^ p' ≤ 2 ^ 5 := Nat.pow_le_pow_right (by decide) (by omega)
          omega
        have hsl := signsM_len ns n p' q
        have hpm := patsM_mem (ns := ns) hntab hps p' (by omega) (by omega)
        have e : LS ((patsM ns ps n (p' + 1)).map st) = L ((patsM ns ps n p').flatMap fun pat => (signsM ns n p' q).map fun sg => S (st (pat ++ sg))) := by
          rw [ls_eq]
          conv => lhs; unfold patsM
          rw [hqq, List.map_flatMap]
          simp only [List.map_map, Function.comp_def]
        refine tri_cons (tri_assign_comp2 (x1 := Str.ofString "pattern") (x2 := Str.ofString "sign") _ hsc (Qf1 := fun pat => S (st pat)) (Qf2 := fun sg => S (st sg)) (R' := fun pat sg => S (st (pat ++ sg))) (src_list hA'.handled (et_ls (et_name rfl))) (fun pat _ => src_list hA'.handled (et_ls (et_name rfl))) (fun pat hpat sg hsg => ?_)
          (by omega) (by omega) (by decide +kernel) (by decide +kernel) (by decide +kernel) rfl (fun env h => by unfold swapsWith Env.blockKind Env.kindOf; rw [h]; rfl) (by decide +kernel) rfl (by intro _ _; rfl) (by intro _ _; rfl)) ?_
        · refine et_cast (st_append pat sg) (et_add_str (et_name rfl) (et_name rfl) ?_)
          have h1 := (hpm pat hpat).1
          have h2 := (signsM_mem hntab (by omega) (hps q hqm).1 sg hsg).1
          rw [st_length, st_length, sizeLine_eq]; omega
        · rw [e]
          exact tri_end ⟨rfl, rfl, rfl, rfl, rfl, trivial⟩
      case rest2 =>
        have hr5 : (List.range (5 : Int).toNat).length = 5 := rfl
        rw [hr5]
        have hpm := patsM_mem (ns := ns) hntab hps 5 (by omega) (by omega)
        have hpl32 := patsM_len ns ps n 5
        generalize patsM ns ps n 5 = pats at hpm hpl32
        have hfl := facesPre_len ns ps i
        refine tri_cons (tri_for (ds := pats) (Qf := fun pat => S (st pat)) (fun _ => ctxOf [(Str.ofString "names", LS (ns.map st)), (Str.ofString "pairs", PRS ps), (Str.ofString "faces", Vl (.ref a))])
          (fun j => some (a, ((facesPre ns ps i ++ (pats.take j).filter (fullM ns)).map st).map S)) hsc (src_list hA'.handled (et_ls (et_name rfl))) (by first | exact .inl rfl | exact .inr ⟨rfl, rfl⟩) (Has.sub ⟨rfl, rfl, rfl, trivial⟩) (by simp) ?turn3) ?rest3
        case rest3 =>
          rw [List.take_length]
          exact tri_nil
        intro j pat hj
        obtain ⟨hp1, hp2⟩ := hpm pat (List.mem_of_getElem? hj)
        have hnext : ((facesPre ns ps i ++ (pats.take (j + 1)).filter (fullM ns)).map st).map S = ((facesPre ns ps i ++ (pats.take j).filter (fullM ns)).map st).map S ++ (if fullM ns pat then [S (st pat)] else []) := by
          rw [List.take_add_one, hj, List.filter_append, ← List.append_assoc, List.map_append, List.map_append]
          congr 1
          simp only [Option.toList_some, List.filter_cons, List.filter_nil]
          split <;> rfl
        rw [hnext]
        have hcap : (((facesPre ns ps i ++ (pats.take j).filter (fullM ns)).map st).map S).length ≤ 1000000 := by
          have h1 := List.length_filter_le (fullM ns) (pats.take j)
          have h2 := List.length_take_le' j pats
          simp only [List.length_map, List.length_append]
          have : i * 32 ≤ 200 * 32 := Nat.mul_le_mul_right _ (by omega)
          omega
        refine tri_cons (tri_assign (P := L ((pat.map po).map PT)) hsc (et_call (Ps := [S (st (rx pat))]) (et_glob rfl rfl) (.inl rfl) (.cons (et_call (Ps := [S (st pat)]) (et_glob rfl rfl) (.inl rfl) (.cons (et_name rfl) (fun _ => rfl) .nil) fun b V vs W f => translate_ok (by omega) hp2 A' b V vs hA' W f) (fun _ => rfl) .nil)
          fun b V vs W f => parts_ok (by omega) hp2 A' b V vs (hA'.less (by omega)) W f) (by first | exact .inl rfl | exact .inr ⟨rfl, rfl⟩) (by intro _ _; rfl)) ?_
        refine tri_cons (tri_if (t := fullM ns pat) ok_at (tta hsc (tt_eqv ?_ (tt_cmp_int (i := (((ns.filter (taken (pat.map po))).map fun n => S (st n)).length : Nat)) (j := (2 : Int) ^ ((pat.count 63 : Nat) : Int).toNat) (et_len_list ?_ rfl rfl ?_) (et_pow_int et_int ?_ (by omega) ?_ (by decide) ?_)))) (fun ht => ?_) (fun ht => ?_)) tri_nil
        · show decide _ = fullM ns pat
          unfold fullM
          rw [List.length_map, Int.toNat_natCast, Bool.eq_iff_iff]
          simp only [decide_eq_true_eq, beq_iff_eq]
          constructor
          · intro h; exact_mod_cast h
          · intro h; exact_mod_cast h
        · rw [List.length_map]
          have := List.length_filter_le (taken (pat.map po)) ns
          omega
        · refine et_comp _ (Qf := fun n => S (st n)) (src_list hA'.handled (et_ls (et_name rfl))) (by omega) (fun n hn => ts_one (tt_of_bool (et_call (Ps := [L ((pat.map po).map PT), S (st n)]) (et_glob rfl rfl) (.inl rfl) (.cons (et_name rfl) (fun _ => rfl) (.cons (et_name rfl) (fun _ => rfl) .nil)) fun b V vs W f => ?_))) fun n _ _ => et_name rfl
          have := hL n hn
          exact taken_ok (by simp; omega) (by omega) A' b V vs (hA'.less (by omega)) W f
        · refine et_castI ?_ (et_method (P := S (st pat)) (Ps := [S (st [63])]) (et_name rfl) PySem.F.slot_str_count PySem.F.plainAttrs_str PySem.F.type_str_count typeIs_S dict_S (.cons (et_str' qm_st) (fun _ => rfl) .nil) (fun b V v vs W p f => count_body b V v vs p f) (fun _ _ => rfl) (by decide) rfl)
          rw [occ_count]
        · have := List.count_le_length (a := 63) (l := pat); omega
        · have h1 := List.count_le_length (a := 63) (l := pat)
          have h2 : Builtin.Int.intBits 2 = 2 := by decide +kernel
          rw [h2]; omega
        · rw [if_pos ht]
          exact tri_cons (tri_append hsc rfl (et_name rfl) (fun _ => rfl) hcap rfl) (tri_end ⟨rfl, rfl, rfl, trivial⟩)
        · rw [if_neg (by simpa using ht), List.append_nil]
          exact tri_end ⟨rfl, rfl, rfl, trivial⟩
end
end Mine
end
section
open PySem PySem.W PyProof.Rows PySem.SeqAt
set_option Elab.async false
set_option linter.all false
namespace Mine
section
variable {prog : Program} {w : World} {A : Around} {K : Frag} {ow : Str → Prop} {h₀ h h' b b₀ : Heap} {V₀ V V' : LG} {env : Env} {sc : Scope} {Γ Γ' : Ctx'} {O : OwnT} {l r e : Expr} {pos px : Pos} {x y : Str} {P P1 P2 : Sp} {R : Value → As} {N N' P' : As} {E : Value → Shared → Prop} {s : Shared}

theorem et_castB {t u : Bool} (h : t = u) (he : Et prog w K A sc Γ e (B t)) : Et prog w K A sc Γ e (B u) := h ▸ he
/-- x = list(e), x the own list -/
theorem tri_newcopy {Ps : List Sp} {cp lp : Pos} (hsc : env.scope = sc) (hl : Et prog w K A sc Γ (.Name (Str.ofString "list") lp) (Vl (.type "list"))) (he : Et prog w K A sc Γ e (L Ps)) (hse : ∀ env, starEach [e] env = (false, eval e env) :: starEach [] env) (hz : Ps.length ≤ 1000000)
    (hx : sc.names.lookup x = some .local ∨ (sc.names.lookup x = some .cell ∧ ow x)) :
    Tri prog w A (At K ow h₀ V₀ env Γ O) (exec (.Assign [.Name x px] (.Call (.Name (Str.ofString "list") lp) [e] [] cp) pos) env) (fun V h => ∃ a, At K ow h₀ V₀ env (upd Γ x (Vl (.ref a))) (some (a, Ps)) V h) R := by
  intro s V Q E hP kN kR
  refine wpAny_Assign_Name ?_ (by rfl)
  refine wp_call hl (.inr (.inr ⟨_, rfl⟩)) (.cons he hse .nil) hsc hP.fr.ok hP.fr.sub (Ext.refl _) fun vs h₁ tk₁ V₁ g₁ W₁ fit => ?_
  obtain ⟨v, rfl, a, us, n, rfl, q2, q3⟩ := fit1 fit
  have A1 := hP.grow g₁
  have hl3 := q3.length
  refine call_list_seq (s := { s with heap := h₁, toks := tk₁ }) a (.inl rfl) (g₁.sub _ _ q2).1 rfl rfl (fun h₂ c' hk hD => ?_) (by rw [List.size_toArray, sizeLine_eq]; omega)
  dsimp only at hk hD ⊢
  have A2 := A1.grow (.of_ext A1.fr.sub hk)
  refine A2.fr.store (s := { s with heap := h₂, toks := tk₁ }) (P := Vl (.ref h₁.objs.size)) (by unfold Env.kindOf; rw [hsc]; exact hx) rfl fun h₃ tk₃ F3 kp => ?_
  refine kN h₃ tk₃ V₁ ((Stp.of_grow g₁).trans ((Stp.of_kx (Kx.of_ext hk)).trans (.of_kp kp))) ⟨_, F3, A2.le, A2.new, us, c', kp _ _ hD (pl_lobj _ _).1 (pl_lobj _ _).2, g₁.sub.fresh (fresh_size _), none_of_ext A1.fr.base (fresh_size _), q3⟩

theorem egS {V : LG} (x : Str) (t : Tok) : ∀ {xs : List Str} {vs : List Value}, Fit V (xs.map S) vs → ∀ y ∈ vs, PySem.MeetsSeq.EqGives y (.str x t) (eqS x y)
  | [], _, .nil, y, hy => by cases hy
  | z :: zs, _, .cons h tl, y, hy => by
    rcases List.mem_cons.mp hy with rfl | hy
    · obtain ⟨u, rfl⟩ := h
      have := SeqRoads2.EqGives.str z x u t
      have e : (z.cps.toList == x.cps.toList) = eqS x (.str z u) := by
        show _ = (z == x)
        rw [Bool.eq_iff_iff, beq_iff_eq, beq_iff_eq]
        exact ⟨fun q => by rw [← st_surj z, ← st_surj x, q], fun q => by rw [q]⟩
      rw [← e]; exact this
    · exact egS x t tl y hy
theorem find_erase {V : LG} (x : Str) : ∀ {xs : List Str} {vs : List Value}, Fit V (xs.map S) vs → x ∈ xs → ∃ j, ∃ hj : j < vs.length, eqS x vs[j] = true ∧ (∀ m (hm : m < vs.length), m < j → eqS x vs[m] = false) ∧ Fit V ((xs.erase x).map S) (vs.eraseIdx j)
  | [], _, .nil, hx => by cases hx
  | z :: zs, _, .cons (v := v) (vs := vs) h tl, hx => by
    obtain ⟨u, rfl⟩ := h
    by_cases hz : z = x
    · subst hz
      refine ⟨0, by simp, by simp [eqS], fun m hm h => absurd h (Nat.not_lt_zero _), ?_⟩
      simpa using tl
    · have hx' : x ∈ zs := by
        rcases List.mem_cons.mp hx with q | q
        · exact absurd q.symm hz
        · exact q
      obtain ⟨j, hj, h1, h2, h3⟩ := find_erase x tl hx'
      refine ⟨j + 1, by simpa using hj, by simpa using h1, fun m hm h => ?_, ?_⟩
      · cases m with
        | zero => simp [eqS, hz]
        | succ m => simpa using h2 m (by simpa using hm) (by omega)
      · have e : (z :: zs).erase x = z :: zs.erase x := by rw [List.erase_cons, if_neg (by simpa using hz)]
        rw [e, List.map_cons, List.eraseIdx_cons_succ]
        exact .cons ⟨u, rfl⟩ h3

theorem wp_meth1 {T : String} {name : Str} {id : String} {o elt : Expr} {apos cpos : Pos} {Q : Value → Shared → Prop} (slot : Slot T name id) (pa : PlainAttrs T) (hty : typeOf (.builtin id) = pure (.type "method_descriptor"))
    (hbase : ∀ env whole, attributeBase o name env whole = whole) (hse : ∀ env, starEach [elt] env = [(false, eval elt env)]) (hline : (apos.endLine == cpos.line) = true)
    (h : wpAny (model prog w) A (eval o env) (fun v s₁ => s₁.TypeIs v T ∧ (∀ a, v = .ref a → ∃ ob, s₁.heap.get? a = some ob ∧ ob.dict = none) ∧
      wpAny (model prog w) A (eval elt env) (fun y s₂ => wpAny (model prog w) A (call (.builtin id) [v, y]) Q E s₂) E s₁) E s) :
    wpAny (model prog w) A (eval (.Call (.Attribute o name apos) [elt] [] cpos) env) Q E s := by
  rw [arm_eval_Call, hbase]
  refine wpAny_bind (wpAny_mono h (fun v s₁ h₁ => ?_) fun _ _ e => e)
  obtain ⟨hT, hd, h₁⟩ := h₁
  refine wpAny_bind (wpAny_standAt ?_)
  have hform : methodCallForm (([elt] : List Expr).length + ([] : List Keyword).length) (backTo cpos (starEach [elt] env)) (backToKw cpos (keywordEach [] env)) = true := by
    rw [hse]; rfl
  unfold methodCall
  rw [hform]
  refine wpAny_bind (wpAny_holding (getMethod_builtin hT pa slot hty hd ?_))
  dsimp only
  have hpos : methodCallPos true o env apos cpos = pure cpos := by unfold methodCallPos; simp [hline]
  rw [hpos]
  refine wpAny_bind (wpAny_pure ?_)
  rw [hse]
  exact Calls.callWith_builtin rfl (Calls.evalArgs_plain (Calls.spliced_cons (wpAny_mono h₁ (fun v s₁ h₁ => Calls.spliced_nil h₁) fun _ _ e => e)))

/-- x.remove(e), x the own list, e in it -/
theorem tri_remove {a : Addr} {xs : List Str} {elt : Expr} {apos cpos : Pos} (hsc : env.scope = sc) (hx : Γ x = some (Vl (.ref a))) (he : Et prog w K A sc Γ elt (S y)) (hse : ∀ env, starEach [elt] env = [(false, eval elt env)]) (hz : xs.length ≤ 1000000)
    (hy : y ∈ xs) (hline : (apos.endLine == cpos.line) = true) (hd : (x == ("__debug__" : Str)) = false := by decide +kernel) :
    Tri prog w A (At K ow h₀ V₀ env Γ (some (a, xs.map S))) (exec (.Expr (.Call (.Attribute (.Name x px) "remove" apos) [elt] [] cpos) pos) env) (At K ow h₀ V₀ env Γ (some (a, (xs.erase y).map S))) R := by
  intro s V Q E hP kN kR
  refine wpAny_Expr ?_ (by unfold interactive; rw [hP.fr.ok.kind]; rfl) (by rfl)
  refine wp_meth1 F.slot_list_remove F.plainAttrs_list F.type_list_remove (fun _ _ => rfl) hse hline ?_
  refine et_name hx hd env s.heap V hsc hP.fr.ok hP.fr.sub s _ E (Ext.refl _) fun v h₁ tk₁ V₁ g₁ p₁ => ?_
  have p₁' : v = .ref a := p₁
  subst p₁'
  have A1 := hP.grow g₁
  obtain ⟨vs1, n1, r1, _, _, _⟩ := A1.own
  refine ⟨⟨_, r1, rfl⟩, fun a' e' => ?_, ?_⟩
  · cases e'; exact ⟨_, r1, rfl⟩
  refine he env h₁ V₁ hsc A1.fr.ok A1.fr.sub _ _ E (Ext.refl _) fun z h₂ tk₂ V₂ g₂ p₂ => ?_
  obtain ⟨t, rfl⟩ := p₂
  have A2 := A1.grow g₂
  obtain ⟨vs, n, q1, q2, q3, q4⟩ := A2.own
  obtain ⟨j, hj, e1, e2, e3⟩ := find_erase y q4 hy
  have hlv := q4.length
  rw [List.length_map] at hlv
  refine call_meets F.slot_list_remove (s := { s with heap := h₂, toks := tk₂ }) ⟨_, q1, rfl⟩ F.entry_list_remove (F.args_list_remove_2 _ _)
    (PySem.MeetsSeq.list_remove a vs.toArray n (.str y t) (eqS y) (fun z hz => egS y t q4 z (by simpa using hz)) j (by simpa using hj) (by simpa using e1) (fun m hm h => by simpa using e2 m (by simpa using hm) h) (by rw [List.size_toArray, sizeLine_eq]; omega)) ⟨q1, ?_⟩
  have q1' : h₂.get? a = some { cls := .type "list", data := .seq vs.toArray n } := q1
  have hD : (h₂.update a (Obj.mapSeq fun xs => xs.eraseIdxIfInBounds j)).get? a = some (lobj (vs.eraseIdx j) (n + 1)) := by
    rw [Heap.get?_update_self _ q1' (by rw [mapSeq_erase _ _ _ (by simpa using hj)]; rfl), mapSeq_erase _ _ _ (by simpa using hj)]
    rfl
  have hs : Heap.SameBut a h₂ (h₂.update a (Obj.mapSeq fun xs => xs.eraseIdxIfInBounds j)) := Heap.SameBut.update ..
  have hk : ∀ b o, ¬ b = a → h₂.get? b = some o → (h₂.update a (Obj.mapSeq fun xs => xs.eraseIdxIfInBounds j)).get? b = some o := fun b o q e => (hs.2 b q).trans e
  refine kN _ tk₂ V₂ ((Stp.of_grow (g₁.trans g₂)).trans (.of_kx fun b o e p hl => hk b o (fun q5 => ?_) e)) ⟨?_, A2.le, A2.new, vs.eraseIdx j, n + 1, hD, q2, q3, e3⟩
  · rw [q5, q1] at e; cases e; exact hl rfl
  · exact A2.fr.keep (X := fun b => b = a) hk (fun b q => q ▸ q3) (fun b q => q ▸ q2) fun b q => q ▸ ⟨_, q1, pl_lobj _ _⟩

/-- try: .. except: .., where nothing is raised -/
theorem tri_try {body : List Stmt} {h₁ : ExceptHandler} {hs : List ExceptHandler} (h : Tri prog w A P' (execs body env) N R) : Tri prog w A P' (exec (.Try body (h₁ :: hs) [] [] pos) env) N R := by
  intro s V Q E hP kN kR
  rw [arm_exec_Try]
  refine wpAny_bind (wpAny_standAt (wpAny_tryStmt_except ?_))
  refine h s V _ _ hP (fun h tk V' st n => ?_) fun v h tk V' st r => ?_
  · exact wpAny_execs_nil (kN h tk V' st n)
  · exact kR v h tk V' st r
end

/-! ## _compare_args_orderless, where all goes well -/
noncomputable def remAll (ys xs : List Str) : List Str := xs.foldl (fun a x => a.erase x) ys
theorem remAll_take {ys xs : List Str} {i : Nat} {x : Str} (h : xs[i]? = some x) : remAll ys (xs.take (i + 1)) = (remAll ys (xs.take i)).erase x := by
  unfold remAll; rw [List.take_add_one, h, List.foldl_append]; rfl
theorem remAll_len (ys : List Str) : ∀ xs, (remAll ys xs).length ≤ ys.length := by
  intro xs
  unfold remAll
  induction xs generalizing ys with
  | nil => simp
  | cons x r ih => rw [List.foldl_cons]; exact Nat.le_trans (ih _) List.length_erase_le
section
variable {w : World}
set_option pp.deepTerms false in
set_option pp.deepTerms.threshold 8 in
set_option maxRecDepth 100000 in
theorem compare_ok {xs ys : List Str} (hz1 : xs.length ≤ 100000) (hz2 : ys.length ≤ 100000) (hgo : ∀ i x, (dd xs)[i]? = some x → x ∈ remAll (dd ys) ((dd xs).take i)) (A : Around) (b : Heap) (V : LG) (vs : List Value) (hA : OkA 2 A) (hW : Wd (KK w) b) (hfit : Fit V [LS xs, LS ys] vs) :
    Ev PR w A b V (call (.ref 45) vs) (B (remAll (dd ys) (dd xs)).isEmpty) := by
  refine con_entry (d := 1) (a := 45) (o := ?o) (fd := ?fd) (body := ?body) (sc := ?sc) (xs := [Str.ofString "first_args", Str.ofString "second_args"]) (Ps := [LS xs, LS ys]) (R := B (remAll (dd ys) (dd xs)).isEmpty) (K := KK w) ?hK ?hd ?hb ?hs ?hc ?hcl ?hgl ?hbu ?hst rfl ?hbind ?hT A b V vs hA hW hfit
  case hK => rfl
  case hd => rfl
  case hb => rfl
  case hs => (dsimp only; rfl)
  case hc => rfl
  case hcl => rfl
  case hgl => rfl
  case hbu => rfl
  case hst => decide +kernel
  case hbind => intro vals hv; obtain ⟨v, u, rfl⟩ := len2 hv rfl; rfl
  case hT =>
    intro env h₀ V₀ A' hsc hA'
    have l1 := dd_length_le xs
    have l2 := dd_length_le ys
    refine tri_cons (tri_assign (P := LS (dd xs)) hsc (et_call (Ps := [LS xs]) (et_glob rfl rfl) (.inl rfl) (.cons (et_name rfl) (fun _ => rfl) .nil) fun b V vs W f => dedup_ok (by omega) A' b V vs hA' W f) (.inl rfl) (by intro _ _; rfl)) ?_
    refine tri_cons (tri_assign (P := LS (dd ys)) hsc (et_call (Ps := [LS ys]) (et_glob rfl rfl) (.inl rfl) (.cons (et_name rfl) (fun _ => rfl) .nil) fun b V vs W f => dedup_ok (by omega) A' b V vs hA' W f) (.inl rfl) (by intro _ _; rfl)) ?_
    refine tri_cons (tri_newcopy hsc (et_globb rfl rfl (by decide +kernel)) (et_name rfl) (fun _ => rfl) (by rw [List.length_map]; omega) (.inl rfl)) (tri_ex fun a => ?_)
    refine tri_cons (tri_try (tri_cons (tri_for (ds := dd xs) (Qf := S) (fun _ => ctxOf [(Str.ofString "first_unhashable", LS (dd xs)), (Str.ofString "t", Vl (.ref a))]) (fun i => some (a, (remAll (dd ys) ((dd xs).take i)).map S)) hsc
      (src_list hA'.handled (et_name rfl)) (.inl rfl) (Has.sub ⟨rfl, rfl, trivial⟩) rfl fun i d hd => ?_) tri_nil)) ?_
    · rw [remAll_take hd]
      have h1 := remAll_len (dd ys) ((dd xs).take i)
      exact tri_cons (tri_remove hsc rfl (et_name rfl) (fun _ => rfl) (by omega) (hgo i d hd) rfl) (tri_end ⟨rfl, rfl, trivial⟩)
    · rw [List.take_length]
      have h1 := remAll_len (dd ys) (dd xs)
      refine tri_freeze (x := Str.ofString "t") rfl (tri_cons (tri_return hsc ?_) tri_nil)
      refine et_castB ?_ (et_not (et_name rfl) (tr_list (Ps := (remAll (dd ys) (dd xs)).map S) (by rw [List.length_map]; omega)))
      rw [Bool.not_not]; cases remAll (dd ys) (dd xs) <;> rfl
end
end Mine
end
section
open PySem PySem.W PyProof.Rows PySem.SeqAt
set_option Elab.async false
set_option linter.all false
namespace Mine
section
variable {prog : Program} {w : World} {A : Around} {K : Frag} {sc : Scope} {Γ : Ctx'} {b : Heap} {V : LG} {s : Shared}
/-- a list of bools -/
noncomputable def LB (bs : List Bool) : Sp := L (bs.map B)
theorem fit_bools {V : LG} : ∀ {bs : List Bool} {vs : List Value}, Fit V (bs.map B) vs → vs = bs.map Value.bool
  | [], _, .nil => rfl
  | b :: bs, _, .cons h t => by
    have h' : _ = Value.bool b := h
    rw [h', fit_bools t]; rfl
noncomputable def boolsOf (V : LG) : Value → Option (List Value)
  | .ref a => match V a with
    | some o => match o.data with
      | .seq us _ => some us.toList
      | _ => none
    | none => none
  | _ => none
theorem boolsOf_eq {V : LG} {a : Addr} {vs : List Value} {n : Nat} (h : V a = some (lobj vs n)) : boolsOf V (.ref a) = some vs := by
  show (match V a with | some o => (match o.data with | .seq us _ => some us.toList | _ => none) | none => none) = _
  rw [h]; rfl
theorem bools_inj : ∀ {a b : List Bool}, a.map Value.bool = b.map Value.bool ↔ a = b := fun {a b} => ⟨fun h => by
  induction a generalizing b with
  | nil => cases b with
    | nil => rfl
    | cons _ _ => cases h
  | cons x r ih => cases b with
    | nil => cases h
    | cons y q =>
      simp only [List.map_cons, List.cons.injEq, Value.bool.injEq] at h
      rw [h.1, ih h.2], fun h => h ▸ rfl⟩
noncomputable def eqB (V : LG) (bs : List Bool) (y : Value) : Bool := decide (boolsOf V y = some (bs.map Value.bool))
theorem eq_bools {V : LG} (hs : Sub V s.heap) (hu : A.units < cLine) {bs : List Bool} {x : Value} (hx : (LB bs).p V x) {l : List Bool} {y : Value} (hy : (LB l).p V y) (hl : l.length = bs.length) : EqAt A s y x (eqB V bs y) := by
  obtain ⟨a, vs, n, rfl, q2, q3⟩ := hx
  obtain ⟨c, us, m, rfl, r2, r3⟩ := hy
  have e1 := fit_bools q3
  have e2 := fit_bools r3
  subst e1 e2
  unfold eqB
  rw [boolsOf_eq r2]
  by_cases hca : c = a
  · subst hca
    rw [q2] at r2
    have : bs.map Value.bool = l.map Value.bool := by
      have := Option.some.inj r2
      unfold lobj at this
      injection this with _ _ h3 _
      injection h3 with h4 _
      have := congrArg Array.toList h4
      simpa using this
    rw [this, decide_eq_true rfl]
    exact EqAt.same _
  · have hsz : (l.map Value.bool).toArray.size = (bs.map Value.bool).toArray.size := by simp [hl]
    have key := EqAt.of_refs (A := A) (s := s) hca (RcAt.lists (hs.pl r2).isList (hs.pl q2).isList hsz hu (e := fun j => l.getD j false == bs.getD j false) fun j h1 h2 => by
      have h1' : j < l.length := by simpa using h1
      have h2' : j < bs.length := by simpa using h2
      have := EqAt.bool_bool (A := A.in1) (s := s) l[j] bs[j]
      simpa [List.getD_eq_getElem?_getD, h1', h2'] using this)
    have e3 : ((List.range (l.map Value.bool).toArray.size).all fun j => l.getD j false == bs.getD j false) = decide (some (l.map Value.bool) = some (bs.map Value.bool)) := by
      rw [Bool.eq_iff_iff, List.all_eq_true, decide_eq_true_eq, Option.some.injEq, bools_inj]
      constructor
      · intro h
        refine List.ext_getElem hl fun j h1 h2 => ?_
        have := h j (by simpa using h1)
        simpa [List.getD_eq_getElem?_getD, h1, h2] using this
      · rintro rfl j _
        simp
    rw [← e3]
    exact key
theorem countP_bools {V : LG} (bs : List Bool) : ∀ {ls : List (List Bool)} {vs : List Value}, Fit V (ls.map LB) vs → vs.countP (eqB V bs) = ls.count bs
  | [], _, .nil => rfl
  | l :: ls, _, .cons h t => by
    obtain ⟨c, us, m, rfl, r2, r3⟩ := h
    have e2 := fit_bools r3
    subst e2
    rw [List.countP_cons, List.count_cons, countP_bools bs t]
    congr 1
    unfold eqB
    rw [boolsOf_eq r2]
    by_cases h : l = bs
    · subst h; simp
    · have : ¬ (l.map Value.bool = bs.map Value.bool) := fun q => h (bools_inj.mp q)
      simp [this, h]
theorem fit_mem {V : LG} {α : Type} {Q : α → Sp} : ∀ {ls : List α} {vs : List Value}, Fit V (ls.map Q) vs → ∀ v ∈ vs, ∃ l ∈ ls, (Q l).p V v
  | [], _, .nil, v, hv => by cases hv
  | l :: ls, _, .cons h t, v, hv => by
    rcases List.mem_cons.mp hv with rfl | hv
    · exact ⟨l, List.mem_cons_self, h⟩
    · obtain ⟨l', h1, h2⟩ := fit_mem t v hv
      exact ⟨l', List.mem_cons_of_mem _ h1, h2⟩
theorem count_list_body {ls : List (List Bool)} {bs : List Bool} (hu : A.units + 1 < cLine) (hl : ∀ l ∈ ls, l.length = bs.length) (b : Heap) (V : LG) (v : Value) (vs : List Value) (h1 : (L (ls.map LB)).p V v) (h : Fit V [LB bs] vs) :
    Ev prog w A b V (call (.builtin "list.count") (v :: vs)) (I (ls.count bs)) := by
  obtain ⟨a, us, n, rfl, q2, q3⟩ := h1
  obtain ⟨x, rfl, hx⟩ := fit1 h
  refine .same fun s Q E hs _ k => ?_
  refine call_meets F.slot_list_count ⟨_, (hs _ _ q2).1, rfl⟩ F.entry_list_count (F.args_list_count_2 _ _) (list_countAt a us.toArray n none #[] x (eqB V bs)) ⟨(hs _ _ q2).1, fun y hy => ?_, ?_⟩
  · obtain ⟨l, h1, h2⟩ := fit_mem q3 y (by simpa using hy)
    exact eq_bools hs hu hx h2 (hl l h1)
  · rw [show us.toArray.toList = us from rfl, countP_bools bs q3]
    exact k _ _ ⟨_, rfl⟩
end
end Mine
end
section
open PySem PySem.W PyProof.Rows PySem.SeqAt
set_option Elab.async false
set_option linter.all false
namespace Mine

/-! ## the law's values -/
section
variable {α : Type} [BEq α]
noncomputable def ddG (xs : List α) : List α := xs.foldl (fun acc x => if acc.contains x then acc else acc ++ [x]) []
end
theorem dd_st (xs : List (List Nat)) : dd (xs.map st) = (ddG xs).map st := by
  have key : ∀ (xs acc : List (List Nat)), (xs.map st).foldl ddStep (acc.map st) = (xs.foldl (fun acc x => if acc.contains x then acc else acc ++ [x]) acc).map st := by
    intro xs
    induction xs with
    | nil => intro acc; rfl
    | cons x r ih =>
      intro acc
      rw [List.map_cons, List.foldl_cons, List.foldl_cons, ← ih]
      congr 1
      unfold ddStep
      rw [st_contains]
      split
      · rfl
      · rw [List.map_append]; rfl
  exact key xs []
noncomputable def numsM (sc : List Int) : List Int := (((sc.take 5) ++ [7, 0, 3, 5, 24]).take 5).map fun (x : Int) => x.fmod (10 ^ 9)
noncomputable def bitN (x : Int) (p : Nat) : Nat := ((x.fdiv (2 ^ p)).fmod 2).toNat
noncomputable def drawM (ps : List (Nat × Nat)) (x : Int) : List Nat := (List.range 5).map fun p => if bitN x p = 0 then (ps.getD p (0, 0)).1 else (ps.getD p (0, 0)).2
noncomputable def halfM (d : List (List Nat)) : List (List Nat) := ddG (d ++ middles d)
noncomputable def toldM (d : List (List Nat)) : List (List Nat) := halfM d ++ middles (halfM d)
noncomputable def likesM (ns : List (List Nat)) : List (List Bool) := (List.range 5).map fun p => ns.map fun n => n.getD p 0 == (ns.getD 0 []).getD p 0
noncomputable def twinsM (ns : List (List Nat)) : List Nat := (List.range 5).filter fun p => decide (1 < (likesM ns).count ((likesM ns).getD p []))
noncomputable def rowM (ns : List (List Nat)) (n : List Nat) : List Nat := (twinsM ns).map fun p => n.getD p 0
noncomputable def sgnM (f : List Nat) : Int := 1 - 2 * ((f.count 63 : Nat) : Int).fmod 2
noncomputable def sumM (fs : List (List Nat)) (p c : Nat) : Int := ((fs.filter fun f => f.getD p 0 == c).map sgnM).sum
noncomputable def sideM (ns : List (List Nat)) (p c : Nat) : List (List Nat) := (ns.filter fun n => n.getD p 0 == c).map (rowM ns)
noncomputable def cmpM (xs ys : List (List Nat)) : Bool := decide (∀ x ∈ xs, x ∈ ys) && decide (∀ y ∈ ys, y ∈ xs)

structure LawFacts (x0 : Int) (xs : List Int) : Prop where
  points : ∀ f, f ∈ (facesM (ddG (toldM (xs.map (drawM (prs x0))))) (prs x0)).filter (fun f => quo f == f) ↔ f ∈ toldM (xs.map (drawM (prs x0)))
  sums : ∀ p, p < 5 → ∀ ns, ns = ddG (toldM (xs.map (drawM (prs x0)))) → ∀ q, q = (prs x0).getD p (0, 0) → ∀ a b, a = ddG (sideM ns p q.1) → b = ddG (sideM ns p q.2) →
    [sumM (facesM ns (prs x0)) p q.1, sumM (facesM ns (prs x0)) p q.2, sumM (facesM ns (prs x0)) p 63] = [(a.length : Int), (b.length : Int), -((a.filter b.contains).length : Int)]
  cmp : ∀ p, p < 5 → ∀ ns, ns = ddG (toldM (xs.map (drawM (prs x0)))) → ∀ q, q = (prs x0).getD p (0, 0) → ∀ a b, a = ddG (sideM ns p q.1) → b = ddG (sideM ns p q.2) →
    cmpM (sideM ns p q.2) (sideM ns p q.1) = decide ((a.length : Int) + b.length = 2 * (a.filter b.contains).length)

/-! ### same members -/
theorem mem_ddG {α : Type} [BEq α] [LawfulBEq α] (xs : List α) (x : α) : x ∈ ddG xs ↔ x ∈ xs := by
  have key : ∀ (xs acc : List α), x ∈ xs.foldl (fun acc x => if acc.contains x then acc else acc ++ [x]) acc ↔ x ∈ acc ∨ x ∈ xs := by
    intro xs
    induction xs with
    | nil => intro acc; simp
    | cons y r ih =>
      intro acc
      rw [List.foldl_cons, ih]
      by_cases h : acc.contains y
      · rw [if_pos h]
        have : y ∈ acc := by simpa using h
        simp only [List.mem_cons]
        constructor
        · rintro (q | q)
          · exact .inl q
          · exact .inr (.inr q)
        · rintro (q | q | q)
          · exact .inl q
          · subst q; exact .inl this
          · exact .inr q
      · rw [if_neg h]
        simp only [List.mem_append, List.mem_cons, List.not_mem_nil, or_false]
        constructor
        · rintro ((q | q) | q)
          · exact .inl q
          · exact .inr (.inl q)
          · exact .inr (.inr q)
        · rintro (q | q | q)
          · exact .inl (.inl q)
          · exact .inl (.inr q)
          · exact .inr q
  exact (key xs []).trans ⟨fun q => q.elim (fun h => by cases h) id, .inr⟩
theorem nodup_ddG {α : Type} [BEq α] [LawfulBEq α] (xs : List α) : (ddG xs).Nodup := by
  have key : ∀ (xs acc : List α), acc.Nodup → (xs.foldl (fun acc x => if acc.contains x then acc else acc ++ [x]) acc).Nodup := by
    intro xs
    induction xs with
    | nil => intro acc h; exact h
    | cons y r ih =>
      intro acc h
      rw [List.foldl_cons]
      refine ih _ ?_
      by_cases hc : acc.contains y
      · rw [if_pos hc]; exact h
      · rw [if_neg hc]
        have : y ∉ acc := by simpa using hc
        rw [List.nodup_append]
        exact ⟨h, by simp, fun a ha b hb => by simp at hb; subst hb; exact fun q => this (q ▸ ha)⟩
  exact key xs [] List.nodup_nil
theorem dd_eq (xs : List Str) : dd xs = ddG xs := rfl
theorem mem_remAll {D : List Str} (hD : D.Nodup) : ∀ (l : List Str), ∀ x, x ∈ remAll D l ↔ x ∈ D ∧ x ∉ l := by
  intro l
  unfold remAll
  induction l generalizing D with
  | nil => intro x; simp
  | cons y r ih =>
    intro x
    rw [List.foldl_cons, ih (hD.erase y) x, hD.mem_erase_iff]
    simp only [List.mem_cons, not_or]
    constructor
    · rintro ⟨⟨a, b⟩, c⟩; exact ⟨b, a, c⟩
    · rintro ⟨b, a, c⟩; exact ⟨⟨a, b⟩, c⟩
/-- where the first ones are all in the second ones, nothing is raised -/
theorem cmp_go {xs ys : List Str} (h : ∀ x ∈ xs, x ∈ ys) : ∀ i x, (dd xs)[i]? = some x → x ∈ remAll (dd ys) ((dd xs).take i) := by
  intro i x hx
  rw [dd_eq, dd_eq] at *
  have hn := nodup_ddG xs
  have hlt := (List.getElem?_eq_some_iff.mp hx).1
  have hxe := (List.getElem?_eq_some_iff.mp hx).2
  rw [mem_remAll (nodup_ddG ys)]
  refine ⟨(mem_ddG ys x).mpr (h x ((mem_ddG xs x).mp (hxe ▸ List.getElem_mem hlt))), fun hm => ?_⟩
  obtain ⟨j, hj, e⟩ := List.mem_take_iff_getElem.mp hm
  have hj' : j < (ddG xs).length := by omega
  have := (List.getElem_inj (h₀ := hj') (h₁ := hlt) hn).mp (e.trans hxe.symm)
  omega
theorem cmp_val {xs ys : List Str} : (remAll (dd ys) (dd xs)).isEmpty = decide (∀ y ∈ ys, y ∈ xs) := by
  rw [dd_eq, dd_eq, Bool.eq_iff_iff, List.isEmpty_iff, decide_eq_true_eq]
  constructor
  · intro h y hy
    by_cases hx : y ∈ xs
    · exact hx
    · have : y ∈ remAll (ddG ys) (ddG xs) := (mem_remAll (nodup_ddG ys) _ y).mpr ⟨(mem_ddG ys y).mpr hy, fun q => hx ((mem_ddG xs y).mp q)⟩
      rw [h] at this; cases this
  · intro h
    refine List.eq_nil_iff_forall_not_mem.mpr fun y hy => ?_
    obtain ⟨h1, h2⟩ := (mem_remAll (nodup_ddG ys) _ y).mp hy
    exact h2 ((mem_ddG xs y).mpr (h y ((mem_ddG ys y).mp h1)))
end Mine
end
section
open PySem PySem.W PyProof.Rows PySem.SeqAt
set_option Elab.async false
set_option linter.all false
namespace Mine

/-! ## sizes -/
noncomputable def Good (n : List Nat) : Prop := n.length = 5 ∧ ∀ c ∈ n, c ∈ tab
theorem prs_len (x : Int) : (prs x).length = 5 := by unfold prs; simp
theorem prs_tab (x : Int) : ∀ q ∈ prs x, q.1 ∈ tab ∧ q.2 ∈ tab := by
  intro q hq
  unfold prs at hq
  obtain ⟨p, _, rfl⟩ := List.mem_map.mp hq
  obtain ⟨c1, h1, e1⟩ := sg_at (x + 2 * (p : Int))
  obtain ⟨c2, h2, e2⟩ := sg_at (x + 2 * (p : Int) + 1)
  exact ⟨e1 ▸ List.mem_of_getElem? h1, e2 ▸ List.mem_of_getElem? h2⟩
theorem getD_mem' {α : Type} {l : List α} {i : Nat} {d : α} (h : i < l.length) : l.getD i d ∈ l := by
  rw [List.getD_eq_getElem?_getD, List.getElem?_eq_getElem h]; exact List.getElem_mem h
theorem draw_good {ps : List (Nat × Nat)} (h5 : ps.length = 5) (ht : ∀ q ∈ ps, q.1 ∈ tab ∧ q.2 ∈ tab) (x : Int) : Good (drawM ps x) := by
  refine ⟨by unfold drawM; simp, fun c hc => ?_⟩
  unfold drawM at hc
  obtain ⟨p, hp, rfl⟩ := List.mem_map.mp hc
  have hp5 : p < ps.length := by rw [h5]; simpa using hp
  have := ht _ (getD_mem' (d := (0, 0)) hp5)
  split
  · exact this.1
  · exact this.2
theorem mid_good {a b c : List Nat} (ha : Good a) (hb : Good b) (hc : Good c) : Good (mid a b c) := by
  refine ⟨by unfold mid; simp [ha.1], fun x hx => ?_⟩
  unfold mid at hx
  obtain ⟨p, hp, rfl⟩ := List.mem_map.mp hx
  have hp5 : p < 5 := by rw [ha.1] at hp; simpa using hp
  unfold mid1
  split
  · exact ha.2 _ (getD_mem' (by rw [ha.1]; exact hp5))
  · exact hb.2 _ (getD_mem' (by rw [hb.1]; exact hp5))
theorem middles_good {ns : List (List Nat)} (h : ∀ n ∈ ns, Good n) : ∀ n ∈ middles ns, Good n := by
  intro n hn
  unfold middles midI at hn
  obtain ⟨i, hi, hn⟩ := List.mem_flatMap.mp hn
  unfold midJ at hn
  obtain ⟨j, hj, hn⟩ := List.mem_flatMap.mp hn
  unfold midK at hn
  obtain ⟨k, hk, rfl⟩ := List.mem_map.mp hn
  have h1 : i < ns.length := by simpa using hi
  have h2 : j < i := by simpa using hj
  have h3 : k < j := by simpa using hk
  exact mid_good (h _ (getD_mem' h1)) (h _ (getD_mem' (by omega))) (h _ (getD_mem' (by omega)))
noncomputable def tri : Nat → Nat
  | 0 => 0
  | m + 1 => tri m + m
noncomputable def tet : Nat → Nat
  | 0 => 0
  | m + 1 => tet m + tri m
theorem midJ_len' (ns : List (List Nat)) (i : Nat) : ∀ m, (midJ ns i m).length = tri m
  | 0 => by simp [midJ, tri]
  | m + 1 => by rw [midJ_succ, List.length_append, midK_len, midJ_len' ns i m]; rfl
theorem midI_len' (ns : List (List Nat)) : ∀ m, (midI ns m).length = tet m
  | 0 => by simp [midI, tet]
  | m + 1 => by rw [midI_succ, List.length_append, midJ_len', midI_len' ns m]; rfl
theorem tet_mono : ∀ {a b : Nat}, a ≤ b → tet a ≤ tet b := by
  intro a b h
  induction h with
  | refl => exact Nat.le_refl _
  | step _ ih => exact Nat.le_trans ih (Nat.le_add_right _ _)
theorem middles_len {ns : List (List Nat)} {B : Nat} (h : ns.length ≤ B) : (middles ns).length ≤ tet B := by
  unfold middles; rw [midI_len']; exact tet_mono h
theorem ddG_len {α : Type} [BEq α] (xs : List α) : (ddG xs).length ≤ xs.length := by
  have key : ∀ (xs acc : List α), (xs.foldl (fun acc x => if acc.contains x then acc else acc ++ [x]) acc).length ≤ acc.length + xs.length := by
    intro xs
    induction xs with
    | nil => intro acc; simp
    | cons y r ih =>
      intro acc
      rw [List.foldl_cons]
      have := ih (if acc.contains y then acc else acc ++ [y])
      have h2 : (if acc.contains y then acc else acc ++ [y]).length ≤ acc.length + 1 := by split <;> simp
      rw [List.length_cons]; omega
  have := key xs []
  rw [List.length_nil, Nat.zero_add] at this
  exact this

/-! ## the entry, with what it tells of the frame -/
section
variable {prog : Program} {w : World} {A : Around} {K : Frag} {sc : Scope}
theorem con_entryF {d : Nat} {a : Addr} {o : Obj} {fd : FuncData} {body : List Stmt} {xs : List Str} {Ps : List Sp} {R : Sp}
    (hK : K.lookup a = some o) (hd : o.data = .func fd) (hbody : fd.body = .stmts body) (hscp : fd.scope = sc) (hcode : codeIn K fd.code fd.qualname = true) (hclo : fd.closure = []) (hgl : fd.globals = mainGlobals) (hbu : fd.builtins = builtinsNs)
    (hst : defOk sc xs = true) (hlen : xs.length = Ps.length) (hbind : ∀ vals : List Value, vals.length = xs.length → bindArgs fd ⟨vals, []⟩ = pure (xs.zip vals))
    (hT : ∀ env h₀ V₀ A', env.scope = sc → OkA d A' → A' = A.deeper env → env.frame = some env.locals → Tri prog w A' (At K (ownOf' sc) h₀ V₀ env (ctxOf (xs.zip Ps)) none) (execs body env) (fun _ _ => False) (Rt h₀ V₀ R))
    (b : Heap) (V : LG) (vs : List Value) (hA : OkA (d + 1) A) (hW : Wd K b) (hfit : Fit V Ps vs) : Ev prog w A b V (call (.ref a) vs) R := by
  intro hs s Q E hb k
  subst hscp
  unfold defOk at hst
  simp only [Bool.and_eq_true, Bool.not_eq_true', beq_iff_eq, decide_eq_true_eq] at hst
  obtain ⟨⟨⟨⟨⟨hk, hco⟩, hgen⟩, hfree⟩, hpar⟩, hnd⟩ := hst
  have W := hW.ext hb
  have hs' := hs.ext hb
  have hvl : vs.length = xs.length := by rw [hlen, hfit.length]
  refine wpAny_call (codeAny_call_cells (fd := fd) (body := body) (binds := xs.zip vs) hA.room (W.k a o hK) hd W.lim (codeRec_of W.k hcode) hbody (hbind vs hvl) hclo ?_ ?_ hco hgen hk)
  · refine kindsX ?_ _
    rw [List.all_eq_true]
    intro p hp
    have := List.all_eq_true.mp hpar p.1 (List.of_mem_zip (a := p.1) (b := p.2) hp).1
    exact this
  · intro s₁ X
    have efr : (callEnvC fd s.heap.objs.size a).frame = some (callEnvC fd s.heap.objs.size a).locals := rfl
    generalize henv : callEnvC fd s.heap.objs.size a = env at X efr ⊢
    have esc : env.scope = fd.scope := by subst henv; rfl
    have egl : env.globals = mainGlobals := by subst henv; exact hgl
    have ebu : env.builtins = builtinsNs := by subst henv; exact hbu
    have ecl : env.cells = cellsFrom (s.heap.objs.size + 1) fd.scope.names [] := by subst henv; rfl
    have eknd : ∀ y, env.kindOf y = fd.scope.names.lookup y := fun y => by unfold Env.kindOf; rw [esc]
    obtain ⟨hh, tk, rfl⟩ := X.toInCall.same
    have ext : Ext s.heap hh := X.toInCall.keep
    have fresh : ∀ c, s.heap.objs.size ≤ c → s.heap.get? c = none := fun c hc => by
      cases e : s.heap.get? c with
      | none => rfl
      | some o => exact absurd (Heap.lt_size e) (Nat.not_lt.mpr hc)
    have hcell : ∀ y, fd.scope.names.lookup y = some .cell → ∃ c, env.cells.lookup y = some c := fun y hy => by
      rw [ecl]; exact Option.isSome_iff_exists.mp (cellsFrom_some fd.scope.names _ [] (.inl hy))
    have FR : Frame K (ownOf' fd.scope) s.heap hh V env (ctxOf (xs.zip Ps)) := by
      refine ⟨⟨W.ext ext, esc ▸ hk, egl, ebu, fun y hy => ?_, fun y P hy => ?_⟩, ext, W, hs'.ext ext, fresh _ X.toInCall.fresh, ⟨_, X.toInCall.ns⟩, fun y hy => ?_⟩
      · rw [eknd] at hy
        rcases hy with hy | hy
        · obtain ⟨c, hc⟩ := hcell y hy
          exact ⟨c, _, hc, X.cell y c hc⟩
        · have := List.all_eq_true.mp hfree _ (mem_of_lookup hy)
          simp at this
      · obtain ⟨v, hv, pv⟩ := zip_lookup xs Ps vs V y P hfit hy
        refine ⟨v, ?_, pv⟩
        have hmem := mem_of_lookup hv
        have hnd' : ((xs.zip vs).map (·.1)).Nodup := by rw [List.map_fst_zip (by omega)]; exact hnd
        obtain ⟨b1, b2⟩ := bind_hit env.kindOf (xs.zip vs) (fun _ => none) (fun _ => none) y v hnd' hv
        have hy2 := List.all_eq_true.mp hpar y (List.of_mem_zip hmem).1
        simp only [Bool.or_eq_true, beq_iff_eq] at hy2
        rcases hy2 with q | q
        · exact .loc _ ((eknd y).trans q) X.toInCall.ns (b1 ((eknd y).trans q))
        · obtain ⟨c, hc⟩ := hcell y q
          have := X.cell y c hc
          rw [b2 (by rw [eknd, q]; decide)] at this
          exact .cel c (.inl ((eknd y).trans q)) hc this
      · obtain ⟨c, hc⟩ := hcell y hy
        refine ⟨c, _, hc, fresh c (Nat.le_trans X.toInCall.fresh (Nat.le_of_lt (X.above y c (mem_of_lookup hc)))), X.cell y c hc, fun y' hy' => name_of_addr X.apart (mem_of_lookup hy') (mem_of_lookup hc)⟩
    have A0 : At K (ownOf' fd.scope) s.heap V env (ctxOf (xs.zip Ps)) none V hh := ⟨FR, Le.refl _, fun _ _ e => .inl e, trivial⟩
    refine hT env s.heap V (A.deeper env) esc (hA.deeper env) rfl efr { s with heap := hh, toks := tk } V _ _ A0 (fun _ _ _ _ h => h.elim) fun v h tk V' st r => ?_
    obtain ⟨r1, r2, r3, r4, r5⟩ := r
    exact k v h tk V' ⟨r1, r2, r4, r3⟩ r5
end
end Mine
end
section
open PySem PySem.W PyProof.Rows PySem.SeqAt
set_option Elab.async false
set_option linter.all false
namespace Mine

theorem sliceRange_one {a m : Nat} (h : a ≤ m) : sliceRange (a : Int) (m : Int) 1 = (List.range (m - a)).map (fun k => a + k) := by
  unfold sliceRange
  simp only [show ((1 : Int) > 0) = True from by simp, if_true]
  by_cases hlt : (a : Int) < m
  · have e3 : (((m : Int) - a + 1 - 1) / 1).toNat = m - a := by first | omega | (simp; done) | (simp; omega)
    simp only [hlt, if_true, e3]
    refine List.map_congr_left fun k _ => ?_
    omega
  · have : m - a = 0 := by omega
    simp [hlt, this]
theorem pick_take {α : Type} (xs : List α) (k : Nat) : pickL xs none (some (k : Int)) = xs.take k := by
  unfold pickL sliceBounds
  have h0 : ¬ ((k : Int) < 0) := by omega
  have e : max (0 : Int) (min (k : Int) (xs.length : Int)) = ((min k xs.length : Nat) : Int) := by omega
  simp only [Option.getD_none, show ((1 : Int) > 0) = True from by simp, if_true, h0, if_false, e]
  have := sliceRange_one (a := 0) (m := min k xs.length) (Nat.zero_le _)
  rw [show ((0 : Nat) : Int) = 0 from rfl] at this
  rw [this, StrLaws.picks xs _ 0 (by omega)]
  rw [List.drop_zero, Nat.sub_zero]
  by_cases h : k ≤ xs.length
  · rw [Nat.min_eq_left h]
  · rw [Nat.min_eq_right (by omega), List.take_length, List.take_of_length_le (by omega)]
theorem pick_drop {α : Type} (xs : List α) (k : Nat) : pickL xs (some (k : Int)) none = xs.drop k := by
  unfold pickL sliceBounds
  have h0 : ¬ ((k : Int) < 0) := by omega
  have e : max (0 : Int) (min (k : Int) (xs.length : Int)) = ((min k xs.length : Nat) : Int) := by omega
  simp only [Option.getD_none, show ((1 : Int) > 0) = True from by simp, if_true, h0, if_false, e]
  rw [sliceRange_one (a := min k xs.length) (m := xs.length) (by omega), StrLaws.picks xs _ _ (by omega)]
  by_cases h : k ≤ xs.length
  · rw [Nat.min_eq_left h, ← List.length_drop, List.take_length]
  · rw [Nat.min_eq_right (by omega), List.drop_length, List.drop_of_length_le (by omega)]; simp

/-- the law's last test: the call may raise within, and catches it -/
noncomputable def LastOk (w : World) (A' : Around) (env : Env) (sc : Scope) : Prop :=
  ∀ (ow : Str → Prop) (h₀ : Heap) (V₀ : LG) (Γ : Ctx') (e1 e2 r : Expr) (p cp pos ipos : Pos) (body : List Stmt) (xs ys : List (List Nat)) (t : Bool) (R : Value → As),
    sc.names.lookup (Str.ofString "_compare_args_orderless") = some .globalImplicit → xs.length ≤ 1000 → ys.length ≤ 1000 →
    Et PR w (KK w) A' sc Γ e1 (LS (xs.map st)) → Et PR w (KK w) A' sc Γ e2 (LS (ys.map st)) → Et PR w (KK w) A' sc Γ r (B t) →
    (∀ env, starEach [e1, e2] env = (false, eval e1 env) :: starEach [e2] env) → (∀ env, starEach [e2] env = (false, eval e2 env) :: starEach [] env) → behindInMarks .IsNot r = false → cmpM xs ys = t →
    Tri PR w A' (At (KK w) ow h₀ V₀ env Γ none) (exec (.If (.Compare (.Call (.Name (Str.ofString "_compare_args_orderless") p) [e1, e2] [] cp) [.IsNot] [r] pos) body [] ipos) env) (At (KK w) ow h₀ V₀ env Γ none) R

section
variable {prog : Program} {w : World} {A : Around} {K : Frag} {sc : Scope} {Γ : Ctx'}
theorem et_call1 {x : Str} {p pos : Pos} {a : Addr} {e : Expr} {P R : Sp} (hk : sc.names.lookup x = some .globalImplicit) (hg : nsIn K mainGlobals x = some (some (.ref a))) (hd : (x == ("__debug__" : Str)) = false) (hkeep : keepIn K (.ref a) = true)
    (he : Et prog w K A sc Γ e P) (hse : ∀ env, starEach [e] env = (false, eval e env) :: starEach [] env) (body : ∀ b V vs, Wd K b → Fit V [P] vs → Ev prog w A b V (call (.ref a) vs) R) : Et prog w K A sc Γ (.Call (.Name x p) [e] [] pos) R :=
  et_call (et_glob hk hg hd) (.inl hkeep) (.cons he hse .nil) body
end

section
variable {prog : Program} {w : World} {A : Around} {K : Frag} {sc : Scope} {Γ : Ctx'}
/-- [e for x, y in zip(a, b) if c] -/
theorem et_comp_zip {α : Type} {x y z : Str} {px py pz tp cp pos : Pos} {k : Nat} {es : List Expr} {elt : Expr} {ifs : List Expr} {scope : Scope} (sc' : Scope) {ds : List α} {Q1 Q2 R' : α → Sp} {pp : α → Bool}
    (hh : A.handled = none) (hz : Et prog w K A sc Γ (.Name z pz) (Vl (.type "zip"))) (he : Ets prog w K A sc Γ es [L (ds.map Q1), L (ds.map Q2)]) (hlz : ds.length ≤ 1000)
    (hx : scope.names.lookup x = some .local ∨ scope.names.lookup x = some .cell) (hy : scope.names.lookup y = some .local ∨ scope.names.lookup y = some .cell) (hxy : x ≠ y)
    (ts : ∀ d ∈ ds, TsT prog w K A sc' (upd (upd (cutΓ scope Γ) x (Q1 d)) y (Q2 d)) ifs (pp d)) (el : ∀ d ∈ ds, pp d = true → Et prog w K A sc' (upd (upd (cutΓ scope Γ) x (Q1 d)) y (Q2 d)) elt (R' d))
    (ok : compOk scope sc = true) (hsc' : relS scope sc = sc') (hf : ∀ env x, foldedSetIterable (.Call (.Name z pz) es [] cp) env x = pure x) :
    Et prog w K A sc Γ (.ListComp elt [⟨.Tuple [.Name x px, .Name y py] k tp, .Call (.Name z pz) es [] cp, ifs, 0⟩] scope pos) (L ((ds.filter pp).map R')) := by
  have hflat : (List.range (ds.map Q1).length).flatMap (fun i => if ds[i]?.elim false pp then [ds[i]?.elim Any R'] else []) = (ds.filter pp).map R' := by
    rw [List.length_map, flat_range (fun o => if o.elim false pp then [o.elim Any R'] else []) ds]
    exact flat_filter pp R' ds
  have hi : ∀ i, i < (ds.map Q1).length → ∃ d, ds[i]? = some d ∧ d ∈ ds ∧ (ds.map Q1).getD i Any = Q1 d ∧ (ds.map Q2).getD i Any = Q2 d := fun i hi => by
    have hi' : i < ds.length := by simpa using hi
    exact ⟨ds[i], by simp [hi'], List.getElem_mem hi', by simp [List.getD_eq_getElem?_getD, hi'], by simp [List.getD_eq_getElem?_getD, hi']⟩
  rw [← hflat]
  refine et_compG sc' (srcD_zip2 hh hz he (by simp) (fun _ _ _ _ _ => trivial) hx hy hxy) (rest := fun cenv D => do let x ← eval elt cenv; let _ ← call (.builtin "list.append") [.ref D, x]) (p := fun i => ds[i]?.elim false pp) (F := fun i => [ds[i]?.elim Any R']) (fun _ _ _ => by rfl) (fun i h => ?_) (fun ow b₀ V₀ D cenv hcs hD hk i h hp => ?_) ?_ ok hsc' hf
  · obtain ⟨d, e1, e2, e3, e4⟩ := hi i h
    rw [e1, e3, e4]
    exact ts d e2
  · obtain ⟨d, e1, e2, e3, e4⟩ := hi i h
    rw [e1] at hp
    rw [e1, e3, e4]
    exact em_elt hcs hD (el d e2 hp)
  · rw [hflat, List.length_map]
    have := List.length_filter_le pp ds
    omega
end
section
variable {w : World}
set_option pp.deepTerms false in
set_option pp.deepTerms.threshold 8 in
set_option maxRecDepth 100000 in
set_option maxHeartbeats 4000000 in
theorem law_ok {scr : List Int} {x0 : Int} {xs : List Int} (hscr : scr.length ≤ 63) (hnums : numsM scr = x0 :: xs) (hl4 : xs.length = 4) (hx0 : 0 ≤ x0 ∧ x0 < 10 ^ 9) (hxs : ∀ x ∈ xs, 0 ≤ x ∧ x < 10 ^ 9) (facts : LawFacts x0 xs) (A : Around)
    (hlast : ∀ A' env sc, env.scope = sc → OkA 5 A' → A' = A.deeper env → env.frame = some env.locals → LastOk w A' env sc)
    (b : Heap) (V : LG) (vs : List Value) (hA : OkA 6 A) (hW : Wd (KK w) b) (hfit : Fit V [LI scr] vs) :
    Ev PR w A b V (call (.ref 128) vs) (B true) := by
  refine con_entryF (d := 5) (a := 128) (o := ?o) (fd := ?fd) (body := ?body) (sc := ?sc) (xs := [Str.ofString "script"]) (Ps := [LI scr]) (R := B true) (K := KK w) ?hK ?hd ?hb ?hs ?hc ?hcl ?hgl ?hbu ?hst rfl ?hbind ?hT b V vs hA hW hfit
  case hK => rfl
  case hd => rfl
  case hb => rfl
  case hs => (dsimp only; rfl)
  case hc => rfl
  case hcl => rfl
  case hgl => rfl
  case hbu => rfl
  case hst => decide +kernel
  case hbind => intro vals hv; obtain ⟨v, rfl⟩ := len1 hv rfl; rfl
  case hT =>
    intro env h₀ V₀ A' hsc hA' hAe hfe
    have hLast := hlast A' env _ hsc hA' hAe hfe
    -- numbers
    have hnl : (numsM scr).length = 5 := by rw [hnums, List.length_cons, hl4]
    have hps := prs_tab x0
    have hpl := prs_len x0
    -- numbers
    have hlst : pickL (pickL (scr.map I) none (some (5 : Nat)) ++ ([7, 0, 3, 5, 24] : List Int).map I) none (some (5 : Nat)) = ((scr.take 5 ++ [7, 0, 3, 5, 24]).take 5).map I := by
      rw [pick_take, pick_take, ← List.map_take, ← List.map_append, ← List.map_take]
    have hsm : scr.length ≤ sizeLine := by rw [sizeLine_eq]; omega
    refine tri_cons (tri_assign_comp (x := Str.ofString "x") _ hsc (ds := (scr.take 5 ++ [7, 0, 3, 5, 24]).take 5) (Qf := I) (R' := fun x => I (x.fmod (10 ^ 9))) (p := fun _ => true)
      (src_list hA'.handled (et_castL hlst (et_slice_list (et_add_list (et_slice_list (et_name rfl) part_none (part_some et_int) (by rw [List.length_map]; exact hsm)) (et_list (.cons et_int (fun _ => rfl) (.cons et_int (fun _ => rfl) (.cons et_int (fun _ => rfl) (.cons et_int (fun _ => rfl) (.cons et_int (fun _ => rfl) .nil))))) (by rw [sizeLine_eq]; exact (by decide : 5 ≤ 16777216))) ?_) part_none (part_some et_int) ?_)))
      (by first | (simp; done) | (simp; omega)) (fun _ _ => ts_nil) (fun x _ _ => et_mod_int (et_name rfl) (et_castI (by rfl) (et_pow_int (j := 9) et_int et_int (by decide) (by decide) (by decide) (by decide +kernel))) (by decide)) rfl (fun env h => by unfold swapsWith Env.blockKind Env.kindOf; rw [h]; rfl)) ?_
    · rw [show (some (5 : Int)) = some ((5 : Nat) : Int) from rfl, pick_take, sizeLine_eq]; simp; omega
    · rw [show (some (5 : Int)) = some ((5 : Nat) : Int) from rfl, pick_take, sizeLine_eq]; simp; omega
    have e1 : (((scr.take 5 ++ [7, 0, 3, 5, 24]).take 5).filter fun _ => true).map (fun x : Int => I (x.fmod (10 ^ 9))) = (x0 :: xs).map I := by
      rw [filter_tt', ← hnums]; unfold numsM; rw [List.map_map]; rfl
    rw [e1]
    -- pairs
    refine tri_cons (tri_assign (P := PRS (prs x0)) hsc (et_call1 rfl rfl (by decide +kernel) rfl (et_item (P := I x0) (et_name rfl) et_int (by decide) rfl (by decide)) (fun _ => rfl) fun b V vs W f => pairs_ok hx0.1 (by omega) A' b V vs (hA'.less (by omega)) W f) (.inr ⟨rfl, rfl⟩) (by intro _ _; rfl)) ?_
    generalize hps0 : prs x0 = ps at facts hps hpl ⊢
    -- drawn
    have hdrop : pickL ((x0 :: xs).map I) (some (1 : Nat)) none = xs.map I := by rw [pick_drop, ← List.map_drop]; rfl
    refine tri_cons (tri_assign_comp (x := Str.ofString "x") _ hsc (ds := xs) (Qf := I) (R' := fun x => S (st (drawM ps x))) (p := fun _ => true)
      (src_list hA'.handled (et_castL hdrop (et_slice_list (et_name rfl) (part_some et_int) part_none (by rw [sizeLine_eq]; simp; omega)))) (by omega) (fun _ _ => ts_nil) (fun x hx _ => ?_) rfl (fun env h => by unfold swapsWith Env.blockKind Env.kindOf; rw [h]; rfl)) ?_
    · obtain ⟨hx1, hx2⟩ := hxs x hx
      have hfl : ((List.range 5).map fun p => if bitN x p = 0 then [(ps.getD p (0, 0)).1] else [(ps.getD p (0, 0)).2]).flatten = drawM ps x := by
        unfold drawM
        generalize List.range 5 = l
        induction l with
        | nil => rfl
        | cons p r ih => rw [List.map_cons, List.flatten_cons, ih, List.map_cons]; split <;> rfl
      rw [← hfl]
      refine et_cast (join_st _) (et_method (P := S (st [])) (Ps := [LS (((List.range 5).map fun p => if bitN x p = 0 then [(ps.getD p (0, 0)).1] else [(ps.getD p (0, 0)).2]).map st)]) (et_str' nil_st) PySem.F.slot_str_join PySem.F.plainAttrs_str PySem.F.type_str_join typeIs_S dict_S (.cons ?_ (fun _ => rfl) .nil)
        (fun b V v vs W p f => join_body (joinOk_st _ 1 (fun y hy => ?_) (by simp)) b V v vs p f) (fun _ _ => rfl) (by decide) rfl)
      · have eL : (((List.range 5).map fun p => if bitN x p = 0 then [(ps.getD p (0, 0)).1] else [(ps.getD p (0, 0)).2]).map st).map S = ((List.range 5).filter fun _ => true).map fun p => S (st (if bitN x p = 0 then [(ps.getD p (0, 0)).1] else [(ps.getD p (0, 0)).2])) := by
          rw [filter_tt', List.map_map, List.map_map]; rfl
        refine et_castL eL.symm (et_comp _ (Qf := fun (p : Nat) => I p) (src_range hA'.handled (et_range rfl rfl et_int) (by decide) (by decide)) (by decide) (fun _ _ => ts_nil) fun p hp _ => ?_)
        have hp5 : p < 5 := by simpa using hp
        have hq : (ps.map PR1)[((p : Nat) : Int).toNat]? = some (L [S (st [(ps.getD p (0, 0)).1]), S (st [(ps.getD p (0, 0)).2])]) := by
          rw [Int.toNat_natCast, List.getElem?_map, List.getElem?_eq_getElem (by omega), List.getD_eq_getElem?_getD, List.getElem?_eq_getElem (by omega)]; rfl
        have h2p : (0 : Int) < 2 ^ p := Int.pow_pos (by decide)
        have h2l : (2 : Int) ^ p ≤ 16 := by
          have : p = 0 ∨ p = 1 ∨ p = 2 ∨ p = 3 ∨ p = 4 := by omega
          rcases this with rfl | rfl | rfl | rfl | rfl <;> decide
        have hm0 : 0 ≤ (x.fdiv (2 ^ p)).fmod 2 := Int.fmod_nonneg_of_pos _ (by decide)
        have hm1 : (x.fdiv (2 ^ p)).fmod 2 < 2 := Int.fmod_lt_of_pos _ (by decide)
        have hbits : Builtin.Int.intBits 2 = 2 := by decide +kernel
        refine et_item (et_item (et_name rfl) (et_name rfl) (by omega) hq (by omega)) (et_mod_int (i := x.fdiv (2 ^ p)) (et_fdiv_int (et_name rfl) (et_castI (by rw [Int.toNat_natCast]) (et_pow_int (j := (p : Int)) et_int (et_name rfl) (by omega) (by omega) (by decide) (by rw [hbits]; omega))) (by omega) (PyProof.noPylong_small (by omega))) et_int (by decide)) hm0 ?_ (by omega)
        by_cases hb : bitN x p = 0
        · rw [if_pos hb]
          have : (x.fdiv (2 ^ p)).fmod 2 = 0 := by unfold bitN at hb; omega
          rw [this]; rfl
        · rw [if_neg hb]
          have : (x.fdiv (2 ^ p)).fmod 2 = 1 := by unfold bitN at hb; omega
          rw [this]; rfl
      · obtain ⟨p, _, rfl⟩ := List.mem_map.mp hy
        split <;> simp
    have e2 : (xs.filter fun _ => true).map (fun x => S (st (drawM ps x))) = ((xs.map (drawM ps)).map st).map S := by
      rw [filter_tt', List.map_map, List.map_map]; rfl
    rw [e2]
    have facts' : LawFacts x0 xs := facts
    obtain ⟨fp, fs, fc⟩ := facts
    rw [hps0] at fp fs fc
    have hdg : ∀ n ∈ xs.map (drawM ps), Good n := fun n hn => by
      obtain ⟨x, _, rfl⟩ := List.mem_map.mp hn
      exact draw_good hpl hps x
    have hdl : (xs.map (drawM ps)).length = 4 := by rw [List.length_map, hl4]
    generalize xs.map (drawM ps) = d at hdg hdl fp fs fc ⊢
    have goodL : ∀ {l : List (List Nat)}, (∀ n ∈ l, Good n) → (∀ n ∈ l, n.length = 5) ∧ (∀ n ∈ l, ∀ c ∈ n, c < 128) := fun h => ⟨fun n hn => (h n hn).1, fun n hn c hc => (tab_cases c ((h n hn).2 c hc)).1⟩
    -- half
    have hm1 := middles_len (ns := d) (B := 4) (by omega)
    have ht4 : tet 4 = 4 := rfl
    have ht8 : tet 8 = 56 := rfl
    have hmg := middles_good hdg
    have eh : ((d.map st).map S ++ ((middles d).map st).map S) = ((d ++ middles d).map st).map S := by rw [List.map_append, List.map_append]
    refine tri_ctx (l := [(Str.ofString "pairs", PRS ps), (Str.ofString "drawn", LS (d.map st))]) ⟨rfl, rfl, trivial⟩ ?_
    refine tri_cons (tri_assign (P := LS ((halfM d).map st)) hsc (et_call1 (P := LS ((d ++ middles d).map st)) rfl rfl (by decide +kernel) rfl
      (et_castL eh (et_add_list (et_name rfl) (et_call1 (P := LS (d.map st)) rfl rfl (by decide +kernel) rfl (et_name rfl) (fun _ => rfl) fun b V vs W f => middles_ok (L0 := 5) (by omega) (goodL hdg).1 (by decide) (goodL hdg).2 A' b V vs (hA'.less (by omega)) W f) (by rw [sizeLine_eq]; simp; omega))) (fun _ => rfl)
      fun b V vs W f => ?_) (.inl rfl) (by intro _ _; rfl)) ?_
    · have := dedup_ok (xs := (d ++ middles d).map st) (by simp; omega) A' b V vs (hA'.less (by omega)) W f
      rw [dd_st] at this
      exact this
    have hhl : (halfM d).length ≤ 8 := by
      have := ddG_len (d ++ middles d)
      unfold halfM
      rw [List.length_append] at this; omega
    have hhg : ∀ n ∈ halfM d, Good n := fun n hn => by
      rcases List.mem_append.mp ((mem_ddG _ n).mp hn) with q | q
      · exact hdg n q
      · exact hmg n q
    -- told
    have hm2 := middles_len hhl
    have hmg2 := middles_good hhg
    have et : (((halfM d).map st).map S ++ ((middles (halfM d)).map st).map S) = ((toldM d).map st).map S := by unfold toldM; rw [List.map_append, List.map_append]
    refine tri_cons (tri_assign (P := LS ((toldM d).map st)) hsc (et_castL et (et_add_list (et_name rfl) (et_call1 (P := LS ((halfM d).map st)) rfl rfl (by decide +kernel) rfl (et_name rfl) (fun _ => rfl) fun b V vs W f => middles_ok (L0 := 5) (by omega) (goodL hhg).1 (by decide) (goodL hhg).2 A' b V vs (hA'.less (by omega)) W f) (by rw [sizeLine_eq]; simp; omega))) (.inl rfl) (by intro _ _; rfl)) ?_
    have htl : (toldM d).length ≤ 64 := by unfold toldM; rw [List.length_append]; omega
    have htg : ∀ n ∈ toldM d, Good n := fun n hn => by
      rcases List.mem_append.mp hn with q | q
      · exact hhg n q
      · exact hmg2 n q
    -- names
    refine tri_cons (tri_assign (P := LS ((ddG (toldM d)).map st)) hsc (et_call1 (P := LS ((toldM d).map st)) rfl rfl (by decide +kernel) rfl (et_name rfl) (fun _ => rfl) fun b V vs W f => ?_) (.inr ⟨rfl, rfl⟩) (by intro _ _; rfl)) ?_
    · have := dedup_ok (xs := (toldM d).map st) (by simp; omega) A' b V vs (hA'.less (by omega)) W f
      rw [dd_st] at this
      exact this
    have hnl2 : (ddG (toldM d)).length ≤ 64 := Nat.le_trans (ddG_len _) htl
    have hng : ∀ n ∈ ddG (toldM d), Good n := fun n hn => htg n ((mem_ddG _ n).mp hn)
    have hfacts2 := fs
    have hfc2 := fc
    generalize hns : ddG (toldM d) = ns at hnl2 hng fp fs fc ⊢
    -- faces
    refine tri_cons (tri_assign (P := LS ((facesM ns ps).map st)) hsc (et_call (Ps := [LS (ns.map st), PRS ps]) (et_glob rfl rfl) (.inl rfl) (.cons (et_name rfl) (fun _ => rfl) (.cons (et_name rfl) (fun _ => rfl) .nil)) fun b V vs W f => faces_ok (by omega) (goodL hng).1 (fun n hn => (hng n hn).2) hpl hps A' b V vs (hA'.less (by omega)) W f) (by first | exact .inl rfl | exact .inr ⟨rfl, rfl⟩) (by intro _ _; rfl)) ?_
    have hfl : (facesM ns ps).length ≤ 2048 := by
      have := facesPre_len ns ps ns.length
      have e : facesPre ns ps ns.length = facesM ns ps := by unfold facesPre facesM; rw [List.take_length]
      rw [e] at this; omega
    have hfg : ∀ f ∈ facesM ns ps, f.length = 5 ∧ ∀ c ∈ f, c ∈ ab := fun f hf => by
      unfold facesM at hf
      obtain ⟨n, hn, hf⟩ := List.mem_flatMap.mp hf
      exact patsM_mem (ns := ns) (hng n hn).2 hps 5 (by rw [(hng n hn).1]; exact Nat.le_refl 5) (by omega) f (List.mem_filter.mp hf).1
    generalize hfaces : facesM ns ps = faces at hfl hfg fp fs fc ⊢
    -- points
    refine tri_cons (tri_assign_comp (x := Str.ofString "face") _ hsc (ds := faces) (Qf := fun f => S (st f)) (R' := fun f => S (st f)) (p := fun f => quo f == f) (src_list hA'.handled (et_ls (et_name rfl))) (by omega)
      (fun f hf => ts_one (tt_eqv (cmpS_st (quo f) f) (tt_cmp_str (op := .Eq) (et_call1 (P := S (st f)) rfl rfl (by decide +kernel) rfl (et_name rfl) (fun _ => rfl) fun b V vs W fit => quote_ok (fun q => by have := (hfg f hf).1; rw [q] at this; cases this) (by have := (hfg f hf).1; omega) (hfg f hf).2 A' b V vs (hA'.less (by omega)) W fit) (et_name rfl)))) (fun f _ _ => et_name rfl) rfl (fun env h => by unfold swapsWith Env.blockKind Env.kindOf; rw [h]; rfl)) ?_
    have e3 : ((faces.filter fun f => quo f == f).map fun f => S (st f)) = ((faces.filter fun f => quo f == f).map st).map S := by rw [List.map_map]; rfl
    rw [e3]
    have hpl2 : (faces.filter fun f => quo f == f).length ≤ 2048 := Nat.le_trans (List.length_filter_le _ _) hfl
    generalize hpts : (faces.filter fun f => quo f == f) = pts at fp hpl2 ⊢
    have hmem1 : ∀ x ∈ pts.map st, x ∈ (toldM d).map st := fun x hx => by
      obtain ⟨f, hf, rfl⟩ := List.mem_map.mp hx
      exact List.mem_map.mpr ⟨f, (fp f).mp hf, rfl⟩
    have hmem2 : ∀ x ∈ (toldM d).map st, x ∈ pts.map st := fun x hx => by
      obtain ⟨f, hf, rfl⟩ := List.mem_map.mp hx
      exact List.mem_map.mpr ⟨f, (fp f).mpr hf, rfl⟩
    -- the first test
    have cmpE : ∀ (xs ys : List (List Nat)), xs.length ≤ 10000 → ys.length ≤ 10000 → (∀ x ∈ xs.map st, x ∈ ys.map st) → (∀ x ∈ ys.map st, x ∈ xs.map st) → ∀ b V vs, Wd (KK w) b → Fit V [LS (xs.map st), LS (ys.map st)] vs → Ev PR w A' b V (call (.ref 45) vs) (B true) := by
      intro xs ys h1 h2 h3 h4 b V vs W f
      have := compare_ok (xs := xs.map st) (ys := ys.map st) (by simp; omega) (by simp; omega) (cmp_go h3) A' b V vs (hA'.less (by omega)) W f
      rw [cmp_val, decide_eq_true h4] at this
      exact this
    have isT : ∀ (V : LG) (v1 v2 : Value), (B true).p V v1 → (B true).p V v2 → plainIs v1 v2 = true ∧ (v1 == v2) = true := fun V v1 v2 h1 h2 => by
      have h1' : v1 = .bool true := h1
      have h2' : v2 = .bool true := h2
      subst h1' h2'
      exact ⟨rfl, rfl⟩
    refine tri_ctx (l := [(Str.ofString "pairs", PRS ps), (Str.ofString "told", LS ((toldM d).map st)), (Str.ofString "names", LS (ns.map st)), (Str.ofString "faces", LS (faces.map st)), (Str.ofString "points", LS (pts.map st))]) ⟨rfl, rfl, rfl, rfl, rfl, trivial⟩ ?_
    refine tri_if_ret (t := (!true) || (!true)) ok_at (tta hsc (tt_or (tt_isnot (et_call (Ps := [LS (pts.map st), LS ((toldM d).map st)]) (et_glob rfl rfl) (.inl rfl) (.cons (et_name rfl) (fun _ => rfl) (.cons (et_name rfl) (fun _ => rfl) .nil)) fun b V vs W f => cmpE pts (toldM d) (by omega) (by omega) hmem1 hmem2 b V vs W f) et_bool isT)
      fun _ => tt_or1 (tt_isnot (et_call (Ps := [LS ((toldM d).map st), LS (pts.map st)]) (et_glob rfl rfl) (.inl rfl) (.cons (et_name rfl) (fun _ => rfl) (.cons (et_name rfl) (fun _ => rfl) .nil)) fun b V vs W f => cmpE (toldM d) pts (by omega) (by omega) hmem2 hmem1 b V vs W f) et_bool isT))) (fun ht => by cases ht) fun _ => ?_
    -- likes
    have hsub : ∀ (ls : List (List Nat)) (n : List Nat) (p : Nat), p < 5 → n.length = 5 → n[((p : Nat) : Int).toNat]? = some (n.getD p 0) := fun ls n p hp hn => by
      rw [Int.toNat_natCast, List.getD_eq_getElem?_getD, List.getElem?_eq_getElem (by omega)]; rfl
    have hns0 : 0 < ns.length := by
      have h1 : d.getD 0 [] ∈ d := getD_mem' (by omega)
      have h2 : d.getD 0 [] ∈ ns := by
        rw [← hns, mem_ddG]
        unfold toldM
        refine List.mem_append_left _ ?_
        unfold halfM
        rw [mem_ddG]
        exact List.mem_append_left _ h1
      exact List.length_pos_of_mem h2
    have hn0 : ((ns.map st).map S)[((0 : Nat) : Int).toNat]? = some (S (st (ns.getD 0 []))) := by
      rw [Int.toNat_natCast, List.map_map, List.getElem?_map, List.getElem?_eq_getElem hns0, List.getD_eq_getElem?_getD, List.getElem?_eq_getElem hns0]; rfl
    have hg0 : Good (ns.getD 0 []) := hng _ (getD_mem' hns0)
    refine tri_cons (tri_assign (P := L ((likesM ns).map LB)) hsc ?_ (by first | exact .inl rfl | exact .inr ⟨rfl, rfl⟩) (fun env h => by unfold swapsWith Env.blockKind Env.kindOf; rw [h]; rfl)) ?_
    · have e : (likesM ns).map LB = ((List.range 5).filter fun _ => true).map fun p => LB (ns.map fun n => n.getD p 0 == (ns.getD 0 []).getD p 0) := by
        rw [filter_tt']; unfold likesM; rw [List.map_map]; rfl
      refine et_castL e.symm (et_comp _ (Qf := fun (p : Nat) => I p) (src_range hA'.handled (et_range rfl rfl et_int) (by decide) (by decide)) (by decide) (fun _ _ => ts_nil) fun p hp _ => ?_)
      have hp5 : p < 5 := by simpa using hp
      have e2 : (ns.map fun n => n.getD p 0 == (ns.getD 0 []).getD p 0).map B = (ns.filter fun _ => true).map fun n => B (n.getD p 0 == (ns.getD 0 []).getD p 0) := by
        rw [filter_tt', List.map_map]; rfl
      refine et_castL e2.symm (et_comp _ (Qf := fun n => S (st n)) (src_list hA'.handled (et_ls (et_name rfl))) (by omega) (fun _ _ => ts_nil) fun n hn _ => ?_)
      refine et_castB ?_ (et_cmp_str (op := .Eq) (et_sign (et_name rfl) (et_name rfl) (by omega) (by omega) (hsub ns n p hp5 (hng n hn).1)) (et_sign (et_item (et_name rfl) et_int (by decide) hn0 (by decide)) (et_name rfl) (by omega) (by omega) (hsub ns _ p hp5 hg0.1)))
      rw [cmpS_st, Bool.eq_iff_iff]; simp
    -- twins
    have hll : (likesM ns).length = 5 := by unfold likesM; simp
    have hlb : ∀ l ∈ likesM ns, l.length = ns.length := fun l hl => by
      unfold likesM at hl
      obtain ⟨p, _, rfl⟩ := List.mem_map.mp hl
      simp
    refine tri_cons (tri_assign (P := L ((twinsM ns).map fun (p : Nat) => I p)) hsc ?_ (by first | exact .inl rfl | exact .inr ⟨rfl, rfl⟩) (fun env h => by unfold swapsWith Env.blockKind Env.kindOf; rw [h]; rfl)) ?_
    · unfold twinsM
      refine et_comp _ (Qf := fun (p : Nat) => I p) (src_range hA'.handled (et_range rfl rfl et_int) (by decide) (by decide)) (by decide) (fun p hp => ts_one ?_) fun p hp _ => et_name rfl
      have hp5 : p < 5 := by simpa using hp
      have hlp : ((likesM ns).map LB)[((p : Nat) : Int).toNat]? = some (LB ((likesM ns).getD p [])) := by
        rw [Int.toNat_natCast, List.getElem?_map, List.getD_eq_getElem?_getD, List.getElem?_eq_getElem (by omega)]; rfl
      have hlm : (likesM ns).getD p [] ∈ likesM ns := getD_mem' (by omega)
      refine tt_eqv ?_ (tt_cmp_int (op := .Gt) (i := ((likesM ns).count ((likesM ns).getD p []) : Nat)) (et_method (P := L ((likesM ns).map LB)) (Ps := [LB ((likesM ns).getD p [])]) (et_name rfl) F.slot_list_count F.plainAttrs_list F.type_list_count typeIs_L dict_L (.cons (et_item (et_name rfl) (et_name rfl) (by omega) hlp (by omega)) (fun _ => rfl) .nil)
        (fun b V v vs W p f => count_list_body (by have := hA'.cl; omega) (fun l hl => (hlb l hl).trans (hlb _ hlm).symm) b V v vs p f) (fun _ _ => rfl) (by decide) rfl) et_int)
      show decide ((1 : Int) < _) = decide (1 < _)
      rw [decide_eq_decide]; omega
    -- rows
    have htw : ∀ p ∈ twinsM ns, p < 5 := fun p hp => by
      unfold twinsM at hp
      simpa using (List.mem_filter.mp hp).1
    have htwl : (twinsM ns).length ≤ 5 := by
      unfold twinsM
      exact Nat.le_trans (List.length_filter_le _ _) (by simp)
    refine tri_cons (tri_assign (P := LS ((ns.map (rowM ns)).map st)) hsc ?_ (by first | exact .inl rfl | exact .inr ⟨rfl, rfl⟩) (fun env h => by unfold swapsWith Env.blockKind Env.kindOf; rw [h]; rfl)) ?_
    · have e : ((ns.map (rowM ns)).map st).map S = (ns.filter fun _ => true).map fun n => S (st (rowM ns n)) := by
        rw [filter_tt', List.map_map, List.map_map]; rfl
      refine et_castL e.symm (et_comp _ (Qf := fun n => S (st n)) (src_list hA'.handled (et_ls (et_name rfl))) (by omega) (fun _ _ => ts_nil) fun n hn _ => ?_)
      have hrow : ((twinsM ns).map fun p => [n.getD p 0]).flatten = rowM ns n := by
        have := flatten_single (rowM ns n)
        unfold rowM at this ⊢
        rw [List.map_map] at this
        exact this
      rw [← hrow]
      have eL : (((twinsM ns).map fun p => [n.getD p 0]).map st).map S = ((twinsM ns).filter fun _ => true).map fun p => S (st [n.getD p 0]) := by
        rw [filter_tt', List.map_map, List.map_map]; rfl
      refine et_cast (join_st _) (et_method (P := S (st [])) (Ps := [LS (((twinsM ns).map fun p => [n.getD p 0]).map st)]) (et_str' nil_st) PySem.F.slot_str_join PySem.F.plainAttrs_str PySem.F.type_str_join typeIs_S dict_S
        (.cons (et_castL eL.symm (et_comp _ (Qf := fun (p : Nat) => I p) (src_list hA'.handled (et_name rfl)) (by omega) (fun _ _ => ts_nil) fun p hp _ => et_sign (et_name rfl) (et_name rfl) (by omega) (by have := htw p hp; omega) (hsub ns n p (htw p hp) (hng n hn).1))) (fun _ => rfl) .nil)
        (fun b V v vs W p f => join_body (joinOk_st _ 1 (fun y hy => ?_) (by simp; omega)) b V v vs p f) (fun _ _ => rfl) (by decide) rfl)
      obtain ⟨p, _, rfl⟩ := List.mem_map.mp hy
      simp
    -- the places
    refine tri_cons (tri_for (ds := List.range (5 : Int).toNat) (Qf := fun (p : Nat) => I p) (fun _ => ctxOf [(Str.ofString "pairs", PRS ps), (Str.ofString "names", LS (ns.map st)), (Str.ofString "faces", LS (faces.map st)), (Str.ofString "rows", LS ((ns.map (rowM ns)).map st))]) (fun _ => none) hsc
      (src_range hA'.handled (et_range rfl rfl et_int) (by decide) (by decide)) (by first | exact .inl rfl | exact .inr ⟨rfl, rfl⟩) (Has.sub ⟨rfl, rfl, rfl, rfl, trivial⟩) rfl ?place) ?fin
    case fin => exact tri_cons (tri_return hsc et_bool) tri_nil
    case place =>
      intro p p' hp
      obtain ⟨hp5, rfl⟩ : p < 5 ∧ p' = p := by
        obtain ⟨h1, h2⟩ := List.getElem?_eq_some_iff.mp hp
        have h1' : p < 5 := by simpa using h1
        exact ⟨h1', by rw [← h2, List.getElem_range]⟩
      have hq : (ps.map PR1)[((p' : Nat) : Int).toNat]? = some (L [S (st [(ps.getD p' (0, 0)).1]), S (st [(ps.getD p' (0, 0)).2])]) := by
        rw [Int.toNat_natCast, List.getElem?_map, List.getElem?_eq_getElem (by omega), List.getD_eq_getElem?_getD, List.getElem?_eq_getElem (by omega)]; rfl
      have fs1 := fs p' hp5 ns rfl (ps.getD p' (0, 0)) rfl _ _ rfl rfl
      have fc1 := fc p' hp5 ns rfl (ps.getD p' (0, 0)) rfl _ _ rfl rfl
      generalize ps.getD p' (0, 0) = q at hq fs1 fc1
      rw [hfaces] at fs1
      refine tri_cons (tri_newown hsc (by first | exact .inl rfl | exact .inr ⟨rfl, rfl⟩)) (tri_ex fun a => ?_)
      refine tri_cons (tri_for (ds := [q.1, q.2, 63]) (Qf := fun c => S (st [c])) (fun _ => ctxOf [(Str.ofString "pairs", PRS ps), (Str.ofString "names", LS (ns.map st)), (Str.ofString "faces", LS (faces.map st)), (Str.ofString "rows", LS ((ns.map (rowM ns)).map st)), (Str.ofString "place", I p'), (Str.ofString "sums", Vl (.ref a))])
        (fun i => some (a, ((([q.1, q.2, 63] : List Nat).take i).map (sumM faces p')).map I)) hsc (src_list hA'.handled (et_castL (Ps := [S (st [q.1]), S (st [q.2])] ++ [S (st [63])]) rfl (et_add_list (et_item (et_name rfl) (et_name rfl) (by omega) hq (by omega)) (et_list (.cons (et_str' qm_st) (fun _ => rfl) .nil) (by rw [sizeLine_eq]; exact (by decide : 1 ≤ 16777216))) (by rw [sizeLine_eq]; exact (by decide : 3 ≤ 16777216)))))
        (by first | exact .inl rfl | exact .inr ⟨rfl, rfl⟩) (Has.sub ⟨rfl, rfl, rfl, rfl, rfl, rfl, trivial⟩) rfl ?turnS) ?restS
      case turnS =>
        intro i c hc
        have hnext : ((([q.1, q.2, 63] : List Nat).take (i + 1)).map (sumM faces p')).map I = ((([q.1, q.2, 63] : List Nat).take i).map (sumM faces p')).map I ++ [I (sumM faces p' c)] := by
          rw [List.take_add_one, hc]; simp
        rw [hnext]
        refine tri_cons (tri_append hsc rfl (et_call (Ps := [LI ((faces.filter fun f => f.getD p' 0 == c).map sgnM)]) (et_globb (v := .builtin "sum") rfl rfl (by decide +kernel)) (.inr (.inl ⟨_, rfl⟩)) (.cons ?_ (fun _ => rfl) .nil) fun b V vs _ f => sum_body hA'.handled b V vs f) (fun _ => rfl) ?_ rfl) (tri_end (l := [(Str.ofString "pairs", PRS ps), (Str.ofString "names", LS (ns.map st)), (Str.ofString "faces", LS (faces.map st)), (Str.ofString "rows", LS ((ns.map (rowM ns)).map st)), (Str.ofString "place", I p'), (Str.ofString "sums", Vl (.ref a))]) ⟨rfl, rfl, rfl, rfl, rfl, rfl, trivial⟩)
        · have e : ((faces.filter fun f => f.getD p' 0 == c).map sgnM).map I = (faces.filter fun f => f.getD p' 0 == c).map fun f => I (sgnM f) := by rw [List.map_map]; rfl
          refine et_castL e.symm (et_comp _ (Qf := fun f => S (st f)) (src_list hA'.handled (et_ls (et_name rfl))) (by omega) (fun f hf => ts_one ?_) fun f hf _ => ?_)
          · have h5 := (hfg f hf).1
            refine tt_eqv ?_ (tt_cmp_str (op := .Eq) (et_sign (et_name rfl) (et_name rfl) (by omega) (by omega) (hsub faces f p' hp5 h5)) (et_name rfl))
            rw [cmpS_st, Bool.eq_iff_iff]; simp
          · refine et_sub_int et_int (et_mul_int (i := 2) et_int (et_mod_int (i := ((f.count 63 : Nat) : Int)) (et_castI ?_ (et_method (P := S (st f)) (Ps := [S (st [63])]) (et_name rfl) PySem.F.slot_str_count PySem.F.plainAttrs_str PySem.F.type_str_count typeIs_S dict_S (.cons (et_str' qm_st) (fun _ => rfl) .nil) (fun b V v vs W p f => count_body b V v vs p f) (fun _ _ => rfl) (by decide) rfl)) et_int (by decide)) (IntMulOk.of_left (by decide)))
            rw [occ_count]
        · simp; omega
      rw [show ([q.1, q.2, 63] : List Nat).length = 3 from rfl, show (([q.1, q.2, 63] : List Nat).take 3) = [q.1, q.2, 63] from rfl]
      refine tri_freeze (x := Str.ofString "sums") rfl ?_
      -- sides
      refine tri_cons (tri_assign_comp (x := Str.ofString "sign") _ hsc (ds := [q.1, q.2]) (Qf := fun c => S (st [c])) (R' := fun c => LS ((sideM ns p' c).map st)) (p := fun _ => true) (src_list hA'.handled (et_item (et_name rfl) (et_name rfl) (by omega) hq (by omega))) (by simp) (fun _ _ => ts_nil) (fun c _ _ => ?_) rfl (fun env h => by unfold swapsWith Env.blockKind Env.kindOf; rw [h]; rfl)) ?_
      · have e : ((sideM ns p' c).map st).map S = (ns.filter fun n => n.getD p' 0 == c).map fun n => S (st (rowM ns n)) := by
          unfold sideM; rw [List.map_map, List.map_map]; rfl
        have er : LS ((ns.map (rowM ns)).map st) = L (ns.map fun n => S (st (rowM ns n))) := by rw [ls_eq, List.map_map]; rfl
        refine et_castL e.symm (et_comp_zip (x := Str.ofString "name") (y := Str.ofString "row") _ (ds := ns) (Q1 := fun n => S (st n)) (Q2 := fun n => S (st (rowM ns n))) hA'.handled (et_globb rfl rfl (by decide +kernel)) (.cons (et_ls (et_name rfl)) (fun _ => rfl) (.cons (er ▸ et_name rfl) (fun _ => rfl) .nil)) (by omega) (by decide +kernel) (by decide +kernel) (by decide +kernel)
          (fun n hn => ts_one ?_) (fun n hn _ => et_name rfl) (by decide +kernel) rfl (by intro _ _; rfl))
        refine tt_eqv ?_ (tt_cmp_str (op := .Eq) (et_sign (et_name rfl) (et_name rfl) (by omega) (by omega) (hsub ns n p' hp5 (hng n hn).1)) (et_name rfl))
        rw [cmpS_st, Bool.eq_iff_iff]; simp
      have hs1 : (sideM ns p' q.1).length ≤ 64 := by unfold sideM; rw [List.length_map]; exact Nat.le_trans (List.length_filter_le _ _) hnl2
      have hs2 : (sideM ns p' q.2).length ≤ 64 := by unfold sideM; rw [List.length_map]; exact Nat.le_trans (List.length_filter_le _ _) hnl2
      have esd : ((([q.1, q.2] : List Nat).filter fun _ => true).map fun c => LS ((sideM ns p' c).map st)) = ([sideM ns p' q.1, sideM ns p' q.2].map fun l => LS (l.map st)) := rfl
      rw [esd]
      generalize sideM ns p' q.1 = s1 at hs1 fs1 fc1 ⊢
      generalize sideM ns p' q.2 = s2 at hs2 fs1 fc1 ⊢
      -- few
      refine tri_cons (tri_assign (P := L ([ddG s1, ddG s2].map fun l => LS (l.map st))) hsc (et_castL (Ps := ([s1, s2].filter fun _ => true).map fun l => LS ((ddG l).map st)) rfl (et_comp _ (Qf := fun l => LS (l.map st)) (src_list hA'.handled (et_name rfl)) (by simp) (fun _ _ => ts_nil) fun l hl _ => et_call1 (P := LS (l.map st)) rfl rfl (by decide +kernel) rfl (et_name rfl) (fun _ => rfl) fun b V vs W f => ?_))
        (by first | exact .inl rfl | exact .inr ⟨rfl, rfl⟩) (fun env h => by unfold swapsWith Env.blockKind Env.kindOf; rw [h]; rfl)) ?_
      · have hll : l.length ≤ 64 := by
          simp at hl
          rcases hl with rfl | rfl
          · exact hs1
          · exact hs2
        have := dedup_ok (xs := l.map st) (by simp; omega) A' b V vs (hA'.less (by omega)) W f
        rw [dd_st] at this
        exact this
      have hf1 : (ddG s1).length ≤ 64 := Nat.le_trans (ddG_len _) hs1
      have hf2 : (ddG s2).length ≤ 64 := Nat.le_trans (ddG_len _) hs2
      generalize hA1 : ddG s1 = a1 at hf1 fs1 fc1 ⊢
      generalize hA2 : ddG s2 = a2 at hf2 fs1 fc1 ⊢
      -- common
      refine tri_cons (tri_assign_comp (x := Str.ofString "row") _ hsc (ds := a1) (Qf := fun n => S (st n)) (R' := fun n => S (st n)) (p := fun n => a2.contains n) (src_list hA'.handled (et_ls (et_item (et_name rfl) et_int (by decide) rfl (by decide)))) (by omega)
        (fun n hn => ts_one (tt_eqv (st_contains a2 n) (tt_in_list (et_name rfl) (et_item (et_name rfl) et_int (by decide) rfl (by decide))))) (fun n _ _ => et_name rfl) rfl (fun env h => by unfold swapsWith Env.blockKind Env.kindOf; rw [h]; rfl)) ?_
      have hcl : (a1.filter fun n => a2.contains n).length ≤ 64 := Nat.le_trans (List.length_filter_le _ _) hf1
      have hl1 : (((a1.map st).map S).length : Int) = a1.length := by simp
      have hl2 : (((a2.map st).map S).length : Int) = a2.length := by simp
      have hl3 : (((a1.filter fun n => a2.contains n).map fun n => S (st n)).length : Int) = (a1.filter a2.contains).length := by rw [List.length_map]
      refine tri_if_ret (t := !decide ([sumM faces p' q.1, sumM faces p' q.2, sumM faces p' 63] = [(a1.length : Int), (a2.length : Int), -((a1.filter a2.contains).length : Int)])) ok_at (tta hsc (tt_ne_ints hA'.cl (et_name rfl) (et_list (Ps := [I a1.length, I a2.length, I (-((a1.filter a2.contains).length : Int))]) (.cons (et_castI hl1 (et_len_list (by simp; omega) rfl rfl (et_item (et_name rfl) et_int (by decide) rfl (by decide)))) (fun _ => rfl)
        (.cons (et_castI hl2 (et_len_list (by simp; omega) rfl rfl (et_item (et_name rfl) et_int (by decide) rfl (by decide)))) (fun _ => rfl) (.cons (et_neg (et_castI hl3 (et_len_list (by rw [List.length_map]; omega) rfl rfl (et_name rfl)))) (fun _ => rfl) .nil))) (by rw [sizeLine_eq]; exact (by decide : 3 ≤ 16777216))))) (fun ht => ?_) fun _ => ?_
      · rw [fs1] at ht
        simp at ht
      refine tri_cons (hLast _ h₀ V₀ _ _ _ _ _ _ _ _ _ s2 s1 (decide ((a1.length : Int) + a2.length = 2 * (a1.filter a2.contains).length)) _ rfl (by omega) (by omega) (et_item (et_name rfl) et_int (by decide) rfl (by decide)) (et_item (et_name rfl) et_int (by decide) rfl (by decide)) ?_ (fun _ => rfl) (fun _ => rfl) rfl fc1) (tri_end ⟨rfl, rfl, rfl, rfl, trivial⟩)
      refine et_castB ?_ (et_cmp_int (op := .Eq) (et_add_int (et_castI hl1 (et_len_list (by simp; omega) rfl rfl (et_item (et_name rfl) et_int (by decide) rfl (by decide)))) (et_castI hl2 (et_len_list (by simp; omega) rfl rfl (et_item (et_name rfl) et_int (by decide) rfl (by decide))))) (et_mul_int (i := 2) et_int (et_castI hl3 (et_len_list (by rw [List.length_map]; omega) rfl rfl (et_name rfl))) (IntMulOk.of_left (by decide))))
      show (_ == _) = decide _
      rw [Bool.eq_iff_iff]; simp
end
end Mine
end
section
open PySem PySem.W PyProof.Rows PySem.SeqAt
set_option Elab.async false
set_option linter.all false
namespace Mine
/-! # the raise within _compare -/
section
variable {M : Model} {A : Around} {E : Value → Shared → Prop} {s : Shared} {base : Heap} {env : Env} {outer : List Env} {L e : Addr} {cls a0 : Value}
/-- a fresh exception is noted in the frame for the first time -/
theorem note_first {oe : Obj} {vs : Array Value} {Q : Unit → Shared → Prop} (hfr : A.frames = some (env :: outer)) (hl : s.heap.FunFrames base (env :: outer)) (hf : env.frame = some L)
    (he : s.heap.get? e = some oe) (hkb : base.StaysIn s.heap) (hen : base.get? e = none) (hd : oe.data = .fields vs) (h1 : vs[1]? = some .none) (h0 : vs[0]? = some a0)
    (hQ : ∀ h', Heap.HeldW base (env :: outer) e oe.cls a0 L h' → s.heap.UpToSlots h' → Q () { s with heap := h' }) : wpAny M A (noteFrame (.ref e) env) Q E s := by
  unfold noteFrame
  simp only [hf]
  refine wpAny_bind (wpAny_field he hd h1 ?_)
  rw [if_neg (by decide)]
  exact wpAny_entryW hfr hl hf he hkb hen hd (Array.getElem?_eq_some_iff.mp h1).1 h0 fun h' ⟨x1, x2, x3, x4⟩ => hQ h' ⟨x1, hen, x2, x3⟩ x4
/-- the flight is set to the frame again -/
theorem fly_again {l : List Env} {Q : Unit → Shared → Prop} (hf : env.frame = some L) (hh : Heap.HeldW base l e cls a0 L s.heap)
    (hQ : ∀ h', Heap.HeldW base l e cls a0 L h' → s.heap.UpToSlots h' → Q () { s with heap := h' }) :
    wpAny M A (do
      if (← field (.ref e) 1) == .none then unsupported "frame.own-activation:exception-without-traceback"
      setFlight (.ref e) env.frame) Q E s := by
  obtain ⟨hkb, hen, hl, oe, vs, T, oT, ts, he, hcls, hd, h1, hnT, hTe, hT, hdT, h3⟩ := hh
  have hsz3 : 3 < ts.size := (Array.getElem?_eq_some_iff.mp h3).1
  refine wpAny_bind (wpAny_field he hd h1 ?_)
  rw [if_neg (show ¬ ((Value.ref T == Value.none) = true) from by simp)]
  have other : ∀ b, b ≠ T → (s.heap.update T (Obj.mapFields (·.setIfInBounds 3 ((some L : Option Addr).elim Value.none fun f => rawInt f)))).get? b = s.heap.get? b :=
    fun b hb => Heap.get?_update_other _ _ (Ne.symm hb)
  have noRecord : ∀ b o, s.heap.get? b = some o → (∀ vs, o.data ≠ .fields vs) → b ≠ T := fun b o hb hnf q => by
    rw [q, hT] at hb; injection hb with hb; subst hb; exact hnf ts hdT
  rw [hf]
  unfold setFlight
  refine wpAny_bind (wpAny_field he hd h1 ?_)
  rw [if_pos (show (Value.ref T != Value.none) = true from by simp)]
  refine wpAny_setField hT hdT hsz3 (hQ _ ⟨(fun b o hbo => (other b fun q => by rw [q, hnT] at hbo; cases hbo).trans (hkb b o hbo)), hen,
    (hl.of_keeps fun b o hb hnf => ⟨o, (other b (noRecord b o hb hnf)).trans hb, rfl⟩), ?_⟩ fun b o hb hnf => ⟨o.slots, (other b (noRecord b o hb hnf)).trans hb⟩)
  exact ⟨oe, vs, T, _, _, (other e (Ne.symm hTe)).trans he, hcls, hd, h1, hnT, hTe, Heap.get?_update_self _ hT (Obj.isFreed_of_fields (Obj.data_mapFields hdT _)), Obj.data_mapFields hdT _, by simp [hsz3]⟩
end
end Mine
end
section
open PySem PySem.W PyProof.Rows PySem.SeqAt
set_option Elab.async false
set_option linter.all false
namespace Mine
noncomputable def Fs (l : List Env) : List Addr := l.filterMap (·.frame)
/-- after a raise that was caught: all but the frames' dicts stays, and these up to slots -/
structure Aft (l : List Env) (hB h : Heap) : Prop where
  stays : (hideAll hB (Fs l)).StaysIn h
  slots : hB.UpToSlots h
section
variable {prog : Program} {w : World} {A : Around} {E : Value → Shared → Prop} {s : Shared} {env : Env} {outer : List Env} {L e : Addr} {hB : Heap}
theorem raised_caught {np pos rpos cpos : Pos} {k : Nat} {rest : List ExceptHandler} {Q : Flow → Shared → Prop}
    (hfr : A.frames = some (env :: outer)) (hf : env.frame = some L) (hFF : hB.FunFrames (hideAll hB (Fs (env :: outer))) (env :: outer))
    (hx : Heap.NewExc hB s.heap e "ValueError")
    (hname : ∀ A' Q E s', (hideAll hB (Fs (env :: outer))).StaysIn s'.heap → Q (.type "ValueError") s' → wpAny (model prog w) A' (eval (.Name (Str.ofString "ValueError") np) env) Q E s')
    (hQ : ∀ h', Aft (env :: outer) hB h' → Q (.ret (.bool false)) { s with heap := h' }) :
    notedBy (model prog w) A env (cameBackBy (model prog w) A env (fun e s₁ => wpAny (model prog w) A (noteFrame e env) (fun _ s₂ => wpAny (model prog w) A (setFlight e none) (fun _ s₃ =>
      wpAny (model prog w) A (handleBy e env (.ExceptHandler (some (.Name (Str.ofString "ValueError") np)) none [.Return (some (.Constant (.bool false) k cpos)) rpos] pos :: rest)) Q E s₃) E s₂) E s₁)) (.ref e) s := by
  obtain ⟨ob, t, he, hc, hd⟩ := hx.there
  have st : (hideAll hB (Fs (env :: outer))).StaysIn s.heap := fun b o q => hx.keeps b o (of_hideAll _ q)
  have hen : (hideAll hB (Fs (env :: outer))).get? e = none := none_of_ext (fun b o q => of_hideAll _ q) hx.new
  unfold notedBy
  refine note_first (a0 := t) hfr (hFF.of_keeps fun b o hb hn => ⟨o, hx.keeps b o hb, rfl⟩) hf he st hen hd rfl rfl fun h₁ H₁ u₁ => ?_
  unfold cameBackBy
  refine fly_again hf H₁ fun h₂ H₂ u₂ => ?_
  refine wpAny_noteFrame_againW hf H₂.2.2.2 ?_
  refine wpAny_landsW H₂ fun h₃ F₃ u₃ => ?_
  obtain ⟨o3, q1, q2⟩ := F₃.there
  refine wpAny_handleBy_builtin (X := "ValueError") (T := "ValueError") (b := true) PySem.F.isExc_ValueError PySem.F.notTuple_ValueError (by rw [isSubtype_type]; kernel_rfl) (hname _ _ _ _ F₃.1 ⟨rfl, ⟨o3, q1, q2.trans hc⟩, ?_⟩)
  rw [if_pos rfl]
  refine lands_againW F₃ fun h₄ F₄ u₄ => ?_
  refine wpAny_execs_cons (wpAny_Return_some (wpAny_Constant_bool ?_))
  exact hQ h₄ ⟨F₄.1, ((((Heap.UpToSlots.of_keeps hx.keeps).trans u₁).trans u₂).trans u₃).trans u₄⟩
end
end Mine
end
section
open PySem PySem.W PyProof.Rows PySem.SeqAt
set_option Elab.async false
set_option linter.all false
namespace Mine
/-- a triple whose tree may raise a ValueError, made in the state before -/
noncomputable def TriX (prog : Program) (w : World) (K : Frag) (ow : Str → Prop) (h₀ : Heap) (V₀ : LG) (env : Env) (A : Around) (P : As) (t : Sem Flow) (N : As) : Prop :=
  ∀ (s : Shared) (V : LG) (Q : Flow → Shared → Prop) (E : Value → Shared → Prop), P V s.heap →
    (∀ h tk V', Stp V s.heap V' h → N V' h → Q .next { s with heap := h, toks := tk }) →
    (∀ hB V' h' tk e Γ' O', Stp V s.heap V' hB → At K ow h₀ V₀ env Γ' O' V' hB → Heap.NewExc hB h' e "ValueError" → E (.ref e) { s with heap := h', toks := tk }) → wpAny (model prog w) A t Q E s
section
variable {prog : Program} {w : World} {A : Around} {K : Frag} {ow : Str → Prop} {h₀ h h' b : Heap} {V₀ V V' : LG} {env : Env} {sc : Scope} {Γ Γ' : Ctx'} {O : OwnT} {l r e : Expr} {pos px : Pos} {x y : Str} {P : Sp} {R : Value → As} {N N' P' : As}
theorem trix_of {P N : As} {t : Sem Flow} (h : Tri prog w A P t N (fun _ _ _ => False)) : TriX prog w K ow h₀ V₀ env A P t N :=
  fun s V Q E hP kN _ => h s V Q E hP kN fun _ _ _ _ _ f => f.elim
theorem tri_forX {α : Type} {iter : Expr} {body : List Stmt} {ds : List α} {Qf : α → Sp} (Gi : Nat → Ctx') (Oi : Nat → OwnT) (hsc : env.scope = sc) (src : Src prog w K A sc Γ iter (ds.map Qf))
    (hx : sc.names.lookup x = some .local ∨ (sc.names.lookup x = some .cell ∧ ow x))
    (hG0 : ∀ y P, Gi 0 y = some P → Γ y = some P) (hO0 : Oi 0 = O)
    (hb : ∀ i d, ds[i]? = some d → TriX prog w K ow h₀ V₀ env A (At K ow h₀ V₀ env (upd (Gi i) x (Qf d)) (Oi i)) (execs body env) (At K ow h₀ V₀ env (Gi (i + 1)) (Oi (i + 1))))
    (hf : ∀ env x, foldedSetIterable iter env x = pure x := by intro _ _; rfl)
    (s : Shared) (V : LG) (Q : Flow → Shared → Prop) (E : Value → Shared → Prop) (hP : At K ow h₀ V₀ env Γ O V s.heap)
    (kN : ∀ h tk V', Stp V s.heap V' h → At K ow h₀ V₀ env (Gi ds.length) (Oi ds.length) V' h → Q .next { s with heap := h, toks := tk })
    (kE : ∀ hB V' h' tk e Γ' O', Stp V s.heap V' hB → At K ow h₀ V₀ env Γ' O' V' hB → Heap.NewExc hB h' e "ValueError" → notedBy (model prog w) A env (cameBackBy (model prog w) A env E) (.ref e) { s with heap := h', toks := tk }) :
    wpAny (model prog w) A (exec (.For (.Name x px) iter body [] pos) env) Q E s := by
  have hlen : (ds.map Qf).length = ds.length := List.length_map ..
  refine wpAny_For ?_ (hf env)
  refine src env s.heap V hsc hP.fr.ok hP.fr.sub s _ E (Ext.refl _) fun xv h₁ tk₁ V₁ g₁ hitr => ?_
  refine hitr { s with heap := h₁, toks := tk₁ } _ E g₁.sub fun it fp wr Pw St h₂ tk₂ IF => ?_
  have A2 : At K ow h₀ V₀ env Γ O V₁ h₂ := (hP.grow g₁).grow (.of_ext g₁.sub IF.ext)
  have stp2 : Stp V s.heap V₁ h₂ := (Stp.of_grow g₁).trans (.of_kx (Kx.of_ext IF.ext))
  have wr0 : ∀ a, a ∈ wr → h₀.get? a = none := fun a ha => none_of_ext hP.fr.base (none_of_ext g₁.ext (IF.wr a ha))
  have alive : ∀ i g', St i g' → ∀ a ∈ wr, ∃ o, g'.get? a = some o ∧ Pl o ∧ o.cls ≠ .type "list" := fun i g' st a ha => by
    rcases IF.fp i g' st a (IF.W.sub a ha) with ⟨o, q⟩ | ⟨o, q, hc, hp⟩
    · have := IF.wr a ha
      rw [(g₁.sub a o q).1] at this; cases this
    · exact ⟨o, q, hp, hc⟩
  refine codeAny_forLoop (fun k s' => ∃ i H tk Vi, s' = { s with heap := H, toks := tk } ∧ k = ds.length + 1 - i ∧ i ≤ ds.length ∧ At K ow h₀ V₀ env (Gi i) (Oi i) Vi H ∧ St i H ∧ Stp V s.heap Vi H ∧ Le V₁ Vi ∧ ∀ a ∈ wr, Vi a = none) ?_ (ds.length + 1)
    ⟨0, h₂, tk₂, V₁, rfl, rfl, Nat.zero_le _, hO0 ▸ A2.weak hG0, IF.st, stp2, Le.refl _, fun a ha => g₁.sub.fresh (IF.wr a ha)⟩
  rintro k s' ⟨i, H, tk, Vi, rfl, rfl, hi, Ai, sti, stpi, lei, hwri⟩
  by_cases hlt : i < ds.length
  · refine IF.W.item i _ _ _ (hlen ▸ hlt) sti fun v h₃ tk₃ hPv hst₃ hk₃ => ?_
    obtain ⟨R0, hR0, pv⟩ := IF.vals i v (hlen ▸ hlt) hPv
    obtain ⟨d, hd, rfl⟩ : ∃ d, ds[i]? = some d ∧ Qf d = R0 := by
      rw [List.getElem?_map] at hR0
      cases q : ds[i]? with
      | none => rw [q] at hR0; cases hR0
      | some d => rw [q] at hR0; exact ⟨d, rfl, by simpa using hR0⟩
    have A3 := Ai.keep (X := fun a => a ∈ wr) hk₃ wr0 hwri (alive i H sti)
    have wrs : ∀ a, a ∈ wr → s.heap.get? a = none := fun a ha => none_of_ext g₁.ext (IF.wr a ha)
    have st3 : Stp V s.heap Vi h₃ := ⟨fun a o e p hc => hk₃ a o (fun ha => by rw [wrs a ha] at e; cases e) (stpi.kx a o e p hc), stpi.le, stpi.nw⟩
    refine wpAny_assign_Name ?_
    refine A3.fr.store (s := { s with heap := h₃, toks := tk₃ }) (by unfold Env.kindOf; rw [hsc]; exact hx) ((Qf d).mono lei pv) fun h₄ tk₄ F4 kp => ?_
    have A4 : At K ow h₀ V₀ env (upd (Gi i) x (Qf d)) (Oi i) Vi h₄ := ⟨F4, A3.le, A3.new, A3.own.kp kp⟩
    have st4 := st3.trans (.of_kp kp)
    have hst₄ : St (i + 1) h₄ := IF.W.frame _ _ _ hst₃ fun a ha o e => by
      rcases IF.fp _ _ hst₃ a ha with ⟨o', q⟩ | ⟨o', q, _, hp⟩
      · obtain ⟨q1, q2⟩ := (A3.fr.sub.le lei) a o' q
        rw [e] at q1; cases q1
        exact kp a o e q2.1 q2.2
      · rw [e] at q; cases q
        exact kp a o e hp.1 hp.2
    have next : ∀ h tk V', Stp Vi h₄ V' h → At K ow h₀ V₀ env (Gi (i + 1)) (Oi (i + 1)) V' h →
        ∃ m, m < ds.length + 1 - i ∧ ∃ i' H' tk' Vi', ({ s with heap := h, toks := tk } : Shared) = { s with heap := H', toks := tk' } ∧ m = ds.length + 1 - i' ∧ i' ≤ ds.length ∧ At K ow h₀ V₀ env (Gi i') (Oi i') Vi' H' ∧ St i' H' ∧ Stp V s.heap Vi' H' ∧ Le V₁ Vi' ∧ ∀ a ∈ wr, Vi' a = none := by
      intro h tk V' stp A5
      refine ⟨ds.length + 1 - (i + 1), by omega, i + 1, h, tk, V', rfl, rfl, hlt, A5, ?_, st4.trans stp, lei.trans stp.le, fun a ha => ?_⟩
      · refine IF.W.frame _ _ _ hst₄ fun a ha o e => ?_
        rcases IF.fp _ _ hst₄ a ha with ⟨o', q⟩ | ⟨o', q, hc, hp⟩
        · obtain ⟨q1, q2⟩ := (A4.fr.sub.le lei) a o' q
          rw [e] at q1; cases q1
          exact (A5.fr.sub a o (stp.le a o (lei a o q))).1
        · rw [e] at q; cases q
          exact stp.kx a o e hp hc
      · cases q : V' a with
        | none => rfl
        | some o =>
          obtain ⟨o', e', hp, hc⟩ := alive _ _ hst₄ a ha
          rcases stp.nw a o q with q2 | q2 | q2
          · rw [hwri a ha] at q2; cases q2
          · exfalso
            -- the iterator itself is no list
            have e2 := (A5.fr.sub a o q).1
            have e3 := stp.kx a o' e' hp hc
            rw [e3] at e2; cases e2
            exact hc q2
          · exact absurd (q2 o' e' hp) hc
    refine hb i d hd { s with heap := h₄, toks := tk₄ } Vi _ _ A4 (fun h tk V' stp A5 => next h tk V' stp A5) fun hB V' h' tk e Γ' O' stp A5 hx => ?_
    exact kE hB V' h' tk e Γ' O' (st4.trans stp) A5 hx
  · have hin : i = ds.length := by omega
    subst hin
    refine IF.W.done _ _ _ (hlen.symm ▸ sti) fun h₃ tk₃ hk₃ => wpAny_execs_nil ?_
    have A3 := Ai.keep (X := fun a => a ∈ wr) hk₃ wr0 hwri (alive _ H sti)
    have wrs : ∀ a, a ∈ wr → s.heap.get? a = none := fun a ha => none_of_ext g₁.ext (IF.wr a ha)
    exact kN h₃ tk₃ Vi ⟨fun a o e p hc => hk₃ a o (fun ha => by rw [wrs a ha] at e; cases e) (stpi.kx a o e p hc), stpi.le, stpi.nw⟩ A3
end
end Mine
end
section
open PySem PySem.W PyProof.Rows PySem.SeqAt
set_option Elab.async false
set_option linter.all false
namespace Mine
section
variable {prog : Program} {w : World} {A : Around} {K : Frag} {ow : Str → Prop} {h₀ h h' b : Heap} {V₀ V V' : LG} {env : Env} {sc : Scope} {Γ Γ' : Ctx'} {O : OwnT} {l r e : Expr} {pos px : Pos} {x y : Str} {P : Sp} {R : Value → As} {N N' P' : As}
theorem no_eq {V : LG} {x : Str} : ∀ {xs : List Str} {vs : List Value}, Fit V (xs.map S) vs → x ∉ xs → ∀ v ∈ vs, eqS x v = false
  | [], _, .nil, _, v, hv => by cases hv
  | z :: zs, _, .cons h tl, hx, v, hv => by
    rcases List.mem_cons.mp hv with rfl | hv
    · obtain ⟨u, rfl⟩ := h
      have : ¬ z = x := fun q => hx (q ▸ List.mem_cons_self)
      simp [eqS, this]
    · exact no_eq tl (fun q => hx (List.mem_cons_of_mem _ q)) v hv
/-- x.remove(e), e not in the own list: ValueError -/
theorem tri_removeX {a : Addr} {xs : List Str} {elt : Expr} {apos cpos : Pos} (hh : A.handled = none) (hsc : env.scope = sc) (hx : Γ x = some (Vl (.ref a))) (he : Et prog w K A sc Γ elt (S y)) (hse : ∀ env, starEach [elt] env = [(false, eval elt env)]) (hz : xs.length ≤ 1000000)
    (hy : y ∉ xs) (hline : (apos.endLine == cpos.line) = true) (hd : (x == ("__debug__" : Str)) = false := by decide +kernel) :
    TriX prog w K ow h₀ V₀ env A (At K ow h₀ V₀ env Γ (some (a, xs.map S))) (exec (.Expr (.Call (.Attribute (.Name x px) "remove" apos) [elt] [] cpos) pos) env) N := by
  intro s V Q E hP kN kE
  refine wpAny_Expr ?_ (by unfold interactive; rw [hP.fr.ok.kind]; rfl) (by rfl)
  refine wp_meth1 F.slot_list_remove F.plainAttrs_list F.type_list_remove (fun _ _ => rfl) hse hline ?_
  refine et_name hx hd env s.heap V hsc hP.fr.ok hP.fr.sub s _ E (Ext.refl _) fun v h₁ tk₁ V₁ g₁ p₁ => ?_
  have p₁' : v = .ref a := p₁
  subst p₁'
  have A1 := hP.grow g₁
  obtain ⟨vs1, n1, r1, _, _, _⟩ := A1.own
  refine ⟨⟨_, r1, rfl⟩, fun a' e' => ?_, ?_⟩
  · cases e'; exact ⟨_, r1, rfl⟩
  refine he env h₁ V₁ hsc A1.fr.ok A1.fr.sub _ _ E (Ext.refl _) fun z h₂ tk₂ V₂ g₂ p₂ => ?_
  obtain ⟨t, rfl⟩ := p₂
  have A2 := A1.grow g₂
  obtain ⟨vs, n, q1, q2, q3, q4⟩ := A2.own
  have hno := no_eq q4 hy
  refine call_meets F.slot_list_remove (s := { s with heap := h₂, toks := tk₂ }) ⟨_, q1, rfl⟩ F.entry_list_remove (F.args_list_remove_2 _ _)
    (PySem.MeetsSeq.list_remove_none a vs.toArray n (.str y t) (eqS y) (fun z hz => egS y t q4 z (by simpa using hz)) (fun m hm => hno _ (by simpa using List.getElem_mem (l := vs) (n := m) (by simpa using hm)))) ⟨q1, hh, fun h' tk e hx' => ?_⟩
  exact kE h₂ V₂ h' tk e Γ _ (Stp.of_grow (g₁.trans g₂)) A2 hx'
theorem trix_cons_nil {st : Stmt} (h1 : TriX prog w K ow h₀ V₀ env A P' (exec st env) N) : TriX prog w K ow h₀ V₀ env A P' (execs [st] env) N := by
  intro s V Q E hP kN kE
  exact wpAny_execs_cons (h1 s V _ E hP (fun h tk V' stp n => wpAny_execs_nil (kN h tk V' stp n)) kE)
theorem trix_post {t : Sem Flow} (hp : ∀ V h, N' V h → N V h) (h : TriX prog w K ow h₀ V₀ env A P' t N') : TriX prog w K ow h₀ V₀ env A P' t N :=
  fun s V Q E hP kN kE => h s V Q E hP (fun h tk V' st n => kN h tk V' st (hp _ _ n)) kE
end
end Mine
end
section
open PySem PySem.W PyProof.Rows PySem.SeqAt
set_option Elab.async false
set_option linter.all false
namespace Mine
section
variable {prog : Program} {w : World} {A : Around} {K : Frag} {sc : Scope}
theorem con_entryG {d : Nat} {a : Addr} {o : Obj} {fd : FuncData} {body : List Stmt} {xs : List Str} {Ps : List Sp}
    (hK : K.lookup a = some o) (hd : o.data = .func fd) (hbody : fd.body = .stmts body) (hscp : fd.scope = sc) (hcode : codeIn K fd.code fd.qualname = true) (hclo : fd.closure = []) (hgl : fd.globals = mainGlobals) (hbu : fd.builtins = builtinsNs)
    (hst : defOk sc xs = true) (hlen : xs.length = Ps.length) (hbind : ∀ vals : List Value, vals.length = xs.length → bindArgs fd ⟨vals, []⟩ = pure (xs.zip vals))
    (s : Shared) (V : LG) (vs : List Value) (Q : Value → Shared → Prop) (E : Value → Shared → Prop) (hA : OkA (d + 1) A) (W : Wd K s.heap) (hs' : Sub V s.heap) (hfit : Fit V Ps vs)
    (hT : ∀ env hh tk, env.scope = sc → env.frame = some env.locals → At K (ownOf' sc) s.heap V env (ctxOf (xs.zip Ps)) none V hh → ∀ Q' E', (∀ v s', Q v s' → Q' (.ret v) s') → wpAny (model prog w) (A.deeper env) (execs body env) Q' E' { s with heap := hh, toks := tk }) :
    wpAny (model prog w) A (call (.ref a) vs) Q E s := by
  subst hscp
  unfold defOk at hst
  simp only [Bool.and_eq_true, Bool.not_eq_true', beq_iff_eq, decide_eq_true_eq] at hst
  obtain ⟨⟨⟨⟨⟨hk, hco⟩, hgen⟩, hfree⟩, hpar⟩, hnd⟩ := hst
  have hvl : vs.length = xs.length := by rw [hlen, hfit.length]
  refine wpAny_call (codeAny_call_cells (fd := fd) (body := body) (binds := xs.zip vs) hA.room (W.k a o hK) hd W.lim (codeRec_of W.k hcode) hbody (hbind vs hvl) hclo ?_ ?_ hco hgen hk)
  · refine kindsX ?_ _
    rw [List.all_eq_true]
    intro p hp
    have := List.all_eq_true.mp hpar p.1 (List.of_mem_zip (a := p.1) (b := p.2) hp).1
    exact this
  · intro s₁ X
    have efr : (callEnvC fd s.heap.objs.size a).frame = some (callEnvC fd s.heap.objs.size a).locals := rfl
    generalize henv : callEnvC fd s.heap.objs.size a = env at X efr ⊢
    have esc : env.scope = fd.scope := by subst henv; rfl
    have egl : env.globals = mainGlobals := by subst henv; exact hgl
    have ebu : env.builtins = builtinsNs := by subst henv; exact hbu
    have ecl : env.cells = cellsFrom (s.heap.objs.size + 1) fd.scope.names [] := by subst henv; rfl
    have eknd : ∀ y, env.kindOf y = fd.scope.names.lookup y := fun y => by unfold Env.kindOf; rw [esc]
    obtain ⟨hh, tk, rfl⟩ := X.toInCall.same
    have ext : Ext s.heap hh := X.toInCall.keep
    have fresh : ∀ c, s.heap.objs.size ≤ c → s.heap.get? c = none := fun c hc => by
      cases e : s.heap.get? c with
      | none => rfl
      | some o => exact absurd (Heap.lt_size e) (Nat.not_lt.mpr hc)
    have hcell : ∀ y, fd.scope.names.lookup y = some .cell → ∃ c, env.cells.lookup y = some c := fun y hy => by
      rw [ecl]; exact Option.isSome_iff_exists.mp (cellsFrom_some fd.scope.names _ [] (.inl hy))
    have FR : Frame K (ownOf' fd.scope) s.heap hh V env (ctxOf (xs.zip Ps)) := by
      refine ⟨⟨W.ext ext, esc ▸ hk, egl, ebu, fun y hy => ?_, fun y P hy => ?_⟩, ext, W, hs'.ext ext, fresh _ X.toInCall.fresh, ⟨_, X.toInCall.ns⟩, fun y hy => ?_⟩
      · rw [eknd] at hy
        rcases hy with hy | hy
        · obtain ⟨c, hc⟩ := hcell y hy
          exact ⟨c, _, hc, X.cell y c hc⟩
        · have := List.all_eq_true.mp hfree _ (mem_of_lookup hy)
          simp at this
      · obtain ⟨v, hv, pv⟩ := zip_lookup xs Ps vs V y P hfit hy
        refine ⟨v, ?_, pv⟩
        have hmem := mem_of_lookup hv
        have hnd' : ((xs.zip vs).map (·.1)).Nodup := by rw [List.map_fst_zip (by omega)]; exact hnd
        obtain ⟨b1, b2⟩ := bind_hit env.kindOf (xs.zip vs) (fun _ => none) (fun _ => none) y v hnd' hv
        have hy2 := List.all_eq_true.mp hpar y (List.of_mem_zip hmem).1
        simp only [Bool.or_eq_true, beq_iff_eq] at hy2
        rcases hy2 with q | q
        · exact .loc _ ((eknd y).trans q) X.toInCall.ns (b1 ((eknd y).trans q))
        · obtain ⟨c, hc⟩ := hcell y q
          have := X.cell y c hc
          rw [b2 (by rw [eknd, q]; decide)] at this
          exact .cel c (.inl ((eknd y).trans q)) hc this
      · obtain ⟨c, hc⟩ := hcell y hy
        refine ⟨c, _, hc, fresh c (Nat.le_trans X.toInCall.fresh (Nat.le_of_lt (X.above y c (mem_of_lookup hc)))), X.cell y c hc, fun y' hy' => name_of_addr X.apart (mem_of_lookup hy') (mem_of_lookup hc)⟩
    have A0 : At K (ownOf' fd.scope) s.heap V env (ctxOf (xs.zip Ps)) none V hh := ⟨FR, Le.refl _, fun _ _ e => .inl e, trivial⟩
    exact hT env hh tk esc efr A0 _ _ fun v s' q => q
end
end Mine
end
section
open PySem PySem.W PyProof.Rows PySem.SeqAt
set_option Elab.async false
set_option linter.all false
namespace Mine
noncomputable def Bot : Sp := ⟨fun _ _ => False, fun _ h => h⟩
/-- the first i were all there -/
noncomputable def okTo (D X : List Str) : Nat → Bool
  | 0 => true
  | i + 1 => okTo D X i && (match X[i]? with | some x => (remAll D (X.take i)).contains x | none => true)
noncomputable def ownX (a : Addr) (D X : List Str) (i : Nat) : OwnT := if okTo D X i then some (a, (remAll D (X.take i)).map S) else some (a, [Bot])
theorem okTo_all {D X : List Str} : ∀ {n}, okTo D X n = true → ∀ i, i < n → ∀ x, X[i]? = some x → x ∈ remAll D (X.take i)
  | 0, _, i, hi, _, _ => absurd hi (Nat.not_lt_zero _)
  | n + 1, h, i, hi, x, hx => by
    unfold okTo at h
    rw [Bool.and_eq_true] at h
    by_cases e : i = n
    · subst e
      have h2 := h.2
      rw [hx] at h2
      simpa using h2
    · exact okTo_all h.1 i (by omega) x hx
theorem no_bot {K : Frag} {ow : Str → Prop} {h₀ h : Heap} {V₀ V : LG} {env : Env} {Γ : Ctx'} {a : Addr} (x : At K ow h₀ V₀ env Γ (some (a, [Bot])) V h) : False := by
  obtain ⟨vs, n, _, _, _, f⟩ := x.own
  obtain ⟨v, rfl, h⟩ := fit1 f
  exact h
section
variable {w : World}
set_option pp.deepTerms false in
set_option pp.deepTerms.threshold 8 in
set_option maxRecDepth 100000 in
theorem compare_X {xs ys : List Str} (hz1 : xs.length ≤ 100000) (hz2 : ys.length ≤ 100000) (hmiss : ¬ ∀ x ∈ xs, x ∈ ys) (A : Around) (hA : OkA 2 A) {env1 : Env} {L1 : Addr} {o1 : Obj} (hfr : A.frames = some [env1]) (hk1 : env1.scope.kind ≠ .module) (hf1 : env1.frame = some L1)
    (s : Shared) (V : LG) (vs : List Value) (Q : Value → Shared → Prop) (E : Value → Shared → Prop) (hs : Sub V s.heap) (hW : Wd (KK w) s.heap) (hW1 : Wd (KK w) (hideAll s.heap [L1])) (ho1 : s.heap.get? L1 = some o1) (hd1 : ∀ vs, o1.data ≠ .fields vs) (hfit : Fit V [LS xs, LS ys] vs)
    (kF : ∀ hB h' tk V' L2, Grow V s.heap V' hB → s.heap.get? L2 = none → (∃ o2 es ep, hB.get? L2 = some o2 ∧ o2.data = .dict es ep) → (hideAll hB [L2, L1]).StaysIn h' → hB.UpToSlots h' → Q (.bool false) { s with heap := h', toks := tk }) :
    wpAny (model PR w) A (call (.ref 45) vs) Q E s := by
  refine con_entryG (d := 1) (a := 45) (o := ?o) (fd := ?fd) (body := ?body) (sc := ?sc) (xs := [Str.ofString "first_args", Str.ofString "second_args"]) (Ps := [LS xs, LS ys]) (K := KK w) ?hK ?hd ?hb ?hs ?hc ?hcl ?hgl ?hbu ?hst rfl ?hbind s V vs Q E hA hW hs hfit ?hT
  case hK => rfl
  case hd => rfl
  case hb => rfl
  case hs => (dsimp only; rfl)
  case hc => rfl
  case hcl => rfl
  case hgl => rfl
  case hbu => rfl
  case hst => decide +kernel
  case hbind => intro vals hv; obtain ⟨v, u, rfl⟩ := len2 hv rfl; rfl
  case hT =>
    intro env hh tk hsc hfrm A0 Q' E' hQ'
    have hA' := hA.deeper env
    have hfr2 : (A.deeper env).frames = some [env, env1] := Around.frames_deeper hfr
    have l1 := dd_length_le xs
    have l2 := dd_length_le ys
    refine wpAny_execs_cons (tri_assign (R := fun _ _ _ => False) (P := LS (dd xs)) hsc (et_call (Ps := [LS xs]) (et_glob rfl rfl) (.inl rfl) (.cons (et_name rfl) (fun _ => rfl) .nil) fun b V vs W f => dedup_ok (by omega) _ b V vs hA' W f) (.inl rfl) (by intro _ _; rfl) _ V _ E' A0 (fun h₁ tk₁ V₁ st₁ A1 => ?_) fun _ _ _ _ _ f => f.elim)
    refine wpAny_execs_cons (tri_assign (R := fun _ _ _ => False) (P := LS (dd ys)) hsc (et_call (Ps := [LS ys]) (et_glob rfl rfl) (.inl rfl) (.cons (et_name rfl) (fun _ => rfl) .nil) fun b V vs W f => dedup_ok (by omega) _ b V vs hA' W f) (.inl rfl) (by intro _ _; rfl) _ V₁ _ E' A1 (fun h₂ tk₂ V₂ st₂ A2 => ?_) fun _ _ _ _ _ f => f.elim)
    refine wpAny_execs_cons (tri_newcopy (R := fun _ _ _ => False) hsc (et_globb rfl rfl (by decide +kernel)) (et_name rfl) (fun _ => rfl) (by rw [List.length_map]; omega) (.inl rfl) _ V₂ _ E' A2 (fun h₃ tk₃ V₃ st₃ ⟨a, A3⟩ => ?_) fun _ _ _ _ _ f => f.elim)
    refine wpAny_execs_cons ?_
    rw [arm_exec_Try]
    refine wpAny_bind (wpAny_standAt (wpAny_tryStmt_except ?_))
    refine wpAny_execs_cons ?_
    refine tri_forX (ds := dd xs) (Qf := S) (fun _ => ctxOf [(Str.ofString "first_unhashable", LS (dd xs)), (Str.ofString "t", Vl (.ref a))]) (ownX a (dd ys) (dd xs)) hsc
      (src_list hA'.handled (et_name rfl)) (.inl rfl) (Has.sub ⟨rfl, rfl, trivial⟩) ?h0 (fun i d hd => ?hb) (by intro _ _; rfl) _ V₃ _ _ A3 (fun h₄ tk₄ V₄ st₄ A4 => ?hN) (fun hB V' h' tk' e Γ' O' stB AB hx => ?hE)
    case h0 => rfl
    case hb =>
      unfold ownX
      cases hok : okTo (dd ys) (dd xs) i with
      | false => 
        intro s V Q E hP _ _
        exact (no_bot hP).elim
      | true =>
        rw [if_pos rfl]
        have h1 := remAll_len (dd ys) ((dd xs).take i)
        by_cases hin : d ∈ remAll (dd ys) ((dd xs).take i)
        · have hok' : okTo (dd ys) (dd xs) (i + 1) = true := by unfold okTo; rw [hok, hd]; simpa using hin
          rw [if_pos hok', remAll_take hd]
          exact trix_of (tri_cons (tri_remove hsc rfl (et_name rfl) (fun _ => rfl) (by omega) hin rfl) (tri_end ⟨rfl, rfl, trivial⟩))
        · exact trix_cons_nil (tri_removeX hA'.handled hsc rfl (et_name rfl) (fun _ => rfl) (by omega) hin rfl)
    case hN =>
      exfalso
      unfold ownX at A4
      cases hok : okTo (dd ys) (dd xs) (dd xs).length with
      | false => rw [hok] at A4; exact no_bot A4
      | true =>
        refine hmiss fun x hx => ?_
        have hx' : x ∈ dd xs := (mem_ddG xs x).mpr hx
        obtain ⟨i, hi, e⟩ := List.mem_iff_getElem.mp hx'
        have := okTo_all hok i hi x (by rw [List.getElem?_eq_getElem hi, e])
        exact (mem_ddG ys x).mp ((mem_remAll (nodup_ddG ys) _ x).mp this).1
    case hE =>
      have stAll : Stp V hh V' hB := ((st₁.trans st₂).trans st₃).trans stB
      have FB := AB.fr
      have extB : Ext s.heap hB := FB.base
      have hL2 : s.heap.get? env.locals = none := FB.fresh
      have hFs : Fs [env, env1] = [env.locals, L1] := by unfold Fs; simp [hfrm, hf1]
      have o1B : hB.get? L1 = some o1 := extB L1 o1 ho1
      have hFF : hB.FunFrames (hideAll hB (Fs [env, env1])) [env, env1] := by
        obtain ⟨m, o2, es, ep, q1, q2, _⟩ := FB.ns
        refine ⟨by rw [FB.ok.kind]; decide, ⟨env.locals, o2, hfrm, hideAll_none _ (by rw [hFs]; simp), q1, fun vs q => by rw [q2] at q; cases q⟩, hk1, ⟨L1, o1, hf1, hideAll_none _ (by rw [hFs]; simp), o1B, hd1⟩, trivial⟩
      have extH : Ext (hideAll s.heap [L1]) (hideAll hB (Fs [env, env1])) := fun b o q => by
        have q1 := of_hideAll _ q
        refine hideAll_get _ (extB b o q1) fun hm => ?_
        rw [hFs] at hm
        rcases List.mem_cons.mp hm with e | hm
        · subst e; rw [hL2] at q1; cases q1
        · rw [hideAll_none _ hm] at q; cases q
      refine raised_caught (rest := []) hfr2 hfrm hFF hx (fun A' Q E s' hst k => ?_) (fun h' aft => ?_)
      · have W' : Wd (KK w) s'.heap := (hW1.ext extH).ext hst
        refine Calls.Name_function_global FB.ok.kind (by rw [Env.kindOf, hsc]; rfl) ?_ (by decide +kernel)
        unfold loadGlobal
        rw [FB.ok.gl]
        refine wpAny_bind ((looks_nsIn (r := none) W'.k (by rfl)).here ?_)
        obtain ⟨mb, hmb, hmx⟩ := W'.bt
        rw [FB.ok.bu]
        refine wpAny_bind (wpAny_nsGet hmb ?_)
        rw [hmx _ (by decide +kernel), PyProof.Rows.Boot.«ValueError»]
        exact wpAny_pure k
      · refine hQ' _ _ (kF hB h' tk' V' env.locals ⟨FB.base, AB.le, FB.sub, AB.new⟩ hL2 (let ⟨_, o2, es, ep, q1, q2, _⟩ := FB.ns; ⟨o2, es, ep, q1, q2⟩) ?_ aft.slots)
        have := aft.stays
        rw [hFs] at this
        exact this
end
end Mine
end
section
open PySem PySem.W PyProof.Rows PySem.SeqAt
set_option Elab.async false
set_option linter.all false
namespace Mine
section
variable {K : Frag} {ow : Str → Prop} {h₀ hB h' : Heap} {V₀ V : LG} {env : Env} {Γ : Ctx'}
theorem at_aft {L2 : Addr} (x : At K ow h₀ V₀ env Γ none V hB) (hL2 : h₀.get? L2 = none) (hd2 : ∃ o2 es ep, hB.get? L2 = some o2 ∧ o2.data = .dict es ep) (hst : (hideAll hB [L2, env.locals]).StaysIn h') (hsl : hB.UpToSlots h') :
    At K ow h₀ V₀ env Γ none V h' ∧ Stp V hB V h' := by
  have F := x.fr
  have nd : ∀ a o, hB.get? a = some o → (∀ es ep, o.data ≠ .dict es ep) → h'.get? a = some o := fun a o e hn => by
    refine hst a o (hideAll_get _ e fun hm => ?_)
    rcases List.mem_cons.mp hm with q | hm
    · obtain ⟨o2, es, ep, q1, q2⟩ := hd2
      subst q; rw [q1] at e; cases e; exact hn _ _ q2
    · rcases List.mem_cons.mp hm with q | hm
      · obtain ⟨m, o2, es, ep, q1, q2, _⟩ := F.ns
        subst q; rw [q1] at e; cases e; exact hn _ _ q2
      · cases hm
  have cel : ∀ c v, hB.IsCell c v → h'.IsCell c v := fun c v q => let ⟨o, ho, hd⟩ := q; ⟨o, nd _ o ho (fun es ep q => by rw [hd] at q; cases q), hd⟩
  have ext : Ext h₀ h' := fun a o e => hst a o (hideAll_get _ (F.base a o e) fun hm => by
    rcases List.mem_cons.mp hm with q | hm
    · subst q; rw [hL2] at e; cases e
    · rcases List.mem_cons.mp hm with q | hm
      · subst q; rw [F.fresh] at e; cases e
      · cases hm)
  refine ⟨⟨⟨⟨F.wd.ext ext, F.ok.kind, F.ok.gl, F.ok.bu, fun y hy => ?_, fun y P hy => ?_⟩, ext, F.wd, fun a o e => ?_, F.fresh, ?_, fun y hy => ?_⟩, x.le, x.new, trivial⟩, .of_kx fun a o e p _ => nd a o e p.1⟩
  · obtain ⟨c, v, q1, q2⟩ := F.ok.cells y hy
    exact ⟨c, v, q1, cel c v q2⟩
  · obtain ⟨v, hb, pv⟩ := F.ok.vars y P hy
    refine ⟨v, ?_, pv⟩
    cases hb with
    | loc m a h c => exact .loc m a (hsl.ns h) c
    | cel c a l h => exact .cel c a l (cel _ _ h)
  · obtain ⟨q1, q2⟩ := F.sub a o e
    exact ⟨nd a o q1 q2.1, q2⟩
  · obtain ⟨m, q⟩ := F.ns; exact ⟨m, hsl.ns q⟩
  · obtain ⟨c, v, q1, q2, q3, q4⟩ := F.own y hy
    exact ⟨c, v, q1, q2, cel c v q3, q4⟩
end
theorem last_ok (w : World) (A' : Around) (env : Env) (sc : Scope) (hsc : env.scope = sc) (hA : OkA 5 A') (hAe : A' = callerA.deeper env) (hfrm : env.frame = some env.locals) : LastOk w A' env sc := by
  intro ow h₀ V₀ Γ e1 e2 r p cp pos ipos body xs ys t R hk hz1 hz2 he1 he2 hr hse1 hse2 hm hcmp s V Q E hP kN kR
  have hfr : A'.frames = some [env] := by rw [hAe]; exact Around.frames_deeper rfl
  refine wpAny_If ?_
  refine wpAny_isTrue_Compare1 ?_ hm
  have tail : ∀ h tk V', Stp V s.heap V' h → At (KK w) ow h₀ V₀ env Γ none V' h → wpAny (model PR w) A' (eval r env) (fun v2 s₂ => wpAny (model PR w) A' (compareOp .IsNot (.bool t) v2) (fun r s₃ => wpAny (model PR w) A' (truthy r) (fun b s₄ => if b = true then wpAny (model PR w) A' (execs body env) Q E s₄ else wpAny (model PR w) A' (execs [] env) Q E s₄) E s₃) E s₂) E { s with heap := h, toks := tk } := by
    intro h tk V' st1 A1
    refine hr env h V' hsc A1.fr.ok A1.fr.sub _ _ E (Ext.refl _) fun v2 h2 tk2 V2 g2 p2 => ?_
    have p2' : v2 = .bool t := p2
    subst p2'
    refine wpAny_isNot_plain (by cases t <;> rfl) ?_
    refine wpAny_truthy_bool ?_
    rw [if_neg (by cases t <;> decide)]
    exact wpAny_execs_nil (kN h2 tk2 V2 (st1.trans (.of_grow g2)) (A1.grow g2))
  have hA2 : OkA 2 A' := ⟨hA.handled, by have := hA.depth; omega, by have := hA.units; omega⟩
  have hmem : (∀ x ∈ xs.map st, x ∈ ys.map st) ↔ ∀ x ∈ xs, x ∈ ys := by
    have inj : ∀ a b : List Nat, st a = st b → a = b := fun a b e => by
      have := congrArg (fun q : Str => q.cps.toList) e
      simpa [st] using this
    constructor
    · intro h x hx
      obtain ⟨y, hy, e⟩ := List.mem_map.mp (h (st x) (List.mem_map_of_mem hx))
      exact inj _ _ e ▸ hy
    · intro h x hx
      obtain ⟨y, hy, rfl⟩ := List.mem_map.mp hx
      exact List.mem_map_of_mem (h y hy)
  have hmem2 : (∀ x ∈ ys.map st, x ∈ xs.map st) ↔ ∀ x ∈ ys, x ∈ xs := by
    have inj : ∀ a b : List Nat, st a = st b → a = b := fun a b e => by
      have := congrArg (fun q : Str => q.cps.toList) e
      simpa [st] using this
    constructor
    · intro h x hx
      obtain ⟨y, hy, e⟩ := List.mem_map.mp (h (st x) (List.mem_map_of_mem hx))
      exact inj _ _ e ▸ hy
    · intro h x hx
      obtain ⟨y, hy, rfl⟩ := List.mem_map.mp hx
      exact List.mem_map_of_mem (h y hy)
  refine wp_call (et_glob hk rfl) (.inl rfl) (.cons he1 hse1 (.cons he2 hse2 .nil)) hsc hP.fr.ok hP.fr.sub (Ext.refl _) fun vs h₁ tk₁ V₁ g₁ W₁ fit => ?_
  have A1 := hP.grow g₁
  show wpAny (model PR w) A' (call (.ref 45) vs) _ E _
  by_cases hall : ∀ x ∈ xs, x ∈ ys
  · refine compare_ok (xs := xs.map st) (ys := ys.map st) (by rw [List.length_map]; omega) (by rw [List.length_map]; omega) (cmp_go (hmem.mpr hall)) A' h₁ V₁ vs hA2 W₁ fit g₁.sub _ _ E (Ext.refl _) fun v h₂ tk₂ V₂ g₂ p₂ => ?_
    have p₂' : v = .bool t := by
      have q : v = .bool _ := p₂
      rw [q, cmp_val]
      congr 1
      rw [← hcmp]
      unfold cmpM
      rw [decide_eq_true hall, Bool.true_and]
      exact decide_eq_decide.mpr hmem2
    subst p₂'
    exact tail h₂ tk₂ V₂ (.of_grow (g₁.trans g₂)) (A1.grow g₂)
  · have ht : t = false := by
      rw [← hcmp]; unfold cmpM; rw [decide_eq_false hall]; rfl
    obtain ⟨m, o1, es1, ep1, q1, q2, _⟩ := A1.fr.ns
    refine compare_X (xs := xs.map st) (ys := ys.map st) (by rw [List.length_map]; omega) (by rw [List.length_map]; omega) (fun q => hall (hmem.mp q)) A' hA2 hfr (by rw [A1.fr.ok.kind]; decide) hfrm
      { s with heap := h₁, toks := tk₁ } V₁ vs _ E g₁.sub W₁ (A1.fr.wd.ext fun a o e => hideAll_get _ (A1.fr.base a o e) fun hm => by
        rcases List.mem_cons.mp hm with q | hm
        · subst q; rw [A1.fr.fresh] at e; cases e
        · cases hm) q1 (fun vs q => by rw [q2] at q; cases q) fit fun hB h' tk V' L2 g hL2 hd2 hst hsl => ?_
    obtain ⟨B1, B2⟩ := at_aft (A1.grow g) (none_of_ext A1.fr.base hL2) hd2 hst hsl
    have := tail h' tk V' ((Stp.of_grow (g₁.trans g)).trans B2) B1
    rw [ht] at this
    exact this
end Mine
end
section
open PySem PySem.W PyProof.Rows PySem.SeqAt
set_option Elab.async false
set_option linter.all false
namespace Mine
/-! # plain: the Euler sum of a set of corners closed under medians -/
noncomputable def b2i (b : Bool) : Int := cond b 1 0
noncomputable def chiB : Nat → (List Bool → Bool) → Int
  | 0, S => b2i (S [])
  | n + 1, S => chiB n (fun r => S (false :: r)) + chiB n (fun r => S (true :: r)) - chiB n (fun r => S (false :: r) && S (true :: r))
noncomputable def nT : List Bool → Nat
  | [] => 0
  | true :: tw => nT tw + 1
  | false :: tw => nT tw
noncomputable def rowB : List Bool → (List Bool → Bool) → List Bool → Bool
  | [], S, [] => S []
  | [], _, _ :: _ => false
  | true :: tw, S, c :: r => rowB tw (fun x => S (c :: x)) r
  | true :: _, _, [] => false
  | false :: tw, S, r => rowB tw (fun x => S (false :: x)) r || rowB tw (fun x => S (true :: x)) r
noncomputable def cntB : Nat → (List Bool → Bool) → Int
  | 0, R => b2i (R [])
  | n + 1, R => cntB n (fun r => R (false :: r)) + cntB n (fun r => R (true :: r))
/-- the same letters at the flagged places -/
noncomputable def sameB : List Bool → List Bool → List Bool → Prop
  | t :: tw, a :: x, b :: y => (t = true → a = b) ∧ sameB tw x y
  | _, _, _ => True
/-- z is x, but for one unflagged place, where it is y's -/
noncomputable def stepB : List Bool → List Bool → List Bool → List Bool → Prop
  | t :: tw, a :: x, b :: y, c :: z => (t = false ∧ a ≠ b ∧ c = b ∧ z = x) ∨ (c = a ∧ stepB tw x y z)
  | _, _, _, _ => False
noncomputable def maj3 (a b c : Bool) : Bool := (a && b) || (b && c) || (a && c)
noncomputable def medB : List Bool → List Bool → List Bool → List Bool
  | a :: x, b :: y, c :: z => maj3 a b c :: medB x y z
  | _, _, _ => []
noncomputable def farB : List Bool → List Bool → Nat
  | a :: x, b :: y => (if a = b then 0 else 1) + farB x y
  | _, _ => 0
/-- no edge crosses a flagged place -/
noncomputable def noE : List Bool → (List Bool → Bool) → Prop
  | [], _ => True
  | t :: tw, S => (t = true → ∀ r, r.length = tw.length → ¬ (S (false :: r) = true ∧ S (true :: r) = true)) ∧ noE tw (fun r => S (false :: r)) ∧ noE tw (fun r => S (true :: r))

theorem medB_len : ∀ {n x y z}, x.length = n → y.length = n → z.length = n → (medB x y z).length = n
  | 0, [], _, _, _, _, _ => by simp [medB]
  | n + 1, a :: x, b :: y, c :: z, h1, h2, h3 => by
    simp only [medB, List.length_cons] at *
    rw [medB_len (n := n) (by omega) (by omega) (by omega)]

theorem sameB_refl : ∀ tw x, sameB tw x x
  | [], _ => by simp [sameB]
  | _ :: _, [] => by simp [sameB]
  | t :: tw, a :: x => by simp only [sameB]; exact ⟨fun _ => trivial, sameB_refl tw x⟩
theorem sameB_trans : ∀ {n tw x y z}, tw.length = n → x.length = n → y.length = n → z.length = n → sameB tw x y → sameB tw y z → sameB tw x z
  | 0, [], _, _, _, _, _, _, _, _, _ => by simp [sameB]
  | n + 1, t :: tw, a :: x, b :: y, c :: z, h0, h1, h2, h3, p, q => by
    simp only [sameB, List.length_cons] at *
    exact ⟨fun e => (p.1 e).trans (q.1 e), sameB_trans (n := n) (by omega) (by omega) (by omega) (by omega) p.2 q.2⟩
theorem sameB_symm : ∀ {n tw x y}, tw.length = n → x.length = n → y.length = n → sameB tw x y → sameB tw y x
  | 0, [], _, _, _, _, _, _ => by simp [sameB]
  | n + 1, t :: tw, a :: x, b :: y, h0, h1, h2, p => by
    simp only [sameB, List.length_cons] at *
    exact ⟨fun e => (p.1 e).symm, sameB_symm (n := n) (by omega) (by omega) (by omega) p.2⟩

/-- what a step leaves -/
theorem stepB_info : ∀ {n tw x y z}, tw.length = n → x.length = n → y.length = n → stepB tw x y z → z.length = n ∧ farB z y + 1 = farB x y ∧ sameB tw x z
  | 0, [], _, _, _, _, _, _, h => by simp [stepB] at h
  | n + 1, t :: tw, a :: x, b :: y, [], _, _, _, h => by simp [stepB] at h
  | n + 1, t :: tw, a :: x, b :: y, c :: z, h0, h1, h2, h => by
    simp only [stepB, sameB, farB, List.length_cons] at *
    rcases h with ⟨rfl, h, rfl, rfl⟩ | ⟨rfl, h⟩
    · refine ⟨by omega, by rw [if_pos rfl, if_neg h]; omega, (fun e => by cases e), sameB_refl _ _⟩
    · obtain ⟨q1, q2, q3⟩ := stepB_info (n := n) (by omega) (by omega) (by omega) h
      exact ⟨by omega, by omega, fun _ => rfl, q3⟩
/-- the median of a step, its start and its end is the step -/
theorem medB_step : ∀ {n tw x y z}, tw.length = n → x.length = n → y.length = n → stepB tw x y z → medB z x y = z
  | 0, [], _, _, _, _, _, _, h => by simp [stepB] at h
  | n + 1, t :: tw, a :: x, b :: y, [], _, _, _, h => by simp [stepB] at h
  | n + 1, t :: tw, a :: x, b :: y, c :: z, h0, h1, h2, h => by
    simp only [stepB, medB, List.length_cons] at *
    rcases h with ⟨rfl, h, rfl, rfl⟩ | ⟨rfl, h⟩
    · have : ∀ (z y : List Bool), z.length = y.length → medB z z y = z := by
        intro z
        induction z with
        | nil => intro y _; simp [medB]
        | cons d z ih => intro y hy; cases y with
          | nil => simp at hy
          | cons e y => simp only [medB]; rw [ih y (by simpa using hy)]; cases d <;> cases e <;> rfl
      rw [this z y (by omega)]
      cases a <;> cases c <;> first | rfl | exact absurd rfl h
    · rw [medB_step (n := n) (by omega) (by omega) (by omega) h]
      cases c <;> cases b <;> rfl

noncomputable def Conv (tw : List Bool) (S : List Bool → Bool) : Prop := ∀ x y, x.length = tw.length → y.length = tw.length → S x = true → S y = true → sameB tw x y → x ≠ y → ∃ z, S z = true ∧ stepB tw x y z
noncomputable def Medn (n : Nat) (S : List Bool → Bool) : Prop := ∀ x y z, x.length = n → y.length = n → z.length = n → S x = true → S y = true → S z = true → S (medB x y z) = true

theorem maj3_same (a b : Bool) : maj3 a a b = a := by cases a <;> cases b <;> rfl

theorem Medn.side {n S} (h : Medn (n + 1) S) (c : Bool) : Medn n (fun r => S (c :: r)) := by
  intro x y z h1 h2 h3 p q r
  have := h (c :: x) (c :: y) (c :: z) (by simp [h1]) (by simp [h2]) (by simp [h3]) p q r
  simpa only [medB, maj3_same] using this
theorem Medn.both {n S} (h : Medn (n + 1) S) : Medn n (fun r => S (false :: r) && S (true :: r)) := by
  intro x y z h1 h2 h3 p q r
  simp only [Bool.and_eq_true] at *
  exact ⟨h.side false x y z h1 h2 h3 p.1 q.1 r.1, h.side true x y z h1 h2 h3 p.2 q.2 r.2⟩
theorem Conv.side {t tw S} (h : Conv (t :: tw) S) (c : Bool) : Conv tw (fun r => S (c :: r)) := by
  intro x y h1 h2 p q s ne
  obtain ⟨z, hz, hs⟩ := h (c :: x) (c :: y) (by simp [h1]) (by simp [h2]) p q (by simp only [sameB]; exact ⟨fun _ => trivial, s⟩) (fun e => ne (List.cons.inj e).2)
  cases z with
  | nil => simp [stepB] at hs
  | cons d z =>
    simp only [stepB] at hs
    rcases hs with ⟨_, e, _⟩ | ⟨rfl, hs⟩
    · exact absurd rfl e
    · exact ⟨z, hz, hs⟩
theorem Conv.both {t tw S} (h : Conv (t :: tw) S) (hm : Medn (tw.length + 1) S) : Conv tw (fun r => S (false :: r) && S (true :: r)) := by
  intro x y h1 h2 p q s ne
  simp only [Bool.and_eq_true] at p q
  obtain ⟨z, hz, hs⟩ := h.side false x y h1 h2 p.1 q.1 s ne
  obtain ⟨i1, _, _⟩ := stepB_info (n := tw.length) rfl h1 h2 hs
  refine ⟨z, ?_, hs⟩
  have := hm (false :: z) (true :: x) (true :: y) (by simp [i1]) (by simp [h1]) (by simp [h2]) hz p.2 q.2
  simp only [medB, medB_step (n := tw.length) rfl h1 h2 hs] at this
  simp only [Bool.and_eq_true]
  exact ⟨hz, this⟩
theorem noE.mono : ∀ {tw} {S S' : List Bool → Bool}, (∀ r, S' r = true → S r = true) → noE tw S → noE tw S'
  | [], _, _, _, _ => by simp [noE]
  | t :: tw, S, S', hh, h => by
    simp only [noE] at *
    exact ⟨fun e r hr q => h.1 e r hr ⟨hh _ q.1, hh _ q.2⟩, h.2.1.mono (fun r q => hh _ q), h.2.2.mono (fun r q => hh _ q)⟩

theorem farB_zero : ∀ {n x y}, x.length = n → y.length = n → farB x y = 0 → x = y
  | 0, [], [], _, _, _ => rfl
  | n + 1, a :: x, b :: y, h1, h2, h => by
    simp only [farB, List.length_cons] at *
    by_cases e : a = b
    · rw [if_pos e] at h
      rw [e, farB_zero (n := n) (x := x) (y := y) (by omega) (by omega) (by omega)]
    · rw [if_neg e] at h; omega
/-- a walk from one side to the other crosses -/
theorem cross {tw S} (h : Conv (false :: tw) S) : ∀ k x y, farB x y = k → x.length = tw.length → y.length = tw.length → S (false :: x) = true → S (true :: y) = true → sameB tw x y → ∃ z, z.length = tw.length ∧ S (false :: z) = true ∧ S (true :: z) = true ∧ sameB tw x z := by
  intro k
  induction k with
  | zero =>
    intro x y hk h1 h2 p q s
    have := farB_zero h1 h2 hk
    subst this
    exact ⟨x, h1, p, q, s⟩
  | succ k ih =>
    intro x y hk h1 h2 p q s
    obtain ⟨z, hz, hs⟩ := h (false :: x) (true :: y) (by simp [h1]) (by simp [h2]) p q (by simp only [sameB]; exact ⟨(fun e => by cases e), s⟩) (fun e => by cases e)
    cases z with
    | nil => simp [stepB] at hs
    | cons d z =>
      simp only [stepB] at hs
      rcases hs with ⟨_, _, rfl, rfl⟩ | ⟨rfl, hs⟩
      · exact ⟨z, h1, p, hz, sameB_refl _ _⟩
      · obtain ⟨i1, i2, i3⟩ := stepB_info (n := tw.length) rfl h1 h2 hs
        obtain ⟨u, u1, u2, u3, u4⟩ := ih z y (by omega) i1 h2 hz q (sameB_trans (n := tw.length) rfl i1 h1 h2 (sameB_symm (n := tw.length) rfl h1 i1 i3) s)
        exact ⟨u, u1, u2, u3, sameB_trans (n := tw.length) rfl h1 i1 u1 i3 u4⟩

noncomputable def pick : List Bool → List Bool → List Bool
  | true :: tw, a :: x => a :: pick tw x
  | false :: tw, _ :: x => pick tw x
  | _, _ => []
theorem rowB_iff : ∀ {tw S r}, rowB tw S r = true ↔ ∃ x, x.length = tw.length ∧ S x = true ∧ pick tw x = r
  | [], S, [] => by
    simp only [rowB]
    exact ⟨fun h => ⟨[], rfl, h, rfl⟩, fun ⟨x, h, q, _⟩ => by cases x with | nil => exact q | cons _ _ => simp at h⟩
  | [], S, _ :: _ => by
    simp only [rowB]
    exact ⟨fun h => (by cases h), fun ⟨x, h, q, e⟩ => by cases x <;> simp [pick] at e⟩
  | true :: tw, S, [] => by
    simp only [rowB]
    exact ⟨fun h => (by cases h), fun ⟨x, h, q, e⟩ => by cases x with | nil => simp at h | cons a x => simp [pick] at e⟩
  | true :: tw, S, c :: r => by
    simp only [rowB]
    rw [rowB_iff]
    constructor
    · rintro ⟨x, h, q, e⟩; exact ⟨c :: x, by simp [h], q, by simp only [pick, e]⟩
    · rintro ⟨x, h, q, e⟩
      cases x with
      | nil => simp at h
      | cons a x =>
        simp only [pick, List.cons.injEq] at e
        obtain ⟨rfl, e⟩ := e
        exact ⟨x, by simpa using h, q, e⟩
  | false :: tw, S, r => by
    simp only [rowB, Bool.or_eq_true]
    rw [rowB_iff, rowB_iff]
    constructor
    · rintro (⟨x, h, q, e⟩ | ⟨x, h, q, e⟩)
      · exact ⟨false :: x, by simp [h], q, by simp only [pick, e]⟩
      · exact ⟨true :: x, by simp [h], q, by simp only [pick, e]⟩
    · rintro ⟨x, h, q, e⟩
      cases x with
      | nil => simp at h
      | cons a x =>
        simp only [pick] at e
        cases a
        · exact .inl ⟨x, by simpa using h, q, e⟩
        · exact .inr ⟨x, by simpa using h, q, e⟩
theorem pick_same : ∀ {n tw x y}, tw.length = n → x.length = n → y.length = n → (pick tw x = pick tw y ↔ sameB tw x y)
  | 0, [], [], [], _, _, _ => by simp [pick, sameB]
  | n + 1, true :: tw, a :: x, b :: y, h0, h1, h2 => by
    simp only [pick, sameB, List.length_cons, List.cons.injEq] at *
    rw [pick_same (n := n) (by omega) (by omega) (by omega)]
    simp
  | n + 1, false :: tw, a :: x, b :: y, h0, h1, h2 => by
    simp only [pick, sameB, List.length_cons] at *
    rw [pick_same (n := n) (by omega) (by omega) (by omega)]
    simp

theorem cntB_congr : ∀ n {R R' : List Bool → Bool}, (∀ r, r.length = n → R r = R' r) → cntB n R = cntB n R'
  | 0, R, R', h => by simp only [cntB, h [] rfl]
  | n + 1, R, R', h => by
    simp only [cntB]
    rw [cntB_congr n (fun r q => h _ (by simp [q])), cntB_congr n (R := fun r => R (true :: r)) (fun r q => h _ (by simp [q]))]
theorem cntB_or : ∀ n (R R' : List Bool → Bool), cntB n (fun r => R r || R' r) = cntB n R + cntB n R' - cntB n (fun r => R r && R' r)
  | 0, R, R' => by simp only [cntB]; generalize R [] = a; generalize R' [] = b; cases a <;> cases b <;> rfl
  | n + 1, R, R' => by
    simp only [cntB]
    rw [cntB_or n, cntB_or n]; omega
theorem chiB_none : ∀ n (S : List Bool → Bool), (∀ r, r.length = n → S r = false) → chiB n S = 0
  | 0, S, h => by simp only [chiB, h [] rfl]; rfl
  | n + 1, S, h => by
    simp only [chiB]
    rw [chiB_none n _ (fun r q => h _ (by simp [q])), chiB_none n (fun r => S (true :: r)) (fun r q => h _ (by simp [q])), chiB_none n _ (fun r q => by rw [h _ (by simp [q])]; rfl)]; rfl

/-- THE LAW: the Euler sum counts the rows -/
theorem chi_rows : ∀ (tw : List Bool) (S : List Bool → Bool), Medn tw.length S → Conv tw S → noE tw S → chiB tw.length S = cntB (nT tw) (rowB tw S)
  | [], S, _, _, _ => by simp only [List.length_nil, chiB, nT, cntB]; rfl
  | true :: tw, S, hm, hc, he => by
    simp only [List.length_cons, chiB, nT]
    show _ = cntB (nT tw) (rowB tw (fun x => S (false :: x))) + cntB (nT tw) (rowB tw (fun x => S (true :: x)))
    simp only [noE] at he
    rw [chi_rows tw _ (hm.side false) (hc.side false) he.2.1, chi_rows tw _ (hm.side true) (hc.side true) he.2.2, chiB_none tw.length _ (fun r q => by
      have := he.1 trivial r q
      cases h1 : S (false :: r) <;> cases h2 : S (true :: r) <;> simp_all)]
    omega
  | false :: tw, S, hm, hc, he => by
    simp only [List.length_cons, chiB, nT, cntB]
    simp only [noE] at he
    rw [chi_rows tw _ (hm.side false) (hc.side false) he.2.1, chi_rows tw _ (hm.side true) (hc.side true) he.2.2, chi_rows tw _ hm.both (hc.both hm) (he.2.1.mono (fun r q => (Bool.and_eq_true _ _ ▸ q).1))]
    have e : (fun r => rowB (false :: tw) S r) = fun r => rowB tw (fun x => S (false :: x)) r || rowB tw (fun x => S (true :: x)) r := by
      funext r
      simp only [rowB]
    show _ = cntB (nT tw) (fun r => rowB (false :: tw) S r)
    rw [e, cntB_or]
    congr 1
    refine cntB_congr _ fun r _ => ?_
    rw [Bool.eq_iff_iff, Bool.and_eq_true, rowB_iff, rowB_iff, rowB_iff]
    constructor
    · rintro ⟨x, h, q, e⟩
      rw [Bool.and_eq_true] at q
      exact ⟨⟨x, h, q.1, e⟩, ⟨x, h, q.2, e⟩⟩
    · rintro ⟨⟨x, h, q, e⟩, ⟨y, h', q', e'⟩⟩
      obtain ⟨z, z1, z2, z3, z4⟩ := cross hc _ x y rfl h h' q q' ((pick_same (n := tw.length) rfl h h').mp (e.trans e'.symm))
      exact ⟨z, z1, by rw [z2, z3]; rfl, ((pick_same (n := tw.length) rfl h z1).mpr z4).symm.trans e⟩
end Mine
end
section
open PySem PySem.W PyProof.Rows PySem.SeqAt
set_option Elab.async false
set_option linter.all false
namespace Mine
/-! # plain: the names -/
noncomputable def lt (q : Nat × Nat) (b : Bool) : Nat := cond b q.2 q.1
noncomputable def enc : List (Nat × Nat) → List Bool → List Nat
  | q :: ps, b :: bs => lt q b :: enc ps bs
  | _, _ => []
/-- two letters each, none of them the question mark -/
noncomputable def PsOk (ps : List (Nat × Nat)) : Prop := ∀ q ∈ ps, q.1 ≠ q.2 ∧ q.1 ≠ 63 ∧ q.2 ≠ 63
theorem PsOk.tail {q ps} (h : PsOk (q :: ps)) : PsOk ps := fun x hx => h x (List.mem_cons_of_mem _ hx)
theorem PsOk.head {q ps} (h : PsOk (q :: ps)) : q.1 ≠ q.2 ∧ q.1 ≠ 63 ∧ q.2 ≠ 63 := h q List.mem_cons_self
theorem lt_inj {q : Nat × Nat} (h : q.1 ≠ q.2) {a b : Bool} : lt q a = lt q b ↔ a = b := by
  cases a <;> cases b <;> simp [lt, h, h.symm]
theorem lt_63 {q : Nat × Nat} (h : q.1 ≠ q.2 ∧ q.1 ≠ 63 ∧ q.2 ≠ 63) (b : Bool) : lt q b ≠ 63 := by cases b <;> simp [lt, h.2.1, h.2.2]
theorem enc_len : ∀ {n ps bs}, ps.length = n → bs.length = n → (enc ps bs).length = n
  | 0, [], [], _, _ => rfl
  | n + 1, q :: ps, b :: bs, h1, h2 => by simp only [enc, List.length_cons] at *; rw [enc_len (n := n) (by omega) (by omega)]
theorem enc_inj : ∀ {n ps x y}, PsOk ps → ps.length = n → x.length = n → y.length = n → enc ps x = enc ps y → x = y
  | 0, [], [], [], _, _, _, _, _ => rfl
  | n + 1, q :: ps, a :: x, b :: y, hp, h1, h2, h3, h => by
    simp only [enc, List.length_cons, List.cons.injEq] at h h1 h2 h3
    rw [(lt_inj hp.head.1).mp h.1, enc_inj (n := n) hp.tail (by omega) (by omega) (by omega) h.2]
theorem enc_get : ∀ {n ps x} (p : Nat), ps.length = n → x.length = n → p < n → (enc ps x).getD p 0 = lt (ps.getD p (0, 0)) (x.getD p false)
  | n + 1, q :: ps, a :: x, 0, _, _, _ => rfl
  | n + 1, q :: ps, a :: x, p + 1, h1, h2, h3 => by
    simp only [List.length_cons] at *
    have := enc_get (n := n) (ps := ps) (x := x) p (by omega) (by omega) (by omega)
    simpa [enc] using this
/-- a list by its places -/
theorem eq_range {α : Type} (d : α) (l : List α) {n} (h : l.length = n) : l = (List.range n).map fun p => l.getD p d := by
  subst h
  refine List.ext_getElem (by simp) fun i h1 h2 => ?_
  simp [h1]
theorem getD_range {α : Type} (f : Nat → α) (d : α) {n p} (h : p < n) : ((List.range n).map f).getD p d = f p := by
  simp [h]
theorem enc_range : ∀ {n ps x}, ps.length = n → x.length = n → enc ps x = (List.range n).map fun p => lt (ps.getD p (0, 0)) (x.getD p false) := by
  intro n ps x h1 h2
  rw [eq_range 0 (enc ps x) (enc_len h1 h2)]
  refine List.map_congr_left fun p hp => ?_
  exact enc_get p h1 h2 (List.mem_range.mp hp)
theorem medB_get : ∀ {n x y z} (p : Nat), x.length = n → y.length = n → z.length = n → p < n → (medB x y z).getD p false = maj3 (x.getD p false) (y.getD p false) (z.getD p false)
  | n + 1, a :: x, b :: y, c :: z, 0, _, _, _, _ => rfl
  | n + 1, a :: x, b :: y, c :: z, p + 1, h1, h2, h3, h4 => by
    simp only [List.length_cons] at *
    have := medB_get (n := n) (x := x) (y := y) (z := z) p (by omega) (by omega) (by omega) (by omega)
    simpa [medB] using this
theorem mid1_lt {q : Nat × Nat} (h : q.1 ≠ q.2) (a b c : Bool) : mid1 (lt q a) (lt q b) (lt q c) = lt q (maj3 a b c) := by
  cases a <;> cases b <;> cases c <;> simp [lt, mid1, maj3, h, h.symm]
theorem mid_enc {n ps x y z} (hp : PsOk ps) (h0 : ps.length = n) (h1 : x.length = n) (h2 : y.length = n) (h3 : z.length = n) : mid (enc ps x) (enc ps y) (enc ps z) = enc ps (medB x y z) := by
  unfold mid
  rw [enc_len h0 h1, enc_range h0 (medB_len h1 h2 h3)]
  refine List.map_congr_left fun p hpp => ?_
  have hlt := List.mem_range.mp hpp
  rw [enc_get p h0 h1 hlt, enc_get p h0 h2 hlt, enc_get p h0 h3 hlt, medB_get p h1 h2 h3 hlt]
  refine mid1_lt (hp _ ?_).1 _ _ _
  rw [List.getD_eq_getElem?_getD, List.getElem?_eq_getElem (by omega)]; exact List.getElem_mem _

/-! ### the middles -/
theorem middles_mem {ns : List (List Nat)} {f} : f ∈ middles ns ↔ ∃ i j k, k < j ∧ j < i ∧ i < ns.length ∧ f = mid (ns.getD i []) (ns.getD j []) (ns.getD k []) := by
  unfold middles midI midJ midK
  simp only [List.mem_flatMap, List.mem_map, List.mem_range]
  constructor
  · rintro ⟨i, hi, j, hj, k, hk, rfl⟩; exact ⟨i, j, k, hk, hj, hi, rfl⟩
  · rintro ⟨i, j, k, hk, hj, hi, rfl⟩; exact ⟨i, hi, j, hj, k, hk, rfl⟩
/-- f is one of the names or the middle of three -/
noncomputable def oneMore (ns : List (List Nat)) (f : List Nat) : Prop := f ∈ ns ∨ f ∈ middles ns

theorem medB_comm12 : ∀ x y z : List Bool, medB x y z = medB y x z
  | a :: x, b :: y, c :: z => by simp only [medB]; rw [medB_comm12 x y z]; cases a <;> cases b <;> cases c <;> rfl
  | [], [], _ => rfl
  | [], _ :: _, _ => by simp [medB]
  | _ :: _, [], _ => by simp [medB]
  | _ :: _, _ :: _, [] => by simp [medB]
theorem medB_comm23 : ∀ x y z : List Bool, medB x y z = medB x z y
  | a :: x, b :: y, c :: z => by simp only [medB]; rw [medB_comm23 x y z]; cases a <;> cases b <;> cases c <;> rfl
  | [], _, _ => by simp [medB]
  | _ :: _, [], [] => rfl
  | _ :: _, [], _ :: _ => by simp [medB]
  | _ :: _, _ :: _, [] => by simp [medB]
theorem medB_same : ∀ {n} {x y : List Bool}, x.length = n → y.length = n → medB x x y = x
  | 0, [], [], _, _ => rfl
  | n + 1, a :: x, b :: y, h1, h2 => by
    simp only [medB, List.length_cons] at *
    rw [medB_same (n := n) (by omega) (by omega), maj3_same]

theorem oneMore_med {n ps} (hp : PsOk ps) (h0 : ps.length = n) {ns : List (List Nat)} {x y z} (h1 : x.length = n) (h2 : y.length = n) (h3 : z.length = n)
    (p1 : enc ps x ∈ ns) (p2 : enc ps y ∈ ns) (p3 : enc ps z ∈ ns) : oneMore ns (enc ps (medB x y z)) := by
  obtain ⟨i, hi, ei⟩ := List.mem_iff_getElem.mp p1
  obtain ⟨j, hj, ej⟩ := List.mem_iff_getElem.mp p2
  obtain ⟨k, hk, ek⟩ := List.mem_iff_getElem.mp p3
  have gi : ns.getD i [] = enc ps x := by rw [List.getD_eq_getElem?_getD, List.getElem?_eq_getElem hi, ei]; rfl
  have gj : ns.getD j [] = enc ps y := by rw [List.getD_eq_getElem?_getD, List.getElem?_eq_getElem hj, ej]; rfl
  have gk : ns.getD k [] = enc ps z := by rw [List.getD_eq_getElem?_getD, List.getElem?_eq_getElem hk, ek]; rfl
  have three : ∀ (i j k : Nat) x y z, x.length = n → y.length = n → z.length = n → ns.getD i [] = enc ps x → ns.getD j [] = enc ps y → ns.getD k [] = enc ps z → i < ns.length → k < j → j < i → oneMore ns (enc ps (medB x y z)) := by
    intro i j k x y z h1 h2 h3 gi gj gk hi hkj hji
    refine .inr (middles_mem.mpr ⟨i, j, k, hkj, hji, hi, ?_⟩)
    rw [gi, gj, gk, mid_enc hp h0 h1 h2 h3]
  by_cases e1 : i = j
  · subst e1
    have : x = y := enc_inj hp h0 h1 h2 (gi.symm.trans gj)
    subst this
    rw [medB_same h1 h3]; exact .inl p1
  by_cases e2 : j = k
  · subst e2
    have : y = z := enc_inj hp h0 h2 h3 (gj.symm.trans gk)
    subst this
    rw [medB_comm12, medB_comm23, medB_same h2 h1]; exact .inl p2
  by_cases e3 : i = k
  · subst e3
    have : x = z := enc_inj hp h0 h1 h3 (gi.symm.trans gk)
    subst this
    rw [medB_comm23, medB_same h1 h2]; exact .inl p1
  rcases Nat.lt_or_gt_of_ne e1 with a | a <;> rcases Nat.lt_or_gt_of_ne e2 with b | b <;> rcases Nat.lt_or_gt_of_ne e3 with c | c
  · -- i < j < k
    rw [show medB x y z = medB z y x by rw [medB_comm12, medB_comm23, medB_comm12]]
    exact three k j i z y x h3 h2 h1 gk gj gi hk a b
  · omega
  · -- i<j, k<j, i<k : j k i
    rw [show medB x y z = medB y z x by rw [medB_comm12, medB_comm23]]
    exact three j k i y z x h2 h3 h1 gj gk gi hj c b
  · -- i<j,k<j,k<i : j i k
    rw [medB_comm12]
    exact three j i k y x z h2 h1 h3 gj gi gk hj c a
  · -- j<i, j<k, i<k : k i j
    rw [show medB x y z = medB z x y by rw [medB_comm23, medB_comm12]]
    exact three k i j z x y h3 h1 h2 gk gi gj hk a c
  · -- j<i, j<k, k<i : i k j
    rw [medB_comm23]
    exact three i k j x z y h1 h3 h2 gi gk gj hi b c
  · omega
  · exact three i j k x y z h1 h2 h3 gi gj gk hi b a

/-! ### the twelve -/
noncomputable def majN (a b c : Nat) : Nat := (a &&& b) ||| ((b &&& c) ||| (a &&& c))
noncomputable def g4 : List Nat := [43690, 52428, 61680, 65280]
noncomputable def g8 : List Nat := [43690, 52428, 61680, 65280, 59624, 61064, 64160, 64704]
noncomputable def g12 : List Nat := [43690, 52428, 59624, 61064, 60072, 60616, 61680, 64160, 63712, 65280, 65152, 64704]
theorem g48 : ∀ a ∈ g4, ∀ b ∈ g4, ∀ c ∈ g4, majN a b c ∈ g8 := by decide +kernel
theorem g84 : ∀ m ∈ g8, m ∈ g4 ∨ ∃ a ∈ g4, ∃ b ∈ g4, ∃ c ∈ g4, m = majN a b c := by decide +kernel
theorem g812 : ∀ a ∈ g8, ∀ b ∈ g8, ∀ c ∈ g8, majN a b c ∈ g12 := by decide +kernel
theorem g128 : ∀ m ∈ g12, m ∈ g8 ∨ ∃ a ∈ g8, ∃ b ∈ g8, ∃ c ∈ g8, m = majN a b c := by decide +kernel
theorem g1212 : ∀ a ∈ g12, ∀ b ∈ g12, ∀ c ∈ g12, majN a b c ∈ g12 := by decide +kernel
theorem g4s : ∀ a ∈ g4, a ∈ g8 := by decide +kernel
theorem g8s : ∀ a ∈ g8, a ∈ g12 := by decide +kernel

noncomputable def colN (b1 b2 b3 b4 : List Bool) (p : Nat) : Nat := (b1.getD p false).toNat + 2 * (b2.getD p false).toNat + 4 * (b3.getD p false).toNat + 8 * (b4.getD p false).toNat
noncomputable def nmB (n : Nat) (b1 b2 b3 b4 : List Bool) (m : Nat) : List Bool := (List.range n).map fun p => m.testBit (colN b1 b2 b3 b4 p)
theorem nmB_len {n b1 b2 b3 b4 m} : (nmB n b1 b2 b3 b4 m).length = n := by simp [nmB]
theorem nmB_med {n b1 b2 b3 b4 a b c} : medB (nmB n b1 b2 b3 b4 a) (nmB n b1 b2 b3 b4 b) (nmB n b1 b2 b3 b4 c) = nmB n b1 b2 b3 b4 (majN a b c) := by
  rw [eq_range false (medB _ _ _) (medB_len (n := n) nmB_len nmB_len nmB_len)]
  refine List.map_congr_left fun p hp => ?_
  have hlt := List.mem_range.mp hp
  rw [medB_get (n := n) p nmB_len nmB_len nmB_len hlt]
  unfold nmB
  rw [getD_range _ _ hlt, getD_range _ _ hlt, getD_range _ _ hlt]
  unfold majN maj3
  rw [Nat.testBit_or, Nat.testBit_or, Nat.testBit_and, Nat.testBit_and, Nat.testBit_and]
  cases a.testBit (colN b1 b2 b3 b4 p) <;> cases b.testBit (colN b1 b2 b3 b4 p) <;> cases c.testBit (colN b1 b2 b3 b4 p) <;> rfl
theorem gen_bits : ∀ a b c d : Bool, Nat.testBit 43690 (a.toNat + 2 * b.toNat + 4 * c.toNat + 8 * d.toNat) = a ∧ Nat.testBit 52428 (a.toNat + 2 * b.toNat + 4 * c.toNat + 8 * d.toNat) = b ∧ Nat.testBit 61680 (a.toNat + 2 * b.toNat + 4 * c.toNat + 8 * d.toNat) = c ∧ Nat.testBit 65280 (a.toNat + 2 * b.toNat + 4 * c.toNat + 8 * d.toNat) = d := by decide +kernel
theorem nmB_gen {n b1 b2 b3 b4} (h1 : b1.length = n) (h2 : b2.length = n) (h3 : b3.length = n) (h4 : b4.length = n) :
    nmB n b1 b2 b3 b4 43690 = b1 ∧ nmB n b1 b2 b3 b4 52428 = b2 ∧ nmB n b1 b2 b3 b4 61680 = b3 ∧ nmB n b1 b2 b3 b4 65280 = b4 := by
  refine ⟨?_, ?_, ?_, ?_⟩
  · conv => rhs; rw [eq_range false b1 h1]
    exact List.map_congr_left fun p _ => (gen_bits _ _ _ _).1
  · conv => rhs; rw [eq_range false b2 h2]
    exact List.map_congr_left fun p _ => (gen_bits _ _ _ _).2.1
  · conv => rhs; rw [eq_range false b3 h3]
    exact List.map_congr_left fun p _ => (gen_bits _ _ _ _).2.2.1
  · conv => rhs; rw [eq_range false b4 h4]
    exact List.map_congr_left fun p _ => (gen_bits _ _ _ _).2.2.2
theorem oneMore_iff {n ps} (hp : PsOk ps) (h0 : ps.length = n) {b1 b2 b3 b4 : List Bool} {G G' : List Nat} (hG : ∀ a ∈ G, ∀ b ∈ G, ∀ c ∈ G, majN a b c ∈ G') (hG' : ∀ m ∈ G', m ∈ G ∨ ∃ a ∈ G, ∃ b ∈ G, ∃ c ∈ G, m = majN a b c) (hs : ∀ a ∈ G, a ∈ G')
    {ns : List (List Nat)} (h : ∀ f, f ∈ ns ↔ ∃ m ∈ G, f = enc ps (nmB n b1 b2 b3 b4 m)) (f : List Nat) : oneMore ns f ↔ ∃ m ∈ G', f = enc ps (nmB n b1 b2 b3 b4 m) := by
  constructor
  · rintro (q | q)
    · obtain ⟨m, hm, e⟩ := (h f).mp q; exact ⟨m, hs m hm, e⟩
    · obtain ⟨i, j, k, hkj, hji, hi, rfl⟩ := middles_mem.mp q
      have mem : ∀ i, i < ns.length → ns.getD i [] ∈ ns := fun i hi => by
        rw [List.getD_eq_getElem?_getD, List.getElem?_eq_getElem hi]; exact List.getElem_mem _
      obtain ⟨a, ha, ea⟩ := (h _).mp (mem i hi)
      obtain ⟨b, hb, eb⟩ := (h _).mp (mem j (by omega))
      obtain ⟨c, hc, ec⟩ := (h _).mp (mem k (by omega))
      refine ⟨majN a b c, hG a ha b hb c hc, ?_⟩
      rw [ea, eb, ec, mid_enc hp h0 nmB_len nmB_len nmB_len, nmB_med]
  · rintro ⟨m, hm, rfl⟩
    rcases hG' m hm with q | ⟨a, ha, b, hb, c, hc, rfl⟩
    · exact .inl ((h _).mpr ⟨m, q, rfl⟩)
    · rw [← nmB_med]
      exact oneMore_med hp h0 nmB_len nmB_len nmB_len ((h _).mpr ⟨a, ha, rfl⟩) ((h _).mpr ⟨b, hb, rfl⟩) ((h _).mpr ⟨c, hc, rfl⟩)
theorem told_iff {n ps} (hp : PsOk ps) (h0 : ps.length = n) {b1 b2 b3 b4 : List Bool} (h1 : b1.length = n) (h2 : b2.length = n) (h3 : b3.length = n) (h4 : b4.length = n) (f : List Nat) :
    f ∈ toldM [enc ps b1, enc ps b2, enc ps b3, enc ps b4] ↔ ∃ m ∈ g12, f = enc ps (nmB n b1 b2 b3 b4 m) := by
  obtain ⟨e1, e2, e3, e4⟩ := nmB_gen h1 h2 h3 h4
  have s1 : ∀ f, f ∈ [enc ps b1, enc ps b2, enc ps b3, enc ps b4] ↔ ∃ m ∈ g4, f = enc ps (nmB n b1 b2 b3 b4 m) := by
    intro f
    simp only [g4, List.mem_cons, List.not_mem_nil, or_false, exists_eq_or_imp, exists_eq_left, e1, e2, e3, e4]
  have s2 : ∀ f, f ∈ halfM [enc ps b1, enc ps b2, enc ps b3, enc ps b4] ↔ ∃ m ∈ g8, f = enc ps (nmB n b1 b2 b3 b4 m) := by
    intro f
    unfold halfM
    rw [mem_ddG, List.mem_append]
    exact oneMore_iff hp h0 g48 g84 g4s s1 f
  unfold toldM
  rw [List.mem_append]
  exact oneMore_iff hp h0 g812 g128 g8s s2 f
end Mine
end
section
open PySem PySem.W PyProof.Rows PySem.SeqAt
set_option Elab.async false
set_option linter.all false
namespace Mine
/-! # plain: steps between the names -/
theorem far_med : ∀ {n x y w}, x.length = n → y.length = n → w.length = n → farB x (medB x y w) ≤ farB x y ∧ ∀ p, p < n → x.getD p false ≠ y.getD p false → w.getD p false = x.getD p false → farB x (medB x y w) < farB x y
  | 0, [], [], [], _, _, _ => by simp [farB]
  | n + 1, a :: x, b :: y, c :: w, h1, h2, h3 => by
    simp only [List.length_cons] at h1 h2 h3
    obtain ⟨q1, q2⟩ := far_med (n := n) (x := x) (y := y) (w := w) (by omega) (by omega) (by omega)
    simp only [medB, farB]
    have hc : (if a = maj3 a b c then 0 else 1) ≤ if a = b then 0 else 1 := by cases a <;> cases b <;> cases c <;> decide
    refine ⟨by omega, fun p hp hne hw => ?_⟩
    cases p with
    | zero =>
      simp only [List.getD_cons_zero] at hne hw
      have : (if a = maj3 a b c then 0 else 1) < if a = b then 0 else 1 := by
        subst hw; cases c <;> cases b <;> first | exact absurd rfl hne | decide
      omega
    | succ p =>
      have := q2 p (by omega) (by simpa using hne) (by simpa using hw)
      omega
theorem step_med : ∀ {n tw x y w z}, tw.length = n → x.length = n → y.length = n → w.length = n → stepB tw x (medB x y w) z → stepB tw x y z
  | 0, [], _, _, _, _, _, _, _, _, h => by simp [stepB] at h
  | n + 1, t :: tw, a :: x, b :: y, c :: w, [], _, _, _, _, h => by simp [stepB, medB] at h
  | n + 1, t :: tw, a :: x, b :: y, c :: w, d :: z, h0, h1, h2, h3, h => by
    simp only [stepB, medB, List.length_cons] at *
    rcases h with ⟨e1, e2, e3, e4⟩ | ⟨e, h⟩
    · refine .inl ⟨e1, ?_, ?_, e4⟩
      · intro q; subst q; exact e2 (maj3_same _ _).symm
      · subst e3; revert e2; cases a <;> cases b <;> cases c <;> decide
    · exact .inr ⟨e, step_med (n := n) (by omega) (by omega) (by omega) (by omega) h⟩
theorem same_med : ∀ {n tw x y w}, tw.length = n → x.length = n → y.length = n → w.length = n → sameB tw x y → sameB tw x (medB x y w)
  | 0, [], _, _, _, _, _, _, _, _ => by simp [sameB]
  | n + 1, t :: tw, a :: x, b :: y, c :: w, h0, h1, h2, h3, h => by
    simp only [sameB, medB, List.length_cons] at *
    refine ⟨fun e => ?_, same_med (n := n) (by omega) (by omega) (by omega) (by omega) h.2⟩
    rw [h.1 e, maj3_same]
theorem same_get : ∀ {n tw x y}, tw.length = n → x.length = n → y.length = n → sameB tw x y → ∀ p, p < n → tw.getD p false = true → x.getD p false = y.getD p false
  | n + 1, t :: tw, a :: x, b :: y, h0, h1, h2, h, 0, _, e => by
    simp only [sameB] at h; exact h.1 e
  | n + 1, t :: tw, a :: x, b :: y, h0, h1, h2, h, p + 1, hp, e => by
    simp only [sameB, List.length_cons] at *
    have := same_get (n := n) (by omega) (by omega) (by omega) h.2 p (by omega) (by simpa using e)
    simpa using this
theorem ne_get : ∀ {n} {x y : List Bool}, x.length = n → y.length = n → x ≠ y → ∃ p, p < n ∧ x.getD p false ≠ y.getD p false
  | 0, [], [], _, _, h => absurd rfl h
  | n + 1, a :: x, b :: y, h1, h2, h => by
    simp only [List.length_cons] at h1 h2
    by_cases e : a = b
    · subst e
      obtain ⟨p, hp, q⟩ := ne_get (n := n) (x := x) (y := y) (by omega) (by omega) (fun e => h (by rw [e]))
      exact ⟨p + 1, by omega, by simpa using q⟩
    · exact ⟨0, by omega, e⟩
theorem one_or_two : ∀ {n tw x y}, tw.length = n → x.length = n → y.length = n → sameB tw x y → x ≠ y → stepB tw x y y ∨ ∃ i j, i < n ∧ j < n ∧ i ≠ j ∧ x.getD i false ≠ y.getD i false ∧ x.getD j false ≠ y.getD j false
  | 0, [], [], [], _, _, _, _, h => absurd rfl h
  | n + 1, t :: tw, a :: x, b :: y, h0, h1, h2, hs, h => by
    simp only [List.length_cons] at h0 h1 h2
    simp only [sameB] at hs
    simp only [stepB]
    by_cases e : a = b
    · subst e
      rcases one_or_two (n := n) (tw := tw) (x := x) (y := y) (by omega) (by omega) (by omega) hs.2 (fun e => h (by rw [e])) with q | ⟨i, j, hi, hj, hij, q1, q2⟩
      · exact .inl (.inr ⟨rfl, q⟩)
      · exact .inr ⟨i + 1, j + 1, by omega, by omega, by omega, by simpa using q1, by simpa using q2⟩
    · by_cases e2 : x = y
      · refine .inl (.inl ⟨?_, e, trivial, e2.symm⟩)
        cases t
        · rfl
        · exact absurd (hs.1 rfl) e
      · obtain ⟨p, hp, q⟩ := ne_get (n := n) (by omega) (by omega) e2
        exact .inr ⟨0, p + 1, by omega, by omega, by omega, by simpa using e, by simpa using q⟩

/-- two places that tell the same -/
noncomputable def TwinB (n : Nat) (S : List Bool → Bool) (i j : Nat) : Prop := ∀ x y, x.length = n → y.length = n → S x = true → S y = true → (x.getD i false = y.getD i false ↔ x.getD j false = y.getD j false)

theorem conv_of {tw : List Bool} {S : List Bool → Bool} (hm : Medn tw.length S) (ht : ∀ i j, i < tw.length → j < tw.length → i ≠ j → tw.getD i false = false → ¬ TwinB tw.length S i j) : Conv tw S := by
  have key : ∀ k x y, farB x y ≤ k → x.length = tw.length → y.length = tw.length → S x = true → S y = true → sameB tw x y → x ≠ y → ∃ z, S z = true ∧ stepB tw x y z := by
    intro k
    induction k with
    | zero => intro x y hk h1 h2 _ _ _ ne; exact absurd (farB_zero h1 h2 (by omega)) ne
    | succ k ih =>
      intro x y hk h1 h2 p q s ne
      rcases one_or_two (n := tw.length) rfl h1 h2 s ne with hst | ⟨i, j, hi, hj, hij, d1, d2⟩
      · exact ⟨y, q, hst⟩
      · have ti : tw.getD i false = false := by
          cases e : tw.getD i false
          · rfl
          · exact absurd (same_get (n := tw.length) rfl h1 h2 s i hi e) d1
        have hw : ∃ w, w.length = tw.length ∧ S w = true ∧ ¬ (w.getD i false = x.getD i false ↔ w.getD j false = x.getD j false) := by
          refine Classical.byContradiction fun hno => ht i j hi hj hij ti ?_
          intro u v hu hv su sv
          have e1 := Classical.byContradiction fun c => hno ⟨u, hu, su, c⟩
          have e2 := Classical.byContradiction fun c => hno ⟨v, hv, sv, c⟩
          revert e1 e2
          generalize u.getD i false = a
          generalize u.getD j false = b
          generalize v.getD i false = c
          generalize v.getD j false = d
          generalize x.getD i false = e
          generalize x.getD j false = f
          revert a b c d e f; decide
        obtain ⟨w, w1, w2, w3⟩ := hw
        have lm := medB_len h1 h2 w1
        obtain ⟨f1, f2⟩ := far_med h1 h2 w1
        have hlt : farB x (medB x y w) < farB x y := by
          by_cases c : w.getD i false = x.getD i false
          · exact f2 i hi d1 c
          · by_cases c' : w.getD j false = x.getD j false
            · exact f2 j hj d2 c'
            · exact absurd ⟨fun h => absurd h c, fun h => absurd h c'⟩ w3
        have hne : x ≠ medB x y w := by
          intro e
          have g1 := medB_get i h1 h2 w1 hi
          have g2 := medB_get j h1 h2 w1 hj
          rw [← e] at g1 g2
          revert g1 g2 w3 d1 d2
          generalize x.getD i false = a
          generalize x.getD j false = b
          generalize y.getD i false = c
          generalize y.getD j false = d
          generalize w.getD i false = e
          generalize w.getD j false = f
          revert a b c d e f; decide
        obtain ⟨z, hz, hst⟩ := ih x (medB x y w) (by omega) h1 lm p (hm x y w h1 h2 w1 p q w2) (same_med (n := tw.length) rfl h1 h2 w1 s) hne
        exact ⟨z, hz, step_med (n := tw.length) rfl h1 h2 w1 hst⟩
  intro x y h1 h2 p q s ne
  exact key _ x y (Nat.le_refl _) h1 h2 p q s ne

theorem noE_of : ∀ {tw : List Bool} {S : List Bool → Bool}, (∀ p, p < tw.length → tw.getD p false = true → ∀ x y, x.length = tw.length → y.length = tw.length → S x = true → S y = true → (∀ p', p' ≠ p → x.getD p' false = y.getD p' false) → x.getD p false = y.getD p false) → noE tw S
  | [], _, _ => by simp [noE]
  | t :: tw, S, h => by
    have sub : ∀ c, noE tw (fun r => S (c :: r)) := by
      intro c
      refine noE_of fun p hp ht x y h1 h2 sx sy hs => ?_
      have := h (p + 1) (by simp; omega) (by simpa using ht) (c :: x) (c :: y) (by simp [h1]) (by simp [h2]) sx sy (fun p' hp' => by
        cases p' with
        | zero => rfl
        | succ p' => simpa using hs p' (by omega))
      simpa using this
    simp only [noE]
    refine ⟨fun e r hr q => ?_, sub false, sub true⟩
    have := h 0 (by simp) (by simpa using e) (false :: r) (true :: r) (by simp [hr]) (by simp [hr]) q.1 q.2 (fun p' hp' => by
      cases p' with
      | zero => exact absurd rfl hp'
      | succ p' => simp)
    simp at this
theorem noE_twin {tw : List Bool} {S : List Bool → Bool} (h : ∀ i, i < tw.length → tw.getD i false = true → ∃ j, j ≠ i ∧ TwinB tw.length S i j) : noE tw S := by
  refine noE_of fun p hp ht x y h1 h2 sx sy hs => ?_
  obtain ⟨j, hj, T⟩ := h p hp ht
  exact (T x y h1 h2 sx sy).mpr (hs j hj)

/-- one side of S -/
noncomputable def sideB (S : List Bool → Bool) (p : Nat) (c : Bool) : List Bool → Bool := fun r => S r && (r.getD p false == c)
theorem Medn.at {n S} (h : Medn n S) {p} (hp : p < n) (c : Bool) : Medn n (sideB S p c) := by
  intro x y z h1 h2 h3 a b d
  simp only [sideB, Bool.and_eq_true, beq_iff_eq] at *
  refine ⟨h x y z h1 h2 h3 a.1 b.1 d.1, ?_⟩
  rw [medB_get p h1 h2 h3 hp, a.2, b.2, maj3_same]
theorem step_get : ∀ {n tw x y z}, tw.length = n → x.length = n → y.length = n → stepB tw x y z → ∀ p, p < n → x.getD p false = y.getD p false → z.getD p false = x.getD p false
  | n + 1, t :: tw, a :: x, b :: y, [], _, _, _, h, _, _, _ => by simp [stepB] at h
  | n + 1, t :: tw, a :: x, b :: y, c :: z, h0, h1, h2, h, p, hp, e => by
    simp only [stepB, List.length_cons] at h h0 h1 h2
    rcases h with ⟨e1, e2, e3, e4⟩ | ⟨e1, h⟩
    · cases p with
      | zero => exact absurd e e2
      | succ p => subst e4; rfl
    · cases p with
      | zero => simpa using e1
      | succ p => simpa using step_get (n := n) (by omega) (by omega) (by omega) h p (by omega) (by simpa using e)
theorem Conv.at {tw S} (h : Conv tw S) {p} (hp : p < tw.length) (c : Bool) : Conv tw (sideB S p c) := by
  intro x y h1 h2 a b s ne
  simp only [sideB, Bool.and_eq_true, beq_iff_eq] at a b
  obtain ⟨z, hz, hs⟩ := h x y h1 h2 a.1 b.1 s ne
  refine ⟨z, ?_, hs⟩
  simp only [sideB, Bool.and_eq_true, beq_iff_eq]
  exact ⟨hz, (step_get (n := tw.length) rfl h1 h2 hs p hp (a.2.trans b.2.symm)).trans a.2⟩
theorem noE.at {tw S} (h : noE tw S) (p : Nat) (c : Bool) : noE tw (sideB S p c) := h.mono fun r q => by
  simp only [sideB, Bool.and_eq_true] at q; exact q.1
end Mine
end
section
open PySem PySem.W PyProof.Rows PySem.SeqAt
set_option Elab.async false
set_option linter.all false
namespace Mine
/-! # plain: the patterns and their sums -/
noncomputable def allP : List (Nat × Nat) → List (List Nat)
  | [] => [[]]
  | q :: ps => (allP ps).map (q.1 :: ·) ++ ((allP ps).map (q.2 :: ·) ++ (allP ps).map (63 :: ·))
noncomputable def fullS : List (Nat × Nat) → (List Bool → Bool) → List Nat → Bool
  | [], S, [] => S []
  | q :: ps, S, c :: f => if c = 63 then fullS ps (fun r => S (false :: r) && S (true :: r)) f else fullS ps (fun r => S ((c == q.2) :: r)) f
  | _, _, _ => false
noncomputable def sm (P : List Nat → Bool) (L : List (List Nat)) : Int := ((L.filter P).map sgnM).sum
theorem sgn_63 (f : List Nat) : sgnM (63 :: f) = - sgnM f := by
  unfold sgnM
  rw [List.count_cons_self, Int.fmod_eq_emod_of_nonneg _ (by decide), Int.fmod_eq_emod_of_nonneg _ (by decide)]
  omega
theorem sgn_ne {c : Nat} (h : c ≠ 63) (f : List Nat) : sgnM (c :: f) = sgnM f := by
  unfold sgnM
  rw [List.count_cons_of_ne h]
theorem sm_append (P) (L L' : List (List Nat)) : sm P (L ++ L') = sm P L + sm P L' := by
  simp [sm]
theorem sm_cons (P) (f) (L : List (List Nat)) : sm P (f :: L) = (if P f then sgnM f else 0) + sm P L := by
  unfold sm
  by_cases h : P f = true <;> simp [h]
theorem sm_nil (P) : sm P [] = 0 := rfl
theorem sm_congr {P P' : List Nat → Bool} : ∀ {L : List (List Nat)}, (∀ f ∈ L, P f = P' f) → sm P L = sm P' L
  | [], _ => rfl
  | f :: L, h => by rw [sm_cons, sm_cons, h f List.mem_cons_self, sm_congr fun g hg => h g (List.mem_cons_of_mem _ hg)]
theorem sm_map_ne {P : List Nat → Bool} {c : Nat} (hc : c ≠ 63) : ∀ (L : List (List Nat)), sm P (L.map (c :: ·)) = sm (fun f => P (c :: f)) L
  | [] => rfl
  | f :: L => by rw [List.map_cons, sm_cons, sm_cons, sm_map_ne hc L, sgn_ne hc]
theorem sm_map_63 {P : List Nat → Bool} : ∀ (L : List (List Nat)), sm P (L.map (63 :: ·)) = - sm (fun f => P (63 :: f)) L
  | [] => rfl
  | f :: L => by
    rw [List.map_cons, sm_cons, sm_cons, sm_map_63 L, sgn_63]
    split <;> omega
theorem sm_full : ∀ {ps} (S : List Bool → Bool), PsOk ps → sm (fullS ps S) (allP ps) = chiB ps.length S
  | [], S, _ => by
    simp only [allP, sm_cons, sm_nil, List.length_nil, chiB, fullS]
    rcases Bool.eq_false_or_eq_true (S []) with h | h <;> simp only [h] <;> decide
  | q :: ps, S, hp => by
    obtain ⟨a, b, c⟩ := hp.head
    simp only [allP, sm_append, List.length_cons, chiB]
    rw [sm_map_ne b, sm_map_ne c, sm_map_63, ← sm_full _ hp.tail, ← sm_full _ hp.tail, ← sm_full _ hp.tail]
    simp only [fullS, if_neg b, if_neg c, if_pos]
    have e1 : (q.1 == q.2) = false := by simpa using a
    have e2 : (q.2 == q.2) = true := by simp
    rw [e1, e2]
    show sm (fullS ps fun r => S (false :: r)) (allP ps) + (sm (fullS ps fun r => S (true :: r)) (allP ps) + - sm (fullS ps fun r => S (false :: r) && S (true :: r)) (allP ps)) = _
    omega
theorem allP_mem : ∀ {ps f}, f ∈ allP ps ↔ f.length = ps.length ∧ ∀ p, p < ps.length → f.getD p 0 = 63 ∨ ∃ b, f.getD p 0 = lt (ps.getD p (0, 0)) b
  | [], f => by
    simp only [allP, List.mem_singleton, List.length_nil]
    constructor
    · rintro rfl; exact ⟨rfl, fun p h => absurd h (by omega)⟩
    · rintro ⟨h, _⟩; exact List.length_eq_zero_iff.mp h
  | q :: ps, f => by
    simp only [allP, List.mem_append, List.mem_map]
    constructor
    · have cons : ∀ (c : Nat) g, (c = 63 ∨ ∃ b, c = lt q b) → g ∈ allP ps → (c :: g).length = (q :: ps).length ∧ ∀ p, p < (q :: ps).length → (c :: g).getD p 0 = 63 ∨ ∃ b, (c :: g).getD p 0 = lt ((q :: ps).getD p (0, 0)) b := by
        intro c g hc hg
        obtain ⟨h1, h2⟩ := allP_mem.mp hg
        refine ⟨by simp [h1], fun p hp => ?_⟩
        cases p with
        | zero => simpa using hc
        | succ p => simpa using h2 p (by simpa using hp)
      rintro (⟨g, hg, rfl⟩ | ⟨g, hg, rfl⟩ | ⟨g, hg, rfl⟩)
      · exact cons _ g (.inr ⟨false, rfl⟩) hg
      · exact cons _ g (.inr ⟨true, rfl⟩) hg
      · exact cons _ g (.inl rfl) hg
    · rintro ⟨h1, h2⟩
      cases f with
      | nil => simp at h1
      | cons c g =>
        have hg : g ∈ allP ps := allP_mem.mpr ⟨by simpa using h1, fun p hp => by simpa using h2 (p + 1) (by simpa using hp)⟩
        rcases h2 0 (by simp) with h | ⟨b, h⟩
        · simp at h; subst h; exact .inr (.inr ⟨g, hg, rfl⟩)
        · simp at h
          cases b
          · exact .inl ⟨g, hg, by rw [h]; rfl⟩
          · exact .inr (.inl ⟨g, hg, by rw [h]; rfl⟩)
theorem full_none : ∀ {ps f} , fullS ps (fun _ => false) f = false
  | [], [] => rfl
  | [], _ :: _ => rfl
  | _ :: _, [] => rfl
  | q :: ps, c :: f => by
    simp only [fullS, Bool.and_self]
    rw [full_none]; split <;> rfl
theorem full_side : ∀ {ps} {S : List Bool → Bool} {p b f}, PsOk ps → p < ps.length → f ∈ allP ps → fullS ps (sideB S p b) f = (fullS ps S f && (f.getD p 0 == lt (ps.getD p (0, 0)) b))
  | q :: ps, S, p, b, [], _, _, hf => by
    have := (allP_mem.mp hf).1; simp at this
  | q :: ps, S, 0, b, c :: f, hp, _, hf => by
    obtain ⟨a1, a2, a3⟩ := hp.head
    have hc := (allP_mem.mp hf).2 0 (by simp)
    simp only [List.getD_cons_zero] at hc ⊢
    simp only [fullS, sideB, List.getD_cons_zero]
    rcases hc with rfl | ⟨d, rfl⟩
    · rw [if_pos rfl, if_pos rfl]
      have : (63 == lt q b) = false := by simpa using (lt_63 hp.head b).symm
      rw [this, Bool.and_false]
      refine Eq.trans ?_ (full_none (ps := ps) (f := f))
      congr 1
      funext r
      cases b <;> simp
    · rw [if_neg (lt_63 hp.head d), if_neg (lt_63 hp.head d)]
      have e : (lt q d == q.2) = d := by cases d <;> simp [lt, a1]
      have e' : (lt q d == lt q b) = (d == b) := by cases d <;> cases b <;> simp [lt, a1, a1.symm]
      rw [e, e']
      cases hdb : d == b
      · simp only [Bool.and_false]; exact full_none
      · simp only [Bool.and_true]
  | q :: ps, S, p + 1, b, c :: f, hp, hl, hf => by
    have hf' : f ∈ allP ps := by
      obtain ⟨h1, h2⟩ := allP_mem.mp hf
      exact allP_mem.mpr ⟨by simpa using h1, fun p hp => by simpa using h2 (p + 1) (by simpa using hp)⟩
    have hl' : p < ps.length := by simpa using hl
    simp only [List.getD_cons_succ]
    simp only [fullS]
    split
    · rw [← full_side hp.tail hl' hf']
      congr 1
      funext r
      simp only [sideB, List.getD_cons_succ]
      cases S (false :: r) <;> cases S (true :: r) <;> cases (r.getD p false == b) <;> rfl
    · rw [← full_side hp.tail hl' hf']
      congr 1
theorem sm_side {ps} {S : List Bool → Bool} {p} (hp : PsOk ps) (h : p < ps.length) (b : Bool) : sm (fun f => fullS ps S f && (f.getD p 0 == lt (ps.getD p (0, 0)) b)) (allP ps) = chiB ps.length (sideB S p b) := by
  rw [← sm_full _ hp]
  exact (sm_congr fun f hf => full_side hp h hf).symm
theorem sm_three {P A B C : List Nat → Bool} : ∀ {L : List (List Nat)}, (∀ f ∈ L, (A f = true ∧ B f = false ∧ C f = false) ∨ (A f = false ∧ B f = true ∧ C f = false) ∨ (A f = false ∧ B f = false ∧ C f = true)) → sm P L = sm (fun f => P f && A f) L + sm (fun f => P f && B f) L + sm (fun f => P f && C f) L
  | [], _ => rfl
  | f :: L, h => by
    rw [sm_cons, sm_cons, sm_cons, sm_cons, sm_three fun g hg => h g (List.mem_cons_of_mem _ hg)]
    rcases h f List.mem_cons_self with ⟨a, b, c⟩ | ⟨a, b, c⟩ | ⟨a, b, c⟩ <;> rw [a, b, c] <;> cases P f <;> simp <;> omega
theorem sm_quest {ps} {S : List Bool → Bool} {p} (hp : PsOk ps) (h : p < ps.length) : sm (fun f => fullS ps S f && (f.getD p 0 == 63)) (allP ps) = chiB ps.length S - chiB ps.length (sideB S p false) - chiB ps.length (sideB S p true) := by
  rw [← sm_full S hp, ← sm_side hp h, ← sm_side hp h, sm_three (P := fullS ps S) (A := fun f => f.getD p 0 == lt (ps.getD p (0, 0)) false) (B := fun f => f.getD p 0 == lt (ps.getD p (0, 0)) true) (C := fun f => f.getD p 0 == 63)]
  · omega
  · intro f hf
    have hq : ps.getD p (0, 0) ∈ ps := by rw [List.getD_eq_getElem?_getD, List.getElem?_eq_getElem h]; exact List.getElem_mem _
    obtain ⟨a1, a2, a3⟩ := hp _ hq
    have hf2 := (allP_mem.mp hf).2 p h
    generalize ps.getD p (0, 0) = q at *
    rcases hf2 with e | ⟨b, e⟩
    · rw [e]; simp [lt, a2.symm, a3.symm]
    · rw [e]; cases b <;> simp [lt, a1, a2, a3, a1.symm]
end Mine
end
section
open PySem PySem.W PyProof.Rows PySem.SeqAt
set_option Elab.async false
set_option linter.all false
namespace Mine
/-! # plain: the faces are the full patterns -/
noncomputable def corn : List (Nat × Nat) → List Nat → List (List Nat)
  | [], [] => [[]]
  | q :: ps, c :: f => if c = 63 then (corn ps f).map (q.1 :: ·) ++ (corn ps f).map (q.2 :: ·) else (corn ps f).map (c :: ·)
  | _, _ => []
theorem corn_len : ∀ {n ps f}, ps.length = n → f.length = n → (corn ps f).length = 2 ^ f.count 63
  | 0, [], [], _, _ => rfl
  | n + 1, q :: ps, c :: f, h1, h2 => by
    simp only [List.length_cons] at h1 h2
    have ih := corn_len (n := n) (ps := ps) (f := f) (by omega) (by omega)
    simp only [corn]
    split
    · rename_i e; subst e
      rw [List.length_append, List.length_map, List.length_map, List.count_cons_self, ih, Nat.pow_succ]; omega
    · rename_i e
      rw [List.length_map, List.count_cons_of_ne e, ih]
theorem corn_mem : ∀ {n ps f m}, ps.length = n → f.length = n → (m ∈ corn ps f ↔ m.length = n ∧ ∀ i, i < n → (f.getD i 0 = 63 ∧ ∃ b, m.getD i 0 = lt (ps.getD i (0, 0)) b) ∨ (f.getD i 0 ≠ 63 ∧ m.getD i 0 = f.getD i 0))
  | 0, [], [], m, _, _ => by
    simp only [corn, List.mem_singleton]
    exact ⟨fun h => ⟨by rw [h]; rfl, fun i hi => absurd hi (by omega)⟩, fun h => List.length_eq_zero_iff.mp h.1⟩
  | n + 1, q :: ps, c :: f, m, h1, h2 => by
    simp only [List.length_cons] at h1 h2
    have ih := fun m => corn_mem (n := n) (ps := ps) (f := f) (m := m) (by omega) (by omega)
    have h0 : ∀ m, m ∈ corn (q :: ps) (c :: f) ↔ ∃ d g, m = d :: g ∧ g ∈ corn ps f ∧ ((c = 63 ∧ ∃ b, d = lt q b) ∨ (c ≠ 63 ∧ d = c)) := by
      intro m
      simp only [corn]
      split
      · rename_i e
        simp only [List.mem_append, List.mem_map]
        constructor
        · rintro (⟨g, hg, rfl⟩ | ⟨g, hg, rfl⟩)
          · exact ⟨_, g, rfl, hg, .inl ⟨e, false, rfl⟩⟩
          · exact ⟨_, g, rfl, hg, .inl ⟨e, true, rfl⟩⟩
        · rintro ⟨d, g, rfl, hg, (⟨_, b, rfl⟩ | ⟨e', _⟩)⟩
          · cases b
            · exact .inl ⟨g, hg, rfl⟩
            · exact .inr ⟨g, hg, rfl⟩
          · exact absurd e e'
      · rename_i e
        simp only [List.mem_map]
        constructor
        · rintro ⟨g, hg, rfl⟩; exact ⟨_, g, rfl, hg, .inr ⟨e, rfl⟩⟩
        · rintro ⟨d, g, rfl, hg, (⟨e', _⟩ | ⟨_, rfl⟩)⟩
          · exact absurd e' e
          · exact ⟨g, hg, rfl⟩
    rw [h0]
    constructor
    · rintro ⟨d, g, rfl, hg, hd⟩
      obtain ⟨l1, l2⟩ := (ih g).mp hg
      refine ⟨by simp [l1], fun i hi => ?_⟩
      cases i with
      | zero => exact hd
      | succ i => simpa using l2 i (by omega)
    · rintro ⟨l1, l2⟩
      cases m with
      | nil => simp at l1
      | cons d g =>
        refine ⟨d, g, rfl, (ih g).mpr ⟨by simpa using l1, fun i hi => by simpa using l2 (i + 1) (by omega)⟩, ?_⟩
        exact l2 0 (by omega)
theorem nodup_map_cons {α : Type} (c : α) {L : List (List α)} (h : L.Nodup) : (L.map (c :: ·)).Nodup := by
  unfold List.Nodup at *
  rw [List.pairwise_map]
  exact h.imp fun hne e => hne (List.cons.inj e).2
theorem corn_nodup : ∀ {n ps f}, PsOk ps → ps.length = n → f.length = n → (corn ps f).Nodup
  | 0, [], [], _, _, _ => by simp [corn]
  | n + 1, q :: ps, c :: f, hp, h1, h2 => by
    simp only [List.length_cons] at h1 h2
    have ih := corn_nodup (n := n) (ps := ps) (f := f) hp.tail (by omega) (by omega)
    simp only [corn]
    split
    · rw [List.nodup_append]
      refine ⟨nodup_map_cons _ ih, nodup_map_cons _ ih, fun a ha b hb e => ?_⟩
      obtain ⟨g, _, rfl⟩ := List.mem_map.mp ha
      obtain ⟨g', _, rfl⟩ := List.mem_map.mp hb
      exact hp.head.1 (List.cons.inj e).1
    · exact nodup_map_cons _ ih
theorem full_corn : ∀ {ps f} {T : List Nat → Bool}, PsOk ps → f ∈ allP ps → fullS ps (fun x => T (enc ps x)) f = (corn ps f).all T
  | [], [], T, _, _ => by simp [fullS, corn, enc]
  | [], _ :: _, T, _, hf => by simp [allP] at hf
  | q :: ps, [], T, _, hf => by have := (allP_mem.mp hf).1; simp at this
  | q :: ps, c :: f, T, hp, hf => by
    obtain ⟨a1, a2, a3⟩ := hp.head
    have hf' : f ∈ allP ps := by
      obtain ⟨h1, h2⟩ := allP_mem.mp hf
      exact allP_mem.mpr ⟨by simpa using h1, fun p hp => by simpa using h2 (p + 1) (by simpa using hp)⟩
    have hc := (allP_mem.mp hf).2 0 (by simp)
    simp only [List.getD_cons_zero] at hc
    simp only [fullS, corn, enc]
    rcases hc with rfl | ⟨d, rfl⟩
    · rw [if_pos rfl, if_pos rfl, full_corn (T := fun m => T (lt q false :: m) && T (lt q true :: m)) hp.tail hf', List.all_append, List.all_map, List.all_map]
      rw [Bool.eq_iff_iff]
      simp only [List.all_eq_true, Bool.and_eq_true, Function.comp]
      exact ⟨fun h => ⟨fun m hm => (h m hm).1, fun m hm => (h m hm).2⟩, fun h m hm => ⟨h.1 m hm, h.2 m hm⟩⟩
    · have e : (lt q d == q.2) = d := by cases d <;> simp [lt, a1]
      rw [if_neg (lt_63 hp.head d), if_neg (lt_63 hp.head d), e, full_corn (T := fun m => T (lt q d :: m)) hp.tail hf', List.all_map]
      rfl
theorem taken_iff {f m : List Nat} : taken (f.map po) m = true ↔ f.length = m.length ∧ ∀ k, k < m.length → f.getD k 0 = 63 ∨ f.getD k 0 = m.getD k 0 := by
  unfold taken
  rw [Bool.and_eq_true, List.length_map, beq_iff_eq]
  refine and_congr_right fun hl => ?_
  rw [List.isEmpty_iff, List.filter_eq_nil_iff]
  refine ⟨fun h k hk => ?_, fun h k hk => ?_⟩
  · have := h k (List.mem_range.mpr hk)
    unfold bad at this
    rw [List.getElem?_map, List.getElem?_eq_getElem (by omega)] at this
    simp only [Option.map_some, po] at this
    rw [List.getD_eq_getElem?_getD, List.getElem?_eq_getElem (by omega)]
    simp only [Option.getD_some]
    split at this
    · rename_i e; exact .inl e
    · simp [ob] at this
      refine .inr ?_
      simpa using this
  · have hk' := List.mem_range.mp hk
    have := h k hk'
    unfold bad
    rw [List.getElem?_map, List.getElem?_eq_getElem (by omega)]
    rw [List.getD_eq_getElem?_getD, List.getElem?_eq_getElem (by omega)] at this
    simp only [Option.map_some, po, Option.getD_some] at this ⊢
    split
    · simp [ob]
    · rename_i e
      rcases this with q | q
      · exact absurd q e
      · simp [ob, q]

section
variable {ps : List (Nat × Nat)} {ns : List (List Nat)}
/-- the names: no two alike, each of the two letters of every place -/
structure NsOk (ps : List (Nat × Nat)) (ns : List (List Nat)) : Prop where
  nodup : ns.Nodup
  bits : ∀ m ∈ ns, ∃ x, x.length = ps.length ∧ m = enc ps x
noncomputable def inN (ps : List (Nat × Nat)) (ns : List (List Nat)) : List Bool → Bool := fun x => ns.contains (enc ps x)
theorem fullM_eq (hp : PsOk ps) (hn : NsOk ps ns) {f} (hf : f ∈ allP ps) : fullM ns f = fullS ps (inN ps ns) f := by
  have hl := (allP_mem.mp hf).1
  unfold inN
  rw [full_corn (T := ns.contains) hp hf]
  unfold fullM
  have e : (ns.filter (taken (f.map po))).length = ((corn ps f).filter ns.contains).length := by
    refine List.Perm.length_eq ((List.perm_ext_iff_of_nodup (hn.nodup.filter _) ((corn_nodup hp rfl hl).filter _)).mpr fun m => ?_)
    rw [List.mem_filter, List.mem_filter, corn_mem rfl hl, taken_iff]
    constructor
    · rintro ⟨hm, h1, h2⟩
      obtain ⟨x, hx, rfl⟩ := hn.bits m hm
      have hle := enc_len (ps := ps) rfl hx
      refine ⟨⟨hle, fun i hi => ?_⟩, by simpa using hm⟩
      rcases h2 i (by omega) with q | q
      · exact .inl ⟨q, _, enc_get i rfl hx hi⟩
      · by_cases h63 : f.getD i 0 = 63
        · exact .inl ⟨h63, _, enc_get i rfl hx hi⟩
        · exact .inr ⟨h63, q.symm⟩
    · rintro ⟨⟨h1, h2⟩, hm⟩
      refine ⟨by simpa using hm, by omega, fun k hk => ?_⟩
      rcases h2 k (by omega) with q | q
      · exact .inl q.1
      · exact .inr q.2.symm
  rw [e, ← corn_len rfl hl, Bool.eq_iff_iff, beq_iff_eq, List.length_filter_eq_length_iff, List.all_eq_true]
theorem patsM_iff {m : List Nat} : ∀ {p f}, f ∈ patsM ns ps m p ↔ f.length = p ∧ ∀ i, i < p → [f.getD i 0] ∈ signsM ns m i (ps.getD i (0, 0))
  | 0, f => by
    simp only [patsM, List.mem_singleton]
    exact ⟨fun h => ⟨by rw [h]; rfl, fun i hi => absurd hi (by omega)⟩, fun h => List.length_eq_zero_iff.mp h.1⟩
  | p + 1, f => by
    simp only [patsM, List.mem_flatMap, List.mem_map]
    constructor
    · rintro ⟨g, hg, s, hs, rfl⟩
      obtain ⟨l1, l2⟩ := patsM_iff.mp hg
      have hs1 : ∃ c, s = [c] := by
        unfold signsM at hs
        split at hs
        · simp at hs; rcases hs with rfl | rfl <;> exact ⟨_, rfl⟩
        · simp at hs; exact ⟨_, hs⟩
      obtain ⟨c, rfl⟩ := hs1
      refine ⟨by simp [l1], fun i hi => ?_⟩
      by_cases e : i = p
      · subst e
        rw [show (g ++ [c]).getD i 0 = c by rw [List.getD_eq_getElem?_getD, List.getElem?_append_right (by omega)]; simp [l1]]
        exact hs
      · rw [show (g ++ [c]).getD i 0 = g.getD i 0 by rw [List.getD_eq_getElem?_getD, List.getElem?_append_left (by omega), ← List.getD_eq_getElem?_getD]]
        exact l2 i (by omega)
    · rintro ⟨l1, l2⟩
      refine ⟨f.take p, patsM_iff.mpr ⟨by simp [l1], fun i hi => ?_⟩, [f.getD p 0], l2 p (by omega), ?_⟩
      · rw [show (f.take p).getD i 0 = f.getD i 0 by rw [List.getD_eq_getElem?_getD, List.getElem?_take_of_lt hi, ← List.getD_eq_getElem?_getD]]
        exact l2 i (by omega)
      · rw [List.getD_eq_getElem?_getD, List.getElem?_eq_getElem (by omega)]
        simp only [Option.getD_some]
        rw [List.take_append_getElem]
        exact List.take_of_length_le (by omega)
theorem sign_iff {m : List Nat} {p : Nat} {q : Nat × Nat} {c : Nat} : [c] ∈ signsM ns m p q ↔ (canUp ns m p q = true ∧ (c = q.1 ∨ c = 63)) ∨ (canUp ns m p q = false ∧ c = m.getD p 0) := by
  unfold signsM
  split
  · rename_i h; simp [h]
  · rename_i h; simp [h]
theorem low_of {m : List Nat} {p : Nat} {q : Nat × Nat} {c : Nat} (hm : m.getD p 0 ≠ 63) (h : [c] ∈ signsM ns m p q) : m.getD p 0 = if c = 63 then q.1 else c := by
  rcases sign_iff.mp h with ⟨h1, h2⟩ | ⟨h1, rfl⟩
  · unfold canUp at h1
    rw [Bool.and_eq_true, beq_iff_eq] at h1
    rcases h2 with rfl | rfl
    · rw [if_neg (h1.1 ▸ hm)]; exact h1.1
    · rw [if_pos rfl]; exact h1.1
  · rw [if_neg hm]
theorem patsM_nodup {m : List Nat} (hp : PsOk ps) : ∀ {p}, p ≤ ps.length → (patsM ns ps m p).Nodup
  | 0, _ => by simp [patsM]
  | p + 1, h => by
    simp only [patsM]
    unfold List.Nodup
    rw [List.pairwise_flatMap]
    constructor
    · intro g hg
      rw [List.pairwise_map]
      have : (signsM ns m p (ps.getD p (0, 0))).Nodup := by
        unfold signsM
        split
        · have hq : ps.getD p (0, 0) ∈ ps := by rw [List.getD_eq_getElem?_getD, List.getElem?_eq_getElem (by omega)]; exact List.getElem_mem _
          have := (hp _ hq).2.1
          simp only [List.nodup_cons, List.mem_singleton, List.not_mem_nil, not_false_iff, List.nodup_nil, and_true]
          exact fun e => this (List.cons.inj e).1
        · simp
      exact this.imp fun hne e => hne (List.append_cancel_left e)
    · have ih := patsM_nodup (m := m) hp (p := p) (by omega)
      refine List.Pairwise.imp_of_mem (fun {a b} ha hb hne x hx y hy e => hne ?_) ih
      obtain ⟨s, _, rfl⟩ := List.mem_map.mp hx
      obtain ⟨s', _, rfl⟩ := List.mem_map.mp hy
      exact (List.append_inj e (by rw [(patsM_iff.mp ha).1, (patsM_iff.mp hb).1])).1
end
end Mine
end
section
open PySem PySem.W PyProof.Rows PySem.SeqAt
set_option Elab.async false
set_option linter.all false
namespace Mine
/-! # plain: the faces' sums -/
section
variable {ps : List (Nat × Nat)} {ns : List (List Nat)}
theorem getD_ps {p : Nat} (h : p < ps.length) : ps.getD p (0, 0) ∈ ps := by rw [List.getD_eq_getElem?_getD, List.getElem?_eq_getElem h]; exact List.getElem_mem _
theorem name_ne {m : List Nat} (hp : PsOk ps) (hn : NsOk ps ns) (hm : m ∈ ns) {p : Nat} (h : p < ps.length) : m.getD p 0 ≠ 63 := by
  obtain ⟨x, hx, rfl⟩ := hn.bits m hm
  rw [enc_get p rfl hx h]
  exact lt_63 (hp _ (getD_ps h)) _
theorem list_ext_getD {a b : List Nat} {n : Nat} (h1 : a.length = n) (h2 : b.length = n) (h : ∀ i, i < n → a.getD i 0 = b.getD i 0) : a = b := by
  rw [eq_range 0 a h1, eq_range 0 b h2]
  exact List.map_congr_left fun p hp => h p (List.mem_range.mp hp)
theorem faces_nodup (h5 : ps.length = 5) (hp : PsOk ps) (hn : NsOk ps ns) : (facesM ns ps).Nodup := by
  unfold facesM List.Nodup
  rw [List.pairwise_flatMap]
  refine ⟨fun m hm => (patsM_nodup hp (by omega)).filter _, ?_⟩
  refine List.Pairwise.imp_of_mem (fun {a b} ha hb hne x hx y hy e => hne ?_) hn.nodup
  subst e
  obtain ⟨l1, i1⟩ := patsM_iff.mp (List.mem_filter.mp hx).1
  obtain ⟨l2, i2⟩ := patsM_iff.mp (List.mem_filter.mp hy).1
  have la : a.length = 5 := by obtain ⟨u, hu, rfl⟩ := hn.bits a ha; exact enc_len h5 (hu.trans h5)
  have lb : b.length = 5 := by obtain ⟨u, hu, rfl⟩ := hn.bits b hb; exact enc_len h5 (hu.trans h5)
  refine list_ext_getD la lb fun i hi => ?_
  rw [low_of (name_ne hp hn ha (by omega)) (i1 i hi), low_of (name_ne hp hn hb (by omega)) (i2 i hi)]
theorem upN_get {m : List Nat} {p hi i : Nat} (hl : p < m.length) : (upN m p hi).getD i 0 = if i = p then hi else m.getD i 0 := by
  have e : upN m p hi = m.set p hi := by rw [List.set_eq_take_append_cons_drop, if_pos hl]; simp [upN]
  rw [e, List.getD_eq_getElem?_getD, List.getElem?_set]
  by_cases h : p = i
  · subst h; simp [hl]
  · rw [if_neg h, if_neg (fun q => h q.symm), ← List.getD_eq_getElem?_getD]
theorem upN_len {m : List Nat} {p hi : Nat} (hl : p < m.length) : (upN m p hi).length = m.length := by simp [upN]; omega
theorem full_iff {ps : List (Nat × Nat)} {ns} (hp : PsOk ps) {f} (hf : f ∈ allP ps) : fullS ps (inN ps ns) f = true ↔ ∀ m ∈ corn ps f, m ∈ ns := by
  unfold inN
  rw [full_corn (T := ns.contains) hp hf, List.all_eq_true]
  simp
theorem faces_iff (h5 : ps.length = 5) (hp : PsOk ps) (hn : NsOk ps ns) {f} : f ∈ facesM ns ps ↔ f ∈ (allP ps).filter (fullS ps (inN ps ns)) := by
  unfold facesM
  rw [List.mem_flatMap, List.mem_filter]
  constructor
  · rintro ⟨m, hm, hf⟩
    obtain ⟨h1, h2⟩ := List.mem_filter.mp hf
    obtain ⟨l1, i1⟩ := patsM_iff.mp h1
    obtain ⟨x, hx, rfl⟩ := hn.bits m hm
    have ha : f ∈ allP ps := by
      refine allP_mem.mpr ⟨by omega, fun p hpp => ?_⟩
      rcases sign_iff.mp (i1 p (by omega)) with ⟨_, q | q⟩ | ⟨_, q⟩
      · exact .inr ⟨false, q⟩
      · exact .inl q
      · exact .inr ⟨_, q.trans (enc_get p rfl hx hpp)⟩
    exact ⟨ha, fullM_eq hp hn ha ▸ h2⟩
  · rintro ⟨ha, hfull⟩
    have hfm := (fullM_eq hp hn ha).trans hfull
    obtain ⟨l1, i1⟩ := allP_mem.mp ha
    rw [full_iff hp ha] at hfull
    -- the lowest corner
    have hlow : ∃ m : List Nat, m.length = 5 ∧ ∀ i, i < 5 → m.getD i 0 = if f.getD i 0 = 63 then (ps.getD i (0, 0)).1 else f.getD i 0 := by
      refine ⟨(List.range 5).map fun i => if f.getD i 0 = 63 then (ps.getD i (0, 0)).1 else f.getD i 0, by simp, fun i hi => ?_⟩
      rw [getD_range _ _ hi]
    obtain ⟨m, lm, im⟩ := hlow
    have hmc : m ∈ corn ps f := by
      rw [corn_mem h5 (by omega)]
      refine ⟨lm, fun i hi => ?_⟩
      rw [im i hi]
      by_cases h : f.getD i 0 = 63
      · rw [if_pos h]; exact .inl ⟨h, false, rfl⟩
      · rw [if_neg h]; exact .inr ⟨h, rfl⟩
    have hm := hfull m hmc
    refine ⟨m, hm, List.mem_filter.mpr ⟨patsM_iff.mpr ⟨by omega, fun i hi => ?_⟩, hfm⟩⟩
    rw [sign_iff]
    by_cases h : f.getD i 0 = 63
    · refine .inl ⟨?_, .inr h⟩
      unfold canUp
      rw [Bool.and_eq_true, beq_iff_eq, im i hi, if_pos h]
      refine ⟨rfl, ?_⟩
      have : upN m i (ps.getD i (0, 0)).2 ∈ ns := by
        refine hfull _ ((corn_mem h5 (by omega)).mpr ⟨by rw [upN_len (by omega), lm], fun j hj => ?_⟩)
        rw [upN_get (by omega)]
        by_cases e : j = i
        · subst e; rw [if_pos rfl]; exact .inl ⟨h, true, rfl⟩
        · rw [if_neg e]
          exact ((corn_mem h5 (by omega)).mp hmc).2 j hj
      simpa using this
    · have e := im i hi
      rw [if_neg h] at e
      cases hc : canUp ns m i (ps.getD i (0, 0))
      · exact .inr ⟨rfl, e.symm⟩
      · refine .inl ⟨rfl, .inl ?_⟩
        unfold canUp at hc
        rw [Bool.and_eq_true, beq_iff_eq] at hc
        exact e.symm.trans hc.1
theorem sumM_eq (h5 : ps.length = 5) (hp : PsOk ps) (hn : NsOk ps ns) (p c : Nat) : sumM (facesM ns ps) p c = sm (fun f => fullS ps (inN ps ns) f && (f.getD p 0 == c)) (allP ps) := by
  have hall : (allP ps).Nodup := by
    have : ∀ {ps : List (Nat × Nat)}, PsOk ps → (allP ps).Nodup := by
      intro ps
      induction ps with
      | nil => intro _; simp [allP]
      | cons q ps ih =>
        intro hp
        have := ih hp.tail
        obtain ⟨a, b, c⟩ := hp.head
        simp only [allP]
        rw [List.nodup_append, List.nodup_append]
        refine ⟨nodup_map_cons _ this, ⟨nodup_map_cons _ this, nodup_map_cons _ this, fun x hx y hy e => ?_⟩, fun x hx y hy e => ?_⟩
        · obtain ⟨g, _, rfl⟩ := List.mem_map.mp hx
          obtain ⟨g', _, rfl⟩ := List.mem_map.mp hy
          exact c (List.cons.inj e).1
        · obtain ⟨g, _, rfl⟩ := List.mem_map.mp hx
          rcases List.mem_append.mp hy with hy | hy <;> obtain ⟨g', _, rfl⟩ := List.mem_map.mp hy
          · exact a (List.cons.inj e).1
          · exact b (List.cons.inj e).1
    exact this hp
  have hperm := (List.perm_ext_iff_of_nodup (faces_nodup h5 hp hn) (hall.filter (fullS ps (inN ps ns)))).mpr fun f => faces_iff h5 hp hn
  unfold sumM sm
  have h2 := ((hperm.filter fun f => f.getD p 0 == c).map sgnM)
  rw [List.filter_filter] at h2
  have h3 : ∀ {a b : List Int}, a.Perm b → a.sum = b.sum := by
    intro a b h
    induction h with
    | nil => rfl
    | cons x _ ih => rw [List.sum_cons, List.sum_cons, ih]
    | swap x y l => simp only [List.sum_cons]; omega
    | trans _ _ i1 i2 => exact i1.trans i2
  rw [h3 h2]
  congr 3
  funext f
  exact Bool.and_comm _ _

/-! ### rows -/
noncomputable def pickP : List Bool → List (Nat × Nat) → List (Nat × Nat)
  | true :: tw, a :: x => a :: pickP tw x
  | false :: tw, _ :: x => pickP tw x
  | _, _ => []
noncomputable def pickN : List Bool → List Nat → List Nat
  | true :: tw, a :: x => a :: pickN tw x
  | false :: tw, _ :: x => pickN tw x
  | _, _ => []
theorem pickN_enc : ∀ {n tw ps x}, tw.length = n → ps.length = n → x.length = n → pickN tw (enc ps x) = enc (pickP tw ps) (pick tw x)
  | 0, [], [], [], _, _, _ => rfl
  | n + 1, true :: tw, q :: ps, b :: x, h0, h1, h2 => by
    simp only [List.length_cons] at h0 h1 h2
    simp only [enc, pickN, pickP, pick]; rw [pickN_enc (n := n) (by omega) (by omega) (by omega)]
  | n + 1, false :: tw, q :: ps, b :: x, h0, h1, h2 => by
    simp only [List.length_cons] at h0 h1 h2
    simp only [enc, pickN, pickP, pick]; rw [pickN_enc (n := n) (by omega) (by omega) (by omega)]
theorem pick_len : ∀ {n tw x}, tw.length = n → x.length = n → (pick tw x).length = nT tw
  | 0, [], [], _, _ => rfl
  | n + 1, true :: tw, b :: x, h0, h1 => by
    simp only [List.length_cons] at h0 h1
    simp only [pick, nT, List.length_cons]; rw [pick_len (n := n) (by omega) (by omega)]
  | n + 1, false :: tw, b :: x, h0, h1 => by
    simp only [List.length_cons] at h0 h1
    simp only [pick, nT]; rw [pick_len (n := n) (by omega) (by omega)]
theorem pickP_len : ∀ {n tw} {x : List (Nat × Nat)}, tw.length = n → x.length = n → (pickP tw x).length = nT tw
  | 0, [], [], _, _ => rfl
  | n + 1, true :: tw, b :: x, h0, h1 => by
    simp only [List.length_cons] at h0 h1
    simp only [pickP, nT, List.length_cons]; rw [pickP_len (n := n) (by omega) (by omega)]
  | n + 1, false :: tw, b :: x, h0, h1 => by
    simp only [List.length_cons] at h0 h1
    simp only [pickP, nT]; rw [pickP_len (n := n) (by omega) (by omega)]
theorem pickP_ok : ∀ {tw ps}, PsOk ps → PsOk (pickP tw ps)
  | [], _, _ => by simp [pickP, PsOk]
  | true :: tw, [], _ => by simp [pickP, PsOk]
  | false :: tw, [], _ => by simp [pickP, PsOk]
  | true :: tw, q :: ps, h => by
    simp only [pickP]
    intro x hx
    rcases List.mem_cons.mp hx with rfl | hx
    · exact h.head
    · exact pickP_ok (tw := tw) h.tail x hx
  | false :: tw, q :: ps, h => by simp only [pickP]; exact pickP_ok h.tail
/-- a set of rows counted -/
theorem cnt_len : ∀ {qs : List (Nat × Nat)}, PsOk qs → ∀ (R : List Bool → Bool) (L : List (List Nat)), L.Nodup → (∀ m, m ∈ L ↔ ∃ r, r.length = qs.length ∧ R r = true ∧ m = enc qs r) → cntB qs.length R = (L.length : Int)
  | [], _, R, L, hn, h => by
    simp only [List.length_nil, cntB, b2i]
    cases hr : R [] with
    | false =>
      have : L = [] := List.eq_nil_iff_forall_not_mem.mpr fun m hm => by
        obtain ⟨r, h1, h2, _⟩ := (h m).mp hm
        rw [List.length_eq_zero_iff.mp h1, hr] at h2; cases h2
      rw [this]; rfl
    | true =>
      have hp : L.Perm [[]] := (List.perm_ext_iff_of_nodup hn (by simp)).mpr fun m => by
        rw [h m, List.mem_singleton]
        constructor
        · rintro ⟨r, h1, _, rfl⟩; rfl
        · rintro rfl; exact ⟨[], rfl, hr, rfl⟩
      rw [hp.length_eq]; rfl
  | q :: qs, hp, R, L, hn, h => by
    obtain ⟨a, _, _⟩ := hp.head
    simp only [List.length_cons, cntB]
    have hx : ∀ b, ∃ L' : List (List Nat), L'.Nodup ∧ ∀ m, m ∈ L' ↔ ∃ r, r.length = qs.length ∧ R (b :: r) = true ∧ m = enc qs r := by
      intro b
      refine ⟨(L.filter fun m => m.head? == some (lt q b)).map List.tail, ?_, fun m => ?_⟩
      · unfold List.Nodup
        rw [List.pairwise_map]
        refine List.Pairwise.imp_of_mem (fun {x y} hx hy hne e => hne ?_) (hn.filter _)
        have hx := (List.mem_filter.mp hx).2
        have hy := (List.mem_filter.mp hy).2
        cases x with
        | nil => simp at hx
        | cons c x =>
          cases y with
          | nil => simp at hy
          | cons d y => simp at hx hy e; rw [hx, hy, e]
      · rw [List.mem_map]
        constructor
        · rintro ⟨x, hx, rfl⟩
          obtain ⟨h1, h2⟩ := List.mem_filter.mp hx
          obtain ⟨r, r1, r2, rfl⟩ := (h x).mp h1
          cases r with
          | nil => simp at r1
          | cons c r =>
            simp only [enc, List.head?_cons, beq_iff_eq, Option.some.injEq] at h2
            rw [lt_inj a] at h2
            subst h2
            exact ⟨r, by simpa using r1, r2, rfl⟩
        · rintro ⟨r, r1, r2, rfl⟩
          exact ⟨enc (q :: qs) (b :: r), List.mem_filter.mpr ⟨(h _).mpr ⟨b :: r, by simp [r1], r2, rfl⟩, by simp [enc]⟩, rfl⟩
    obtain ⟨L0, n0, h0⟩ := hx false
    obtain ⟨L1, n1, h1⟩ := hx true
    rw [cnt_len hp.tail _ L0 n0 h0, cnt_len hp.tail _ L1 n1 h1]
    have hperm : L.Perm (L0.map (q.1 :: ·) ++ L1.map (q.2 :: ·)) := by
      refine (List.perm_ext_iff_of_nodup hn ?_).mpr fun m => ?_
      · rw [List.nodup_append]
        refine ⟨nodup_map_cons _ n0, nodup_map_cons _ n1, fun x hx y hy e => ?_⟩
        obtain ⟨g, _, rfl⟩ := List.mem_map.mp hx
        obtain ⟨g', _, rfl⟩ := List.mem_map.mp hy
        exact a (List.cons.inj e).1
      · rw [h m, List.mem_append, List.mem_map, List.mem_map]
        constructor
        · rintro ⟨r, r1, r2, rfl⟩
          cases r with
          | nil => simp at r1
          | cons c r =>
            cases c
            · exact .inl ⟨_, (h0 _).mpr ⟨r, by simpa using r1, r2, rfl⟩, rfl⟩
            · exact .inr ⟨_, (h1 _).mpr ⟨r, by simpa using r1, r2, rfl⟩, rfl⟩
        · rintro (⟨g, hg, rfl⟩ | ⟨g, hg, rfl⟩)
          · obtain ⟨r, r1, r2, rfl⟩ := (h0 g).mp hg
            exact ⟨false :: r, by simp [r1], r2, rfl⟩
          · obtain ⟨r, r1, r2, rfl⟩ := (h1 g).mp hg
            exact ⟨true :: r, by simp [r1], r2, rfl⟩
    rw [hperm.length_eq, List.length_append, List.length_map, List.length_map]
    omega
end
end Mine
end
section
open PySem PySem.W PyProof.Rows PySem.SeqAt
set_option Elab.async false
set_option linter.all false
namespace Mine
/-! # plain: the law's facts -/
theorem count_two {α : Type} [BEq α] [LawfulBEq α] {l : List α} {p : Nat} (hp : p < l.length) : 1 < l.count l[p] ↔ ∃ j, ∃ hj : j < l.length, j ≠ p ∧ l[j] = l[p] := by
  have e : l.count l[p] = (l.take p).count l[p] + ((l.drop (p + 1)).count l[p] + 1) := by
    have h1 : l.count l[p] = (l.take p ++ l.drop p).count l[p] := by rw [List.take_append_drop]
    rw [h1, List.count_append, List.drop_eq_getElem_cons hp, List.count_cons_self]
  constructor
  · intro h
    have : 0 < (l.take p).count l[p] ∨ 0 < (l.drop (p + 1)).count l[p] := by omega
    rcases this with q | q
    · obtain ⟨j, hj, ej⟩ := List.mem_take_iff_getElem.mp (List.count_pos_iff.mp q)
      exact ⟨j, by omega, by omega, ej⟩
    · obtain ⟨j, hj, ej⟩ := List.mem_drop_iff_getElem.mp (List.count_pos_iff.mp q)
      exact ⟨p + 1 + j, by omega, by omega, ej⟩
  · rintro ⟨j, hj, hne, ej⟩
    rcases Nat.lt_or_gt_of_ne hne with q | q
    · have : 0 < (l.take p).count l[p] := List.count_pos_iff.mpr (List.mem_take_iff_getElem.mpr ⟨j, by omega, ej⟩)
      omega
    · have : 0 < (l.drop (p + 1)).count l[p] := List.count_pos_iff.mpr (List.mem_drop_iff_getElem.mpr ⟨j - (p + 1), by omega, by rw [← ej]; congr 1; omega⟩)
      omega
section
variable {ps : List (Nat × Nat)} {ns : List (List Nat)}
noncomputable def flagM (ns : List (List Nat)) (p : Nat) : Bool := decide (1 < (likesM ns).count ((likesM ns).getD p []))
noncomputable def twM (ns : List (List Nat)) : List Bool := (List.range 5).map (flagM ns)
theorem twM_len : (twM ns).length = 5 := by simp [twM]
noncomputable def likeM (ns : List (List Nat)) (p : Nat) : List Bool := ns.map fun n => n.getD p 0 == (ns.getD 0 []).getD p 0
theorem likes_get {p : Nat} (h : p < 5) : (likesM ns).getD p [] = likeM ns p := getD_range _ _ h
theorem likes_len : (likesM ns).length = 5 := by simp [likesM]
theorem flag_iff {p : Nat} (h : p < 5) : flagM ns p = true ↔ ∃ j, j < 5 ∧ j ≠ p ∧ likeM ns j = likeM ns p := by
  have hl : p < (likesM ns).length := by rw [likes_len]; exact h
  have e : ∀ j (hj : j < (likesM ns).length), (likesM ns)[j] = likeM ns j := by
    intro j hj
    have := likes_get (ns := ns) (p := j) (by rw [likes_len] at hj; exact hj)
    rw [List.getD_eq_getElem?_getD, List.getElem?_eq_getElem hj] at this
    exact this
  unfold flagM
  rw [decide_eq_true_eq, likes_get h, ← e p hl, count_two hl]
  constructor
  · rintro ⟨j, hj, hne, ej⟩
    rw [e j hj, e p hl] at ej
    rw [e p hl]
    exact ⟨j, by rw [likes_len] at hj; exact hj, hne, ej⟩
  · rintro ⟨j, hj, hne, ej⟩
    exact ⟨j, by rw [likes_len]; exact hj, hne, by rw [e j]; exact ej⟩
theorem row_pick {m : List Nat} (h : m.length = 5) : rowM ns m = pickN (twM ns) m := by
  match m, h with
  | [a, b, c, d, e], _ =>
    have : ∀ g : Nat → Bool, (((List.range 5).filter g).map fun p => [a, b, c, d, e].getD p 0) = pickN ((List.range 5).map g) [a, b, c, d, e] := by
      intro g
      show ((([0, 1, 2, 3, 4] : List Nat).filter g).map fun p => [a, b, c, d, e].getD p 0) = pickN [g 0, g 1, g 2, g 3, g 4] [a, b, c, d, e]
      simp only [List.filter]
      cases g 0 <;> cases g 1 <;> cases g 2 <;> cases g 3 <;> cases g 4 <;> rfl
    exact this (flagM ns)
theorem inN_iff {x} : inN ps ns x = true ↔ enc ps x ∈ ns := by simp [inN]
theorem twin_iff (h5 : ps.length = 5) (hp : PsOk ps) (hn : NsOk ps ns) {i j : Nat} (hi : i < 5) (hj : j < 5) : TwinB 5 (inN ps ns) i j ↔ likeM ns i = likeM ns j := by
  unfold likeM
  rw [List.map_inj_left]
  have eqv : ∀ x y p, x.length = 5 → y.length = 5 → p < 5 → (((enc ps x).getD p 0 == (enc ps y).getD p 0) = true ↔ x.getD p false = y.getD p false) := by
    intro x y p hx hy hpp
    rw [beq_iff_eq, enc_get p h5 hx hpp, enc_get p h5 hy hpp, lt_inj (hp _ (getD_ps (by omega))).1]
  cases hns : ns with
  | nil => exact ⟨fun _ m hm => (by cases hm), fun _ x y _ _ sx _ => (by rw [inN_iff] at sx; cases sx)⟩
  | cons n0 rest =>
    have hn0 : n0 ∈ ns := by rw [hns]; exact List.mem_cons_self
    obtain ⟨x0, hx0, e0⟩ := hn.bits n0 hn0
    rw [← hns]
    have g0 : ns.getD 0 [] = enc ps x0 := by rw [hns, ← e0]; rfl
    rw [g0]
    constructor
    · intro T m hm
      obtain ⟨x, hx, rfl⟩ := hn.bits m hm
      rw [Bool.eq_iff_iff, eqv x x0 i (by omega) (by omega) hi, eqv x x0 j (by omega) (by omega) hj]
      exact T x x0 (by omega) (by omega) (inN_iff.mpr hm) (inN_iff.mpr (e0 ▸ hn0))
    · intro h x y hx hy sx sy
      have h1 := h _ (inN_iff.mp sx)
      have h2 := h _ (inN_iff.mp sy)
      rw [Bool.eq_iff_iff, eqv _ x0 i (by omega) (by omega) hi, eqv _ x0 j (by omega) (by omega) hj] at h1 h2
      revert h1 h2
      generalize x.getD i false = a
      generalize x.getD j false = b
      generalize y.getD i false = c
      generalize y.getD j false = d
      generalize x0.getD i false = e
      generalize x0.getD j false = f
      revert a b c d e f; decide
theorem conv_ns (h5 : ps.length = 5) (hp : PsOk ps) (hn : NsOk ps ns) (hm : Medn 5 (inN ps ns)) : Conv (twM ns) (inN ps ns) := by
  refine conv_of (by rw [twM_len]; exact hm) fun i j hi hj hne ht T => ?_
  rw [twM_len] at hi hj T
  have := (twin_iff h5 hp hn hi hj).mp T
  have hf := (flag_iff (ns := ns) hi).mpr ⟨j, hj, hne.symm, this.symm⟩
  unfold twM at ht
  rw [getD_range _ _ hi, hf] at ht
  cases ht
theorem noE_ns (h5 : ps.length = 5) (hp : PsOk ps) (hn : NsOk ps ns) : noE (twM ns) (inN ps ns) := by
  refine noE_twin fun i hi ht => ?_
  rw [twM_len] at hi ⊢
  unfold twM at ht
  rw [getD_range _ _ hi] at ht
  obtain ⟨j, hj, hne, e⟩ := (flag_iff hi).mp ht
  exact ⟨j, hne, (twin_iff h5 hp hn hi hj).mpr e.symm⟩
/-- the rows of one side -/
theorem side_mem (h5 : ps.length = 5) (hp : PsOk ps) (hn : NsOk ps ns) {p : Nat} (hpp : p < 5) (b : Bool) (m : List Nat) :
    m ∈ ddG (sideM ns p (lt (ps.getD p (0, 0)) b)) ↔ ∃ r, r.length = (pickP (twM ns) ps).length ∧ rowB (twM ns) (sideB (inN ps ns) p b) r = true ∧ m = enc (pickP (twM ns) ps) r := by
  rw [mem_ddG]
  unfold sideM
  rw [List.mem_map]
  constructor
  · rintro ⟨n, hnm, rfl⟩
    obtain ⟨h1, h2⟩ := List.mem_filter.mp hnm
    obtain ⟨x, hx, rfl⟩ := hn.bits n h1
    rw [beq_iff_eq, enc_get p rfl hx (by omega), lt_inj (hp _ (getD_ps (by omega))).1] at h2
    refine ⟨pick (twM ns) x, ?_, rowB_iff.mpr ⟨x, by rw [twM_len]; omega, ?_, rfl⟩, ?_⟩
    · rw [pick_len (n := 5) twM_len (by omega), pickP_len (n := 5) twM_len h5]
    · simp only [sideB, Bool.and_eq_true, beq_iff_eq]; exact ⟨inN_iff.mpr h1, h2⟩
    · rw [row_pick (enc_len h5 (by omega)), pickN_enc (n := 5) twM_len h5 (by omega)]
  · rintro ⟨r, hr, hrow, rfl⟩
    obtain ⟨x, hx, hs, rfl⟩ := rowB_iff.mp hrow
    rw [twM_len] at hx
    simp only [sideB, Bool.and_eq_true, beq_iff_eq] at hs
    refine ⟨enc ps x, List.mem_filter.mpr ⟨inN_iff.mp hs.1, ?_⟩, ?_⟩
    · rw [beq_iff_eq, enc_get p h5 hx hpp, hs.2]
    · rw [row_pick (enc_len h5 hx), pickN_enc (n := 5) twM_len h5 hx]
theorem rowB_sides {tw : List Bool} {S p} {r : List Bool} : rowB tw S r = (rowB tw (sideB S p false) r || rowB tw (sideB S p true) r) := by
  rw [Bool.eq_iff_iff, Bool.or_eq_true, rowB_iff, rowB_iff, rowB_iff]
  constructor
  · rintro ⟨x, h, q, e⟩
    cases hc : x.getD p false
    · exact .inl ⟨x, h, by simp only [sideB, q, hc]; rfl, e⟩
    · exact .inr ⟨x, h, by simp only [sideB, q, hc]; rfl, e⟩
  · rintro (⟨x, h, q, e⟩ | ⟨x, h, q, e⟩) <;> simp only [sideB, Bool.and_eq_true] at q <;> exact ⟨x, h, q.1, e⟩
theorem len_inter {a b : List (List Nat)} (ha : a.Nodup) (hb : b.Nodup) : (a.filter b.contains).length = (b.filter a.contains).length := by
  refine List.Perm.length_eq ((List.perm_ext_iff_of_nodup (ha.filter _) (hb.filter _)).mpr fun m => ?_)
  simp only [List.mem_filter, List.contains_iff_mem]
  exact And.comm
theorem facts_of (h5 : ps.length = 5) (hp : PsOk ps) (hn : NsOk ps ns) (hm : Medn 5 (inN ps ns)) {p : Nat} (hpp : p < 5) {a b : List (List Nat)} (ha : a = ddG (sideM ns p (ps.getD p (0, 0)).1)) (hb : b = ddG (sideM ns p (ps.getD p (0, 0)).2)) :
    [sumM (facesM ns ps) p (ps.getD p (0, 0)).1, sumM (facesM ns ps) p (ps.getD p (0, 0)).2, sumM (facesM ns ps) p 63] = [(a.length : Int), (b.length : Int), -((a.filter b.contains).length : Int)] := by
  have C := conv_ns h5 hp hn hm
  have N := noE_ns h5 hp hn
  have hm' : Medn (twM ns).length (inN ps ns) := by rw [twM_len]; exact hm
  have hlt : p < (twM ns).length := by rw [twM_len]; exact hpp
  have hq : (pickP (twM ns) ps).length = nT (twM ns) := pickP_len (n := 5) twM_len h5
  have hpk : PsOk (pickP (twM ns) ps) := pickP_ok hp
  have la : chiB 5 (sideB (inN ps ns) p false) = (a.length : Int) := by
    have := chi_rows (twM ns) _ (hm'.at hlt false) (C.at hlt false) (N.at p false)
    rw [twM_len] at this
    rw [this, ← hq]
    exact cnt_len hpk _ a (by rw [ha]; exact nodup_ddG _) fun m => by rw [ha]; exact side_mem h5 hp hn hpp false m
  have lb : chiB 5 (sideB (inN ps ns) p true) = (b.length : Int) := by
    have := chi_rows (twM ns) _ (hm'.at hlt true) (C.at hlt true) (N.at p true)
    rw [twM_len] at this
    rw [this, ← hq]
    exact cnt_len hpk _ b (by rw [hb]; exact nodup_ddG _) fun m => by rw [hb]; exact side_mem h5 hp hn hpp true m
  have lall : chiB 5 (inN ps ns) = (a.length : Int) + b.length - (a.filter b.contains).length := by
    have h1 := chi_rows (twM ns) _ hm' C N
    have h2 := chi_rows (twM ns) _ (hm'.at hlt false) (C.at hlt false) (N.at p false)
    have h3 := chi_rows (twM ns) _ (hm'.at hlt true) (C.at hlt true) (N.at p true)
    rw [twM_len] at h1 h2 h3
    rw [h1, cntB_congr _ (fun r _ => rowB_sides (p := p)), cntB_or, ← h2, ← h3, la, lb]
    congr 1
    rw [← hq]
    refine cnt_len hpk _ _ ((ha ▸ nodup_ddG _ : a.Nodup).filter _) fun m => ?_
    rw [List.mem_filter, List.contains_iff_mem, ha, hb]
    rw [show (ps.getD p (0, 0)).1 = lt (ps.getD p (0, 0)) false from rfl, show (ps.getD p (0, 0)).2 = lt (ps.getD p (0, 0)) true from rfl, side_mem h5 hp hn hpp, side_mem h5 hp hn hpp]
    constructor
    · rintro ⟨⟨r, r1, r2, e⟩, ⟨r', r1', r2', e'⟩⟩
      have := enc_inj hpk rfl r1 r1' (e.symm.trans e')
      subst this
      exact ⟨r, r1, by rw [r2, r2']; rfl, e⟩
    · rintro ⟨r, r1, r2, e⟩
      rw [Bool.and_eq_true] at r2
      exact ⟨⟨r, r1, r2.1, e⟩, ⟨r, r1, r2.2, e⟩⟩
  have hps : p < ps.length := by omega
  have q1 := sm_side (S := inN ps ns) hp hps false
  have q2 := sm_side (S := inN ps ns) hp hps true
  have q3 := sm_quest (S := inN ps ns) hp hps
  rw [h5, la] at q1
  rw [h5, lb] at q2
  rw [h5, la, lb, lall] at q3
  rw [sumM_eq h5 hp hn, sumM_eq h5 hp hn, sumM_eq h5 hp hn, q3]
  rw [show (ps.getD p (0, 0)).1 = lt (ps.getD p (0, 0)) false from rfl, show (ps.getD p (0, 0)).2 = lt (ps.getD p (0, 0)) true from rfl, q1, q2]
  congr 3
  omega
theorem cmp_of {A B : List (List Nat)} {a b : List (List Nat)} (ha : a = ddG A) (hb : b = ddG B) : cmpM B A = decide ((a.length : Int) + b.length = 2 * (a.filter b.contains).length) := by
  have na : a.Nodup := ha ▸ nodup_ddG _
  have nb : b.Nodup := hb ▸ nodup_ddG _
  have ma : ∀ x, x ∈ a ↔ x ∈ A := fun x => ha ▸ mem_ddG A x
  have mb : ∀ x, x ∈ b ↔ x ∈ B := fun x => hb ▸ mem_ddG B x
  have e := len_inter na nb
  have l1 : (a.filter b.contains).length ≤ a.length := List.length_filter_le _ _
  have l2 : (b.filter a.contains).length ≤ b.length := List.length_filter_le _ _
  have s1 : (a.filter b.contains).length = a.length ↔ ∀ x ∈ A, x ∈ B := by
    rw [List.length_filter_eq_length_iff]
    simp only [List.contains_iff_mem, ma, mb]
  have s2 : (b.filter a.contains).length = b.length ↔ ∀ x ∈ B, x ∈ A := by
    rw [List.length_filter_eq_length_iff]
    simp only [List.contains_iff_mem, ma, mb]
  unfold cmpM
  rw [Bool.eq_iff_iff, Bool.and_eq_true, decide_eq_true_eq, decide_eq_true_eq, decide_eq_true_eq, ← s1, ← s2]
  omega
end
/-! ### the script's names -/
noncomputable def bitsM (x : Int) : List Bool := (List.range 5).map fun p => decide (bitN x p ≠ 0)
theorem draw_enc {ps : List (Nat × Nat)} (h5 : ps.length = 5) (x : Int) : drawM ps x = enc ps (bitsM x) := by
  rw [enc_range h5 (by simp [bitsM])]
  unfold drawM
  refine List.map_congr_left fun p hp => ?_
  unfold bitsM
  rw [getD_range _ _ (List.mem_range.mp hp)]
  by_cases h : bitN x p = 0 <;> simp [h, lt]
theorem prs_mod (x : Int) : prs x = prs (x.fmod 12) := by
  unfold prs
  refine List.map_congr_left fun p _ => ?_
  have e : ∀ k : Int, (x + k).fmod 12 = (x.fmod 12 + k).fmod 12 := by
    intro k
    rw [Int.fmod_eq_emod_of_nonneg _ (by decide), Int.fmod_eq_emod_of_nonneg _ (by decide), Int.fmod_eq_emod_of_nonneg _ (by decide)]
    omega
  rw [e, show x + 2 * (p : Int) + 1 = x + (2 * (p : Int) + 1) by omega, e, show x.fmod 12 + 2 * (p : Int) + 1 = x.fmod 12 + (2 * (p : Int) + 1) by omega]
theorem prs_12 : ∀ r ∈ List.range 12, ∀ q ∈ prs ((r : Nat) : Int), q.1 ≠ q.2 ∧ q.1 ≠ 63 ∧ q.2 ≠ 63 := by decide +kernel
theorem prs_ok (x : Int) : PsOk (prs x) := by
  rw [prs_mod]
  have h1 : 0 ≤ x.fmod 12 := by rw [Int.fmod_eq_emod_of_nonneg _ (by decide)]; omega
  have h2 : x.fmod 12 < 12 := by rw [Int.fmod_eq_emod_of_nonneg _ (by decide)]; omega
  obtain ⟨r, hr⟩ := Int.eq_ofNat_of_zero_le h1
  rw [hr]
  exact prs_12 r (List.mem_range.mpr (by omega))
theorem prs_len5 (x : Int) : (prs x).length = 5 := by simp [prs]
theorem quo_iff {f : List Nat} : (quo f == f) = true ↔ 63 ∉ f := by
  rw [beq_iff_eq]
  unfold quo
  split
  · rename_i h
    refine ⟨fun e => absurd (congrArg List.length e) (by simp; omega), fun q => absurd h q⟩
  · rename_i h; exact ⟨fun _ => h, fun _ => rfl⟩
theorem lawFacts (x0 : Int) (xs : List Int) (hl : xs.length = 4) : LawFacts x0 xs := by
  have h5 := prs_len5 x0
  have hp := prs_ok x0
  match xs, hl with
  | [y1, y2, y3, y4], _ =>
  have hd : [y1, y2, y3, y4].map (drawM (prs x0)) = [enc (prs x0) (bitsM y1), enc (prs x0) (bitsM y2), enc (prs x0) (bitsM y3), enc (prs x0) (bitsM y4)] := by
    simp only [List.map_cons, List.map_nil, draw_enc h5]
  have hb : ∀ y, (bitsM y).length = 5 := fun y => by simp [bitsM]
  have T := fun f => told_iff hp h5 (hb y1) (hb y2) (hb y3) (hb y4) f
  rw [← hd] at T
  generalize hdd : toldM ([y1, y2, y3, y4].map (drawM (prs x0))) = told at T
  have hn : NsOk (prs x0) (ddG told) := by
    refine ⟨nodup_ddG _, fun m hm => ?_⟩
    obtain ⟨k, _, rfl⟩ := (T m).mp ((mem_ddG _ _).mp hm)
    exact ⟨_, by rw [nmB_len, h5], rfl⟩
  have hm : Medn 5 (inN (prs x0) (ddG told)) := by
    intro x y z h1 h2 h3 sx sy sz
    rw [inN_iff, mem_ddG, T] at *
    obtain ⟨a, ha, ea⟩ := sx
    obtain ⟨b, hbb, eb⟩ := sy
    obtain ⟨c, hc, ec⟩ := sz
    have := enc_inj hp h5 h1 nmB_len ea
    have := enc_inj hp h5 h2 nmB_len eb
    have := enc_inj hp h5 h3 nmB_len ec
    subst x y z
    exact ⟨majN a b c, g1212 a ha b hbb c hc, by rw [nmB_med]⟩
  refine ⟨?_, ?_, ?_⟩
  · intro f
    rw [hdd, List.mem_filter, quo_iff, faces_iff h5 hp hn, List.mem_filter]
    have hcorn : f ∈ allP (prs x0) → 63 ∉ f → ∀ m, m ∈ corn (prs x0) f ↔ m = f := by
      intro hf h63 m
      have hlf := (allP_mem.mp hf).1
      rw [corn_mem rfl hlf]
      constructor
      · rintro ⟨l1, l2⟩
        refine list_ext_getD l1 hlf fun i hi => ?_
        rcases l2 i hi with ⟨q, _⟩ | ⟨_, q⟩
        · refine absurd ?_ h63
          rw [List.getD_eq_getElem?_getD, List.getElem?_eq_getElem (by omega)] at q
          exact q ▸ List.getElem_mem _
        · exact q
      · rintro rfl
        refine ⟨hlf, fun i hi => .inr ⟨fun q => h63 ?_, rfl⟩⟩
        rw [List.getD_eq_getElem?_getD, List.getElem?_eq_getElem (by omega)] at q
        exact q ▸ List.getElem_mem _
    constructor
    · rintro ⟨⟨h1, h2⟩, h3⟩
      exact (mem_ddG _ _).mp ((full_iff hp h1).mp h2 f ((hcorn h1 h3 f).mpr rfl))
    · intro h
      obtain ⟨k, _, rfl⟩ := (T f).mp h
      have hlen := enc_len h5 (nmB_len (n := 5) (b1 := bitsM y1) (b2 := bitsM y2) (b3 := bitsM y3) (b4 := bitsM y4) (m := k))
      have ha : enc (prs x0) (nmB 5 (bitsM y1) (bitsM y2) (bitsM y3) (bitsM y4) k) ∈ allP (prs x0) :=
        allP_mem.mpr ⟨by omega, fun p hpp => .inr ⟨_, enc_get p h5 nmB_len (by omega)⟩⟩
      have h63 : 63 ∉ enc (prs x0) (nmB 5 (bitsM y1) (bitsM y2) (bitsM y3) (bitsM y4) k) := by
        intro q
        obtain ⟨i, hi, e⟩ := List.mem_iff_getElem.mp q
        have := enc_get (ps := prs x0) i h5 (nmB_len (n := 5) (b1 := bitsM y1) (b2 := bitsM y2) (b3 := bitsM y3) (b4 := bitsM y4) (m := k)) (by omega)
        rw [List.getD_eq_getElem?_getD, List.getElem?_eq_getElem hi] at this
        simp only [Option.getD_some] at this
        exact lt_63 (hp _ (getD_ps (by omega))) _ (this.symm.trans e)
      exact ⟨⟨ha, (full_iff hp ha).mpr fun m hmm => by rw [(hcorn ha h63 m).mp hmm]; exact (mem_ddG _ _).mpr h⟩, h63⟩
  · intro p hpp ns hns q hq a b hA hB
    rw [hdd] at hns
    subst hns hq
    exact facts_of h5 hp hn hm hpp hA hB
  · intro p hpp ns hns q hq a b hA hB
    exact cmp_of hA hB
end Mine
end
section
open PySem PySem.W PyProof.Rows PySem.SeqAt
set_option Elab.async false
set_option linter.all false
namespace Mine
theorem fit_of_ints {V : LG} : ∀ {vs : List Value} {ns : List Int}, IntsAre vs ns → Fit V (ns.map I) vs
  | _, _, .nil => .nil
  | _, _, .cons n t h => .cons ⟨t, rfl⟩ (fit_of_ints h)
theorem okCaller : OkA 6 callerA := ⟨rfl, by decide +kernel, by decide +kernel⟩

theorem nums_mem {scr : List Int} {x : Int} (h : x ∈ numsM scr) : 0 ≤ x ∧ x < 10 ^ 9 := by
  unfold numsM at h
  obtain ⟨y, _, rfl⟩ := List.mem_map.mp h
  rw [Int.fmod_eq_emod_of_nonneg _ (by decide)]
  exact ⟨Int.emod_nonneg _ (by decide), Int.emod_lt_of_pos _ (by decide)⟩
theorem nums_len (scr : List Int) : (numsM scr).length = 5 := by
  simp [numsM]
theorem nums_split (scr : List Int) : ∃ x0 xs, numsM scr = x0 :: xs ∧ xs.length = 4 ∧ (0 ≤ x0 ∧ x0 < 10 ^ 9) ∧ ∀ x ∈ xs, 0 ≤ x ∧ x < (10 : Int) ^ 9 := by
  have h := nums_len scr
  cases e : numsM scr with
  | nil => rw [e] at h; simp at h
  | cons x0 xs =>
    rw [e] at h
    exact ⟨x0, xs, rfl, by simpa using h, nums_mem (e ▸ List.mem_cons_self), fun x hx => nums_mem (e ▸ List.mem_cons_of_mem _ hx)⟩
theorem ns_some_of {K : Frag} {h : Heap} {N : Addr} {mg : Str → Option Value} {n : Str} {v : Value} (X : K.In h) (G : h.Ns N mg) (e : nsIn K N n = some (some v)) : mg n = some v := by
  obtain ⟨o, es, ep, ho, hd, _, hf⟩ := G
  unfold nsIn at e
  split at e
  · rename_i c d es' n' sl q
    have := X _ _ q
    rw [ho] at this
    cases this
    cases hd
    split at e
    · rename_i he
      rw [← hf]
      unfold nsFind findBy
      rw [← Array.find?_toList, he]
      simpa using e
    · (split at e <;> cases e)
  · cases e
set_option maxRecDepth 100000 in
set_option maxHeartbeats 4000000 in
theorem joined (hlast : ∀ (w : World) A' env sc, env.scope = sc → OkA 5 A' → A' = callerA.deeper env → env.frame = some env.locals → LastOk w A' env sc) : PySem.Challenge.rw_kt0016_01.Holds := by
  refine hk rfl rfl rfl ?_
  intro w s₀ s₁ mg mb G Y fa o pm cd doc dV kV ho hd hcd hD hmg hg args vals as hpre hlay hrd hwl hlo
  have KX : (KF w.params).In s₁.heap := Y
  have X := (Ground.X G).1
  have V := (Ground.X G).2
  refine Ground.open G ?_
  intro T B D TE TW
  have hfa : fa = 128 := by
    have h1 := ns_some_of (n := Str.ofString "law") KX T.g (by rfl)
    have h2 := hmg.symm.trans h1
    cases h2; rfl
  clear hd hcd hD hmg
  wrow_args hpre hlay hrd hwl hlo
  rename_i scr hs hlay0 hL hr1 hl2 as1 as2 D0 vs as3 hLi ra w1 r0 hI hr hc1 hc2
  subst hfa
  have hWd : Wd (KK w) s₁.heap := ⟨KX, T.nolimit, ⟨mb, T.b, T.builtins⟩⟩
  have w1' : ∃ ds, Well w.params s₁.heap (Value.ref D0) (.list ds) := ⟨_, by simpa only [ofPy] using w1⟩
  obtain ⟨ds, w1'⟩ := w1'
  have hget : s₁.heap.get? D0 = some (lobj vs 0) := by
    cases w1' with
    | list hg' _ =>
      obtain ⟨o', ho', hc', n', hd'⟩ := hLi
      rw [hg'] at ho'
      cases ho'
      cases hd'
      exact hg'
  obtain ⟨x0, xs, hnums, hl4, hx0, hxs⟩ := nums_split scr
  show wpAny (model Challenge.rw_kt0016_01.row.prog w) callerA (call (.ref 128) [Value.ref D0]) _ _ s₁
  have hV : Sub (put (fun _ => none) D0 (lobj vs 0)) s₁.heap := Sub.put (fun _ _ e => by cases e) hget (pl_lobj vs 0)
  refine law_ok (by omega) hnums hl4 hx0 hxs (lawFacts x0 xs hl4) callerA (hlast w) s₁.heap (put (fun _ => none) D0 (lobj vs 0)) [.ref D0] okCaller hWd (.cons ⟨D0, vs, 0, rfl, put_self _ _ _, fit_of_ints hI⟩ .nil) hV s₁ _ _ (Ext.refl _) fun r h' tk V' g p => ?_
  obtain rfl := p
  exact GoodW.toG ⟨.inl ⟨.bool true, .bool true, [], rfl, (raisesW_false (by wrow_none_raised)), .bool true, (postW_of (by wrow_shape) (by wtm_val) (by str_meet; first | done | w_fin)), (unshared_nil)⟩, g.ext, rfl, hg⟩
end Mine
end
set_option maxRecDepth 100000 in
set_option maxHeartbeats 8000000 in
theorem PySem.Challenge.cw_kt0016_01_holds : PySem.Challenge.rw_kt0016_01.Holds :=
  Mine.joined Mine.last_ok
